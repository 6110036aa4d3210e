import PyProof.Rows.All
import Wide.All
import OpenK.AllK
import Wide.FinOn
import PySem.Challenge.RW_ti0002_02
set_option Elab.async false
section
open PySem PySem.W PyProof.Rows PySem.Calls
set_option autoImplicit false
set_option linter.unusedVariables false
namespace Mine

/-! ### abstract values -/
inductive PV where
  | none | bool (b : Bool) | int (i : Int) | str (s : Str) | ref (a : Addr)

def PV.Is : PV → Value → Prop
  | .none, v => v = Value.none
  | .bool b, v => v = Value.bool b
  | .int i, v => ∃ t, v = Value.int i t
  | .str x, v => ∃ t, v = Value.str x t
  | .ref a, v => v = Value.ref a

inductive All2 {α β : Type} (R : α → β → Prop) : List α → List β → Prop
  | nil : All2 R [] []
  | cons {a : α} {b : β} {as : List α} {bs : List β} : R a b → All2 R as bs → All2 R (a :: as) (b :: bs)

abbrev Led := List (Addr × Obj)
abbrev Sto := List (Option PV)
abbrev upd (s : Shared) (h : Heap) (tk : Nat) : Shared := { s with heap := h, toks := tk }
abbrev NoE : Value → Shared → Prop := fun _ _ => False

structure GC where
  prog : Program
  w : World
  K : Frag
  p : Program
  loose : List Str
  mean : ExcName → Option Value
  mg : Str → Option Value
  mb : Str → Option Value

abbrev GC.M (G : GC) : Model := model G.prog G.w

structure Act (G : GC) where
  A : Around
  fenv : Env
  env : Env
  L : Addr
  h0 : Heap
  A0 : Around
  base : Heap
  outer : List Env
  names : List Str
  cells : List Addr
  B : Below A0 base outer h0
  X : G.K.In h0
  T : Top G.p G.loose G.mean G.mg G.mb h0
  hA : A.frames = some (fenv :: outer)
  hf : fenv.frame = some L
  hk : fenv.scope.kind = .function
  hek : env.scope.kind = .function
  hhan : A.handled = none
  hglob : env.globals = mainGlobals
  hbi : env.builtins = builtinsNs
  hnd : names.Nodup
  oL : Obj := { cls := .none }

inductive Holds {G : GC} (c : Act G) (mf : Str → Option Value) (C F : Led) (x : Str) (v : Value) : Prop
  | loc (h1 : c.env.kindOf x = some .local) (h2 : c.env.locals = c.L) (h3 : mf x = some v)
  | comp (h1 : c.env.kindOf x = some .local) (o : Obj) (m : Str → Option Value) (h2 : (c.env.locals, o) ∈ F)
      (h3 : ∀ h : Heap, h.get? c.env.locals = some o → h.Ns c.env.locals m) (h4 : m x = some v)
  | cell (h1 : c.env.kindOf x = some .cell) (a : Addr) (o : Obj) (h2 : c.env.cells.lookup x = some a) (h3 : (a, o) ∈ C ++ F) (h4 : o.data = .cell (some v))

def VarsOK {G : GC} (c : Act G) (mf : Str → Option Value) (C F : Led) (σ : Sto) : Prop :=
  ∀ (i : Nat) (x : Str) (pv : PV), c.names[i]? = some x → σ[i]? = some (some pv) → ∃ v, pv.Is v ∧ Holds c mf C F x v

/-- what stands at the owner's namespace, if it is not this activation's; the cells are cells -/
def FzOK {G : GC} (c : Act G) (h : Heap) : Prop := (c.env.locals ≠ c.L → h.get? c.L = some c.oL) ∧ ∀ a ∈ c.cells, ∃ o v, h.get? a = some o ∧ o.data = .cell v
theorem FzOK.of {G : GC} {c : Act G} {h h' : Heap} (H : FzOK c h) (k1 : ∀ o, h.get? c.L = some o → h'.get? c.L = some o) (k2 : ∀ a ∈ c.cells, ∀ o, h.get? a = some o → h'.get? a = some o) : FzOK c h' :=
  ⟨fun q => k1 _ (H.1 q), fun a ha => let ⟨o, v, e, d⟩ := H.2 a ha; ⟨o, v, k2 a ha o e, d⟩⟩

structure St {G : GC} (c : Act G) (σ : Sto) (O F : Led) (s : Shared) : Prop where
  ex : ∃ (mf : Str → Option Value) (C : Led), Fr c.h0 c.L s.heap mf ∧ News c.h0 c.L s.heap (C ++ (O ++ F)) ∧ C.map (·.1) = c.cells ∧ VarsOK c mf C F σ
  nd : (c.cells ++ (O ++ F).map (·.1)).Nodup
  tk : 0 < s.toks
  fz : FzOK c s.heap

abbrev VPost := PV → Led → Led → Prop
abbrev BPost := Bool → Led → Led → Prop

inductive PF where
  | next | brk | cont | ret (v : PV)

def PF.Is : PF → Flow → Prop
  | .next, f => f = .next
  | .brk, f => f = .brk
  | .cont, f => f = .cont
  | .ret pv, f => ∃ v, f = .ret v ∧ pv.Is v

abbrev FPost := PF → Sto → Led → Led → Prop

/-- a predicate transformer does what it should from every state that is so -/
def TG {G : GC} {β : Type} (c : Act G) (σ : Sto) (O F : Led) (T : (β → Shared → Prop) → Shared → Prop) (R : β → Sto → Led → Led → Prop) : Prop :=
  ∀ (s : Shared) (Q : β → Shared → Prop), St c σ O F s →
    (∀ b σ' O' N h tk, R b σ' O' N → St c σ' O' (N ++ F) (upd s h tk) → s.toks ≤ tk → Q b (upd s h tk)) → T Q s

abbrev RV (σ : Sto) (R : VPost) : Value → Sto → Led → Led → Prop := fun v σ' O' N => σ' = σ ∧ ∃ pv, R pv O' N ∧ pv.Is v
abbrev RB (σ : Sto) (R : BPost) : Bool → Sto → Led → Led → Prop := fun v σ' O' N => σ' = σ ∧ R v O' N
abbrev RF (R : FPost) : Flow → Sto → Led → Led → Prop := fun v σ' O' N => ∃ pf, R pf σ' O' N ∧ PF.Is pf v

def TV {G : GC} (c : Act G) (σ : Sto) (O F : Led) (t : Sem Value) (R : VPost) : Prop := TG c σ O F (fun Q s => wpAny G.M c.A t Q NoE s) (RV σ R)
def TB {G : GC} (c : Act G) (σ : Sto) (O F : Led) (t : Sem Bool) (R : BPost) : Prop := TG c σ O F (fun Q s => wpAny G.M c.A t Q NoE s) (RB σ R)
def TF {G : GC} (c : Act G) (σ : Sto) (O F : Led) (t : Sem Flow) (R : FPost) : Prop := TG c σ O F (fun Q s => wpAny G.M c.A t Q NoE s) (RF R)

abbrev Ev {G : GC} (c : Act G) (σ : Sto) (O F : Led) (e : Expr) (R : VPost) : Prop := TV c σ O F (eval e c.env) R
abbrev Tst {G : GC} (c : Act G) (σ : Sto) (O F : Led) (e : Expr) (R : BPost) : Prop := TB c σ O F (PySem.isTrue e c.env (eval e c.env)) R

abbrev just (O : Led) (pv : PV) : VPost := fun r O' N => r = pv ∧ O' = O ∧ N = []
abbrev justB (O : Led) (b : Bool) : BPost := fun r O' N => r = b ∧ O' = O ∧ N = []
abbrev Evp {G : GC} (c : Act G) (σ : Sto) (O F : Led) (e : Expr) (pv : PV) : Prop := Ev c σ O F e (just O pv)
abbrev TVp {G : GC} (c : Act G) (σ : Sto) (O F : Led) (t : Sem Value) (pv : PV) : Prop := TV c σ O F t (just O pv)
abbrev Tstp {G : GC} (c : Act G) (σ : Sto) (O F : Led) (e : Expr) (b : Bool) : Prop := Tst c σ O F e (justB O b)
abbrev TBp {G : GC} (c : Act G) (σ : Sto) (O F : Led) (t : Sem Bool) (b : Bool) : Prop := TB c σ O F t (justB O b)
abbrev Ex {G : GC} (c : Act G) (σ : Sto) (O F : Led) (ss : List Stmt) (P : FPost) : Prop := TF c σ O F (execs ss c.env) P
abbrev Ex1 {G : GC} (c : Act G) (σ : Sto) (O F : Led) (st : Stmt) (P : FPost) : Prop := TF c σ O F (exec st c.env) P

/-! ### state lemmas -/
section
variable {G : GC} {c : Act G} {σ : Sto} {O F : Led} {s : Shared}

theorem cells_at {h : Heap} {C X : Led} (N : News c.h0 c.L h (C ++ X)) (hC : C.map (·.1) = c.cells) {a : Addr} (ha : a ∈ c.cells) : a ≠ c.L ∧ c.h0.get? a = none ∧ ∃ o, (a, o) ∈ C ∧ h.get? a = some o := by
  rw [← hC] at ha
  obtain ⟨p, hp, rfl⟩ := List.mem_map.mp ha
  have := N p (List.mem_append_left _ hp)
  exact ⟨this.2.1, this.2.2, p.2, hp, this.1⟩

theorem news_sub {h₀ h : Heap} {L : Addr} {n n' : Led} (N : News h₀ L h n) (hs : ∀ p ∈ n', p ∈ n) : News h₀ L h n' := fun p hp => N p (hs p hp)

theorem Holds.mono {mf : Str → Option Value} {C F F' : Led} {x : Str} {v : Value} (h : Holds c mf C F x v) (hs : ∀ p ∈ F, p ∈ F') : Holds c mf C F' x v := by
  cases h with
  | loc h1 h2 h3 => exact .loc h1 h2 h3
  | comp h1 o m h2 h3 h4 => exact .comp h1 o m (hs _ h2) h3 h4
  | cell h1 a o h2 h3 h4 => exact .cell h1 a o h2 (by
      rcases List.mem_append.mp h3 with h | h
      · exact List.mem_append_left _ h
      · exact List.mem_append_right _ (hs _ h)) h4

theorem VarsOK.mono {mf : Str → Option Value} {C F F' : Led} {σ : Sto} (h : VarsOK c mf C F σ) (hs : ∀ p ∈ F, p ∈ F') : VarsOK c mf C F' σ :=
  fun i x pv h1 h2 => let ⟨v, h3, h4⟩ := h i x pv h1 h2; ⟨v, h3, h4.mono hs⟩

theorem frame_keeps {h₀ h h' : Heap} {L : Addr} {m : Str → Option Value} (F : Fr h₀ L h m) (k : ∀ b o, h.get? b = some o → h'.get? b = some o) : Fr h₀ L h' m :=
  ⟨F.ns.keeps k, fun b o e => k b o (F.keep b o e), F.above⟩
theorem news_keeps {h₀ h h' : Heap} {L : Addr} {n : Led} (N : News h₀ L h n) (k : ∀ b o, h.get? b = some o → h'.get? b = some o) : News h₀ L h' n :=
  fun p hp => ⟨k _ _ (N p hp).1, (N p hp).2⟩

/-- the heap has only grown -/
theorem St.keeps (S : St c σ O F s) {h : Heap} {tk : Nat} (k : ∀ b o, s.heap.get? b = some o → h.get? b = some o) (ht : s.toks ≤ tk) : St c σ O F (upd s h tk) := by
  obtain ⟨⟨mf, C, h1, h2, h3, h4⟩, h5, h6, h7⟩ := S
  exact ⟨⟨mf, C, frame_keeps h1 k, news_keeps h2 k, h3, h4⟩, h5, Nat.lt_of_lt_of_le h6 ht, h7.of (fun _ e => k _ _ e) fun _ _ _ e => k _ _ e⟩

theorem St.toks (S : St c σ O F s) {tk : Nat} (ht : s.toks ≤ tk) : St c σ O F (upd s s.heap tk) := S.keeps (fun _ _ e => e) ht

theorem St.get (S : St c σ O F s) {a : Addr} {o : Obj} (h : (a, o) ∈ O ++ F) : s.heap.get? a = some o := by
  obtain ⟨⟨mf, C, h1, h2, h3, h4⟩, h5, h6, h7⟩ := S
  exact (h2 _ (List.mem_append_right _ h)).1

theorem TG.mono {β : Type} {T : (β → Shared → Prop) → Shared → Prop} {R R' : β → Sto → Led → Led → Prop} (h : TG c σ O F T R) (hR : ∀ b σ' O' N, R b σ' O' N → R' b σ' O' N) : TG c σ O F T R' :=
  fun s Q S k => h s Q S fun b σ' O' N hh tk r S' ht => k b σ' O' N hh tk (hR _ _ _ _ r) S' ht

theorem TG.of {β : Type} {T T' : (β → Shared → Prop) → Shared → Prop} {R : β → Sto → Led → Led → Prop} (h : TG c σ O F T R) (hT : ∀ Q s, T Q s → T' Q s) : TG c σ O F T' R :=
  fun s Q S k => hT _ _ (h s Q S k)

theorem TG.bind {β γ : Type} {T : (β → Shared → Prop) → Shared → Prop} {T2 : β → (γ → Shared → Prop) → Shared → Prop} {R : β → Sto → Led → Led → Prop} {R2 : γ → Sto → Led → Led → Prop}
    (h : TG c σ O F T R) (k : ∀ b σ1 O1 N1, R b σ1 O1 N1 → TG c σ1 O1 (N1 ++ F) (T2 b) fun g σ2 O2 N2 => R2 g σ2 O2 (N2 ++ N1)) :
    TG c σ O F (fun Q s => T (fun b s1 => T2 b Q s1) s) R2 := by
  intro s Q S q
  refine h s _ S fun b σ1 O1 N1 h1 tk1 r1 S1 ht1 => ?_
  refine k b σ1 O1 N1 r1 _ Q S1 fun g σ2 O2 N2 h2 tk2 r2 S2 ht2 => ?_
  exact q g σ2 O2 (N2 ++ N1) h2 tk2 r2 (by rw [List.append_assoc]; exact S2) (Nat.le_trans ht1 ht2)

theorem TV.bindG {γ : Type} {t : Sem Value} {R : VPost} {T2 : Value → (γ → Shared → Prop) → Shared → Prop} {R2 : γ → Sto → Led → Led → Prop}
    (h : TV c σ O F t R) (k : ∀ v pv O1 N1, R pv O1 N1 → pv.Is v → TG c σ O1 (N1 ++ F) (T2 v) fun g σ2 O2 N2 => R2 g σ2 O2 (N2 ++ N1)) :
    TG c σ O F (fun Q s => wpAny G.M c.A t (fun v s1 => T2 v Q s1) NoE s) R2 :=
  TG.bind (T := fun Q s => wpAny G.M c.A t Q NoE s) h fun b σ1 O1 N1 ⟨e, pv, r, i⟩ => by subst e; exact k b pv O1 N1 r i

theorem TV.bindp {γ : Type} {t : Sem Value} {pv : PV} {T2 : Value → (γ → Shared → Prop) → Shared → Prop} {R2 : γ → Sto → Led → Led → Prop}
    (h : TVp c σ O F t pv) (k : ∀ v, pv.Is v → TG c σ O F (T2 v) R2) :
    TG c σ O F (fun Q s => wpAny G.M c.A t (fun v s1 => T2 v Q s1) NoE s) R2 :=
  TV.bindG h fun v pv' O1 N1 ⟨e1, e2, e3⟩ i => by subst e1 e2 e3; simpa using k v i

theorem TB.bindG {γ : Type} {t : Sem Bool} {R : BPost} {T2 : Bool → (γ → Shared → Prop) → Shared → Prop} {R2 : γ → Sto → Led → Led → Prop}
    (h : TB c σ O F t R) (k : ∀ v O1 N1, R v O1 N1 → TG c σ O1 (N1 ++ F) (T2 v) fun g σ2 O2 N2 => R2 g σ2 O2 (N2 ++ N1)) :
    TG c σ O F (fun Q s => wpAny G.M c.A t (fun v s1 => T2 v Q s1) NoE s) R2 :=
  TG.bind (T := fun Q s => wpAny G.M c.A t Q NoE s) h fun b σ1 O1 N1 ⟨e, r⟩ => by subst e; exact k b O1 N1 r

theorem TB.bindp {γ : Type} {t : Sem Bool} {b : Bool} {T2 : Bool → (γ → Shared → Prop) → Shared → Prop} {R2 : γ → Sto → Led → Led → Prop}
    (h : TBp c σ O F t b) (k : TG c σ O F (T2 b) R2) :
    TG c σ O F (fun Q s => wpAny G.M c.A t (fun v s1 => T2 v Q s1) NoE s) R2 :=
  TB.bindG h fun v O1 N1 ⟨e1, e2, e3⟩ => by subst e1 e2 e3; simpa using k

theorem TV.mono {t : Sem Value} {R R' : VPost} (h : TV c σ O F t R) (hR : ∀ pv O' N, R pv O' N → R' pv O' N) : TV c σ O F t R' :=
  TG.mono h fun b σ' O' N ⟨e, pv, r, i⟩ => ⟨e, pv, hR _ _ _ r, i⟩
theorem TB.mono {t : Sem Bool} {R R' : BPost} (h : TB c σ O F t R) (hR : ∀ pv O' N, R pv O' N → R' pv O' N) : TB c σ O F t R' :=
  TG.mono h fun b σ' O' N ⟨e, r⟩ => ⟨e, hR _ _ _ r⟩
theorem TF.mono {t : Sem Flow} {R R' : FPost} (h : TF c σ O F t R) (hR : ∀ pf σ' O' N, R pf σ' O' N → R' pf σ' O' N) : TF c σ O F t R' :=
  TG.mono h fun b σ' O' N ⟨pf, r, i⟩ => ⟨pf, hR _ _ _ _ r, i⟩

theorem TG.pure {β : Type} {T : (β → Shared → Prop) → Shared → Prop} {P : β → Prop} {R : β → Sto → Led → Led → Prop}
    (mono : ∀ Q Q' : β → Shared → Prop, (∀ b s', Q b s' → Q' b s') → ∀ s, T Q s → T Q' s)
    (toks : ∀ Q s, T Q s → T (fun b s' => s.toks ≤ s'.toks ∧ Q b s') s)
    (h : ∀ (s : Shared) (Q : β → Shared → Prop), St c σ O F s → (∀ v h tk, P v → (∀ b o, s.heap.get? b = some o → h.get? b = some o) → Q v (upd s h tk)) → T Q s)
    (hR : ∀ v, P v → R v σ O []) : TG c σ O F T R := by
  intro s Q S k
  refine mono _ _ ?_ _ (toks _ _ (h s (fun v s' => ∃ h tk, s' = upd s h tk ∧ P v ∧ ∀ b o, s.heap.get? b = some o → h.get? b = some o) S fun v h tk i k => ⟨h, tk, rfl, i, k⟩))
  rintro v s' ⟨ht, h', tk, rfl, i, kk⟩
  exact k v σ O [] h' tk (hR v i) (S.keeps kk ht) ht

theorem wp_toks1 {β : Type} {t : Sem β} {A : Around} (Q : β → Shared → Prop) (s : Shared) (h : wpAny G.M A t Q NoE s) : wpAny G.M A t (fun b s' => s.toks ≤ s'.toks ∧ Q b s') NoE s :=
  wpAny_mono (wpAny_toks h) (fun _ _ e => e) fun _ _ e => e.2

theorem TV.pure {t : Sem Value} {pv : PV}
    (h : ∀ (s : Shared) (Q : Value → Shared → Prop), St c σ O F s → (∀ v h tk, pv.Is v → (∀ b o, s.heap.get? b = some o → h.get? b = some o) → Q v (upd s h tk)) → wpAny G.M c.A t Q NoE s) : TVp c σ O F t pv :=
  TG.pure (P := pv.Is) (fun Q Q' hq s h => wpAny_mono h (fun b s' e => hq b s' e) fun _ _ e => e) (fun Q s h => wp_toks1 Q s h) h fun v i => ⟨rfl, pv, ⟨rfl, rfl, rfl⟩, i⟩
theorem TB.pure {t : Sem Bool} {b : Bool}
    (h : ∀ (s : Shared) (Q : Bool → Shared → Prop), St c σ O F s → (∀ h tk, (∀ b o, s.heap.get? b = some o → h.get? b = some o) → Q b (upd s h tk)) → wpAny G.M c.A t Q NoE s) : TBp c σ O F t b :=
  TG.pure (P := fun v => v = b) (fun Q Q' hq s h => wpAny_mono h (fun b s' e => hq b s' e) fun _ _ e => e) (fun Q s h => wp_toks1 Q s h)
    (fun s Q S k => h s Q S fun h tk kk => k b h tk rfl kk) fun v i => ⟨rfl, i, rfl, rfl⟩

/-! ### expressions -/
theorem ev_int {i : Int} {k : Nat} {pos : Pos} : Evp c σ O F (.Constant (.int i) k pos) (.int i) :=
  TV.pure fun s Q _ h => fun Γ p hΓ => h (.int i s.toks) s.heap (s.toks + 1) ⟨_, rfl⟩ (fun _ _ e => e)
theorem ev_str {x : Str} {k : Nat} {pos : Pos} : Evp c σ O F (.Constant (.str x) k pos) (.str x) :=
  TV.pure fun s Q _ h => fun Γ p hΓ => h (.str x s.toks) s.heap (s.toks + 1) ⟨_, rfl⟩ (fun _ _ e => e)
theorem ev_bool {x : Bool} {k : Nat} {pos : Pos} : Evp c σ O F (.Constant (.bool x) k pos) (.bool x) :=
  TV.pure fun s Q _ h => fun Γ p hΓ => h (.bool x) s.heap s.toks rfl (fun _ _ e => e)
theorem ev_none {k : Nat} {pos : Pos} : Evp c σ O F (.Constant .none k pos) .none :=
  TV.pure fun s Q _ h => fun Γ p hΓ => h .none s.heap s.toks rfl (fun _ _ e => e)

theorem load_holds {mf : Str → Option Value} {C : Led} {x : Str} {v : Value} {Q : Value → Shared → Prop} (H : Holds c mf C F x v) (hF : Fr c.h0 c.L s.heap mf) (hN : News c.h0 c.L s.heap (C ++ (O ++ F)))
    (h : Q v s) : wpAny G.M c.A (loadName c.env x) Q NoE s := by
  cases H with
  | loc h1 h2 h3 => exact wpAny_loadName_local c.hek h1 (by rw [h2]; exact hF.ns) h3 h
  | comp h1 o m h2 h3 h4 => exact wpAny_loadName_local c.hek h1 (h3 _ (hN _ (List.mem_append_right _ (List.mem_append_right _ h2))).1) h4 h
  | cell h1 a o h2 h3 h4 => exact wpAny_loadName_cell c.hek h1 h2 ⟨o, (hN (a, o) (by
      rcases List.mem_append.mp h3 with h | h
      · exact List.mem_append_left _ h
      · exact List.mem_append_right _ (List.mem_append_right _ h))).1, h4⟩ h

theorem load_var {i : Nat} {x : Str} {pv : PV} (hx : c.names[i]? = some x) (hv : σ[i]? = some (some pv)) : TVp c σ O F (loadName c.env x) pv := by
  refine TV.pure fun s Q S h => ?_
  obtain ⟨⟨mf, C, h1, h2, h3, h4⟩, h5, h6, h7⟩ := S
  obtain ⟨v, i1, H⟩ := h4 i x pv hx hv
  exact load_holds H h1 h2 (h v s.heap s.toks i1 fun _ _ e => e)

theorem ev_var (i : Nat) {x : Str} {pos : Pos} {pv : PV} (hx : c.names[i]? = some x) (hv : σ[i]? = some (some pv)) (hd : (x == Str.ofString "__debug__") = false := by decide) :
    Evp c σ O F (.Name x pos) pv := by
  intro s Q S k
  exact wpAny_Name (load_var hx hv s Q S k) hd

/-! global names -/
theorem ev_glob {x : Str} {pos : Pos} {v : Value} {pv : PV} (e : nsIn G.K mainGlobals x = some (some v)) (hp : pv.Is v) (hx : c.env.kindOf x = some .globalImplicit) (hd : (x == Str.ofString "__debug__") = false := by decide) :
    Evp c σ O F (.Name x pos) pv := by
  refine TV.pure fun s Q S h => ?_
  obtain ⟨⟨mf, C, h1, h2, h3, h4⟩, h5, h6, h7⟩ := S
  exact Name_function_global c.hek hx (loadGlobal_global (by rw [c.hglob]; exact c.T.g.keeps h1.keep) (mg_of c.X c.T.g e) (h v s.heap s.toks hp fun _ _ e => e)) hd
end
end Mine
end
section
open PySem PySem.W PyProof.Rows PySem.Calls
set_option autoImplicit false
set_option linter.unusedVariables false
namespace Mine
section
variable {G : GC} {c : Act G} {σ : Sto} {O F : Led} {s : Shared}

theorem PV.is_int {i : Int} {v : Value} (h : (PV.int i).Is v) : ∃ t, v = .int i t := h
theorem PV.is_str {i : Str} {v : Value} (h : (PV.str i).Is v) : ∃ t, v = .str i t := h

/-! binary operators -/
theorem ev_bin {l r : Expr} {op : Operator} {pos : Pos} {pl pr : PV} {R : VPost} (hl : Evp c σ O F l pl) (hr : Evp c σ O F r pr)
    (h : ∀ vl vr, pl.Is vl → pr.Is vr → TV c σ O F (binaryOp op vl vr) R) : Ev c σ O F (.BinOp l op r pos) R :=
  TG.of (TV.bindp hl fun vl il => TV.bindp hr fun vr ir => h vl vr il ir) fun Q s h => wpAny_BinOp h

theorem op_add_int {a b : Int} {t u : Tok} : TVp c σ O F (binaryOp .Add (.int a t) (.int b u)) (.int (a + b)) :=
  TV.pure fun s Q S k => add_int (k _ s.heap _ ⟨_, rfl⟩ fun _ _ e => e)
theorem op_sub_int {a b : Int} {t u : Tok} : TVp c σ O F (binaryOp .Sub (.int a t) (.int b u)) (.int (a - b)) :=
  TV.pure fun s Q S k => sub_int (k _ s.heap _ ⟨_, rfl⟩ fun _ _ e => e)
theorem op_mul_int {a b : Int} {t u : Tok} (h : IntMulOk a b) : TVp c σ O F (binaryOp .Mult (.int a t) (.int b u)) (.int (a * b)) :=
  TV.pure fun s Q S k => mul_int (k _ s.heap _ ⟨_, rfl⟩ fun _ _ e => e) h
theorem op_fdiv_int {a b : Int} {t u : Tok} (h : b ≠ 0) (hp : Builtin.divisionGoesByPylong a b = false) : TVp c σ O F (binaryOp .FloorDiv (.int a t) (.int b u)) (.int (Int.fdiv a b)) :=
  TV.pure fun s Q S k => floordiv_int h (k _ s.heap _ ⟨_, rfl⟩ fun _ _ e => e) (.inl hp)
theorem op_fmod_int {a b : Int} {t u : Tok} (h : b ≠ 0) : TVp c σ O F (binaryOp .Mod (.int a t) (.int b u)) (.int (Int.fmod a b)) :=
  TV.pure fun s Q S k => mod_int' h (k _ s.heap _ ⟨_, rfl⟩ fun _ _ e => e)
theorem op_add_str {a b : Str} {t u : Tok} (h : a.length + b.length ≤ sizeLine) : TVp c σ O F (binaryOp .Add (.str a t) (.str b u)) (.str (a ++ b)) :=
  TV.pure fun s Q S k => add_str (fun t' tk => k _ s.heap tk ⟨t', rfl⟩ fun _ _ e => e) h
theorem op_mul_str {x : Str} {n : Int} {t u : Tok} (h : MulOk x n) : TVp c σ O F (binaryOp .Mult (.str x t) (.int n u)) (.str (Txt.mul x n)) :=
  TV.pure fun s Q S k => SB.mul h (fun t' tk => k _ s.heap tk ⟨t', rfl⟩ fun _ _ e => e)

theorem ev_add {l r : Expr} {pos : Pos} {a b : Int} (hl : Evp c σ O F l (.int a)) (hr : Evp c σ O F r (.int b)) : Evp c σ O F (.BinOp l .Add r pos) (.int (a + b)) :=
  ev_bin hl hr fun vl vr ⟨t, e⟩ ⟨u, e'⟩ => by subst e e'; exact op_add_int
theorem ev_sub {l r : Expr} {pos : Pos} {a b : Int} (hl : Evp c σ O F l (.int a)) (hr : Evp c σ O F r (.int b)) : Evp c σ O F (.BinOp l .Sub r pos) (.int (a - b)) :=
  ev_bin hl hr fun vl vr ⟨t, e⟩ ⟨u, e'⟩ => by subst e e'; exact op_sub_int
theorem ev_mul {l r : Expr} {pos : Pos} {a b : Int} (hl : Evp c σ O F l (.int a)) (hr : Evp c σ O F r (.int b)) (h : IntMulOk a b) : Evp c σ O F (.BinOp l .Mult r pos) (.int (a * b)) :=
  ev_bin hl hr fun vl vr ⟨t, e⟩ ⟨u, e'⟩ => by subst e e'; exact op_mul_int h
theorem ev_fdiv {l r : Expr} {pos : Pos} {a b : Int} (hl : Evp c σ O F l (.int a)) (hr : Evp c σ O F r (.int b)) (h : b ≠ 0) (hp : Builtin.divisionGoesByPylong a b = false) : Evp c σ O F (.BinOp l .FloorDiv r pos) (.int (Int.fdiv a b)) :=
  ev_bin hl hr fun vl vr ⟨t, e⟩ ⟨u, e'⟩ => by subst e e'; exact op_fdiv_int h hp
theorem ev_fmod {l r : Expr} {pos : Pos} {a b : Int} (hl : Evp c σ O F l (.int a)) (hr : Evp c σ O F r (.int b)) (h : b ≠ 0) : Evp c σ O F (.BinOp l .Mod r pos) (.int (Int.fmod a b)) :=
  ev_bin hl hr fun vl vr ⟨t, e⟩ ⟨u, e'⟩ => by subst e e'; exact op_fmod_int h
theorem ev_adds {l r : Expr} {pos : Pos} {a b : Str} (hl : Evp c σ O F l (.str a)) (hr : Evp c σ O F r (.str b)) (h : a.length + b.length ≤ sizeLine) : Evp c σ O F (.BinOp l .Add r pos) (.str (a ++ b)) :=
  ev_bin hl hr fun vl vr ⟨t, e⟩ ⟨u, e'⟩ => by subst e e'; exact op_add_str h
theorem ev_muls {l r : Expr} {pos : Pos} {a : Str} {n : Int} (hl : Evp c σ O F l (.str a)) (hr : Evp c σ O F r (.int n)) (h : MulOk a n) : Evp c σ O F (.BinOp l .Mult r pos) (.str (Txt.mul a n)) :=
  ev_bin hl hr fun vl vr ⟨t, e⟩ ⟨u, e'⟩ => by subst e e'; exact op_mul_str h

/-! unary -/
theorem ev_neg {x : Expr} {pos : Pos} {a : Int} (hx : Evp c σ O F x (.int a)) : Evp c σ O F (.UnaryOp .USub x pos) (.int (-a)) :=
  TG.of (TV.bindp hx fun v ⟨t, e⟩ => by subst e; exact (TV.pure fun s Q S k => neg_int (k _ s.heap _ ⟨_, rfl⟩ fun _ _ e => e) : TVp c σ O F (unaryOp .USub (.int a t)) (.int (-a)))) fun Q s h => wpAny_UnaryOp h

/-! truth -/
theorem tr_bool {b : Bool} : TBp c σ O F (truthy (.bool b)) b := TB.pure fun s Q S k => wpAny_truthy_bool (k s.heap s.toks fun _ _ e => e)
theorem tr_int {a : Int} {t : Tok} : TBp c σ O F (truthy (.int a t)) (a != 0) := TB.pure fun s Q S k => truthy_int (k s.heap s.toks fun _ _ e => e)

/-! comparisons -/
theorem ev_cmp {l r : Expr} {op : CmpOp} {pos : Pos} {pl pr : PV} {R : VPost} (hl : Evp c σ O F l pl) (hr : Evp c σ O F r pr) (hm : behindInMarks op r = false)
    (h : ∀ vl vr, pl.Is vl → pr.Is vr → TV c σ O F (compareOp op vl vr) R) : Ev c σ O F (.Compare l [op] [r] pos) R :=
  TG.of (TV.bindp hl fun vl il => TV.bindp hr fun vr ir => h vl vr il ir) fun Q s h => wpAny_Compare1 h hm
theorem ts_cmp {l r : Expr} {op : CmpOp} {pos : Pos} {pl pr : PV} {b : Bool} (hl : Evp c σ O F l pl) (hr : Evp c σ O F r pr) (hm : behindInMarks op r = false)
    (h : ∀ vl vr, pl.Is vl → pr.Is vr → TVp c σ O F (compareOp op vl vr) (.bool b)) : Tstp c σ O F (.Compare l [op] [r] pos) b :=
  TG.of (TV.bindp hl fun vl il => TV.bindp hr fun vr ir => TV.bindp (h vl vr il ir) fun v e => by cases e; exact tr_bool) fun Q s h => wpAny_isTrue_Compare1 h hm

theorem cm_eq_int {a b : Int} {t u : Tok} : TVp c σ O F (compareOp .Eq (.int a t) (.int b u)) (.bool (a == b)) := TV.pure fun s Q S k => eq_int (k _ s.heap s.toks rfl fun _ _ e => e)
theorem cm_ne_int {a b : Int} {t u : Tok} : TVp c σ O F (compareOp .NotEq (.int a t) (.int b u)) (.bool (a != b)) := TV.pure fun s Q S k => ne_int (k _ s.heap s.toks rfl fun _ _ e => e)
theorem cm_lt_int {a b : Int} {t u : Tok} : TVp c σ O F (compareOp .Lt (.int a t) (.int b u)) (.bool (decide (a < b))) := TV.pure fun s Q S k => lt_int (k _ s.heap s.toks rfl fun _ _ e => e)
theorem cm_le_int {a b : Int} {t u : Tok} : TVp c σ O F (compareOp .LtE (.int a t) (.int b u)) (.bool (decide (a ≤ b))) := TV.pure fun s Q S k => le_int (k _ s.heap s.toks rfl fun _ _ e => e)
theorem cm_gt_int {a b : Int} {t u : Tok} : TVp c σ O F (compareOp .Gt (.int a t) (.int b u)) (.bool (decide (b < a))) := TV.pure fun s Q S k => gt_int (k _ s.heap s.toks rfl fun _ _ e => e)
theorem cm_ge_int {a b : Int} {t u : Tok} : TVp c σ O F (compareOp .GtE (.int a t) (.int b u)) (.bool (decide (b ≤ a))) := TV.pure fun s Q S k => ge_int (k _ s.heap s.toks rfl fun _ _ e => e)
theorem cm_eq_str {a b : Str} {t u : Tok} : TVp c σ O F (compareOp .Eq (.str a t) (.str b u)) (.bool (a == b)) := TV.pure fun s Q S k => eq_str (k _ s.heap s.toks rfl fun _ _ e => e)
theorem cm_ne_str {a b : Str} {t u : Tok} : TVp c σ O F (compareOp .NotEq (.str a t) (.str b u)) (.bool (a != b)) := TV.pure fun s Q S k => ne_str (k _ s.heap s.toks rfl fun _ _ e => e)
theorem cm_ne_bool {a b : Bool} : TVp c σ O F (compareOp .NotEq (.bool a) (.bool b)) (.bool (a != b)) := TV.pure fun s Q S k => ne_bool (k _ s.heap s.toks rfl fun _ _ e => e)

/-- what a comparison of two plain values is -/
inductive CmpIs : CmpOp → PV → PV → Bool → Prop
  | eqI (a b : Int) : CmpIs .Eq (.int a) (.int b) (a == b)
  | neI (a b : Int) : CmpIs .NotEq (.int a) (.int b) (a != b)
  | ltI (a b : Int) : CmpIs .Lt (.int a) (.int b) (decide (a < b))
  | leI (a b : Int) : CmpIs .LtE (.int a) (.int b) (decide (a ≤ b))
  | gtI (a b : Int) : CmpIs .Gt (.int a) (.int b) (decide (b < a))
  | geI (a b : Int) : CmpIs .GtE (.int a) (.int b) (decide (b ≤ a))
  | eqS (a b : Str) : CmpIs .Eq (.str a) (.str b) (a == b)
  | neS (a b : Str) : CmpIs .NotEq (.str a) (.str b) (a != b)
  | neB (a b : Bool) : CmpIs .NotEq (.bool a) (.bool b) (a != b)

theorem cmp_is {op : CmpOp} {a b : PV} {r : Bool} (h : CmpIs op a b r) (va vb : Value) (ia : a.Is va) (ib : b.Is vb) : TVp c σ O F (compareOp op va vb) (.bool r) := by
  cases h
  case eqI => obtain ⟨t, rfl⟩ := ia; obtain ⟨u, rfl⟩ := ib; exact cm_eq_int
  case neI => obtain ⟨t, rfl⟩ := ia; obtain ⟨u, rfl⟩ := ib; exact cm_ne_int
  case ltI => obtain ⟨t, rfl⟩ := ia; obtain ⟨u, rfl⟩ := ib; exact cm_lt_int
  case leI => obtain ⟨t, rfl⟩ := ia; obtain ⟨u, rfl⟩ := ib; exact cm_le_int
  case gtI => obtain ⟨t, rfl⟩ := ia; obtain ⟨u, rfl⟩ := ib; exact cm_gt_int
  case geI => obtain ⟨t, rfl⟩ := ia; obtain ⟨u, rfl⟩ := ib; exact cm_ge_int
  case eqS => obtain ⟨t, rfl⟩ := ia; obtain ⟨u, rfl⟩ := ib; exact cm_eq_str
  case neS => obtain ⟨t, rfl⟩ := ia; obtain ⟨u, rfl⟩ := ib; exact cm_ne_str
  case neB => cases ia; cases ib; exact cm_ne_bool

theorem ev_cmpp {l r : Expr} {op : CmpOp} {pos : Pos} {pl pr : PV} {b : Bool} (hl : Evp c σ O F l pl) (hr : Evp c σ O F r pr) (h : CmpIs op pl pr b) (hm : behindInMarks op r = false := by rfl) : Evp c σ O F (.Compare l [op] [r] pos) (.bool b) :=
  ev_cmp hl hr hm fun vl vr il ir => cmp_is h vl vr il ir
theorem ts_cmpp {l r : Expr} {op : CmpOp} {pos : Pos} {pl pr : PV} {b : Bool} (hl : Evp c σ O F l pl) (hr : Evp c σ O F r pr) (h : CmpIs op pl pr b) (hm : behindInMarks op r = false := by rfl) : Tstp c σ O F (.Compare l [op] [r] pos) b :=
  ts_cmp hl hr hm fun vl vr il ir => cmp_is h vl vr il ir

/-! tests -/
theorem ts_val {e : Expr} {pv : PV} {b : Bool} (h : Evp c σ O F e pv) (ht : ∀ v, pv.Is v → TBp c σ O F (truthy v) b)
    (he : ∀ (env : Env) (whole : Sem Value), PySem.isTrue e env whole = (do let v ← whole; standAt e.pos; holding [v] (truthy v)) := by intro _ _; rfl) : Tstp c σ O F e b :=
  TG.of (TV.bindp h fun v i => ht v i) fun Q s h => isTrue_plain h (he _ _)

theorem tr_str {x : Str} {t : Tok} (h : x.length ≤ 1048576) : TBp c σ O F (truthy (.str x t)) ((x.length : Int) != 0) :=
  TB.pure fun s Q S k => SBL.truthy (by omega) (k s.heap _ fun _ _ e => e)
theorem tr_none : TBp c σ O F (truthy .none) false := TB.pure fun s Q S k => truthy_none (k s.heap _ fun _ _ e => e)

abbrev AllT {G : GC} (c : Act G) (σ : Sto) (O F : Led) (op : BoolOp) (es : List Expr) (b : Bool) : Prop := TBp c σ O F (allTrue op es c.env) b
theorem and_nil : AllT c σ O F .And [] true := TB.pure fun s Q S k => wpAny_allTrue_And_nil (k s.heap s.toks fun _ _ e => e)
theorem or_nil : AllT c σ O F .Or [] false := TB.pure fun s Q S k => wpAny_allTrue_Or_nil (k s.heap s.toks fun _ _ e => e)
theorem tb_ret {b : Bool} : TG c σ O F (fun (Q : Bool → Shared → Prop) s => Q b s) (RB σ (justB O b)) :=
  fun s Q S k => k b σ O [] s.heap s.toks ⟨rfl, rfl, rfl, rfl⟩ S (Nat.le_refl _)
theorem and_cons {x : Expr} {rest : List Expr} {a b : Bool} (hx : Tstp c σ O F x a) (hr : a = true → AllT c σ O F .And rest b) : AllT c σ O F .And (x :: rest) (a && b) :=
  TG.of (TB.bindp (T2 := fun a' Q s => if a' = true then wpAny G.M c.A (allTrue .And rest c.env) Q NoE s else Q false s) hx (by
    cases a with
    | false => simpa using tb_ret
    | true => exact TG.of (TB.mono (hr rfl) (by simp)) fun Q s h => by simpa using h)) fun Q s h => wpAny_allTrue_And_cons h
theorem or_cons {x : Expr} {rest : List Expr} {a b : Bool} (hx : Tstp c σ O F x a) (hr : a = false → AllT c σ O F .Or rest b) : AllT c σ O F .Or (x :: rest) (a || b) :=
  TG.of (TB.bindp (T2 := fun a' Q s => if a' = true then Q true s else wpAny G.M c.A (allTrue .Or rest c.env) Q NoE s) hx (by
    cases a with
    | true => simpa using tb_ret
    | false => exact TG.of (TB.mono (hr rfl) (by simp)) fun Q s h => by simpa using h)) fun Q s h => wpAny_allTrue_Or_cons h
theorem ts_bop {op : BoolOp} {es : List Expr} {pos : Pos} {b : Bool} (h : AllT c σ O F op es b) : Tstp c σ O F (.BoolOp op es pos) b :=
  TG.of h fun Q s h => wpAny_isTrue_BoolOp h
theorem ts_not {x : Expr} {pos : Pos} {b : Bool} (h : Tstp c σ O F x b) : Tstp c σ O F (.UnaryOp .Not x pos) (!b) :=
  TG.of (TB.bindp (T2 := fun b' Q s => Q (!b') s) h tb_ret) fun Q s h => isTrue_not h
theorem ts_eq {e : Expr} {a b : Bool} (h : Tstp c σ O F e a) (e1 : a = b) : Tstp c σ O F e b := e1 ▸ h
theorem ev_eq {e : Expr} {a b : PV} (h : Evp c σ O F e a) (e1 : a = b) : Evp c σ O F e b := e1 ▸ h

theorem ev_ite {test body orelse : Expr} {pos : Pos} {b : Bool} {R : VPost} (ht : Tstp c σ O F test b) (h1 : b = true → Ev c σ O F body R) (h2 : b = false → Ev c σ O F orelse R) :
    Ev c σ O F (.IfExp test body orelse pos) R :=
  TG.of (TB.bindp (T2 := fun b' Q s => if b' = true then wpAny G.M c.A (eval body c.env) Q NoE s else wpAny G.M c.A (eval orelse c.env) Q NoE s) ht (by
    cases b with
    | false => exact TG.of (h2 rfl) fun Q s h => by simpa using h
    | true => exact TG.of (h1 rfl) fun Q s h => by simpa using h)) fun Q s h => IfExp_ h

theorem ev_or2 {x y : Expr} {pos : Pos} {px : PV} {b : Bool} {R : VPost} (hx : Evp c σ O F x px) (ht : ∀ v, px.Is v → TBp c σ O F (truthy v) b) (h1 : b = true → R px O []) (h2 : b = false → Ev c σ O F y R) :
    Ev c σ O F (.BoolOp .Or [x, y] pos) R :=
  TG.of (TV.bindp (T2 := fun v Q s => wpAny G.M c.A (truthy v) (fun b' s2 => if b' = true then Q v s2 else wpAny G.M c.A (eval (.BoolOp .Or [y] pos) c.env) Q NoE s2) NoE s) hx fun v i =>
    TB.bindp (T2 := fun b' Q s2 => if b' = true then Q v s2 else wpAny G.M c.A (eval (.BoolOp .Or [y] pos) c.env) Q NoE s2) (ht v i) (by
      cases b with
      | true => exact fun s Q S k => k v σ O [] s.heap s.toks ⟨rfl, px, h1 rfl, i⟩ S (Nat.le_refl _)
      | false => exact TG.of (h2 rfl) fun Q s h => by simpa using (BoolOp_one h : wpAny G.M c.A (eval (.BoolOp .Or [y] pos) c.env) Q NoE s))) fun Q s h => BoolOp_or h

/-! statements -/
theorem ex_nil {P : FPost} (h : P .next σ O []) : Ex c σ O F [] P := fun s Q S k => wpAny_execs_nil (k _ σ O [] s.heap s.toks ⟨.next, h, rfl⟩ S (Nat.le_refl _))

theorem ex_cons {st : Stmt} {rest : List Stmt} {P : FPost}
    (h : Ex1 c σ O F st fun pf σ1 O1 N1 => match pf with
      | .next => Ex c σ1 O1 (N1 ++ F) rest fun pf2 σ2 O2 N2 => P pf2 σ2 O2 (N2 ++ N1)
      | pf => P pf σ1 O1 N1) : Ex c σ O F (st :: rest) P := by
  intro s Q S k
  refine wpAny_execs_cons (h s _ S fun fl σ1 O1 N1 h1 tk1 ⟨pf, hp, i⟩ S1 ht1 => ?_)
  cases pf with
  | next =>
    cases i
    exact hp _ Q S1 fun fl2 σ2 O2 N2 h2 tk2 ⟨pf2, hp2, i2⟩ S2 ht2 => k fl2 σ2 O2 (N2 ++ N1) h2 tk2 ⟨pf2, hp2, i2⟩ (by rw [List.append_assoc]; exact S2) (Nat.le_trans ht1 ht2)
  | brk => cases i; exact k _ σ1 O1 N1 h1 tk1 ⟨.brk, hp, rfl⟩ S1 ht1
  | cont => cases i; exact k _ σ1 O1 N1 h1 tk1 ⟨.cont, hp, rfl⟩ S1 ht1
  | ret v => obtain ⟨v', rfl, iv⟩ := i; exact k _ σ1 O1 N1 h1 tk1 ⟨.ret v, hp, v', rfl, iv⟩ S1 ht1

/-- a pure step ahead: nothing is frozen -/
theorem ex_step {st : Stmt} {rest : List Stmt} {P : FPost} {σ1 : Sto} (h : Ex1 c σ O F st fun pf σ' O' N => pf = .next ∧ σ' = σ1 ∧ O' = O ∧ N = []) (k : Ex c σ1 O F rest P) : Ex c σ O F (st :: rest) P :=
  ex_cons (TF.mono h fun pf σ' O' N ⟨e1, e2, e3, e4⟩ => by subst e1 e2 e3 e4; simpa using k)

theorem ex_if {test : Expr} {body orelse : List Stmt} {pos : Pos} {b : Bool} {P : FPost} (ht : Tstp c σ O F test b) (h1 : b = true → Ex c σ O F body P) (h2 : b = false → Ex c σ O F orelse P) :
    Ex1 c σ O F (.If test body orelse pos) P :=
  TG.of (TB.bindp (T2 := fun b' Q s => if b' = true then wpAny G.M c.A (execs body c.env) Q NoE s else wpAny G.M c.A (execs orelse c.env) Q NoE s) ht (by
    cases b with
    | false => exact TG.of (h2 rfl) fun Q s h => by simpa using h
    | true => exact TG.of (h1 rfl) fun Q s h => by simpa using h)) fun Q s h => wpAny_If h

theorem ex_ret {e : Expr} {pos : Pos} {P : FPost} (h : Ev c σ O F e fun pv O' N => P (.ret pv) σ O' N) : Ex1 c σ O F (.Return (some e) pos) P := by
  intro s Q S k
  exact wpAny_Return_some (h s _ S fun v σ' O' N h' tk ⟨e, pv, r, i⟩ S' ht => k _ σ' O' N h' tk ⟨.ret pv, e ▸ r, v, rfl, i⟩ S' ht)
theorem ex_brk {pos : Pos} {P : FPost} (h : P .brk σ O []) : Ex1 c σ O F (.Break pos) P := fun s Q S k => wpAny_Break (k _ σ O [] s.heap s.toks ⟨.brk, h, rfl⟩ S (Nat.le_refl _))

theorem ex_expr {e : Expr} {pos : Pos} {P : FPost} (h : Ev c σ O F e fun pv O' N => P .next σ O' N) (hi : interactive c.env = false) (hs : swapsWith e none pos.line c.env = pure false := by rfl) :
    Ex1 c σ O F (.Expr e pos) P := by
  intro s Q S k
  exact wpAny_Expr_any (h s _ S fun v σ' O' N h' tk ⟨e, pv, r, i⟩ S' ht => k _ σ' O' N h' tk ⟨.next, e ▸ r, rfl⟩ S' ht) hi hs

/-! storing -/
theorem names_ne {names : List Str} (hn : names.Nodup) {i j : Nat} {x y : Str} (hi : names[i]? = some x) (hj : names[j]? = some y) (h : i ≠ j) : x ≠ y := by
  intro e
  subst e
  obtain ⟨hi', e1⟩ := List.getElem?_eq_some_iff.mp hi
  obtain ⟨hj', e2⟩ := List.getElem?_eq_some_iff.mp hj
  have hp := List.pairwise_iff_getElem.mp hn
  rcases Nat.lt_or_gt_of_ne h with q | q
  · exact hp i j hi' hj' q (e1.trans e2.symm)
  · exact hp j i hj' hi' q (e2.trans e1.symm)

theorem St.store (S : St c σ O F s) {i : Nat} {x : Str} (hx : c.names[i]? = some x) (hk : c.env.kindOf x = some .local) (hL : c.env.locals = c.L) {v : Value} {pv : PV} (iv : pv.Is v) (hi : i < σ.length)
    {Q : Unit → Shared → Prop} (k : ∀ h, St c (σ.set i (some pv)) O F (upd s h (s.toks + 1)) → Q () (upd s h (s.toks + 1))) : wpAny G.M c.A (storeName c.env x v) Q NoE s := by
  obtain ⟨⟨mf, C, h1, h2, h3, h4⟩, h5, h6, h7⟩ := S
  refine wpAny_storeName_local hk (by rw [hL]; exact h1.ns) (fun h' hn hs => ?_) (by rw [c.hek, hL]; rfl)
  rw [hL] at hn hs
  refine k h' ⟨⟨_, C, h1.set hn hs, h2.set hs, h3, ?_⟩, h5, Nat.succ_pos _, ⟨fun q => (q hL).elim, fun a ha => let ⟨o, v, e, d⟩ := h7.2 a ha; ⟨o, v, (hs.2 a (cells_at h2 h3 ha).1).trans e, d⟩⟩⟩
  intro j y pw hy hv
  by_cases e : j = i
  · subst e
    rw [hx] at hy
    cases hy
    rw [List.getElem?_set_self hi] at hv
    cases hv
    exact ⟨v, iv, .loc hk hL (by simp)⟩
  · have hne := names_ne c.hnd hy hx e
    rw [List.getElem?_set_ne (fun q => e q.symm)] at hv
    obtain ⟨w, iw, H⟩ := h4 j y pw hy hv
    refine ⟨w, iw, ?_⟩
    cases H with
    | loc a1 a2 a3 => exact .loc a1 a2 (by simp [hne, a3])
    | comp a1 o m a2 a3 a4 => exact .comp a1 o m a2 a3 a4
    | cell a1 a o a2 a3 a4 => exact .cell a1 a o a2 a3 a4

theorem ex_asg (i : Nat) {x : Str} {p pos : Pos} {e : Expr} {P : FPost} (he : Ev c σ O F e fun pv O' N => P .next (σ.set i (some pv)) O' N)
    (hx : c.names[i]? = some x) (hk : c.env.kindOf x = some .local) (hL : c.env.locals = c.L) (hi : i < σ.length)
    (hs : swapsWith e (some (.Name x p)) pos.line c.env = pure false := by rfl) : Ex1 c σ O F (.Assign [.Name x p] e pos) P := by
  intro s Q S k
  refine wpAny_Assign_Name (he s _ S fun v σ' O' N h' tk ⟨e, pv, r, iv⟩ S' ht => ?_) hs
  subst e
  refine S'.store hx hk hL iv hi fun h2 S2 => ?_
  exact k _ _ O' N h2 (tk + 1) ⟨.next, r, rfl⟩ S2 (Nat.le_succ_of_le ht)

/-- an int name turned in place -/
theorem ex_aug_add (i : Nat) {x : Str} {p pos : Pos} {e : Expr} {a b : Int} {P : FPost} (hv : σ[i]? = some (some (.int a))) (he : Evp c σ O F e (.int b)) (h : P .next (σ.set i (some (.int (a + b)))) O [])
    (hx : c.names[i]? = some x) (hk : c.env.kindOf x = some .local) (hL : c.env.locals = c.L) : Ex1 c σ O F (.AugAssign (.Name x p) .Add e pos) P := by
  intro s Q S k
  have hi : i < σ.length := (List.getElem?_eq_some_iff.mp hv).1
  refine wpAny_AugAssign_Name ((TV.bindp (T2 := fun old (Q : Flow → Shared → Prop) s1 => wpAny G.M c.A (eval e c.env) (fun v s2 => wpAny G.M c.A (inplaceOp .Add old v) (fun r s3 => wpAny G.M c.A (storeName c.env x r) (fun _ => Q .next) NoE s3) NoE s2) NoE s1)
    (load_var hx hv) fun v ⟨t, ev⟩ => TV.bindp (T2 := fun v2 (Q : Flow → Shared → Prop) s2 => wpAny G.M c.A (inplaceOp .Add v v2) (fun r s3 => wpAny G.M c.A (storeName c.env x r) (fun _ => Q .next) NoE s3) NoE s2) he fun w ⟨u, ew⟩ => ?_) s Q S k)
  subst ev ew
  intro s2 Q2 S2 k2
  refine iadd_int (St.store (S2.toks (Nat.le_succ _)) hx hk hL (pv := .int (a + b)) ⟨_, rfl⟩ hi fun h3 S3 => k2 _ _ O [] h3 _ ⟨.next, h, rfl⟩ S3 (by show s2.toks ≤ s2.toks + 1 + 1; omega))
theorem ex_aug_sub (i : Nat) {x : Str} {p pos : Pos} {e : Expr} {a b : Int} {P : FPost} (hv : σ[i]? = some (some (.int a))) (he : Evp c σ O F e (.int b)) (h : P .next (σ.set i (some (.int (a - b)))) O [])
    (hx : c.names[i]? = some x) (hk : c.env.kindOf x = some .local) (hL : c.env.locals = c.L) : Ex1 c σ O F (.AugAssign (.Name x p) .Sub e pos) P := by
  intro s Q S k
  have hi : i < σ.length := (List.getElem?_eq_some_iff.mp hv).1
  refine wpAny_AugAssign_Name ((TV.bindp (T2 := fun old (Q : Flow → Shared → Prop) s1 => wpAny G.M c.A (eval e c.env) (fun v s2 => wpAny G.M c.A (inplaceOp .Sub old v) (fun r s3 => wpAny G.M c.A (storeName c.env x r) (fun _ => Q .next) NoE s3) NoE s2) NoE s1)
    (load_var hx hv) fun v ⟨t, ev⟩ => TV.bindp (T2 := fun v2 (Q : Flow → Shared → Prop) s2 => wpAny G.M c.A (inplaceOp .Sub v v2) (fun r s3 => wpAny G.M c.A (storeName c.env x r) (fun _ => Q .next) NoE s3) NoE s2) he fun w ⟨u, ew⟩ => ?_) s Q S k)
  subst ev ew
  intro s2 Q2 S2 k2
  refine isub_int (St.store (S2.toks (Nat.le_succ _)) hx hk hL (pv := .int (a - b)) ⟨_, rfl⟩ hi fun h3 S3 => k2 _ _ O [] h3 _ ⟨.next, h, rfl⟩ S3 (by show s2.toks ≤ s2.toks + 1 + 1; omega))

/-- two targets -/
theorem ex_asg2 (i j : Nat) {x y : Str} {p q pos : Pos} {e : Expr} {pv : PV} {P : FPost} (he : Evp c σ O F e pv) (h : P .next ((σ.set i (some pv)).set j (some pv)) O [])
    (hx : c.names[i]? = some x) (hkx : c.env.kindOf x = some .local) (hy : c.names[j]? = some y) (hky : c.env.kindOf y = some .local) (hL : c.env.locals = c.L) (hi : i < σ.length) (hj : j < σ.length) :
    Ex1 c σ O F (.Assign [.Name x p, .Name y q] e pos) P := by
  intro s Q S k
  refine wpAny_Assign_two ((TV.bindp (T2 := fun v (Q : Flow → Shared → Prop) s1 => wpAny G.M c.A (assign (.Name x p) c.env v) (fun _ s₂ => wpAny G.M c.A (assign (.Name y q) c.env v) (fun _ => Q .next) NoE s₂) NoE s1) he fun v iv => ?_) s Q S k)
  intro s2 Q2 S2 k2
  refine wpAny_assign_Name (S2.store hx hkx hL iv hi fun h3 S3 => ?_)
  refine wpAny_assign_Name (S3.store hy hky hL iv (by simpa using hj) fun h4 S4 => ?_)
  exact k2 _ _ O [] h4 _ ⟨.next, h, rfl⟩ S4 (by show s2.toks ≤ s2.toks + 1 + 1; omega)

end
end Mine
end
section
open PySem PySem.W PyProof.Rows PySem.Calls
set_option autoImplicit false
set_option linter.unusedVariables false
namespace Mine

/-! ### arguments -/
section
variable {G : GC} {c : Act G} {σ : Sto} {O F : Led} {s : Shared}

abbrev APost := List PV → Led → Led → Prop
def TA {G : GC} (c : Act G) (σ : Sto) (O F : Led) (pos : Pos) (args : List Expr) (R : APost) : Prop :=
  TG c σ O F (fun Q s => wpAny G.M c.A (spliced (backTo pos (starEach args c.env))) Q NoE s) fun vs σ' O' N => σ' = σ ∧ ∃ pvs, R pvs O' N ∧ All2 PV.Is pvs vs
abbrev justA (O : Led) (pvs : List PV) : APost := fun r O' N => r = pvs ∧ O' = O ∧ N = []

theorem ta_nil {pos : Pos} {R : APost} (h : R [] O []) : TA c σ O F pos [] R :=
  fun s Q S k => wpAny_items_nil (k [] σ O [] s.heap s.toks ⟨rfl, [], h, .nil⟩ S (Nat.le_refl _))
theorem ta_cons {pos : Pos} {e : Expr} {rest : List Expr} {R : APost}
    (h : Ev c σ O F e fun pv O1 N1 => TA c σ O1 (N1 ++ F) pos rest fun pvs O2 N2 => R (pv :: pvs) O2 (N2 ++ N1))
    (he : ∀ env, starEach (e :: rest) env = (false, eval e env) :: starEach rest env := by intro _; rfl) : TA c σ O F pos (e :: rest) R := by
  intro s Q S k
  refine wpAny_items_cons (h s _ S fun v σ1 O1 N1 h1 tk1 ⟨e1, pv, hr, i⟩ S1 ht1 => ?_) (he _)
  subst e1
  refine hr _ (fun vs s2 => Q (v :: vs) s2) S1 fun vs σ2 O2 N2 h2 tk2 ⟨e2, pvs, r, i2⟩ S2 ht2 => ?_
  exact k (v :: vs) σ2 O2 (N2 ++ N1) h2 tk2 ⟨e2, pv :: pvs, r, .cons i i2⟩ (by rw [List.append_assoc]; exact S2) (Nat.le_trans ht1 ht2)
theorem ta_consp {pos : Pos} {e : Expr} {rest : List Expr} {pv : PV} {R : APost}
    (h : Evp c σ O F e pv) (hr : TA c σ O F pos rest fun pvs O2 N2 => R (pv :: pvs) O2 N2)
    (he : ∀ env, starEach (e :: rest) env = (false, eval e env) :: starEach rest env := by intro _; rfl) : TA c σ O F pos (e :: rest) R :=
  ta_cons (TV.mono h fun pv' O' N' ⟨e1, e2, e3⟩ => by subst e1 e2 e3; simpa using hr) he
theorem ta_pp {pos : Pos} {e : Expr} {rest : List Expr} {pv : PV} {pvs : List PV}
    (h : Evp c σ O F e pv) (hr : TA c σ O F pos rest (justA O pvs))
    (he : ∀ env, starEach (e :: rest) env = (false, eval e env) :: starEach rest env := by intro _; rfl) : TA c σ O F pos (e :: rest) (justA O (pv :: pvs)) :=
  ta_consp h (TG.mono hr fun vs σ' O' N ⟨a, pvs', ⟨e1, e2, e3⟩, b⟩ => ⟨a, pvs', ⟨by rw [e1], e2, e3⟩, b⟩) he
theorem ta_np {pos : Pos} : TA c σ O F pos [] (justA O []) := ta_nil ⟨rfl, rfl, rfl⟩

theorem TA.bindG {γ : Type} {pos : Pos} {args : List Expr} {R : APost} {T2 : List Value → (γ → Shared → Prop) → Shared → Prop} {R2 : γ → Sto → Led → Led → Prop}
    (h : TA c σ O F pos args R) (k : ∀ vs pvs O1 N1, R pvs O1 N1 → All2 PV.Is pvs vs → TG c σ O1 (N1 ++ F) (T2 vs) fun g σ2 O2 N2 => R2 g σ2 O2 (N2 ++ N1)) :
    TG c σ O F (fun Q s => wpAny G.M c.A (spliced (backTo pos (starEach args c.env))) (fun vs s1 => T2 vs Q s1) NoE s) R2 :=
  TG.bind (T := fun Q s => wpAny G.M c.A (spliced (backTo pos (starEach args c.env))) Q NoE s) h fun b σ1 O1 N1 ⟨e, pvs, r, i⟩ => by subst e; exact k b pvs O1 N1 r i

/-! ### room -/
def Room {G : GC} (c : Act G) (d u : Nat) : Prop := c.A.depth + d < recursionLimit ∧ c.A.units + u < cLine
theorem Room.le {d u d' u' : Nat} (h : Room c d u) (hd : d' ≤ d) (hu : u' ≤ u) : Room c d' u' := ⟨by have := h.1; omega, by have := h.2; omega⟩

theorem St.kin (S : St c σ O F s) : G.K.In s.heap := by
  obtain ⟨⟨mf, C, h1, h2, h3, h4⟩, h5, h6, h7⟩ := S
  exact c.X.keeps h1.keep

/-! ### the call of a def by its name -/
structure DefAt (G : GC) (nm : Str) (f : Addr) (params : Arguments) (body : List Stmt) (scope : Scope) : Prop where
  ns : nsIn G.K mainGlobals nm = some (some (.ref f))
  keep : keepIn G.K (.ref f) = true
  obj : ∃ (oc : Value) (od : Option Addr) (name qual : Str) (doc pm : Value) (an : Option Addr) (cdv ct : Value) (osl : Array (Option Value)),
    G.K.lookup f = some ⟨oc, od, .func (fnOf name qual params body scope .none .none doc pm an cdv ct), osl⟩ ∧ codeIn G.K cdv qual = true

theorem ev_call {nm : Str} {f : Addr} {p pos : Pos} {e : Expr} {rest : List Expr} {R : VPost} (ns : nsIn G.K mainGlobals nm = some (some (.ref f))) (keep : keepIn G.K (.ref f) = true)
    (hx : c.env.kindOf nm = some .globalImplicit)
    (h : TA c σ O F pos (e :: rest) fun pvs O1 N1 => ∀ vals, All2 PV.Is pvs vals → TV c σ O1 (N1 ++ F) (call (.ref f) vals) fun r O2 N2 => R r O2 (N2 ++ N1))
    (he : ∀ env, starEach (e :: rest) env = (false, eval e env) :: starEach rest env := by intro _; rfl)
    (hplain : ∀ (pos : Pos) env, (backTo pos (starEach rest env)).any (·.1) = false := by intro _ _; rfl)
    (hd : (nm == Str.ofString "__debug__") = false := by decide) : Ev c σ O F (.Call (.Name nm p) (e :: rest) [] pos) R := by
  intro s Q S k
  refine Call_ ?_
  refine (TV.bindp (T2 := fun f' (Q : Value → Shared → Prop) s1 => wpAny G.M c.A (callWith pos f' [] (backTo pos (starEach (e :: rest) c.env)) []) Q NoE s1) (ev_glob ns (pv := .ref f) rfl hx hd) fun v e => ?_) s Q S k
  cases e
  intro s2 Q2 S2 k2
  refine callWith_K (S2.kin) keep ?_ (he _) (hplain _ _)
  refine (TA.bindG h (fun vs pvs O1 N1 hr i => ?_) :
    TG c σ O F (fun Q s => wpAny G.M c.A (spliced (backTo pos (starEach (e :: rest) c.env))) (fun vs s1 => (G.K.In s1.heap ∧ wpAny G.M c.A (call (.ref f) ([] ++ vs)) Q NoE s1)) NoE s) (RV σ R)) s2 Q2 S2 k2
  intro s3 Q3 S3 k3
  exact ⟨S3.kin, hr vs i s3 Q3 S3 k3⟩

/-! ### contracts -/
def FnSpec (G : GC) (f : Addr) (d u : Nat) (vs : List PV) (O F : Led) (R : VPost) : Prop :=
  ∀ (c : Act G) (σ : Sto) (F' : Led), Room c d u → (∀ p ∈ F, p ∈ F') → ∀ vals, All2 PV.Is vs vals → TV c σ O F' (call (.ref f) vals) R
abbrev FnPure (G : GC) (f : Addr) (d u : Nat) (vs : List PV) (pv : PV) : Prop := ∀ O F, FnSpec G f d u vs O F (just O pv)

theorem All2.length {α β : Type} {R : α → β → Prop} {as : List α} {bs : List β} (h : All2 R as bs) : as.length = bs.length := by
  induction h with
  | nil => rfl
  | cons _ _ ih => simp [ih]
theorem All2.get {α β : Type} {R : α → β → Prop} {as : List α} {bs : List β} (h : All2 R as bs) : ∀ {i : Nat} {a : α}, as[i]? = some a → ∃ b, bs[i]? = some b ∧ R a b := by
  induction h with
  | nil => intro i a h; simp at h
  | cons h1 _ ih =>
    intro i a hi
    cases i with
    | zero => simp at hi; subst hi; exact ⟨_, by simp, h1⟩
    | succ i => simpa using ih (by simpa using hi)

theorem lookup_zip_rev : ∀ {names : List Str} {vals : List Value} (hn : names.Nodup) {i : Nat} {x : Str} {v : Value}, names[i]? = some x → vals[i]? = some v → (names.zip vals).reverse.lookup x = some v := by
  intro names
  induction names with
  | nil => intro vals hn i x v hx hv; simp at hx
  | cons y ys ih =>
    intro vals hn i x v hx hv
    cases vals with
    | nil => simp at hv
    | cons w ws =>
      simp only [List.zip_cons_cons, List.reverse_cons, List.lookup_append]
      have hny : y ∉ ys := (List.nodup_cons.mp hn).1
      cases i with
      | zero =>
        simp at hx hv; subst hx hv
        have : (ys.zip ws).reverse.lookup y = none := by
          rw [List.lookup_eq_none_iff]
          intro p hp
          have := List.mem_reverse.mp hp
          have h1 : p.1 ∈ ys := (List.of_mem_zip this).1
          simp only [ne_eq, bne_iff_ne]
          intro e; exact hny (e ▸ h1)
        rw [this]; simp
      | succ i =>
        have h := ih (List.nodup_cons.mp hn).2 (i := i) (x := x) (v := v) (by simpa using hx) (by simpa using hv)
        rw [h]; rfl

/-- the activation reads no name through what is frozen -/
structure Own {G : GC} (c : Act G) : Prop where
  L : c.env.locals = c.L
  cells : ∀ x a, c.env.cells.lookup x = some a → a ∈ c.cells

/-- how a def's own activation stands to its names -/
structure Loc {G : GC} (c : Act G) (names : List Str) (scope : Scope) : Prop where
  nm : c.names = names
  sc : c.env.scope = scope
  L : c.env.locals = c.L
  loc : ∀ x ∈ names, scope.names.lookup x = some .local
  own : Own c

theorem Loc.name {names : List Str} {scope : Scope} (H : Loc c names scope) {i : Nat} {x : Str} (h : names[i]? = some x) : c.names[i]? = some x := by rw [H.nm]; exact h
theorem Loc.kind {names : List Str} {scope : Scope} (H : Loc c names scope) {i : Nat} {x : Str} (h : names[i]? = some x) : c.env.kindOf x = some .local := by
  unfold Env.kindOf; rw [H.sc]; exact H.loc x (List.mem_of_getElem? h)
theorem Loc.glob {names : List Str} {scope : Scope} (H : Loc c names scope) {x : Str} (h : scope.names.lookup x = some .globalImplicit) : c.env.kindOf x = some .globalImplicit := by
  unfold Env.kindOf; rw [H.sc]; exact h

section
variable {prog : Program} {w : World} {A₀ A : Around} {s : Shared} {base h₀ : Heap} {outer : List Env} {L : Addr} {m : Str → Option Value} {env : Env} {news : List (Addr × Obj)} {K : Frag} {p : Program} {loose : List Str} {mean : ExcName → Option Value} {mg mb : Str → Option Value}
  {R : Result → Shared → Prop} {name qual : Str} {params : Arguments} {body : List Stmt} {scope : Scope} {dV kV doc pm cdv ct oc : Value} {an od : Option Addr} {osl : Array (Option Value)} {f : Addr} {args : Args} {binds : List (Str × Value)}

theorem hide_L (N : News h₀ L s.heap news) : ∀ o, s.heap.get? L = some o → (hideAll s.heap (news.map (·.1))).get? L = some o := fun o e =>
  hideAll_get _ e fun q => by
    obtain ⟨p, hp, e⟩ := List.mem_map.mp q
    exact (N p hp).2.1 e

/-- the entry of a def, with what stands at the caller's own namespace -/
theorem code_def2 (B : Below A₀ base outer h₀) (F : Fr h₀ L s.heap m) (X₀ : K.In h₀) (N : News h₀ L s.heap news) (T : Top p loose mean mg mb h₀) (hA : A.frames = some (env :: outer)) (hf : env.frame = some L) (hke : env.scope.kind = .function)
    (ho : K.lookup f = some ⟨oc, od, .func (fnOf name qual params body scope dV kV doc pm an cdv ct), osl⟩) (hcd : codeIn K cdv qual = true) (hroom : A.depth < recursionLimit)
    (hbind : BindsTo s (fnOf name qual params body scope dV kV doc pm an cdv ct) args binds) (hloc : ∀ y ∈ binds, scope.names.lookup y.1 = some .local)
    (h : ∀ g L' h₁, Fr h₀ L g m → Fr g L' h₁ (fun y => binds.reverse.lookup y) → News g L' h₁ news → Below A base (env :: outer) g → K.In g → Top p loose mean mg mb g → (∀ o, s.heap.get? L = some o → g.get? L = some o) →
      wpAny (model prog w) (A.deeper (envOf qual scope L' f cdv)) (execs body (envOf qual scope L' f cdv))
        (fun fl s' => LeaveK h₀ L m g R (match fl with | .ret v => v | _ => .none) s')
        (fun e s' => wpAny (model prog w) (A.deeper (envOf qual scope L' f cdv)) (leaving (envOf qual scope L' f cdv) e) (fun _ s'' => R (.error e) s'') (fun e' s'' => R (.error e') s'') s')
        { s with heap := h₁, toks := s.toks + binds.length })
    (hco : scope.isCoroutine = false) (hgen : scope.isGenerator = false) (hk : scope.kind = .function) (hcell : ∀ x ∈ scope.names, x.2 ≠ .cell) : codeAny (model prog w) A (.call (.ref f) args) R s := by
  obtain ⟨FG, BG, st, lv⟩ := groundX (R := R) B F N hA hf hke
  have ho' := (X₀.keeps F.keep) _ _ ho
  refine codeAny_call_def (fd := fnOf name qual params body scope dV kV doc pm an cdv ct) (body := body) (binds := binds) hroom ho' rfl (T.nolimit.keeps F.keep) (codeRec_of (X₀.keeps F.keep) hcd) rfl hbind hcell hloc (fun h₁ hns hk₁ => ?_) hco hgen hk
  exact wpAny_mono (h _ s.heap.objs.size h₁ FG ⟨hns, fun b o e => hk₁ b o (of_hideAll _ e), Nat.le_of_eq (hideAll_size _ _)⟩
    (fun p hp => ⟨hk₁ _ _ (N p hp).1, Nat.ne_of_lt (Heap.lt_size (N p hp).1), hideAll_none _ (List.mem_map_of_mem hp)⟩) BG (X₀.keeps st) (T.keeps st) (hide_L N)) (fun fl s' hl => lv _ _ hl) fun _ _ y => y

/-- the same for a def with cells -/
theorem code_defC2 (B : Below A₀ base outer h₀) (F : Fr h₀ L s.heap m) (X₀ : K.In h₀) (N : News h₀ L s.heap news) (T : Top p loose mean mg mb h₀) (hA : A.frames = some (env :: outer)) (hf : env.frame = some L) (hke : env.scope.kind = .function)
    (ho : K.lookup f = some ⟨oc, od, .func (fnOf name qual params body scope dV kV doc pm an cdv ct), osl⟩) (hcd : codeIn K cdv qual = true) (hroom : A.depth < recursionLimit)
    (hbind : BindsTo s (fnOf name qual params body scope dV kV doc pm an cdv ct) args binds)
    (hkind : ∀ n, ∀ x ∈ binds, scope.names.lookup x.1 = some .local ∨ (scope.names.lookup x.1 = some .cell ∧ ((cellsFrom n scope.names []).lookup x.1).isSome = true))
    (hnd : ((cellsFrom 0 scope.names []).map (·.1)).Nodup)
    (h : ∀ g L' h₁ tk cells, Fr h₀ L g m → Fr g L' h₁ (bindL (envOfC qual scope L' f cdv).kindOf binds fun _ => none) → News g L' h₁ (cells ++ news) →
      CellsAre (bindC (envOfC qual scope L' f cdv).kindOf binds fun _ => none) (cellsFrom (L' + 1) scope.names []) cells → Below A base (env :: outer) g → K.In g → Top p loose mean mg mb g → (∀ p ∈ news, p.1 < L') →
      (∀ o, s.heap.get? L = some o → g.get? L = some o) → s.toks ≤ tk →
      wpAny (model prog w) (A.deeper (envOfC qual scope L' f cdv)) (execs body (envOfC qual scope L' f cdv))
        (fun fl s' => LeaveK h₀ L m g R (match fl with | .ret v => v | _ => .none) s')
        (fun e s' => wpAny (model prog w) (A.deeper (envOfC qual scope L' f cdv)) (leaving (envOfC qual scope L' f cdv) e) (fun _ s'' => R (.error e) s'') (fun e' s'' => R (.error e') s'') s')
        { s with heap := h₁, toks := tk })
    (hco : scope.isCoroutine = false) (hgen : scope.isGenerator = false) (hk : scope.kind = .function) : codeAny (model prog w) A (.call (.ref f) args) R s := by
  obtain ⟨FG, BG, st, lv⟩ := groundX (R := R) B F N hA hf hke
  have ho' := (X₀.keeps F.keep) _ _ ho
  refine codeAny_call_function hroom ho' rfl hco hgen rfl (codeRec_of (X₀.keeps F.keep) hcd) (hbind _ _ _ _ ?_)
  refine wpAny_with_toks (Nat.le_refl s.toks) (wpAny_newFunctionEnv_cells hk (hkind _) fun env' he s' x htk => ?_)
  subst he
  refine ⟨(T.nolimit.keeps F.keep).keeps x.toInCall.keep, codeAny_func ?_⟩
  obtain ⟨h₁, tk, rfl, _⟩ := x.done
  have hk₁ := x.toInCall.keep
  obtain ⟨cells, NC, Y⟩ := Cl.news (h₀ := s.heap) (Nat.le_refl _) fun n c hm => ⟨x.cell n c (lookup_of_mem_nodup (cellsFrom_names scope.names 0 (s.heap.objs.size + 1) [] [] rfl ▸ hnd) hm), x.above n c hm⟩
  refine wpAny_mono (h _ s.heap.objs.size h₁ tk cells FG ⟨x.toInCall.ns, fun b o e => hk₁ b o (of_hideAll _ e), Nat.le_of_eq (hideAll_size _ _)⟩ (fun p hp => ?_) Y BG (X₀.keeps st) (T.keeps st) (fun p hp => Heap.lt_size (N p hp).1) (hide_L N) ?_) (fun fl s' hl => lv _ _ hl) fun _ _ y => y
  · rcases List.mem_append.mp hp with hp | hp
    · refine ⟨(NC p hp).1, (NC p hp).2.1, ?_⟩
      cases q : (hideAll s.heap (news.map (·.1))).get? p.1 with
      | none => rfl
      | some o => have := of_hideAll _ q; rw [(NC p hp).2.2] at this; cases this
    · exact ⟨hk₁ _ _ (N p hp).1, Nat.ne_of_lt (Heap.lt_size (N p hp).1), hideAll_none _ (List.mem_map_of_mem hp)⟩
  · exact htk
end

theorem fn_of_body {nm : Str} {f : Addr} {params : Arguments} {body : List Stmt} {scope : Scope} (D : DefAt G nm f params body scope)
    {d u : Nat} {vs : List PV} {R : VPost} (names : List Str)
    (hparams : ∀ (name qual : Str) (doc pm : Value) (an : Option Addr) (cdv ct : Value) (vals : List Value), vals.length = vs.length →
      bindArgs (fnOf name qual params body scope .none .none doc pm an cdv ct) ⟨vals, []⟩ = pure (names.zip vals))
    (hloc : ∀ x ∈ names, scope.names.lookup x = some .local) (hnd : names.Nodup)
    (hco : scope.isCoroutine = false) (hgen : scope.isGenerator = false) (hk : scope.kind = .function) (hcell : ∀ x ∈ scope.names, x.2 ≠ .cell)
    (hlen : vs.length ≤ names.length)
    (hbody : ∀ (c' : Act G) (F' : Led), Loc c' names scope → Room c' d u → (∀ p ∈ F, p ∈ F') →
      Ex c' (vs.map some ++ List.replicate (names.length - vs.length) none) O F' body fun pf σ' O' N => match pf with | .ret pv => R pv O' N | .next => R .none O' N | _ => False) :
    FnSpec G f (d + 1) (u + 3) vs O F R := by
  intro c σ F₁ room hsub vals hv s Q S k
  obtain ⟨oc, od, name, qual, doc, pm, an, cdv, ct, osl, ho, hcd⟩ := D.obj
  have S₀ := S
  obtain ⟨⟨mf, C, h1, h2, h3, h4⟩, h5, h6, h7⟩ := S
  have hlenv : vals.length = vs.length := (hv.length).symm
  refine wpAny_call (code_def2 c.B h1 c.X h2 c.T c.hA c.hf c.hk ho hcd (by have := room.1; omega) (BindsTo.of_eq (hparams _ _ _ _ _ _ _ vals hlenv)) (fun y hy => hloc _ (List.of_mem_zip hy).1) ?_ hco hgen hk hcell)
  intro g L' h₁ FG F' N' B' X' T' gL
  let env' : Env := envOf qual scope L' f cdv
  let c' : Act G := { A := c.A.deeper env', fenv := env', env := env', L := L', h0 := g, A0 := c.A, base := c.base, outer := c.fenv :: c.outer, names := names, cells := [], B := B', X := X', T := T',
                      hA := Around.frames_deeper c.hA, hf := rfl, hk := hk, hek := hk, hhan := c.hhan, hglob := rfl, hbi := rfl, hnd := hnd }
  have hL : Loc c' names scope := ⟨rfl, rfl, rfl, hloc, ⟨rfl, fun x a h => by cases h⟩⟩
  have room' : Room c' d u := ⟨by show c.A.depth + 1 + d < _; have := room.1; omega, by show c.A.units + 3 + u < _; have := room.2; omega⟩
  have hb := hbody c' (F₁ ++ C) hL room' fun p hp => List.mem_append_left _ (hsub p hp)
  have S' : St c' (vs.map some ++ List.replicate (names.length - vs.length) none) O (F₁ ++ C) ⟨h₁, s.gens, s.drawn, s.toks + (names.zip vals).length, s.os⟩ := by
    refine ⟨⟨_, [], F', news_sub N' fun p hp => ?_, rfl, ?_⟩, ?_, Nat.lt_of_lt_of_le h6 (Nat.le_add_right _ _), ⟨fun q => (q rfl).elim, fun a ha => nomatch ha⟩⟩
    · simp only [List.nil_append, List.mem_append] at hp ⊢; grind
    · intro i x pv hx hσ
      have hi : i < vs.length := by
        rcases Nat.lt_or_ge i vs.length with h | h
        · exact h
        · exfalso
          rw [List.getElem?_append_right (by simpa using h)] at hσ
          rw [List.getElem?_replicate] at hσ
          split at hσ <;> cases hσ
      rw [List.getElem?_append_left (by simpa using hi)] at hσ
      obtain ⟨v, hvv, iv⟩ := hv.get (i := i) (a := pv) (by
        rw [List.getElem?_map] at hσ
        cases h : vs[i]? with
        | none => rw [h] at hσ; cases hσ
        | some q => rw [h] at hσ; simp at hσ; rw [hσ])
      exact ⟨v, iv, .loc (hL.kind hx) rfl (lookup_zip_rev hnd hx hvv)⟩
    · show (([] : List Addr) ++ List.map Prod.fst (O ++ (F₁ ++ C))).Nodup
      rw [← h3] at h5
      simp only [List.map_append, List.nil_append] at h5 ⊢
      refine (List.Perm.nodup_iff ?_).mp h5
      refine (List.perm_append_comm).trans ?_
      rw [List.append_assoc]
  refine wpAny_mono (hb _ (fun fl s' => LeaveK c.h0 c.L mf g (fun r s' => match r with | .ok (.ret v) => Q v s' | .ok _ => False | .error e => NoE e s') (match fl with | .ret v => v | _ => .none) s') S' ?_) (fun _ _ h => h) (fun _ _ h => False.elim h)
  rintro fl σ' O' N h' tk ⟨pf, hp, ip⟩ S2 ht2
  obtain ⟨⟨mf', C', a1, a2, a3, a4⟩, a5, a6⟩ := S2
  have hC' : C' = [] := by
    cases C' with
    | nil => rfl
    | cons p r => cases a3
  subst hC'
  refine leaveK_ a1 a2 fun q1 q2 => ?_
  have S3 : ∀ pv, R pv O' N → St c σ O' (N ++ F₁) (upd s h' tk) := fun pv _ => by
    refine ⟨⟨mf, C, q1, news_sub q2 fun p hp => ?_, h3, h4.mono fun p hp => List.mem_append_right _ hp⟩, ?_, a6, h7.of (fun _ e => a1.keep _ _ (gL _ e)) fun a ha o e => ?_⟩
    · simp only [List.nil_append, List.mem_append] at hp ⊢; grind
    · have a5' : (([] : List Addr) ++ List.map Prod.fst (O' ++ (N ++ (F₁ ++ C)))).Nodup := a5
      rw [← h3]
      simp only [List.map_append, List.nil_append] at a5' ⊢
      refine (List.Perm.nodup_iff ?_).mp a5'
      have e1 : List.map Prod.fst O' ++ (List.map Prod.fst N ++ (List.map Prod.fst F₁ ++ List.map Prod.fst C)) = (List.map Prod.fst O' ++ (List.map Prod.fst N ++ List.map Prod.fst F₁)) ++ List.map Prod.fst C := by simp only [List.append_assoc]
      rw [e1]
      exact List.perm_append_comm
    · obtain ⟨_, _, o', ho', e'⟩ := cells_at h2 h3 ha
      rw [e] at e'; cases e'
      exact (a2 (a, o) (by simp only [List.nil_append, List.mem_append]; grind)).1
  have ht3 : s.toks ≤ tk := Nat.le_trans (Nat.le_add_right _ _) ht2
  cases pf with
  | ret pv =>
    obtain ⟨v, rfl, iv⟩ := ip
    exact k v σ O' N h' tk ⟨rfl, pv, hp, iv⟩ (S3 pv hp) ht3
  | next =>
    cases ip
    exact k .none σ O' N h' tk ⟨rfl, .none, hp, rfl⟩ (S3 .none hp) ht3
  | brk => exact hp.elim
  | cont => exact hp.elim

/-! names over Loc -/
theorem v_ {names : List Str} {scope : Scope} (H : Loc c names scope) (i : Nat) {x : Str} {pos : Pos} {pv : PV} (hx : names[i]? = some x) (hv : σ[i]? = some (some pv)) (hd : (x == Str.ofString "__debug__") = false := by decide) :
    Evp c σ O F (.Name x pos) pv := ev_var i (H.name hx) hv hd
theorem asg_ {names : List Str} {scope : Scope} (H : Loc c names scope) (i : Nat) {x : Str} {p pos : Pos} {e : Expr} {P : FPost} (hx : names[i]? = some x) (hi : i < σ.length) (he : Ev c σ O F e fun pv O' N => P .next (σ.set i (some pv)) O' N)
    (hs : swapsWith e (some (.Name x p)) pos.line c.env = pure false := by rfl) : Ex1 c σ O F (.Assign [.Name x p] e pos) P :=
  ex_asg i he (H.name hx) (H.kind hx) H.L hi hs

end
end Mine
end
section
open PySem PySem.W PyProof.Rows PySem.Calls
set_option autoImplicit false
set_option linter.unusedVariables false
namespace Mine
section
variable {G : GC} {c : Act G} {σ : Sto} {O F : Led} {s : Shared}

/-! built-in names -/
theorem ev_bname {x : Str} {pos : Pos} {v : Value} {pv : PV} {R : VPost} (e : nsIn G.K mainGlobals x = some none) (hv : bootBuiltins x = some v) (hx : c.env.kindOf x = some .globalImplicit) (hn : x ≠ Str.ofString "__name__")
    {T2 : Value → (Value → Shared → Prop) → Shared → Prop} (h : TG c σ O F (T2 v) (RV σ R)) (hd : (x == Str.ofString "__debug__") = false := by decide) :
    TG c σ O F (fun Q s => wpAny G.M c.A (eval (.Name x pos) c.env) (fun v s1 => T2 v Q s1) NoE s) (RV σ R) := by
  intro s Q S k
  have S₀ := S
  obtain ⟨⟨mf, C, h1, h2, h3, h4⟩, h5, h6, h7⟩ := S
  have T := topRead_of c.T
  exact Name_function_global c.hek hx (loadGlobal_builtin (by rw [c.hglob]; exact T.g.keeps h1.keep) (mg_none_of c.X T.g e) (by rw [c.hbi]; exact T.b.keeps h1.keep) ((T.builtins x hn).trans hv) (h s Q S₀ k)) hd

/-- a built-in function by its name -/
theorem ev_bcall {x : Str} {p pos : Pos} {id : String} {e : Expr} {rest : List Expr} {R : VPost} (ns : nsIn G.K mainGlobals x = some none) (hv : bootBuiltins x = some (.builtin id)) (hx : c.env.kindOf x = some .globalImplicit)
    (h : TA c σ O F pos (e :: rest) fun pvs O1 N1 => ∀ vals, All2 PV.Is pvs vals → TV c σ O1 (N1 ++ F) (call (.builtin id) vals) fun r O2 N2 => R r O2 (N2 ++ N1))
    (hn : x ≠ Str.ofString "__name__" := by decide)
    (he : ∀ env, starEach (e :: rest) env = (false, eval e env) :: starEach rest env := by intro _; rfl)
    (hplain : ∀ (pos : Pos) env, (backTo pos (starEach rest env)).any (·.1) = false := by intro _ _; rfl)
    (hd : (x == Str.ofString "__debug__") = false := by decide) : Ev c σ O F (.Call (.Name x p) (e :: rest) [] pos) R :=
  TG.of (ev_bname (pv := .none) (T2 := fun f Q s1 => wpAny G.M c.A (callWith pos f [] (backTo pos (starEach (e :: rest) c.env)) []) Q NoE s1) ns hv hx hn
    (TG.of (TA.bindG (T2 := fun vs (Q : Value → Shared → Prop) s1 => wpAny G.M c.A (call (.builtin id) vs) Q NoE s1) h fun vs pvs O1 N1 hr i => hr vs i) fun Q s h => by
      have e1 : backTo pos (starEach (e :: rest) c.env) = (false, eval e c.env) :: backTo pos (starEach rest c.env) := by rw [he]; rfl
      refine callWith_builtin (by rw [e1]; simp [hplain]) ?_
      rw [e1] at h ⊢
      exact evalArgs_plain (wpAny_mono h (fun vs s1 q => by simpa using q) fun _ _ e => e)) hd) fun Q s h => Call_ h
/-- a built-in type by its name -/
theorem ev_tcall {x : Str} {p pos : Pos} {id : String} {e : Expr} {rest : List Expr} {R : VPost} (ns : nsIn G.K mainGlobals x = some none) (hv : bootBuiltins x = some (.type id)) (hx : c.env.kindOf x = some .globalImplicit)
    (h : TA c σ O F pos (e :: rest) fun pvs O1 N1 => ∀ vals, All2 PV.Is pvs vals → TV c σ O1 (N1 ++ F) (call (.type id) vals) fun r O2 N2 => R r O2 (N2 ++ N1))
    (hn : x ≠ Str.ofString "__name__" := by decide)
    (he : ∀ env, starEach (e :: rest) env = (false, eval e env) :: starEach rest env := by intro _; rfl)
    (hplain : ∀ (pos : Pos) env, (backTo pos (starEach rest env)).any (·.1) = false := by intro _ _; rfl)
    (hd : (x == Str.ofString "__debug__") = false := by decide) : Ev c σ O F (.Call (.Name x p) (e :: rest) [] pos) R :=
  TG.of (ev_bname (pv := .none) (T2 := fun f Q s1 => wpAny G.M c.A (callWith pos f [] (backTo pos (starEach (e :: rest) c.env)) []) Q NoE s1) ns hv hx hn
    (TG.of (TA.bindG (T2 := fun vs (Q : Value → Shared → Prop) s1 => wpAny G.M c.A (call (.type id) vs) Q NoE s1) h fun vs pvs O1 N1 hr i => hr vs i) fun Q s h =>
      PyProof.Rows.callWith_type1 h (he _) (hplain _ _)) hd) fun Q s h => Call_ h

/-! values of the built-ins -/
theorem All2.one {α β : Type} {R : α → β → Prop} {a : α} {bs : List β} (h : All2 R [a] bs) : ∃ b, bs = [b] ∧ R a b := by
  cases h with | cons h1 h2 => cases h2; exact ⟨_, rfl, h1⟩
theorem All2.two {α β : Type} {R : α → β → Prop} {a a' : α} {bs : List β} (h : All2 R [a, a'] bs) : ∃ b b', bs = [b, b'] ∧ R a b ∧ R a' b' := by
  cases h with | cons h1 h2 => obtain ⟨b, rfl, h3⟩ := h2.one; exact ⟨_, _, rfl, h1, h3⟩
theorem All2.three {α β : Type} {R : α → β → Prop} {a a' a'' : α} {bs : List β} (h : All2 R [a, a', a''] bs) : ∃ b b' b'', bs = [b, b', b''] ∧ R a b ∧ R a' b' ∧ R a'' b'' := by
  cases h with | cons h1 h2 => obtain ⟨b, b', rfl, h3⟩ := h2.two; exact ⟨_, _, _, rfl, h1, h3⟩

theorem bi_len_str {x : Str} {t : Tok} (h : x.length ≤ 1048576) : TVp c σ O F (call (.builtin "len") [.str x t]) (.int x.length) :=
  TV.pure fun s Q S k => SBL.len (by omega) (k _ s.heap _ ⟨_, rfl⟩ fun _ _ e => e)
theorem bi_ord {n : Nat} {t : Tok} : TVp c σ O F (call (.builtin "ord") [.str ⟨#[n]⟩ t]) (.int n) :=
  TV.pure fun s Q S k => P.ord_of_char (k _ s.heap _ ⟨_, rfl⟩ fun _ _ e => e)
theorem bi_chr {n : Nat} {t : Tok} (h : n ≤ 1114111) : TVp c σ O F (call (.builtin "chr") [.int (n : Int) t]) (.str ⟨#[n]⟩) :=
  TV.pure fun s Q S k => chr_of_range (by omega) (by omega) (k _ s.heap _ ⟨s.toks, by simp⟩ fun _ _ e => e)
theorem bi_min2 {a b : Int} {t u : Tok} : TVp c σ O F (call (.builtin "min") [.int a t, .int b u]) (.int (if b < a then b else a)) :=
  TV.pure fun s Q S k => min_two_ints c.hhan fun h' tk hk => k _ h' tk (by split <;> exact ⟨_, rfl⟩) hk

theorem ev_len {p pos : Pos} {e : Expr} {x : Str} (ns : nsIn G.K mainGlobals (Str.ofString "len") = some none) (hx : c.env.kindOf (Str.ofString "len") = some .globalImplicit) (he : Evp c σ O F e (.str x)) (h : x.length ≤ 1048576)
    (hst : ∀ env, starEach [e] env = [(false, eval e env)] := by intro _; rfl) :
    Evp c σ O F (.Call (.Name (Str.ofString "len") p) [e] [] pos) (.int x.length) :=
  ev_bcall ns (by boot_fast) hx (ta_consp he (ta_nil fun vals hv => by
    obtain ⟨v, rfl, t, rfl⟩ := hv.one
    exact TV.mono (bi_len_str h) fun pv O' N h => by simpa using h) hst) (he := hst)

/-! methods -/
theorem meth_str {o : Expr} {name : Str} {apos pos : Pos} {args : List Expr} {id : String} {x : Str} {R : VPost} (ho : Evp c σ O F o (.str x)) (slot : Slot "str" name id) (ty : typeOf (.builtin id) = pure (.type "method_descriptor"))
    (hbase : attributeBase o name c.env (eval o c.env) = eval o c.env)
    (hfew : ((backTo pos (starEach args c.env)).all (fun x => !x.1) && (backToKw pos (keywordEach [] c.env)).all (fun x => x.1.isSome) && decide (args.length + ([] : List Keyword).length + (if ([] : List Keyword).isEmpty then 0 else 1) < 30)) = true)
    (hline : (apos.endLine == pos.line) = true)
    (h : ∀ t, TG c σ O F (fun (Q : Value → Shared → Prop) s => wpAny G.M c.A (callWith pos (.builtin id) [.str x t] (backTo pos (starEach args c.env)) []) Q NoE s) (RV σ R)) :
    Ev c σ O F (.Call (.Attribute o name apos) args [] pos) R :=
  TG.of (TV.bindp (T2 := fun ov (Q : Value → Shared → Prop) s1 => MethodOnS G.prog G.w c.A NoE name ov pos (backTo pos (starEach args c.env)) Q s1) ho fun v ⟨t, e⟩ => by
    subst e
    exact TG.of (h t) fun Q s h => ⟨"str", id, PySem.F.plainAttrs_str, slot, ty, typeIs_str _ _ _, (fun _ e => nomatch e), h⟩) fun Q s h => wpAny_Call_method_lateS hbase hfew hline h

theorem ev_lower {o : Expr} {apos pos : Pos} {x : Str} (ho : Evp c σ O F o (.str x)) (h : x.length ≤ 1048576) (hbase : attributeBase o (Str.ofString "lower") c.env (eval o c.env) = eval o c.env := by rfl) (hline : (apos.endLine == pos.line) = true := by rfl) :
    Evp c σ O F (.Call (.Attribute o (Str.ofString "lower") apos) [] [] pos) (.str (Txt.lower x)) :=
  meth_str ho PySem.F.slot_str_lower rfl hbase rfl hline fun t =>
    TG.of (TV.pure fun s Q S k => SCL.lower (by omega) fun _ => k _ s.heap _ ⟨_, rfl⟩ fun _ _ e => e : TVp c σ O F (call (.builtin "str.lower") [.str x t]) (.str (Txt.lower x))) fun Q s h => callWith_method0 h
end
end Mine
end
section
open PySem PySem.W PyProof.Rows PySem.Calls
set_option autoImplicit false
set_option linter.unusedVariables false
namespace Mine

/-! ### texts as lists of their signs -/
def mk (l : List Nat) : Str := ⟨l.toArray⟩
abbrev PV.s (l : List Nat) : PV := .str (mk l)

theorem mk_length (l : List Nat) : (mk l).length = l.length := by simp [mk, Str.length]
theorem mk_cps (l : List Nat) : (mk l).cps.toList = l := by simp [mk]
theorem mk_append (a b : List Nat) : mk a ++ mk b = mk (a ++ b) := by
  show Str.append (mk a) (mk b) = _
  simp [Str.append, mk]
theorem mk_inj {a b : List Nat} (h : mk a = mk b) : a = b := by
  have := congrArg (fun s => s.cps.toList) h
  simpa [mk] using this
theorem mk_eq (a b : List Nat) : (mk a == mk b) = (a == b) := by
  by_cases h : a = b
  · subst h; simp
  · have : mk a ≠ mk b := fun e => h (mk_inj e)
    rw [beq_eq_false_iff_ne.mpr h, beq_eq_false_iff_ne.mpr this]
theorem mk_ne (a b : List Nat) : (mk a != mk b) = (a != b) := by simp only [bne, mk_eq]
theorem mk_toList (x : Str) : mk x.cps.toList = x := by simp [mk]

theorem slice_eq (x : Str) (l u : Option Int) : Txt.slice x l u = StrLaws.sliceText x l u := by
  first | rfl | (unfold Txt.slice StrLaws.sliceText; rfl)
theorem slice_from {l : List Nat} {a : Nat} (h : a ≤ l.length) : Txt.slice (mk l) (some (a : Int)) none = mk (l.drop a) := by
  rw [slice_eq, StrLaws.sliceText_from ⟨by omega, by rw [mk_cps]; omega⟩, mk_cps]
  simp only [Int.toNat_natCast]
  rw [show ((l.length : Int) - (a : Int)).toNat = (l.drop a).length by simp, List.take_length]
  rfl
theorem slice_to {l : List Nat} {a : Nat} (h : a ≤ l.length) : Txt.slice (mk l) none (some (a : Int)) = mk (l.take a) := by
  rw [slice_eq, StrLaws.sliceText_to ⟨by omega, by rw [mk_cps]; omega⟩, mk_cps]
  simp [mk]
theorem slice_all (l : List Nat) : Txt.slice (mk l) none none = mk l := by
  have e : Txt.slice (mk l) none none = Txt.slice (mk l) (some ((0 : Nat) : Int)) none := by
    rw [slice_eq, slice_eq]; unfold StrLaws.sliceText; rfl
  rw [e, slice_from (Nat.zero_le _)]; simp
theorem slice_to_neg {l : List Nat} {a : Nat} (h : a ≤ l.length) (h0 : 0 < a) : Txt.slice (mk l) none (some (-(a : Int))) = mk (l.take (l.length - a)) := by
  rw [slice_eq, StrLaws.sliceText_to_neg (by omega) (by rw [mk_length]; omega), mk_cps, mk_length]
  simp only [List.drop_zero]
  rw [show (-(a : Int) + (l.length : Int) - 0).toNat = l.length - a by omega]
  rfl
theorem slice_mid {l : List Nat} {a b : Nat} (hab : a ≤ b) (hb : b ≤ l.length) : Txt.slice (mk l) (some (a : Int)) (some (b : Int)) = mk ((l.drop a).take (b - a)) := by
  rw [slice_eq, StrLaws.sliceText_nat _ hab (by rw [mk_length]; exact hb), mk_cps]; rfl
theorem slice_lo_beyond {l : List Nat} {a : Nat} (h : l.length ≤ a) : Txt.slice (mk l) (some (a : Int)) none = mk [] := slice_from_beyond (x := mk l) (by rw [mk_length]; omega)

theorem item_pos {l : List Nat} {i : Nat} (h : i < l.length) : Txt.item (mk l) (i : Int) = mk [l[i]] := by
  rw [item_meets (n := l[i]) (by omega) (by simp [mk, h])]; rfl

section
variable {G : GC} {c : Act G} {σ : Sto} {O F : Led} {s : Shared}

/-! subscripts -/
def partPV : Option Int → PV
  | none => .none
  | some i => .int i
theorem part_none : TVp c σ O F (evalPart none c.env) (partPV none) := TV.pure fun s Q S k => evalPart_none_step (k _ s.heap s.toks rfl fun _ _ e => e)
theorem part_some {e : Expr} {o : Option Int} (h : Evp c σ O F e (partPV o)) : TVp c σ O F (evalPart (some e) c.env) (partPV o) := TG.of h fun Q s h => evalPart_some_step h

theorem ev_item {value slice : Expr} {pos : Pos} {po pi : PV} {R : VPost} (ho : Evp c σ O F value po) (hi : Evp c σ O F slice pi)
    (h : ∀ vo vi, po.Is vo → pi.Is vi → TV c σ O F (subscriptTail value slice vo vi) R) : Ev c σ O F (.Subscript value slice pos) R :=
  TG.of (TV.bindp ho fun vo io => TV.bindp hi fun vi ii => h vo vi io ii) fun Q s h => Subscript_ h

theorem ev_stritem {value slice : Expr} {pos : Pos} {x : Str} {i : Int} (ho : Evp c σ O F value (.str x)) (hi : Evp c σ O F slice (.int i)) (h1 : -(x.length : Int) ≤ i) (h2 : i < x.length) (h3 : x.length ≤ 1048576)
    (hs : ∀ o i, subscripted slice false o i = operate [o, i] (getItem o i) := by intro _ _; rfl) : Evp c σ O F (.Subscript value slice pos) (.str (Txt.item x i)) :=
  ev_item ho hi fun vo vi ⟨t, e1⟩ ⟨u, e2⟩ => by
    subst e1 e2
    exact TV.pure fun s Q S k => by
      obtain ⟨T, id, q1, q2, q3⟩ := SBL.item (prog := G.prog) (w := G.w) (A := c.A) (E := NoE) (Q := Q) (s := s) (t := t) (u := u) h1 h2 (by omega) fun _ => k _ s.heap _ ⟨_, rfl⟩ fun _ _ e => e
      exact tail_any q2 q1 q3 (hs _ _)

theorem ev_strslice {value : Expr} {lower upper : Option Expr} {p pos : Pos} {x : Str} (l u : Option Int) (ho : Evp c σ O F value (.str x)) (hl : TVp c σ O F (evalPart lower c.env) (partPV l)) (hu : TVp c σ O F (evalPart upper c.env) (partPV u)) (hx : x.length ≤ 1048576) :
    Evp c σ O F (.Subscript value (.Slice lower upper none p) pos) (.str (Txt.slice x l u)) := by
  have hsz : x.length ≤ sizeLine := by rw [sizeLine_eq]; omega
  refine TG.of (T := fun Q s => wpAny G.M c.A (eval value c.env) (fun o s₁ => wpAny G.M c.A (evalPart lower c.env) (fun vl s₂ => wpAny G.M c.A (evalPart upper c.env) (fun vu s₃ =>
      wpAny G.M c.A (subscriptTail value (.Slice lower upper none p) o (.ref s₃.heap.objs.size)) Q NoE { s₃ with heap := s₃.heap.push { cls := .type "slice", data := .fields #[vl, vu, .none] } }) NoE s₂) NoE s₁) NoE s) ?_ ?_
  · refine TV.bindp (T2 := fun o Q s₁ => wpAny G.M c.A (evalPart lower c.env) (fun vl s₂ => wpAny G.M c.A (evalPart upper c.env) (fun vu s₃ =>
      wpAny G.M c.A (subscriptTail value (.Slice lower upper none p) o (.ref s₃.heap.objs.size)) Q NoE { s₃ with heap := s₃.heap.push { cls := .type "slice", data := .fields #[vl, vu, .none] } }) NoE s₂) NoE s₁) ho fun vo ⟨t, e⟩ => ?_
    subst e
    refine TV.bindp (T2 := fun vl Q s₂ => wpAny G.M c.A (evalPart upper c.env) (fun vu s₃ =>
      wpAny G.M c.A (subscriptTail value (.Slice lower upper none p) (.str x t) (.ref s₃.heap.objs.size)) Q NoE { s₃ with heap := s₃.heap.push { cls := .type "slice", data := .fields #[vl, vu, .none] } }) NoE s₂) hl fun vl il => ?_
    refine TV.bindp (T2 := fun vu Q s₃ =>
      wpAny G.M c.A (subscriptTail value (.Slice lower upper none p) (.str x t) (.ref s₃.heap.objs.size)) Q NoE { s₃ with heap := s₃.heap.push { cls := .type "slice", data := .fields #[vl, vu, .none] } }) hu fun vu iu => ?_
    refine TG.pure (P := (PV.str (Txt.slice x l u)).Is) (fun Q Q' hq s h => wpAny_mono h (fun b s' e => hq b s' e) fun _ _ e => e) (fun Q s h => ?_) ?_ fun v i => ⟨rfl, _, ⟨rfl, rfl, rfl⟩, i⟩
    · exact wpAny_mono (wpAny_toks h) (fun _ _ e => e) fun _ _ e => e.2
    intro s Q S k
    let P : Heap → Prop := fun h => ∀ b o, s.heap.get? b = some o → h.get? b = some o
    have hk : KeptH P := fun h ob hp b o e => Heap.get?_push_of_some _ (hp b o e)
    have h0 : P s.heap := fun _ _ e => e
    have fin : ItemOn G.M c.A NoE (.str x t) (.ref s.heap.objs.size) Q { s with heap := s.heap.push { cls := .type "slice", data := .fields #[vl, vu, .none] } } := by
      cases l with
      | none =>
        cases il
        cases u with
        | none => cases iu; exact SBH.sliceItem_nn hk h0 (fun h' t' k' hp => k _ h' k' ⟨t', rfl⟩ hp) hsz
        | some j => obtain ⟨tj, rfl⟩ := iu; exact SBH.sliceItem_ns hk h0 (fun h' t' k' hp => k _ h' k' ⟨t', rfl⟩ hp) hsz
      | some i =>
        obtain ⟨ti, rfl⟩ := il
        cases u with
        | none => cases iu; exact SBH.sliceItem_sn hk h0 (fun h' t' k' hp => k _ h' k' ⟨t', rfl⟩ hp) hsz
        | some j => obtain ⟨tj, rfl⟩ := iu; exact SBH.sliceItem_ss hk h0 (fun h' t' k' hp => k _ h' k' ⟨t', rfl⟩ hp) hsz
    obtain ⟨T, id, q1, q2, q3⟩ := fin
    exact tail_any q2 q1 q3 rfl
  · intro Q s h
    refine Subscript_ (wpAny_mono h (fun o s₁ h₁ => wpAny_Slice (wpAny_mono h₁ (fun vl s₂ h₂ => wpAny_mono h₂ (fun vu s₃ h₃ => ?_) fun _ _ e => e) fun _ _ e => e)) fun _ _ e => e)
    exact wpAny_pure h₃
end
end Mine
end
section
open PySem PySem.W PyProof.Rows PySem.Calls
set_option autoImplicit false
set_option linter.unusedVariables false
namespace Mine

def ListO (xs : List PV) (o : Obj) : Prop := ∃ (vs : Array Value) (n : Nat), o = W.listOf vs n ∧ All2 PV.Is xs vs.toList
def TupO (xs : List PV) (o : Obj) : Prop := ∃ (vs : Array Value), o = { cls := .type "tuple", data := .seq vs } ∧ All2 PV.Is xs vs.toList

theorem ListO.free {xs : List PV} {o : Obj} (h : ListO xs o) : o.isFreed = false := by obtain ⟨vs, n, rfl, _⟩ := h; rfl

section
variable {G : GC} {c : Act G} {σ : Sto} {O F : Led} {s : Shared}

/-! ### moving entries about -/
theorem St.move (S : St c σ O F s) {O' F' : Led} (hp : (O ++ F).Perm (O' ++ F')) (hF : ∀ p ∈ F, p ∈ F') : St c σ O' F' s := by
  obtain ⟨⟨mf, C, h1, h2, h3, h4⟩, h5, h6, h7⟩ := S
  refine ⟨⟨mf, C, h1, news_sub h2 fun p hq => ?_, h3, h4.mono hF⟩, ?_, h6, h7⟩
  · rcases List.mem_append.mp hq with q | q
    · exact List.mem_append_left _ q
    · exact List.mem_append_right _ (hp.mem_iff.mpr q)
  · exact (List.Perm.nodup_iff (List.Perm.append_left _ (hp.map _))).mp h5

theorem St.drop (S : St c σ O F s) {O' : Led} (hs : O'.Sublist O) : St c σ O' F s := by
  obtain ⟨⟨mf, C, h1, h2, h3, h4⟩, h5, h6, h7⟩ := S
  refine ⟨⟨mf, C, h1, news_sub h2 fun p hq => ?_, h3, h4⟩, ?_, h6, h7⟩
  · have := hs.subset
    simp only [List.mem_append] at hq ⊢
    rcases hq with q | q | q
    · exact .inl q
    · exact .inr (.inl (this q))
    · exact .inr (.inr q)
  · exact h5.sublist (List.Sublist.append_left ((hs.append_right _).map _) _)

/-- the owned entries reordered -/
theorem TG.permO {β : Type} {O' : Led} {T : (β → Shared → Prop) → Shared → Prop} {R : β → Sto → Led → Led → Prop} (hp : O.Perm O') (h : TG c σ O' F T R) : TG c σ O F T R :=
  fun s Q S k => h s Q (S.move (hp.append_right _) fun _ q => q) k
theorem TG.dropO {β : Type} {O' : Led} {T : (β → Shared → Prop) → Shared → Prop} {R : β → Sto → Led → Led → Prop} (hs : O'.Sublist O) (h : TG c σ O' F T R) : TG c σ O F T R :=
  fun s Q S k => h s Q (S.drop hs) k

/-- an owned entry is frozen for good -/
theorem TG.freezeN {β : Type} {p : Addr × Obj} {T : (β → Shared → Prop) → Shared → Prop} {R : β → Sto → Led → Led → Prop} (h : TG c σ O (p :: F) T fun b σ' O' N => R b σ' O' (N ++ [p])) : TG c σ (p :: O) F T R := by
  intro s Q S k
  have S1 : St c σ O (p :: F) s := S.move (by simpa using (List.perm_middle (a := p) (l₁ := O) (l₂ := F)).symm) fun _ q => .tail _ q
  refine h s Q S1 fun b σ' O' N hh tk r S2 ht => k b σ' O' (N ++ [p]) hh tk r ?_ ht
  simpa using S2
/-- an owned entry is frozen while this lasts -/
theorem TG.freeze {β : Type} {p : Addr × Obj} {T : (β → Shared → Prop) → Shared → Prop} {R : β → Sto → Led → Led → Prop}
    (hvar : ∀ x a, c.env.cells.lookup x = some a → a ∈ c.cells) (hl : c.env.locals = c.L)
    (h : TG c σ O (p :: F) T fun b σ' O' N => R b σ' (p :: O') N) : TG c σ (p :: O) F T R := by
  intro s Q S k
  have S1 : St c σ O (p :: F) s := S.move (by simpa using (List.perm_middle (a := p) (l₁ := O) (l₂ := F)).symm) fun _ q => .tail _ q
  refine h s Q S1 fun b σ' O' N hh tk r S2 ht => k b σ' (p :: O') N hh tk r ?_ ht
  obtain ⟨⟨mf, C, h1, h2, h3, h4⟩, h5, h6, h7⟩ := S2
  have hp : (O' ++ (N ++ p :: F)).Perm ((p :: O') ++ (N ++ F)) := by
    rw [← List.append_assoc, List.cons_append, ← List.append_assoc]
    exact List.perm_middle
  refine ⟨⟨mf, C, h1, news_sub h2 fun q hq => ?_, h3, ?_⟩, (List.Perm.nodup_iff (List.Perm.append_left _ (hp.map _))).mp h5, h6, h7⟩
  · rcases List.mem_append.mp hq with q | q
    · exact List.mem_append_left _ q
    · exact List.mem_append_right _ (hp.mem_iff.mpr q)
  · intro i x pv hx hv
    obtain ⟨v, iv, H⟩ := h4 i x pv hx hv
    refine ⟨v, iv, ?_⟩
    cases H with
    | loc a1 a2 a3 => exact .loc a1 a2 a3
    | comp a1 o m a2 a3 a4 =>
      exfalso
      have := (h2 _ (List.mem_append_right _ (List.mem_append_right _ a2))).2.1
      exact this hl
    | cell a1 a o a2 a3 a4 =>
      refine .cell a1 a o a2 ?_ a4
      have ha := hvar x a a2
      rw [← h3] at ha
      obtain ⟨q, hq, rfl⟩ := List.mem_map.mp ha
      have e1 := (h2 _ (List.mem_append_left _ hq)).1
      have e2 : (upd s hh tk).heap.get? q.1 = some o := by
        rcases List.mem_append.mp a3 with z | z
        · exact (h2 _ (List.mem_append_left _ z)).1
        · exact (h2 _ (List.mem_append_right _ (List.mem_append_right _ z))).1
      rw [e1] at e2
      cases e2
      exact List.mem_append_left _ hq

/-- the head of the owned entries is turned -/
theorem St.setHead {a : Addr} {o o' : Obj} (S : St c σ ((a, o) :: O) F s) {h : Heap} {tk : Nat} (hs : Heap.SameBut a s.heap h) (ho : h.get? a = some o') (ht : s.toks ≤ tk) : St c σ ((a, o') :: O) F (upd s h tk) := by
  obtain ⟨⟨mf, C, h1, h2, h3, h4⟩, h5, h6, h7⟩ := S
  have hA := h2 (a, o) (List.mem_append_right _ (List.mem_append_left _ (.head _)))
  have hnot : ∀ p ∈ C ++ (O ++ F), p.1 ≠ a := by
    intro p hp e
    rw [← h3] at h5
    simp only [List.map_append, List.map_cons, List.cons_append] at h5
    have hq := (List.Perm.nodup_iff (List.perm_middle)).mp h5
    have := (List.nodup_cons.mp hq).1
    apply this
    rw [← e]
    simp only [List.mem_append, List.mem_map] at hp ⊢
    rcases hp with z | z | z
    · exact .inl ⟨p, z, rfl⟩
    · exact .inr (.inl ⟨p, z, rfl⟩)
    · exact .inr (.inr ⟨p, z, rfl⟩)
  refine ⟨⟨mf, C, ⟨h1.ns.sameBut hs (fun e => hA.2.1 e.symm), fun b ob e => (hs.2 b fun q => ?_).trans (h1.keep b ob e), h1.above⟩, fun p hp => ?_, h3, h4⟩, ?_, Nat.lt_of_lt_of_le h6 ht, h7.of (fun _ e => (hs.2 _ fun e => hA.2.1 e.symm).trans e) fun b hb o e => (hs.2 b fun q => by obtain ⟨_, _, o', ho', _⟩ := cells_at h2 h3 hb; exact hnot _ (List.mem_append_left _ ho') q).trans e⟩
  · have := hA.2.2; rw [q] at e; rw [this] at e; cases e
  · rcases List.mem_append.mp hp with z | z
    · exact ⟨(hs.2 _ (hnot p (List.mem_append_left _ z))).trans (h2 p (List.mem_append_left _ z)).1, (h2 p (List.mem_append_left _ z)).2⟩
    · rcases List.mem_append.mp z with z | z
      · rcases List.mem_cons.mp z with rfl | z
        · exact ⟨ho, hA.2⟩
        · have w := h2 p (List.mem_append_right _ (List.mem_append_left _ (.tail _ z)))
          exact ⟨(hs.2 _ (hnot p (List.mem_append_right _ (List.mem_append_left _ z)))).trans w.1, w.2⟩
      · have w := h2 p (List.mem_append_right _ (List.mem_append_right _ z))
        exact ⟨(hs.2 _ (hnot p (List.mem_append_right _ (List.mem_append_right _ z)))).trans w.1, w.2⟩
  · simpa using h5

/-- a new object -/
theorem St.push (S : St c σ O F s) {o : Obj} (hf : o.isFreed = false) : St c σ ((s.heap.objs.size, o) :: O) F (upd s (s.heap.push o) s.toks) := by
  obtain ⟨⟨mf, C, h1, h2, h3, h4⟩, h5, h6, h7⟩ := S
  have N := News.push h1 h2 o hf
  refine ⟨⟨mf, C, h1.push o, news_sub N fun p hp => ?_, h3, h4⟩, ?_, h6, h7.of (fun _ e => Heap.get?_push_of_some _ e) fun _ _ _ e => Heap.get?_push_of_some _ e⟩
  · simp only [List.mem_append, List.mem_cons, List.cons_append] at hp ⊢; grind
  · show (c.cells ++ (s.heap.objs.size :: (O ++ F).map (·.1))).Nodup
    refine (List.Perm.nodup_iff List.perm_middle).mpr (List.nodup_cons.mpr ⟨fun hm => ?_, h5⟩)
    rw [← h3, ← List.map_append] at hm
    obtain ⟨p, hp, e⟩ := List.mem_map.mp hm
    have := Heap.lt_size (h2 p hp).1
    rw [e] at this
    exact Nat.lt_irrefl _ this

theorem new_list {xs : List PV} {vs : List Value} (h : All2 PV.Is xs vs) (hs : vs.length ≤ sizeLine) : TV c σ O F (newList vs) fun r O' N => ∃ a o, r = .ref a ∧ ListO xs o ∧ O' = (a, o) :: O ∧ N = [] := by
  intro s Q S k
  refine wpAny_newList (k _ σ ((s.heap.objs.size, W.listOf vs.toArray 0) :: O) [] _ s.toks ⟨rfl, .ref _, ⟨_, _, rfl, ⟨_, _, rfl, by simpa using h⟩, rfl, rfl⟩, rfl⟩ (S.push rfl) (Nat.le_refl _)) hs
theorem new_tuple {xs : List PV} {vs : List Value} (h : All2 PV.Is xs vs) (hs : vs.length ≤ sizeLine) : TV c σ O F (newTuple vs) fun r O' N => ∃ a o, r = .ref a ∧ TupO xs o ∧ O' = (a, o) :: O ∧ N = [] := by
  intro s Q S k
  refine wpAny_newObj_type (k _ σ ((s.heap.objs.size, { cls := .type "tuple", data := .seq vs.toArray }) :: O) [] _ s.toks ⟨rfl, .ref _, ⟨_, _, rfl, ⟨_, rfl, by simpa using h⟩, rfl, rfl⟩, rfl⟩ (S.push rfl) (Nat.le_refl _)) ?_
  show vs.toArray.size ≤ sizeLine; simpa using hs

theorem ev_list {elts : List Expr} {pos : Pos} {xs : List PV} {R : VPost} (h : TA c σ O F pos elts (justA O xs)) (hs : xs.length ≤ sizeLine) (hR : ∀ a o, ListO xs o → R (.ref a) ((a, o) :: O) []) : Ev c σ O F (.List elts pos) R :=
  TG.of (TA.bindG (T2 := fun vs Q s => wpAny G.M c.A (newList vs) Q NoE s) h fun vs pvs O1 N1 ⟨e1, e2, e3⟩ i => by
    subst e1 e2 e3
    exact TG.mono (new_list i (by rw [← i.length]; exact hs)) fun v σ' O' N ⟨e, pv, ⟨a, o, e1, e2, e3, e4⟩, iv⟩ => ⟨e, pv, by subst e1 e3 e4; exact hR a o e2, iv⟩) fun Q s h => List_ h
theorem ev_tuple {elts : List Expr} {k : Nat} {pos : Pos} {xs : List PV} {R : VPost} (h : TA c σ O F pos elts (justA O xs)) (hs : xs.length ≤ sizeLine) (hR : ∀ a o, TupO xs o → R (.ref a) ((a, o) :: O) []) : Ev c σ O F (.Tuple elts k pos) R :=
  TG.of (TA.bindG (T2 := fun vs Q s => wpAny G.M c.A (newTuple vs) Q NoE s) h fun vs pvs O1 N1 ⟨e1, e2, e3⟩ i => by
    subst e1 e2 e3
    exact TG.mono (new_tuple i (by rw [← i.length]; exact hs)) fun v σ' O' N ⟨e, pv, ⟨a, o, e1, e2, e3, e4⟩, iv⟩ => ⟨e, pv, by subst e1 e3 e4; exact hR a o e2, iv⟩) fun Q s h => Tuple_ h

/-! ### reading -/
theorem St.isList (S : St c σ O F s) {a : Addr} {o : Obj} {xs : List PV} (hm : (a, o) ∈ O ++ F) (h : ListO xs o) : ∃ vs : Array Value, s.heap.IsList a vs ∧ All2 PV.Is xs vs.toList := by
  obtain ⟨vs, n, rfl, i⟩ := h
  exact ⟨vs, ⟨_, S.get hm, rfl, n, rfl⟩, i⟩

theorem ev_listitem {value slice : Expr} {pos : Pos} {a : Addr} {o : Obj} {xs : List PV} {pv : PV} {i : Nat} (ho : Evp c σ O F value (.ref a)) (hi : Evp c σ O F slice (.int (i : Int))) (hm : (a, o) ∈ O ++ F) (hl : ListO xs o) (hx : xs[i]? = some pv)
    (hsz : xs.length ≤ 1048576)
    (hs : ∀ o i, subscripted slice false o i = operate [o, i] (getItem o i) := by intro _ _; rfl) : Evp c σ O F (.Subscript value slice pos) pv :=
  ev_item ho hi fun vo vi e1 ⟨u, e2⟩ => by
    cases e1; subst e2
    exact TV.pure fun s Q S k => by
      obtain ⟨vs, q1, q2⟩ := S.isList hm hl
      obtain ⟨v, hv, iv⟩ := q2.get hx
      have hlt := (List.getElem?_eq_some_iff.mp hx).1
      refine tail_any q1.typeIs slot_list_getitem.lookup (wpAny_getItem_list q1 (by omega) (by omega) (x := v) ?_ (k v s.heap s.toks iv fun _ _ e => e)) (hs _ _)
      simpa using hv

theorem bi_len_list {a : Addr} {o : Obj} {xs : List PV} (hm : (a, o) ∈ O ++ F) (hl : ListO xs o) (hsz : xs.length ≤ 1048576) : TVp c σ O F (call (.builtin "len") [.ref a]) (.int xs.length) :=
  TV.pure fun s Q S k => by
    obtain ⟨vs, q1, q2⟩ := S.isList hm hl
    have e : vs.size = xs.length := by rw [q2.length]; simp
    refine Calls.call_len_list q1 (by omega) ?_
    rw [e]
    exact k _ s.heap _ ⟨_, rfl⟩ fun _ _ e => e

/-! ### storing into a list -/
theorem All2.set {α β : Type} {R : α → β → Prop} {as : List α} {bs : List β} (h : All2 R as bs) : ∀ {i : Nat} {a : α} {b : β}, R a b → All2 R (as.set i a) (bs.set i b) := by
  induction h with
  | nil => intro i a b _; exact .nil
  | cons h1 h2 ih =>
    intro i a b r
    cases i with
    | zero => exact .cons r h2
    | succ i => exact .cons h1 (ih r)
theorem All2.append {α β : Type} {R : α → β → Prop} {as as' : List α} {bs bs' : List β} (h : All2 R as bs) (h' : All2 R as' bs') : All2 R (as ++ as') (bs ++ bs') := by
  induction h with
  | nil => exact h'
  | cons h1 _ ih => exact .cons h1 ih

theorem ex_setitem {lo ie e : Expr} {p pos : Pos} {a : Addr} {o : Obj} {xs : List PV} {pv : PV} {i : Nat} {P : FPost}
    (he : Evp c σ ((a, o) :: O) F e pv) (hlo : Evp c σ ((a, o) :: O) F lo (.ref a)) (hi : Evp c σ ((a, o) :: O) F ie (.int (i : Int))) (hl : ListO xs o) (hx : i < xs.length) (hsz : xs.length ≤ 1048576)
    (h : ∀ o', ListO (xs.set i pv) o' → P .next σ ((a, o') :: O) []) (hs : swapsWith e (some (.Subscript lo ie p)) pos.line c.env = pure false := by rfl) :
    Ex1 c σ ((a, o) :: O) F (.Assign [.Subscript lo ie p] e pos) P := by
  intro s Q S k
  refine wpAny_Assign_Subscript ?_ hs
  refine (TV.bindp (T2 := fun v (Q : Flow → Shared → Prop) s1 => wpAny G.M c.A (eval lo c.env) (fun ov s₂ => wpAny G.M c.A (eval ie c.env) (fun iv s₃ => wpAny G.M c.A (setItem ov iv v) (fun _ => Q .next) NoE s₃) NoE s₂) NoE s1) he fun v iv =>
    TV.bindp (T2 := fun ov (Q : Flow → Shared → Prop) s₂ => wpAny G.M c.A (eval ie c.env) (fun iv s₃ => wpAny G.M c.A (setItem ov iv v) (fun _ => Q .next) NoE s₃) NoE s₂) hlo fun ov e1 =>
    TV.bindp (T2 := fun i' (Q : Flow → Shared → Prop) s₃ => wpAny G.M c.A (setItem ov i' v) (fun _ => Q .next) NoE s₃) hi fun i' e2 => ?_) s Q S k
  cases e1
  obtain ⟨u, rfl⟩ := e2
  intro s2 Q2 S2 k2
  obtain ⟨vs, n, rfl, ia⟩ := hl
  have e3 : vs.size = xs.length := by rw [ia.length]; simp
  have hg := S2.get (List.mem_append_left _ (.head _))
  refine ki_setAt hg (by omega) (by omega) (by omega) ?_
  have hfin : (s2.heap.update a (Obj.mapSeq fun x => x.setIfInBounds (i : Int).toNat v)).get? a = some (W.listOf (vs.setIfInBounds i v) n) := by
    refine (Heap.get?_update_self _ hg (by rfl)).trans ?_
    show some _ = some _
    congr 1
    show Obj.mk _ _ (Data.seq _ _) _ = _
    simp only [Int.toNat_natCast, Array.size_setIfInBounds]
    simp [W.listOf]
  exact k2 _ σ _ [] _ s2.toks ⟨.next, h _ ⟨_, n, rfl, by simpa using ia.set iv⟩, rfl⟩ (S2.setHead (Heap.SameBut.update ..) hfin (Nat.le_refl _)) (Nat.le_refl _)

/-! ### methods of a list -/
theorem meth_list {o : Expr} {name : Str} {apos pos : Pos} {args : List Expr} {id : String} {a : Addr} {ob : Obj} {xs : List PV} {R : VPost} (ho : Evp c σ O F o (.ref a)) (hm : (a, ob) ∈ O ++ F) (hl : ListO xs ob)
    (slot : Slot "list" name id) (ty : typeOf (.builtin id) = pure (.type "method_descriptor"))
    (hbase : attributeBase o name c.env (eval o c.env) = eval o c.env)
    (hfew : ((backTo pos (starEach args c.env)).all (fun x => !x.1) && (backToKw pos (keywordEach [] c.env)).all (fun x => x.1.isSome) && decide (args.length + ([] : List Keyword).length + (if ([] : List Keyword).isEmpty then 0 else 1) < 30)) = true)
    (hline : (apos.endLine == pos.line) = true)
    (h : TG c σ O F (fun (Q : Value → Shared → Prop) s => wpAny G.M c.A (callWith pos (.builtin id) [.ref a] (backTo pos (starEach args c.env)) []) Q NoE s) (RV σ R)) :
    Ev c σ O F (.Call (.Attribute o name apos) args [] pos) R :=
  TG.of (TV.bindp (T2 := fun ov (Q : Value → Shared → Prop) s1 => MethodOnS G.prog G.w c.A NoE name ov pos (backTo pos (starEach args c.env)) Q s1) ho fun v e => by
    cases e
    intro s Q S k
    obtain ⟨vs, n, rfl, ia⟩ := hl
    have hg := S.get hm
    exact ⟨"list", id, PySem.F.plainAttrs_list, slot, ty, ⟨_, hg, rfl⟩, (fun b e => by cases e; exact ⟨_, hg, rfl⟩), h s Q S k⟩) fun Q s h => wpAny_Call_method_lateS hbase hfew hline h

theorem ev_append {lo e : Expr} {apos pos : Pos} {a : Addr} {o : Obj} {xs : List PV} {pv : PV} {R : VPost} (hlo : Evp c σ ((a, o) :: O) F lo (.ref a)) (he : Evp c σ ((a, o) :: O) F e pv) (hl : ListO xs o) (hsz : xs.length ≤ 1048576)
    (h : ∀ o', ListO (xs ++ [pv]) o' → R .none ((a, o') :: O) [])
    (hbase : attributeBase lo (Str.ofString "append") c.env (eval lo c.env) = eval lo c.env := by rfl) (hline : (apos.endLine == pos.line) = true := by rfl)
    (hst : ∀ env, starEach [e] env = [(false, eval e env)] := by intro _; rfl) :
    Ev c σ ((a, o) :: O) F (.Call (.Attribute lo (Str.ofString "append") apos) [e] [] pos) R := by
  refine meth_list hlo (List.mem_append_left _ (.head _)) hl PySem.F.slot_list_append rfl hbase (by rw [hst]; rfl) hline ?_
  refine TG.of (TA.bindG (T2 := fun vs (Q : Value → Shared → Prop) s1 => wpAny G.M c.A (call (.builtin "list.append") ([.ref a] ++ vs)) Q NoE s1) (ta_pp he ta_np hst) fun vs pvs O1 N1 ⟨e1, e2, e3⟩ i => ?_) fun Q s h => callWith_method1 h (hst _)
  subst e1 e2 e3
  obtain ⟨v, rfl, iv⟩ := i.one
  intro s Q S k
  obtain ⟨vs, n, rfl, ia⟩ := hl
  have e3 : vs.size = xs.length := by rw [ia.length]; simp
  refine append_at (S.get (List.mem_append_left _ (.head _))) (fun h' hs ho => ?_) (by rw [sizeLine_eq]; omega)
  exact k .none σ _ [] h' s.toks ⟨rfl, .none, h _ ⟨_, _, rfl, by simpa using ia.append (.cons iv .nil)⟩, rfl⟩ (S.setHead hs ho (Nat.le_refl _)) (Nat.le_refl _)

theorem ev_pop {lo : Expr} {apos pos : Pos} {a : Addr} {o : Obj} {xs : List PV} {pv : PV} {R : VPost} (hlo : Evp c σ ((a, o) :: O) F lo (.ref a)) (hl : ListO (xs ++ [pv]) o) (hsz : xs.length ≤ 1048576)
    (h : ∀ o', ListO xs o' → R pv ((a, o') :: O) [])
    (hbase : attributeBase lo (Str.ofString "pop") c.env (eval lo c.env) = eval lo c.env := by rfl) (hline : (apos.endLine == pos.line) = true := by rfl) :
    Ev c σ ((a, o) :: O) F (.Call (.Attribute lo (Str.ofString "pop") apos) [] [] pos) R := by
  refine meth_list hlo (List.mem_append_left _ (.head _)) hl PySem.F.slot_list_pop rfl hbase rfl hline ?_
  refine TG.of (T := fun Q s => wpAny G.M c.A (call (.builtin "list.pop") [.ref a]) Q NoE s) ?_ fun Q s h => callWith_method0 h
  intro s Q S k
  obtain ⟨vs, n, rfl, ia⟩ := hl
  have e3 : vs.size = xs.length + 1 := by have := ia.length; simp at this; omega
  obtain ⟨v, hv, iv⟩ := ia.get (i := xs.length) (a := pv) (by simp)
  refine PyProof.Rows.Copied.pop_at (S.get (List.mem_append_left _ (.head _))) (y := v) (by rw [e3]; simpa using hv) (fun h' hs ho => ?_) (by rw [sizeLine_eq]; omega)
  refine k v σ _ [] h' s.toks ⟨rfl, pv, h _ ⟨_, _, rfl, ?_⟩, iv⟩ (S.setHead hs ho (Nat.le_refl _)) (Nat.le_refl _)
  have : ∀ {as : List PV} {b : PV} {bs : List Value}, All2 PV.Is (as ++ [b]) bs → All2 PV.Is as bs.dropLast := by
    intro as
    induction as with
    | nil => intro b bs h; obtain ⟨w, rfl, _⟩ := h.one; exact .nil
    | cons x xs ih =>
      intro b bs h
      cases h with
      | cons h1 h2 =>
        rename_i y ys
        have hne : ys ≠ [] := by intro e; subst e; have := h2.length; simp at this
        rw [List.dropLast_cons_of_ne_nil hne]
        exact .cons h1 (ih h2)
  simpa using this ia
end
end Mine
end
section
open PySem PySem.W PyProof.Rows PySem.Calls
set_option autoImplicit false
set_option linter.unusedVariables false
namespace Mine
section
variable {G : GC} {c : Act G} {σ : Sto} {O F : Led} {s : Shared}

/-! ### while -/
theorem ex_while {test : Expr} {body : List Stmt} {pos : Pos} {P : FPost} (I : Nat → Sto → Led → Led → Prop) (n₀ : Nat) (h0 : I n₀ σ O [])
    (turn : ∀ n σ1 O1 N1, I n σ1 O1 N1 → ∃ b, Tstp c σ1 O1 (N1 ++ F) test b ∧
      (b = true → Ex c σ1 O1 (N1 ++ F) body fun pf σ2 O2 N2 => match pf with
        | .next => ∃ m, m < n ∧ I m σ2 O2 (N2 ++ N1)
        | .cont => ∃ m, m < n ∧ I m σ2 O2 (N2 ++ N1)
        | .brk => P .next σ2 O2 (N2 ++ N1)
        | .ret v => P (.ret v) σ2 O2 (N2 ++ N1)) ∧
      (b = false → P .next σ1 O1 N1)) : Ex1 c σ O F (.While test body [] pos) P := by
  intro s Q S k
  refine wpAny_While (codeAny_whileLoop (fun n s' => ∃ σ1 O1 N1 h tk, s' = upd s h tk ∧ St c σ1 O1 (N1 ++ F) s' ∧ s.toks ≤ tk ∧ I n σ1 O1 N1) ?_ n₀ ⟨σ, O, [], s.heap, s.toks, rfl, S, Nat.le_refl _, h0⟩)
  rintro n s' ⟨σ1, O1, N1, h, tk, rfl, S1, ht1, hI⟩
  obtain ⟨b, hb, ht, hf⟩ := turn n σ1 O1 N1 hI
  refine wpAny_mono (hb _ _ S1 ?_) (fun _ _ e => e) fun _ _ e => False.elim e
  rintro b' σ2 O2 N2 h2 tk2 ⟨e1, e2, e3, e4⟩ S2 ht2
  subst e1 e2 e3 e4
  cases b' with
  | false =>
    simp only [Bool.false_eq_true, if_false]
    exact wpAny_execs_nil (k .next _ _ N1 h2 tk2 ⟨.next, hf rfl, rfl⟩ S2 (Nat.le_trans ht1 ht2))
  | true =>
    simp only [if_true]
    refine wpAny_mono (ht rfl _ (fun f s₃ => match f with
          | .next => ∃ m, m < n ∧ ∃ σ1 O1 N1 h tk, s₃ = upd s h tk ∧ St c σ1 O1 (N1 ++ F) s₃ ∧ s.toks ≤ tk ∧ I m σ1 O1 N1
          | .cont => ∃ m, m < n ∧ ∃ σ1 O1 N1 h tk, s₃ = upd s h tk ∧ St c σ1 O1 (N1 ++ F) s₃ ∧ s.toks ≤ tk ∧ I m σ1 O1 N1
          | .brk => Q .next s₃
          | .ret v => Q (.ret v) s₃) S2 ?_) (fun _ _ e => e) fun _ _ e => False.elim e
    rintro fl σ3 O3 N3 h3 tk3 ⟨pf, hp, ip⟩ S3 ht3
    have S3' : St c σ3 O3 ((N3 ++ N1) ++ F) (upd s h3 tk3) := by rw [List.append_assoc]; exact S3
    have htt : s.toks ≤ tk3 := Nat.le_trans ht1 (Nat.le_trans ht2 ht3)
    cases pf with
    | next => cases ip; obtain ⟨m, hm, hI'⟩ := hp; exact ⟨m, hm, σ3, O3, N3 ++ N1, h3, tk3, rfl, S3', htt, hI'⟩
    | cont => cases ip; obtain ⟨m, hm, hI'⟩ := hp; exact ⟨m, hm, σ3, O3, N3 ++ N1, h3, tk3, rfl, S3', htt, hI'⟩
    | brk => cases ip; exact k .next σ3 O3 (N3 ++ N1) h3 tk3 ⟨.next, hp, rfl⟩ S3' htt
    | ret v => obtain ⟨v', rfl, iv⟩ := ip; exact k _ σ3 O3 (N3 ++ N1) h3 tk3 ⟨.ret v, hp, v', rfl, iv⟩ S3' htt

/-! ### what can be walked -/
structure WalkAt (c : Act G) (O F : Led) (h : Heap) (it : Value) (items : List PV) (I : Addr) (fp wr : List Addr) (Pk : Nat → Value → Prop) (Sw : Nat → Heap → Prop) : Prop where
  it : it = .ref I
  W : Walks G.prog G.w c.A I fp wr items.length Pk Sw
  st : Sw 0 h
  val : ∀ k v, k < items.length → Pk k v → ∃ pv, items[k]? = some pv ∧ pv.Is v
  lt : ∀ b ∈ fp, b < h.objs.size
  wnd : wr.Nodup
  wnew : ∀ b ∈ wr, b ∉ c.cells ++ (O ++ F).map (·.1) ∧ b ≠ c.L ∧ c.h0.get? b = none
  old : ∀ b ∈ fp, b ∉ wr → (∃ o, (b, o) ∈ F) ∨ (∃ o, c.h0.get? b = some o)
  ex : ∀ k h', Sw k h' → ∀ b ∈ wr, ∃ o, h'.get? b = some o

def Iterates {G : GC} (c : Act G) (σ : Sto) (O F : Led) (iter : Expr) (items : List PV) (I0 : Led → Led → Prop) : Prop :=
  ∀ (s : Shared) (Q : Value → Shared → Prop), St c σ O F s →
    (∀ it O1 N1 h tk I fp wr Pk Sw, I0 O1 N1 → St c σ O1 (N1 ++ F) (upd s h tk) → WalkAt c O1 (N1 ++ F) h it items I fp wr Pk Sw → s.toks ≤ tk → Q it (upd s h tk)) →
    wpAny G.M c.A (eval iter c.env) (fun xv s1 => wpAny G.M c.A (pyIter xv) Q NoE s1) NoE s

def wrLed (h : Heap) : List Addr → Led
  | [] => []
  | b :: r => match h.get? b with | some o => (b, o) :: wrLed h r | none => wrLed h r
theorem wrLed_mem {h : Heap} : ∀ {wr : List Addr} {p : Addr × Obj}, p ∈ wrLed h wr ↔ p.1 ∈ wr ∧ h.get? p.1 = some p.2
  | [], p => by simp [wrLed]
  | b :: r, p => by
    unfold wrLed
    split
    · rename_i o e
      rw [List.mem_cons, wrLed_mem, List.mem_cons]
      constructor
      · rintro (rfl | ⟨h1, h2⟩)
        · exact ⟨.inl rfl, e⟩
        · exact ⟨.inr h1, h2⟩
      · rintro ⟨rfl | h1, h2⟩
        · left; rw [e] at h2; cases p; simp at h2 ⊢; exact h2.symm
        · exact .inr ⟨h1, h2⟩
    · rename_i e
      rw [wrLed_mem, List.mem_cons]
      constructor
      · rintro ⟨h1, h2⟩; exact ⟨.inr h1, h2⟩
      · rintro ⟨rfl | h1, h2⟩
        · rw [e] at h2; cases h2
        · exact ⟨h1, h2⟩
theorem wrLed_sub {h : Heap} : ∀ {wr : List Addr}, ((wrLed h wr).map (·.1)).Sublist wr
  | [] => List.Sublist.slnil
  | b :: r => by
    unfold wrLed
    split
    · exact List.Sublist.cons_cons _ wrLed_sub
    · exact List.Sublist.cons _ wrLed_sub

/-- objects beside: what the walk itself turns -/
theorem St.past (S : St c σ O F s) {wr : List Addr} {h : Heap} {tk : Nat} (hw : ∀ b ∈ wr, b ∉ c.cells ++ (O ++ F).map (·.1) ∧ b ≠ c.L ∧ c.h0.get? b = none)
    (hk : ∀ b o, b ∉ wr → s.heap.get? b = some o → h.get? b = some o) (ht : s.toks ≤ tk) : St c σ O F (upd s h tk) := by
  obtain ⟨⟨mf, C, h1, h2, h3, h4⟩, h5, h6, h7⟩ := S
  have hL : c.L ∉ wr := fun q => (hw _ q).2.1 rfl
  refine ⟨⟨mf, C, ⟨h1.ns.at' fun o e => hk _ o hL e, fun b o e => hk b o (fun q => by have := (hw b q).2.2; rw [this] at e; cases e) (h1.keep b o e), h1.above⟩, fun p hp => ⟨hk _ _ (fun q => ?_) (h2 p hp).1, (h2 p hp).2⟩, h3, h4⟩, h5, Nat.lt_of_lt_of_le h6 ht, h7.of (fun _ e => hk _ _ hL e) fun b hb _ e => hk _ _ (fun q => (hw b q).1 (List.mem_append_left _ hb)) e⟩
  apply (hw _ q).1
  rw [← h3, ← List.map_append]
  exact List.mem_map.mpr ⟨p, hp, rfl⟩

theorem St.beside (S : St c σ O F s) {wr : List Addr} (hw : ∀ b ∈ wr, b ∉ c.cells ++ (O ++ F).map (·.1) ∧ b ≠ c.L ∧ c.h0.get? b = none) (hn : wr.Nodup) : St c σ O (wrLed s.heap wr ++ F) s := by
  obtain ⟨⟨mf, C, h1, h2, h3, h4⟩, h5, h6, h7⟩ := S
  refine ⟨⟨mf, C, h1, fun p hp => ?_, h3, h4.mono fun p hp => List.mem_append_right _ hp⟩, ?_, h6, h7⟩
  · simp only [List.mem_append] at hp
    rcases hp with z | z | z | z
    · exact h2 p (List.mem_append_left _ z)
    · exact h2 p (List.mem_append_right _ (List.mem_append_left _ z))
    · obtain ⟨z1, z2⟩ := wrLed_mem.mp z
      exact ⟨z2, (hw _ z1).2.1, (hw _ z1).2.2⟩
    · exact h2 p (List.mem_append_right _ (List.mem_append_right _ z))
  · have hp : (c.cells ++ (O ++ (wrLed s.heap wr ++ F)).map (·.1)).Perm ((wrLed s.heap wr).map (·.1) ++ (c.cells ++ (O ++ F).map (·.1))) := by
      simp only [List.map_append]
      have e1 : c.cells ++ (O.map (·.1) ++ ((wrLed s.heap wr).map (·.1) ++ F.map (·.1))) = (c.cells ++ O.map (·.1)) ++ ((wrLed s.heap wr).map (·.1) ++ F.map (·.1)) := by simp only [List.append_assoc]
      have e2 : (wrLed s.heap wr).map (·.1) ++ (c.cells ++ (O.map (·.1) ++ F.map (·.1))) = (wrLed s.heap wr).map (·.1) ++ ((c.cells ++ O.map (·.1)) ++ F.map (·.1)) := by simp only [List.append_assoc]
      rw [e1, e2, ← List.append_assoc, ← List.append_assoc]
      exact List.Perm.append_right _ List.perm_append_comm
    refine (List.Perm.nodup_iff hp).mpr (List.nodup_append.mpr ⟨hn.sublist wrLed_sub, h5, ?_⟩)
    intro a ha b hb e
    subst e
    exact (hw a (wrLed_sub.subset ha)).1 hb

theorem St.dropF (S : St c σ O F s) {F' : Led} (hs : F'.Sublist F) (hvar : ∀ mf C, VarsOK c mf C F σ → VarsOK c mf C F' σ) : St c σ O F' s := by
  obtain ⟨⟨mf, C, h1, h2, h3, h4⟩, h5, h6, h7⟩ := S
  refine ⟨⟨mf, C, h1, news_sub h2 fun p hq => ?_, h3, hvar mf C h4⟩, ?_, h6, h7⟩
  · have := hs.subset
    simp only [List.mem_append] at hq ⊢
    rcases hq with q | q | q
    · exact .inl q
    · exact .inr (.inl q)
    · exact .inr (.inr (this q))
  · exact h5.sublist (List.Sublist.append_left ((List.Sublist.append_left hs _).map _) _)

/-- the frozen part may shrink where names don't look at it -/
theorem St.shrink (H : Own c) (S : St c σ O F s) {F' : Led} (hs : F'.Sublist F) : St c σ O F' s := by
  have S₀ := S
  obtain ⟨⟨mf, C, h1, h2, h3, h4⟩, h5, h6, h7⟩ := S
  refine ⟨⟨mf, C, h1, news_sub h2 fun p hq => ?_, h3, ?_⟩, ?_, h6, h7⟩
  · have := hs.subset
    simp only [List.mem_append] at hq ⊢
    rcases hq with q | q | q
    · exact .inl q
    · exact .inr (.inl q)
    · exact .inr (.inr (this q))
  · intro i x pv hx hv
    obtain ⟨v, iv, W⟩ := h4 i x pv hx hv
    refine ⟨v, iv, ?_⟩
    cases W with
    | loc a1 a2 a3 => exact .loc a1 a2 a3
    | comp a1 o m a2 a3 a4 => exact absurd H.L (h2 _ (List.mem_append_right _ (List.mem_append_right _ a2))).2.1
    | cell a1 a o a2 a3 a4 =>
      refine .cell a1 a o a2 ?_ a4
      have ha := H.cells x a a2
      rw [← h3] at ha
      obtain ⟨q, hq, rfl⟩ := List.mem_map.mp ha
      have e1 := (h2 _ (List.mem_append_left _ hq)).1
      have e2 : s.heap.get? q.1 = some o := by
        rcases List.mem_append.mp a3 with z | z
        · exact (h2 _ (List.mem_append_left _ z)).1
        · exact (h2 _ (List.mem_append_right _ (List.mem_append_right _ z))).1
      rw [e1] at e2
      cases e2
      exact List.mem_append_left _ hq
  · exact h5.sublist (List.Sublist.append_left ((List.Sublist.append_left hs _).map _) _)

/-! ### for -/
theorem wrLed_congr {h h' : Heap} : ∀ {wr : List Addr}, (∀ b ∈ wr, h'.get? b = h.get? b) → wrLed h' wr = wrLed h wr
  | [], _ => rfl
  | b :: r, hq => by
    unfold wrLed
    rw [hq b (.head _), wrLed_congr fun b hb => hq b (.tail _ hb)]

theorem St.wr {wr : List Addr} (S : St c σ O (wrLed s.heap wr ++ F) s) (hex : ∀ b ∈ wr, ∃ o, s.heap.get? b = some o) : ∀ b ∈ wr, b ∉ c.cells ++ (O ++ F).map (·.1) ∧ b ≠ c.L ∧ c.h0.get? b = none := by
  intro b hb
  obtain ⟨o, ho⟩ := hex b hb
  have hm : (b, o) ∈ wrLed s.heap wr := wrLed_mem.mpr ⟨hb, ho⟩
  obtain ⟨⟨mf, C, h1, h2, h3, h4⟩, h5, h6, h7⟩ := S
  have hN := h2 (b, o) (List.mem_append_right _ (List.mem_append_right _ (List.mem_append_left _ hm)))
  refine ⟨fun hq => ?_, hN.2⟩
  have hp : (c.cells ++ (O ++ (wrLed s.heap wr ++ F)).map (·.1)).Perm ((wrLed s.heap wr).map (·.1) ++ (c.cells ++ (O ++ F).map (·.1))) := by
    simp only [List.map_append]
    have e1 : c.cells ++ (O.map (·.1) ++ ((wrLed s.heap wr).map (·.1) ++ F.map (·.1))) = (c.cells ++ O.map (·.1)) ++ ((wrLed s.heap wr).map (·.1) ++ F.map (·.1)) := by simp only [List.append_assoc]
    have e2 : (wrLed s.heap wr).map (·.1) ++ (c.cells ++ (O.map (·.1) ++ F.map (·.1))) = (wrLed s.heap wr).map (·.1) ++ ((c.cells ++ O.map (·.1)) ++ F.map (·.1)) := by simp only [List.append_assoc]
    rw [e1, e2, ← List.append_assoc, ← List.append_assoc]
    exact List.Perm.append_right _ List.perm_append_comm
  have hnd := (List.nodup_append.mp ((List.Perm.nodup_iff hp).mp h5)).2.2
  exact hnd b (List.mem_map.mpr ⟨_, hm, rfl⟩) b hq rfl

theorem ex_for {x : Str} {px pos : Pos} {iter : Expr} {body : List Stmt} {P : FPost} {items : List PV} (H : Own c) (i : Nat) (hx : c.names[i]? = some x) (hk : c.env.kindOf x = some .local)
    (I : Nat → Sto → Led → Led → Prop) (hi : ∀ k σ1 O1 N1, I k σ1 O1 N1 → i < σ1.length)
    (hit : Iterates c σ O F iter items fun O1 N1 => I 0 σ O1 N1)
    (turn : ∀ k pv σ1 O1 N1 F', items[k]? = some pv → I k σ1 O1 N1 → (∀ p ∈ N1 ++ F, p ∈ F') → Ex c (σ1.set i (some pv)) O1 F' body fun pf σ2 O2 N2 => match pf with
        | .next => I (k + 1) σ2 O2 (N2 ++ N1)
        | .cont => I (k + 1) σ2 O2 (N2 ++ N1)
        | .brk => P .next σ2 O2 (N2 ++ N1)
        | .ret v => P (.ret v) σ2 O2 (N2 ++ N1))
    (done : ∀ σ1 O1 N1, I items.length σ1 O1 N1 → P .next σ1 O1 N1)
    (hs : ∀ x, foldedSetIterable iter c.env x = pure x := by intro _; rfl) : Ex1 c σ O F (.For (.Name x px) iter body [] pos) P := by
  intro s Q S k
  refine wpAny_For (hit s _ S fun it O1 N1 h tk Ia fp wr Pk Sw h0 S1 WA ht1 => ?_) hs
  obtain ⟨rfl, W, hst, hval, hlt, hwn, hwnew, hold, hex⟩ := WA
  refine codeAny_forLoop (fun n s' => ∃ j σ1 O1 N1 h tk, s' = upd s h tk ∧ n = items.length - j ∧ j ≤ items.length ∧ St c σ1 O1 (wrLed h wr ++ (N1 ++ F)) s' ∧ s.toks ≤ tk ∧ Sw j h ∧ I j σ1 O1 N1 ∧
      (∀ b ∈ fp, b ∉ wr → (∃ o, (b, o) ∈ N1 ++ F) ∨ ∃ o, c.h0.get? b = some o)) ?_ items.length
    ⟨0, σ, O1, N1, h, tk, rfl, rfl, Nat.zero_le _, S1.beside hwnew hwn, ht1, hst, h0, hold⟩
  rintro n s' ⟨j, σ1, O1, N1, h, tk, rfl, rfl, hj, S1, ht1, hst, hI, hold⟩
  have hw := St.wr (s := upd s h tk) S1 (hex j h hst)
  have hsub : (N1 ++ F).Sublist (wrLed h wr ++ (N1 ++ F)) := List.sublist_append_right _ _
  have S0 : St c σ1 O1 (N1 ++ F) (upd s h tk) := S1.shrink H hsub
  by_cases hlt : j < items.length
  · refine wpAny_with_toks (Nat.le_refl _) (W.item j _ _ _ hlt hst fun v h' tk' hP hst' hk' => ?_)
    intro htk
    have S2 : St c σ1 O1 (N1 ++ F) (upd s h' tk') := St.past (s := upd s h tk) S0 hw hk' htk
    have S3 : St c σ1 O1 (wrLed h' wr ++ (N1 ++ F)) (upd s h' tk') := St.beside (s := upd s h' tk') S2 hw hwn
    obtain ⟨pv, hpv, iv⟩ := hval j v hlt hP
    refine wpAny_assign_Name (wpAny_mono (St.store S3 hx hk H.L iv (hi _ _ _ _ hI) (Q := fun _ s3 => ∃ h3, s3 = upd s h3 (tk' + 1) ∧ St c (σ1.set i (some pv)) O1 (wrLed h' wr ++ (N1 ++ F)) s3) fun h3 S4 => ⟨h3, rfl, S4⟩) (fun _ s3 h4 => ?_) fun _ _ e => False.elim e)
    obtain ⟨h3, rfl, S4⟩ := h4
    refine wpAny_mono (turn j pv σ1 O1 N1 _ hpv hI (fun p hp => List.mem_append_right _ hp) _ (fun f s₃ => match f with
          | .next => ∃ m, m < items.length - j ∧ ∃ j σ1 O1 N1 h tk, s₃ = upd s h tk ∧ m = items.length - j ∧ j ≤ items.length ∧ St c σ1 O1 (wrLed h wr ++ (N1 ++ F)) s₃ ∧ s.toks ≤ tk ∧ Sw j h ∧ I j σ1 O1 N1 ∧ (∀ b ∈ fp, b ∉ wr → (∃ o, (b, o) ∈ N1 ++ F) ∨ ∃ o, c.h0.get? b = some o)
          | .cont => ∃ m, m < items.length - j ∧ ∃ j σ1 O1 N1 h tk, s₃ = upd s h tk ∧ m = items.length - j ∧ j ≤ items.length ∧ St c σ1 O1 (wrLed h wr ++ (N1 ++ F)) s₃ ∧ s.toks ≤ tk ∧ Sw j h ∧ I j σ1 O1 N1 ∧ (∀ b ∈ fp, b ∉ wr → (∃ o, (b, o) ∈ N1 ++ F) ∨ ∃ o, c.h0.get? b = some o)
          | .brk => Q .next s₃
          | .ret v => Q (.ret v) s₃) S4 ?_) (fun _ _ e => e) fun _ _ e => False.elim e
    rintro fl σ2 O2 N2 h5 tk5 ⟨pf, hp, ip⟩ S5 ht5
    have htt : s.toks ≤ tk5 := Nat.le_trans ht1 (Nat.le_trans htk (Nat.le_trans (Nat.le_succ _) ht5))
    have hperm : (O2 ++ (N2 ++ (wrLed h' wr ++ (N1 ++ F)))).Perm (O2 ++ (wrLed h' wr ++ ((N2 ++ N1) ++ F))) := by
      refine List.Perm.append_left _ ?_
      rw [List.append_assoc, ← List.append_assoc, ← List.append_assoc (wrLed h' wr) N2]
      exact List.Perm.append_right _ List.perm_append_comm
    have S6 : St c σ2 O2 (wrLed h' wr ++ ((N2 ++ N1) ++ F)) (upd s h5 tk5) := St.move S5 hperm fun p hp => by
      simp only [List.mem_append] at hp ⊢; grind
    have S7 : St c σ2 O2 ((N2 ++ N1) ++ F) (upd s h5 tk5) := S6.shrink H (List.sublist_append_right _ _)
    have same : ∀ b ∈ wr, h5.get? b = h'.get? b := fun b hb => by
      obtain ⟨o, ho⟩ := hex (j + 1) h' hst' b hb
      rw [ho]
      exact St.get (s := upd s h5 tk5) S6 (List.mem_append_right _ (List.mem_append_left _ (wrLed_mem.mpr ⟨hb, ho⟩)))
    have go : I (j + 1) σ2 O2 (N2 ++ N1) → ∃ m, m < items.length - j ∧ ∃ j σ1 O1 N1 h tk, upd s h5 tk5 = upd s h tk ∧ m = items.length - j ∧ j ≤ items.length ∧ St c σ1 O1 (wrLed h wr ++ (N1 ++ F)) (upd s h5 tk5) ∧ s.toks ≤ tk ∧ Sw j h ∧ I j σ1 O1 N1 ∧ (∀ b ∈ fp, b ∉ wr → (∃ o, (b, o) ∈ N1 ++ F) ∨ ∃ o, c.h0.get? b = some o) := by
      intro hI2
      refine ⟨items.length - (j + 1), by omega, j + 1, σ2, O2, N2 ++ N1, h5, tk5, rfl, rfl, hlt, by rw [wrLed_congr same]; exact S6, htt, ?_, hI2, fun b hb hn => ?_⟩
      · refine W.frame _ _ _ hst' fun b hb o e => ?_
        by_cases hbw : b ∈ wr
        · exact (same b hbw).trans e
        · rcases hold b hb hbw with ⟨o', ho'⟩ | ⟨o', ho'⟩
          · have q1 : h'.get? b = some o' := St.get (s := upd s h' tk') S2 (List.mem_append_right _ ho')
            rw [q1] at e; cases e
            exact St.get (s := upd s h5 tk5) S7 (List.mem_append_right _ (by simp only [List.mem_append] at ho' ⊢; grind))
          · obtain ⟨⟨mf, C, g1, _⟩, _⟩ := S2
            obtain ⟨⟨mf7, C7, g7, _⟩, _⟩ := S7
            have q1 := g1.keep b o' ho'
            have q2 : h'.get? b = some o' := q1
            rw [q2] at e; cases e
            exact g7.keep b _ ho'
      · rcases hold b hb hn with ⟨o', ho'⟩ | q
        · exact .inl ⟨o', by simp only [List.mem_append] at ho' ⊢; grind⟩
        · exact .inr q
    cases pf with
    | next => cases ip; exact go hp
    | cont => cases ip; exact go hp
    | brk => cases ip; exact k .next σ2 O2 (N2 ++ N1) h5 tk5 ⟨.next, hp, rfl⟩ S7 htt
    | ret v => obtain ⟨v', rfl, iv⟩ := ip; exact k _ σ2 O2 (N2 ++ N1) h5 tk5 ⟨.ret v, hp, v', rfl, iv⟩ S7 htt
  · have hjn : j = items.length := by omega
    subst hjn
    refine wpAny_with_toks (Nat.le_refl _) (W.done _ _ _ hst fun h' tk' hk' => ?_)
    intro htk
    have S2 : St c σ1 O1 (N1 ++ F) (upd s h' tk') := St.past (s := upd s h tk) S0 hw hk' htk
    exact wpAny_execs_nil (k .next σ1 O1 N1 h' tk' ⟨.next, done _ _ _ hI, rfl⟩ S2 (Nat.le_trans ht1 htk))

/-! ### the things that are walked -/
theorem it_list {iter : Expr} {items : List PV} {I0 : Led → Led → Prop}
    (h : Ev c σ O F iter fun pv O1 N1 => ∃ l o, pv = .ref l ∧ ListO items o ∧ (l, o) ∈ N1 ++ F ∧ I0 O1 N1) : Iterates c σ O F iter items I0 := by
  intro s Q S k
  refine h s _ S ?_
  rintro v σ1 O1 N1 h1 tk1 ⟨e, pv, ⟨l, o, rfl, hl, hm, hI⟩, iv⟩ S1 ht1
  subst e
  cases iv
  obtain ⟨vs, n, rfl, ia⟩ := hl
  have hg : h1.get? l = some (W.listOf vs n) := St.get (s := upd s h1 tk1) S1 (List.mem_append_right _ hm)
  have hL : h1.IsList l vs := ⟨_, hg, rfl, n, rfl⟩
  refine wpAny_pyIter_list hL ?_
  have hlt : l < h1.objs.size := Heap.lt_size hg
  have hne : l ≠ h1.objs.size := Nat.ne_of_lt hlt
  have hlen : vs.size = items.length := by have := ia.length; simp at this; omega
  have Wk := Walks.list (prog := G.prog) (w := G.w) c.hhan h1.objs.size l hne vs
  rw [hlen] at Wk
  have S2 : St c σ1 O1 (N1 ++ F) (upd s (h1.push { cls := Value.type "list_iterator", data := Data.fields #[Value.ref l, Value.int 0 0] }) tk1) :=
    St.keeps (s := upd s h1 tk1) S1 (fun b o e => Heap.get?_push_of_some _ e) (Nat.le_refl _)
  refine k _ O1 N1 _ tk1 h1.objs.size [h1.objs.size, l] [h1.objs.size] _ _ hI S2 ⟨rfl, Wk, ⟨⟨_, Heap.get?_push_size _ rfl, rfl, rfl⟩, hL.at fun o e => Heap.get?_push_of_some _ e⟩, fun j v _ hv => ?_, ?_, by simp, ?_, ?_, ?_⟩ ht1
  · have hj : j < items.length := by rw [← hlen]; exact (Array.getElem?_eq_some_iff.mp hv).1
    obtain ⟨w, hw, iw⟩ := ia.get (i := j) (a := items[j]) (by simp [hj])
    have : w = v := by
      have q : vs[j]? = some w := by simpa using hw
      have hv' : vs[j]? = some v := hv
      rw [q] at hv'; exact Option.some.inj hv'
    subst this
    exact ⟨items[j], by simp [hj], iw⟩
  · intro b hb
    rw [Heap.size_push]
    rcases List.mem_cons.mp hb with rfl | hb
    · exact Nat.lt_succ_self _
    · rw [List.mem_singleton.mp hb]; exact Nat.lt_succ_of_lt hlt
  · intro b hb
    rw [List.mem_singleton.mp hb]
    obtain ⟨⟨mf, C, g1, g2, g3, g4⟩, g5, g6⟩ := S1
    refine ⟨fun q => ?_, fun q => ?_, next_is_new g1⟩
    · rw [← g3, ← List.map_append] at q
      obtain ⟨p, hp, e⟩ := List.mem_map.mp q
      have := Heap.lt_size (g2 p hp).1
      have e' : p.1 = h1.objs.size := e
      rw [e'] at this
      exact Nat.lt_irrefl _ this
    · exact absurd g1.ns.lt (q ▸ Nat.lt_irrefl _)
  · intro b hb hn
    rcases List.mem_cons.mp hb with rfl | hb
    · exact absurd (.head _) hn
    · rw [List.mem_singleton.mp hb]; exact .inl ⟨_, hm⟩
  · rintro j h' ⟨⟨o, ho, _⟩, _⟩ b hb
    rw [List.mem_singleton.mp hb]; exact ⟨o, ho⟩
end
end Mine
end
section
open PySem PySem.W PyProof.Rows PySem.Calls
set_option autoImplicit false
set_option linter.unusedVariables false
namespace Mine
section
variable {G : GC} {c : Act G} {σ : Sto} {O F : Led} {s : Shared}

theorem St.lt (S : St c σ O F s) : ∀ b ∈ c.cells ++ (O ++ F).map (·.1), b < s.heap.objs.size := by
  obtain ⟨⟨mf, C, h1, h2, h3, h4⟩, h5, h6, h7⟩ := S
  intro b hb
  rw [← h3, ← List.map_append] at hb
  obtain ⟨p, hp, rfl⟩ := List.mem_map.mp hb
  exact Heap.lt_size (h2 p hp).1
theorem St.Lh (S : St c σ O F s) : c.L < s.heap.objs.size ∧ ∀ b o, c.h0.get? b = some o → b < s.heap.objs.size := by
  obtain ⟨⟨mf, C, h1, h2, h3, h4⟩, h5, h6, h7⟩ := S
  exact ⟨h1.ns.lt, fun b o e => Heap.lt_size (h1.keep b o e)⟩

/-- a new object stands at the heap's old end; the heap has grown -/
theorem St.grown (S : St c σ O F s) {h : Heap} {tk : Nat} (k : ∀ b o, s.heap.get? b = some o → h.get? b = some o) {o : Obj} (ho : h.get? s.heap.objs.size = some o) (ht : s.toks ≤ tk) :
    St c σ ((s.heap.objs.size, o) :: O) F (upd s h tk) := by
  have S1 := S.keeps k ht
  obtain ⟨⟨mf, C, h1, h2, h3, h4⟩, h5, h6, h7⟩ := S1
  refine ⟨⟨mf, C, h1, fun p hp => ?_, h3, h4⟩, ?_, h6, h7⟩
  · simp only [List.mem_append, List.mem_cons, List.cons_append] at hp
    rcases hp with z | z | z | z
    · exact h2 p (List.mem_append_left _ z)
    · subst z
      refine ⟨ho, fun q => ?_, ?_⟩
      · have := S.Lh.1; rw [← q] at this; exact Nat.lt_irrefl _ this
      · cases q : c.h0.get? s.heap.objs.size with
        | none => rfl
        | some o' => exact absurd (S.Lh.2 _ _ q) (Nat.lt_irrefl _)
    · exact h2 p (List.mem_append_right _ (List.mem_append_left _ z))
    · exact h2 p (List.mem_append_right _ (List.mem_append_right _ z))
  · show (c.cells ++ (s.heap.objs.size :: (O ++ F).map (·.1))).Nodup
    refine (List.Perm.nodup_iff List.perm_middle).mpr (List.nodup_cons.mpr ⟨fun hm => ?_, h5⟩)
    exact Nat.lt_irrefl _ (S.lt _ hm)

/-! ### ranges -/
abbrev rangeO (a b cc : Int) (t u v : Tok) : Obj := { cls := .type "range", data := .fields #[.int a t, .int b u, .int cc v] }
def RangeRes (O : Led) (a b cc : Int) : VPost := fun pv O1 N1 => ∃ r t u v, pv = .ref r ∧ O1 = O ∧ N1 = [(r, rangeO a b cc t u v)]

theorem bi_range1 {n : Int} {t : Tok} : TV c σ O F (call (.type "range") [.int n t]) (RangeRes O 0 n 1) := by
  intro s Q S k
  have S₀ := S
  obtain ⟨⟨mf, C, h1, h2, h3, h4⟩, h5, h6, h7⟩ := S
  refine wpAny_with_toks (Nat.le_refl _) (range1_rows h1 h2 fun h' tk t₁ u₁ v₁ hr _ _ hk => ?_)
  intro ht
  have S1 := S₀.grown hk hr ht
  exact k (.ref s.heap.objs.size) σ O [(_, rangeO 0 n 1 t₁ u₁ v₁)] h' tk ⟨rfl, .ref _, ⟨_, _, _, _, rfl, rfl, rfl⟩, rfl⟩ (S1.move (by simpa using (List.perm_middle (a := (s.heap.objs.size, rangeO 0 n 1 t₁ u₁ v₁)) (l₁ := O) (l₂ := F)).symm) fun p hp => .tail _ hp) ht
theorem bi_range3 {a b d : Int} {t u v : Tok} (hd : d ≠ 0) (hp : Builtin.divisionGoesByPylong (b - a) d = false) : TV c σ O F (call (.type "range") [.int a t, .int b u, .int d v]) (RangeRes O a b d) := by
  intro s Q S k
  have S₀ := S
  obtain ⟨⟨mf, C, h1, h2, h3, h4⟩, h5, h6, h7⟩ := S
  refine wpAny_with_toks (Nat.le_refl _) (range3_rows h1 h2 hd (fun h' tk t₁ u₁ v₁ hr _ _ hk => ?_) (.inl hp))
  intro ht
  have S1 := S₀.grown hk hr ht
  exact k (.ref s.heap.objs.size) σ O [(_, rangeO a b d t₁ u₁ v₁)] h' tk ⟨rfl, .ref _, ⟨_, _, _, _, rfl, rfl, rfl⟩, rfl⟩ (S1.move (by simpa using (List.perm_middle (a := (s.heap.objs.size, rangeO a b d t₁ u₁ v₁)) (l₁ := O) (l₂ := F)).symm) fun p hp => .tail _ hp) ht

def rangePV (a d : Int) (n : Nat) : List PV := (List.range n).map fun k : Nat => PV.int (a + (k : Int) * d)
theorem rangePV_get {a d : Int} {n k : Nat} (h : k < n) : (rangePV a d n)[k]? = some (.int (a + (k : Int) * d)) := by simp [rangePV, h]
theorem rangePV_len {a d : Int} {n : Nat} : (rangePV a d n).length = n := by simp [rangePV]

theorem it_range {iter : Expr} {a b d : Int} {n : Nat} {I0 : Led → Led → Prop} (h : Ev c σ O F iter (RangeRes O a b d)) (hsm : Builtin.Range.small a b d = true) (hn : Builtin.Range.rangeSize a b d = (n : Int)) (h0 : I0 O []) (H : Own c) :
    Iterates c σ O F iter (rangePV a d n) I0 := by
  intro s Q S k
  refine h s _ S ?_
  rintro v σ1 O1 N1 h1 tk1 ⟨e, pv, ⟨r, t, u, w, rfl, rfl, rfl⟩, iv⟩ S1 ht1
  subst e
  cases iv
  have hg : h1.get? r = some (rangeO a b d t u w) := St.get (s := upd s h1 tk1) S1 (List.mem_append_right _ (.head _))
  refine wpAny_pyIter_range (s := upd s h1 tk1) hg hsm ?_
  have S2 : St c σ1 O1 F (upd s (h1.push { cls := Value.type "range_iterator", data := Data.fields #[rawInt a, rawInt (Builtin.Range.rangeSize a b d), rawInt d] }) tk1) :=
    St.keeps (s := upd s h1 tk1) (S1.shrink H (List.sublist_append_right _ _)) (fun b o e => Heap.get?_push_of_some _ e) (Nat.le_refl _)
  have Wk := Walks.range (prog := G.prog) (w := G.w) c.hhan h1.objs.size a d n
  have el : (rangePV a d n).length = n := rangePV_len
  refine k _ O1 [] _ tk1 h1.objs.size [h1.objs.size] [h1.objs.size] _ _ h0 S2 ⟨rfl, by rw [el]; exact Wk, ?_, fun j v hj hv => ?_, ?_, by simp, ?_, ?_, ?_⟩ ht1
  · show IsRangeIter _ _ _ _ _
    rw [show a + ((0 : Nat) : Int) * d = a by simp, show (n : Int) - ((0 : Nat) : Int) = n by simp, ← hn]
    exact Heap.get?_push_size _ rfl
  · obtain ⟨tt, rfl⟩ := hv
    exact ⟨_, rangePV_get (by rw [← rangePV_len (a := a) (d := d) (n := n)]; exact hj), tt, rfl⟩
  · intro b hb
    rw [Heap.size_push, List.mem_singleton.mp hb]
    exact Nat.lt_succ_self _
  · intro b hb
    rw [List.mem_singleton.mp hb]
    have S3 : St c σ1 O1 F (upd s h1 tk1) := S1.shrink H (List.sublist_append_right _ _)
    refine ⟨fun q => Nat.lt_irrefl _ (S3.lt _ q), fun q => ?_, ?_⟩
    · have := S3.Lh.1; rw [← q] at this; exact Nat.lt_irrefl _ this
    · cases q : c.h0.get? h1.objs.size with
      | none => rfl
      | some o' => exact absurd (S3.Lh.2 _ _ q) (Nat.lt_irrefl _)
  · intro b hb hn
    exact absurd hb hn
  · rintro j h' ho b hb
    rw [List.mem_singleton.mp hb]; exact ⟨_, ho⟩

theorem it_range1 {p pos : Pos} {e : Expr} {n : Nat} {I0 : Led → Led → Prop} (ns : nsIn G.K mainGlobals (Str.ofString "range") = some none) (hx : c.env.kindOf (Str.ofString "range") = some .globalImplicit)
    (he : Evp c σ O F e (.int (n : Int))) (hn : n ≤ 2 ^ 40) (h0 : I0 O []) (H : Own c) (hst : ∀ env, starEach [e] env = [(false, eval e env)] := by intro _; rfl) :
    Iterates c σ O F (.Call (.Name (Str.ofString "range") p) [e] [] pos) (rangePV 0 1 n) I0 := by
  refine it_range (b := (n : Int)) (ev_tcall ns (by boot_fast) hx (ta_consp he (ta_nil fun vals hv => ?_) hst) (he := hst)) ?_ ?_ h0 H
  · obtain ⟨v, rfl, t, rfl⟩ := hv.one
    exact TV.mono bi_range1 fun pv O' N h => by simpa using h
  · have e : Builtin.Range.rangeSize 0 (n : Int) 1 = n := by unfold Builtin.Range.rangeSize; split <;> (try split) <;> omega
    unfold Builtin.Range.small Builtin.Range.rangeFitsLong
    rw [e]
    simp only [Bool.and_eq_true, Bool.or_eq_true, decide_eq_true_eq, beq_iff_eq]
    refine ⟨⟨⟨⟨by omega, by omega⟩, by omega⟩, by omega⟩, .inr ?_⟩
    simp only [show (1 : Int) > 0 by decide, if_true, Bool.and_eq_true, decide_eq_true_eq]; omega
  · unfold Builtin.Range.rangeSize; split <;> (try split) <;> omega

theorem All2.of_get {α β : Type} {R : α → β → Prop} : ∀ {as : List α} {bs : List β}, as.length = bs.length → (∀ (i : Nat) a b, as[i]? = some a → bs[i]? = some b → R a b) → All2 R as bs
  | [], [], _, _ => .nil
  | [], _ :: _, h, _ => by simp at h
  | _ :: _, [], h, _ => by simp at h
  | a :: as, b :: bs, h, hr => .cons (hr 0 a b (by simp) (by simp)) (All2.of_get (by simpa using h) fun i x y hx hy => hr (i + 1) x y (by simpa using hx) (by simpa using hy))

theorem all2_range {a d : Int} {acc : Array Value} {n : Nat} (h : ItemsOf (fun i v => ∃ t, v = Value.int (a + (i : Int) * d) t) acc n) : All2 PV.Is (rangePV a d n) acc.toList := by
  refine All2.of_get (by rw [rangePV_len]; simpa using h.1.symm) fun i x y hx hy => ?_
  have hi : i < n := by rw [← rangePV_len (a := a) (d := d) (n := n)]; exact (List.getElem?_eq_some_iff.mp hx).1
  rw [rangePV_get hi] at hx
  cases hx
  obtain ⟨t, rfl⟩ := h.2 i y (by simpa using hy)
  exact ⟨t, rfl⟩

/-- list(range(a, b, d)) -/
theorem ev_listrange {lp rp p pos : Pos} {args : List Expr} {a b d : Int} {n : Nat} {R : VPost} (nl : nsIn G.K mainGlobals (Str.ofString "list") = some none) (hxl : c.env.kindOf (Str.ofString "list") = some .globalImplicit)
    (hr : Ev c σ O F (.Call (.Name (Str.ofString "range") rp) args [] p) (RangeRes O a b d)) (hsm : Builtin.Range.small a b d = true) (hn : Builtin.Range.rangeSize a b d = (n : Int)) (hb : n ≤ 1048576) (H : Own c)
    (h : ∀ l o, ListO (rangePV a d n) o → R (.ref l) ((l, o) :: O) []) :
    Ev c σ O F (.Call (.Name (Str.ofString "list") lp) [.Call (.Name (Str.ofString "range") rp) args [] p] [] pos) R := by
  intro s0 Q0 S0 k0
  refine (ev_tcall (R := fun pv O' N => ∃ l o, pv = .ref l ∧ ListO (rangePV a d n) o ∧ O' = (l, o) :: O) nl (by boot_fast) hxl (ta_cons (TV.mono hr ?_))) s0 Q0 S0 ?_
  · rintro pv O1 N1 ⟨r, t, u, w, rfl, rfl, rfl⟩
    refine ta_nil fun vals hv => ?_
    obtain ⟨v, rfl, e⟩ := hv.one
    cases e
    intro s Q S k
    have hg : s.heap.get? r = some (rangeO a b d t u w) := S.get (List.mem_append_right _ (by simp))
    refine wpAny_with_toks (Nat.le_refl _) (call_list_range c.hhan hg hsm hn (by omega) fun h' tk acc c' hk ho hi => ?_)
    intro ht
    have S1 := S.grown hk ho ht
    refine k (.ref s.heap.objs.size) σ _ [] h' tk ⟨rfl, .ref _, ⟨_, _, rfl, ⟨acc, c', rfl, ?_⟩, rfl⟩, rfl⟩ S1 ht
    exact all2_range hi
  · rintro v σ' O' N hh tk ⟨e, pv, ⟨l, o, e1, e2, e3⟩, iv⟩ S ht
    subst e e3
    exact k0 v _ ((l, o) :: O) [] hh tk ⟨rfl, pv, e1 ▸ h l o e2, iv⟩ (S.shrink H (List.sublist_append_right _ _)) ht

/-! ### taking tuples apart -/
theorem ex_unpack2 (i j : Nat) {x y : Str} {px py tp pos : Pos} {k' : Nat} {e : Expr} {P : FPost}
    (he : Ev c σ O F e fun pv O1 N1 => ∃ t o u v, pv = .ref t ∧ TupO [u, v] o ∧ (t, o) ∈ O1 ++ (N1 ++ F) ∧ P .next ((σ.set i (some u)).set j (some v)) O1 N1)
    (hx : c.names[i]? = some x) (hkx : c.env.kindOf x = some .local) (hy : c.names[j]? = some y) (hky : c.env.kindOf y = some .local) (hL : c.env.locals = c.L) (hi : i < σ.length) (hj : j < σ.length)
    (hs : swapsWithSole [.Tuple [.Name x px, .Name y py] k' tp] e pos.line c.env = pure false := by rfl)
    (hw : swappedStores [.Tuple [.Name x px, .Name y py] k' tp] e c.env = pure none := by rfl) :
    Ex1 c σ O F (.Assign [.Tuple [.Name x px, .Name y py] k' tp] e pos) P := by
  intro s Q S k
  refine Assign_Tuple (he s _ S ?_) hs hw
  rintro v σ1 O1 N1 h1 tk1 ⟨e1, pv, ⟨t, o, u, w, rfl, ht, hm, hP⟩, iv⟩ S1 ht1
  subst e1
  cases iv
  obtain ⟨vs, rfl, ia⟩ := ht
  obtain ⟨a, b, hab, iu, iw⟩ := ia.two
  have hvs : vs = #[a, b] := by apply Array.toList_inj.mp; simpa using hab
  subst hvs
  have hg : h1.get? t = some _ := St.get (s := upd s h1 tk1) S1 hm
  refine assign_Tuple_tuple c.hhan ⟨_, hg, rfl, _, rfl⟩ rfl rfl fun h2 he2 => ?_
  have S2 : St c σ1 O1 (N1 ++ F) (upd s h2 tk1) := St.keeps (s := upd s h1 tk1) S1 (fun b' o' e' => he2 b' o' (Nat.ne_of_lt (Heap.lt_size e')) e') (Nat.le_refl _)
  refine assignInOrder_cons (wpAny_assign_Name (S2.store hx hkx hL iu hi fun h3 S3 => ?_))
  refine assignInOrder_cons (wpAny_assign_Name (S3.store hy hky hL iw (by simpa using hj) fun h4 S4 => ?_))
  exact assignInOrder_nil (k .next _ O1 N1 h4 _ ⟨.next, hP, rfl⟩ S4 (by show s.toks ≤ tk1 + 1 + 1; omega))

/-- a, b = (u, v), the stores exchanged -/
theorem ex_swap2 (i j : Nat) {x y : Str} {px py tp vp pos : Pos} {k' k2 : Nat} {e1 e2 : Expr} {u v : PV} {P : FPost} (he1 : Evp c σ O F e1 u) (he2 : Evp c σ O F e2 v)
    (h : P .next ((σ.set j (some v)).set i (some u)) O [])
    (hx : c.names[i]? = some x) (hkx : c.env.kindOf x = some .local) (hy : c.names[j]? = some y) (hky : c.env.kindOf y = some .local) (hL : c.env.locals = c.L) (hi : i < σ.length) (hj : j < σ.length)
    (hstar : ∀ env, starEach [e1, e2] env = [(false, eval e1 env), (false, eval e2 env)] := by intro _; rfl)
    (hstar2 : ∀ env, starEach [e2] env = [(false, eval e2 env)] := by intro _; rfl)
    (hs : swapsWithSole [.Tuple [.Name x px, .Name y py] k' tp] (.Tuple [e1, e2] k2 vp) pos.line c.env = pure false := by rfl)
    (hw : swappedStores [.Tuple [.Name x px, .Name y py] k' tp] (.Tuple [e1, e2] k2 vp) c.env = pure (some [x, y])) :
    Ex1 c σ O F (.Assign [.Tuple [.Name x px, .Name y py] k' tp] (.Tuple [e1, e2] k2 vp) pos) P := by
  intro s Q S k
  have ht : Ev c σ O F (.Tuple [e1, e2] k2 vp) fun pv O1 N1 => ∃ t o, pv = .ref t ∧ TupO [u, v] o ∧ O1 = (t, o) :: O ∧ N1 = [] :=
    ev_tuple (ta_pp he1 (ta_pp he2 ta_np hstar2) fun env => by rw [hstar, hstar2]) (by rw [sizeLine_eq]; simp) fun a o ho => ⟨a, o, rfl, ho, rfl, rfl⟩
  refine Assign_Tuple_swapped (names := [x, y]) (ht s _ S ?_) hs hw
  rintro w σ1 O1 N1 h1 tk1 ⟨q1, pv, ⟨t, o, rfl, htp, rfl, rfl⟩, iv⟩ S1 ht1
  subst q1
  cases iv
  obtain ⟨vs, rfl, ia⟩ := htp
  obtain ⟨a, b, hab, iu, iw⟩ := ia.two
  have hvs : vs = #[a, b] := by apply Array.toList_inj.mp; simpa using hab
  subst hvs
  have hg : h1.get? t = some _ := St.get (s := upd s h1 tk1) S1 (.head _)
  refine unpackItems_tuple (items := #[a, b]) c.hhan ⟨_, hg, rfl, _, rfl⟩ fun h2 he2 => ?_
  have S2 : St c σ1 O F (upd s h2 tk1) := St.keeps (s := upd s h1 tk1) (S1.drop (List.sublist_cons_self _ _)) (fun b' o' e' => he2 b' o' (Nat.ne_of_lt (Heap.lt_size e')) e') (Nat.le_refl _)
  refine assignInOrder_cons (wpAny_bindName (S2.store hy hky hL iw hj fun h3 S3 => ?_))
  refine assignInOrder_cons (wpAny_bindName (S3.store hx hkx hL iu (by simpa using hi) fun h4 S4 => ?_))
  exact assignInOrder_nil (k .next _ O [] h4 _ ⟨.next, h, rfl⟩ S4 (by show s.toks ≤ tk1 + 1 + 1; omega))

/-! over Loc -/
section
variable {names : List Str} {scope : Scope}
theorem for_ (H : Loc c names scope) (i : Nat) {x : Str} {px pos : Pos} {iter : Expr} {body : List Stmt} {P : FPost} {items : List PV} (hx : names[i]? = some x)
    (I : Nat → Sto → Led → Led → Prop) (hi : ∀ k σ1 O1 N1, I k σ1 O1 N1 → i < σ1.length)
    (hit : Iterates c σ O F iter items fun O1 N1 => I 0 σ O1 N1)
    (turn : ∀ k pv σ1 O1 N1 F', items[k]? = some pv → I k σ1 O1 N1 → (∀ p ∈ N1 ++ F, p ∈ F') → Ex c (σ1.set i (some pv)) O1 F' body fun pf σ2 O2 N2 => match pf with
        | .next => I (k + 1) σ2 O2 (N2 ++ N1)
        | .cont => I (k + 1) σ2 O2 (N2 ++ N1)
        | .brk => P .next σ2 O2 (N2 ++ N1)
        | .ret v => P (.ret v) σ2 O2 (N2 ++ N1))
    (done : ∀ σ1 O1 N1, I items.length σ1 O1 N1 → P .next σ1 O1 N1)
    (hs : ∀ x, foldedSetIterable iter c.env x = pure x := by intro _; rfl) : Ex1 c σ O F (.For (.Name x px) iter body [] pos) P :=
  ex_for H.own i (H.name hx) (H.kind hx) I hi hit turn done hs
theorem augadd_ (H : Loc c names scope) (i : Nat) {x : Str} {p pos : Pos} {e : Expr} {a b : Int} {P : FPost} (hx : names[i]? = some x) (hv : σ[i]? = some (some (.int a))) (he : Evp c σ O F e (.int b)) (h : P .next (σ.set i (some (.int (a + b)))) O []) :
    Ex1 c σ O F (.AugAssign (.Name x p) .Add e pos) P := ex_aug_add i hv he h (H.name hx) (H.kind hx) H.L
theorem augsub_ (H : Loc c names scope) (i : Nat) {x : Str} {p pos : Pos} {e : Expr} {a b : Int} {P : FPost} (hx : names[i]? = some x) (hv : σ[i]? = some (some (.int a))) (he : Evp c σ O F e (.int b)) (h : P .next (σ.set i (some (.int (a - b)))) O []) :
    Ex1 c σ O F (.AugAssign (.Name x p) .Sub e pos) P := ex_aug_sub i hv he h (H.name hx) (H.kind hx) H.L
theorem asg2_ (H : Loc c names scope) (i j : Nat) {x y : Str} {p q pos : Pos} {e : Expr} {pv : PV} {P : FPost} (hx : names[i]? = some x) (hy : names[j]? = some y) (hi : i < σ.length) (hj : j < σ.length) (he : Evp c σ O F e pv) (h : P .next ((σ.set i (some pv)).set j (some pv)) O []) :
    Ex1 c σ O F (.Assign [.Name x p, .Name y q] e pos) P := ex_asg2 i j he h (H.name hx) (H.kind hx) (H.name hy) (H.kind hy) H.L hi hj
theorem g_ (H : Loc c names scope) {x : Str} {pos : Pos} {v : Value} {pv : PV} (e : nsIn G.K mainGlobals x = some (some v)) (hp : pv.Is v) (hx : scope.names.lookup x = some .globalImplicit) (hd : (x == Str.ofString "__debug__") = false := by decide) :
    Evp c σ O F (.Name x pos) pv := ev_glob e hp (H.glob hx) hd
theorem len_ (H : Loc c names scope) {p pos : Pos} {e : Expr} {x : Str} (ns : nsIn G.K mainGlobals (Str.ofString "len") = some none) (hx : scope.names.lookup (Str.ofString "len") = some .globalImplicit) (he : Evp c σ O F e (.str x)) (h : x.length ≤ 1048576)
    (hst : ∀ env, starEach [e] env = [(false, eval e env)] := by intro _; rfl) :
    Evp c σ O F (.Call (.Name (Str.ofString "len") p) [e] [] pos) (.int x.length) := ev_len ns (H.glob hx) he h hst
theorem min2_ (H : Loc c names scope) {p pos : Pos} {e1 e2 : Expr} {a b : Int} (ns : nsIn G.K mainGlobals (Str.ofString "min") = some none) (hx : scope.names.lookup (Str.ofString "min") = some .globalImplicit)
    (h1 : Evp c σ O F e1 (.int a)) (h2 : Evp c σ O F e2 (.int b))
    (hst : ∀ env, starEach [e1, e2] env = (false, eval e1 env) :: starEach [e2] env := by intro _; rfl) (hst2 : ∀ env, starEach [e2] env = [(false, eval e2 env)] := by intro _; rfl) :
    Evp c σ O F (.Call (.Name (Str.ofString "min") p) [e1, e2] [] pos) (.int (if b < a then b else a)) :=
  ev_bcall ns (by boot_fast) (H.glob hx) (ta_consp h1 (ta_consp h2 (ta_nil fun vals hv => by
    obtain ⟨v, w, rfl, ⟨t, rfl⟩, u, rfl⟩ := hv.two
    exact TV.mono bi_min2 fun pv O' N h => by simpa using h) hst2) hst) (he := hst) (hplain := fun pos env => by rw [hst2]; rfl)
end

/-! steps of a block -/
section
variable {names : List Str} {scope : Scope} {rest : List Stmt} {P : FPost}
theorem s_ret {e : Expr} {pos : Pos} {pv : PV} (he : Evp c σ O F e pv) (h : P (.ret pv) σ O []) : Ex c σ O F (.Return (some e) pos :: rest) P :=
  ex_cons (ex_ret (TV.mono he fun pv' O' N ⟨e1, e2, e3⟩ => by subst e1 e2 e3; exact h))
theorem s_asg (H : Loc c names scope) (i : Nat) {x : Str} {p pos : Pos} {e : Expr} {pv : PV} (hx : names[i]? = some x) (hi : i < σ.length) (he : Evp c σ O F e pv) (k : Ex c (σ.set i (some pv)) O F rest P)
    (hs : swapsWith e (some (.Name x p)) pos.line c.env = pure false := by rfl) : Ex c σ O F (.Assign [.Name x p] e pos :: rest) P :=
  ex_step (asg_ H i hx hi (TV.mono he fun pv' O' N ⟨e1, e2, e3⟩ => by subst e1 e2 e3; exact ⟨rfl, rfl, rfl, rfl⟩) hs) k
theorem s_asg2 (H : Loc c names scope) (i j : Nat) {x y : Str} {p q pos : Pos} {e : Expr} {pv : PV} (hx : names[i]? = some x) (hy : names[j]? = some y) (hi : i < σ.length) (hj : j < σ.length) (he : Evp c σ O F e pv)
    (k : Ex c ((σ.set i (some pv)).set j (some pv)) O F rest P) : Ex c σ O F (.Assign [.Name x p, .Name y q] e pos :: rest) P :=
  ex_step (asg2_ H i j hx hy hi hj he ⟨rfl, rfl, rfl, rfl⟩) k
theorem s_aadd (H : Loc c names scope) (i : Nat) {x : Str} {p pos : Pos} {e : Expr} {a b : Int} (hx : names[i]? = some x) (hv : σ[i]? = some (some (.int a))) (he : Evp c σ O F e (.int b)) (k : Ex c (σ.set i (some (.int (a + b)))) O F rest P) :
    Ex c σ O F (.AugAssign (.Name x p) .Add e pos :: rest) P := ex_step (augadd_ H i hx hv he ⟨rfl, rfl, rfl, rfl⟩) k
theorem s_asub (H : Loc c names scope) (i : Nat) {x : Str} {p pos : Pos} {e : Expr} {a b : Int} (hx : names[i]? = some x) (hv : σ[i]? = some (some (.int a))) (he : Evp c σ O F e (.int b)) (k : Ex c (σ.set i (some (.int (a - b)))) O F rest P) :
    Ex c σ O F (.AugAssign (.Name x p) .Sub e pos :: rest) P := ex_step (augsub_ H i hx hv he ⟨rfl, rfl, rfl, rfl⟩) k
/-- an if without else whose body does not come back -/
theorem s_if {test : Expr} {body : List Stmt} {pos : Pos} {b : Bool} (ht : Tstp c σ O F test b) (h1 : b = true → Ex c σ O F body fun pf σ' O' N => match pf with | .next => False | pf => P pf σ' O' N) (h2 : b = false → Ex c σ O F rest P) :
    Ex c σ O F (.If test body [] pos :: rest) P := by
  refine ex_cons (ex_if ht (fun e => TF.mono (h1 e) fun pf σ' O' N h => ?_) fun e => ex_nil ?_)
  · cases pf with
    | next => exact h.elim
    | brk => exact h
    | cont => exact h
    | ret v => exact h
  · simpa using h2 e
/-- an if without else whose body comes back, purely -/
theorem s_ifp {test : Expr} {body : List Stmt} {pos : Pos} {b : Bool} {σ1 : Sto} (ht : Tstp c σ O F test b) (h1 : b = true → Ex c σ O F body fun pf σ' O' N => pf = .next ∧ σ' = σ1 ∧ O' = O ∧ N = []) (hb : b = false → σ1 = σ) (h2 : Ex c σ1 O F rest P) :
    Ex c σ O F (.If test body [] pos :: rest) P := by
  refine ex_step (ex_if ht (fun e => h1 e) fun e => ex_nil ⟨rfl, (hb e).symm, rfl, rfl⟩) h2
end

/-! texts as lists of signs -/
theorem ts_s {e : Expr} {l : List Nat} (h : Evp c σ O F e (.s l)) (hl : l.length ≤ 1048576)
    (he : ∀ (env : Env) (whole : Sem Value), PySem.isTrue e env whole = (do let v ← whole; standAt e.pos; holding [v] (truthy v)) := by intro _ _; rfl) : Tstp c σ O F e (decide (l ≠ [])) :=
  ts_eq (ts_val h (fun v ⟨t, e⟩ => by subst e; exact tr_str (by rw [mk_length]; exact hl)) he) (by
    rw [mk_length]
    cases l with
    | nil => rfl
    | cons x xs => simp; omega)
theorem ts_and2 {x y : Expr} {pos : Pos} {b : Bool} (a1 a2 : Bool) (h1 : Tstp c σ O F x a1) (h2 : a1 = true → Tstp c σ O F y a2) (e : (a1 && a2) = b) : Tstp c σ O F (.BoolOp .And [x, y] pos) b :=
  ts_bop (by rw [← e, ← Bool.and_true a2]; exact and_cons h1 fun q => and_cons (h2 q) fun _ => and_nil)
theorem ts_and3 {x y z : Expr} {pos : Pos} {b : Bool} (a1 a2 a3 : Bool) (h1 : Tstp c σ O F x a1) (h2 : a1 = true → Tstp c σ O F y a2) (h3 : a1 = true → a2 = true → Tstp c σ O F z a3) (e : (a1 && (a2 && a3)) = b) : Tstp c σ O F (.BoolOp .And [x, y, z] pos) b :=
  ts_bop (by rw [← e, ← Bool.and_true a3]; exact and_cons h1 fun q => and_cons (h2 q) fun q2 => and_cons (h3 q q2) fun _ => and_nil)
theorem ts_or2 {x y : Expr} {pos : Pos} {b : Bool} (a1 a2 : Bool) (h1 : Tstp c σ O F x a1) (h2 : a1 = false → Tstp c σ O F y a2) (e : (a1 || a2) = b) : Tstp c σ O F (.BoolOp .Or [x, y] pos) b :=
  ts_bop (by rw [← e, ← Bool.or_false a2]; exact or_cons h1 fun q => or_cons (h2 q) fun _ => or_nil)

theorem item_ {value slice : Expr} {pos : Pos} {l : List Nat} {i : Nat} (ho : Evp c σ O F value (.s l)) (hi : Evp c σ O F slice (.int (i : Int))) (h : i < l.length) (hl : l.length ≤ 1048576)
    (hs : ∀ o i, subscripted slice false o i = operate [o, i] (getItem o i) := by intro _ _; rfl) : Evp c σ O F (.Subscript value slice pos) (.s [l[i]]) :=
  ev_eq (ev_stritem ho hi (by rw [mk_length]; omega) (by rw [mk_length]; omega) (by rw [mk_length]; exact hl) hs) (by rw [item_pos h])
theorem itemneg_ {value slice : Expr} {pos : Pos} {l : List Nat} {i : Nat} (ho : Evp c σ O F value (.s l)) (hi : Evp c σ O F slice (.int (-((i : Int) + 1)))) (h : i < l.length) (hl : l.length ≤ 1048576)
    (hs : ∀ o i, subscripted slice false o i = operate [o, i] (getItem o i) := by intro _ _; rfl) : Evp c σ O F (.Subscript value slice pos) (.s [l.reverse[i]'(by simpa using h)]) :=
  ev_eq (ev_stritem ho hi (by rw [mk_length]; omega) (by rw [mk_length]; omega) (by rw [mk_length]; exact hl) hs) (by
    congr 1
    have := item_closes_neg (x := mk l) (i := -((i : Int) + 1)) (j := (l.length : Int) - 1 - i) (by omega) (by rw [mk_length]; omega) (by rw [mk_length]; omega)
    rw [eq_of_beq this, List.getElem_reverse]
    have e : ((l.length : Int) - 1 - i).toNat = l.length - 1 - i := by omega
    have h2 : l.length - 1 - i < l.length := by omega
    simp [mk, e, h2])
theorem from_ {value : Expr} {lo : Expr} {p pos : Pos} {l : List Nat} {a : Nat} (ho : Evp c σ O F value (.s l)) (hl : Evp c σ O F lo (.int (a : Int))) (ha : a ≤ l.length) (hx : l.length ≤ 1048576) : Evp c σ O F (.Subscript value (.Slice (some lo) none none p) pos) (.s (l.drop a)) :=
  ev_eq (ev_strslice (some (a : Int)) none ho (part_some hl) part_none (by rw [mk_length]; exact hx)) (by rw [slice_from ha])
theorem to_ {value : Expr} {hi : Expr} {p pos : Pos} {l : List Nat} {a : Nat} (ho : Evp c σ O F value (.s l)) (hl : Evp c σ O F hi (.int (a : Int))) (ha : a ≤ l.length) (hx : l.length ≤ 1048576) : Evp c σ O F (.Subscript value (.Slice none (some hi) none p) pos) (.s (l.take a)) :=
  ev_eq (ev_strslice none (some (a : Int)) ho part_none (part_some hl) (by rw [mk_length]; exact hx)) (by rw [slice_to ha])
theorem mid_ {value : Expr} {lo hi : Expr} {p pos : Pos} {l : List Nat} {a b : Nat} (ho : Evp c σ O F value (.s l)) (hlo : Evp c σ O F lo (.int (a : Int))) (hhi : Evp c σ O F hi (.int (b : Int))) (hab : a ≤ b) (hb : b ≤ l.length) (hx : l.length ≤ 1048576) :
    Evp c σ O F (.Subscript value (.Slice (some lo) (some hi) none p) pos) (.s ((l.drop a).take (b - a))) :=
  ev_eq (ev_strslice (some (a : Int)) (some (b : Int)) ho (part_some hlo) (part_some hhi) (by rw [mk_length]; exact hx)) (by rw [slice_mid hab hb])
/-- value[:post or None] where post is less than nothing, or nothing -/
theorem toneg_ {value x : Expr} {bp np p pos : Pos} {k : Nat} {l : List Nat} {a : Nat} (ho : Evp c σ O F value (.s l)) (hp : Evp c σ O F x (.int (-(a : Int)))) (ha : a ≤ l.length) (hx : l.length ≤ 1048576) :
    Evp c σ O F (.Subscript value (.Slice none (some (.BoolOp .Or [x, .Constant .none k np] bp)) none p) pos) (.s (l.take (l.length - a))) := by
  by_cases h0 : a = 0
  · subst h0
    refine ev_eq (ev_strslice none none ho part_none (part_some (o := none) ?_) (by rw [mk_length]; exact hx)) (by rw [slice_all]; simp)
    exact ev_or2 hp (b := false) (fun v ⟨t, e⟩ => by subst e; exact tr_int) (by simp) fun _ => ev_none
  · refine ev_eq (ev_strslice none (some (-(a : Int))) ho part_none (part_some (o := some (-(a : Int))) ?_) (by rw [mk_length]; exact hx)) (by rw [slice_to_neg ha (by omega)])
    refine ev_or2 hp (b := true) (fun v ⟨t, e⟩ => ?_) (fun _ => ⟨rfl, rfl, rfl⟩) (by simp)
    subst e
    have : ((-(a : Int)) != 0) = true := by simp; omega
    rw [← this]; exact tr_int

/-! loops that freeze nothing -/
section
variable {names : List Str} {scope : Scope} {rest : List Stmt} {P : FPost}
theorem s_while {test : Expr} {body : List Stmt} {pos : Pos} (I : Nat → Sto → Prop) (n₀ : Nat) (h0 : I n₀ σ)
    (turn : ∀ n σ1, I n σ1 → ∃ b, Tstp c σ1 O F test b ∧
      (b = true → Ex c σ1 O F body fun pf σ2 O2 N2 => O2 = O ∧ N2 = [] ∧ match pf with
        | .next => ∃ m, m < n ∧ I m σ2
        | .cont => ∃ m, m < n ∧ I m σ2
        | .brk => Ex c σ2 O F rest P
        | .ret v => P (.ret v) σ2 O []) ∧
      (b = false → Ex c σ1 O F rest P)) : Ex c σ O F (.While test body [] pos :: rest) P := by
  refine ex_cons (ex_while (fun n σ1 O1 N1 => O1 = O ∧ N1 = [] ∧ I n σ1) n₀ ⟨rfl, rfl, h0⟩ ?_)
  rintro n σ1 O1 N1 ⟨rfl, rfl, hI⟩
  obtain ⟨b, ht, h1, h2⟩ := turn n σ1 hI
  refine ⟨b, ht, fun e => TF.mono (h1 e) ?_, fun e => by simpa using h2 e⟩
  rintro pf σ2 O2 N2 ⟨rfl, rfl, h⟩
  cases pf with
  | next => obtain ⟨m, hm, h⟩ := h; exact ⟨m, hm, rfl, rfl, h⟩
  | cont => obtain ⟨m, hm, h⟩ := h; exact ⟨m, hm, rfl, rfl, h⟩
  | brk => simpa using h
  | ret v => exact h
theorem s_for (H : Loc c names scope) (i : Nat) {x : Str} {px pos : Pos} {iter : Expr} {body : List Stmt} {items : List PV} (hx : names[i]? = some x)
    (I : Nat → Sto → Led → Prop) (hi : ∀ k σ1 O1, I k σ1 O1 → i < σ1.length)
    (hit : Iterates c σ O F iter items fun O1 N1 => N1 = [] ∧ I 0 σ O1)
    (turn : ∀ k pv σ1 O1 F', items[k]? = some pv → I k σ1 O1 → (∀ p ∈ F, p ∈ F') → Ex c (σ1.set i (some pv)) O1 F' body fun pf σ2 O2 N2 => N2 = [] ∧ match pf with
        | .next => I (k + 1) σ2 O2
        | .cont => I (k + 1) σ2 O2
        | .brk => Ex c σ2 O2 F rest P
        | .ret v => P (.ret v) σ2 O2 [])
    (done : ∀ σ1 O1, I items.length σ1 O1 → Ex c σ1 O1 F rest P)
    (hs : ∀ x, foldedSetIterable iter c.env x = pure x := by intro _; rfl) : Ex c σ O F (.For (.Name x px) iter body [] pos :: rest) P := by
  refine ex_cons (for_ H i hx (fun k σ1 O1 N1 => N1 = [] ∧ I k σ1 O1) (fun k σ1 O1 N1 h => hi k σ1 O1 h.2) hit ?_ ?_ hs)
  · rintro k pv σ1 O1 N1 F' hk ⟨rfl, hI⟩ hF
    refine TF.mono (turn k pv σ1 O1 F' hk hI hF) ?_
    rintro pf σ2 O2 N2 ⟨rfl, h⟩
    cases pf with
    | next => exact ⟨rfl, h⟩
    | cont => exact ⟨rfl, h⟩
    | brk => simpa using h
    | ret v => exact h
  · rintro σ1 O1 N1 ⟨rfl, hI⟩
    simpa using done σ1 O1 hI
end

theorem TF.drop {t : Sem Flow} {P : FPost} (h : TF c σ O F t fun pf σ' O' N => ∃ O'' : Led, O''.Sublist O' ∧ P pf σ' O'' N) : TF c σ O F t P := by
  intro s Q S k
  refine h s Q S ?_
  rintro fl σ' O' N hh tk ⟨pf, ⟨O'', hs, hp⟩, ip⟩ S' ht
  exact k fl σ' O'' N hh tk ⟨pf, hp, ip⟩ (S'.drop hs) ht

theorem swapped_names {env : Env} {x y x2 y2 : Str} {px py q1 q2 tp vp : Pos} {k1 k2 : Nat} (hk : env.scope.kind = .function) (hx : env.kindOf x = some .local) (hy : env.kindOf y = some .local) (hl : px.line = py.line) (hne : x ≠ y)
    (h1 : (x2 == Str.ofString "__debug__") = false) :
    swappedStores [.Tuple [.Name x px, .Name y py] k1 tp] (.Tuple [.Name x2 q1, .Name y2 q2] k2 vp) env = pure (some [x, y]) := by
  have e0 : [x, y].eraseDups.length = [x, y].length := by
    simp [List.eraseDups_cons, Ne.symm hne]
  unfold swappedStores
  simp [Env.blockKind, hk, hx, hy, hl, foldedForSure, constantsAlone, h1, Expr.pos]
  exact fun h => absurd e0 h

/-- a call of a def that hands back a plain value -/
theorem callp_ {names : List Str} {scope : Scope} (H : Loc c names scope) {nm : Str} {f : Addr} {p pos : Pos} {e : Expr} {rest : List Expr} {pvs : List PV} {pv : PV} {d u : Nat} (ns : nsIn G.K mainGlobals nm = some (some (.ref f))) (keep : keepIn G.K (.ref f) = true)
    (hx : scope.names.lookup nm = some .globalImplicit) (ha : TA c σ O F pos (e :: rest) (justA O pvs)) (spec : FnPure G f d u pvs pv) (room : Room c d u)
    (he : ∀ env, starEach (e :: rest) env = (false, eval e env) :: starEach rest env := by intro _; rfl)
    (hplain : ∀ (pos : Pos) env, (backTo pos (starEach rest env)).any (·.1) = false := by intro _ _; rfl)
    (hd : (nm == Str.ofString "__debug__") = false := by decide) : Evp c σ O F (.Call (.Name nm p) (e :: rest) [] pos) pv :=
  ev_call ns keep (H.glob hx) (TG.mono ha fun vs σ' O' N ⟨e1, pvs', ⟨e2, e3, e4⟩, i⟩ => ⟨e1, pvs', by
    subst e2 e3 e4
    exact fun vals hv => TV.mono (spec _ _ c σ _ room (fun _ q => q) vals hv) fun r O2 N2 h => by simpa using h, i⟩) he hplain hd

theorem range_small2 {n : Nat} (h : n ≤ 1000000) : Builtin.Range.small 2 (2 * ((n : Int) + 1)) 2 = true ∧ Builtin.Range.rangeSize 2 (2 * ((n : Int) + 1)) 2 = (n : Int) := by
  have e : Builtin.Range.rangeSize 2 (2 * ((n : Int) + 1)) 2 = (n : Int) := by
    unfold Builtin.Range.rangeSize
    rw [if_pos (by decide)]
    split <;> omega
  refine ⟨?_, e⟩
  unfold Builtin.Range.small Builtin.Range.rangeFitsLong
  rw [e]
  simp only [Bool.and_eq_true, Bool.or_eq_true, decide_eq_true_eq, beq_iff_eq]
  refine ⟨⟨⟨⟨by omega, by omega⟩, by omega⟩, by omega⟩, .inr ?_⟩
  simp only [show (2 : Int) > 0 by decide, if_true, Bool.and_eq_true, decide_eq_true_eq]; omega

section
variable {rest : List Stmt} {P : FPost}
theorem s_iftrue {test : Expr} {body orelse : List Stmt} {pos : Pos} (ht : Tstp c σ O F test true)
    (h : Ex c σ O F body fun pf σ1 O1 N1 => match pf with
      | .next => Ex c σ1 O1 (N1 ++ F) rest fun pf2 σ2 O2 N2 => P pf2 σ2 O2 (N2 ++ N1)
      | pf => P pf σ1 O1 N1) : Ex c σ O F (.If test body orelse pos :: rest) P :=
  ex_cons (ex_if ht (fun _ => h) fun e => by cases e)
theorem s_iffalse {test : Expr} {body : List Stmt} {pos : Pos} (ht : Tstp c σ O F test false) (h : Ex c σ O F rest P) : Ex c σ O F (.If test body [] pos :: rest) P :=
  s_if ht (fun e => by cases e) fun _ => h
theorem s_ifelse {test : Expr} {body orelse : List Stmt} {pos : Pos} (ht : Tstp c σ O F test false)
    (h : Ex c σ O F orelse fun pf σ1 O1 N1 => match pf with
      | .next => Ex c σ1 O1 (N1 ++ F) rest fun pf2 σ2 O2 N2 => P pf2 σ2 O2 (N2 ++ N1)
      | pf => P pf σ1 O1 N1) : Ex c σ O F (.If test body orelse pos :: rest) P :=
  ex_cons (ex_if ht (fun e => by cases e) fun _ => h)
/-- what follows a pure end of a block -/
theorem ex_back {P : FPost} (h : Ex c σ O F rest P) : Ex c σ O ([] ++ F) rest fun pf2 σ2 O2 N2 => P pf2 σ2 O2 (N2 ++ []) := by simpa using h
theorem s_brk {pos : Pos} (h : P .brk σ O []) : Ex c σ O F (.Break pos :: rest) P := ex_cons (ex_brk h)
end
end
end Mine
end
section
open PySem PySem.W PyProof.Rows PySem.Calls
set_option autoImplicit false
set_option linter.unusedVariables false
namespace Mine
open Builtin.Str

/-- where a pattern stands, from the left, none over another -/
def occS (p : List Nat) : Nat → List Nat → Nat → List Nat
  | _, [], _ => []
  | 0, c :: r, i => if (c :: r).take p.length = p then i :: occS p (p.length - 1) r (i + 1) else occS p 0 r (i + 1)
  | k + 1, _ :: r, i => occS p k r (i + 1)

def replS (p z : List Nat) : Nat → List Nat → List Nat
  | _, [] => []
  | 0, c :: r => if (c :: r).take p.length = p then z ++ replS p z (p.length - 1) r else c :: replS p z 0 r
  | k + 1, _ :: r => replS p z k r

theorem occ_fold (l p : List Nat) (hp : p ≠ []) : ∀ (r : List Nat) (i free : Nat) (acc : Array Nat), l.drop i = r → i + r.length = l.length → acc.size ≤ i →
    (forIn (List.range' i (r.length + 1)) (acc, free) (StrLaws.occBody (mk l) (mk p) (mk l).length ((mk l).length + 1))).run.fst.toList = acc.toList ++ occS p (free - i) r i := by
  intro r
  induction r with
  | nil =>
    intro i free acc hd hl hs
    have hpl : 0 < p.length := List.length_pos_iff.mpr hp
    simp only [List.length_nil, Nat.zero_add]
    rw [List.range'_succ, List.forIn_cons]
    unfold StrLaws.occBody
    have h2 : ¬ (((acc, free).fst.size < (mk l).length + 1 ∧ (acc, free).snd ≤ i) ∧ i + (mk p).length ≤ (mk l).length ∧ True) := by
      rw [mk_length, mk_length]; simp at hl; omega
    rw [if_neg (fun q => h2 ⟨q.1.1, q.1.2, trivial⟩)]
    simp [occS]
  | cons c r ih =>
    intro i free acc hd hl hs
    have hpl : 0 < p.length := List.length_pos_iff.mpr hp
    have hd' : l.drop (i + 1) = r := by rw [← List.drop_drop, hd]; rfl
    have hlen : i + (r.length + 1) = l.length := by simpa using hl
    rw [show (c :: r).length + 1 = (r.length + 1) + 1 by simp, List.range'_succ, List.forIn_cons]
    unfold StrLaws.occBody
    have hsub : subAt (mk l) (mk p) i = decide ((c :: r).take p.length = p) := by
      rw [StrLaws.subAt_eq, mk_cps, mk_cps, mk_length, hd]
      by_cases e : (c :: r).take p.length = p <;> simp [e]
    have tl : ∀ (acc2 : Array Nat) (free2 : Nat), acc2.size ≤ i + 1 → (forIn (List.range' (i + 1) (r.length + 1)) (acc2, free2) (StrLaws.occBody (mk l) (mk p) (mk l).length ((mk l).length + 1))).run.fst.toList = acc2.toList ++ occS p (free2 - (i + 1)) r (i + 1) :=
      fun acc2 free2 h1 => ih (i + 1) free2 acc2 hd' (by omega) h1
    by_cases hfree : free ≤ i
    · rw [show free - i = 0 by omega]
      by_cases hm : (c :: r).take p.length = p
      · have hw : p.length ≤ r.length + 1 := by have := congrArg List.length hm; simp at this; omega
        have hcond : (((acc, free).fst.size < (mk l).length + 1 ∧ (acc, free).snd ≤ i) ∧ i + (mk p).length ≤ (mk l).length) ∧ subAt (mk l) (mk p) i = true := by
          rw [mk_length, mk_length, hsub]; simp [hm]; omega
        rw [if_pos hcond]
        have := tl (acc.push i) (i + p.length) (by simp; omega)
        rw [mk_length p]
        show (forIn (List.range' (i + 1) (r.length + 1)) (acc.push i, i + p.length) (StrLaws.occBody (mk l) (mk p) (mk l).length ((mk l).length + 1))).run.fst.toList = _
        rw [this]
        have e2 : occS p 0 (c :: r) i = i :: occS p (p.length - 1) r (i + 1) := by rw [occS, if_pos hm]
        rw [e2, show i + p.length - (i + 1) = p.length - 1 by omega]
        simp
      · have hcond : ¬ ((((acc, free).fst.size < (mk l).length + 1 ∧ (acc, free).snd ≤ i) ∧ i + (mk p).length ≤ (mk l).length) ∧ subAt (mk l) (mk p) i = true) := by
          rw [hsub]; simp [hm]
        rw [if_neg hcond]
        have e2 : occS p 0 (c :: r) i = occS p 0 r (i + 1) := by rw [occS, if_neg hm]
        rw [e2]
        have := tl acc free (by omega)
        rw [show free - (i + 1) = 0 by omega] at this
        exact this
    · obtain ⟨k, hk⟩ : ∃ k, free = i + (k + 1) := ⟨free - i - 1, by omega⟩
      subst hk
      have hcond : ¬ ((((acc, i + (k + 1)).fst.size < (mk l).length + 1 ∧ (acc, i + (k + 1)).snd ≤ i) ∧ i + (mk p).length ≤ (mk l).length) ∧ subAt (mk l) (mk p) i = true) := by
        intro q; have := q.1.1.2; simp at this; omega
      rw [if_neg hcond]
      have := tl acc (i + (k + 1)) (by omega)
      show (forIn (List.range' (i + 1) (r.length + 1)) (acc, i + (k + 1)) (StrLaws.occBody (mk l) (mk p) (mk l).length ((mk l).length + 1))).run.fst.toList = _
      rw [this, show i + (k + 1) - i = k + 1 by omega, show i + (k + 1) - (i + 1) = k by omega]
      rfl

theorem occ_is (l p : List Nat) (hp : p ≠ []) : occurrences (mk l) (mk p) 0 (mk l).length ((mk l).length + 1) = occS p 0 l 0 := by
  rw [StrLaws.occ_eq]
  have h := occ_fold l p hp l 0 0 #[] rfl (by simp) (by simp)
  rw [show (mk l).length + 1 - 0 = l.length + 1 by rw [mk_length]; rfl]
  simpa using h

def partsR (l : List Nat) (w : Nat) : Nat → List Nat → List (List Nat)
  | a, [] => [(l.drop a).take (l.length - a)]
  | a, c :: cs => (l.drop a).take (c - a) :: partsR l w (c + w) cs

theorem strSub_mk (l : List Nat) (i j : Nat) : strSub (mk l) i j = mk ((l.drop i).take (j - i)) := by
  have := StrLaws.strSub_toList (mk l) i j
  rw [mk_cps] at this
  rw [← mk_toList (strSub (mk l) i j), this]

theorem parts_is (l : List Nat) (w : Nat) (cuts : List Nat) : partsBetween (mk l) cuts w = (partsR l w 0 cuts).map mk := by
  have : ∀ (cuts : List Nat) (a : Nat), ((a :: cuts.map (· + w)).zip (cuts ++ [(mk l).length])).map (fun x => strSub (mk l) x.1 x.2) = (partsR l w a cuts).map mk := by
    intro cuts
    induction cuts with
    | nil => intro a; simp [partsR, strSub_mk, mk_length]
    | cons c cs ih =>
      intro a
      have := ih (c + w)
      simp only [List.map_cons, List.cons_append, List.zip_cons_cons, partsR] at this ⊢
      rw [strSub_mk, this]
  unfold partsBetween
  exact this cuts 0

theorem parts_ne (l : List Nat) (w a : Nat) (cuts : List Nat) : partsR l w a cuts ≠ [] := by cases cuts <;> simp [partsR]

def joinL (z : List Nat) : List (List Nat) → List Nat
  | [] => []
  | [x] => x
  | x :: r => x ++ z ++ joinL z r
theorem join_mk (z : List Nat) : ∀ ps : List (List Nat), Str.join (mk z) (ps.map mk) = mk (joinL z ps)
  | [] => rfl
  | [x] => rfl
  | x :: y :: r => by
    have ih := join_mk z (y :: r)
    show mk x ++ mk z ++ Str.join (mk z) ((y :: r).map mk) = _
    rw [ih, mk_append, mk_append]; rfl
theorem joinL_cons (z x : List Nat) {r : List (List Nat)} (h : r ≠ []) : joinL z (x :: r) = x ++ z ++ joinL z r := by
  cases r with
  | nil => exact absurd rfl h
  | cons y r => rfl

theorem join_parts (l p z : List Nat) (hp : p ≠ []) : ∀ (r : List Nat) (b k a : Nat), l.drop b = r → b + r.length = l.length → k ≤ r.length → ((k = 0 ∧ a ≤ b) ∨ a = b + k) →
    joinL z (partsR l p.length a (occS p k r b)) = (l.drop a).take (b - a) ++ replS p z k r := by
  have hpl : 0 < p.length := List.length_pos_iff.mpr hp
  intro r
  induction r with
  | nil =>
    intro b k a hd hl hk ha
    simp only [List.length_nil, Nat.le_zero_eq] at hk
    subst hk
    have : b = l.length := by simpa using hl
    simp [occS, partsR, joinL, replS, this]
  | cons c r ih =>
    intro b k a hd hl hk ha
    have hd' : l.drop (b + 1) = r := by rw [← List.drop_drop, hd]; rfl
    have hlen : b + (r.length + 1) = l.length := by simpa using hl
    cases k with
    | zero =>
      have hab : a ≤ b := by omega
      by_cases hm : (c :: r).take p.length = p
      · have hw : p.length ≤ r.length + 1 := by have := congrArg List.length hm; simp at this; omega
        rw [occS, if_pos hm, replS, if_pos hm, partsR, joinL_cons z _ (parts_ne _ _ _ _)]
        rw [ih (b + 1) (p.length - 1) (b + p.length) hd' (by omega) (by omega) (.inr (by omega))]
        rw [show b + 1 - (b + p.length) = 0 by omega]
        simp
      · rw [occS, if_neg hm, replS, if_neg hm, ih (b + 1) 0 a hd' (by omega) (Nat.zero_le _) (.inl ⟨rfl, by omega⟩)]
        have e : (l.drop a).take (b + 1 - a) = (l.drop a).take (b - a) ++ [c] := by
          have hb : (l.drop a)[b - a]? = some c := by
            rw [List.getElem?_drop, show a + (b - a) = b by omega]
            have := congrArg (fun q => q[0]?) hd
            simpa using this
          rw [show b + 1 - a = (b - a) + 1 by omega, List.take_add_one, hb]; rfl
        rw [e]; simp
    | succ k =>
      have hab : a = b + (k + 1) := by omega
      rw [occS, replS, ih (b + 1) k a hd' (by omega) (by simp at hk; omega) (.inr (by omega))]
      subst hab
      rw [show b + 1 - (b + (k + 1)) = 0 by omega, show b - (b + (k + 1)) = 0 by omega]

theorem repl_none (p z : List Nat) : ∀ (r : List Nat) (b : Nat), occS p 0 r b = [] → replS p z 0 r = r := by
  intro r
  induction r with
  | nil => intro b _; rfl
  | cons c r ih =>
    intro b h
    by_cases hm : (c :: r).take p.length = p
    · rw [occS, if_pos hm] at h; cases h
    · rw [occS, if_neg hm] at h
      rw [replS, if_neg hm, ih _ h]

theorem replace_is (l p z : List Nat) (hp : p ≠ []) : Txt.replace (mk l) (mk p) (mk z) = mk (replS p z 0 l) := by
  have hpl : 0 < p.length := List.length_pos_iff.mpr hp
  unfold Txt.replace
  rw [occ_is l p hp]
  by_cases he : occS p 0 l 0 = []
  · rw [he]
    simp only [List.isEmpty_nil, Bool.true_or, if_true]
    rw [repl_none p z l 0 he]
  · have : ((occS p 0 l 0).isEmpty || (mk p).length == 0 && (mk z).length == 0) = false := by
      rw [mk_length]
      cases h : occS p 0 l 0 with
      | nil => exact absurd h he
      | cons c cs =>
        have : (p.length == 0) = false := by simp; exact hp
        simp [this]
    rw [this]
    simp only [Bool.false_eq_true, if_false]
    rw [StrLaws.glued_eq_join, parts_is, mk_length, join_mk, join_parts l p z hp l 0 0 0 rfl (by simp) (Nat.zero_le _) (.inl ⟨rfl, Nat.le_refl _⟩)]
    simp

theorem split_first (d : Nat) : ∀ (r : List Nat) (b : Nat), (match occS [d] 0 r b with | [] => r | c :: _ => r.take (c - b)) = r.takeWhile (· ≠ d) ∧ ∀ c ∈ occS [d] 0 r b, b ≤ c := by
  intro r
  induction r with
  | nil => intro b; simp [occS]
  | cons x r ih =>
    intro b
    by_cases hx : x = d
    · subst hx
      have hm : (x :: r).take [x].length = [x] := by simp
      rw [occS, if_pos hm]
      refine ⟨by simp, ?_⟩
      intro c hc
      rcases List.mem_cons.mp hc with rfl | hc
      · exact Nat.le_refl _
      · have := (ih (b + 1)).2 c (by simpa using hc); omega
    · have hm : ¬ (x :: r).take [d].length = [d] := by simp [hx]
      rw [occS, if_neg hm]
      obtain ⟨h1, h2⟩ := ih (b + 1)
      refine ⟨?_, fun c hc => by have := h2 c hc; omega⟩
      have ex : (x :: r).takeWhile (· ≠ d) = x :: r.takeWhile (· ≠ d) := by simp [hx]
      rw [ex, ← h1]
      cases h : occS [d] 0 r (b + 1) with
      | nil => rfl
      | cons c cs =>
        have := h2 c (by rw [h]; exact .head _)
        show (x :: r).take (c - b) = x :: r.take (c - (b + 1))
        rw [show c - b = (c - (b + 1)) + 1 by omega]; rfl

/-- the first piece of a text split at one sign below 256 -/
theorem split_is (l : List Nat) (d : Nat) (hd : d < 256) : (Txt.split (mk l) (mk [d]))[0]? = some (mk (l.takeWhile (· ≠ d))) := by
  have hk : Builtin.Str.strKind (mk [d]) = 1 := by simp [Builtin.Str.strKind, mk, hd]
  have hk2 : ¬ Builtin.Str.strKind (mk l) < Builtin.Str.strKind (mk [d]) := by
    rw [hk]; unfold Builtin.Str.strKind; split <;> (try split) <;> decide
  have h1 := (split_first d l 0).1
  unfold Txt.split
  rw [occ_is l [d] (by simp), mk_length, mk_length]
  by_cases hl : l.length < 1
  · have : l = [] := List.length_eq_zero_iff.mp (by omega)
    subst this
    simp
  · have e0 : (decide (l.length < [d].length) || decide (strKind (mk l) < Builtin.Str.strKind (mk [d]))) = false := by simp only [hk2, decide_false, Bool.or_false, decide_eq_false_iff_not, List.length_cons, List.length_nil]; omega
    rw [e0]
    simp only [Bool.false_eq_true, if_false]
    cases h : occS [d] 0 l 0 with
    | nil => rw [h] at h1; simp at h1 ⊢; rw [← h1]
    | cons c cs =>
      rw [h] at h1
      simp only [List.isEmpty_cons, Bool.false_eq_true, if_false]
      rw [parts_is, partsR]
      simp at h1 ⊢
      rw [h1]
end Mine
end
section
open PySem PySem.W PyProof.Rows PySem.Calls
set_option autoImplicit false
set_option linter.unusedVariables false
namespace Mine
section
variable {G : GC} {c : Act G} {σ : Sto} {O F : Led} {s : Shared}

/-- a text made anew: its token is not older than the state -/
def EvFresh (c : Act G) (σ : Sto) (O F : Led) (e : Expr) (y : Str) : Prop :=
  ∀ (s : Shared) (Q : Value → Shared → Prop), St c σ O F s → (∀ t h tk, s.toks ≤ t → t < tk → (∀ b o, s.heap.get? b = some o → h.get? b = some o) → Q (.str y t) (upd s h tk)) → wpAny G.M c.A (eval e c.env) Q NoE s

theorem fresh_const {x : Str} {k : Nat} {pos : Pos} : EvFresh c σ O F (.Constant (.str x) k pos) x :=
  fun s Q S h => fun Γ p hΓ => h s.toks s.heap (s.toks + 1) (Nat.le_refl _) (Nat.lt_succ_self _) fun _ _ e => e

theorem wp_bname {x : Str} {pos : Pos} {v : Value} (e : nsIn G.K mainGlobals x = some none) (hv : bootBuiltins x = some v) (hx : c.env.kindOf x = some .globalImplicit) (hn : x ≠ Str.ofString "__name__")
    (S : St c σ O F s) {Q : Value → Shared → Prop} (h : Q v s) (hd : (x == Str.ofString "__debug__") = false := by decide) : wpAny G.M c.A (eval (.Name x pos) c.env) Q NoE s := by
  obtain ⟨⟨mf, C, h1, h2, h3, h4⟩, h5, h6, h7⟩ := S
  have T := topRead_of c.T
  exact Name_function_global c.hek hx (loadGlobal_builtin (by rw [c.hglob]; exact T.g.keeps h1.keep) (mg_none_of c.X T.g e) (by rw [c.hbi]; exact T.b.keeps h1.keep) ((T.builtins x hn).trans hv) h) hd

theorem fresh_chr {p pos : Pos} {e : Expr} {n : Nat} (ns : nsIn G.K mainGlobals (Str.ofString "chr") = some none) (hx : c.env.kindOf (Str.ofString "chr") = some .globalImplicit)
    (he : ∀ (s : Shared) (Q : Value → Shared → Prop), St c σ O F s → (∀ t h tk, s.toks ≤ tk → (∀ b o, s.heap.get? b = some o → h.get? b = some o) → Q (.int (n : Int) t) (upd s h tk)) → wpAny G.M c.A (eval e c.env) Q NoE s) (hn : n ≤ 1114111)
    (hst : ∀ env, starEach [e] env = [(false, eval e env)] := by intro _; rfl) : EvFresh c σ O F (.Call (.Name (Str.ofString "chr") p) [e] [] pos) (mk [n]) := by
  intro s Q S k
  refine Call_Name1 (wp_bname ns (by boot_fast) hx (by decide) S ?_) (hst _)
  refine PySem.callWith_builtin1 (he s _ S fun t h tk ht hk => ?_)
  refine chr_of_range (by omega) (by omega) ?_
  have := k tk h (tk + 1) ht (Nat.lt_succ_self _) hk
  simpa [mk] using this
theorem int_fresh {i : Int} {k : Nat} {pos : Pos} : ∀ (s : Shared) (Q : Value → Shared → Prop), St c σ O F s → (∀ t h tk, s.toks ≤ tk → (∀ b o, s.heap.get? b = some o → h.get? b = some o) → Q (.int i t) (upd s h tk)) → wpAny G.M c.A (eval (.Constant (.int i) k pos) c.env) Q NoE s :=
  fun s Q S h => fun Γ p hΓ => h s.toks s.heap (s.toks + 1) (Nat.le_succ _) fun _ _ e => e

theorem ev_replace {o e1 e2 : Expr} {apos pos : Pos} {x y z : List Nat} (ho : Evp c σ O F o (.s x)) (h1 : EvFresh c σ O F e1 (mk y)) (h2 : EvFresh c σ O F e2 (mk z)) (hy : y ≠ []) (hyz : y ≠ z) (hsz : x.length + (x.length + 1) * z.length ≤ 16777216)
    (hbase : attributeBase o (Str.ofString "replace") c.env (eval o c.env) = eval o c.env := by rfl) (hline : (apos.endLine == pos.line) = true := by rfl)
    (hst : ∀ env, starEach [e1, e2] env = (false, eval e1 env) :: starEach [e2] env := by intro _; rfl) (hst2 : ∀ env, starEach [e2] env = [(false, eval e2 env)] := by intro _; rfl) :
    Evp c σ O F (.Call (.Attribute o (Str.ofString "replace") apos) [e1, e2] [] pos) (.s (replS y z 0 x)) := by
  refine meth_str ho PySem.F.slot_str_replace PySem.F.type_str_replace hbase (by rw [hst, hst2]; rfl) hline fun t => ?_
  refine TG.pure (P := (PV.s (replS y z 0 x)).Is) (fun Q Q' hq s h => wpAny_mono h (fun b s' e => hq b s' e) fun _ _ e => e) (fun Q s h => wp_toks1 Q s h) ?_ fun v i => ⟨rfl, _, ⟨rfl, rfl, rfl⟩, i⟩
  intro s Q S k
  refine callWith_method1 (wpAny_items_cons (h1 s _ S fun t1 hp1 tk1 a1 b1 k1 => ?_) (hst _)) (hst _) (by rw [hst2]; rfl)
  have S1 : St c σ O F (upd s hp1 tk1) := S.keeps k1 (by omega)
  refine wpAny_items_cons (h2 (upd s hp1 tk1) _ S1 fun t2 hp2 tk2 a2 b2 k2 => ?_) (hst2 _)
  refine wpAny_items_nil ?_
  have hpos : 0 < s.toks := S.tk
  have a2' : tk1 ≤ t2 := a2
  have n1 : (t1 : Nat) ≠ 0 := Nat.ne_of_gt (Nat.lt_of_lt_of_le hpos a1)
  have n2 : (t2 : Nat) ≠ 0 := Nat.ne_of_gt (Nat.lt_of_lt_of_le (Nat.lt_of_le_of_lt (Nat.zero_le _) b1) a2')
  have n3 : (t1 : Nat) ≠ t2 := Nat.ne_of_lt (Nat.lt_of_lt_of_le b1 a2')
  refine SC.replace (x := mk x) (y := mk y) (z := mk z) (u := t1) (v := t2) n1 n2 n3 (by rw [mk_eq]; simp [hyz]) (by rw [mk_length, mk_length]; exact hsz) fun t' tk => ?_
  rw [replace_is x y z hy]
  exact k _ hp2 tk ⟨t', rfl⟩ fun b ob e => k2 b ob (k1 b ob e)

/-- o.split(sep)[0] for one sign below 256 -/
theorem ev_split0 {o e : Expr} {apos cpos pos p0 : Pos} {k0 : Nat} {x : List Nat} {d : Nat} (ho : Evp c σ O F o (.s x)) (he : Evp c σ O F e (.s [d])) (hd : d < 256) (hx : x.length ≤ 1048576)
    (hbase : attributeBase o (Str.ofString "split") c.env (eval o c.env) = eval o c.env := by rfl) (hline : (apos.endLine == cpos.line) = true := by rfl)
    (hst : ∀ env, starEach [e] env = [(false, eval e env)] := by intro _; rfl) :
    Evp c σ O F (.Subscript (.Call (.Attribute o (Str.ofString "split") apos) [e] [] cpos) (.Constant (.int 0) k0 p0) pos) (.s (x.takeWhile (· ≠ d))) := by
  have hpart : ∀ l : List Nat, (Builtin.Str.partsBetween (mk l) (Builtin.Str.occurrences (mk l) (mk [d]) 0 (mk l).length ((mk l).length + 1)) (mk [d]).length).length ≤ l.length + 2 := by
    intro l
    have h1 := StrLaws.occ_length_le (mk l) (mk [d]) 0 (mk l).length ((mk l).length + 1)
    rw [mk_length] at h1
    unfold Builtin.Str.partsBetween
    simp only [List.length_map, List.length_zip, List.length_cons, List.length_append, List.length_nil, mk_length] at h1 ⊢
    omega
  intro s Q S k
  refine Subscript_ (wpAny_Call_method_lateS hbase (by rw [hst]; rfl) hline (ho s _ S ?_))
  rintro v σ' O' N h1 tk1 ⟨rfl, pv, ⟨rfl, rfl, rfl⟩, t, rfl⟩ S1 ht1
  refine ⟨"str", "str.split", PySem.F.plainAttrs_str, PySem.F.slot_str_split, PySem.F.type_str_split, typeIs_str _ _ _, (fun _ e => nomatch e), ?_⟩
  refine callWith_method1 (wpAny_items_cons (he (upd s h1 tk1) _ S1 ?_) (hst _)) (hst _)
  rintro v2 σ2 O2 N2 h2 tk2 ⟨e2, pv2, ⟨rfl, rfl, rfl⟩, t2, rfl⟩ S2 ht2
  subst e2
  refine wpAny_items_nil ?_
  refine wpAny_with_toks (Nat.le_refl _) (SCH.split1 (x := mk x) (y := mk [d]) (P := fun h => ∀ b o, h2.get? b = some o → h.get? b = some o) (fun h ob hp b o e => Heap.get?_push_of_some _ (hp b o e)) (fun _ _ e => e) (by rw [mk_length]; rfl) (fun D l h3 tk3 hl hk hL => ?_) (by rw [mk_length, sizeLine_eq]; omega) (by have := hpart x; rw [sizeLine_eq]; omega))
  intro ht3
  have S3 : St c σ2 O2 F (upd s h3 tk3) := St.keeps (s := upd s h2 tk2) (by simpa using S2) hk ht3
  refine wpAny_Constant_int ?_
  have h0 : (strValues l)[0]? = some (.str (mk (x.takeWhile (· ≠ d))) ((l[0]?.map (·.2)).getD 0)) := by
    have := split_is x d hd
    rw [← hl, List.getElem?_map] at this
    unfold strValues
    rw [List.getElem?_map]
    cases h : l[0]? with
    | none => rw [h] at this; cases this
    | some q => rw [h] at this; simp at this; simp [this]
  refine tail_any hL.typeIs slot_list_getitem.lookup (wpAny_getItem_list hL (by decide) (by decide) (x := .str (mk (x.takeWhile (· ≠ d))) ((l[0]?.map (·.2)).getD 0)) (by simpa using h0) ?_) rfl
  have ht : s.toks ≤ tk3 + 1 := by
    have a1 : tk1 ≤ tk2 := ht2
    have a2 : tk2 ≤ tk3 := ht3
    omega
  exact k _ σ2 O2 [] h3 (tk3 + 1) ⟨rfl, _, ⟨rfl, rfl, rfl⟩, _, rfl⟩ (St.toks (s := upd s h3 tk3) S3 (Nat.le_succ _)) ht
end
end Mine
end
section
open PySem PySem.W PyProof.Rows PySem.Calls
set_option autoImplicit false
set_option linter.unusedVariables false
namespace Mine

theorem PV.Is.uniq {p q : PV} {v : Value} (hp : p.Is v) (hq : q.Is v) : p = q := by
  cases p <;> cases q <;> simp only [PV.Is] at hp hq
  all_goals (try (obtain ⟨t, rfl⟩ := hp))
  all_goals (try subst hp)
  all_goals (try (obtain ⟨u, hu⟩ := hq))
  all_goals (first | rfl | (cases hu; rfl) | (cases hq; rfl) | cases hu | cases hq)

/-! ### the names of a comprehension -/
theorem lookup_relabel_glob {env : Env} : ∀ {names : List (Str × NameKind)} {x : Str}, names.lookup x = some .globalImplicit →
    (names.map fun (n, k) => if (k == NameKind.free && env.scope.kind == .function && env.kindOf n == some .cell) then (n, NameKind.cell) else (n, k)).lookup x = some .globalImplicit
  | [], _, h => by simp at h
  | (n, k) :: r, x, h => by
    have ih := @lookup_relabel_glob env r x
    show List.lookup x ((if (k == NameKind.free && env.scope.kind == .function && env.kindOf n == some .cell) = true then (n, NameKind.cell) else (n, k)) :: _) = _
    cases hx : x == n with
    | true =>
      simp only [List.lookup_cons, hx] at h
      cases h
      simp [List.lookup_cons, hx]
    | false =>
      simp only [List.lookup_cons, hx] at h
      by_cases hc : (k == NameKind.free && env.scope.kind == .function && env.kindOf n == some .cell) = true
      · rw [if_pos hc]; simp only [List.lookup_cons, hx]; exact ih h
      · rw [if_neg hc]; simp only [List.lookup_cons, hx]; exact ih h
theorem lookup_relabel_cell {env : Env} (hk : env.scope.kind = .function) : ∀ {names : List (Str × NameKind)} {x : Str}, names.lookup x = some .free → env.kindOf x = some .cell →
    (names.map fun (n, k) => if (k == NameKind.free && env.scope.kind == .function && env.kindOf n == some .cell) then (n, NameKind.cell) else (n, k)).lookup x = some .cell
  | [], _, h, _ => by simp at h
  | (n, k) :: r, x, h, hc => by
    have ih := @lookup_relabel_cell env hk r x
    show List.lookup x ((if (k == NameKind.free && env.scope.kind == .function && env.kindOf n == some .cell) = true then (n, NameKind.cell) else (n, k)) :: _) = _
    cases hx : x == n with
    | true =>
      simp only [List.lookup_cons, hx] at h
      cases h
      have : x = n := eq_of_beq hx
      subst this
      simp [List.lookup_cons, hk, hc]
    | false =>
      simp only [List.lookup_cons, hx] at h
      by_cases hcc : (k == NameKind.free && env.scope.kind == .function && env.kindOf n == some .cell) = true
      · rw [if_pos hcc]; simp only [List.lookup_cons, hx]; exact ih h hc
      · rw [if_neg hcc]; simp only [List.lookup_cons, hx]; exact ih h hc

def freesOf (names : List (Str × NameKind)) : List Str := (names.filter fun p => p.2 == .free).map (·.1)

theorem lookup_const {a : Str → Addr} : ∀ (l : List Str) (x : Str), x ∈ l → (l.map fun n => (n, a n)).lookup x = some (a x)
  | [], _, h => by cases h
  | n :: r, x, h => by
    cases hx : x == n with
    | true => have : x = n := eq_of_beq hx; subst this; simp [List.lookup_cons]
    | false =>
      simp only [List.map_cons, List.lookup_cons, hx]
      refine lookup_const r x ?_
      rcases List.mem_cons.mp h with rfl | h
      · simp at hx
      · exact h

theorem closureFor_some {scope : Scope} {env : Env} (a : Str → Addr) (h : ∀ n ∈ freesOf scope.names, env.cells.lookup n = some (a n)) :
    closureFor scope env = pure ((freesOf scope.names).reverse.map fun n => (n, a n)) := by
  unfold closureFor freesOf at *
  suffices H : ∀ (names : List (Str × NameKind)) (acc : List (Str × Addr)), (∀ n ∈ (names.filter fun p => p.2 == .free).map (·.1), env.cells.lookup n = some (a n)) →
      (forIn names acc fun x r => match x with
        | (name, kind) => if (kind == .free) = true then do let y ← cellOf env name; pure (ForInStep.yield ((name, y) :: r)) else pure (ForInStep.yield r) : Sem (List (Str × Addr)))
        = pure (((names.filter fun p => p.2 == .free).map (·.1)).reverse.map (fun n => (n, a n)) ++ acc) by
    have := H scope.names [] h
    simp only [List.append_nil] at this
    first
      | exact this
      | (simp only [bind_pure_comp] at this ⊢; exact this)
      | (refine Eq.trans ?_ (congrArg (· >>= pure) this); rfl)
  intro names
  induction names with
  | nil => intro acc _; rfl
  | cons p r ih =>
    intro acc hn
    obtain ⟨n, k⟩ := p
    rw [List.forIn_cons]
    by_cases hk : (k == NameKind.free) = true
    · have hl : env.cells.lookup n = some (a n) := hn n (by simp [List.filter_cons, hk])
      have hc : cellOf env n = pure (a n) := by unfold cellOf; rw [hl]
      simp only [hk, if_true, hc, pure_bind]
      rw [ih _ (fun m hm => hn m (by simp only [List.filter_cons, hk, if_true, List.map_cons]; exact .tail _ hm))]
      simp [List.filter_cons, hk]
    · have hk' : (k == NameKind.free) = false := by simpa using hk
      have hfl : ((n, k) :: r).filter (fun p => p.2 == NameKind.free) = r.filter (fun p => p.2 == NameKind.free) := by simp [hk']
      simp only [hk', Bool.false_eq_true, if_false, pure_bind]
      rw [hfl] at hn ⊢
      exact ih acc hn

section
variable {G : GC} {c : Act G} {σ : Sto} {O F : Led} {s : Shared}

/-- the activation of a comprehension's element -/
structure CompAct {G : GC} (c c' : Act G) (names' : List Str) (scope : Scope) : Prop where
  nm : c'.names = names'
  A : c'.A = c.A
  glob : ∀ x, scope.names.lookup x = some .globalImplicit → c'.env.kindOf x = some .globalImplicit
theorem CompAct.room {c' : Act G} {names' : List Str} {scope : Scope} (H : CompAct c c' names' scope) {d u : Nat} (h : Room c d u) : Room c' d u := by
  unfold Room; rw [H.A]; exact h

theorem St.add (S : St c σ O F s) {D : Addr} {o : Obj} (hg : s.heap.get? D = some o) (hn : D ∉ c.cells ++ (O ++ F).map (·.1)) (hL : D ≠ c.L) (h0 : c.h0.get? D = none) : St c σ ((D, o) :: O) F s := by
  obtain ⟨⟨mf, C, h1, h2, h3, h4⟩, h5, h6, h7⟩ := S
  refine ⟨⟨mf, C, h1, fun p hp => ?_, h3, h4⟩, ?_, h6, h7⟩
  · simp only [List.mem_append, List.mem_cons, List.cons_append] at hp
    rcases hp with z | z | z | z
    · exact h2 p (List.mem_append_left _ z)
    · subst z; exact ⟨hg, hL, h0⟩
    · exact h2 p (List.mem_append_right _ (List.mem_append_left _ z))
    · exact h2 p (List.mem_append_right _ (List.mem_append_right _ z))
  · show (c.cells ++ (D :: (O ++ F).map (·.1))).Nodup
    exact (List.Perm.nodup_iff List.perm_middle).mpr (List.nodup_cons.mpr ⟨hn, h5⟩)

/-- everything of the heap that the frame does not keep by itself -/
def restOf (h0 : Heap) (L : Addr) (h : Heap) : Led := wrLed h ((List.range h.objs.size).filter fun b => b != L && (h0.get? b).isNone)
theorem restOf_mem {h0 h : Heap} {L b : Addr} {o : Obj} (hb : h.get? b = some o) (hL : b ≠ L) (h0b : h0.get? b = none) : (b, o) ∈ restOf h0 L h :=
  wrLed_mem.mpr ⟨List.mem_filter.mpr ⟨List.mem_range.mpr (Heap.lt_size hb), by simp [hL, h0b]⟩, hb⟩
theorem restOf_news {h0 h : Heap} {L : Addr} : News h0 L h (restOf h0 L h) := fun p hp => by
  obtain ⟨h1, h2⟩ := wrLed_mem.mp hp
  have := (List.mem_filter.mp h1).2
  simp only [Bool.and_eq_true, bne_iff_ne, ne_eq, Option.isNone_iff_eq_none] at this
  exact ⟨h2, this.1, this.2⟩
theorem restOf_nodup {h0 h : Heap} {L : Addr} : ((restOf h0 L h).map (·.1)).Nodup := (List.nodup_range.sublist List.filter_sublist).sublist wrLed_sub

theorem St.heapOnly (S : St c σ O F s) {s' : Shared} (hh : s'.heap = s.heap) (ht : 0 < s'.toks) : St c σ O F s' := by
  obtain ⟨⟨mf, C, h1, h2, h3, h4⟩, h5, h6, h7⟩ := S
  exact ⟨⟨mf, C, hh ▸ h1, hh ▸ h2, h3, h4⟩, h5, ht, hh ▸ h7⟩

/-- a free name of a comprehension -/
structure FreeAt {G : GC} (c : Act G) (σ : Sto) (scope : Scope) (x : Str) (pv : PV) : Prop where
  cell : c.env.kindOf x = some .cell
  free : scope.names.lookup x = some .free
  at' : ∃ i : Nat, c.names[i]? = some x ∧ σ[i]? = some (some pv)
  mem : x ∈ freesOf scope.names

/-- the element of a comprehension in the world of its own activation -/
theorem comp_elt {elt : Expr} {x : Str} {scope : Scope} {frs : List (Str × PV)} {a : Str → Addr} {s₂ s₃ : Shared} {C : Addr} {m₃ : Str → Option Value} {v : Value} {pv r : PV} {wr : List Addr}
    (S₂ : St c σ O F s₂) (hw : ∀ b ∈ wr, b ∉ c.cells ++ (O ++ F).map (·.1) ∧ b ≠ c.L ∧ c.h0.get? b = none)
    (hcl : ∀ n ∈ freesOf scope.names, c.env.cells.lookup n = some (a n)) (hkind : scope.kind = .function) (hx : scope.names.lookup x = some .local)
    (hfr : ∀ p ∈ frs, FreeAt c σ scope p.1 p.2) (hnd : (x :: frs.map (·.1)).Nodup)
    (helt : ∀ (c' : Act G) (F' : Led), CompAct c c' (x :: frs.map (·.1)) scope → (∀ p ∈ O ++ F, p ∈ F') → Evp c' (some pv :: frs.map fun p => some p.2) [] F' elt r)
    (hC : s₂.heap.objs.size ≤ C) (hn : s₃.heap.Ns C m₃) (hm : m₃ x = some v) (iv : pv.Is v) (hk : ∀ b o, b ∉ wr → s₂.heap.get? b = some o → s₃.heap.get? b = some o) (ht : s₂.toks ≤ s₃.toks) :
    wpAny G.M c.A (eval elt (compEnvC scope ((freesOf scope.names).reverse.map fun n => (n, a n)) C c.env)) (fun y s₄ => r.Is y ∧ Keeps s₃ s₄) NoE s₃ := by
  have S3 : St c σ O F s₃ := (St.past S₂ hw hk ht).heapOnly rfl (Nat.lt_of_lt_of_le S₂.tk ht)
  obtain ⟨⟨mf, C0, h1, h2, h3, h4⟩, h5, h6, h7⟩ := S3
  obtain ⟨oL, eL⟩ : ∃ o, s₃.heap.get? c.L = some o := by obtain ⟨o, _, _, e, _⟩ := h1.ns; exact ⟨o, e⟩
  have hCL : C ≠ c.L := fun e => by have := S₂.Lh.1; rw [← e] at this; exact Nat.lt_irrefl _ (Nat.lt_of_lt_of_le this hC)
  have hC0 : c.h0.get? C = none := by
    cases q : c.h0.get? C with
    | none => rfl
    | some o' => exact absurd (Nat.lt_of_lt_of_le (S₂.Lh.2 _ _ q) hC) (Nat.lt_irrefl _)
  have hkd : (relabel scope c.env).kind = .function := hkind
  let cl := (freesOf scope.names).reverse.map fun n => (n, a n)
  let c' : Act G := { c with env := compEnvC scope cl C c.env, names := x :: frs.map (·.1), cells := [], hek := hkd, hglob := c.hglob, hbi := c.hbi, hnd := hnd, oL := oL }
  have hCA : CompAct c c' (x :: frs.map (·.1)) scope := ⟨rfl, rfl, fun y hy => lookup_relabel_glob hy⟩
  have S' : St c' (some pv :: frs.map fun p => some p.2) [] (restOf c.h0 c.L s₃.heap) s₃ := by
    refine ⟨⟨mf, [], h1, by simpa using restOf_news, rfl, ?_⟩, (restOf_nodup : ((restOf c.h0 c.L s₃.heap).map (·.1)).Nodup), h6, ⟨fun _ => eL, fun a ha => nomatch ha⟩⟩
    intro i y pw hy hv
    cases i with
    | zero =>
      have e1 : x = y := Option.some.inj hy
      have e2 : pv = pw := Option.some.inj (Option.some.inj hv)
      subst e1 e2
      obtain ⟨oC, es, ep, hg, hr⟩ := hn
      refine ⟨v, iv, .comp (lookup_relabel_local hx) oC m₃ (restOf_mem hg hCL hC0) (fun h e => ⟨oC, es, ep, e, hr⟩) hm⟩
    | succ i =>
      have hy' : (frs.map (·.1))[i]? = some y := hy
      rw [List.getElem?_map] at hy'
      obtain ⟨p, hp, rfl⟩ := Option.map_eq_some_iff.mp hy'
      have hv' : (frs.map fun p => some p.2)[i]? = some (some pw) := hv
      rw [List.getElem?_map, hp] at hv'
      have e2 : p.2 = pw := by simpa using hv'
      subst e2
      obtain ⟨f1, f2, ⟨j, hj1, hj2⟩, f3⟩ := hfr p (List.mem_of_getElem? hp)
      obtain ⟨w, iw, Hw⟩ := h4 j p.1 p.2 hj1 hj2
      refine ⟨w, iw, ?_⟩
      cases Hw with
      | loc a1 a2 a3 => rw [f1] at a1; cases a1
      | comp a1 o m a2 a3 a4 => rw [f1] at a1; cases a1
      | cell a1 ad o a2 a3 a4 =>
        rw [hcl _ f3] at a2
        cases a2
        have hN := h2 (a p.1, o) (by
          rcases List.mem_append.mp a3 with q | q
          · exact List.mem_append_left _ q
          · exact List.mem_append_right _ (List.mem_append_right _ q))
        refine .cell (lookup_relabel_cell c.hek f2 f1) (a p.1) o ?_ (restOf_mem hN.1 hN.2.1 hN.2.2) a4
        exact lookup_const _ _ (List.mem_reverse.mpr f3)
  have hsub : ∀ p ∈ O ++ F, p ∈ restOf c.h0 c.L s₃.heap := fun p hp => by
    have := h2 p (List.mem_append_right _ hp)
    exact restOf_mem this.1 this.2.1 this.2.2
  refine helt c' _ hCA hsub s₃ _ S' ?_
  rintro y σ' O' N h tk ⟨rfl, pw, ⟨rfl, rfl, rfl⟩, iy⟩ S4 ht4
  refine ⟨iy, h, tk, rfl, fun b o e => ?_⟩
  have S4' := S4
  obtain ⟨⟨mf4, C4, k1, k2, k3, k4⟩, k5, k6, k7⟩ := S4
  cases q : c.h0.get? b with
  | some o' =>
    have e1 := h1.keep b o' q
    rw [e1] at e; cases e
    exact k1.keep b _ q
  | none =>
    by_cases hb : b = c.L
    · subst hb
      rw [eL] at e; cases e
      exact k7.1 hCL
    · exact (k2 (b, o) (List.mem_append_right _ (by simpa using restOf_mem e hb q))).1

theorem Keeps.rfl' {s : Shared} : Keeps s s := ⟨s.heap, s.toks, rfl, fun _ _ e => e⟩

abbrev CompF (items : List PV) (f : PV → PV) : Value → Value → Prop := fun v y => ∃ pv ∈ items, pv.Is v ∧ (f pv).Is y

theorem comp_all2 {items : List PV} {f : PV → PV} {P : Nat → Value → Prop} (hval : ∀ k v, P k v → ∃ pv, items[k]? = some pv ∧ pv.Is v) {vs : List Value} {ys : List Value} (hlen : vs.length = items.length)
    (hP : ∀ (j : Nat) v, vs[j]? = some v → P j v) (hF : Paired (CompF items f) (vs.filter fun _ => true) ys) : All2 PV.Is (items.map f) ys := by
  have e : vs.filter (fun _ => true) = vs := List.filter_eq_self.mpr fun _ _ => rfl
  rw [e] at hF
  suffices H : ∀ (vs ys : List Value) (its : List PV), vs.length = its.length → (∀ (j : Nat) v pv, vs[j]? = some v → its[j]? = some pv → pv.Is v) → Paired (CompF items f) vs ys → All2 PV.Is (its.map f) ys by
    refine H vs ys items hlen (fun j v pv hv hp => ?_) hF
    obtain ⟨pv', h1, h2⟩ := hval j v (hP j v hv)
    rw [hp] at h1; cases h1; exact h2
  intro vs ys its hl hv hp
  induction hp generalizing its with
  | nil =>
    have : its = [] := List.length_eq_zero_iff.mp hl.symm
    subst this; exact .nil
  | @cons v y l1 l2 h1 h2 ih =>
    cases its with
    | nil => cases hl
    | cons pv its =>
      obtain ⟨pv', _, i1, i2⟩ := h1
      have := hv 0 v pv rfl rfl
      have := PV.Is.uniq this i1
      subst this
      exact .cons i2 (ih its (by simpa using hl) fun j v pv a b => hv (j + 1) v pv (by simpa using a) (by simpa using b))

theorem WalkAt.quiet {h : Heap} {it : Value} {items : List PV} {I : Addr} {fp wr : List Addr} {Pk : Nat → Value → Prop} {Sw : Nat → Heap → Prop} (W : WalkAt c O F h it items I fp wr Pk Sw) :
    Walks G.prog G.w c.A I fp wr items.length (fun k v => k < items.length ∧ Pk k v) Sw where
  sub := W.W.sub
  frame := W.W.frame
  item := fun i s Q E hi st hQ => W.W.item i s Q E hi st fun v h' tk p => hQ v h' tk ⟨hi, p⟩
  done := W.W.done
  self := W.W.self

theorem comp_quiet {elt : Expr} {x : Str} {scope : Scope} {frs : List (Str × PV)} {a : Str → Addr} {items : List PV} (f : PV → PV) {s₂ : Shared} {it : Value} {I : Addr} {fp wr : List Addr} {Pk : Nat → Value → Prop} {Sw : Nat → Heap → Prop}
    (S₂ : St c σ O F s₂) (W : WalkAt c O F s₂.heap it items I fp wr Pk Sw)
    (hcl : ∀ n ∈ freesOf scope.names, c.env.cells.lookup n = some (a n)) (hkind : scope.kind = .function) (hx : scope.names.lookup x = some .local)
    (hfr : ∀ p ∈ frs, FreeAt c σ scope p.1 p.2) (hnd : (x :: frs.map (·.1)).Nodup)
    (helt : ∀ pv ∈ items, ∀ (c' : Act G) (F' : Led), CompAct c c' (x :: frs.map (·.1)) scope → (∀ p ∈ O ++ F, p ∈ F') → Evp c' (some pv :: frs.map fun p => some p.2) [] F' elt (f pv)) :
    QuietOnC G.prog G.w c.A c.env scope ((freesOf scope.names).reverse.map fun n => (n, a n)) x [] elt wr (fun k v => k < items.length ∧ Pk k v) (fun _ => true) (CompF items f) s₂ where
  tests := fun C i v s₃ m₃ E' _ _ _ _ _ _ => wpAny_pure ⟨rfl, Keeps.rfl'⟩
  elt := fun C i v s₃ m₃ E' hC hP _ hn hm hk ht => by
    obtain ⟨pv, h1, h2⟩ := W.val i v hP.1 hP.2
    have hm' := List.mem_of_getElem? h1
    exact wpAny_mono (comp_elt S₂ W.wnew hcl hkind hx hfr hnd (helt pv hm') hC hn hm h2 hk ht) (fun y s₄ q => ⟨⟨pv, hm', h2, q.1⟩, q.2⟩) fun _ _ e => e.elim

/-- the facts of a comprehension's scope -/
structure CompSc (scope : Scope) (x : Str) : Prop where
  cell : ∀ y ∈ scope.names, y.2 ≠ .cell
  kind : scope.kind = .function
  names : ∀ y ∈ scope.names, y.2 = .local → scope.names.lookup y.1 = some .local
  x : scope.names.lookup x = some .local

theorem wp_withtoks {β : Type} {t : Sem β} {M : Model} {A : Around} {Q : β → Shared → Prop} {s : Shared} (h : wpAny M A t (fun b s' => s.toks ≤ s'.toks → Q b s') NoE s) : wpAny M A t Q NoE s :=
  wpAny_with_toks (Nat.le_refl s.toks) (wpAny_mono h (fun _ _ e => e) fun _ _ e => e.elim)

theorem St.fresh (S : St c σ O F s) {D : Addr} (hD : s.heap.get? D = none) : D ∉ c.cells ++ (O ++ F).map (·.1) ∧ D ≠ c.L ∧ c.h0.get? D = none := by
  obtain ⟨⟨mf, C, h1, h2, h3, h4⟩, h5, h6, h7⟩ := S
  refine ⟨fun q => ?_, fun q => ?_, ?_⟩
  · rw [← h3, ← List.map_append] at q
    obtain ⟨p, hp, e⟩ := List.mem_map.mp q
    have := (h2 p hp).1
    rw [e, hD] at this; cases this
  · obtain ⟨o, _, _, e, _⟩ := h1.ns
    rw [← q, hD] at e; cases e
  · cases q : c.h0.get? D with
    | none => rfl
    | some o => have := h1.keep D o q; rw [hD] at this; cases this

theorem ev_comp {elt iter : Expr} {x : Str} {px : Pos} {scope : Scope} {pos : Pos} {items : List PV} {I0 : Led → Led → Prop} (f : PV → PV) (frs : List (Str × PV)) (hsc : CompSc scope x)
    (hit : Iterates c σ O F iter items I0) (hsz : items.length ≤ 1048576)
    (hcl : ∀ n ∈ freesOf scope.names, ∃ a, c.env.cells.lookup n = some a)
    (hfr : ∀ p ∈ frs, FreeAt c σ scope p.1 p.2) (hnd : (x :: frs.map (·.1)).Nodup)
    (helt : ∀ O1 N1, I0 O1 N1 → ∀ pv ∈ items, ∀ (c' : Act G) (F' : Led), CompAct c c' (x :: frs.map (·.1)) scope → (∀ p ∈ O1 ++ (N1 ++ F), p ∈ F') → Evp c' (some pv :: frs.map fun p => some p.2) [] F' elt (f pv))
    {R : VPost} (hR : ∀ O1 N1 a o, I0 O1 N1 → ListO (items.map f) o → R (.ref a) ((a, o) :: O1) N1)
    (hs : ∀ x, foldedSetIterable iter c.env x = pure x := by intro _; rfl) : Ev c σ O F (.ListComp elt [⟨.Name x px, iter, [], 0⟩] scope pos) R := by
  intro s Q S k
  let af : Str → Addr := fun n => ((c.env.cells.lookup n).getD 0)
  have hcl' : ∀ n ∈ freesOf scope.names, c.env.cells.lookup n = some (af n) := fun n hn => by
    obtain ⟨a, e⟩ := hcl n hn
    show _ = some ((c.env.cells.lookup n).getD 0)
    rw [e]; rfl
  refine wp_withtoks (wpAny_ListComp_free (fun _ => true) (CompF items f) (closureFor_some af hcl') hsc.cell hsc.kind hsc.names hsc.x (hit s _ S ?_) hs)
  intro it O1 N1 h tk I fp wr Pk Sw hI S2 W ht
  refine ⟨I, fp, wr, items.length, _, Sw, W.it, W.quiet, by rw [sizeLine_eq]; omega, W.st, W.lt, comp_quiet f S2 W hcl' hsc.kind hsc.x (fun p hp => ?_) hnd (helt O1 N1 hI), ?_⟩
  · exact hfr p hp
  intro D h' tk' ys vs hD hl hpl hlen hP hF hk
  intro htk
  obtain ⟨n, hpl⟩ := hpl
  have ha := comp_all2 (f := f) (fun k v p => W.val k v p.1 p.2) hlen hP hF
  have S3 : St c σ O1 (N1 ++ F) (upd s h' tk') := (St.past S2 W.wnew hk (Nat.le_refl _)).heapOnly (s' := upd s h' tk') rfl (Nat.lt_of_lt_of_le S.tk htk)
  exact k (.ref D) σ ((D, _) :: O1) N1 h' tk' ⟨rfl, _, hR O1 N1 D _ hI ⟨ys, n, rfl, ha⟩, rfl⟩ (S3.add hpl (S2.fresh hD).1 (S2.fresh hD).2.1 (S2.fresh hD).2.2) htk

theorem asg_comp (i : Nat) {elt iter : Expr} {x y : Str} {px py : Pos} {scope : Scope} {pos spos : Pos} {items : List PV} {I0 : Led → Led → Prop} (f : PV → PV) (frs : List (Str × PV)) (hsc : CompSc scope x)
    (hy : c.names[i]? = some y) (hky : c.env.kindOf y = some .local) (hL : c.env.locals = c.L) (hi : i < σ.length)
    (hit : Iterates c σ O F iter items I0) (hsz : items.length ≤ 1048576)
    (hcl : ∀ n ∈ freesOf scope.names, ∃ a, c.env.cells.lookup n = some a)
    (hfr : ∀ p ∈ frs, FreeAt c σ scope p.1 p.2) (hnd : (x :: frs.map (·.1)).Nodup)
    (helt : ∀ O1 N1, I0 O1 N1 → ∀ pv ∈ items, ∀ (c' : Act G) (F' : Led), CompAct c c' (x :: frs.map (·.1)) scope → (∀ p ∈ O1 ++ (N1 ++ F), p ∈ F') → Evp c' (some pv :: frs.map fun p => some p.2) [] F' elt (f pv))
    {P : FPost} (hR : ∀ O1 N1 a o, I0 O1 N1 → ListO (items.map f) o → P .next (σ.set i (some (.ref a))) ((a, o) :: O1) N1)
    (hsw : swapsWith (.ListComp elt [⟨.Name x px, iter, [], 0⟩] scope pos) (some (.Name y py)) spos.line c.env = pure true)
    (hs : ∀ x, foldedSetIterable iter c.env x = pure x := by intro _; rfl) : Ex1 c σ O F (.Assign [.Name y py] (.ListComp elt [⟨.Name x px, iter, [], 0⟩] scope pos) spos) P := by
  intro s Q S k
  let af : Str → Addr := fun n => ((c.env.cells.lookup n).getD 0)
  have hcl' : ∀ n ∈ freesOf scope.names, c.env.cells.lookup n = some (af n) := fun n hn => by
    obtain ⟨a, e⟩ := hcl n hn
    show _ = some ((c.env.cells.lookup n).getD 0)
    rw [e]; rfl
  refine wp_withtoks (wpAny_Assign_ListComp_free (fun _ => true) (CompF items f) hsw (closureFor_some af hcl') hsc.cell hsc.kind hsc.names hsc.x hky (by rw [c.hek]; rfl) (hit s _ S ?_) hs)
  intro it O1 N1 h tk I fp wr Pk Sw hI S2 W ht
  have S2c := S2
  obtain ⟨⟨mf, C, h1, h2, h3, h4⟩, h5, h6, h7⟩ := S2
  have hLw : c.L ∉ wr := fun q => (W.wnew _ q).2.1 rfl
  refine ⟨I, fp, wr, items.length, _, Sw, mf, W.it, W.quiet, by rw [sizeLine_eq]; omega, W.st, W.lt, by rw [hL]; exact hLw, by rw [hL]; exact h1.ns, comp_quiet f S2c W hcl' hsc.kind hsc.x (fun p hp => ?_) hnd (helt O1 N1 hI), ?_⟩
  · exact hfr p hp
  intro D h' tk' ys vs hD hl hpl hlen hP hF hns hk htk
  rw [hL] at hns hk
  obtain ⟨n, hpl⟩ := hpl
  have ha := comp_all2 (f := f) (fun k v p => W.val k v p.1 p.2) hlen hP hF
  have S3 : St c (σ.set i (some (.ref D))) O1 (N1 ++ F) (upd s h' tk') := by
    refine ⟨⟨_, C, ⟨hns, fun b o e => hk b o (fun q => ?_) (fun q => by have := (W.wnew b q).2.2; rw [this] at e; cases e) (h1.keep b o e), h1.above⟩,
      fun p hp => ⟨hk _ _ (h2 p hp).2.1 (fun q => ?_) (h2 p hp).1, (h2 p hp).2⟩, h3, ?_⟩, h5, Nat.lt_of_lt_of_le S.tk htk, ⟨fun q => (q hL).elim, fun a ha => let ⟨o, v, e, d⟩ := h7.2 a ha; ⟨o, v, hk _ _ (cells_at h2 h3 ha).1 (fun q => (W.wnew a q).1 (List.mem_append_left _ ha)) e, d⟩⟩⟩
    · subst q; exact Nat.lt_irrefl _ (Nat.lt_of_lt_of_le (Heap.lt_size e) h1.above)
    · apply (W.wnew _ q).1
      rw [← h3, ← List.map_append]
      exact List.mem_map.mpr ⟨p, hp, rfl⟩
    intro j z pw hz hv
    by_cases e : j = i
    · subst e
      rw [hy] at hz
      cases hz
      rw [List.getElem?_set_self hi] at hv
      cases hv
      exact ⟨.ref D, rfl, .loc hky hL (by simp)⟩
    · have hne := names_ne c.hnd hz hy e
      rw [List.getElem?_set_ne (fun q => e q.symm)] at hv
      obtain ⟨w, iw, H⟩ := h4 j z pw hz hv
      refine ⟨w, iw, ?_⟩
      cases H with
      | loc a1 a2 a3 => exact .loc a1 a2 (by simp [hne, a3])
      | comp a1 o m a2 a3 a4 => exact .comp a1 o m a2 a3 a4
      | cell a1 a o a2 a3 a4 => exact .cell a1 a o a2 a3 a4
  exact k .next _ ((D, _) :: O1) N1 h' tk' ⟨.next, hR O1 N1 D _ hI ⟨ys, n, rfl, ha⟩, rfl⟩ (S3.add hpl (S2c.fresh hD).1 (S2c.fresh hD).2.1 (S2c.fresh hD).2.2) htk
end
end Mine
end
section
open PySem PySem.W PyProof.Rows PySem.Calls
set_option autoImplicit false
set_option linter.unusedVariables false
namespace Mine
section
variable {G : GC} {c : Act G} {σ : Sto} {O F : Led} {s : Shared}

/-! ### names over what every kind of activation knows -/
structure Nms {G : GC} (c : Act G) (names : List Str) (scope : Scope) : Prop where
  nm : c.names = names
  glob : ∀ x, scope.names.lookup x = some .globalImplicit → c.env.kindOf x = some .globalImplicit
theorem CompAct.nms {c' : Act G} {names : List Str} {scope : Scope} (H : CompAct c c' names scope) : Nms c' names scope := ⟨H.nm, H.glob⟩
theorem Loc.nms {names : List Str} {scope : Scope} (H : Loc c names scope) : Nms c names scope := ⟨H.nm, fun _ h => H.glob h⟩

section
variable {names : List Str} {scope : Scope}
theorem nv_ (H : Nms c names scope) (i : Nat) {x : Str} {pos : Pos} {pv : PV} (hx : names[i]? = some x) (hv : σ[i]? = some (some pv)) (hd : (x == Str.ofString "__debug__") = false := by decide) :
    Evp c σ O F (.Name x pos) pv := ev_var i (by rw [H.nm]; exact hx) hv hd
theorem ng_ (H : Nms c names scope) {x : Str} {pos : Pos} {v : Value} {pv : PV} (e : nsIn G.K mainGlobals x = some (some v)) (hp : pv.Is v) (hx : scope.names.lookup x = some .globalImplicit) (hd : (x == Str.ofString "__debug__") = false := by decide) :
    Evp c σ O F (.Name x pos) pv := ev_glob e hp (H.glob _ hx) hd
theorem ncall_ (H : Nms c names scope) {nm : Str} {f : Addr} {p pos : Pos} {e : Expr} {rest : List Expr} {pvs : List PV} {pv : PV} {d u : Nat} (ns : nsIn G.K mainGlobals nm = some (some (.ref f))) (keep : keepIn G.K (.ref f) = true)
    (hx : scope.names.lookup nm = some .globalImplicit) (ha : TA c σ O F pos (e :: rest) (justA O pvs)) (spec : FnPure G f d u pvs pv) (room : Room c d u)
    (he : ∀ env, starEach (e :: rest) env = (false, eval e env) :: starEach rest env := by intro _; rfl)
    (hplain : ∀ (pos : Pos) env, (backTo pos (starEach rest env)).any (·.1) = false := by intro _ _; rfl)
    (hd : (nm == Str.ofString "__debug__") = false := by decide) : Evp c σ O F (.Call (.Name nm p) (e :: rest) [] pos) pv :=
  ev_call ns keep (H.glob _ hx) (TG.mono ha fun vs σ' O' N ⟨e1, pvs', ⟨e2, e3, e4⟩, i⟩ => ⟨e1, pvs', by
    subst e2 e3 e4
    exact fun vals hv => TV.mono (spec _ _ c σ _ room (fun _ q => q) vals hv) fun r O2 N2 h => by simpa using h, i⟩) he hplain hd
theorem nord_ (H : Nms c names scope) {p pos : Pos} {e : Expr} {n : Nat} (ns : nsIn G.K mainGlobals (Str.ofString "ord") = some none) (hx : scope.names.lookup (Str.ofString "ord") = some .globalImplicit) (he : Evp c σ O F e (.s [n]))
    (hst : ∀ env, starEach [e] env = [(false, eval e env)] := by intro _; rfl) : Evp c σ O F (.Call (.Name (Str.ofString "ord") p) [e] [] pos) (.int n) :=
  ev_bcall ns (by boot_fast) (H.glob _ hx) (ta_consp he (ta_nil fun vals hv => by
    obtain ⟨v, rfl, t, rfl⟩ := hv.one
    exact TV.mono bi_ord fun pv O' N h => by simpa using h) hst) (he := hst)
theorem nchr_ (H : Nms c names scope) {p pos : Pos} {e : Expr} {n : Nat} (ns : nsIn G.K mainGlobals (Str.ofString "chr") = some none) (hx : scope.names.lookup (Str.ofString "chr") = some .globalImplicit) (he : Evp c σ O F e (.int (n : Int))) (hn : n ≤ 1114111)
    (hst : ∀ env, starEach [e] env = [(false, eval e env)] := by intro _; rfl) : Evp c σ O F (.Call (.Name (Str.ofString "chr") p) [e] [] pos) (.s [n]) :=
  ev_bcall ns (by boot_fast) (H.glob _ hx) (ta_consp he (ta_nil fun vals hv => by
    obtain ⟨v, rfl, t, rfl⟩ := hv.one
    exact TV.mono (bi_chr hn) fun pv O' N ⟨e1, e2, e3⟩ => ⟨e1, e2, by rw [e3]; rfl⟩) hst) (he := hst)
end

/-! ### powers -/
theorem ev_pow {l r : Expr} {pos : Pos} {a b : Int} (hl : Evp c σ O F l (.int a)) (hr : Evp c σ O F r (.int b)) (hb : 0 ≤ b) (hb2 : b ≤ 1000000) (ha : a.natAbs < 2 ^ 64) : Evp c σ O F (.BinOp l .Pow r pos) (.int (a ^ b.toNat)) :=
  ev_bin hl hr fun vl vr ⟨t, e⟩ ⟨u, e'⟩ => by subst e e'; exact TV.pure fun s Q S k => pow_int_small hb hb2 ha (k _ s.heap _ ⟨_, rfl⟩ fun _ _ e => e)

/-! ### the signs of a text -/
theorem it_str {iter : Expr} {l : List Nat} {I0 : Led → Led → Prop} (h : Evp c σ O F iter (.s l)) (h0 : I0 O []) : Iterates c σ O F iter (l.map fun n => PV.s [n]) I0 := by
  intro s Q S k
  refine h s _ S ?_
  rintro v σ1 O1 N1 h1 tk1 ⟨rfl, pv, ⟨rfl, rfl, rfl⟩, t, rfl⟩ S1 ht1
  have hnew : h1.get? h1.objs.size = none := by
    cases q : h1.get? h1.objs.size with
    | none => rfl
    | some o => exact absurd (Heap.lt_size q) (Nat.lt_irrefl _)
  have hlen : (mk l).cps.size = (l.map fun n => PV.s [n]).length := by simp [mk]
  have key : ∀ ty : String, Walks G.prog G.w c.A h1.objs.size [h1.objs.size] [h1.objs.size] (mk l).cps.size (SignAt (mk l)) (fun i h => h.IsStrIter h1.objs.size ty (mk l) t i) →
      Q (.ref h1.objs.size) (upd s (h1.push { cls := .type ty, data := .fields #[.str (mk l) t, .int 0 0] }) tk1) := by
    intro ty Wk
    have S2 : St c σ1 O1 ([] ++ F) (upd s (h1.push { cls := .type ty, data := .fields #[.str (mk l) t, .int 0 0] }) tk1) := St.keeps (s := upd s h1 tk1) S1 (fun b o e => Heap.get?_push_of_some _ e) (Nat.le_refl _)
    rw [hlen] at Wk
    refine k _ O1 [] _ tk1 h1.objs.size [h1.objs.size] [h1.objs.size] _ _ h0 S2 ⟨rfl, Wk, ⟨_, Heap.get?_push_size _ rfl, rfl, rfl⟩, fun j v _ hv => ?_, ?_, by simp, ?_, fun b hb hn => absurd hb hn, ?_⟩ ht1
    · obtain ⟨cp, t', hj, rfl⟩ := hv
      refine ⟨PV.s [cp], ?_, t', rfl⟩
      have : l[j]? = some cp := by simpa [mk] using hj
      simp [this]
    · intro b hb
      rw [List.mem_singleton.mp hb, Heap.size_push]
      exact Nat.lt_succ_self _
    · intro b hb
      rw [List.mem_singleton.mp hb]
      exact S1.fresh (s := upd s h1 tk1) hnew
    · rintro j h' ⟨o, ho, _⟩ b hb
      rw [List.mem_singleton.mp hb]
      exact ⟨o, ho⟩
  cases ha : (mk l).cps.all (· < 128)
  · exact wpAny_pyIter_wide ha (key "str_iterator" (Walks.strWide c.hhan _ _ t))
  · exact wpAny_pyIter_ascii ha (key "str_ascii_iterator" (Walks.strAscii c.hhan _ _ t))

/-! ### sep.join(list) -/
theorem strsAre_of {ps : List (List Nat)} {vs : List Value} (h : All2 PV.Is (ps.map PV.s) vs) : StrsAre vs (ps.map mk) := by
  induction ps generalizing vs with
  | nil => cases h; exact .nil
  | cons p ps ih =>
    cases h with
    | cons h1 h2 => obtain ⟨t, rfl⟩ := h1; exact .cons _ t (ih h2)

theorem ev_join {o e : Expr} {apos pos : Pos} {z : List Nat} {ps : List (List Nat)} {R : VPost} (ho : Evp c σ O F o (.s z))
    (he : Ev c σ O F e fun pv O1 N1 => ∃ a ob, pv = .ref a ∧ (a, ob) ∈ O1 ++ (N1 ++ F) ∧ ListO (ps.map PV.s) ob ∧ R (.s (joinL z ps)) O1 N1)
    (hok : (ps.map (·.length)).sum + ps.length * z.length ≤ 16777216)
    (hbase : attributeBase o (Str.ofString "join") c.env (eval o c.env) = eval o c.env := by rfl) (hline : (apos.endLine == pos.line) = true := by rfl)
    (hst : ∀ env, starEach [e] env = [(false, eval e env)] := by intro _; rfl) :
    Ev c σ O F (.Call (.Attribute o (Str.ofString "join") apos) [e] [] pos) R := by
  refine meth_str ho PySem.F.slot_str_join PySem.F.type_str_join hbase (by rw [hst]; rfl) hline fun t => ?_
  refine TG.of (TA.bindG (R := fun pvs O1 N1 => ∃ a ob, pvs = [.ref a] ∧ (a, ob) ∈ O1 ++ (N1 ++ F) ∧ ListO (ps.map PV.s) ob ∧ R (.s (joinL z ps)) O1 N1) (T2 := fun vs (Q : Value → Shared → Prop) s1 => wpAny G.M c.A (call (.builtin "str.join") ([.str (mk z) t] ++ vs)) Q NoE s1)
    (ta_cons (TV.mono he fun pv O1 N1 ⟨a, ob, e1, e2, e3, e4⟩ => ta_nil ⟨a, ob, by rw [e1], by simpa using e2, e3, by simpa using e4⟩) hst) fun vs pvs O1 N1 ⟨a, ob, e1, e2, e3, e4⟩ i => ?_) fun Q s h => callWith_method1 h (hst _)
  subst e1
  obtain ⟨v, rfl, iv⟩ := i.one
  cases iv
  refine TV.mono (TV.pure fun s Q S k => ?_ : TVp c σ O1 (N1 ++ F) (call (.builtin "str.join") [.str (mk z) t, .ref a]) (.s (joinL z ps))) fun pv O' N ⟨q1, q2, q3⟩ => by subst q1 q2 q3; simpa using e4
  obtain ⟨vs, hl, ia⟩ := S.isList e2 e3
  refine join_list (x := mk z) (ys := ps.map mk) hl (strsAre_of ia) (by simpa [mk_length, Function.comp_def] using hok) fun t' tk => ?_
  have hj : Txt.join (mk z) (ps.map mk) = mk (joinL z ps) := (StrLaws.glued_eq_join _ _).trans (join_mk z ps)
  rw [hj]
  exact k _ s.heap tk ⟨t', rfl⟩ fun _ _ e => e

/-! ### a def with cells -/
structure LocC {G : GC} (c : Act G) (names : List Str) (scope : Scope) : Prop where
  nm : c.names = names
  sc : c.env.scope = scope
  L : c.env.locals = c.L
  cell : ∀ x, scope.names.lookup x = some .cell → ∃ a, c.env.cells.lookup x = some a
  own : Own c
  inj : ∀ x y a, c.env.cells.lookup x = some a → c.env.cells.lookup y = some a → x = y
theorem LocC.kind {names : List Str} {scope : Scope} (H : LocC c names scope) {x : Str} {k : NameKind} (h : scope.names.lookup x = some k) : c.env.kindOf x = some k := by
  unfold Env.kindOf; rw [H.sc]; exact h
theorem LocC.nms {names : List Str} {scope : Scope} (H : LocC c names scope) : Nms c names scope := ⟨H.nm, fun _ h => H.kind h⟩

theorem bindL_out {kd : Str → Option NameKind} : ∀ {names : List Str} {vals : List Value} {m : Str → Option Value} {x : Str}, x ∉ names → bindL kd (names.zip vals) m x = m x
  | [], _, _, _, _ => rfl
  | n :: ns, [], _, _, _ => rfl
  | n :: ns, v :: vs, m, x, h => by
    have h1 : x ≠ n := fun e => h (e ▸ .head _)
    have h2 : x ∉ ns := fun e => h (.tail _ e)
    show bindL kd (ns.zip vs) _ x = _
    rw [bindL_out h2]
    split
    · simp [h1]
    · rfl
theorem bindL_get {kd : Str → Option NameKind} : ∀ {names : List Str} {vals : List Value} {m : Str → Option Value} {i : Nat} {x : Str} {v : Value}, names.Nodup → names[i]? = some x → vals[i]? = some v → kd x = some .local → bindL kd (names.zip vals) m x = some v
  | [], _, _, i, _, _, _, h, _, _ => by simp at h
  | n :: ns, [], _, i, _, _, _, _, h, _ => by simp at h
  | n :: ns, w :: ws, m, 0, x, v, hn, hx, hv, hk => by
    simp at hx hv; subst hx hv
    show bindL kd (ns.zip ws) _ n = _
    rw [bindL_out (List.nodup_cons.mp hn).1, if_pos hk]; simp
  | n :: ns, w :: ws, m, i + 1, x, v, hn, hx, hv, hk => by
    show bindL kd (ns.zip ws) _ x = _
    exact bindL_get (i := i) (List.nodup_cons.mp hn).2 (by simpa using hx) (by simpa using hv) hk
theorem bindC_out {kd : Str → Option NameKind} : ∀ {names : List Str} {vals : List Value} {m : Str → Option Value} {x : Str}, x ∉ names → bindC kd (names.zip vals) m x = m x
  | [], _, _, _, _ => rfl
  | n :: ns, [], _, _, _ => rfl
  | n :: ns, v :: vs, m, x, h => by
    have h1 : x ≠ n := fun e => h (e ▸ .head _)
    have h2 : x ∉ ns := fun e => h (.tail _ e)
    show bindC kd (ns.zip vs) _ x = _
    rw [bindC_out h2]
    split
    · rfl
    · simp [h1]
theorem bindC_get {kd : Str → Option NameKind} : ∀ {names : List Str} {vals : List Value} {m : Str → Option Value} {i : Nat} {x : Str} {v : Value}, names.Nodup → names[i]? = some x → vals[i]? = some v → kd x = some .cell → bindC kd (names.zip vals) m x = some v
  | [], _, _, i, _, _, _, h, _, _ => by simp at h
  | n :: ns, [], _, i, _, _, _, _, h, _ => by simp at h
  | n :: ns, w :: ws, m, 0, x, v, hn, hx, hv, hk => by
    simp at hx hv; subst hx hv
    show bindC kd (ns.zip ws) _ n = _
    rw [bindC_out (List.nodup_cons.mp hn).1, if_neg (by rw [hk]; decide)]; simp
  | n :: ns, w :: ws, m, i + 1, x, v, hn, hx, hv, hk => by
    show bindC kd (ns.zip ws) _ x = _
    exact bindC_get (i := i) (List.nodup_cons.mp hn).2 (by simpa using hx) (by simpa using hv) hk

theorem cellsAre_get {cm : Str → Option Value} {cs : List (Str × Addr)} {cells : Led} (Y : CellsAre cm cs cells) : cells.map (·.1) = cs.map (·.2) ∧ (∀ p ∈ cells, ∃ v, p.2.data = .cell v) ∧ ∀ x a, cs.lookup x = some a → ∃ o, (a, o) ∈ cells ∧ o.data = .cell (cm x) := by
  induction Y with
  | nil => exact ⟨rfl, fun _ h => (nomatch h), fun x a h => by cases h⟩
  | @cons n cc o cs cells h1 h2 ih =>
    refine ⟨by simp [ih.1], fun p hp => ?_, fun x a h => ?_⟩
    · rcases List.mem_cons.mp hp with rfl | hp
      · exact ⟨_, h1⟩
      · exact ih.2.1 p hp
    · rw [List.lookup_cons] at h
      split at h
      · rename_i e
        cases h
        have : x = n := eq_of_beq e
        subst this
        exact ⟨o, .head _, h1⟩
      · obtain ⟨o', h3, h4⟩ := ih.2.2 x a h
        exact ⟨o', .tail _ h3, h4⟩

theorem cellsFrom_addrs : ∀ (names : List (Str × NameKind)) (n : Nat) (acc : List (Str × Addr)), (∀ p ∈ acc, p.2 < n) → (acc.map (·.2)).Nodup →
    ((cellsFrom n names acc).map (·.2)).Nodup ∧ ∀ p ∈ cellsFrom n names acc, p ∈ acc ∨ n ≤ p.2
  | [], n, acc, _, h2 => ⟨h2, fun p hp => .inl hp⟩
  | (x, k) :: r, n, acc, h1, h2 => by
    unfold cellsFrom
    split
    · obtain ⟨a1, a2⟩ := cellsFrom_addrs r (n + 1) ((x, n) :: acc) (fun p hp => by
        rcases List.mem_cons.mp hp with rfl | hp
        · exact Nat.lt_succ_self _
        · exact Nat.lt_succ_of_lt (h1 p hp)) (by
        simp only [List.map_cons, List.nodup_cons]
        refine ⟨fun hm => ?_, h2⟩
        obtain ⟨p, hp, e⟩ := List.mem_map.mp hm
        have := h1 p hp; rw [e] at this; exact Nat.lt_irrefl _ this)
      refine ⟨a1, fun p hp => ?_⟩
      rcases a2 p hp with q | q
      · rcases List.mem_cons.mp q with rfl | q
        · exact .inr (Nat.le_refl _)
        · exact .inl q
      · exact .inr (Nat.le_of_succ_le q)
    · exact cellsFrom_addrs r n acc h1 h2

theorem lookup_mem' {x : Str} {a : Addr} : ∀ {l : List (Str × Addr)}, l.lookup x = some a → (x, a) ∈ l
  | [], h => by cases h
  | (y, b) :: r, h => by
    rw [List.lookup_cons] at h
    split at h
    · rename_i e; cases h; have : x = y := eq_of_beq e; subst this; exact .head _
    · exact .tail _ (lookup_mem' h)
theorem nodup_snd {x y : Str} {a : Addr} : ∀ {l : List (Str × Addr)}, (l.map (·.2)).Nodup → (x, a) ∈ l → (y, a) ∈ l → x = y
  | [], _, h, _ => by cases h
  | (z, b) :: r, hn, h1, h2 => by
    have hn' := List.nodup_cons.mp hn
    rcases List.mem_cons.mp h1 with e1 | q1
    · rcases List.mem_cons.mp h2 with e2 | q2
      · cases e1; cases e2; rfl
      · cases e1; exact (hn'.1 (List.mem_map.mpr ⟨_, q2, rfl⟩)).elim
    · rcases List.mem_cons.mp h2 with e2 | q2
      · cases e2; exact (hn'.1 (List.mem_map.mpr ⟨_, q1, rfl⟩)).elim
      · exact nodup_snd hn'.2 q1 q2

theorem fn_of_bodyC {nm : Str} {f : Addr} {params : Arguments} {body : List Stmt} {scope : Scope} (D : DefAt G nm f params body scope)
    {d u : Nat} {vs : List PV} {R : VPost} (names : List Str)
    (hparams : ∀ (name qual : Str) (doc pm : Value) (an : Option Addr) (cdv ct : Value) (vals : List Value), vals.length = vs.length →
      bindArgs (fnOf name qual params body scope .none .none doc pm an cdv ct) ⟨vals, []⟩ = pure (names.zip vals))
    (hloc : ∀ x ∈ names, scope.names.lookup x = some .local ∨ scope.names.lookup x = some .cell) (hnd : names.Nodup)
    (hco : scope.isCoroutine = false) (hgen : scope.isGenerator = false) (hk : scope.kind = .function) (hcn : ((cellsFrom 0 scope.names []).map (·.1)).Nodup)
    (hlen : vs.length ≤ names.length)
    (hbody : ∀ (c' : Act G) (F' : Led), LocC c' names scope → Room c' d u → (∀ p ∈ F, p ∈ F') →
      Ex c' (vs.map some ++ List.replicate (names.length - vs.length) none) O F' body fun pf σ' O' N => match pf with | .ret pv => R pv O' N | .next => R .none O' N | _ => False) :
    FnSpec G f (d + 1) (u + 3) vs O F R := by
  intro c σ F₁ room hsub vals hv s Q S k
  obtain ⟨oc, od, name, qual, doc, pm, an, cdv, ct, osl, ho, hcd⟩ := D.obj
  have S₀ := S
  obtain ⟨⟨mf, C, h1, h2, h3, h4⟩, h5, h6, h7⟩ := S
  have hlenv : vals.length = vs.length := (hv.length).symm
  have hsome : ∀ (n : Nat) (x : Str), scope.names.lookup x = some .cell → ∃ a, (cellsFrom n scope.names []).lookup x = some a := fun n x hx =>
    Option.isSome_iff_exists.mp (cellsFrom_some scope.names n [] (.inl hx))
  refine wpAny_call (code_defC2 c.B h1 c.X h2 c.T c.hA c.hf c.hk ho hcd (by have := room.1; omega) (BindsTo.of_eq (hparams _ _ _ _ _ _ _ vals hlenv)) (fun n y hy => ?_) hcn ?_ hco hgen hk)
  · rcases hloc _ (List.of_mem_zip hy).1 with q | q
    · exact .inl q
    · obtain ⟨a, e⟩ := hsome n _ q
      exact .inr ⟨q, by rw [e]; rfl⟩
  intro g L' h₁ tk0 cells FG F' N' Y B' X' T' hlt gL htk0
  let env' : Env := envOfC qual scope L' f cdv
  let c' : Act G := { A := c.A.deeper env', fenv := env', env := env', L := L', h0 := g, A0 := c.A, base := c.base, outer := c.fenv :: c.outer, names := names, cells := (cellsFrom (L' + 1) scope.names []).map (·.2), B := B', X := X', T := T',
                      hA := Around.frames_deeper c.hA, hf := rfl, hk := hk, hek := hk, hhan := c.hhan, hglob := rfl, hbi := rfl, hnd := hnd }
  obtain ⟨ca1, ca2⟩ := cellsFrom_addrs scope.names (L' + 1) [] (fun _ h => (nomatch h)) List.nodup_nil
  obtain ⟨y1, y2, y3⟩ := cellsAre_get Y
  have hL : LocC c' names scope := ⟨rfl, rfl, rfl, fun x hx => hsome _ x hx, ⟨rfl, fun x a h => List.mem_map.mpr ⟨(x, a), lookup_mem' h, rfl⟩⟩, fun x y a hx hy => nodup_snd ca1 (lookup_mem' hx) (lookup_mem' hy)⟩
  have room' : Room c' d u := ⟨by show c.A.depth + 1 + d < _; have := room.1; omega, by show c.A.units + 3 + u < _; have := room.2; omega⟩
  have hb := hbody c' (F₁ ++ C) hL room' fun p hp => List.mem_append_left _ (hsub p hp)
  have S' : St c' (vs.map some ++ List.replicate (names.length - vs.length) none) O (F₁ ++ C) ⟨h₁, s.gens, s.drawn, tk0, s.os⟩ := by
    refine ⟨⟨_, cells, F', news_sub N' fun p hp => ?_, y1, ?_⟩, ?_, Nat.lt_of_lt_of_le h6 htk0, ⟨fun q => (q rfl).elim, fun a ha => ?_⟩⟩
    · simp only [List.mem_append] at hp ⊢; grind
    · intro i x pv hx hσ
      have hi : i < vs.length := by
        rcases Nat.lt_or_ge i vs.length with h | h
        · exact h
        · exfalso
          rw [List.getElem?_append_right (by simpa using h)] at hσ
          rw [List.getElem?_replicate] at hσ
          split at hσ <;> cases hσ
      rw [List.getElem?_append_left (by simpa using hi)] at hσ
      obtain ⟨v, hvv, iv⟩ := hv.get (i := i) (a := pv) (by
        rw [List.getElem?_map] at hσ
        cases h : vs[i]? with
        | none => rw [h] at hσ; cases hσ
        | some q => rw [h] at hσ; simp at hσ; rw [hσ])
      rcases hloc x (List.mem_of_getElem? hx) with q | q
      · exact ⟨v, iv, .loc (hL.kind q) rfl (bindL_get hnd hx hvv (hL.kind q))⟩
      · obtain ⟨a, ha⟩ := hL.cell x q
        obtain ⟨o, ho1, ho2⟩ := y3 x a ha
        exact ⟨v, iv, .cell (hL.kind q) a o ha (List.mem_append_left _ ho1) (by rw [ho2, bindC_get hnd hx hvv (hL.kind q)])⟩
    · show ((cellsFrom (L' + 1) scope.names []).map (·.2) ++ List.map Prod.fst (O ++ (F₁ ++ C))).Nodup
      rw [← h3] at h5
      refine List.nodup_append.mpr ⟨ca1, ?_, ?_⟩
      · simp only [List.map_append] at h5 ⊢
        refine (List.Perm.nodup_iff ?_).mp h5
        refine (List.perm_append_comm).trans ?_
        rw [List.append_assoc]
      · intro a ha b hb' e
        subst e
        obtain ⟨p, hp, rfl⟩ := List.mem_map.mp ha
        have q1 : L' + 1 ≤ p.2 := (ca2 p hp).resolve_left (fun h => nomatch h)
        obtain ⟨q, hq, e⟩ := List.mem_map.mp hb'
        have q2 := hlt q (by simp only [List.mem_append] at hq ⊢; grind)
        rw [e] at q2
        exact Nat.lt_irrefl _ (Nat.lt_of_lt_of_le q2 (Nat.le_of_succ_le q1))
    · have ha' : a ∈ cells.map (·.1) := by rw [y1]; exact ha
      obtain ⟨p, hp, rfl⟩ := List.mem_map.mp ha'
      obtain ⟨v, e⟩ := y2 p hp
      exact ⟨p.2, v, (N' p (List.mem_append_left _ hp)).1, e⟩
  refine wpAny_mono (hb _ (fun fl s' => LeaveK c.h0 c.L mf g (fun r s' => match r with | .ok (.ret v) => Q v s' | .ok _ => False | .error e => NoE e s') (match fl with | .ret v => v | _ => .none) s') S' ?_) (fun _ _ h => h) (fun _ _ h => False.elim h)
  rintro fl σ' O' N h' tk ⟨pf, hp, ip⟩ S2 ht2
  obtain ⟨⟨mf', C', a1, a2, a3, a4⟩, a5, a6⟩ := S2
  have a2' : News g L' h' (O' ++ (N ++ (F₁ ++ C))) := fun p hp => a2 p (List.mem_append_right _ hp)
  refine leaveK_ a1 a2' fun q1 q2 => ?_
  have S3 : ∀ pv, R pv O' N → St c σ O' (N ++ F₁) (upd s h' tk) := fun pv _ => by
    refine ⟨⟨mf, C, q1, news_sub q2 fun p hp => ?_, h3, h4.mono fun p hp => List.mem_append_right _ hp⟩, ?_, a6, h7.of (fun _ e => a1.keep _ _ (gL _ e)) fun a ha o e => ?_⟩
    · simp only [List.mem_append] at hp ⊢; grind
    · have a5' : ((cellsFrom (L' + 1) scope.names []).map (·.2) ++ List.map Prod.fst (O' ++ (N ++ (F₁ ++ C)))).Nodup := a5
      have a5'' := (List.nodup_append.mp a5').2.1
      rw [← h3]
      simp only [List.map_append] at a5'' ⊢
      refine (List.Perm.nodup_iff ?_).mp a5''
      have e1 : List.map Prod.fst O' ++ (List.map Prod.fst N ++ (List.map Prod.fst F₁ ++ List.map Prod.fst C)) = (List.map Prod.fst O' ++ (List.map Prod.fst N ++ List.map Prod.fst F₁)) ++ List.map Prod.fst C := by simp only [List.append_assoc]
      rw [e1]
      exact List.perm_append_comm
    · obtain ⟨_, _, o', ho', e'⟩ := cells_at h2 h3 ha
      rw [e] at e'; cases e'
      exact (a2 (a, o) (by simp only [List.mem_append]; grind)).1
  have ht3 : s.toks ≤ tk := Nat.le_trans htk0 ht2
  cases pf with
  | ret pv =>
    obtain ⟨v, rfl, iv⟩ := ip
    exact k v σ O' N h' tk ⟨rfl, pv, hp, iv⟩ (S3 pv hp) ht3
  | next =>
    cases ip
    exact k .none σ O' N h' tk ⟨rfl, .none, hp, rfl⟩ (S3 .none hp) ht3
  | brk => exact hp.elim
  | cont => exact hp.elim

/-! storing into a cell -/
theorem St.storeC {names : List Str} {scope : Scope} (H : LocC c names scope) (S : St c σ O F s) {i : Nat} {x : Str} (hx : c.names[i]? = some x) (hkc : scope.names.lookup x = some .cell) {v : Value} {pv : PV} (iv : pv.Is v) (hi : i < σ.length)
    {Q : Unit → Shared → Prop} (k : ∀ h, St c (σ.set i (some pv)) O F (upd s h s.toks) → Q () (upd s h s.toks)) : wpAny G.M c.A (storeName c.env x v) Q NoE s := by
  obtain ⟨⟨mf, C, h1, h2, h3, h4⟩, h5, h6, h7⟩ := S
  obtain ⟨a, ha⟩ := H.cell x hkc
  have hac := H.own.cells x a ha
  obtain ⟨o, w, e, dd⟩ := h7.2 a hac
  obtain ⟨hne, hn0, o1, ho1, e1⟩ := cells_at h2 h3 hac
  rw [e] at e1; cases e1
  refine wpAny_storeName_cell c.hek (H.kind hkc) ha ⟨o, e, dd⟩ fun h' hv hs => ?_
  obtain ⟨o', ho', hd'⟩ := hv
  have hsame : ∀ p ∈ C ++ (O ++ F), p.1 ≠ a → h'.get? p.1 = some p.2 := fun p hp q => (hs.2 _ q).trans (h2 p hp).1
  let C' : Led := C.map fun p => if p.1 = a then (a, o') else p
  have hC' : C'.map (·.1) = c.cells := by
    rw [← h3, List.map_map]
    refine List.map_congr_left fun p hp => ?_
    simp only [Function.comp_apply]
    split
    · rename_i q; exact q.symm
    · rfl
  have hnotOF : ∀ p ∈ O ++ F, p.1 ≠ a := fun p hp q => by
    have := (List.nodup_append.mp h5).2.2 a hac p.1 (List.mem_map.mpr ⟨p, hp, rfl⟩)
    exact this q.symm
  refine k h' ⟨⟨mf, C', ⟨h1.ns.sameBut hs (Ne.symm hne), fun b ob eb => (hs.2 b fun q => by rw [q, hn0] at eb; cases eb).trans (h1.keep b ob eb), h1.above⟩, fun p hp => ?_, hC', ?_⟩, h5, h6, ⟨fun q => (q H.L).elim, fun b hb => ?_⟩⟩
  · rcases List.mem_append.mp hp with q | q
    · obtain ⟨p', hp', rfl⟩ := List.mem_map.mp q
      by_cases z : p'.1 = a
      · rw [if_pos z]; exact ⟨ho', hne, hn0⟩
      · rw [if_neg z]
        exact ⟨hsame p' (List.mem_append_left _ hp') z, (h2 p' (List.mem_append_left _ hp')).2⟩
    · exact ⟨hsame p (List.mem_append_right _ q) (hnotOF p q), (h2 p (List.mem_append_right _ q)).2⟩
  · intro j y pw hy hvj
    by_cases ej : j = i
    · subst ej
      rw [hx] at hy; cases hy
      rw [List.getElem?_set_self hi] at hvj
      cases hvj
      exact ⟨v, iv, .cell (H.kind hkc) a o' ha (List.mem_append_left _ (List.mem_map.mpr ⟨(a, o), ho1, by simp⟩)) hd'⟩
    · have hnxy := names_ne c.hnd hy hx ej
      rw [List.getElem?_set_ne (fun q => ej q.symm)] at hvj
      obtain ⟨w', iw, Hh⟩ := h4 j y pw hy hvj
      refine ⟨w', iw, ?_⟩
      cases Hh with
      | loc a1 a2 a3 => exact .loc a1 a2 a3
      | comp a1 o m a2 a3 a4 => exact .comp a1 o m a2 a3 a4
      | cell a1 b ob a2 a3 a4 =>
        have hba : b ≠ a := fun q => hnxy (H.inj y x a (q ▸ a2) ha)
        refine .cell a1 b ob a2 ?_ a4
        rcases List.mem_append.mp a3 with q | q
        · exact List.mem_append_left _ (List.mem_map.mpr ⟨(b, ob), q, by simp [hba]⟩)
        · exact List.mem_append_right _ q
  · by_cases z : b = a
    · subst z; exact ⟨o', _, ho', hd'⟩
    · obtain ⟨ob, vb, eb, db⟩ := h7.2 b hb
      exact ⟨ob, vb, (hs.2 b z).trans eb, db⟩

theorem asgC_ {names : List Str} {scope : Scope} (H : LocC c names scope) (i : Nat) {x : Str} {p pos : Pos} {e : Expr} {P : FPost} (hx : names[i]? = some x) (hkc : scope.names.lookup x = some .cell) (hi : i < σ.length)
    (he : Ev c σ O F e fun pv O' N => P .next (σ.set i (some pv)) O' N)
    (hs : swapsWith e (some (.Name x p)) pos.line c.env = pure false := by rfl) : Ex1 c σ O F (.Assign [.Name x p] e pos) P := by
  intro s Q S k
  refine wpAny_Assign_Name (he s _ S fun v σ' O' N h' tk ⟨e, pv, r, iv⟩ S' ht => ?_) hs
  subst e
  refine S'.storeC H (by rw [H.nm]; exact hx) hkc iv hi fun h2 S2 => ?_
  exact k _ _ O' N h2 tk ⟨.next, r, rfl⟩ S2 ht
end
end Mine
end
section
open PySem PySem.W PyProof.Rows PySem.Calls
set_option autoImplicit false
set_option linter.unusedVariables false
namespace Mine
open PySem.SeqAt
open AutoSeq1 (wpAny_loadPart')
open MeetsSeq MeetsSeq2 MeetsSeq3 SeqRoads2

def LtAt (A : Around) (s : Shared) (y x : Value) (b : Bool) : Prop :=
  ∀ (prog : Program) (w : World) (E : Value → Shared → Prop) (Q : Value → Shared → Prop), Q (.bool b) s → wpAny (model prog w) A (richCompare .Lt y x) Q E s

theorem tup2_lt (l b : Addr) (x1 y1 x2 y2 : Value) (n n2 : Nat) (dd dd2 : Option Addr) (sl sl2 : Array (Option Value)) (e1 e2 r1 r2 : Bool) :
    Meets (Builtin.«tuple.__lt__» ⟨[.ref l, .ref b], []⟩)
      (fun A R s => s.heap.get? l = some { cls := .type "tuple", dict := dd, data := .seq #[x1, y1] n, slots := sl } ∧ s.heap.get? b = some { cls := .type "tuple", dict := dd2, data := .seq #[x2, y2] n2, slots := sl2 } ∧
        EqAt A.in1 s x1 x2 e1 ∧ EqAt A.in1 s y1 y2 e2 ∧ LtAt A.in1 s x1 x2 r1 ∧ LtAt A.in1 s y1 y2 r2 ∧
        R (.ok (.ret (.bool (if e1 then (if e2 then false else r2) else r1)))) s) :=
  .of_wp fun prog w A R s h => by
    obtain ⟨hp, g, d, tk, os⟩ := s; obtain ⟨hl, hb, h1, h2, h3, h4, h⟩ := h
    have f2 := AutoSeq1.sub_tuple_tuple
    wp_walk using wpAny_loadPart' hl, wpAny_loadPart' hb, wpAny_forIn_list _ (fun rest b s' => b.1 = none ∧ s' = ⟨hp, g, d, tk, os⟩ ∧ (rest = [(x1, x2), (y1, y2)] ∨ (rest = [(y1, y2)] ∧ e1 = true) ∨ (rest = [] ∧ e1 = true ∧ e2 = true))) _
    case turn =>
      rintro ⟨y, x⟩ rest b s' ⟨hb', rfl, hz⟩
      rcases hz with hz | ⟨hz, he1⟩ | ⟨hz, _⟩
      · injection hz with hyx hrest
        injection hyx with q1 q2
        subst q1 q2 hrest
        refine wpAny_bind (h1 prog w _ _ ?_)
        cases e1 with
        | true => wp_walk; exact ⟨rfl, rfl, .inr (.inl ⟨rfl, rfl⟩)⟩
        | false =>
          show wpAny _ _ ((rule _ : Sem Unit) >>= fun _ => richCompare .Lt _ _ >>= fun r => ret r >>= fun r => pure (ForInStep.done (some r, ()))) _ _ _
          refine wpAny_bind (wpAny_rule (wpAny_bind (h3 prog w _ _ ?_)))
          wp_walk
          exact ⟨_, rfl, by simpa using h⟩
      · injection hz with hyx hrest
        injection hyx with q1 q2
        subst q1 q2 hrest he1
        refine wpAny_bind (h2 prog w _ _ ?_)
        cases e2 with
        | true => wp_walk; exact ⟨rfl, rfl, .inr (.inr ⟨rfl, rfl, rfl⟩)⟩
        | false =>
          show wpAny _ _ ((rule _ : Sem Unit) >>= fun _ => richCompare .Lt _ _ >>= fun r => ret r >>= fun r => pure (ForInStep.done (some r, ()))) _ _ _
          refine wpAny_bind (wpAny_rule (wpAny_bind (h4 prog w _ _ ?_)))
          wp_walk
          exact ⟨_, rfl, by simpa using h⟩
      · cases hz
    case fin =>
      rintro ⟨b1, b2⟩ s' ⟨hb', rfl, hz⟩
      simp only at hb'
      subst hb'
      rcases hz with hz | ⟨hz, _⟩ | ⟨_, he1, he2⟩
      · cases hz
      · cases hz
      subst he1 he2
      wp_walk
      exact ⟨_, rfl, by simpa [Builtin.Tuple.tupleCompareSizes] using h⟩
    case h =>
      exact ⟨rfl, rfl, .inl rfl⟩

section
variable {A : Around} {s : Shared}
theorem LtAt.int (a b : Int) (t u : Tok) : LtAt A s (.int a t) (.int b u) (decide (a < b)) := fun prog w E Q h => (lt_int h : wpAny (model prog w) A (compareOp .Lt (.int a t) (.int b u)) Q E s)
theorem LtAt.str (x y : Str) (t u : Tok) : LtAt A s (.str x t) (.str y u) (decide (x.cps.toList < y.cps.toList)) := fun prog w E Q h => (lt_str h : wpAny (model prog w) A (compareOp .Lt (.str x t) (.str y u)) Q E s)

theorem LtAt.tup2 {l b : Addr} {x1 y1 x2 y2 : Value} {e1 e2 r1 r2 : Bool} (hl : s.heap.IsTuple l #[x1, y1]) (hb : s.heap.IsTuple b #[x2, y2]) (hu : A.units < cLine)
    (h1 : EqAt A.in1 s x1 x2 e1) (h2 : EqAt A.in1 s y1 y2 e2) (h3 : LtAt A.in1 s x1 x2 r1) (h4 : LtAt A.in1 s y1 y2 r2) : LtAt A s (.ref l) (.ref b) (if e1 then (if e2 then false else r2) else r1) := fun prog w E Q h => by
  obtain ⟨⟨cls, dd, data, sl⟩, ho, hc, n, hd⟩ := id hl
  obtain ⟨⟨cls2, dd2, data2, sl2⟩, ho2, hc2, n2, hd2⟩ := id hb
  simp only at hc hd hc2 hd2
  subst hc hd hc2 hd2
  exact richCompare_meets_room (op := .Lt) ⟨_, ho, rfl⟩ ⟨_, ho2, rfl⟩ F.slot_tuple_lt F.entry_tuple_lt (F.args_tuple_lt_2 _ _) (tup2_lt l b x1 y1 x2 y2 n n2 dd dd2 sl sl2 e1 e2 r1 r2)
    ⟨ho, ho2, h1, h2, h3, h4, show Value.bool _ ≠ Value.notImplemented ∧ Q (.bool _) s from ⟨(fun x => nomatch x), h⟩⟩ hu
end

section
variable {prog : Program} {w : World} {A : Around} {R : Result → Shared → Prop} {I : Addr} {fp wr : List Addr} {n : Nat} {P : Nat → Value → Prop} {Sw : Nat → Heap → Prop}

theorem min_loop_at (W : Walks prog w A.in1 I fp wr n P Sw) (bt : Nat → Nat → Bool) (S : Addr) (hSf : S ∉ fp) (H0 : Heap) (hI0 : ∀ b ∈ wr, H0.get? b = none) (hS0 : H0.get? S = none)
    (hcmp : ∀ i j vi vj (s' : Shared), P i vi → P j vj → (∀ b o, H0.get? b = some o → s'.heap.get? b = some o) → LtAt A.in1 s' vi vj (bt i j)) :
    ∀ (k j : Nat) (s : Shared) (vb : Value) (c : Nat), n - (j + 1) = k → j + 1 ≤ n → Sw (j + 1) s.heap → P (argBest bt j) vb → (∀ b o, H0.get? b = some o → s.heap.get? b = some o) →
    s.heap.get? S = some { cls := .type "list", dict := none, data := .seq #[vb, vb] c, slots := #[] } →
    (∀ v h' tk, P (argBest bt (n - 1)) v → (∀ b o, b ∉ wr → b ≠ S → s.heap.get? b = some o → h'.get? b = some o) → R (.ok (.ret v)) { s with heap := h', toks := tk }) →
    codeAny (model prog w) A (.builtin "min.loop" ⟨[.ref I, .none, .ref S], []⟩) R s := by
  have hSw : S ∉ wr := fun h => hSf (W.sub _ h)
  have hname : (toString "min" ++ toString ".loop" : String) = "min.loop" := by decide
  intro k
  induction k with
  | zero =>
    intro j s vb c hk hj hst hPb hold hS hR
    have hin : j + 1 = n := by omega
    refine codeAny_builtin F.entry_min_loop ?_
    rw [Around.under_plainId F.plain_min_loop _]
    show wpAny _ A.in1 (seqItems? (.ref S) >>= _) _ _ s
    refine wpAny_bind (wpAny_seqItems hS rfl ?_)
    show wpAny _ A.in1 (tryCatch (pyNext (.ref I)) _ >>= _) _ _ s
    refine wpAny_bind (wpAny_tryCatch (W.done s _ _ (hin ▸ hst) fun h' tk hk' => ?_))
    have hS' := hk' S _ hSw hS
    show wpAny _ A.in1 (updateSeq S (fun _ => #[]) >>= _) _ _ _
    refine wpAny_bind ?_
    refine wpAny_updateSeq hS' rfl (wpAny_bind (wpAny_letGo (wpAny_pure ?_)))
    refine hR vb _ tk (by rw [← hin]; exact hPb) fun b o hbw hbS e => (Heap.get?_update_other _ _ (Ne.symm hbS)).trans (hk' b o hbw e)
  | succ k ih =>
    intro j s vb c hk hj hst hPb hold hS hR
    have hlt : j + 1 < n := by omega
    refine codeAny_builtin F.entry_min_loop ?_
    rw [Around.under_plainId F.plain_min_loop _]
    show wpAny _ A.in1 (seqItems? (.ref S) >>= _) _ _ s
    refine wpAny_bind (wpAny_seqItems hS rfl ?_)
    show wpAny _ A.in1 (tryCatch (pyNext (.ref I)) _ >>= _) _ _ s
    refine wpAny_bind (wpAny_tryCatch (W.item (j + 1) s _ _ hlt hst fun v h' tk hP hst' hk' => ?_))
    have hS' := hk' S _ hSw hS
    have hold' : ∀ b o, H0.get? b = some o → h'.get? b = some o := fun b o e => hk' b o (fun q => by rw [hI0 b q] at e; cases e) (hold b o e)
    show wpAny _ A.in1 (tryCatch (holding [v, v] (richCompare .Lt v vb >>= _)) _ >>= _) _ _ _
    refine wpAny_bind (wpAny_tryCatch (wpAny_holding (wpAny_bind (hcmp (j + 1) (argBest bt j) v vb ⟨h', s.gens, s.drawn, tk, s.os⟩ hP hPb hold' prog w _ _ ?_))))
    refine wpAny_bind (wpAny_holding (wpAny_truthy_bool ?_))
    refine wpAny_bind (wpAny_letGo (wpAny_pure ?_))
    cases hb : bt (j + 1) (argBest bt j) with
    | true =>
      simp only [if_true]
      refine wpAny_bind ?_
      refine wpAny_updateSeq hS' rfl (wpAny_bind (wpAny_letGo ?_))
      rw [hname]
      refine wpAny_pure ⟨plainId_quiet F.plain_min_loop _, ih (j + 1) _ v _ (by omega) hlt (W.frame _ _ _ hst' fun b hbf o e => ?_) (by simp only [argBest, hb, if_true]; exact hP) (fun b o e => ?_) (Heap.get?_update_self _ hS' rfl)
        fun v' h'' tk'' hP' hk'' => ?_⟩
      · exact (Heap.get?_update_other _ _ (fun h : S = b => hSf (by rw [h]; exact hbf))).trans e
      · exact (Heap.get?_update_other _ _ (fun h : S = b => by rw [← h, hS0] at e; cases e)).trans (hold' b o e)
      · exact hR v' h'' tk'' hP' fun b o hbw hbS e => hk'' b o hbw hbS ((Heap.get?_update_other _ _ (Ne.symm hbS)).trans (hk' b o hbw e))
    | false =>
      simp only [Bool.false_eq_true, if_false]
      refine wpAny_bind (wpAny_letGo ?_)
      rw [hname]
      refine wpAny_pure ⟨plainId_quiet F.plain_min_loop _, ih (j + 1) _ vb c (by omega) hlt hst' (by simp only [argBest, hb, Bool.false_eq_true, if_false]; exact hPb) hold' hS' fun v' h'' tk'' hP' hk'' => ?_⟩
      exact hR v' h'' tk'' hP' fun b o hbw hbS e => hk'' b o hbw hbS (hk' b o hbw e)

theorem min_first_at (W : Walks prog w A.in1 I fp wr n P Sw) (bt : Nat → Nat → Bool) (S : Addr) (hSf : S ∉ fp) (H0 : Heap) (hI0 : ∀ b ∈ wr, H0.get? b = none) (hS0 : H0.get? S = none)
    (hcmp : ∀ i j vi vj (s' : Shared), P i vi → P j vj → (∀ b o, H0.get? b = some o → s'.heap.get? b = some o) → LtAt A.in1 s' vi vj (bt i j)) (hn : 0 < n) {s : Shared} {c : Nat} (hst : Sw 0 s.heap) (hold : ∀ b o, H0.get? b = some o → s.heap.get? b = some o)
    (hS : s.heap.get? S = some { cls := .type "list", dict := none, data := .seq #[] c, slots := #[] })
    (hR : ∀ v h' tk, P (argBest bt (n - 1)) v → (∀ b o, b ∉ wr → b ≠ S → s.heap.get? b = some o → h'.get? b = some o) → R (.ok (.ret v)) { s with heap := h', toks := tk }) :
    codeAny (model prog w) A (.builtin "min.loop" ⟨[.ref I, .none, .ref S], []⟩) R s := by
  have hSw : S ∉ wr := fun h => hSf (W.sub _ h)
  have hname : (toString "min" ++ toString ".loop" : String) = "min.loop" := by decide
  refine codeAny_builtin F.entry_min_loop ?_
  rw [Around.under_plainId F.plain_min_loop _]
  show wpAny _ A.in1 (seqItems? (.ref S) >>= _) _ _ s
  refine wpAny_bind (wpAny_seqItems hS rfl ?_)
  show wpAny _ A.in1 (tryCatch (pyNext (.ref I)) _ >>= _) _ _ s
  refine wpAny_bind (wpAny_tryCatch (W.item 0 s _ _ hn hst fun v h' tk hP hst' hk' => ?_))
  have hS' := hk' S _ hSw hS
  have hold' : ∀ b o, H0.get? b = some o → h'.get? b = some o := fun b o e => hk' b o (fun q => by rw [hI0 b q] at e; cases e) (hold b o e)
  show wpAny _ A.in1 (updateSeq S (fun _ => #[v, v]) >>= _) _ _ _
  refine wpAny_bind ?_
  refine wpAny_updateSeq hS' rfl ?_
  rw [hname]
  refine wpAny_pure ⟨plainId_quiet F.plain_min_loop _, min_loop_at W bt S hSf H0 hI0 hS0 hcmp _ 0 _ v _ rfl hn (W.frame _ _ _ hst' fun b hbf o e => ?_) hP (fun b o e => ?_) (Heap.get?_update_self _ hS' rfl) fun v' h'' tk'' hP' hk'' => ?_⟩
  · exact (Heap.get?_update_other _ _ (fun h : S = b => hSf (by rw [h]; exact hbf))).trans e
  · exact (Heap.get?_update_other _ _ (fun h : S = b => by rw [← h, hS0] at e; cases e)).trans (hold' b o e)
  · exact hR v' h'' tk'' hP' fun b o hbw hbS e => hk'' b o hbw hbS ((Heap.get?_update_other _ _ (Ne.symm hbS)).trans (hk' b o hbw e))
end

theorem call_min_list {prog : Program} {w : World} {A : Around} {E : Value → Shared → Prop} {s : Shared} {l : Addr} {vs : Array Value} (bt : Nat → Nat → Bool) {Q : Value → Shared → Prop} (hh : A.handled = none) (hl : s.heap.IsList l vs) (hn : 0 < vs.size)
    (hcmp : ∀ (i j : Nat) vi vj (s' : Shared), vs[i]? = some vi → vs[j]? = some vj → (∀ b o, s.heap.get? b = some o → s'.heap.get? b = some o) → LtAt A.in1 s' vi vj (bt i j))
    (hQ : ∀ v h' tk, vs[argBest bt (vs.size - 1)]? = some v → (∀ b o, s.heap.get? b = some o → h'.get? b = some o) → Q v { s with heap := h', toks := tk }) :
    wpAny (model prog w) A (call (.builtin "min") [.ref l]) Q E s := by
  have hname : (toString "min" ++ toString ".loop" : String) = "min.loop" := by decide
  refine call_function_tree F.kind_min F.plain_min F.entry_min (F.args_min1 _) ?_
  show wpAny _ A.in1 (Builtin.Builtins.bindParams "min" ["key", "default"] 0 ⟨[], []⟩ >>= _) _ _ s
  refine wpAny_bind (wpAny_of_eq (show Builtin.Builtins.bindParams "min" ["key", "default"] 0 ⟨[], []⟩ = pure [none, none] from rfl) ?_)
  refine wpAny_bind (wpAny_pure ?_)
  refine wpAny_bind (wpAny_pyIter_list hl ?_)
  refine wpAny_bind (wpAny_newObj_type ?_)
  obtain ⟨ol, hol, _⟩ := id hl
  have hlt : l < s.heap.objs.size := Heap.lt_size hol
  have hne : l ≠ s.heap.objs.size := Nat.ne_of_lt hlt
  have W := Walks.list (prog := prog) (w := w) (A := A.in1) hh s.heap.objs.size l hne vs
  have none_at : ∀ b, s.heap.objs.size ≤ b → s.heap.get? b = none := fun b hb => by
    cases q : s.heap.get? b with
    | none => rfl
    | some o => exact absurd (Heap.lt_size q) (Nat.not_lt.mpr hb)
  dsimp only
  generalize hH : s.heap.push { cls := Value.type "list_iterator", dict := none, data := Data.fields #[Value.ref l, Value.int 0 0] } = H1
  have hH1 : H1.objs.size = s.heap.objs.size + 1 := by rw [← hH, Heap.size_push]
  have k1 : ∀ b o, s.heap.get? b = some o → H1.get? b = some o := fun b o e => hH ▸ Heap.get?_push_of_some _ e
  have kI : H1.get? s.heap.objs.size = some { cls := Value.type "list_iterator", dict := none, data := Data.fields #[Value.ref l, Value.int 0 0] } := by rw [← hH]; exact Heap.get?_push_size _ rfl
  have hle : s.heap.objs.size ≤ H1.objs.size := by rw [hH1]; exact Nat.le_succ _
  have hSf : H1.objs.size ∉ [s.heap.objs.size, l] := by
    intro hm
    rcases List.mem_cons.mp hm with q | q
    · rw [hH1] at q; exact Nat.succ_ne_self _ q
    · have := List.mem_singleton.mp q
      rw [← this] at hlt
      exact Nat.lt_irrefl _ (Nat.lt_of_lt_of_le hlt hle)
  rw [hname]
  refine wpAny_pure ⟨plainId_quiet F.plain_min_loop _, min_first_at W bt H1.objs.size hSf s.heap (fun b hb => none_at b (Nat.le_of_eq (List.mem_singleton.mp hb).symm)) (none_at _ hle) hcmp hn
    ⟨⟨_, Heap.get?_push_of_some _ kI, rfl, rfl⟩, hl.at fun o e => Heap.get?_push_of_some _ (k1 _ _ e)⟩ (fun b o e => Heap.get?_push_of_some _ (k1 _ _ e)) (Heap.get?_push_size _ rfl) fun v h' tk hP hk => ?_⟩
  refine hQ v h' tk hP fun b o e => hk b o ?_ ?_ (Heap.get?_push_of_some _ (k1 _ _ e))
  · intro q
    have := Heap.lt_size e
    rw [List.mem_singleton.mp q] at this
    exact Nat.lt_irrefl _ this
  · intro q
    have := Heap.lt_size e
    rw [q] at this
    exact Nat.lt_irrefl _ (Nat.lt_of_lt_of_le this hle)
end Mine
end
section
open PySem PySem.W PyProof.Rows PySem.Calls
set_option autoImplicit false
set_option linter.unusedVariables false
namespace Mine

theorem slice_clip {l : List Nat} {a b : Nat} (hab : a ≤ b) (ha : a ≤ l.length) : Txt.slice (mk l) (some (a : Int)) (some (b : Int)) = mk ((l.drop a).take (b - a)) := by
  by_cases hb : b ≤ l.length
  · exact slice_mid hab hb
  · have e : Txt.slice (mk l) (some (a : Int)) (some (b : Int)) = Txt.slice (mk l) (some (a : Int)) (some (l.length : Int)) := by
      rw [slice_eq, slice_eq]
      have e1 : Builtin.Str.strSliceIndices (some (a : Int)) (some (b : Int)) 1 (mk l).length = Builtin.Str.strSliceIndices (some (a : Int)) (some (l.length : Int)) 1 (mk l).length := by
        simp only [Builtin.Str.strSliceIndices, mk_length]
        have n1 : ¬ ((b : Int) < 0) := by omega
        have n2 : ¬ ((l.length : Int) < 0) := by omega
        have e2 : max (0 : Int) (min (b : Int) (l.length : Int)) = max (0 : Int) (min (l.length : Int) (l.length : Int)) := by omega
        simp [n1, n2, e2]
      unfold StrLaws.sliceText
      rw [e1]
    rw [e, slice_mid ha (Nat.le_refl _), List.take_of_length_le (by simp), List.take_of_length_le (by simp; omega)]

section
variable {G : GC} {c : Act G} {σ : Sto} {O F : Led} {s : Shared}

theorem clip_ {value : Expr} {lo hi : Expr} {p pos : Pos} {l : List Nat} {a b : Nat} (ho : Evp c σ O F value (.s l)) (hlo : Evp c σ O F lo (.int (a : Int))) (hhi : Evp c σ O F hi (.int (b : Int))) (hab : a ≤ b) (ha : a ≤ l.length) (hx : l.length ≤ 1048576) :
    Evp c σ O F (.Subscript value (.Slice (some lo) (some hi) none p) pos) (.s ((l.drop a).take (b - a))) :=
  ev_eq (ev_strslice (some (a : Int)) (some (b : Int)) ho (part_some hlo) (part_some hhi) (by rw [mk_length]; exact hx)) (by rw [slice_clip hab ha])

/-- what was frozen on the way is forgotten -/
theorem TF.dropN (H : Own c) {t : Sem Flow} {P : FPost} (h : TF c σ O F t fun pf σ' O' N => P pf σ' O' []) : TF c σ O F t P := by
  intro s Q S k
  refine h s Q S ?_
  rintro fl σ' O' N hh tk ⟨pf, hp, ip⟩ S' ht
  exact k fl σ' O' [] hh tk ⟨pf, hp, ip⟩ (S'.shrink H (List.sublist_append_right _ _)) ht
theorem TV.dropN (H : Own c) {t : Sem Value} {R : VPost} (h : TV c σ O F t fun pv O' N => R pv O' []) : TV c σ O F t R := by
  intro s Q S k
  refine h s Q S ?_
  rintro v σ' O' N hh tk ⟨e, pv, hp, ip⟩ S' ht
  exact k v σ' O' [] hh tk ⟨e, pv, hp, ip⟩ (S'.shrink H (List.sublist_append_right _ _)) ht
theorem TV.drop {t : Sem Value} {R : VPost} (h : TV c σ O F t fun pv O' N => ∃ O'' : Led, O''.Sublist O' ∧ R pv O'' N) : TV c σ O F t R := by
  intro s Q S k
  refine h s Q S ?_
  rintro v σ' O' N hh tk ⟨e, pv, ⟨O'', hs, hp⟩, ip⟩ S' ht
  exact k v σ' O'' N hh tk ⟨e, pv, hp, ip⟩ (S'.drop hs) ht

/-- [e], e any expression -/
theorem ev_list1 {e : Expr} {pos : Pos} {R : VPost} (he : Ev c σ O F e fun pv O1 N1 => ∀ a o, ListO [pv] o → R (.ref a) ((a, o) :: O1) N1)
    (hst : ∀ env, starEach [e] env = [(false, eval e env)] := by intro _; rfl) : Ev c σ O F (.List [e] pos) R :=
  TG.of (TA.bindG (R := fun pvs O1 N1 => ∃ pv, pvs = [pv] ∧ ∀ a o, ListO [pv] o → R (.ref a) ((a, o) :: O1) N1) (T2 := fun vs Q s => wpAny G.M c.A (newList vs) Q NoE s)
    (ta_cons (TV.mono he fun pv O1 N1 h => ta_nil ⟨pv, rfl, by simpa using h⟩) hst) fun vs pvs O1 N1 ⟨pv, e1, hR⟩ i => by
    subst e1
    exact TG.mono (new_list i (by rw [← i.length]; simp [sizeLine_eq])) fun v σ' O' N ⟨e, pv', ⟨a, o, e1, e2, e3, e4⟩, iv⟩ => ⟨e, pv', by subst e1 e3 e4; exact hR a o e2, iv⟩) fun Q s h => List_ h

/-- list + list -/
theorem op_addlist {a b : Addr} {oa ob : Obj} {xs ys : List PV} (ma : (a, oa) ∈ O ++ F) (mb : (b, ob) ∈ O ++ F) (ha : ListO xs oa) (hb : ListO ys ob) (hsz : xs.length + ys.length ≤ 1048576) :
    TV c σ O F (binaryOp .Add (.ref a) (.ref b)) fun pv O1 N1 => ∃ d od, pv = .ref d ∧ ListO (xs ++ ys) od ∧ O1 = (d, od) :: O ∧ N1 = [] := by
  intro s Q S k
  have ga := S.get ma
  have gb := S.get mb
  obtain ⟨vs, n, rfl, ia⟩ := ha
  obtain ⟨ws, n2, rfl, ib⟩ := hb
  have e1 : vs.size = xs.length := by rw [ia.length]; simp
  have e2 : ws.size = ys.length := by rw [ib.length]; simp
  refine concat_meets ⟨_, ga, rfl⟩ ⟨_, gb, rfl⟩ noFill_list_add seq_list_add PySem.F.slot_list_add PySem.F.entry_list_add (PySem.F.args_list_add_2 _ _) (list_addW a b vs ws n n2 none none #[] #[] (by rw [sizeLine_eq]; omega)) ⟨ga, gb, ?_⟩
  exact k (.ref s.heap.objs.size) σ ((s.heap.objs.size, _) :: O) [] _ s.toks ⟨rfl, _, ⟨_, _, rfl, ⟨vs ++ ws, 0, rfl, by simpa using ia.append ib⟩, rfl, rfl⟩, rfl⟩ (S.push rfl) (Nat.le_refl _)
theorem ev_addlist {l r : Expr} {pos : Pos} {R : VPost}
    (hl : Ev c σ O F l fun pl O1 N1 => Ev c σ O1 (N1 ++ F) r fun pr O2 N2 => ∃ a oa b ob xs ys, pl = .ref a ∧ pr = .ref b ∧ (a, oa) ∈ O2 ++ (N2 ++ (N1 ++ F)) ∧ (b, ob) ∈ O2 ++ (N2 ++ (N1 ++ F)) ∧ ListO xs oa ∧ ListO ys ob ∧ xs.length + ys.length ≤ 1048576 ∧
      ∀ d od, ListO (xs ++ ys) od → R (.ref d) ((d, od) :: O2) (N2 ++ N1)) : Ev c σ O F (.BinOp l .Add r pos) R :=
  TG.of (TV.bindG (T2 := fun vl (Q : Value → Shared → Prop) s1 => wpAny G.M c.A (eval r c.env) (fun vr s2 => wpAny G.M c.A (binaryOp .Add vl vr) Q NoE s2) NoE s1) hl fun vl pl O1 N1 h il =>
    TV.bindG (T2 := fun vr (Q : Value → Shared → Prop) s2 => wpAny G.M c.A (binaryOp .Add vl vr) Q NoE s2) h fun vr pr O2 N2 ⟨a, oa, b, ob, xs, ys, e1, e2, ma, mb, ha, hb, hsz, hR⟩ ir => by
      subst e1 e2
      cases il; cases ir
      exact TV.mono (op_addlist ma mb ha hb hsz) fun pv O3 N3 ⟨d, od, e1, e2, e3, e4⟩ => by subst e1 e3 e4; simpa using hR d od e2) fun Q s h => wpAny_BinOp h

/-- xs[-1] -/
theorem ev_listlast {value slice : Expr} {pos : Pos} {a : Addr} {o : Obj} {xs : List PV} {pv : PV} (ho : Evp c σ O F value (.ref a)) (hi : Evp c σ O F slice (.int (-1))) (hm : (a, o) ∈ O ++ F) (hl : ListO (xs ++ [pv]) o)
    (hsz : xs.length ≤ 1048576)
    (hs : ∀ o i, subscripted slice false o i = operate [o, i] (getItem o i) := by intro _ _; rfl) : Evp c σ O F (.Subscript value slice pos) pv :=
  ev_item ho hi fun vo vi e1 ⟨u, e2⟩ => by
    cases e1; subst e2
    exact TV.pure fun s Q S k => by
      obtain ⟨vs, q1, q2⟩ := S.isList hm hl
      obtain ⟨v, hv, iv⟩ := q2.get (i := xs.length) (a := pv) (by simp)
      have e3 : vs.size = xs.length + 1 := by have := q2.length; simp at this; omega
      refine tail_any q1.typeIs slot_list_getitem.lookup (wpAny_getItem_list_neg q1 (by decide) (by omega) (by decide) (x := v) ?_ (k v s.heap s.toks iv fun _ _ e => e)) (hs _ _)
      have : ((-1 : Int) + (vs.size : Int)).toNat = xs.length := by omega
      rw [this]; simpa using hv

/-- xs.append(e), e any expression -/
theorem ev_append2 {lo e : Expr} {apos pos : Pos} {a : Addr} {o : Obj} {xs : List PV} {R : VPost} (hlo : Evp c σ ((a, o) :: O) F lo (.ref a))
    (he : Ev c σ ((a, o) :: O) F e fun pv O1 N1 => ∃ O2 : Led, O1.Perm ((a, o) :: O2) ∧ ∀ o', ListO (xs ++ [pv]) o' → R .none ((a, o') :: O2) N1) (hl : ListO xs o) (hsz : xs.length ≤ 1048576)
    (hbase : attributeBase lo (Str.ofString "append") c.env (eval lo c.env) = eval lo c.env := by rfl) (hline : (apos.endLine == pos.line) = true := by rfl)
    (hst : ∀ env, starEach [e] env = [(false, eval e env)] := by intro _; rfl) :
    Ev c σ ((a, o) :: O) F (.Call (.Attribute lo (Str.ofString "append") apos) [e] [] pos) R := by
  refine meth_list hlo (List.mem_append_left _ (.head _)) hl PySem.F.slot_list_append rfl hbase (by rw [hst]; rfl) hline ?_
  refine TG.of (TA.bindG (R := fun pvs O1 N1 => ∃ pv, pvs = [pv] ∧ ∃ O2 : Led, O1.Perm ((a, o) :: O2) ∧ ∀ o', ListO (xs ++ [pv]) o' → R .none ((a, o') :: O2) N1)
    (T2 := fun vs (Q : Value → Shared → Prop) s1 => wpAny G.M c.A (call (.builtin "list.append") ([.ref a] ++ vs)) Q NoE s1) (ta_cons (TV.mono he fun pv O1 N1 ⟨O2, h1, h2⟩ => ta_nil ⟨pv, rfl, O2, h1, by simpa using h2⟩) hst) fun vs pvs O1 N1 ⟨pv, e1, O2, hp, hR⟩ i => ?_) fun Q s h => callWith_method1 h (hst _)
  subst e1
  obtain ⟨v, rfl, iv⟩ := i.one
  refine TG.permO hp ?_
  intro s Q S k
  obtain ⟨vs, n, rfl, ia⟩ := hl
  have e3 : vs.size = xs.length := by rw [ia.length]; simp
  refine append_at (S.get (List.mem_append_left _ (.head _))) (fun h' hs ho => ?_) (by rw [sizeLine_eq]; omega)
  exact k .none σ _ [] h' s.toks ⟨rfl, .none, by simpa using hR _ ⟨_, _, rfl, by simpa using ia.append (.cons iv .nil)⟩, rfl⟩ (S.setHead hs ho (Nat.le_refl _)) (Nat.le_refl _)

/-! ### pairs -/
abbrev En := Int × List Nat
def TList (es : List En) (L : Led) (o : Obj) : Prop := ∃ as : List Addr, ListO (as.map .ref) o ∧ All2 (fun (e : En) a => ∃ ob, (a, ob) ∈ L ∧ TupO [.int e.1, .s e.2] ob) es as
theorem All2.mono {α β : Type} {R R' : α → β → Prop} {as : List α} {bs : List β} (h : All2 R as bs) (hR : ∀ a b, R a b → R' a b) : All2 R' as bs := by
  induction h with
  | nil => exact .nil
  | cons h1 _ ih => exact .cons (hR _ _ h1) ih
theorem TList.mono {es : List En} {L L' : Led} {o : Obj} (h : TList es L o) (hs : ∀ p ∈ L, p ∈ L') : TList es L' o :=
  let ⟨as, h1, h2⟩ := h; ⟨as, h1, h2.mono fun e a ⟨ob, h3, h4⟩ => ⟨ob, hs _ h3, h4⟩⟩

theorem All2.snoc {α β : Type} {R : α → β → Prop} {as : List α} {a : α} : ∀ {bs : List β}, All2 R (as ++ [a]) bs → ∃ bs' b, bs = bs' ++ [b] ∧ All2 R as bs' ∧ R a b := by
  induction as with
  | nil => intro bs h; obtain ⟨b, rfl, h1⟩ := All2.one h; exact ⟨[], b, rfl, .nil, h1⟩
  | cons x as ih =>
    intro bs h
    cases h with
    | cons h1 h2 => obtain ⟨bs', b, rfl, h3, h4⟩ := ih h2; exact ⟨_ :: bs', b, rfl, .cons h1 h3, h4⟩
theorem TList.last {es : List En} {e : En} {L : Led} {o : Obj} (h : TList (es ++ [e]) L o) : ∃ (xs : List PV) (a : Addr) (ob : Obj), ListO (xs ++ [.ref a]) o ∧ xs.length = es.length ∧ (a, ob) ∈ L ∧ TupO [.int e.1, .s e.2] ob := by
  obtain ⟨as, h1, h2⟩ := h
  obtain ⟨as', a, rfl, h3, ob, h4, h5⟩ := h2.snoc
  exact ⟨as'.map .ref, a, ob, by simpa using h1, by simpa using h3.length.symm, h4, h5⟩
theorem TList.get {es : List En} {e : En} {L : Led} {o : Obj} (h : TList es L o) {i : Nat} (hi : es[i]? = some e) : ∃ (xs : List PV) (a : Addr) (ob : Obj), ListO xs o ∧ xs.length = es.length ∧ xs[i]? = some (.ref a) ∧ (a, ob) ∈ L ∧ TupO [.int e.1, .s e.2] ob := by
  obtain ⟨as, h1, h2⟩ := h
  obtain ⟨a, h3, ob, h4, h5⟩ := h2.get hi
  exact ⟨as.map .ref, a, ob, h1, by simpa using h2.length.symm, by simp [h3], h4, h5⟩
theorem TList.len {es : List En} {L : Led} {o : Obj} (h : TList es L o) : ∃ xs : List PV, ListO xs o ∧ xs.length = es.length := let ⟨as, h1, h2⟩ := h; ⟨as.map .ref, h1, by simpa using h2.length.symm⟩
theorem TList.list {es : List En} {L : Led} {o : Obj} (h : TList es L o) : ∃ as : List Addr, ListO (as.map .ref) o ∧ as.length = es.length ∧ ∀ (L' : Led) (a : Addr) (ob : Obj) (e : En) (o' : Obj), (∀ p ∈ L, p ∈ L') → (a, ob) ∈ L' → TupO [.int e.1, .s e.2] ob → ListO (as.map PV.ref ++ [.ref a]) o' → TList (es ++ [e]) L' o' := by
  obtain ⟨as, h1, h2⟩ := h
  exact ⟨as, h1, h2.length.symm, fun L' a ob e o' hs hm ht hl => ⟨as ++ [a], by simpa using hl, (h2.mono fun e a ⟨ob, h3, h4⟩ => ⟨ob, hs _ h3, h4⟩).append (.cons ⟨ob, hm, ht⟩ .nil)⟩⟩
theorem TList.one {e : En} {L : Led} {a : Addr} {ob o : Obj} (hl : ListO [.ref a] o) (hm : (a, ob) ∈ L) (ht : TupO [.int e.1, .s e.2] ob) : TList [e] L o := ⟨[a], hl, .cons ⟨ob, hm, ht⟩ .nil⟩
theorem TList.nil {L : Led} {o : Obj} (hl : ListO [] o) : TList [] L o := ⟨[], hl, .nil⟩

def ltE (x y : En) : Bool := if x.1 == y.1 then (if x.2 == y.2 then false else decide (x.2 < y.2)) else decide (x.1 < y.1)
def minE (es : List En) : En := es.getD (argBest (fun i j => ltE (es.getD i (0, [])) (es.getD j (0, []))) (es.length - 1)) (0, [])

theorem argBest_le (bt : Nat → Nat → Bool) : ∀ k, argBest bt k ≤ k
  | 0 => Nat.le_refl _
  | k + 1 => by
    rw [argBest]
    split
    · exact Nat.le_refl _
    · exact Nat.le_succ_of_le (argBest_le bt k)

theorem bi_minE {l : Addr} {o : Obj} {es : List En} {Lt : Led} (hm : (l, o) ∈ O ++ F) (hl : TList es Lt o) (hLt : ∀ p ∈ Lt, p ∈ O ++ F) (hne : es ≠ []) (hu : Room c 0 1) :
    TV c σ O F (call (.builtin "min") [.ref l]) fun pv O' N => O' = O ∧ N = [] ∧ ∃ a ob, pv = .ref a ∧ (a, ob) ∈ Lt ∧ TupO [.int (minE es).1, .s (minE es).2] ob := by
  obtain ⟨as, h1, h2⟩ := hl
  have hlen : as.length = es.length := h2.length.symm
  have hpos : 0 < es.length := List.length_pos_iff.mpr hne
  let bt : Nat → Nat → Bool := fun i j => ltE (es.getD i (0, [])) (es.getD j (0, []))
  have hb : argBest bt (es.length - 1) < es.length := Nat.lt_of_le_of_lt (argBest_le _ _) (by omega)
  obtain ⟨a, ha, ob, hob, htu⟩ := h2.get (i := argBest bt (es.length - 1)) (a := minE es) (by
    show es[argBest bt (es.length - 1)]? = some (es.getD (argBest bt (es.length - 1)) (0, []))
    rw [List.getD_eq_getElem?_getD, List.getElem?_eq_getElem hb]; rfl)
  refine TV.mono (TV.pure fun s Q S k => ?_ : TVp c σ O F (call (.builtin "min") [.ref l]) (.ref a)) fun pv O' N ⟨e1, e2, e3⟩ => ⟨e2, e3, a, ob, e1, hob, htu⟩
  obtain ⟨vs, q1, q2⟩ := S.isList hm h1
  have hvs : vs.size = es.length := by have := q2.length; simp at this; omega
  have hvi : ∀ (i : Nat) v, vs[i]? = some v → ∃ t, i < es.length ∧ ∃ obt, v = .ref t ∧ s.heap.get? t = some obt ∧ TupO [.int (es.getD i (0, [])).1, .s (es.getD i (0, [])).2] obt := by
    intro i v hv
    have hi : i < es.length := by rw [← hvs]; exact (Array.getElem?_eq_some_iff.mp hv).1
    obtain ⟨t, ht, obt, hm', ht'⟩ := h2.get (i := i) (a := es.getD i (0, [])) (by rw [List.getD_eq_getElem?_getD, List.getElem?_eq_getElem hi]; rfl)
    obtain ⟨v', hv', iv'⟩ := q2.get (i := i) (a := .ref t) (by rw [List.getElem?_map, ht]; rfl)
    have : v' = v := by
      have q : vs[i]? = some v' := by simpa using hv'
      rw [q] at hv; exact Option.some.inj hv
    subst this
    exact ⟨t, hi, obt, iv', S.get (hLt _ hm'), ht'⟩
  refine call_min_list bt c.hhan q1 (by omega) (fun i j vi vj s' h1 h2 hk => ?_) fun v h' tk hv hk => ?_
  · obtain ⟨t1, hi, ob1, rfl, g1, ⟨w1, rfl, a1⟩⟩ := hvi i vi h1
    obtain ⟨t2, hj, ob2, rfl, g2, ⟨w2, rfl, a2⟩⟩ := hvi j vj h2
    obtain ⟨x1, y1, e1, i1, i2⟩ := a1.two
    obtain ⟨x2, y2, e2, i3, i4⟩ := a2.two
    obtain ⟨u1, rfl⟩ := i1; obtain ⟨u2, rfl⟩ := i2; obtain ⟨u3, rfl⟩ := i3; obtain ⟨u4, rfl⟩ := i4
    have f1 : w1 = #[Value.int (es.getD i (0, [])).1 u1, Value.str (mk (es.getD i (0, [])).2) u2] := by rw [← e1]
    have f2 : w2 = #[Value.int (es.getD j (0, [])).1 u3, Value.str (mk (es.getD j (0, [])).2) u4] := by rw [← e2]
    subst f1 f2
    have := LtAt.tup2 (A := c.A.in1) (s := s') (l := t1) (b := t2) ⟨_, hk _ _ g1, rfl, _, rfl⟩ ⟨_, hk _ _ g2, rfl, _, rfl⟩ (by have := hu.2; exact this) (PySem.SeqAt.EqAt.int_int _ _ _ _) ((SeqRoads2.EqGives.str _ _ _ _).at _ _) (LtAt.int _ _ _ _) (LtAt.str _ _ _ _)
    have e3 : bt i j = (if ((es.getD i (0, [])).1 == (es.getD j (0, [])).1) = true then if ((mk (es.getD i (0, [])).2).cps.toList == (mk (es.getD j (0, [])).2).cps.toList) = true then false else decide ((mk (es.getD i (0, [])).2).cps.toList < (mk (es.getD j (0, [])).2).cps.toList) else decide ((es.getD i (0, [])).1 < (es.getD j (0, [])).1)) := by
      simp only [mk_cps]; rfl
    rw [e3]
    exact this
  · rw [hvs] at hv
    obtain ⟨v', hv', iv'⟩ := q2.get (i := argBest bt (es.length - 1)) (a := .ref a) (by rw [List.getElem?_map, ha]; rfl)
    have : v' = v := by
      have q : vs[argBest bt (es.length - 1)]? = some v' := by simpa using hv'
      rw [q] at hv; exact Option.some.inj hv
    subst this
    exact k v' h' tk iv' hk

theorem range_down {n : Nat} (h : n ≤ 1000000) : Builtin.Range.small (n : Int) (-1) (-1) = true ∧ Builtin.Range.rangeSize (n : Int) (-1) (-1) = ((n + 1 : Nat) : Int) := by
  have e : Builtin.Range.rangeSize (n : Int) (-1) (-1) = ((n + 1 : Nat) : Int) := by
    unfold Builtin.Range.rangeSize
    rw [if_neg (by decide)]
    have e1 : ((n : Int) - -1 - 1) / - -1 = (n : Int) := by rw [show (- -1 : Int) = 1 by decide, Int.ediv_one]; omega
    have e2 : ((n : Int) - (-1) + (-1) + 1) = (n : Int) + 1 := by omega
    rw [e1]
    split <;> (try split) <;> omega
  refine ⟨?_, e⟩
  unfold Builtin.Range.small Builtin.Range.rangeFitsLong
  rw [e]
  simp only [Bool.and_eq_true, Bool.or_eq_true, decide_eq_true_eq, beq_iff_eq]
  refine ⟨⟨⟨⟨by omega, by omega⟩, by omega⟩, by omega⟩, .inr ?_⟩
  simp only [show ¬ ((-1 : Int) > 0) by decide, if_false, Bool.and_eq_true, decide_eq_true_eq]; omega

/-- range(e, -1, -1) -/
theorem it_rangedown {p p1 p2 p3 p4 pos : Pos} {k1 k2 : Nat} {e : Expr} {n : Nat} {I0 : Led → Led → Prop} (ns : nsIn G.K mainGlobals (Str.ofString "range") = some none) (hx : c.env.kindOf (Str.ofString "range") = some .globalImplicit)
    (he : Evp c σ O F e (.int (n : Int))) (hn : n ≤ 1000000) (h0 : I0 O []) (H : Own c)
    (hst : ∀ env, starEach [e, .UnaryOp .USub (.Constant (.int 1) k1 p1) p2, .UnaryOp .USub (.Constant (.int 1) k2 p3) p4] env = (false, eval e env) :: starEach [.UnaryOp .USub (.Constant (.int 1) k1 p1) p2, .UnaryOp .USub (.Constant (.int 1) k2 p3) p4] env := by intro _; rfl) :
    Iterates c σ O F (.Call (.Name (Str.ofString "range") p) [e, .UnaryOp .USub (.Constant (.int 1) k1 p1) p2, .UnaryOp .USub (.Constant (.int 1) k2 p3) p4] [] pos) (rangePV (n : Int) (-1) (n + 1)) I0 := by
  refine it_range (b := -1) (ev_tcall ns (by boot_fast) hx (ta_consp he (ta_consp (ev_neg ev_int) (ta_consp (ev_neg ev_int) (ta_nil fun vals hv => ?_))) hst) (he := hst)) (range_down hn).1 (range_down hn).2 h0 H
  obtain ⟨v1, v2, v3, rfl, ⟨u1, rfl⟩, ⟨u2, rfl⟩, u3, rfl⟩ := hv.three
  exact TV.mono (bi_range3 (by decide) (PyProof.noPylong_small (by decide))) fun pv O' N h => by simpa using h

theorem lens_ {names : List Str} {scope : Scope} (H : Loc c names scope) {p pos : Pos} {e : Expr} {l : List Nat} (ns : nsIn G.K mainGlobals (Str.ofString "len") = some none) (hx : scope.names.lookup (Str.ofString "len") = some .globalImplicit) (he : Evp c σ O F e (.s l)) (h : l.length ≤ 1048576)
    (hst : ∀ env, starEach [e] env = [(false, eval e env)] := by intro _; rfl) : Evp c σ O F (.Call (.Name (Str.ofString "len") p) [e] [] pos) (.int (l.length : Int)) :=
  ev_eq (len_ H ns hx he (by rw [mk_length]; exact h) hst) (by rw [mk_length])

theorem s_unpack2 {names : List Str} {scope : Scope} (H : Loc c names scope) (i j : Nat) {x y : Str} {px py tp pos : Pos} {k' : Nat} {e : Expr} {rest : List Stmt} {P : FPost} {t : Addr} {o : Obj} {u v : PV} (hx : names[i]? = some x) (hy : names[j]? = some y) (hi : i < σ.length) (hj : j < σ.length)
    (he : Evp c σ O F e (.ref t)) (ht : TupO [u, v] o) (hm : (t, o) ∈ O ++ F) (k : Ex c ((σ.set i (some u)).set j (some v)) O F rest P)
    (hs : swapsWithSole [.Tuple [.Name x px, .Name y py] k' tp] e pos.line c.env = pure false := by rfl)
    (hw : swappedStores [.Tuple [.Name x px, .Name y py] k' tp] e c.env = pure none := by rfl) :
    Ex c σ O F (.Assign [.Tuple [.Name x px, .Name y py] k' tp] e pos :: rest) P :=
  ex_cons (ex_unpack2 i j (TV.mono he fun pv O1 N1 ⟨e1, e2, e3⟩ => by
    subst e1 e2 e3
    exact ⟨t, o, u, v, rfl, ht, by simpa using hm, by simpa using k⟩) (H.name hx) (H.kind hx) (H.name hy) (H.kind hy) H.L hi hj hs hw)
end
end Mine
end
section
open PySem PySem.W PyProof.Rows PySem.Calls
set_option autoImplicit false
set_option linter.unusedVariables false
namespace Mine

def pickL {α : Type} (xs : List α) (lo hi st : Option Int) : List α :=
  (sliceRange (sliceBounds lo hi st xs.length).1 (sliceBounds lo hi st xs.length).2.1 (sliceBounds lo hi st xs.length).2.2).filterMap (xs[·]?)

theorem All2.getn {α β : Type} {R : α → β → Prop} {as : List α} {bs : List β} (h : All2 R as bs) {i : Nat} (hi : as[i]? = none) : bs[i]? = none := by
  have := h.length
  rw [List.getElem?_eq_none_iff] at hi ⊢; omega
theorem All2.picks {α β : Type} {R : α → β → Prop} {as : List α} {bs : List β} (h : All2 R as bs) : ∀ l : List Nat, All2 R (l.filterMap (as[·]?)) (l.filterMap (bs[·]?))
  | [] => .nil
  | i :: r => by
    have ih := h.picks r
    cases e : as[i]? with
    | none => simp only [List.filterMap_cons, e, h.getn e]; exact ih
    | some a => obtain ⟨b, e2, hr⟩ := h.get e; simp only [List.filterMap_cons, e, e2]; exact .cons hr ih
theorem All2.pick {xs : List PV} {vs : Array Value} (h : All2 PV.Is xs vs.toList) (lo hi st : Option Int) : All2 PV.Is (pickL xs lo hi st) (slicePick vs lo hi st).toList := by
  have e : vs.size = xs.length := by have := h.length; simp at this; omega
  unfold pickL slicePick
  rw [e]
  simpa using h.picks _
theorem pickL_map {α β : Type} (f : α → β) (xs : List α) (lo hi st : Option Int) : pickL (xs.map f) lo hi st = (pickL xs lo hi st).map f := by
  unfold pickL
  rw [List.length_map, List.map_filterMap]
  congr 1
  funext i
  simp

section
variable {G : GC} {c : Act G} {σ : Sto} {O F : Led} {s : Shared}

/-- a list that can be read from every state -/
def ListAt {G : GC} (c : Act G) (σ : Sto) (O F : Led) (l : Addr) (xs : List PV) : Prop := ∀ s, St c σ O F s → ∃ vs : Array Value, s.heap.IsList l vs ∧ All2 PV.Is xs vs.toList
theorem listAt_led {l : Addr} {o : Obj} {xs : List PV} (hm : (l, o) ∈ O ++ F) (h : ListO xs o) : ListAt c σ O F l xs := fun s S => S.isList hm h
theorem listAt_h0 {l : Addr} {vs : List Value} {xs : List PV} (h : c.h0.IsList l vs.toArray) (hx : All2 PV.Is xs vs) : ListAt c σ O F l xs := fun s S => by
  obtain ⟨⟨mf, C, h1, h2, h3, h4⟩, h5, h6, h7⟩ := S
  exact ⟨vs.toArray, h.at fun o e => h1.keep _ _ e, by simpa using hx⟩

theorem isPart_of {o : Option Int} {v : Value} (h : (partPV o).Is v) : IsPart v o := by
  cases o with
  | none => cases h; exact .none
  | some i => obtain ⟨t, rfl⟩ := h; exact .int i t

theorem get_slice {l : Addr} {xs : List PV} {vl vu vk : Value} {lo hi st : Option Int} (hL : ListAt c σ O F l xs) (hsz : xs.length ≤ 1048576) (pl : IsPart vl lo) (pu : IsPart vu hi) (pk : IsPart vk st) (h0 : st ≠ some 0) :
    TG c σ O F (fun (Q : Value → Shared → Prop) s => Shared.TypeIs (upd s (s.heap.push { cls := .type "slice", data := .fields #[vl, vu, vk] }) s.toks) (.ref l) "list" ∧
      wpAny G.M c.A (getItem (.ref l) (.ref s.heap.objs.size)) Q NoE (upd s (s.heap.push { cls := .type "slice", data := .fields #[vl, vu, vk] }) s.toks))
      (RV σ fun pv O1 N1 => ∃ d od, pv = .ref d ∧ ListO (pickL xs lo hi st) od ∧ O1 = (d, od) :: O ∧ N1 = []) := by
  intro s Q S k
  obtain ⟨vs, hl, ia⟩ := hL s S
  have e : vs.size = xs.length := by have := ia.length; simp at this; omega
  refine ⟨Heap.IsList.typeIs (s := upd s (s.heap.push { cls := .type "slice", data := .fields #[vl, vu, vk] }) s.toks) (hl.push _), ?_⟩
  refine wpAny_getItem_list_slice (s := upd s (s.heap.push { cls := .type "slice", data := .fields #[vl, vu, vk] }) s.toks) (hl.push _) (Heap.IsSliceOf.new ..) pl pu pk h0 ?_ (by rw [sizeLine_eq]; omega)
  have S1 := S.push (o := { cls := .type "slice", data := .fields #[vl, vu, vk] }) rfl
  have S2 := S1.push (o := { cls := .type "list", data := .seq (slicePick vs lo hi st) }) rfl
  exact k _ σ (((s.heap.push { cls := .type "slice", data := .fields #[vl, vu, vk] }).objs.size, _) :: O) [] _ s.toks ⟨rfl, _, ⟨_, _, rfl, ⟨_, 0, rfl, ia.pick lo hi st⟩, rfl, rfl⟩, rfl⟩ (S2.drop (List.Sublist.cons_cons _ (List.Sublist.cons _ (List.Sublist.refl _)))) (Nat.le_refl _)

theorem ev_listslice3 {value st : Expr} {lower upper : Option Expr} {p pos : Pos} {l : Addr} {xs : List PV} (lo hi : Option Int) (k : Int) (ho : Evp c σ O F value (.ref l)) (hlo : TVp c σ O F (evalPart lower c.env) (partPV lo)) (hhi : TVp c σ O F (evalPart upper c.env) (partPV hi)) (hst : Evp c σ O F st (.int k)) (hk : k ≠ 0)
    (hL : ListAt c σ O F l xs) (hsz : xs.length ≤ 1048576) (ht : ∀ o r, letTemporaryGo value o r = pure () := by intro _ _; rfl) :
    Ev c σ O F (.Subscript value (.Slice lower upper (some st) p) pos) fun pv O1 N1 => ∃ d od, pv = .ref d ∧ ListO (pickL xs lo hi (some k)) od ∧ O1 = (d, od) :: O ∧ N1 = [] := by
  refine TG.of (T := fun Q s => wpAny G.M c.A (eval value c.env) (fun o s₁ => wpAny G.M c.A (evalPart lower c.env) (fun vl s₂ => wpAny G.M c.A (evalPart upper c.env) (fun vu s₃ => wpAny G.M c.A (evalPart (some st) c.env) (fun vk s₄ =>
      Shared.TypeIs (upd s₄ (s₄.heap.push { cls := .type "slice", data := .fields #[vl, vu, vk] }) s₄.toks) o "list" ∧ wpAny G.M c.A (getItem o (.ref s₄.heap.objs.size)) Q NoE (upd s₄ (s₄.heap.push { cls := .type "slice", data := .fields #[vl, vu, vk] }) s₄.toks)) NoE s₃) NoE s₂) NoE s₁) NoE s) ?_ ?_
  · refine TV.bindp (T2 := fun o Q s₁ => wpAny G.M c.A (evalPart lower c.env) (fun vl s₂ => wpAny G.M c.A (evalPart upper c.env) (fun vu s₃ => wpAny G.M c.A (evalPart (some st) c.env) (fun vk s₄ =>
      Shared.TypeIs (upd s₄ (s₄.heap.push { cls := .type "slice", data := .fields #[vl, vu, vk] }) s₄.toks) o "list" ∧ wpAny G.M c.A (getItem o (.ref s₄.heap.objs.size)) Q NoE (upd s₄ (s₄.heap.push { cls := .type "slice", data := .fields #[vl, vu, vk] }) s₄.toks)) NoE s₃) NoE s₂) NoE s₁) ho fun vo e => ?_
    cases e
    refine TV.bindp (T2 := fun vl Q s₂ => wpAny G.M c.A (evalPart upper c.env) (fun vu s₃ => wpAny G.M c.A (evalPart (some st) c.env) (fun vk s₄ =>
      Shared.TypeIs (upd s₄ (s₄.heap.push { cls := .type "slice", data := .fields #[vl, vu, vk] }) s₄.toks) (.ref l) "list" ∧ wpAny G.M c.A (getItem (.ref l) (.ref s₄.heap.objs.size)) Q NoE (upd s₄ (s₄.heap.push { cls := .type "slice", data := .fields #[vl, vu, vk] }) s₄.toks)) NoE s₃) NoE s₂) hlo fun vl il => ?_
    refine TV.bindp (T2 := fun vu Q s₃ => wpAny G.M c.A (evalPart (some st) c.env) (fun vk s₄ =>
      Shared.TypeIs (upd s₄ (s₄.heap.push { cls := .type "slice", data := .fields #[vl, vu, vk] }) s₄.toks) (.ref l) "list" ∧ wpAny G.M c.A (getItem (.ref l) (.ref s₄.heap.objs.size)) Q NoE (upd s₄ (s₄.heap.push { cls := .type "slice", data := .fields #[vl, vu, vk] }) s₄.toks)) NoE s₃) hhi fun vu iu => ?_
    refine TV.bindp (T2 := fun vk Q s₄ =>
      Shared.TypeIs (upd s₄ (s₄.heap.push { cls := .type "slice", data := .fields #[vl, vu, vk] }) s₄.toks) (.ref l) "list" ∧ wpAny G.M c.A (getItem (.ref l) (.ref s₄.heap.objs.size)) Q NoE (upd s₄ (s₄.heap.push { cls := .type "slice", data := .fields #[vl, vu, vk] }) s₄.toks)) (part_some (o := some k) hst) fun vk ik => ?_
    exact get_slice hL hsz (isPart_of il) (isPart_of iu) (isPart_of ik) (by simpa using hk)
  · intro Q s h
    exact wpAny_Subscript_Slice_step list_getitem_lookup (wpAny_mono h (fun o s₁ h₁ => wpAny_Slice h₁) fun _ _ e => e) ht

theorem bi_sum' {l : Addr} {ns : List Int} (hL : ListAt c σ O F l (ns.map .int)) : TVp c σ O F (call (.builtin "sum") [.ref l]) (.int (preSum (fun i => ns.getD i 0) ns.length)) := by
  refine TV.pure fun s Q S k => ?_
  obtain ⟨vs, hl, ia⟩ := hL s S
  have hall : AllInts vs := by
    intro v hv
    obtain ⟨i, hi⟩ := List.getElem?_of_mem (show v ∈ vs.toList by simpa using hv)
    have hlen := ia.length
    obtain ⟨pv, hpv⟩ : ∃ pv, (ns.map PV.int)[i]? = some pv := by
      have : i < vs.toList.length := (List.getElem?_eq_some_iff.mp hi).1
      exact ⟨_, List.getElem?_eq_getElem (by omega)⟩
    obtain ⟨w, hw, iw⟩ := ia.get hpv
    rw [hi] at hw; cases hw
    rw [List.getElem?_map] at hpv
    obtain ⟨a, _, rfl⟩ := Option.map_eq_some_iff.mp hpv
    obtain ⟨t, rfl⟩ := iw
    exact ⟨a, t, rfl⟩
  obtain ⟨xs, rfl⟩ := hall.items
  refine sum_intListG c.hhan hl fun h' tk t' hk => ?_
  have hsz : xs.size = ns.length := by have := ia.length; simp [intItems] at this; omega
  have e : preSum (numAt xs) xs.size = preSum (fun i => ns.getD i 0) ns.length := by
    rw [hsz]
    have hf : numAt xs = fun i => ns.getD i 0 := by
      funext i
      by_cases hi : i < ns.length
      · obtain ⟨v, hv, t1, rfl⟩ := ia.get (i := i) (a := .int ns[i]) (by simp [hi])
        obtain ⟨t2, e2⟩ := intItems_at (xs := xs) (i := i) (v := .int ns[i] t1) (by simpa using hv)
        have e3 : ns[i] = numAt xs i := by injection e2
        rw [← e3, List.getD_eq_getElem?_getD, List.getElem?_eq_getElem hi]; rfl
      · rw [List.getD_eq_getElem?_getD, List.getElem?_eq_none (by omega)]
        unfold numAt
        rw [Array.getElem?_eq_none (by omega)]; rfl
    rw [hf]
  rw [e]
  exact k _ h' tk ⟨t', rfl⟩ hk

def sumS (ns : List Int) (a k : Int) : Int := preSum (fun i => (pickL ns (some a) none (some k)).getD i 0) (pickL ns (some a) none (some k)).length
/-- sum(value[lo::st]) of a list of ints -/
theorem ev_sumslice {names : List Str} {scope : Scope} (H : Loc c names scope) {value st lo : Expr} {p p0 pos cpos : Pos} {l : Addr} {ns : List Int} (a k : Int) (hsum : nsIn G.K mainGlobals (Str.ofString "sum") = some none) (hx : scope.names.lookup (Str.ofString "sum") = some .globalImplicit)
    (ho : Evp c σ O F value (.ref l)) (hlo : Evp c σ O F lo (.int a)) (hst : Evp c σ O F st (.int k)) (hk : k ≠ 0)
    (hL : ListAt c σ O F l (ns.map .int)) (hsz : ns.length ≤ 1048576) (ht : ∀ o r, letTemporaryGo value o r = pure () := by intro _ _; rfl) :
    Evp c σ O F (.Call (.Name (Str.ofString "sum") p0) [.Subscript value (.Slice (some lo) none (some st) p) pos] [] cpos) (.int (sumS ns a k)) := by
  have e : ∀ d od, ListO (pickL (ns.map PV.int) (some a) none (some k)) od → ListAt c σ ((d, od) :: O) F d ((pickL ns (some a) none (some k)).map .int) := fun d od h => listAt_led (List.mem_append_left _ (.head _)) (pickL_map PV.int ns _ _ _ ▸ h)
  refine TV.drop ?_
  refine ev_bcall hsum (by boot_fast) (H.glob hx) (ta_cons (TV.mono (ev_listslice3 (some a) none k ho (part_some hlo) part_none hst hk hL (by simpa using hsz) ht) ?_))
  rintro pv O1 N1 ⟨d, od, rfl, hd, rfl, rfl⟩
  refine ta_nil fun vals hv => ?_
  obtain ⟨v, rfl, iv⟩ := hv.one
  cases iv
  refine TV.mono (bi_sum' (e d od hd)) ?_
  rintro pv O' N ⟨rfl, rfl, rfl⟩
  exact ⟨O, List.Sublist.cons _ (List.Sublist.refl _), rfl, rfl, rfl⟩

/-- xs[i] for any int -/
theorem ev_listint {value slice : Expr} {pos : Pos} {a : Addr} {o : Obj} {xs : List PV} {pv : PV} {i : Int} (ho : Evp c σ O F value (.ref a)) (hi : Evp c σ O F slice (.int i)) (hm : (a, o) ∈ O ++ F) (hl : ListO xs o)
    (hx : (0 ≤ i ∧ xs[i.toNat]? = some pv) ∨ (i < 0 ∧ -(xs.length : Int) ≤ i ∧ xs[(i + xs.length).toNat]? = some pv))
    (hsz : xs.length ≤ 1048576)
    (hs : ∀ o i, subscripted slice false o i = operate [o, i] (getItem o i) := by intro _ _; rfl) : Evp c σ O F (.Subscript value slice pos) pv :=
  ev_item ho hi fun vo vi e1 ⟨u, e2⟩ => by
    cases e1; subst e2
    exact TV.pure fun s Q S k => by
      obtain ⟨vs, q1, q2⟩ := S.isList hm hl
      have e3 : vs.size = xs.length := by have := q2.length; simp at this; omega
      rcases hx with ⟨h0, hx⟩ | ⟨h0, h1, hx⟩
      · obtain ⟨v, hv, iv⟩ := q2.get hx
        have hlt := (List.getElem?_eq_some_iff.mp hx).1
        exact tail_any q1.typeIs slot_list_getitem.lookup (wpAny_getItem_list q1 h0 (by omega) (x := v) (by simpa using hv) (k v s.heap s.toks iv fun _ _ e => e)) (hs _ _)
      · obtain ⟨v, hv, iv⟩ := q2.get hx
        exact tail_any q1.typeIs slot_list_getitem.lookup (wpAny_getItem_list_neg q1 h0 (by rw [e3]; exact h1) (by omega) (x := v) (by rw [e3]; simpa using hv) (k v s.heap s.toks iv fun _ _ e => e)) (hs _ _)

theorem TB.drop {t : Sem Bool} {R : BPost} (h : TB c σ O F t fun b O' N => ∃ O'' : Led, O''.Sublist O' ∧ R b O'' N) : TB c σ O F t R := by
  intro s Q S k
  refine h s Q S ?_
  rintro v σ' O' N hh tk ⟨e, O'', hs, hp⟩ S' ht
  exact k v σ' O'' N hh tk ⟨e, hp⟩ (S'.drop hs) ht

/-- two lists of texts, the same -/
theorem cm_ne_same {a b : Addr} {oa ob : Obj} {xs : List (List Nat)} (ma : (a, oa) ∈ O ++ F) (mb : (b, ob) ∈ O ++ F) (ha : ListO (xs.map PV.s) oa) (hb : ListO (xs.map PV.s) ob) (hu : Room c 0 1) :
    TVp c σ O F (compareOp .NotEq (.ref a) (.ref b)) (.bool false) := TV.pure fun s Q S k => by
  obtain ⟨vs, q1, i1⟩ := S.isList ma ha
  obtain ⟨ws, q2, i2⟩ := S.isList mb hb
  have e1 : vs.size = xs.length := by have := i1.length; simp at this; omega
  have e2 : ws.size = xs.length := by have := i2.length; simp at this; omega
  have h := SeqAt.RcNeAt.lists (A := c.A) (e := fun _ => true) q1 q2 (by omega) (by have := hu.2; omega) (fun j h1 h2 => by
    have hj : j < xs.length := by omega
    obtain ⟨v, hv, t, rfl⟩ := i1.get (i := j) (a := PV.s xs[j]) (by rw [List.getElem?_map, List.getElem?_eq_getElem]; rfl)
    obtain ⟨w, hw, u, rfl⟩ := i2.get (i := j) (a := PV.s xs[j]) (by rw [List.getElem?_map, List.getElem?_eq_getElem]; rfl)
    have e3 : vs[j] = .str (mk xs[j]) t := by simpa [h1] using hv
    have e4 : ws[j] = .str (mk xs[j]) u := by simpa [h2] using hw
    rw [e3, e4]
    have := (MeetsSeq.EqGives.at (SeqRoads2.EqGives.str (mk xs[j]) (mk xs[j]) t u) c.A.in1 s)
    simpa using this)
  have e : (!(List.range vs.size).all fun _ => true) = false := by simp
  rw [e] at h
  exact h G.prog G.w NoE Q (k _ s.heap s.toks rfl fun _ _ e => e)

theorem ts_cmpG {l r : Expr} {op : CmpOp} {pos : Pos} {pl : PV} {R1 : VPost} {b : Bool} (hl : Evp c σ O F l pl) (hr : Ev c σ O F r R1)
    (h : ∀ vl vr pr O1 N1, pl.Is vl → pr.Is vr → R1 pr O1 N1 → O.Sublist O1 ∧ N1 = [] ∧ TVp c σ O1 F (compareOp op vl vr) (.bool b)) (hm : behindInMarks op r = false := by rfl) : Tstp c σ O F (.Compare l [op] [r] pos) b := by
  refine TB.drop (TG.of (T := fun (Q : Bool → Shared → Prop) s => wpAny G.M c.A (eval l c.env) (fun vl s1 => wpAny G.M c.A (eval r c.env) (fun vr s2 => wpAny G.M c.A (compareOp op vl vr) (fun v s3 => wpAny G.M c.A (truthy v) Q NoE s3) NoE s2) NoE s1) NoE s) ?_ fun Q s h => wpAny_isTrue_Compare1 h hm)
  refine TV.bindp (T2 := fun vl (Q : Bool → Shared → Prop) s1 => wpAny G.M c.A (eval r c.env) (fun vr s2 => wpAny G.M c.A (compareOp op vl vr) (fun v s3 => wpAny G.M c.A (truthy v) Q NoE s3) NoE s2) NoE s1) hl fun vl il => ?_
  refine TV.bindG (T2 := fun vr (Q : Bool → Shared → Prop) s2 => wpAny G.M c.A (compareOp op vl vr) (fun v s3 => wpAny G.M c.A (truthy v) Q NoE s3) NoE s2) hr fun vr pr O1 N1 h1 ir => ?_
  obtain ⟨hs, rfl, hc⟩ := h vl vr pr O1 N1 il ir h1
  refine TV.bindp (T2 := fun v (Q : Bool → Shared → Prop) s3 => wpAny G.M c.A (truthy v) Q NoE s3) (by simpa using hc) fun v e => ?_
  cases e
  exact TB.mono tr_bool fun b' O' N ⟨e1, e2, e3⟩ => ⟨O, e2 ▸ hs, e1, rfl, by simpa using e3⟩

theorem swaps_comp {e : Expr} {g : List Comprehension} {sc : Scope} {pos tp : Pos} {t : Str} {line : Nat} (hb : c.env.blockKind = .function) (hk : c.env.kindOf t = some .local) (h1 : (tp.line == pos.line) = true)
    (h2 : (sc.names.any fun (n, k) => n == t && (k == .local || k == .cell)) = false) : swapsWith (.ListComp e g sc pos) (some (.Name t tp)) line c.env = pure true := by
  show (pure (c.env.blockKind == .function && c.env.kindOf t == some .local && tp.line == pos.line && !(sc.names.any fun (n, k) => n == t && (k == .local || k == .cell))) : Sem Bool) = pure true
  rw [hb, hk, h1, h2]; rfl
end
end Mine
end
section
open PySem PySem.W PyProof.Rows PySem.Calls
set_option autoImplicit false
set_option linter.unusedVariables false
namespace Mine

/-! what _levenshtein_distance reckons, in plain words -/
def costN (x y : Nat) : Int := if (x == y) = true then 0 else if (Txt.lower (mk [x]) == Txt.lower (mk [y])) = true then 1 else 2

def comPre : List Nat → List Nat → Nat
  | x :: xs, y :: ys => if x = y then comPre xs ys + 1 else 0
  | _, _ => 0

def pmin (a b : Int) : Int := if b < a then b else a

structure InS where
  acc : List Int
  dist : Int
  res : Int
  mn : Int

def stepI (bc : Nat) (st : InS) (p : Nat × Int) : InS :=
  let r := pmin (pmin st.res p.2 + 2) (st.dist + costN bc p.1)
  ⟨st.acc ++ [r], p.2, r, if r < st.mn then r else st.mn⟩

def innerF (bc : Nat) (a : List Nat) (row : List Int) (d : Int) : InS := (a.zip row).foldl (stepI bc) ⟨[], d, d, 9223372036854775807⟩

def outerF (a : List Nat) (m : Int) : List Nat → Int → List Int → Int → Int
  | [], _, _, res => res
  | bc :: bs, i, row, res =>
    let st := innerF bc a row (i * 2)
    if m < st.mn then m + 1 else outerF a m bs (i + 1) st.acc st.res

def row0 (n : Nat) : List Int := (List.range n).map fun k : Nat => 2 + (k : Int) * 2

def levCore (a b : List Nat) (m : Int) : Int :=
  if ((b.length : Int) - a.length) * 2 > m then m + 1 else outerF a m b 0 (row0 a.length) 0

def trimA (a b : List Nat) : List Nat := let k := comPre a b; let a1 := a.drop k; let b1 := b.drop k; a1.take (a1.length - comPre a1.reverse b1.reverse)

def levF (a b : List Nat) (m : Int) : Int :=
  if a = b then 0 else
    let a2 := trimA a b
    let b2 := trimA b a
    if a2 = [] ∨ b2 = [] then 2 * (a2.length + b2.length)
    else if b2.length < a2.length then levCore b2 a2 m else levCore a2 b2 m

theorem comPre_le (a b : List Nat) : comPre a b ≤ a.length ∧ comPre a b ≤ b.length := by
  induction a generalizing b with
  | nil => cases b <;> simp [comPre]
  | cons x xs ih =>
    cases b with
    | nil => simp [comPre]
    | cons y ys =>
      unfold comPre
      split
      · have := ih ys; simp; omega
      · simp
theorem comPre_comm (a b : List Nat) : comPre a b = comPre b a := by
  induction a generalizing b with
  | nil => cases b <;> simp [comPre]
  | cons x xs ih =>
    cases b with
    | nil => simp [comPre]
    | cons y ys =>
      unfold comPre
      by_cases h : x = y
      · subst h; simp [ih ys]
      · rw [if_neg h, if_neg (fun e => h e.symm)]

/-- the test of the loop that looks for what begins alike -/
theorem comPre_test (a b : List Nat) {k : Nat} (hk : k ≤ comPre a b) : (k < comPre a b) ↔ (k < a.length ∧ k < b.length ∧ ∀ (h1 : k < a.length) (h2 : k < b.length), a[k] = b[k]) := by
  induction a generalizing b k with
  | nil => cases b <;> simp [comPre]
  | cons x xs ih =>
    cases b with
    | nil => simp [comPre]
    | cons y ys =>
      unfold comPre at hk ⊢
      split at hk
      · rename_i e
        rw [if_pos e]
        cases k with
        | zero => simp [e]
        | succ k => have := ih ys (k := k) (by omega); simp at this ⊢; exact this
      · rename_i e
        rw [if_neg e]
        have : k = 0 := by omega
        subst this
        simp [e]
end Mine
end
section
open PySem PySem.W PyProof.Rows PySem.Calls
set_option autoImplicit false
set_option linter.unusedVariables false
namespace Mine
def fnB (p : Program) (k : Nat) : List Stmt := match p.main.body[k]? with | some (.FunctionDef _ _ b _ _ _ _ _ _ _) => b | _ => []
def fnP (p : Program) (k : Nat) : Arguments := match p.main.body[k]? with | some (.FunctionDef _ a _ _ _ _ _ _ _ _) => a | _ => default
def fnS (p : Program) (k : Nat) : Scope := match p.main.body[k]? with | some (.FunctionDef _ _ _ _ _ _ sc _ _ _) => sc | _ => default
abbrev PP := PySem.Challenge.pw_ti0002_02

/-- the world's names that the two take -/
structure LevNames (G : GC) : Prop where
  len : nsIn G.K mainGlobals (Str.ofString "len") = some none
  list : nsIn G.K mainGlobals (Str.ofString "list") = some none
  range : nsIn G.K mainGlobals (Str.ofString "range") = some none
  min : nsIn G.K mainGlobals (Str.ofString "min") = some none
  case : ∃ t, nsIn G.K mainGlobals (Str.ofString "_CASE_COST") = some (some (.int 1 t))
  move : ∃ t, nsIn G.K mainGlobals (Str.ofString "_MOVE_COST") = some (some (.int 2 t))
  most : ∃ t, nsIn G.K mainGlobals (Str.ofString "_MAX_STRING_SIZE") = some (some (.int 40 t))

theorem subst_fn {G : GC} (LN : LevNames G) {f : Addr} (D : DefAt G (Str.ofString "_substitution_cost") f (fnP PP 14) (fnB PP 14) (fnS PP 14)) (x y : Nat) : FnPure G f 1 3 [.s [x], .s [y]] (.int (costN x y)) := by
  intro O F
  obtain ⟨t1, hc⟩ := LN.case
  obtain ⟨t2, hm⟩ := LN.move
  refine fn_of_body D [Str.ofString "ch_a", Str.ofString "ch_b"] ?_ (by decide) (by decide) rfl rfl rfl (by decide) (by simp) ?_
  · intro name qual doc pm an cdv ct vals hv
    match vals, hv with
    | [v1, v2], _ => rfl
  intro c F' H room hsub
  refine s_if (ts_cmpp (v_ H 0 rfl rfl) (v_ H 1 rfl rfl) (.eqS _ _)) ?_ ?_
  · intro hb
    have hb' : x = y := by simpa [mk_eq] using hb
    exact s_ret ev_int ⟨by simp [costN, hb'], rfl, rfl⟩
  · intro hb
    have hb' : ¬ x = y := by simpa [mk_eq] using hb
    refine s_if (ts_cmpp (ev_lower (v_ H 0 rfl rfl) (by simp [mk_length])) (ev_lower (v_ H 1 rfl rfl) (by simp [mk_length])) (.eqS _ _)) ?_ ?_
    · intro hb2
      exact s_ret (g_ H hc (pv := .int 1) ⟨_, rfl⟩ rfl) ⟨by simp only [costN, hb2]; simp [hb'], rfl, rfl⟩
    · intro hb2
      exact s_ret (g_ H hm (pv := .int 2) ⟨_, rfl⟩ rfl) ⟨by simp only [costN, hb2]; simp [hb'], rfl, rfl⟩

theorem comPre_lt (a b : List Nat) {k : Nat} (hk : k ≤ comPre a b) : decide (k < comPre a b) = (decide (a.drop k ≠ []) && (decide (b.drop k ≠ []) && (decide (a[k]? = b[k]?)))) := by
  have h := comPre_test a b hk
  have h1 := comPre_le a b
  by_cases q : k < comPre a b
  · have ha : k < a.length := by omega
    have hb : k < b.length := by omega
    have := (h.mp q).2.2 ha hb
    simp [q, ha, hb, this]
  · simp only [q, decide_false]
    by_cases ha : k < a.length
    · by_cases hb : k < b.length
      · have : a[k] ≠ b[k] := fun e => q (h.mpr ⟨ha, hb, fun _ _ => e⟩)
        simp [ha, hb, this]
      · simp [hb]
    · simp [ha]
theorem set_mid {α : Type} {acc : List α} (x r : α) (l : List α) {j : Nat} (h : acc.length = j) : (acc ++ x :: l).set j r = acc ++ [r] ++ l := by
  subst h; rw [List.set_append_right _ _ (Nat.le_refl _)]; simp
theorem one_eq (x y : Nat) : ((mk [x]) == (mk [y])) = decide (x = y) := by
  rw [mk_eq]; by_cases e : x = y <;> simp [e]
theorem take_ne (l : List Nat) (k : Nat) : decide (l.take (l.length - k) ≠ []) = decide (l.reverse.drop k ≠ []) := by
  by_cases h : k < l.length
  · have h1 : l.take (l.length - k) ≠ [] := by intro e; have := congrArg List.length e; simp at this; omega
    have h2 : l.reverse.drop k ≠ [] := by intro e; have := congrArg List.length e; simp at this; omega
    rw [decide_eq_true h1, decide_eq_true h2]
  · have h1 : l.take (l.length - k) = [] := by rw [show l.length - k = 0 by omega]; rfl
    have h2 : l.reverse.drop k = [] := by apply List.drop_eq_nil_of_le; simp; omega
    rw [h1, h2]

theorem lev_fn {G : GC} (LN : LevNames G) {f g : Addr} (D : DefAt G (Str.ofString "_levenshtein_distance") f (fnP PP 15) (fnB PP 15) (fnS PP 15)) (Dg : nsIn G.K mainGlobals (Str.ofString "_substitution_cost") = some (some (.ref g))) (kg : keepIn G.K (.ref g) = true)
    (sub : ∀ x y, FnPure G g 1 3 [.s [x], .s [y]] (.int (costN x y))) (a b : List Nat) (m : Int) (la : a.length ≤ 40) (lb : b.length ≤ 40) : FnPure G f 2 6 [.s a, .s b, .int m] (.int (levF a b m)) := by
  intro O F
  obtain ⟨t1, hc⟩ := LN.case
  obtain ⟨t2, hm⟩ := LN.move
  obtain ⟨t3, hmax⟩ := LN.most
  refine fn_of_body D [Str.ofString "a", Str.ofString "b", Str.ofString "max_cost", Str.ofString "pre", Str.ofString "post", Str.ofString "row", Str.ofString "result", Str.ofString "bindex", Str.ofString "bchar", Str.ofString "distance", Str.ofString "minimum", Str.ofString "index", Str.ofString "substitute", Str.ofString "insert_delete"] ?_ (by decide) (by decide) rfl rfl rfl (by decide) (by simp) ?_
  · intro name qual doc pm an cdv ct vals hv
    match vals, hv with
    | [v1, v2, v3], _ => rfl
  intro c F' H room hsub
  -- equal texts
  refine s_if (ts_cmpp (v_ H 0 rfl rfl) (v_ H 1 rfl rfl) (.eqS _ _)) ?_ ?_
  · intro hb
    have hb' : a = b := by simpa [mk_eq] using hb
    exact s_ret ev_int ⟨by simp [levF, hb'], rfl, rfl⟩
  intro hb
  have hab : a ≠ b := by simpa [mk_eq] using hb
  refine s_asg H 3 rfl (by simp) ev_int ?_
  -- what begins alike
  have hla := (comPre_le a b).1
  have hlb := (comPre_le a b).2
  refine s_while (fun n σ1 => ∃ k, k ≤ comPre a b ∧ n = comPre a b - k ∧ σ1 = [some (.s a), some (.s b), some (.int m), some (.int (k : Int)), none, none, none, none, none, none, none, none, none, none]) (comPre a b) ⟨0, Nat.zero_le _, rfl, rfl⟩ ?_
  rintro n σ1 ⟨k, hk, rfl, rfl⟩
  refine ⟨decide (k < comPre a b), ?_, ?_, ?_⟩
  · refine ts_and3 _ _ _ (ts_s (from_ (v_ H 0 rfl rfl) (v_ H 3 rfl rfl) (by omega) (by omega)) (by simp; omega)) (fun _ => ts_s (from_ (v_ H 1 rfl rfl) (v_ H 3 rfl rfl) (by omega) (by omega)) (by simp; omega)) (fun h1 h2 => ?_) (comPre_lt a b hk).symm
    have ha : k < a.length := by simpa using h1
    have hb : k < b.length := by simpa using h2
    refine ts_eq (ts_cmpp (item_ (v_ H 0 rfl rfl) (v_ H 3 rfl rfl) ha (by omega)) (item_ (v_ H 1 rfl rfl) (v_ H 3 rfl rfl) hb (by omega)) (.eqS _ _)) ?_
    rw [one_eq, List.getElem?_eq_getElem ha, List.getElem?_eq_getElem hb]; simp
  · intro hlt
    have hlt' : k < comPre a b := by simpa using hlt
    refine s_aadd H 3 rfl rfl ev_int (ex_nil ?_)
    exact ⟨rfl, rfl, comPre a b - (k + 1), by omega, k + 1, hlt', rfl, rfl⟩
  intro hge
  have hk' : k = comPre a b := by have : ¬ k < comPre a b := by simpa using hge
                                  omega
  subst hk'
  clear hge hk
  refine s_asg H 0 rfl (by simp) (from_ (v_ H 0 rfl rfl) (v_ H 3 rfl rfl) hla (by omega)) ?_
  refine s_asg H 1 rfl (by simp) (from_ (v_ H 1 rfl rfl) (v_ H 3 rfl rfl) hlb (by omega)) ?_
  refine s_asg H 4 rfl (by simp) ev_int ?_
  -- what ends alike
  have eA : trimA a b = (a.drop (comPre a b)).take ((a.drop (comPre a b)).length - comPre (a.drop (comPre a b)).reverse (b.drop (comPre a b)).reverse) := rfl
  have eB : trimA b a = (b.drop (comPre a b)).take ((b.drop (comPre a b)).length - comPre (a.drop (comPre a b)).reverse (b.drop (comPre a b)).reverse) := by
    show List.take ((b.drop (comPre b a)).length - comPre (b.drop (comPre b a)).reverse (a.drop (comPre b a)).reverse) (b.drop (comPre b a)) = _
    rw [comPre_comm b a, comPre_comm (b.drop (comPre a b)).reverse]
  have la1 : (a.drop (comPre a b)).length ≤ 40 := by simp; omega
  have lb1 : (b.drop (comPre a b)).length ≤ 40 := by simp; omega
  generalize ha1 : a.drop (comPre a b) = a1 at *
  generalize hb1 : b.drop (comPre a b) = b1 at *
  have hlr := comPre_le a1.reverse b1.reverse
  simp only [List.length_reverse] at hlr
  refine s_while (fun n σ1 => ∃ k, k ≤ comPre a1.reverse b1.reverse ∧ n = comPre a1.reverse b1.reverse - k ∧ σ1 = [some (.s a1), some (.s b1), some (.int m), some (.int (comPre a b : Int)), some (.int (-(k : Int))), none, none, none, none, none, none, none, none, none]) (comPre a1.reverse b1.reverse) ⟨0, Nat.zero_le _, rfl, rfl⟩ ?_
  rintro n σ1 ⟨k, hk, rfl, rfl⟩
  refine ⟨decide (k < comPre a1.reverse b1.reverse), ?_, ?_, ?_⟩
  · have ht := comPre_lt a1.reverse b1.reverse hk
    refine ts_and3 _ _ (decide (a1.reverse[k]? = b1.reverse[k]?)) (ts_s (toneg_ (v_ H 0 rfl rfl) (v_ H 4 rfl rfl) (by omega) (by omega)) (by simp; omega)) (fun _ => ts_s (toneg_ (v_ H 1 rfl rfl) (v_ H 4 rfl rfl) (by omega) (by omega)) (by simp; omega)) (fun h1 h2 => ?_) ?_
    · have ha : k < a1.length := by simp at h1; omega
      have hb : k < b1.length := by simp at h2; omega
      have e1 : (-(k : Int) - 1) = -((k : Int) + 1) := by omega
      refine ts_eq (ts_cmpp (itemneg_ (v_ H 0 rfl rfl) (ev_eq (ev_sub (v_ H 4 rfl rfl) ev_int) (by rw [e1])) ha (by omega)) (itemneg_ (v_ H 1 rfl rfl) (ev_eq (ev_sub (v_ H 4 rfl rfl) ev_int) (by rw [e1])) hb (by omega)) (.eqS _ _)) ?_
      rw [one_eq, List.getElem?_eq_getElem (by simpa using ha), List.getElem?_eq_getElem (by simpa using hb)]; simp
    · rw [ht, take_ne, take_ne]
  · intro hlt
    have hlt' : k < comPre a1.reverse b1.reverse := by simpa using hlt
    refine s_asub H 4 rfl rfl ev_int (ex_nil ?_)
    refine ⟨rfl, rfl, comPre a1.reverse b1.reverse - (k + 1), by omega, k + 1, hlt', rfl, ?_⟩
    simp; omega
  intro hge
  have hk' : k = comPre a1.reverse b1.reverse := by have : ¬ k < comPre a1.reverse b1.reverse := by simpa using hge
                                                    omega
  subst hk'
  refine s_asg H 0 rfl (by simp) (toneg_ (v_ H 0 rfl rfl) (v_ H 4 rfl rfl) (by omega) (by omega)) ?_
  refine s_asg H 1 rfl (by simp) (toneg_ (v_ H 1 rfl rfl) (v_ H 4 rfl rfl) (by omega) (by omega)) ?_
  simp only [List.set_cons_zero, List.set_cons_succ]
  rw [← eA, ← eB]
  have la2 : (trimA a b).length ≤ 40 := by rw [eA]; simp; omega
  have lb2 : (trimA b a).length ≤ 40 := by rw [eB]; simp; omega
  have hspec : levF a b m = if trimA a b = [] ∨ trimA b a = [] then (2 * (((trimA a b).length : Int) + ((trimA b a).length : Int)) : Int) else if (trimA b a).length < (trimA a b).length then levCore (trimA b a) (trimA a b) m else levCore (trimA a b) (trimA b a) m := by
    unfold levF; rw [if_neg hab]
  rw [hspec]
  clear hspec eA eB hge hk
  generalize trimA a b = a2 at *
  generalize trimA b a = b2 at *
  -- one of them is used up
  refine s_if (b := decide (a2 = [] ∨ b2 = [])) (ts_or2 (decide (a2 = [])) (decide (b2 = [])) (ts_eq (ts_not (ts_s (v_ H 0 rfl rfl) (by omega))) (by by_cases e : a2 = [] <;> simp [e])) (fun _ => ts_eq (ts_not (ts_s (v_ H 1 rfl rfl) (by omega))) (by by_cases e : b2 = [] <;> simp [e])) (by by_cases e : a2 = [] <;> by_cases e2 : b2 = [] <;> simp [e, e2])) ?_ ?_
  · intro hq
    have hq' : a2 = [] ∨ b2 = [] := by simpa using hq
    refine s_ret (ev_mul (g_ H hm (pv := .int 2) ⟨_, rfl⟩ rfl) (ev_add (len_ H LN.len rfl (v_ H 0 rfl rfl) (by rw [mk_length]; omega)) (len_ H LN.len rfl (v_ H 1 rfl rfl) (by rw [mk_length]; omega))) (.of_left (by decide))) ⟨?_, rfl, rfl⟩
    rw [if_pos hq', mk_length, mk_length]
  intro hq
  have hne : ¬ (a2 = [] ∨ b2 = []) := by simpa using hq
  rw [if_neg hne]
  -- neither is too long
  refine s_if (b := false) (ts_or2 false false (ts_eq (ts_cmpp (len_ H LN.len rfl (v_ H 0 rfl rfl) (by rw [mk_length]; omega)) (g_ H hmax (pv := .int 40) ⟨_, rfl⟩ rfl) (.gtI _ _)) (by rw [mk_length]; simp; omega)) (fun _ => ts_eq (ts_cmpp (len_ H LN.len rfl (v_ H 1 rfl rfl) (by rw [mk_length]; omega)) (g_ H hmax (pv := .int 40) ⟨_, rfl⟩ rfl) (.gtI _ _)) (by rw [mk_length]; simp; omega)) rfl) (fun e => by cases e) fun _ => ?_
  -- the shorter one first
  refine s_ifp (b := decide (b2.length < a2.length)) (σ1 := [some (.s (if b2.length < a2.length then b2 else a2)), some (.s (if b2.length < a2.length then a2 else b2)), some (.int m), some (.int (comPre a b : Int)), some (.int (-(comPre a1.reverse b1.reverse : Int))), none, none, none, none, none, none, none, none, none])
    (ts_eq (ts_cmpp (len_ H LN.len rfl (v_ H 1 rfl rfl) (by rw [mk_length]; omega)) (len_ H LN.len rfl (v_ H 0 rfl rfl) (by rw [mk_length]; omega)) (.ltI _ _)) (by rw [mk_length, mk_length]; simp)) ?_ ?_ ?_
  · intro e
    have e' : b2.length < a2.length := by simpa using e
    rw [if_pos e', if_pos e']
    refine ex_cons (ex_swap2 0 1 (v_ H 1 rfl rfl) (v_ H 0 rfl rfl) ?_ (H.name rfl) (H.kind (i := 0) rfl) (H.name rfl) (H.kind (i := 1) rfl) H.L (by simp) (by simp) (hw := swapped_names c.hek (H.kind (i := 0) rfl) (H.kind (i := 1) rfl) rfl (by decide) (by decide)))
    exact ex_nil ⟨rfl, rfl, rfl, rfl⟩
  · intro e
    have e' : ¬ b2.length < a2.length := by simpa using e
    rw [if_neg e', if_neg e']
  have hlev : (if b2.length < a2.length then levCore b2 a2 m else levCore a2 b2 m) = levCore (if b2.length < a2.length then b2 else a2) (if b2.length < a2.length then a2 else b2) m := by split <;> rfl
  rw [hlev]
  have hne1 : (if b2.length < a2.length then b2 else a2) ≠ [] := by split <;> (intro e; apply hne; simp [e])
  have hle : (if b2.length < a2.length then b2 else a2).length ≤ 40 := by split <;> omega
  have hle2 : (if b2.length < a2.length then a2 else b2).length ≤ 40 := by split <;> omega
  clear hlev hq hne
  generalize (if b2.length < a2.length then b2 else a2) = x at *
  generalize (if b2.length < a2.length then a2 else b2) = y at *
  have hxpos : 0 < x.length := List.length_pos_iff.mpr hne1
  -- the lengths alone
  refine s_if (b := decide (m < ((y.length : Int) - x.length) * 2)) (ts_eq (ts_cmpp (ev_mul (ev_sub (len_ H LN.len rfl (v_ H 1 rfl rfl) (by rw [mk_length]; omega)) (len_ H LN.len rfl (v_ H 0 rfl rfl) (by rw [mk_length]; omega))) (g_ H hm (pv := .int 2) ⟨_, rfl⟩ rfl) (.of_right (by decide))) (v_ H 2 rfl rfl) (.gtI _ _)) (by rw [mk_length, mk_length])) ?_ ?_
  · intro e
    have e' : m < ((y.length : Int) - x.length) * 2 := by simpa using e
    refine s_ret (ev_add (v_ H 2 rfl rfl) ev_int) ⟨?_, rfl, rfl⟩
    unfold levCore; rw [if_pos e']
  intro e
  have e' : ¬ ((y.length : Int) - x.length) * 2 > m := by simpa using e
  have hspec : levCore x y m = outerF x m y 0 (row0 x.length) 0 := by unfold levCore; rw [if_neg e']
  rw [hspec]
  clear hspec
  refine TF.drop ?_
  -- the first row
  have n2 : Evp c [some (.s x), some (.s y), some (.int m), some (.int (comPre a b : Int)), some (.int (-(comPre a1.reverse b1.reverse : Int))), none, none, none, none, none, none, none, none, none] O F' (.Name (Str.ofString "_MOVE_COST") ⟨0, 0, 0, 0⟩) (.int 2) := g_ H hm (pv := .int 2) ⟨_, rfl⟩ rfl
  refine ex_cons (asg_ H 5 rfl (by simp) (ev_listrange (a := 2) (b := 2 * ((x.length : Int) + 1)) (d := 2) (n := x.length) LN.list (H.glob rfl) (ev_tcall LN.range (by boot_fast) (H.glob rfl) (ta_consp (g_ H hm (pv := .int 2) ⟨_, rfl⟩ rfl) (ta_consp (ev_mul (g_ H hm (pv := .int 2) ⟨_, rfl⟩ rfl) (ev_add (len_ H LN.len rfl (v_ H 0 rfl rfl) (by rw [mk_length]; omega)) ev_int) (.of_left (by decide))) (ta_consp (g_ H hm (pv := .int 2) ⟨_, rfl⟩ rfl) (ta_nil fun vals hv => ?_))))) ?_ ?_ (by omega) H.own ?_))
  · obtain ⟨v1, v2, v3, rfl, ⟨u1, rfl⟩, ⟨u2, rfl⟩, u3, rfl⟩ := hv.three
    rw [mk_length]
    exact TV.mono (bi_range3 (by decide) (PyProof.noPylong_small (by decide))) fun pv O' N h => by simpa using h
  · exact (range_small2 (by omega)).1
  · exact (range_small2 (by omega)).2
  intro l o ho
  simp only [List.set_cons_zero, List.set_cons_succ, List.nil_append, List.append_nil]
  refine s_asg H 6 rfl (by simp) ev_int ?_
  -- the rows
  refine s_for H 7 (items := rangePV 0 1 y.length) rfl (fun k σ1 O1 => ∃ (row : List Int) (res : Int) (z7 z8 z9 z10 z11 z12 z13 : Option PV) (o : Obj),
      σ1 = [some (.s x), some (.s y), some (.int m), some (.int (comPre a b : Int)), some (.int (-(comPre a1.reverse b1.reverse : Int))), some (.ref l), some (.int res), z7, z8, z9, z10, z11, z12, z13] ∧
      O1 = (l, o) :: O ∧ ListO (row.map PV.int) o ∧ row.length = x.length ∧ outerF x m (y.drop k) (k : Int) row res = outerF x m y 0 (row0 x.length) 0) ?_ ?_ ?_ ?_
  · rintro k σ1 O1 ⟨row, res, z7, z8, z9, z10, z11, z12, z13, o, rfl, _⟩; simp
  · refine it_range1 LN.range (H.glob rfl) (ev_eq (len_ H LN.len rfl (v_ H 1 rfl rfl) (by rw [mk_length]; omega)) (by rw [mk_length])) (by omega) ⟨rfl, row0 x.length, 0, none, none, none, none, none, none, none, o, rfl, rfl, ?_, by simp [row0], rfl⟩ H.own
    have : (row0 x.length).map PV.int = rangePV 2 2 x.length := by simp [row0, rangePV]
    rw [this]; exact ho
  · rintro k pv σ1 O1 F1 hk ⟨row, res, z7, z8, z9, z10, z11, z12, z13, o, rfl, rfl, hl, hlen, hinv⟩ hF
    have hky : k < y.length := by have := (List.getElem?_eq_some_iff.mp hk).1; rwa [rangePV_len] at this
    rw [rangePV_get hky] at hk
    simp only [Int.zero_add, Int.mul_one, Option.some.injEq] at hk
    subst hk
    simp only [List.set_cons_zero, List.set_cons_succ]
    have hdrop : y.drop k = y[k] :: y.drop (k + 1) := List.drop_eq_getElem_cons hky
    rw [hdrop] at hinv
    refine s_asg H 8 rfl (by simp) (item_ (v_ H 1 rfl rfl) (v_ H 7 rfl rfl) hky (by omega)) ?_
    refine s_asg2 H 9 6 rfl rfl (by simp) (by simp) (ev_mul (v_ H 7 rfl rfl) (g_ H hm (pv := .int 2) ⟨_, rfl⟩ rfl) (.of_right (by decide))) ?_
    refine s_asg H 10 rfl (by simp) ev_int ?_
    simp only [List.set_cons_zero, List.set_cons_succ]
    refine s_for H 11 (items := rangePV 0 1 x.length) rfl (fun j σ1 O1 => ∃ (st : InS) (z11 z12 z13 : Option PV) (o : Obj),
      σ1 = [some (.s x), some (.s y), some (.int m), some (.int (comPre a b : Int)), some (.int (-(comPre a1.reverse b1.reverse : Int))), some (.ref l), some (.int st.res), some (.int (k : Int)), some (.s [y[k]]), some (.int st.dist), some (.int st.mn), z11, z12, z13] ∧
      O1 = (l, o) :: O ∧ st = ((x.zip row).take j).foldl (stepI y[k]) ⟨[], (k : Int) * 2, (k : Int) * 2, 9223372036854775807⟩ ∧ ListO ((st.acc ++ row.drop j).map PV.int) o ∧ st.acc.length = j) ?_ ?_ ?_ ?_
    · rintro j σ1 O1 ⟨st, z11, z12, z13, o, rfl, _⟩; simp
    · exact it_range1 LN.range (H.glob rfl) (ev_eq (len_ H LN.len rfl (v_ H 0 rfl rfl) (by rw [mk_length]; omega)) (by rw [mk_length])) (by omega) ⟨rfl, ⟨[], (k : Int) * 2, (k : Int) * 2, 9223372036854775807⟩, z11, z12, z13, o, rfl, rfl, rfl, by simpa using hl, rfl⟩ H.own
    · rintro j pv σ1 O1 F2 hj ⟨st, z11, z12, z13, o, rfl, rfl, hst, hl2, hlj⟩ hF2
      have hjx : j < x.length := by have := (List.getElem?_eq_some_iff.mp hj).1; rwa [rangePV_len] at this
      rw [rangePV_get hjx] at hj
      simp only [Int.zero_add, Int.mul_one, Option.some.injEq] at hj
      subst hj
      simp only [List.set_cons_zero, List.set_cons_succ]
      have hjr : j < row.length := by omega
      have hrow : (st.acc ++ row.drop j)[j]? = some row[j] := by
        rw [List.getElem?_append_right (by omega), hlj, Nat.sub_self, List.drop_eq_getElem_cons hjr]; rfl
      have hlen2 : (st.acc ++ row.drop j).length = x.length := by simp; omega
      refine s_asg H 12 rfl (by simp) (ev_add (v_ H 9 rfl rfl) (callp_ H Dg kg rfl (ta_pp (v_ H 8 rfl rfl) (ta_pp (item_ (v_ H 0 rfl rfl) (v_ H 11 rfl rfl) hjx (by omega)) ta_np)) (sub _ _) (room.le (by omega) (by omega)))) ?_
      refine s_asg H 9 rfl (by simp) (ev_listitem (pv := .int row[j]) (v_ H 5 rfl rfl) (v_ H 11 rfl rfl) (List.mem_append_left _ (.head _)) hl2 (by rw [List.getElem?_map, hrow]; rfl) (by rw [List.length_map]; omega)) ?_
      refine s_asg H 13 rfl (by simp) (ev_add (min2_ H LN.min rfl (v_ H 6 rfl rfl) (v_ H 9 rfl rfl)) (g_ H hm (pv := .int 2) ⟨_, rfl⟩ rfl)) ?_
      refine s_asg H 6 rfl (by simp) (min2_ H LN.min rfl (v_ H 13 rfl rfl) (v_ H 12 rfl rfl)) ?_
      simp only [List.set_cons_zero, List.set_cons_succ]
      refine ex_cons (ex_setitem (v_ H 6 rfl rfl) (v_ H 5 rfl rfl) (v_ H 11 rfl rfl) hl2 (by rw [List.length_map]; omega) (by rw [List.length_map]; omega) fun o' ho' => ?_)
      have hst' : stepI y[k] st (x[j], row[j]) = ((x.zip row).take (j + 1)).foldl (stepI y[k]) ⟨[], (k : Int) * 2, (k : Int) * 2, 9223372036854775807⟩ := by
        have hz : j < (x.zip row).length := by simp; omega
        rw [List.take_succ_eq_append_getElem hz, List.foldl_append, ← hst]
        simp
      have hacc : (stepI y[k] st (x[j], row[j])).acc = st.acc ++ [pmin (pmin st.res row[j] + 2) (st.dist + costN y[k] x[j])] := rfl
      have hset : ((st.acc ++ row.drop j).map PV.int).set j (.int (pmin (pmin st.res row[j] + 2) (st.dist + costN y[k] x[j]))) = ((stepI y[k] st (x[j], row[j])).acc ++ row.drop (j + 1)).map PV.int := by
        rw [hacc, ← List.map_set, List.drop_eq_getElem_cons hjr]
        rw [set_mid _ _ _ hlj]
      have ho2 : ListO (((stepI y[k] st (x[j], row[j])).acc ++ row.drop (j + 1)).map PV.int) o' := hset ▸ ho'
      refine s_ifp (b := decide (pmin (pmin st.res row[j] + 2) (st.dist + costN y[k] x[j]) < st.mn)) (σ1 := [some (.s x), some (.s y), some (.int m), some (.int (comPre a b : Int)), some (.int (-(comPre a1.reverse b1.reverse : Int))), some (.ref l), some (.int (pmin (pmin st.res row[j] + 2) (st.dist + costN y[k] x[j]))), some (.int (k : Int)), some (.s [y[k]]), some (.int row[j]), some (.int (if pmin (pmin st.res row[j] + 2) (st.dist + costN y[k] x[j]) < st.mn then pmin (pmin st.res row[j] + 2) (st.dist + costN y[k] x[j]) else st.mn)), some (.int (j : Int)), some (.int (st.dist + costN y[k] x[j])), some (.int (pmin st.res row[j] + 2))])
        (ts_cmpp (v_ H 6 rfl rfl) (v_ H 10 rfl rfl) (.ltI _ _)) (fun e => ?_) (fun e => ?_) (ex_nil ⟨rfl, stepI y[k] st (x[j], row[j]), _, _, _, o', rfl, rfl, hst', ho2, by rw [hacc]; simp [hlj]⟩)
      · have e' := of_decide_eq_true e
        rw [if_pos e']
        exact s_asg H 10 rfl (by simp) (v_ H 6 rfl rfl) (ex_nil ⟨rfl, rfl, rfl, rfl⟩)
      · have e' := of_decide_eq_false e
        rw [if_neg e']; rfl
    · rintro σ1 O1 ⟨st, z11, z12, z13, o, rfl, rfl, hst, hl2, hlj⟩
      rw [rangePV_len] at hst hl2 hlj
      have hzl : (x.zip row).length = x.length := by simp; omega
      rw [List.take_of_length_le (by omega)] at hst
      have hst2 : st = innerF y[k] x row ((k : Int) * 2) := hst
      rw [List.drop_of_length_le (by omega), List.append_nil] at hl2
      refine s_if (b := decide (m < st.mn)) (ts_cmpp (v_ H 10 rfl rfl) (v_ H 2 rfl rfl) (.gtI _ _)) (fun e => ?_) (fun e => ex_nil ?_)
      · have e' : m < st.mn := of_decide_eq_true e
        refine s_ret (ev_add (v_ H 2 rfl rfl) ev_int) ⟨rfl, O, List.sublist_cons_self _ _, ?_, rfl, rfl⟩
        rw [← hinv]
        unfold outerF
        rw [hst2] at e'
        simp only [if_pos e']
      · have e' : ¬ m < st.mn := of_decide_eq_false e
        refine ⟨rfl, st.acc, st.res, _, _, _, _, _, _, _, o, rfl, rfl, hl2, hlj, ?_⟩
        rw [← hinv]
        conv => rhs; unfold outerF
        rw [hst2] at e' ⊢
        simp only [if_neg e']
        push_cast
        rfl
  · rintro σ1 O1 ⟨row, res, z7, z8, z9, z10, z11, z12, z13, o, rfl, rfl, hl, hlen, hinv⟩
    rw [rangePV_len, List.drop_length] at hinv
    refine s_ret (v_ H 6 rfl rfl) ⟨O, List.sublist_cons_self _ _, ?_, rfl, rfl⟩
    rw [← hinv]; rfl
end Mine
end
section
open PySem PySem.W PyProof.Rows PySem.Calls
set_option autoImplicit false
set_option linter.unusedVariables false
namespace Mine

theorem lit_257 : Str.ofString "257" = mk [50, 53, 55] := by decide +kernel
theorem lit_sq : Str.ofString " \"" = mk [32, 34] := by decide +kernel
theorem lit_q : Str.ofString "\"" = mk [34] := by decide +kernel
theorem lit_qq : Str.ofString "\"\"" = mk [34, 34] := by decide +kernel
theorem lit_e : Str.ofString "" = mk [] := by decide +kernel

/-- what parse257 reads behind the first five signs -/
def parseF : List Nat → List Nat
  | [] => []
  | [c] => if c = 34 then [] else [c]
  | c :: d :: r => if c = 34 then (if d = 34 then 34 :: parseF r else []) else c :: parseF (d :: r)

theorem parse_fn {G : GC} (hlen : nsIn G.K mainGlobals (Str.ofString "len") = some none) {f : Addr} (D : DefAt G (Str.ofString "parse257") f (fnP PP 3) (fnB PP 3) (fnS PP 3)) (body : List Nat) (hb : body.length ≤ 1000) :
    FnPure G f 1 3 [.s ([50, 53, 55, 32, 34] ++ body)] (.s (parseF body)) := by
  intro O F
  refine fn_of_body D [Str.ofString "resp", Str.ofString "dirname", Str.ofString "i", Str.ofString "n", Str.ofString "c"] ?_ (by decide) (by decide) rfl rfl rfl (by decide) (by simp) ?_
  · intro name qual doc pm an cdv ct vals hv
    match vals, hv with
    | [v1], _ => rfl
  intro c F' H room hsub
  have hr : ([50, 53, 55, 32, 34] ++ body).length = body.length + 5 := by simp
  refine s_if (b := false) (ts_eq (ts_cmpp (to_ (a := 3) (v_ H 0 rfl rfl) ev_int (by omega) (by omega)) (ev_eq ev_str (by rw [lit_257])) (.neS _ _)) (by rw [mk_ne]; rfl)) (fun e => by cases e) fun _ => ?_
  refine s_if (b := false) (ts_eq (ts_cmpp (mid_ (a := 3) (b := 5) (v_ H 0 rfl rfl) ev_int ev_int (by omega) (by omega) (by omega)) (ev_eq ev_str (by rw [lit_sq])) (.neS _ _)) (by rw [mk_ne]; rfl)) (fun e => by cases e) fun _ => ?_
  refine s_asg H 1 rfl (by simp) (ev_eq ev_str (by rw [lit_e])) ?_
  refine s_asg H 2 rfl (by simp) ev_int ?_
  refine s_asg H 3 rfl (by simp) (len_ H hlen rfl (v_ H 0 rfl rfl) (by rw [mk_length]; omega)) ?_
  rw [mk_length, hr]
  simp only [List.map_cons, List.map_nil, List.cons_append, List.nil_append, List.set_cons_zero, List.set_cons_succ]
  refine s_while (fun n σ1 => ∃ (k : Nat) (d : List Nat) (z : Option PV), k ≤ body.length ∧ n = body.length - k ∧ d.length ≤ k ∧ d ++ parseF (body.drop k) = parseF body ∧
    σ1 = [some (.s ([50, 53, 55, 32, 34] ++ body)), some (.s d), some (.int ((k + 5 : Nat) : Int)), some (.int ((body.length + 5 : Nat) : Int)), z]) body.length ⟨0, [], none, Nat.zero_le _, rfl, Nat.le_refl _, rfl, rfl⟩ ?_
  rintro n σ1 ⟨k, d, z, hk, rfl, hd, hinv, rfl⟩
  refine ⟨decide (k < body.length), ts_eq (ts_cmpp (v_ H 2 rfl rfl) (v_ H 3 rfl rfl) (.ltI _ _)) (by simp), ?_, ?_⟩
  · intro hlt
    have hlt' : k < body.length := of_decide_eq_true hlt
    have hget : ∀ (j : Nat) (hj : j < body.length) (h : j + 5 < ([50, 53, 55, 32, 34] ++ body).length), ([50, 53, 55, 32, 34] ++ body)[j + 5] = body[j] := fun j hj h => by
      simp
    have hdrop : body.drop k = body[k] :: body.drop (k + 1) := List.drop_eq_getElem_cons hlt'
    refine s_asg H 4 rfl (by simp) (item_ (v_ H 0 rfl rfl) (v_ H 2 rfl rfl) (by omega) (by omega)) ?_
    rw [hget k hlt']
    refine s_asg H 2 rfl (by simp) (ev_add (v_ H 2 rfl rfl) ev_int) ?_
    simp only [List.set_cons_zero, List.set_cons_succ]
    have e1 : ((k + 5 : Nat) : Int) + 1 = ((k + 1 + 5 : Nat) : Int) := by omega
    rw [e1]
    have hs1 : ∀ v : Nat, (mk [v] == mk [34]) = decide (v = 34) := fun v => one_eq v 34
    by_cases hc : body[k] = 34
    · by_cases hn : k + 1 < body.length ∧ body[k + 1]? = some 34
      · have h2 : k + 1 < body.length := hn.1
        have hb2 : body[k + 1] = 34 := by have := hn.2; rw [List.getElem?_eq_getElem h2] at this; exact Option.some.inj this
        refine s_ifp (b := true) (σ1 := [some (.s ([50, 53, 55, 32, 34] ++ body)), some (.s d), some (.int ((k + 1 + 5 : Nat) + 1 : Int)), some (.int ((body.length + 5 : Nat) : Int)), some (.s [body[k]])]) (ts_eq (ts_cmpp (v_ H 4 rfl rfl) (ev_eq ev_str (by rw [lit_q])) (.eqS _ _)) (by rw [hs1]; simp [hc])) (fun _ => ?_) (fun e => by cases e) ?_
        · refine s_iffalse (ts_or2 false false (ts_eq (ts_cmpp (v_ H 2 rfl rfl) (v_ H 3 rfl rfl) (.geI _ _)) (by simp; omega)) (fun _ => ts_eq (ts_cmpp (item_ (v_ H 0 rfl rfl) (v_ H 2 rfl rfl) (by omega) (by omega)) (ev_eq ev_str (by rw [lit_q])) (.neS _ _)) (by rw [hget (k + 1) h2, bne, hs1]; simp [hb2])) rfl) ?_
          exact s_asg H 2 rfl (by simp) (ev_add (v_ H 2 rfl rfl) ev_int) (ex_nil ⟨rfl, rfl, rfl, rfl⟩)
        refine s_asg H 1 rfl (by simp) (ev_eq (ev_adds (v_ H 1 rfl rfl) (v_ H 4 rfl rfl) (by rw [mk_length, mk_length, sizeLine_eq]; simp; omega)) (by rw [mk_append])) (ex_nil ?_)
        refine ⟨rfl, rfl, body.length - (k + 2), by omega, k + 2, d ++ [body[k]], some (.s [body[k]]), by omega, rfl, by simp; omega, ?_, ?_⟩
        · rw [← hinv, hdrop, List.drop_eq_getElem_cons h2]
          simp [parseF, hc, hb2]
        · simp; omega
      · refine s_iftrue (ts_eq (ts_cmpp (v_ H 4 rfl rfl) (ev_eq ev_str (by rw [lit_q])) (.eqS _ _)) (by rw [hs1]; simp [hc])) ?_
        refine s_iftrue (ts_or2 (decide (¬ k + 1 < body.length)) true (ts_eq (ts_cmpp (v_ H 2 rfl rfl) (v_ H 3 rfl rfl) (.geI _ _)) (by simp; omega)) (fun q => ?_) (by simp)) ?_
        · have h2 : k + 1 < body.length := by simpa using q
          have hb2 : body[k + 1] ≠ 34 := fun e => hn ⟨h2, by rw [List.getElem?_eq_getElem h2, e]⟩
          exact ts_eq (ts_cmpp (item_ (v_ H 0 rfl rfl) (v_ H 2 rfl rfl) (by omega) (by omega)) (ev_eq ev_str (by rw [lit_q])) (.neS _ _)) (by rw [hget (k + 1) h2, bne, hs1]; simp [hb2])
        · refine s_brk ⟨rfl, rfl, ?_⟩
          refine s_ret (v_ H 1 rfl rfl) ⟨?_, rfl, rfl⟩
          have hp : parseF (body.drop k) = [] := by
            rw [hdrop]
            by_cases h2 : k + 1 < body.length
            · have hb2 : body[k + 1] ≠ 34 := fun e => hn ⟨h2, by rw [List.getElem?_eq_getElem h2, e]⟩
              rw [List.drop_eq_getElem_cons h2]
              simp [parseF, hc, hb2]
            · rw [List.drop_of_length_le (by omega)]
              simp [parseF, hc]
          rw [hp, List.append_nil] at hinv
          rw [hinv]
    · refine s_iffalse (ts_eq (ts_cmpp (v_ H 4 rfl rfl) (ev_eq ev_str (by rw [lit_q])) (.eqS _ _)) (by rw [hs1]; simp [hc])) ?_
      refine s_asg H 1 rfl (by simp) (ev_eq (ev_adds (v_ H 1 rfl rfl) (v_ H 4 rfl rfl) (by rw [mk_length, mk_length, sizeLine_eq]; simp; omega)) (by rw [mk_append])) (ex_nil ?_)
      refine ⟨rfl, rfl, body.length - (k + 1), by omega, k + 1, d ++ [body[k]], some (.s [body[k]]), by omega, rfl, by simp; omega, ?_, rfl⟩
      rw [← hinv, hdrop]
      cases hr2 : body.drop (k + 1) with
      | nil => simp [parseF, hc]
      | cons x r => simp [parseF, hc]
  · intro hge
    have hk' : k = body.length := by have := of_decide_eq_false hge; omega
    subst hk'
    refine s_ret (v_ H 1 rfl rfl) ⟨?_, rfl, rfl⟩
    rw [List.drop_length] at hinv
    rw [← hinv]; simp [parseF]
end Mine
end
section
open PySem PySem.W PyProof.Rows PySem.Calls
set_option autoImplicit false
set_option linter.unusedVariables false
namespace Mine

/-! the grammar's words -/
theorem term_fn {G : GC} (hoff : ∃ t, nsIn G.K mainGlobals (Str.ofString "NT_OFFSET") = some (some (.int 256 t))) {f : Addr} (D : DefAt G (Str.ofString "ISTERMINAL") f (fnP PP 7) (fnB PP 7) (fnS PP 7)) (x : Int) : FnPure G f 1 3 [.int x] (.bool (decide (x < 256))) := by
  intro O F
  obtain ⟨t, ht⟩ := hoff
  refine fn_of_body D [Str.ofString "x"] ?_ (by decide) (by decide) rfl rfl rfl (by decide) (by simp) ?_
  · intro name qual doc pm an cdv ct vals hv
    match vals, hv with
    | [v1], _ => rfl
  intro c F' H room hsub
  exact s_ret (ev_cmpp (v_ H 0 rfl rfl) (g_ H ht (pv := .int 256) ⟨_, rfl⟩ rfl) (.ltI _ _)) ⟨rfl, rfl, rfl⟩
theorem nonterm_fn {G : GC} (hoff : ∃ t, nsIn G.K mainGlobals (Str.ofString "NT_OFFSET") = some (some (.int 256 t))) {f : Addr} (D : DefAt G (Str.ofString "ISNONTERMINAL") f (fnP PP 8) (fnB PP 8) (fnS PP 8)) (x : Int) : FnPure G f 1 3 [.int x] (.bool (decide (256 ≤ x))) := by
  intro O F
  obtain ⟨t, ht⟩ := hoff
  refine fn_of_body D [Str.ofString "x"] ?_ (by decide) (by decide) rfl rfl rfl (by decide) (by simp) ?_
  · intro name qual doc pm an cdv ct vals hv
    match vals, hv with
    | [v1], _ => rfl
  intro c F' H room hsub
  exact s_ret (ev_cmpp (v_ H 0 rfl rfl) (g_ H ht (pv := .int 256) ⟨_, rfl⟩ rfl) (.geI _ _)) ⟨rfl, rfl, rfl⟩
theorem eof_fn {G : GC} (heof : ∃ t, nsIn G.K mainGlobals (Str.ofString "ENDMARKER") = some (some (.int 0 t))) {f : Addr} (D : DefAt G (Str.ofString "ISEOF") f (fnP PP 9) (fnB PP 9) (fnS PP 9)) (x : Int) : FnPure G f 1 3 [.int x] (.bool (x == 0)) := by
  intro O F
  obtain ⟨t, ht⟩ := heof
  refine fn_of_body D [Str.ofString "x"] ?_ (by decide) (by decide) rfl rfl rfl (by decide) (by simp) ?_
  · intro name qual doc pm an cdv ct vals hv
    match vals, hv with
    | [v1], _ => rfl
  intro c F' H room hsub
  exact s_ret (ev_cmpp (v_ H 0 rfl rfl) (g_ H ht (pv := .int 0) ⟨_, rfl⟩ rfl) (.eqI _ _)) ⟨rfl, rfl, rfl⟩

/-! _law_cost -/
def lcost (one other : Int) : Int := if one = other then 0 else if one < 256 ∨ ¬ 256 ≤ other ∨ Int.fdiv one 2 ≠ Int.fdiv other 2 then 2 else 1

theorem ts_call {G : GC} {c : Act G} {σ : Sto} {O F : Led} {e : Expr} {b : Bool} (h : Evp c σ O F e (.bool b))
    (he : ∀ (env : Env) (whole : Sem Value), PySem.isTrue e env whole = (do let v ← whole; standAt e.pos; holding [v] (truthy v)) := by intro _ _; rfl) : Tstp c σ O F e b :=
  ts_val h (fun v e => by cases e; exact tr_bool) he

theorem cost_fn {G : GC} {f ft fn : Addr} (D : DefAt G (Str.ofString "_law_cost") f (fnP PP 19) (fnB PP 19) (fnS PP 19))
    (nt : nsIn G.K mainGlobals (Str.ofString "ISTERMINAL") = some (some (.ref ft))) (kt : keepIn G.K (.ref ft) = true) (nn : nsIn G.K mainGlobals (Str.ofString "ISNONTERMINAL") = some (some (.ref fn))) (kn : keepIn G.K (.ref fn) = true)
    (ht : ∀ x, FnPure G ft 1 3 [.int x] (.bool (decide (x < 256)))) (hn : ∀ x, FnPure G fn 1 3 [.int x] (.bool (decide (256 ≤ x)))) (a b : Int) (ha : 0 ≤ a ∧ a < 2000000) (hb : 0 ≤ b ∧ b < 2000000) : FnPure G f 2 6 [.int a, .int b] (.int (lcost a b)) := by
  intro O F
  refine fn_of_body D [Str.ofString "one", Str.ofString "other"] ?_ (by decide) (by decide) rfl rfl rfl (by decide) (by simp) ?_
  · intro name qual doc pm an cdv ct vals hv
    match vals, hv with
    | [v1, v2], _ => rfl
  intro c F' H room hsub
  refine s_if (ts_cmpp (v_ H 0 rfl rfl) (v_ H 1 rfl rfl) (.eqI _ _)) ?_ ?_
  · intro e
    have e' : a = b := by simpa using e
    exact s_ret ev_int ⟨by simp [lcost, e'], rfl, rfl⟩
  intro e
  have e' : ¬ a = b := by simpa using e
  have hor : (decide (a < 256) || ((!decide (256 ≤ b)) || (Int.fdiv a 2 != Int.fdiv b 2))) = decide (a < 256 ∨ ¬ 256 ≤ b ∨ Int.fdiv a 2 ≠ Int.fdiv b 2) := by
    by_cases q1 : a < 256 <;> by_cases q2 : 256 ≤ b <;> by_cases q3 : Int.fdiv a 2 = Int.fdiv b 2 <;> simp [q1, q2, q3]
  refine s_if (b := decide (a < 256 ∨ ¬ 256 ≤ b ∨ Int.fdiv a 2 ≠ Int.fdiv b 2)) (ts_bop ?_) ?_ ?_
  · rw [← hor, ← Bool.or_false (Int.fdiv a 2 != Int.fdiv b 2)]
    exact or_cons (ts_call (callp_ H nt kt rfl (ta_pp (v_ H 0 rfl rfl) ta_np) (ht _) (room.le (by omega) (by omega)))) fun _ =>
      or_cons (ts_not (ts_call (callp_ H nn kn rfl (ta_pp (v_ H 1 rfl rfl) ta_np) (hn _) (room.le (by omega) (by omega))))) fun _ =>
      or_cons (ts_cmpp (ev_fdiv (v_ H 0 rfl rfl) ev_int (by decide) (PyProof.noPylong_small (by decide))) (ev_fdiv (v_ H 1 rfl rfl) ev_int (by decide) (PyProof.noPylong_small (by decide))) (.neI _ _)) fun _ => or_nil
  · intro q
    have q' := of_decide_eq_true q
    exact s_ret ev_int ⟨by unfold lcost; rw [if_neg e', if_pos q'], rfl, rfl⟩
  · intro q
    have q' := of_decide_eq_false q
    exact s_ret ev_int ⟨by unfold lcost; rw [if_neg e', if_neg q'], rfl, rfl⟩

/-! _law_name -/
theorem repl1 : ∀ m : List Nat, replS [1] [34] 0 m = m.map fun c => if c = 1 then 34 else c
  | [] => rfl
  | c :: r => by
    by_cases h : c = 1
    · subst h; rw [replS, if_pos (by simp)]; simp [repl1 r]
    · rw [replS, if_neg (by simpa using h)]; simp [h, repl1 r]
theorem nameF_eq : ∀ (n : Nat) (l : List Nat), l.length ≤ n → 1 ∉ l → replS [1] [34] 0 ((replS [34, 34] [1] 0 l).takeWhile (· ≠ 34)) = parseF l := by
  intro n
  induction n with
  | zero => intro l hl h1; have : l = [] := List.length_eq_zero_iff.mp (by omega); subst this; rfl
  | succ n ih =>
    intro l hl h1
    match l, hl, h1 with
    | [], _, _ => rfl
    | [c], _, h1 =>
      by_cases h : c = 34
      · subst h; rfl
      · have hc1 : c ≠ 1 := by simpa [eq_comm] using h1
        rw [replS, if_neg (by simp)]
        simp [replS, parseF, h, hc1]
    | c :: d :: r, hl, h1 =>
      have hc1 : c ≠ 1 := fun e => h1 (by simp [e])
      have hd1 : 1 ∉ d :: r := fun e => h1 (.tail _ e)
      by_cases h : c = 34
      · subst h
        by_cases h2 : d = 34
        · subst h2
          have hr1 : 1 ∉ r := fun e => hd1 (.tail _ e)
          have := ih r (by simp at hl; omega) hr1
          rw [replS, if_pos (by simp)]
          simp only [List.length_cons, List.length_nil, Nat.add_one_sub_one, List.cons_append, List.nil_append]
          rw [replS]
          rw [repl1] at this ⊢
          simp only [ne_eq, decide_not] at this
          simp [parseF, this]
        · rw [replS, if_neg (by simpa using h2)]
          simp [parseF, h2, replS]
      · have := ih (d :: r) (by simp at hl ⊢; omega) hd1
        rw [replS, if_neg (by simp [h])]
        rw [repl1] at this ⊢
        simp only [ne_eq, decide_not] at this
        simp [parseF, h, hc1, this]

theorem name_fn {G : GC} (hchr : nsIn G.K mainGlobals (Str.ofString "chr") = some none) {f : Addr} (D : DefAt G (Str.ofString "_law_name") f (fnP PP 18) (fnB PP 18) (fnS PP 18)) (l : List Nat) (hl : l.length ≤ 1000) (h1 : 1 ∉ l) : FnPure G f 1 3 [.s l] (.s (parseF l)) := by
  intro O F
  refine fn_of_body D [Str.ofString "body"] ?_ (by decide) (by decide) rfl rfl rfl (by decide) (by simp) ?_
  · intro name qual doc pm an cdv ct vals hv
    match vals, hv with
    | [v1], _ => rfl
  intro c F' H room hsub
  have hrep : ∀ (p z : List Nat) (k : Nat) (m : List Nat), z.length ≤ 1 → (replS p z k m).length ≤ m.length := by
    intro p z k m hz
    induction m generalizing k with
    | nil => simp [replS]
    | cons c r ih =>
      cases k with
      | zero =>
        rw [replS]
        split
        · have := ih (p.length - 1); simp; omega
        · have := ih 0; simp; omega
      | succ k => rw [replS]; have := ih k; simp; omega
  have hle : (replS [34, 34] [1] 0 l).length ≤ 1000 := Nat.le_trans (hrep _ _ _ _ (by decide)) hl
  have hle2 : ((replS [34, 34] [1] 0 l).takeWhile (· ≠ 34)).length ≤ 1000 := Nat.le_trans (List.Sublist.length_le (List.takeWhile_sublist _)) hle
  have f1 : ∀ (k : Nat) (pos p : Pos) k2 p2, EvFresh c [some (.s l)] O F' (.Call (.Name (Str.ofString "chr") p) [.Constant (.int 1) k2 p2] [] pos) (mk [1]) := fun k pos p k2 p2 => fresh_chr (n := 1) hchr (H.glob rfl) int_fresh (by decide)
  have f2 : ∀ (k : Nat) (pos : Pos), EvFresh c [some (.s l)] O F' (.Constant (.str (Str.ofString "\"\"")) k pos) (mk [34, 34]) := fun k pos => by rw [← lit_qq]; exact fresh_const
  have f3 : ∀ (k : Nat) (pos : Pos), EvFresh c [some (.s l)] O F' (.Constant (.str (Str.ofString "\"")) k pos) (mk [34]) := fun k pos => by rw [← lit_q]; exact fresh_const
  refine s_ret (ev_replace (ev_split0 (ev_replace (v_ H 0 rfl rfl) (f2 _ _) (f1 0 _ _ _ _) (by decide) (by decide) (by simp; omega)) (ev_eq ev_str (by rw [lit_q])) (by decide) (by omega)) (f1 0 _ _ _ _) (f3 _ _) (by decide) (by decide) (by simp only [List.length_cons, List.length_nil]; omega)) ⟨?_, rfl, rfl⟩
  rw [nameF_eq l.length l (Nat.le_refl _) h1]
end Mine
end
section
open PySem PySem.W PyProof.Rows PySem.Calls
set_option autoImplicit false
set_option linter.unusedVariables false
set_option maxRecDepth 20000
namespace Mine

def signsL : List (List Nat) := [[34], [34], [61], [256], [257], [259], []]
def digit (n : Int) (k : Nat) : Nat := (Int.fmod (Int.fdiv n (7 ^ k)) 7).toNat
def signAt (n : Int) (k : Nat) : List Nat := signsL.getD (digit n k) []
def bodyF (n : Int) : List Nat := joinL [] ((List.range 5).map fun k => signAt n k)
theorem digit_lt (n : Int) (k : Nat) : digit n k < 7 := by
  have h1 := Int.fmod_lt_of_pos (Int.fdiv n (7 ^ k)) (b := 7) (by decide)
  unfold digit; omega
theorem digit_is (n : Int) (k : Nat) : Int.fmod (Int.fdiv n (7 ^ k)) 7 = ((digit n k : Nat) : Int) := by
  have h1 := Int.fmod_nonneg_of_pos (Int.fdiv n (7 ^ k)) (b := 7) (by decide)
  unfold digit; omega

theorem signAt_len (n : Int) (k : Nat) : (signAt n k).length ≤ 1 := by
  have h := digit_lt n k
  unfold signAt
  generalize digit n k = d at h ⊢
  have : d = 0 ∨ d = 1 ∨ d = 2 ∨ d = 3 ∨ d = 4 ∨ d = 5 ∨ d = 6 := by omega
  rcases this with rfl | rfl | rfl | rfl | rfl | rfl | rfl <;> decide
theorem sum_le1 : ∀ l : List (List Nat), (∀ x ∈ l, x.length ≤ 1) → (l.map (·.length)).sum ≤ l.length
  | [], _ => Nat.le_refl _
  | x :: r, h => by
    have h1 := h x (.head _)
    have h2 := sum_le1 r fun y hy => h y (.tail _ hy)
    simp only [List.map_cons, List.sum_cons, List.length_cons]; omega

theorem body_fn {G : GC} (hchr : nsIn G.K mainGlobals (Str.ofString "chr") = some none) (hrange : nsIn G.K mainGlobals (Str.ofString "range") = some none)
    {f : Addr} (D : DefAt G (Str.ofString "_law_body") f (fnP PP 17) (fnB PP 17) (fnS PP 17)) (n : Int) : FnPure G f 1 3 [.int n] (.s (bodyF n)) := by
  intro O F
  refine fn_of_bodyC D [Str.ofString "number", Str.ofString "signs"] ?_ (by decide) (by decide) rfl rfl rfl (by decide) (by simp) ?_
  · intro name qual doc pm an cdv ct vals hv
    match vals, hv with
    | [v1], _ => rfl
  intro c F' H room hsub
  have Hn := H.nms
  have hc : ∀ (k : Nat) (p p2 pos : Pos) (k2 : Nat) (σ : Sto) (O F : Led), k ≤ 1114111 → Evp c σ O F (.Call (.Name (Str.ofString "chr") p) [.Constant (.int (k : Int)) k2 p2] [] pos) (.s [k]) := fun k p p2 pos k2 σ O F hk => nchr_ Hn hchr rfl ev_int hk
  refine ex_cons (asgC_ H 1 rfl rfl (by simp) (ev_list (xs := signsL.map PV.s) ?_ (by decide) ?_))
  · exact ta_pp (ev_eq ev_str (by rw [lit_q])) (ta_pp (ev_eq ev_str (by rw [lit_q])) (ta_pp (ev_eq ev_str (by rw [show Str.ofString "=" = mk [61] from by decide +kernel])) (ta_pp (hc 256 _ _ _ _ _ _ _ (by decide)) (ta_pp (hc 257 _ _ _ _ _ _ _ (by decide)) (ta_pp (hc 259 _ _ _ _ _ _ _ (by decide)) (ta_pp (ev_eq ev_str (by rw [lit_e])) ta_np))))))
  intro a o hl
  simp only [List.map_cons, List.map_nil, List.cons_append, List.nil_append, List.set_cons_zero, List.set_cons_succ]
  refine TF.drop ?_
  refine ex_cons (ex_ret ?_)
  refine ev_join (z := []) (ps := (List.range 5).map fun k => signAt n k) (ev_eq ev_str (by rw [lit_e])) ?_ ?_
  · refine ev_comp (I0 := fun O1 N1 => O1 = (a, o) :: O ∧ N1 = []) (fun pv => match pv with | .int k => .s (signAt n k.toNat) | _ => .none) [(Str.ofString "number", .int n), (Str.ofString "signs", .ref a)] ⟨by decide, rfl, by decide, rfl⟩
      (it_range1 (n := 5) hrange (Hn.glob _ rfl) ev_int (by decide) ⟨rfl, rfl⟩ H.own) (by decide) ?_ ?_ (by show List.Nodup [Str.ofString "k", Str.ofString "number", Str.ofString "signs"]; decide) ?_ ?_
    · intro x hx
      rcases List.mem_cons.mp hx with rfl | hx
      · exact H.cell _ rfl
      rcases List.mem_cons.mp hx with rfl | hx
      · exact H.cell _ rfl
      cases hx
    · intro p hp
      rcases List.mem_cons.mp hp with rfl | hp
      · exact ⟨H.kind rfl, rfl, ⟨0, by rw [H.nm]; rfl, rfl⟩, by show Str.ofString "number" ∈ _; decide⟩
      rcases List.mem_cons.mp hp with rfl | hp
      · exact ⟨H.kind rfl, rfl, ⟨1, by rw [H.nm]; rfl, rfl⟩, by show Str.ofString "signs" ∈ _; decide⟩
      cases hp
    · rintro O1 N1 ⟨rfl, rfl⟩ pv hpv c' F2 Hc hs2
      have hm : (a, o) ∈ F2 := hs2 _ (.head _)
      obtain ⟨k, hk, rfl⟩ := List.mem_map.mp hpv
      have hk5 : k < 5 := List.mem_range.mp hk
      have e1 : (0 : Int) + (k : Int) * 1 = (k : Int) := by omega
      rw [e1]
      refine ev_listitem (i := digit n k) (xs := signsL.map PV.s) (nv_ Hc.nms 2 rfl rfl) ?_ (by simpa using hm) hl ?_ (by decide)
      · rw [← digit_is]
        refine ev_fmod (ev_fdiv (nv_ Hc.nms 1 rfl rfl) (ev_pow (b := (k : Int)) ev_int (nv_ Hc.nms 0 rfl rfl) (by omega) (by omega) (by decide)) ?_ ?_) ev_int (by decide)
        · have : (7 : Int) ^ k ≠ 0 := by
            have := Int.pow_pos (n := (7 : Int)) (m := k) (by decide); omega
          simpa using this
        · refine PyProof.noPylong_small ?_
          have : k = 0 ∨ k = 1 ∨ k = 2 ∨ k = 3 ∨ k = 4 := by omega
          rcases this with rfl | rfl | rfl | rfl | rfl <;> decide
      · have := digit_lt n k
        simp only [Int.toNat_natCast]
        unfold signAt
        rw [List.getElem?_map, List.getD_eq_getElem?_getD, List.getElem?_eq_getElem (by show digit n k < 7; exact this)]
        rfl
    · rintro O1 N1 a2 o2 ⟨rfl, rfl⟩ hl2
      refine ⟨a2, o2, rfl, by simp, ?_, O, ?_, rfl, rfl, rfl⟩
      · have e : (rangePV 0 1 5).map (fun pv => match pv with | .int k => PV.s (signAt n k.toNat) | _ => .none) = ((List.range 5).map fun k => signAt n k).map PV.s := by
          simp [rangePV]
        exact e ▸ hl2
      · exact List.Sublist.cons _ (List.Sublist.cons _ (List.Sublist.refl _))
  · have h1 : ∀ k, (signAt n k).length ≤ 1 := signAt_len n
    have := sum_le1 ((List.range 5).map fun k => signAt n k) (fun x hx => by obtain ⟨k, _, rfl⟩ := List.mem_map.mp hx; exact h1 k)
    simp only [List.length_map, List.length_range, List.length_nil] at this ⊢
    omega
end Mine
end
section
open PySem PySem.W PyProof.Rows PySem.Calls
set_option autoImplicit false
set_option linter.unusedVariables false
set_option linter.unusedSimpArgs false
set_option maxRecDepth 20000
namespace Mine

def escS (l : List Nat) : List Nat := replS [34] [34, 34] 0 l
def goalOf (name : List Nat) : List Nat := escS name ++ [34]
def firstE (rest : List Nat) : En := if rest.head? = some 34 then (2, 61 :: rest) else (0, rest)
def waysF (c : Nat) (g : Nat) (h b1 b0 : En) (last : Bool) : List En :=
  if c = 0 then (if last then [(2 + h.1, g :: h.2), (0, [])] else [(2 + h.1, g :: h.2)]) else [(2 + h.1, g :: h.2), (2 + b1.1, b1.2), (lcost c g + b0.1, g :: b0.2)]
def hereA (c : Nat) (f : En) (g : Nat → Nat) (b : Nat → En) : Nat → En
  | 0 => f
  | m + 1 => minE (waysF c (g m) (hereA c f g b m) (b (m + 1)) (b m) (m == 0))
def belowA (g : Nat → Nat) : List Nat → Nat → En
  | [] => hereA 0 (firstE []) g fun _ => (0, [])
  | c :: r => hereA c (firstE (c :: r)) g (belowA g r)
def revG (goal : List Nat) (m : Nat) : Nat := goal.getD (goal.length - 1 - m) 0
def mendF (body name : List Nat) : En := belowA (revG (goalOf name)) body (goalOf name).length

theorem minE_mem {es : List En} (h : es ≠ []) : minE es ∈ es := by
  have hpos : 0 < es.length := List.length_pos_iff.mpr h
  have hb := argBest_le (fun i j => ltE (es.getD i (0, [])) (es.getD j (0, []))) (es.length - 1)
  unfold minE
  rw [List.getD_eq_getElem?_getD, List.getElem?_eq_getElem (by omega)]
  exact List.getElem_mem _
theorem waysF_ne (c g : Nat) (h b1 b0 : En) (last : Bool) : waysF c g h b1 b0 last ≠ [] := by unfold waysF; split <;> (try split) <;> simp
theorem hereA_len {c : Nat} {f : En} {g : Nat → Nat} {b : Nat → En} {n : Nat} (hf : f.2.length ≤ n) (hb : ∀ m, (b m).2.length ≤ n + m) : ∀ m, (hereA c f g b m).2.length ≤ n + m
  | 0 => hf
  | m + 1 => by
    have ih := hereA_len (c := c) (g := g) hf hb m
    have h1 := hb (m + 1)
    have h0 := hb m
    have hm := minE_mem (waysF_ne c (g m) (hereA c f g b m) (b (m + 1)) (b m) (m == 0))
    rw [hereA]
    generalize minE _ = e at hm ⊢
    unfold waysF at hm
    split at hm
    · split at hm
      · simp only [List.mem_cons, List.not_mem_nil, or_false] at hm
        rcases hm with rfl | rfl <;> simp <;> omega
      · simp only [List.mem_cons, List.not_mem_nil, or_false] at hm
        subst hm; simp; omega
    · simp only [List.mem_cons, List.not_mem_nil, or_false] at hm
      rcases hm with rfl | rfl | rfl <;> simp <;> omega
theorem firstE_len (r : List Nat) : (firstE r).2.length ≤ r.length + 1 := by unfold firstE; split <;> simp
theorem belowA_len (g : Nat → Nat) : ∀ (r : List Nat) (m : Nat), (belowA g r m).2.length ≤ r.length + 1 + m
  | [], m => hereA_len (firstE_len []) (fun m => by simp) m
  | c :: r, m => hereA_len (firstE_len (c :: r)) (fun m => by have := belowA_len g r m; simp; omega) m

theorem escS_len (l : List Nat) : (escS l).length ≤ 2 * l.length := by
  unfold escS
  suffices H : ∀ (l : List Nat) (k : Nat), (replS [34] [34, 34] k l).length ≤ 2 * l.length from H l 0
  intro l
  induction l with
  | nil => intro k; simp [replS]
  | cons c r ih =>
    intro k
    cases k with
    | zero =>
      rw [replS]
      split
      · have := ih ([34].length - 1); simp only [List.length_append, List.length_cons, List.length_nil] at *; omega
      · have := ih 0; simp only [List.length_cons] at *; omega
    | succ k => rw [replS]; have := ih k; simp only [List.length_cons]; omega
theorem goalOf_small {l : List Nat} (h : ∀ x ∈ l, x < 2000000) : ∀ x ∈ goalOf l, x < 2000000 := by
  have H : ∀ (l : List Nat) (k : Nat), (∀ x ∈ l, x < 2000000) → ∀ x ∈ replS [34] [34, 34] k l, x < 2000000 := by
    intro l
    induction l with
    | nil => intro k _ x hx; simp [replS] at hx
    | cons c r ih =>
      intro k h x hx
      have hr : ∀ x ∈ r, x < 2000000 := fun x hx => h x (.tail _ hx)
      cases k with
      | zero =>
        rw [replS] at hx
        split at hx
        · rcases List.mem_append.mp hx with q | q
          · simp at q; omega
          · exact ih _ hr x q
        · rcases List.mem_cons.mp hx with rfl | q
          · exact h _ (.head _)
          · exact ih _ hr x q
      | succ k => rw [replS] at hx; exact ih k hr x hx
  intro x hx
  rcases List.mem_append.mp hx with q | q
  · exact H l 0 h x q
  · simp at q; omega

/-- the column behind the k-th turn -/
def colsOf (name body : List Nat) (k : Nat) : List En := if k = 0 then [] else (List.range ((goalOf name).length + 1)).map (belowA (revG (goalOf name)) (body.drop (body.length + 1 - k)))

theorem mend_fn {G : GC} (hchr : nsIn G.K mainGlobals (Str.ofString "len") = some none) (hrange : nsIn G.K mainGlobals (Str.ofString "range") = some none) (hmin : nsIn G.K mainGlobals (Str.ofString "min") = some none) (hord : nsIn G.K mainGlobals (Str.ofString "ord") = some none)
    (heof : ∃ t, nsIn G.K mainGlobals (Str.ofString "ENDMARKER") = some (some (.int 0 t)))
    {f fe fc : Addr} (D : DefAt G (Str.ofString "_law_mend") f (fnP PP 20) (fnB PP 20) (fnS PP 20))
    (ne : nsIn G.K mainGlobals (Str.ofString "ISEOF") = some (some (.ref fe))) (ke : keepIn G.K (.ref fe) = true) (nc : nsIn G.K mainGlobals (Str.ofString "_law_cost") = some (some (.ref fc))) (kc : keepIn G.K (.ref fc) = true)
    (he : ∀ x, FnPure G fe 1 3 [.int x] (.bool (x == 0))) (hc : ∀ a b : Nat, a < 2000000 → b < 2000000 → FnPure G fc 2 6 [.int a, .int b] (.int (lcost a b)))
    (body name : List Nat) (hb : body.length ≤ 1000) (hn : name.length ≤ 1000) (hbs : ∀ x ∈ body, x < 2000000) (hns : ∀ x ∈ name, x < 2000000) (O F : Led) :
    FnSpec G f 3 9 [.s body, .s name] O F fun pv O' N => ∃ a ob, pv = .ref a ∧ O' = O ∧ (a, ob) ∈ N ∧ TupO [.int (mendF body name).1, .s (mendF body name).2] ob := by
  refine fn_of_body D [Str.ofString "body", Str.ofString "name", Str.ofString "row", Str.ofString "goal", Str.ofString "size", Str.ofString "below", Str.ofString "i", Str.ofString "here", Str.ofString "j", Str.ofString "price", Str.ofString "text", Str.ofString "ways"] ?_ (by decide) (by decide) rfl rfl rfl (by decide) (by simp) ?_
  · intro name qual doc pm an cdv ct vals hv
    match vals, hv with
    | [v1, v2], _ => rfl
  intro c F' H room hsub
  obtain ⟨te, heof⟩ := heof
  have hesc : (goalOf name).length ≤ 2001 := by have := escS_len name; simp only [goalOf, List.length_append, List.length_cons, List.length_nil]; omega
  have hsz1 : 1 ≤ (goalOf name).length := by simp [goalOf]
  have hgs : ∀ x ∈ goalOf name, x < 2000000 := goalOf_small hns
  have f1 : ∀ (k : Nat) (pos : Pos) (σ : Sto) (O F : Led), EvFresh c σ O F (.Constant (.str (Str.ofString "\"\"")) k pos) (mk [34, 34]) := fun k pos σ O F => by rw [← lit_qq]; exact fresh_const
  have f2 : ∀ (k : Nat) (pos : Pos) (σ : Sto) (O F : Led), EvFresh c σ O F (.Constant (.str (Str.ofString "\"")) k pos) (mk [34]) := fun k pos σ O F => by rw [← lit_q]; exact fresh_const
  -- row
  refine ex_cons (asg_ H 2 rfl (by simp) (ev_addlist ?_))
  refine ev_comp (I0 := fun O1 N1 => O1 = O ∧ N1 = []) (fun pv => match pv with | .str x => .int ((x.cps.toList.headD 0 : Nat) : Int) | _ => .none) [] ⟨by decide, rfl, by decide, rfl⟩
    (it_str (v_ H 0 rfl rfl) ⟨rfl, rfl⟩) (by simp; omega) ?_ (fun p hp => nomatch hp) (by show List.Nodup [Str.ofString "sign"]; decide) ?_ ?_
  · exact fun n hn => nomatch (show n ∈ ([] : List Str) from hn)
  · rintro O1 N1 ⟨rfl, rfl⟩ pv hpv c' F2 Hc hs2
    obtain ⟨n, hn, rfl⟩ := List.mem_map.mp hpv
    exact ev_eq (nord_ Hc.nms (n := n) hord rfl (nv_ Hc.nms 0 rfl rfl)) (by simp [mk])
  rintro O1 N1 a oa ⟨rfl, rfl⟩ hla
  have hla' : ListO (body.map fun n : Nat => PV.int (n : Int)) oa := by
    have e : (body.map fun n => PV.s [n]).map (fun pv => match pv with | .str x => PV.int ((x.cps.toList.headD 0 : Nat) : Int) | _ => .none) = body.map fun n : Nat => PV.int (n : Int) := by
      rw [List.map_map]; refine List.map_congr_left fun n _ => ?_; simp [mk]
    exact e ▸ hla
  refine ev_list (ta_pp (g_ H heof (pv := .int 0) ⟨_, rfl⟩ rfl) ta_np) (by decide) ?_
  rintro b ob hlb
  refine ⟨a, oa, b, ob, _, _, rfl, rfl, by simp, by simp, hla', hlb, by simp; omega, ?_⟩
  rintro r orow hlr
  have hrow : ListO ((body ++ [0]).map fun n : Nat => PV.int (n : Int)) orow := by simpa using hlr
  simp only [List.map_cons, List.map_nil, List.cons_append, List.nil_append, List.length_cons, List.length_nil, List.replicate_succ, List.replicate_zero, List.set_cons_zero, List.set_cons_succ, List.append_nil]
  refine TG.dropO (O' := (r, orow) :: O1) (by simp) ?_
  refine TG.freezeN ?_
  -- goal, size, below
  refine s_asg H 3 rfl (by simp) (ev_eq (ev_adds (ev_replace (v_ H 1 rfl rfl) (f2 _ _ _ _ _) (f1 _ _ _ _ _) (by decide) (by decide) (by simp only [List.length_cons, List.length_nil]; omega)) (ev_eq ev_str (by rw [lit_q])) (by have := escS_len name; unfold escS at this; rw [mk_length, mk_length, sizeLine_eq]; simp only [List.length_cons, List.length_nil]; omega)) (by rw [mk_append]; first | done | rfl)) ?_
  refine s_asg H 4 rfl (by simp) (lens_ H hchr rfl (v_ H 3 rfl rfl) (Nat.le_trans hesc (by decide))) ?_
  refine ex_cons (asg_ H 5 rfl (by simp) (ev_list ta_np (by decide) ?_))
  intro b0 ob0 hlb0
  simp only [List.map_cons, List.map_nil, List.cons_append, List.nil_append, List.set_cons_zero, List.set_cons_succ, List.append_nil]
  refine TG.freezeN ?_
  have mrow : ∀ {L : Led}, (∀ p ∈ (b0, ob0) :: (r, orow) :: F', p ∈ L) → (r, orow) ∈ L := fun h => h _ (.tail _ (.head _))
  refine ex_cons (for_ H 6 (items := rangePV (body.length : Int) (-1) (body.length + 1)) rfl (fun k σ1 O2 N2 => ∃ (b : Addr) (ob : Obj) (z6 z7 z8 z9 z10 z11 : Option PV),
      σ1 = [some (.s body), some (.s name), some (.ref r), some (.s (goalOf name)), some (.int ((goalOf name).length : Int)), some (.ref b), z6, z7, z8, z9, z10, z11] ∧ O2 = O1 ∧
      (b, ob) ∈ N2 ++ ((b0, ob0) :: (r, orow) :: F') ∧ TList (colsOf name body k) N2 ob) ?_ (it_rangedown hrange (H.glob rfl) (lens_ H hchr rfl (v_ H 0 rfl rfl) (by omega)) (by omega) ?_ H.own) ?_ ?_)
  · rintro k σ1 O2 N2 ⟨b, ob, z6, z7, z8, z9, z10, z11, rfl, _⟩; simp
  · exact ⟨b0, ob0, _, _, _, _, _, _, rfl, rfl, by simp, TList.nil hlb0⟩
  · rintro k pv σ1 O2 N2 F2 hk ⟨b, ob, z6, z7, z8, z9, z10, z11, rfl, rfl, hbm, hbl⟩ hF2
    have hkl : k < body.length + 1 := by have := (List.getElem?_eq_some_iff.mp hk).1; rwa [rangePV_len] at this
    rw [rangePV_get hkl] at hk
    have hi : (body.length : Int) + (k : Int) * -1 = ((body.length - k : Nat) : Int) := by omega
    rw [hi] at hk
    cases hk
    have hil : body.length - k ≤ body.length := Nat.sub_le _ _
    generalize hidx : body.length - k = i at hil
    have hbF2 : (b, ob) ∈ F2 := hF2 _ hbm
    have hrF2 : (r, orow) ∈ F2 := hF2 _ (by simp)
    simp only [List.set_cons_zero, List.set_cons_succ]
    refine ex_cons (asg_ H 7 rfl (by simp) (ev_list1 (TV.mono (R := fun pv O' N => ∃ t ot, pv = .ref t ∧ TupO [.int (firstE (body.drop i)).1, .s (firstE (body.drop i)).2] ot ∧ O' = (t, ot) :: O2 ∧ N = []) ?_ ?_)))
    · have hfr : ∀ {σ : Sto} {Ox Fx : Led} {p1 p2 p3 p4 : Pos}, σ[0]? = some (some (.s body)) → σ[6]? = some (some (.int (i : Int))) → Evp c σ Ox Fx (.Subscript (.Name (Str.ofString "body") p1) (.Slice (some (.Name (Str.ofString "i") p2)) none none p3) p4) (.s (body.drop i)) :=
        fun h0 h6 => from_ (v_ H 0 rfl h0) (v_ H 6 rfl h6) hil (by omega)
      refine ev_ite (b := ((body.drop i).take 1 == [34])) (ts_eq (ts_cmpp (clip_ (a := i) (b := i + 1) (v_ H 0 rfl rfl) (v_ H 6 rfl rfl) (ev_eq (ev_add (v_ H 6 rfl rfl) ev_int) (by push_cast; rfl)) (by omega) hil (by omega)) (ev_eq ev_str (by rw [lit_q])) (.eqS _ _)) (by rw [mk_eq, show i + 1 - i = 1 by omega])) (fun e => ?_) (fun e => ?_)
      · have e' : (body.drop i).head? = some 34 := by
          cases hd : body.drop i with
          | nil => rw [hd] at e; simp at e
          | cons x xs => rw [hd] at e; simp at e; simp [e]
        refine ev_tuple (ta_pp ev_int (ta_pp (ev_eq (ev_adds (ev_eq ev_str (by rw [show Str.ofString "=" = mk [61] from by decide +kernel])) (hfr rfl rfl) (by rw [mk_length, mk_length, sizeLine_eq]; simp; omega)) (by rw [mk_append])) ta_np)) (by simp [sizeLine_eq]) fun a o ht => ⟨a, o, rfl, ?_, rfl, rfl⟩
        unfold firstE; rw [if_pos e']; exact ht
      · have e' : ¬ (body.drop i).head? = some 34 := by
          cases hd : body.drop i with
          | nil => simp
          | cons x xs => rw [hd] at e; simp at e; simp [e]
        refine ev_tuple (ta_pp ev_int (ta_pp (hfr rfl rfl) ta_np)) (by simp [sizeLine_eq]) fun a o ht => ⟨a, o, rfl, ?_, rfl, rfl⟩
        unfold firstE; rw [if_neg e']; exact ht
    rintro pv O' N ⟨t0, ot0, rfl, ht0, rfl, rfl⟩ h oh hlh
    simp only [List.map_cons, List.map_nil, List.cons_append, List.nil_append, List.set_cons_zero, List.set_cons_succ, List.append_nil]
    refine TG.permO (List.Perm.swap _ _ _) ?_
    refine TG.freezeN ?_
    generalize hcN : (body ++ [0]).getD i 0 = cN
    generalize hbF : (if k = 0 then (fun _ => (0, [])) else belowA (revG (goalOf name)) (body.drop (i + 1)) : Nat → En) = bF
    have hnext : belowA (revG (goalOf name)) (body.drop i) = hereA cN (firstE (body.drop i)) (revG (goalOf name)) bF := by
      by_cases hk0 : k = 0
      · have hil' : i = body.length := by omega
        rw [← hbF, if_pos hk0, ← hcN, hil', List.drop_length]
        simp [belowA]
      · have hil' : i < body.length := by omega
        rw [List.drop_eq_getElem_cons hil', belowA, ← hbF, if_neg hk0, ← hcN, List.getD_eq_getElem?_getD, List.getElem?_append_left hil', List.getElem?_eq_getElem hil']
        rfl
    generalize hG : hereA cN (firstE (body.drop i)) (revG (goalOf name)) bF = HA at hnext
    have hlen : ∀ m, (HA m).2.length ≤ body.length + 1 + m := by
      intro m; rw [← hnext]; have := belowA_len (revG (goalOf name)) (body.drop i) m; simp at this; omega
    refine ex_cons (for_ H 8 (items := rangePV (((goalOf name).length - 1 : Nat) : Int) (-1) ((goalOf name).length - 1 + 1)) rfl (fun m σ1 O3 N3 => ∃ (oh : Obj) (z8 z9 z10 z11 : Option PV),
      σ1 = [some (.s body), some (.s name), some (.ref r), some (.s (goalOf name)), some (.int ((goalOf name).length : Int)), some (.ref b), some (.int (i : Int)), some (.ref h), z8, z9, z10, z11] ∧ O3 = (h, oh) :: O2 ∧
      TList ((List.range (m + 1)).map HA) (N3 ++ [(t0, ot0)]) oh) ?_ (it_rangedown hrange (H.glob rfl) (ev_eq (ev_sub (v_ H 4 rfl rfl) ev_int) (by congr 1; omega)) (by omega) ?_ H.own) ?_ ?_)
    · rintro k σ1 O2 N2 ⟨oh, z8, z9, z10, z11, rfl, _⟩; simp
    · refine ⟨oh, _, _, _, _, rfl, rfl, ?_⟩
      have e0 : HA 0 = firstE (body.drop i) := by rw [← hG]; rfl
      exact TList.one (e := HA 0) hlh (.head _) (e0 ▸ ht0)
    · rintro m pv σ1 O3 N3 F3 hm ⟨oh, z8, z9, z10, z11, rfl, rfl, hT⟩ hF3
      have hml : m < (goalOf name).length := by have := (List.getElem?_eq_some_iff.mp hm).1; rw [rangePV_len] at this; omega
      rw [rangePV_get (by omega)] at hm
      generalize hjdx : (goalOf name).length - 1 - m = j
      have hj : (((goalOf name).length - 1 : Nat) : Int) + (m : Int) * -1 = (j : Int) := by omega
      have hjl : j < (goalOf name).length := by omega
      rw [hj] at hm
      cases hm
      have hgj : (goalOf name)[j] = revG (goalOf name) m := by
        unfold revG; rw [hjdx, List.getD_eq_getElem?_getD, List.getElem?_eq_getElem hjl]; rfl
      generalize hg : revG (goalOf name) m = g at hgj
      have hgsm : g < 2000000 := by rw [← hgj]; exact hgs _ (List.getElem_mem _)
      have hT' : TList ((List.range m).map HA ++ [HA m]) (N3 ++ [(t0, ot0)]) oh := by simpa [List.range_succ] using hT
      obtain ⟨xs, a1, ob1, hl1, hlx, hma, hta⟩ := hT'.last
      have hsub3 : ∀ p ∈ N3 ++ [(t0, ot0)], p ∈ F3 := fun p hp => hF3 p (by simp only [List.mem_append, List.mem_cons, List.not_mem_nil, or_false] at hp ⊢; grind)
      have hbF3 : (b, ob) ∈ F3 := hF3 _ (List.mem_append_right _ (.tail _ hbF2))
      have hrF3 : (r, orow) ∈ F3 := hF3 _ (List.mem_append_right _ (.tail _ hrF2))
      have hxl : xs.length ≤ 1048576 := by rw [hlx]; simp; omega
      simp only [List.set_cons_zero, List.set_cons_succ]
      refine s_unpack2 H 9 10 rfl rfl (by simp) (by simp) (ev_listlast (v_ H 7 rfl rfl) (ev_neg ev_int) (List.mem_append_left _ (.head _)) hl1 hxl) hta (List.mem_append_right _ (hsub3 _ hma)) ?_
      simp only [List.set_cons_zero, List.set_cons_succ]
      have hHl := hlen m
      refine ex_cons (asg_ H 11 rfl (by simp) (ev_list1 (ev_tuple (ta_pp (ev_add ev_int (v_ H 9 rfl rfl)) (ta_pp (ev_eq (ev_adds (item_ (v_ H 3 rfl rfl) (v_ H 8 rfl rfl) hjl (by omega)) (v_ H 10 rfl rfl) (by rw [mk_length, mk_length, sizeLine_eq]; simp; omega)) (by rw [mk_append, hgj]; first | done | rfl)) ta_np)) (by simp [sizeLine_eq]) ?_)))
      intro t1 ot1 ht1 w ow hlw
      simp only [List.map_cons, List.map_nil, List.cons_append, List.nil_append, List.set_cons_zero, List.set_cons_succ, List.append_nil]
      refine TG.permO (List.Perm.swap _ _ _) ?_
      refine TG.freezeN ?_
      have hW1 : TList [(2 + (HA m).1, g :: (HA m).2)] [(t1, ot1)] ow := TList.one hlw (.head _) ht1
      refine ex_cons (TF.mono (R := fun pf σ' O' N => pf = .next ∧ ∃ z9 z10 ow', σ' = [some (.s body), some (.s name), some (.ref r), some (.s (goalOf name)), some (.int ((goalOf name).length : Int)), some (.ref b), some (.int (i : Int)), some (.ref h), some (.int (j : Int)), z9, z10, some (.ref w)] ∧ O' = (w, ow') :: (h, oh) :: O2 ∧
        TList (waysF cN g (HA m) (bF (m + 1)) (bF m) (m == 0)) (N ++ [(t1, ot1)]) ow') ?_ ?_)
      · have hN2F3 : ∀ p ∈ N2, p ∈ F3 := fun p hp => hF3 p (List.mem_append_right _ (.tail _ (hF2 p (List.mem_append_left _ hp))))
        have hrowx : ((body ++ [0]).map fun n : Nat => PV.int (n : Int))[i]? = some (.int (cN : Int)) := by
          have : i < (body ++ [0]).length := by simp; omega
          rw [List.getElem?_map, List.getElem?_eq_getElem this, ← hcN, List.getD_eq_getElem?_getD, List.getElem?_eq_getElem this]; rfl
        have hrowi : ∀ {σ : Sto} {Ox Fx : Led} {p1 p2 p3 : Pos}, σ[2]? = some (some (.ref r)) → σ[6]? = some (some (.int (i : Int))) → (r, orow) ∈ Fx → Evp c σ Ox Fx (.Subscript (.Name (Str.ofString "row") p1) (.Name (Str.ofString "i") p2) p3) (.int (cN : Int)) :=
          fun h2 h6 hm => ev_listitem (i := i) (v_ H 2 rfl h2) (v_ H 6 rfl h6) (List.mem_append_right _ hm) hrow hrowx (by simp; omega)
        have hcsm : cN < 2000000 := by
          have : i < (body ++ [0]).length := by simp; omega
          rw [← hcN, List.getD_eq_getElem?_getD, List.getElem?_eq_getElem this]
          have hm := List.getElem_mem this
          rcases List.mem_append.mp hm with q | q
          · exact hbs _ q
          · simp only [List.mem_singleton] at q; simp [q]
        refine ex_if (b := !((cN : Int) == 0)) (ts_not (ts_call (callp_ H ne ke rfl (ta_pp (hrowi rfl rfl (.tail _ hrF3)) ta_np) (he _) (room.le (by omega) (by omega))))) (fun e => ?_) (fun e => ?_)
        · have hc0 : cN ≠ 0 := by intro q; rw [q] at e; simp at e
          have hk0 : k ≠ 0 := by
            intro q
            apply hc0
            rw [← hcN, ← hidx, q]; simp
          have hcol : TList ((List.range ((goalOf name).length + 1)).map bF) N2 ob := by
            have := hbl
            unfold colsOf at this
            rw [if_neg hk0, show body.length + 1 - k = i + 1 by omega] at this
            rw [← hbF, if_neg hk0]; exact this
          have hbFl : ∀ q, (bF q).2.length ≤ body.length + 1 + q := by
            intro q; rw [← hbF, if_neg hk0]; have := belowA_len (revG (goalOf name)) (body.drop (i + 1)) q; simp at this; omega
          obtain ⟨xs2, a2, ob2, hl2, hlx2, hx2, hm2, ht2⟩ := hcol.get (i := m + 1) (e := bF (m + 1)) (by rw [List.getElem?_map, List.getElem?_range (by omega)]; rfl)
          obtain ⟨xs3, a3, ob3, hl3, hlx3, hx3, hm3, ht3⟩ := hcol.get (i := m) (e := bF m) (by rw [List.getElem?_map, List.getElem?_range (by omega)]; rfl)
          have hxl2 : xs2.length ≤ 1048576 := by rw [hlx2, List.length_map, List.length_range]; omega
          have hxl3 : xs3.length ≤ 1048576 := by rw [hlx3, List.length_map, List.length_range]; omega
          refine s_unpack2 H 9 10 rfl rfl (by simp) (by simp) (ev_listitem (i := m + 1) (v_ H 5 rfl rfl) (ev_eq (ev_sub (v_ H 4 rfl rfl) (v_ H 8 rfl rfl)) (by congr 1; omega)) (List.mem_append_right _ (.tail _ hbF3)) hl2 hx2 hxl2) ht2 (List.mem_append_right _ (.tail _ (hN2F3 _ hm2))) ?_
          simp only [List.set_cons_zero, List.set_cons_succ]
          obtain ⟨as1, hla1, hlal1, hsn1⟩ := hW1.list
          refine ex_cons (ex_expr (ev_append2 (v_ H 11 rfl rfl) (ev_tuple (ta_pp (ev_add ev_int (v_ H 9 rfl rfl)) (ta_pp (v_ H 10 rfl rfl) ta_np)) (by simp [sizeLine_eq]) ?_) hla1 (by simp [hlal1])) (by unfold interactive; rw [c.hek]; rfl))
          intro t2 ot2 hT2
          refine ⟨_, List.Perm.swap _ _ _, fun ow2 how2 => ?_⟩
          simp only [List.nil_append]
          refine TG.permO (List.Perm.swap _ _ _) ?_
          refine TG.freezeN ?_
          have hW2 := hsn1 [(t2, ot2), (t1, ot1)] t2 ot2 (2 + (bF (m + 1)).1, (bF (m + 1)).2) ow2 (fun p hp => .tail _ hp) (.head _) hT2 how2
          refine s_unpack2 H 9 10 rfl rfl (by simp) (by simp) (ev_listitem (i := m) (v_ H 5 rfl rfl) (ev_eq (ev_sub (ev_sub (v_ H 4 rfl rfl) (v_ H 8 rfl rfl)) ev_int) (by congr 1; omega)) (List.mem_append_right _ (.tail _ (.tail _ hbF3))) hl3 hx3 hxl3) ht3 (List.mem_append_right _ (.tail _ (.tail _ (hN2F3 _ hm3)))) ?_
          simp only [List.set_cons_zero, List.set_cons_succ]
          obtain ⟨as2, hla2, hlal2, hsn2⟩ := hW2.list
          have hb3 := hbFl m
          have hitem : ∀ {σ : Sto} {Ox Fx : Led} {p1 p2 p3 : Pos}, σ[3]? = some (some (.s (goalOf name))) → σ[8]? = some (some (.int (j : Int))) → Evp c σ Ox Fx (.Subscript (.Name (Str.ofString "goal") p1) (.Name (Str.ofString "j") p2) p3) (.s [g]) :=
            fun h3 h8 => ev_eq (item_ (v_ H 3 rfl h3) (v_ H 8 rfl h8) hjl (by omega)) (by rw [hgj])
          refine ex_cons (ex_expr (ev_append2 (v_ H 11 rfl rfl) (ev_tuple (ta_pp (ev_add (callp_ H nc kc rfl (ta_pp (hrowi rfl rfl (.tail _ (.tail _ hrF3))) (ta_pp (nord_ H.nms hord rfl (hitem rfl rfl)) ta_np)) (hc cN g hcsm hgsm) room) (v_ H 9 rfl rfl)) (ta_pp (ev_eq (ev_adds (hitem rfl rfl) (v_ H 10 rfl rfl) (by rw [mk_length, mk_length, sizeLine_eq]; simp; omega)) (by rw [mk_append])) ta_np)) (by simp [sizeLine_eq]) ?_) hla2 (by simp [hlal2])) (by unfold interactive; rw [c.hek]; rfl))
          intro t3 ot3 hT3
          refine ⟨_, List.Perm.swap _ _ _, fun ow3 how3 => ?_⟩
          simp only [List.nil_append]
          refine TG.permO (List.Perm.swap _ _ _) ?_
          refine TG.freezeN (ex_nil ?_)
          refine ⟨rfl, _, _, ow3, rfl, rfl, ?_⟩
          have hW3 := hsn2 [(t3, ot3), (t2, ot2), (t1, ot1)] t3 ot3 (lcost cN g + (bF m).1, g :: (bF m).2) ow3 (fun p hp => .tail _ hp) (.head _) hT3 how3
          have e3 : waysF cN g (HA m) (bF (m + 1)) (bF m) (m == 0) = [(2 + (HA m).1, g :: (HA m).2)] ++ [(2 + (bF (m + 1)).1, (bF (m + 1)).2)] ++ [(lcost cN g + (bF m).1, g :: (bF m).2)] := by
            unfold waysF; rw [if_neg hc0]; rfl
          rw [e3]
          simpa using hW3
        · have hc0 : cN = 0 := by
            have : ((cN : Int) == 0) = true := by simpa using e
            have := eq_of_beq this; omega
          refine ex_cons (ex_if (b := (m == 0)) (ts_eq (ts_cmpp (v_ H 8 rfl rfl) (ev_sub (v_ H 4 rfl rfl) ev_int) (.eqI _ _)) (by
            rw [Bool.eq_iff_iff, beq_iff_eq, beq_iff_eq]; omega)) (fun e2 => ?_) (fun e2 => ?_))
          · obtain ⟨as1, hla1, hlal1, hsn1⟩ := hW1.list
            refine ex_cons (ex_expr (ev_append2 (v_ H 11 rfl rfl) (ev_tuple (ta_pp ev_int (ta_pp (ev_eq ev_str (by rw [lit_e])) ta_np)) (by simp [sizeLine_eq]) ?_) hla1 (by simp [hlal1])) (by unfold interactive; rw [c.hek]; rfl))
            intro t2 ot2 hT2
            refine ⟨_, List.Perm.swap _ _ _, fun ow2 how2 => ?_⟩
            simp only [List.nil_append]
            refine TG.permO (List.Perm.swap _ _ _) ?_
            refine TG.freezeN (ex_nil (ex_nil ?_))
            refine ⟨rfl, _, _, ow2, rfl, rfl, ?_⟩
            have hW2 := hsn1 [(t2, ot2), (t1, ot1)] t2 ot2 (0, []) ow2 (fun p hp => .tail _ hp) (.head _) hT2 how2
            have e3 : waysF cN g (HA m) (bF (m + 1)) (bF m) (m == 0) = [(2 + (HA m).1, g :: (HA m).2)] ++ [(0, [])] := by
              unfold waysF; rw [if_pos hc0, e2]; rfl
            rw [e3]
            simpa using hW2
          · refine ex_nil (ex_nil ?_)
            refine ⟨rfl, _, _, ow, rfl, rfl, ?_⟩
            have e3 : waysF cN g (HA m) (bF (m + 1)) (bF m) (m == 0) = [(2 + (HA m).1, g :: (HA m).2)] := by
              unfold waysF; rw [if_pos hc0, e2]; rfl
            rw [e3]
            simpa using hW1
      rintro pf σ' O' N ⟨rfl, z9, z10, ow', rfl, rfl, hW⟩
      refine TF.drop ?_
      refine TG.permO (List.Perm.swap _ _ _) ?_
      obtain ⟨as, hla, hlal, hsn⟩ := hT.list
      have hal : (as.map PV.ref).length ≤ 1048576 := by simp [hlal]; omega
      refine ex_cons (ex_expr (ev_append2 (v_ H 7 rfl rfl) (TV.mono (R := fun pv O' N' => O' = (h, oh) :: (w, ow') :: O2 ∧ N' = [] ∧ ∃ a ob, pv = .ref a ∧ (a, ob) ∈ N ++ [(t1, ot1)] ∧ TupO [.int (HA (m + 1)).1, .s (HA (m + 1)).2] ob) (ev_bcall hmin (by boot_fast) (H.glob rfl) (ta_consp (v_ H 11 rfl rfl) (ta_nil fun vals hv => ?_))) ?_) hla hal) (by unfold interactive; rw [c.hek]; rfl))
      · obtain ⟨v, rfl, iv⟩ := hv.one
        cases iv
        have := bi_minE (c := c) (σ := [some (.s body), some (.s name), some (.ref r), some (.s (goalOf name)), some (.int ((goalOf name).length : Int)), some (.ref b), some (.int (i : Int)), some (.ref h), some (.int (j : Int)), z9, z10, some (.ref w)]) (O := (h, oh) :: (w, ow') :: O2) (F := N ++ ((t1, ot1) :: F3)) (l := w) (o := ow') (List.mem_append_left _ (.tail _ (.head _))) hW (fun p hp => by simp only [List.mem_append, List.mem_cons, List.not_mem_nil, or_false] at hp ⊢; grind) (waysF_ne _ _ _ _ _ _) (room.le (by omega) (by omega))
        refine TV.mono this ?_
        rintro pv O' N' ⟨rfl, rfl, a, ob, rfl, hma, hta⟩
        refine ⟨rfl, rfl, a, ob, rfl, hma, ?_⟩
        have e : HA (m + 1) = minE (waysF cN g (HA m) (bF (m + 1)) (bF m) (m == 0)) := by rw [← hG, ← hg]; rfl
        rw [e]; exact hta
      · rintro pv O' N' ⟨rfl, rfl, a, ob, rfl, hma, hta⟩
        refine ⟨_, List.Perm.refl _, fun o' ho' => ex_nil ⟨(h, o') :: O2, by simp, ?_⟩⟩
        refine ⟨o', _, _, _, _, rfl, rfl, ?_⟩
        have e : (List.range (m + 1 + 1)).map HA = (List.range (m + 1)).map HA ++ [HA (m + 1)] := by rw [List.range_succ]; simp
        rw [e]
        refine hsn _ a ob (HA (m + 1)) o' (fun p hp => by simp only [List.mem_append, List.mem_cons, List.not_mem_nil, or_false] at hp ⊢; grind) ?_ hta ho'
        simp only [List.mem_append, List.mem_cons, List.not_mem_nil, or_false, List.nil_append, List.append_assoc] at hma ⊢
        grind
    · rintro σ1 O3 N3 ⟨oh3, z8, z9, z10, z11, rfl, rfl, hT⟩
      refine s_asg H 5 rfl (by simp) (v_ H 7 rfl rfl) ?_
      simp only [List.set_cons_zero, List.set_cons_succ]
      refine TG.freezeN (ex_nil ?_)
      refine ⟨h, oh3, _, _, _, _, _, _, rfl, rfl, by simp, ?_⟩
      have e2 : colsOf name body (k + 1) = (List.range ((goalOf name).length + 1)).map HA := by
        unfold colsOf
        rw [if_neg (by omega), show body.length + 1 - (k + 1) = i by omega, hnext]
      rw [e2]
      rw [rangePV_len, show (goalOf name).length - 1 + 1 + 1 = (goalOf name).length + 1 by omega] at hT
      exact hT.mono fun p hp => by simp only [List.mem_append, List.mem_cons, List.not_mem_nil, or_false] at hp ⊢; grind
  · rintro σ1 O2 N2 ⟨b, ob, z6, z7, z8, z9, z10, z11, rfl, rfl, hbm, hbl⟩
    have e1 : (colsOf name body (rangePV (body.length : Int) (-1) (body.length + 1)).length)[(goalOf name).length]? = some (mendF body name) := by
      rw [rangePV_len]
      unfold colsOf
      rw [if_neg (by omega)]
      simp [mendF]
    obtain ⟨xs, a, oa, hl, hlen, hx, hm, ht⟩ := hbl.get e1
    have hxl : xs.length ≤ 1048576 := by rw [hlen, rangePV_len]; unfold colsOf; rw [if_neg (by omega)]; simp; omega
    refine s_ret (ev_listitem (i := (goalOf name).length) (v_ H 5 rfl rfl) (v_ H 4 rfl rfl) (List.mem_append_right _ hbm) hl hx hxl) ?_
    exact ⟨a, oa, rfl, rfl, by simp [hm], ht⟩
end Mine
end
section
open PySem PySem.W PyProof.Rows PySem.Calls
set_option autoImplicit false
set_option linter.unusedVariables false
namespace Mine

/-! ### the distance of two words, and that levF reckons it -/
theorem cost_nonneg (x y : Nat) : 0 ≤ costN x y := by unfold costN; split <;> (try split) <;> decide
theorem cost_le2 (x y : Nat) : costN x y ≤ 2 := by unfold costN; split <;> (try split) <;> decide
theorem cost_self (x : Nat) : costN x x = 0 := by unfold costN; simp
theorem cost_symm (x y : Nat) : costN x y = costN y x := by
  unfold costN
  by_cases h : x = y
  · subst h; rfl
  · have h1 : (x == y) = false := by simpa using h
    have h2 : (y == x) = false := by simpa using fun e => h (Eq.symm e)
    rw [h1, h2]
    by_cases h3 : Txt.lower (mk [x]) = Txt.lower (mk [y])
    · rw [h3]
    · have h4 : (Txt.lower (mk [x]) == Txt.lower (mk [y])) = false := by simpa using h3
      have h5 : (Txt.lower (mk [y]) == Txt.lower (mk [x])) = false := by simpa using fun e => h3 (Eq.symm e)
      rw [h4, h5]
theorem cost_zero {x y : Nat} (h : costN x y = 0) : x = y := by
  unfold costN at h
  split at h
  · rename_i e; exact eq_of_beq e
  · split at h <;> cases h

inductive Al : List Nat → List Nat → Int → Prop
  | nil : Al [] [] 0
  | del {a b : List Nat} {k : Int} (x : Nat) : Al a b k → Al (x :: a) b (2 + k)
  | ins {a b : List Nat} {k : Int} (y : Nat) : Al a b k → Al a (y :: b) (2 + k)
  | sub {a b : List Nat} {k : Int} (x y : Nat) : Al a b k → Al (x :: a) (y :: b) (costN x y + k)

def D : List Nat → List Nat → Int
  | [], b => 2 * b.length
  | x :: a, [] => 2 * (x :: a).length
  | x :: a, y :: b => min (min (2 + D a (y :: b)) (2 + D (x :: a) b)) (costN x y + D a b)
termination_by a b => a.length + b.length

theorem D_nil_left (b : List Nat) : D [] b = 2 * b.length := by rw [D]
theorem D_nil_right (a : List Nat) : D a [] = 2 * a.length := by cases a <;> simp [D]
theorem D_cons (x y : Nat) (a b : List Nat) : D (x :: a) (y :: b) = min (min (2 + D a (y :: b)) (2 + D (x :: a) b)) (costN x y + D a b) := by rw [D]

theorem D_del (x : Nat) (a b : List Nat) : D (x :: a) b ≤ 2 + D a b := by
  cases b with
  | nil => rw [D_nil_right, D_nil_right]; simp; omega
  | cons y b => rw [D_cons]; omega
theorem D_ins (y : Nat) (a b : List Nat) : D a (y :: b) ≤ 2 + D a b := by
  cases a with
  | nil => rw [D_nil_left, D_nil_left]; simp; omega
  | cons x a => rw [D_cons]; omega
theorem D_sub (x y : Nat) (a b : List Nat) : D (x :: a) (y :: b) ≤ costN x y + D a b := by rw [D_cons]; omega

theorem D_of_Al {a b : List Nat} {k : Int} (h : Al a b k) : D a b ≤ k := by
  induction h with
  | nil => simp [D]
  | @del a b k x _ ih => have := D_del x a b; omega
  | @ins a b k y _ ih => have := D_ins y a b; omega
  | @sub a b k x y _ ih => have := D_sub x y a b; omega

theorem Al_left : ∀ a : List Nat, Al a [] (2 * a.length)
  | [] => Al.nil
  | x :: a => by
    have := Al.del x (Al_left a)
    have e : (2 : Int) * ((x :: a).length : Nat) = 2 + 2 * (a.length : Nat) := by simp; omega
    rw [e]; exact this
theorem Al_right : ∀ a : List Nat, Al [] a (2 * a.length)
  | [] => Al.nil
  | x :: a => by
    have := Al.ins x (Al_right a)
    have e : (2 : Int) * ((x :: a).length : Nat) = 2 + 2 * (a.length : Nat) := by simp; omega
    rw [e]; exact this
theorem Al_D (a b : List Nat) : Al a b (D a b) := by
  fun_induction D a b with
  | case1 b => exact Al_right b
  | case2 x a => exact Al_left (x :: a)
  | case3 x a y b ih1 ih2 ih3 =>
    rcases Int.le_total (min (2 + D a (y :: b)) (2 + D (x :: a) b)) (costN x y + D a b) with h | h
    · rw [Int.min_eq_left h]
      rcases Int.le_total (2 + D a (y :: b)) (2 + D (x :: a) b) with h | h
      · rw [Int.min_eq_left h]; exact .del x ih1
      · rw [Int.min_eq_right h]; exact .ins y ih2
    · rw [Int.min_eq_right h]; exact .sub x y ih3

theorem Al.append {a b a' b' : List Nat} {k k' : Int} (h : Al a b k) (h' : Al a' b' k') : Al (a ++ a') (b ++ b') (k + k') := by
  induction h with
  | nil => simpa using h'
  | del x _ ih => have := Al.del x ih; rw [Int.add_assoc]; exact this
  | ins y _ ih => have := Al.ins y ih; rw [Int.add_assoc]; exact this
  | sub x y _ ih => have := Al.sub x y ih; rw [Int.add_assoc]; exact this
theorem Al.rev {a b : List Nat} {k : Int} (h : Al a b k) : Al a.reverse b.reverse k := by
  induction h with
  | nil => exact .nil
  | del x _ ih => have := ih.append (Al.del x Al.nil); simp only [List.reverse_cons, List.append_nil] at this ⊢; rw [Int.add_comm]; simpa using this
  | ins y _ ih => have := ih.append (Al.ins y Al.nil); simp only [List.reverse_cons, List.append_nil] at this ⊢; rw [Int.add_comm]; simpa using this
  | sub x y _ ih => have := ih.append (Al.sub x y Al.nil); simp only [List.reverse_cons] at this ⊢; rw [Int.add_comm]; simpa using this
theorem Al.symm {a b : List Nat} {k : Int} (h : Al a b k) : Al b a k := by
  induction h with
  | nil => exact .nil
  | del x _ ih => exact .ins x ih
  | ins y _ ih => exact .del y ih
  | sub x y _ ih => have := Al.sub y x ih; rw [cost_symm]; exact this
theorem Al.nonneg {a b : List Nat} {k : Int} (h : Al a b k) : 0 ≤ k := by
  induction h with
  | nil => decide
  | del x _ ih => omega
  | ins y _ ih => omega
  | sub x y _ ih => have := cost_nonneg x y; omega
theorem Al.len {a b : List Nat} {k : Int} (h : Al a b k) : 2 * ((b.length : Int) - a.length) ≤ k := by
  induction h with
  | nil => decide
  | del x _ ih => simp; omega
  | ins y _ ih => simp; omega
  | sub x y _ ih => have := cost_nonneg x y; simp; omega
theorem Al.zero {a b : List Nat} {k : Int} (h : Al a b k) (hk : k = 0) : a = b := by
  induction h with
  | nil => rfl
  | del x h ih => have := h.nonneg; omega
  | ins y h ih => have := h.nonneg; omega
  | sub x y h ih =>
    have h1 := h.nonneg
    have h2 := cost_nonneg x y
    have h3 : costN x y = 0 := by omega
    rw [cost_zero h3, ih (by omega)]
theorem Al.refl : ∀ a : List Nat, Al a a 0
  | [] => .nil
  | x :: a => by have := Al.sub x x (Al.refl a); rw [cost_self] at this; exact this

theorem D_symm (a b : List Nat) : D a b = D b a := Int.le_antisymm (D_of_Al (Al_D b a).symm) (D_of_Al (Al_D a b).symm)
theorem D_rev (a b : List Nat) : D a.reverse b.reverse = D a b :=
  Int.le_antisymm (D_of_Al (Al_D a b).rev) (by have := D_of_Al (Al_D a.reverse b.reverse).rev; simpa using this)
theorem D_nonneg (a b : List Nat) : 0 ≤ D a b := (Al_D a b).nonneg
theorem D_len (a b : List Nat) : 2 * ((b.length : Int) - a.length) ≤ D a b := (Al_D a b).len
theorem D_self (a : List Nat) : D a a = 0 := Int.le_antisymm (D_of_Al (Al.refl a)) (D_nonneg _ _)
theorem D_zero {a b : List Nat} (h : D a b = 0) : a = b := (Al_D a b).zero h

theorem Al.tail {a b : List Nat} {k : Int} (h : Al a b k) : ∀ y b', b = y :: b' → D a b' ≤ 2 + k := by
  induction h with
  | nil => intro y b' e; cases e
  | @del a b k x h ih =>
    intro y b' e
    have h1 := ih y b' e
    have h2 := D_del x a b'
    omega
  | @ins a b k y0 h ih =>
    intro y b' e
    cases e
    have := D_of_Al h
    omega
  | @sub a b k x y0 h ih =>
    intro y b' e
    cases e
    have h1 := D_del x a b
    have h2 := D_of_Al h
    have h3 := cost_nonneg x y0
    omega
theorem D_lip_right (y : Nat) (a b : List Nat) : D a b ≤ 2 + D a (y :: b) := (Al_D a (y :: b)).tail y b rfl
theorem D_lip_left (x : Nat) (a b : List Nat) : D a b ≤ 2 + D (x :: a) b := by rw [D_symm a b, D_symm (x :: a) b]; exact D_lip_right x b a
theorem D_same (x : Nat) (a b : List Nat) : D (x :: a) (x :: b) = D a b := by
  rw [D_cons, cost_self]
  have h1 := D_lip_right x a b
  have h2 := D_lip_left x a b
  omega
theorem D_pre : ∀ p a b : List Nat, D (p ++ a) (p ++ b) = D a b
  | [], _, _ => rfl
  | x :: p, a, b => by rw [List.cons_append, List.cons_append, D_same, D_pre p]
theorem D_post (p a b : List Nat) : D (a ++ p) (b ++ p) = D a b := by
  rw [← D_rev, List.reverse_append, List.reverse_append, D_pre, D_rev]

theorem comPre_take : ∀ a b : List Nat, a.take (comPre a b) = b.take (comPre a b)
  | [], b => by cases b <;> simp [comPre]
  | x :: a, [] => by simp [comPre]
  | x :: a, y :: b => by
    unfold comPre
    split
    · rename_i e; subst e; simp [comPre_take a b]
    · simp
theorem trim_is (a b : List Nat) : D (trimA a b) (trimA b a) = D a b := by
  have h1 := comPre_take a b
  have ea : a = a.take (comPre a b) ++ a.drop (comPre a b) := (List.take_append_drop _ _).symm
  have eb : b = a.take (comPre a b) ++ b.drop (comPre a b) := by rw [h1]; exact (List.take_append_drop _ _).symm
  have e1 : D a b = D (a.drop (comPre a b)) (b.drop (comPre a b)) := by
    exact (congr (congrArg D ea) eb).trans (D_pre _ _ _)
  rw [e1]
  unfold trimA
  simp only [comPre_comm b a]
  generalize a.drop (comPre a b) = a1
  generalize b.drop (comPre a b) = b1
  rw [comPre_comm b1.reverse a1.reverse]
  have h2 := comPre_take a1.reverse b1.reverse
  have hle := comPre_le a1.reverse b1.reverse
  generalize comPre a1.reverse b1.reverse = k at h2 hle
  have s1 : a1 = a1.take (a1.length - k) ++ (a1.reverse.take k).reverse := by
    rw [List.take_reverse, List.reverse_reverse]; exact (List.take_append_drop _ _).symm
  have s2 : b1 = b1.take (b1.length - k) ++ (a1.reverse.take k).reverse := by
    rw [h2, List.take_reverse, List.reverse_reverse]; exact (List.take_append_drop _ _).symm
  exact ((congr (congrArg D s1) s2).trans (D_post _ _ _)).symm
end Mine
end
section
open PySem PySem.W PyProof.Rows PySem.Calls
set_option autoImplicit false
set_option linter.unusedVariables false
namespace Mine

section
variable (a b : List Nat)
def EE (i j : Nat) : Int := D (b.take i).reverse (a.take j).reverse
theorem EE_0 {j : Nat} (h : j ≤ a.length) : EE a b 0 j = 2 * j := by unfold EE; simp [D_nil_left]; omega
theorem EE_c0 {i : Nat} (h : i ≤ b.length) : EE a b i 0 = 2 * i := by unfold EE; simp [D_nil_right]; omega
theorem EE_step {i j : Nat} (hi : i < b.length) (hj : j < a.length) : EE a b (i + 1) (j + 1) = min (min (2 + EE a b i (j + 1)) (2 + EE a b (i + 1) j)) (costN b[i] a[j] + EE a b i j) := by
  have e1 : (b.take (i + 1)).reverse = b[i] :: (b.take i).reverse := by rw [List.take_succ_eq_append_getElem hi]; simp
  have e2 : (a.take (j + 1)).reverse = a[j] :: (a.take j).reverse := by rw [List.take_succ_eq_append_getElem hj]; simp
  unfold EE
  rw [e1, e2, D_cons]
theorem EE_all : EE a b b.length a.length = D a b := by unfold EE; rw [List.take_length, List.take_length, D_rev, D_symm]
theorem EE_1 {i : Nat} (hi : i < b.length) (hn : 0 < a.length) : EE a b (i + 1) 1 ≤ 2 * ((i : Int) + 1) := by
  rw [EE_step a b hi hn]
  have h0 := EE_c0 a b (Nat.le_of_lt hi)
  have := cost_le2 b[i] a[0]
  omega
def rowE (i : Nat) : List Int := (List.range a.length).map fun j => EE a b i (j + 1)

theorem inner_inv {i : Nat} (hi : i < b.length) : ∀ j, j ≤ a.length → ∃ mn : Int, (∀ t, t < j → mn ≤ EE a b (i + 1) (t + 1)) ∧
    ((a.zip (rowE a b i)).take j).foldl (stepI b[i]) ⟨[], (i : Int) * 2, (i : Int) * 2, 9223372036854775807⟩ = ⟨(List.range j).map fun t => EE a b (i + 1) (t + 1), EE a b i j, if j = 0 then (i : Int) * 2 else EE a b (i + 1) j, mn⟩ := by
  intro j
  induction j with
  | zero => intro _; exact ⟨9223372036854775807, fun t h => by omega, by simp [EE_c0 a b (Nat.le_of_lt hi)]; omega⟩
  | succ j ih =>
    intro hj
    obtain ⟨mn, h1, h2⟩ := ih (by omega)
    have hzl : j < (a.zip (rowE a b i)).length := by simp [rowE]; omega
    have hz : (a.zip (rowE a b i))[j] = (a[j], EE a b i (j + 1)) := by simp [rowE]
    have hr : pmin (pmin (if j = 0 then (i : Int) * 2 else EE a b (i + 1) j) (EE a b i (j + 1)) + 2) (EE a b i j + costN b[i] a[j]) = EE a b (i + 1) (j + 1) := by
      rw [EE_step a b hi hj]
      have hc := cost_le2 b[i] a[j]
      unfold pmin
      by_cases hj0 : j = 0
      · subst hj0
        rw [if_pos rfl, EE_c0 a b (Nat.le_of_lt hi), EE_c0 a b (show i + 1 ≤ b.length from hi)]
        push_cast
        split <;> split <;> omega
      · rw [if_neg hj0]
        split <;> split <;> omega
    refine ⟨if EE a b (i + 1) (j + 1) < mn then EE a b (i + 1) (j + 1) else mn, fun t ht => ?_, ?_⟩
    · by_cases e : t = j
      · subst e; split <;> omega
      · have := h1 t (by omega); split <;> omega
    · rw [List.take_succ_eq_append_getElem hzl, List.foldl_append, h2, hz]
      simp only [List.foldl_cons, List.foldl_nil, stepI, hr, List.range_succ, List.map_append, List.map_cons, List.map_nil, Nat.add_eq_zero_iff, Nat.one_ne_zero, and_false, if_false]

theorem inner_is {i : Nat} (hi : i < b.length) (hn : 0 < a.length) : ∃ mn : Int, (∀ t, t < a.length → mn ≤ EE a b (i + 1) (t + 1)) ∧
    innerF b[i] a (rowE a b i) ((i : Int) * 2) = ⟨rowE a b (i + 1), EE a b i a.length, EE a b (i + 1) a.length, mn⟩ := by
  obtain ⟨mn, h1, h2⟩ := inner_inv a b hi a.length (Nat.le_refl _)
  refine ⟨mn, h1, ?_⟩
  have hl : (a.zip (rowE a b i)).length = a.length := by simp [rowE]
  rw [List.take_of_length_le (by omega), if_neg (by omega)] at h2
  exact h2

theorem rows_up {m : Int} (hn : 0 < a.length) : ∀ (k r : Nat), b.length - r = k → 1 ≤ r → r ≤ b.length → (∀ j, j ≤ a.length → m < EE a b r j) → m < EE a b b.length a.length := by
  intro k
  induction k with
  | zero => intro r hk h1 h2 h; have : r = b.length := by omega
            subst this; exact h _ (Nat.le_refl _)
  | succ k ih =>
    intro r hk h1 h2 h
    refine ih (r + 1) (by omega) (by omega) (by omega) ?_
    intro j
    induction j with
    | zero =>
      intro _
      have := h 0 (Nat.zero_le _)
      rw [EE_c0 a b h2] at this
      rw [EE_c0 a b (by omega)]
      push_cast; omega
    | succ j ihj =>
      intro hj
      rw [EE_step a b (by omega) hj]
      have a1 := h (j + 1) hj
      have a2 := h j (by omega)
      have a3 := ihj (by omega)
      have a4 := cost_nonneg b[r] a[j]
      omega

theorem outer_is {m : Int} (hn : 0 < a.length) : ∀ (k i : Nat) (res : Int), b.length - i = k → i ≤ b.length → (0 < i → res = EE a b i a.length) → 0 < b.length →
    (D a b ≤ m → outerF a m (b.drop i) (i : Int) (rowE a b i) res = D a b) ∧ (m < D a b → m < outerF a m (b.drop i) (i : Int) (rowE a b i) res) := by
  intro k
  induction k with
  | zero =>
    intro i res hk hi hres hb
    have : i = b.length := by omega
    subst this
    rw [List.drop_length, outerF, hres hb, EE_all]
    exact ⟨fun _ => rfl, fun h => h⟩
  | succ k ih =>
    intro i res hk hi hres hb
    have hil : i < b.length := by omega
    obtain ⟨mn, h1, h2⟩ := inner_is a b hil hn
    rw [List.drop_eq_getElem_cons hil, outerF, h2]
    simp only
    by_cases hm : m < mn
    · rw [if_pos hm]
      have hbig : m < D a b := by
        rw [← EE_all]
        refine rows_up a b hn _ (i + 1) rfl (by omega) hil fun j hj => ?_
        cases j with
        | zero =>
          have q1 := h1 0 hn
          have q2 := EE_1 a b hil hn
          rw [EE_c0 a b hil]
          simp only [Nat.zero_add] at q1
          push_cast at q2 ⊢; omega
        | succ j => have := h1 j hj; omega
      exact ⟨fun h => by omega, fun _ => by omega⟩
    · rw [if_neg hm]
      have := ih (i + 1) (EE a b (i + 1) a.length) (by omega) hil (fun _ => rfl) hb
      simpa using this

theorem core_is {m : Int} (hn : 0 < a.length) (hb : 0 < b.length) : (D a b ≤ m → levCore a b m = D a b) ∧ (m < D a b → m < levCore a b m) := by
  unfold levCore
  have hlen := D_len a b
  split
  · exact ⟨fun h => by omega, fun _ => by omega⟩
  · have hrow : row0 a.length = rowE a b 0 := by
      unfold row0 rowE
      refine List.map_congr_left fun k hk => ?_
      have := List.mem_range.mp hk
      rw [EE_0 a b (by omega)]
      push_cast; omega
    have := outer_is a b hn (m := m) _ 0 0 rfl (Nat.zero_le _) (fun h => by omega) hb
    rw [hrow]
    simpa using this
end

theorem lev_is (a b : List Nat) (m : Int) : (D a b ≤ m → levF a b m = D a b) ∧ (m < D a b → m < levF a b m) := by
  unfold levF
  by_cases he : a = b
  · subst he
    rw [if_pos rfl, D_self]
    exact ⟨fun _ => rfl, fun h => h⟩
  rw [if_neg he]
  simp only
  rw [← trim_is a b]
  generalize trimA a b = a2
  generalize trimA b a = b2
  split
  · rename_i h
    have : D a2 b2 = 2 * (a2.length + b2.length) := by
      rcases h with rfl | rfl
      · rw [D_nil_left]; simp
      · rw [D_nil_right]; simp
    rw [this]
    exact ⟨fun _ => rfl, fun h => h⟩
  · rename_i h
    have h1 : 0 < a2.length := List.length_pos_iff.mpr fun e => h (.inl e)
    have h2 : 0 < b2.length := List.length_pos_iff.mpr fun e => h (.inr e)
    split
    · rw [D_symm]; exact core_is b2 a2 h2 h1
    · exact core_is a2 b2 h1 h2
end Mine
end
section
open PySem PySem.W PyProof.Rows PySem.Calls
set_option autoImplicit false
set_option linter.unusedVariables false
set_option linter.unusedSimpArgs false
set_option maxRecDepth 20000
namespace Mine

abbrev DefOf (G : GC) (nm : String) (k : Nat) : Prop := ∃ f, DefAt G (Str.ofString nm) f (fnP PP k) (fnB PP k) (fnS PP k)
structure LawG (G : GC) : Prop where
  lev : LevNames G
  sum : nsIn G.K mainGlobals (Str.ofString "sum") = some none
  chr : nsIn G.K mainGlobals (Str.ofString "chr") = some none
  ord : nsIn G.K mainGlobals (Str.ofString "ord") = some none
  eof : ∃ t, nsIn G.K mainGlobals (Str.ofString "ENDMARKER") = some (some (.int 0 t))
  off : ∃ t, nsIn G.K mainGlobals (Str.ofString "NT_OFFSET") = some (some (.int 256 t))
  parse : DefOf G "parse257" 3
  dsub : DefOf G "_substitution_cost" 14
  dlev : DefOf G "_levenshtein_distance" 15
  dterm : DefOf G "ISTERMINAL" 7
  dnon : DefOf G "ISNONTERMINAL" 8
  deof : DefOf G "ISEOF" 9
  dbody : DefOf G "_law_body" 17
  dname : DefOf G "_law_name" 18
  dcost : DefOf G "_law_cost" 19
  dmend : DefOf G "_law_mend" 20

def pre5 : List Nat := [50, 53, 55, 32, 34]
structure LawOK (B A : List Nat) : Prop where
  le : (mendF B (parseF A)).2.length ≤ 30
  p : parseF (mendF B (parseF A)).2 = parseF A
  d1 : levF (pre5 ++ B) (pre5 ++ (mendF B (parseF A)).2) (mendF B (parseF A)).1 = (mendF B (parseF A)).1
  d2 : ¬ levF (pre5 ++ (mendF B (parseF A)).2) (pre5 ++ B) ((mendF B (parseF A)).1 - 1) < (mendF B (parseF A)).1
  d3 : ¬ levF (pre5 ++ A) (pre5 ++ B) (mendF B (parseF A)).1 < (mendF B (parseF A)).1
  z : ((mendF B (parseF A)).1 == 0) = (parseF B == parseF A)
def SignL (l : List Nat) : Prop := l.length ≤ 5 ∧ ∀ x ∈ l, x = 34 ∨ x = 61 ∨ x = 256 ∨ x = 257 ∨ x = 259

theorem bodyF_sign (n : Int) : SignL (bodyF n) := by
  have h1 : ∀ k, signAt n k ∈ signsL := by
    intro k
    have := digit_lt n k
    unfold signAt
    rw [List.getD_eq_getElem?_getD, List.getElem?_eq_getElem (by show digit n k < 7; exact this)]
    exact List.getElem_mem _
  have hj : ∀ ls : List (List Nat), joinL [] ls = ls.flatten := by
    intro ls
    induction ls with
    | nil => rfl
    | cons x r ih =>
      cases r with
      | nil => simp [joinL]
      | cons y r => simp only [joinL] at ih ⊢; simp only [List.append_nil, List.flatten_cons] at ih ⊢; rw [ih]
  have e : bodyF n = signAt n 0 ++ (signAt n 1 ++ (signAt n 2 ++ (signAt n 3 ++ (signAt n 4 ++ [])))) := by
    unfold bodyF; rw [hj]; rfl
  have hs : ∀ s ∈ signsL, s.length ≤ 1 ∧ ∀ x ∈ s, x = 34 ∨ x = 61 ∨ x = 256 ∨ x = 257 ∨ x = 259 := by decide
  refine ⟨?_, ?_⟩
  · rw [e]
    have a0 := (hs _ (h1 0)).1; have a1 := (hs _ (h1 1)).1; have a2 := (hs _ (h1 2)).1; have a3 := (hs _ (h1 3)).1; have a4 := (hs _ (h1 4)).1
    simp only [List.length_append, List.length_nil]; omega
  · intro x hx
    rw [e] at hx
    simp only [List.mem_append, List.not_mem_nil, or_false] at hx
    rcases hx with h | h | h | h | h
    all_goals exact (hs _ (h1 _)).2 x h

theorem parseF_sub : ∀ (n : Nat) (l : List Nat), l.length ≤ n → (parseF l).length ≤ l.length ∧ ∀ x ∈ parseF l, x ∈ l := by
  intro n
  induction n with
  | zero => intro l hl; have : l = [] := List.length_eq_zero_iff.mp (by omega); subst this; simp [parseF]
  | succ n ih =>
    intro l hl
    match l, hl with
    | [], _ => simp [parseF]
    | [c], _ => rw [parseF]; split <;> simp
    | c :: d :: r, hl =>
      have h1 := ih r (by simp at hl; omega)
      have h2 := ih (d :: r) (by simp at hl ⊢; omega)
      rw [parseF]
      split
      · rename_i e
        split
        · refine ⟨by have := h1.1; simp; omega, fun x hx => ?_⟩
          rcases List.mem_cons.mp hx with rfl | hx
          · rw [e]; exact .head _
          · exact .tail _ (.tail _ (h1.2 x hx))
        · simp
      · refine ⟨by have := h2.1; simp at this ⊢; omega, fun x hx => ?_⟩
        rcases List.mem_cons.mp hx with rfl | hx
        · exact .head _
        · exact .tail _ (h2.2 x hx)

def lawNames : List Str := [Str.ofString "script", Str.ofString "sums", Str.ofString "bodies", Str.ofString "replies", Str.ofString "names", Str.ofString "k", Str.ofString "price", Str.ofString "text", Str.ofString "mended"]

theorem all2_ints {vs : List Value} {ns : List Int} (h : IntsAre vs ns) : All2 PV.Is (ns.map .int) vs := by
  induction h with
  | nil => exact .nil
  | cons n t _ ih => exact .cons ⟨t, rfl⟩ ih

theorem law_walk {G : GC} (LG : LawG G) (LM : ∀ B A, SignL B → SignL A → LawOK B A) (c : Act G) (H : Loc c lawNames (fnS PP 21)) (room : Room c 100 1000) (l : Addr) (vs : List Value) (ns : List Int) (hl : c.h0.IsList l vs.toArray) (hi : IntsAre vs ns) (hn : ns.length ≤ 63) :
    Ex c [some (.ref l), none, none, none, none, none, none, none, none] [] [] (fnB PP 21) fun pf σ' O' N => pf = .ret (.bool true) := by
  obtain ⟨fp, Dp⟩ := LG.parse
  obtain ⟨fl, Dl⟩ := LG.dlev
  obtain ⟨ft, Dt⟩ := LG.dterm
  obtain ⟨fn, Dn⟩ := LG.dnon
  obtain ⟨fe, De⟩ := LG.deof
  obtain ⟨fb, Db⟩ := LG.dbody
  obtain ⟨fm, Dm⟩ := LG.dname
  obtain ⟨fc, Dc⟩ := LG.dcost
  obtain ⟨fd, Dd⟩ := LG.dmend
  have Hn := H.nms
  have hL : ListAt c [some (.ref l), none, none, none, none, none, none, none, none] [] [] l (ns.map .int) := listAt_h0 hl (all2_ints hi)
  have hslen : ns.length ≤ 1048576 := by omega
  obtain ⟨fs, Ds⟩ := LG.dsub
  have hterm := term_fn LG.off Dt
  have hnon := nonterm_fn LG.off Dn
  have heof := eof_fn LG.eof De
  have hcost : ∀ a b : Nat, a < 2000000 → b < 2000000 → FnPure G fc 2 6 [.int a, .int b] (.int (lcost a b)) := fun a b ha hb => cost_fn Dc Dt.ns Dt.keep Dn.ns Dn.keep hterm hnon a b (by omega) (by omega)
  have hsub := fun x y => subst_fn LG.lev Ds x y
  have hlev := fun (a b : List Nat) (m : Int) (la : a.length ≤ 40) (lb : b.length ≤ 40) => lev_fn LG.lev Dl Ds.ns Ds.keep hsub a b m la lb
  have hmend := fun (B N : List Nat) (h1 : B.length ≤ 1000) (h2 : N.length ≤ 1000) (h3 : ∀ x ∈ B, x < 2000000) (h4 : ∀ x ∈ N, x < 2000000) (O F : Led) => mend_fn LG.lev.len LG.lev.range LG.lev.min LG.ord LG.eof Dd De.ns De.keep Dc.ns Dc.keep heof hcost B N h1 h2 h3 h4 O F
  -- sums
  refine ex_cons (asg_ H 1 rfl (by simp) (ev_list (ta_pp (ev_add ev_int (ev_sumslice H 0 3 LG.sum rfl (v_ H 0 rfl rfl) ev_int ev_int (by decide) hL hslen)) (ta_pp (ev_add ev_int (ev_sumslice H 1 3 LG.sum rfl (v_ H 0 rfl rfl) ev_int ev_int (by decide) hL hslen)) (ta_pp (ev_add ev_int (ev_sumslice H 2 3 LG.sum rfl (v_ H 0 rfl rfl) ev_int ev_int (by decide) hL hslen)) ta_np))) (by simp [sizeLine_eq]) ?_))
  generalize 15781 + sumS ns 0 3 = m0
  generalize 16223 + sumS ns 1 3 = m1
  generalize 1031 + sumS ns 2 3 = m2
  intro a1 o1 hl1
  simp only [List.set_cons_zero, List.set_cons_succ]
  refine TG.freezeN ?_
  -- bodies
  refine ex_cons (asg_comp 2 (I0 := fun O1 N1 => O1 = [] ∧ N1 = []) (fun pv => match pv with | .int x => .s (bodyF (Int.fmod x 16807)) | _ => .none) [] ⟨by decide, rfl, by decide, rfl⟩ (H.name rfl) (H.kind (i := 2) rfl) H.L (by simp)
    (it_list (items := [PV.int m0, .int m1, .int m2]) (TV.mono (v_ H 1 rfl rfl) fun pv O1 N1 ⟨e1, e2, e3⟩ => ⟨a1, o1, e1, hl1, by subst e3; exact .head _, e2, e3⟩)) (by simp) ?_ (fun p hp => nomatch hp) (by show List.Nodup [Str.ofString "one"]; decide) ?_ ?_ ?_)
  · exact fun n hn => nomatch (show n ∈ ([] : List Str) from hn)
  · rintro O1 N1 ⟨rfl, rfl⟩ pv hpv c' F2 Hc hs2
    obtain ⟨m, rfl⟩ : ∃ m, pv = .int m := by
      simp only [List.mem_cons, List.not_mem_nil, or_false] at hpv
      rcases hpv with rfl | rfl | rfl <;> exact ⟨_, rfl⟩
    exact ncall_ Hc.nms Db.ns Db.keep rfl (ta_pp (ev_fmod (nv_ Hc.nms 0 rfl rfl) ev_int (by decide)) ta_np) (body_fn LG.chr LG.lev.range Db _) ((Hc.room room).le (by omega) (by omega))
  · rintro O1 N1 a2 o2 ⟨rfl, rfl⟩ hl2
    have hl2' : ListO ([bodyF (Int.fmod m0 16807), bodyF (Int.fmod m1 16807), bodyF (Int.fmod m2 16807)].map PV.s) o2 := hl2
    have g0 := bodyF_sign (Int.fmod m0 16807); have g1 := bodyF_sign (Int.fmod m1 16807); have g2 := bodyF_sign (Int.fmod m2 16807)
    generalize bodyF (Int.fmod m0 16807) = B0 at hl2' g0
    generalize bodyF (Int.fmod m1 16807) = B1 at hl2' g1
    generalize bodyF (Int.fmod m2 16807) = B2 at hl2' g2
    clear hl2
    simp only [List.set_cons_zero, List.set_cons_succ, List.nil_append]
    refine TG.freezeN ?_
    have hB : ∀ B, B = B0 ∨ B = B1 ∨ B = B2 → SignL B := by rintro B (rfl | rfl | rfl) <;> assumption
    have hpv3 : ∀ {x0 x1 x2 : List Nat} {pv : PV}, pv ∈ [x0, x1, x2].map PV.s → ∃ B, pv = .s B ∧ (B = x0 ∨ B = x1 ∨ B = x2) := by
      intro x0 x1 x2 pv hpv
      simp only [List.map_cons, List.map_nil, List.mem_cons, List.not_mem_nil, or_false] at hpv
      rcases hpv with rfl | rfl | rfl
      · exact ⟨_, rfl, .inl rfl⟩
      · exact ⟨_, rfl, .inr (.inl rfl)⟩
      · exact ⟨_, rfl, .inr (.inr rfl)⟩
    have hlit : Str.ofString "257 \"" = mk pre5 := by decide +kernel
    -- replies
    refine ex_cons (asg_comp 3 (I0 := fun O1 N1 => O1 = [] ∧ N1 = []) (fun pv => match pv with | .str x => .s (pre5 ++ x.cps.toList) | _ => .none) [] ⟨by decide, rfl, by decide, rfl⟩ (H.name rfl) (H.kind (i := 3) rfl) H.L (by simp)
      (it_list (items := [B0, B1, B2].map PV.s) (TV.mono (v_ H 2 rfl rfl) fun pv O1 N1 ⟨e1, e2, e3⟩ => ⟨a2, o2, e1, hl2', by subst e3; exact .head _, e2, e3⟩)) (by simp) ?_ (fun p hp => nomatch hp) (by show List.Nodup [Str.ofString "body"]; decide) ?_ ?_ ?_)
    · exact fun n hn => nomatch (show n ∈ ([] : List Str) from hn)
    · rintro O1 N1 ⟨rfl, rfl⟩ pv hpv c' F2 Hc hs2
      obtain ⟨B, rfl, hBB⟩ := hpv3 hpv
      have := (hB B hBB).1
      exact ev_eq (ev_adds (ev_eq ev_str (by rw [hlit])) (nv_ Hc.nms 0 rfl rfl) (by rw [mk_length, mk_length, sizeLine_eq]; simp [pre5]; omega)) (by rw [mk_append]; simp [mk])
    rotate_left
    · exact swaps_comp (by unfold Env.blockKind; rw [c.hek]; rfl) (H.kind (i := 3) rfl) rfl (by decide)
    rintro O1 N1 a3 o3 ⟨rfl, rfl⟩ hl3
    have hl3' : ListO ([pre5 ++ B0, pre5 ++ B1, pre5 ++ B2].map PV.s) o3 := by simpa [mk] using hl3
    clear hl3
    simp only [List.set_cons_zero, List.set_cons_succ, List.nil_append]
    refine TG.freezeN ?_
    -- names
    refine ex_cons (asg_comp 4 (I0 := fun O1 N1 => O1 = [] ∧ N1 = []) (fun pv => match pv with | .str x => .s (parseF (x.cps.toList.drop 5)) | _ => .none) [] ⟨by decide, rfl, by decide, rfl⟩ (H.name rfl) (H.kind (i := 4) rfl) H.L (by simp)
      (it_list (items := [pre5 ++ B0, pre5 ++ B1, pre5 ++ B2].map PV.s) (TV.mono (v_ H 3 rfl rfl) fun pv O1 N1 ⟨e1, e2, e3⟩ => ⟨a3, o3, e1, hl3', by subst e3; exact .head _, e2, e3⟩)) (by simp) ?_ (fun p hp => nomatch hp) (by show List.Nodup [Str.ofString "reply"]; decide) ?_ ?_ ?_)
    · exact fun n hn => nomatch (show n ∈ ([] : List Str) from hn)
    · rintro O1 N1 ⟨rfl, rfl⟩ pv hpv c' F2 Hc hs2
      obtain ⟨B, rfl, hBB⟩ : ∃ B, pv = .s (pre5 ++ B) ∧ (B = B0 ∨ B = B1 ∨ B = B2) := by
        obtain ⟨B', rfl, h⟩ := hpv3 hpv
        rcases h with rfl | rfl | rfl
        · exact ⟨_, rfl, .inl rfl⟩
        · exact ⟨_, rfl, .inr (.inl rfl)⟩
        · exact ⟨_, rfl, .inr (.inr rfl)⟩
      have := (hB B hBB).1
      exact ev_eq (ncall_ Hc.nms Dp.ns Dp.keep rfl (ta_pp (nv_ Hc.nms 0 rfl rfl) ta_np) (parse_fn LG.lev.len Dp B (by omega)) ((Hc.room room).le (by omega) (by omega))) (by simp [mk, pre5])
    rotate_left
    · exact swaps_comp (by unfold Env.blockKind; rw [c.hek]; rfl) (H.kind (i := 4) rfl) rfl (by decide)
    rintro O1 N1 a4 o4 ⟨rfl, rfl⟩ hl4
    have hl4' : ListO ([parseF B0, parseF B1, parseF B2].map PV.s) o4 := by simpa [mk, pre5] using hl4
    clear hl4
    simp only [List.set_cons_zero, List.set_cons_succ, List.nil_append]
    refine TG.freezeN ?_
    -- the names are the law's
    refine s_if (b := false) (ts_cmpG (v_ H 4 rfl rfl) (R1 := fun pv O1 N1 => ∃ a o, pv = .ref a ∧ O1 = [(a, o)] ∧ N1 = [] ∧ ListO ([parseF B0, parseF B1, parseF B2].map PV.s) o) ?_ ?_) (fun e => by cases e) fun _ => ?_
    · refine ev_comp (I0 := fun O1 N1 => O1 = [] ∧ N1 = []) (fun pv => match pv with | .str x => .s (parseF x.cps.toList) | _ => .none) [] ⟨by decide, rfl, by decide, rfl⟩
        (it_list (items := [B0, B1, B2].map PV.s) (TV.mono (v_ H 2 rfl rfl) fun pv O1 N1 ⟨e1, e2, e3⟩ => ⟨a2, o2, e1, hl2', by subst e3; simp, e2, e3⟩)) (by simp) ?_ (fun p hp => nomatch hp) (by show List.Nodup [Str.ofString "body"]; decide) ?_ ?_
      · exact fun n hn => nomatch (show n ∈ ([] : List Str) from hn)
      · rintro O1 N1 ⟨rfl, rfl⟩ pv hpv c' F2 Hc hs2
        obtain ⟨B, rfl, hBB⟩ := hpv3 hpv
        have hb := hB B hBB
        exact ev_eq (ncall_ Hc.nms Dm.ns Dm.keep rfl (ta_pp (nv_ Hc.nms 0 rfl rfl) ta_np) (name_fn LG.chr Dm B (by have := hb.1; omega) (fun q => by have := hb.2 1 q; omega)) ((Hc.room room).le (by omega) (by omega))) (by simp [mk])
      · rintro O1 N1 a o ⟨rfl, rfl⟩ hlo
        exact ⟨a, o, rfl, rfl, rfl, by simpa [mk] using hlo⟩
    · rintro vl vr pr O1 N1 il ir ⟨a, o, rfl, rfl, rfl, hlo⟩
      cases il; cases ir
      exact ⟨List.nil_sublist _, rfl, cm_ne_same (List.mem_append_right _ (.head _)) (List.mem_append_left _ (.head _)) hl4' hlo (room.le (by omega) (by omega))⟩
    refine ex_cons (for_ H 5 (items := rangePV 0 1 3) rfl (fun k σ1 O1 N1 => ∃ (z5 z6 z7 z8 : Option PV), σ1 = [some (.ref l), some (.ref a1), some (.ref a2), some (.ref a3), some (.ref a4), z5, z6, z7, z8] ∧ O1 = []) ?_ (it_range1 (n := 3) LG.lev.range (H.glob rfl) ev_int (by decide) ⟨_, _, _, _, rfl, rfl⟩ H.own) ?_ ?_)
    · rintro k σ1 O1 N1 ⟨z5, z6, z7, z8, rfl, _⟩; simp
    rotate_left
    · rintro σ1 O1 N1 ⟨z5, z6, z7, z8, rfl, rfl⟩
      exact s_ret ev_bool rfl
    rintro k pv σ1 O1 N1 F2 hk ⟨z5, z6, z7, z8, rfl, rfl⟩ hF2
    have hk3 : k < 3 := by have := (List.getElem?_eq_some_iff.mp hk).1; rwa [rangePV_len] at this
    rw [rangePV_get hk3] at hk
    have e1 : (0 : Int) + (k : Int) * 1 = (k : Int) := by omega
    rw [e1] at hk
    cases hk
    have m2' : (a2, o2) ∈ F2 := hF2 _ (by simp)
    have m3' : (a3, o3) ∈ F2 := hF2 _ (by simp)
    have m4' : (a4, o4) ∈ F2 := hF2 _ (by simp)
    clear hF2
    obtain ⟨B, A, sB, sA, iB, iR, iN, iNA, iRA⟩ : ∃ B A : List Nat, SignL B ∧ SignL A ∧ ([B0, B1, B2].map PV.s)[k]? = some (.s B) ∧ ([pre5 ++ B0, pre5 ++ B1, pre5 ++ B2].map PV.s)[k]? = some (.s (pre5 ++ B)) ∧
        ([parseF B0, parseF B1, parseF B2].map PV.s)[k]? = some (.s (parseF B)) ∧
        ((0 ≤ (k : Int) - 1 ∧ ([parseF B0, parseF B1, parseF B2].map PV.s)[((k : Int) - 1).toNat]? = some (.s (parseF A))) ∨ ((k : Int) - 1 < 0 ∧ -((([parseF B0, parseF B1, parseF B2].map PV.s).length : Nat) : Int) ≤ (k : Int) - 1 ∧ ([parseF B0, parseF B1, parseF B2].map PV.s)[((k : Int) - 1 + (([parseF B0, parseF B1, parseF B2].map PV.s).length : Nat)).toNat]? = some (.s (parseF A)))) ∧
        ((0 ≤ (k : Int) - 1 ∧ ([pre5 ++ B0, pre5 ++ B1, pre5 ++ B2].map PV.s)[((k : Int) - 1).toNat]? = some (.s (pre5 ++ A))) ∨ ((k : Int) - 1 < 0 ∧ -((([pre5 ++ B0, pre5 ++ B1, pre5 ++ B2].map PV.s).length : Nat) : Int) ≤ (k : Int) - 1 ∧ ([pre5 ++ B0, pre5 ++ B1, pre5 ++ B2].map PV.s)[((k : Int) - 1 + (([pre5 ++ B0, pre5 ++ B1, pre5 ++ B2].map PV.s).length : Nat)).toNat]? = some (.s (pre5 ++ A)))) := by
      have : k = 0 ∨ k = 1 ∨ k = 2 := by omega
      rcases this with rfl | rfl | rfl
      · exact ⟨B0, B2, g0, g2, rfl, rfl, rfl, .inr ⟨by decide, by simp, rfl⟩, .inr ⟨by decide, by simp, rfl⟩⟩
      · exact ⟨B1, B0, g1, g0, rfl, rfl, rfl, .inl ⟨by decide, rfl⟩, .inl ⟨by decide, rfl⟩⟩
      · exact ⟨B2, B1, g2, g1, rfl, rfl, rfl, .inl ⟨by decide, rfl⟩, .inl ⟨by decide, rfl⟩⟩
    have ok := LM B A sB sA
    have bsm : ∀ {L : List Nat}, SignL L → ∀ x ∈ L, x < 2000000 := fun h x hx => by have := h.2 x hx; omega
    have pA := parseF_sub A.length A (Nat.le_refl _)
    have lA := sA.1
    have lB := sB.1
    simp only [List.set_cons_zero, List.set_cons_succ]
    have ix : ∀ {σ : Sto} {O F : Led} {p1 p2 p3 : Pos} {kk : Nat}, σ[5]? = some (some (.int (k : Int))) → Evp c σ O F (.BinOp (.Name (Str.ofString "k") p1) .Sub (.Constant (.int 1) kk p2) p3) (.int ((k : Int) - 1)) := fun h => ev_sub (v_ H 5 rfl h) ev_int
    have nA : ∀ {σ : Sto} {O F : Led} {p1 p2 p3 p4 p5 : Pos} {kk : Nat}, σ[5]? = some (some (.int (k : Int))) → σ[4]? = some (some (.ref a4)) → (a4, o4) ∈ F →
        Evp c σ O F (.Subscript (.Name (Str.ofString "names") p4) (.BinOp (.Name (Str.ofString "k") p1) .Sub (.Constant (.int 1) kk p2) p3) p5) (.s (parseF A)) := fun h5 h4 hm => ev_listint (v_ H 4 rfl h4) (ix h5) (List.mem_append_right _ hm) hl4' iNA (by simp)
    have rA : ∀ {σ : Sto} {O F : Led} {p1 p2 p3 p4 p5 : Pos} {kk : Nat}, σ[5]? = some (some (.int (k : Int))) → σ[3]? = some (some (.ref a3)) → (a3, o3) ∈ F →
        Evp c σ O F (.Subscript (.Name (Str.ofString "replies") p4) (.BinOp (.Name (Str.ofString "k") p1) .Sub (.Constant (.int 1) kk p2) p3) p5) (.s (pre5 ++ A)) := fun h5 h4 hm => ev_listint (v_ H 3 rfl h4) (ix h5) (List.mem_append_right _ hm) hl3' iRA (by simp)
    have rB : ∀ {σ : Sto} {O F : Led} {p1 p4 p5 : Pos}, σ[5]? = some (some (.int (k : Int))) → σ[3]? = some (some (.ref a3)) → (a3, o3) ∈ F →
        Evp c σ O F (.Subscript (.Name (Str.ofString "replies") p4) (.Name (Str.ofString "k") p1) p5) (.s (pre5 ++ B)) := fun h5 h4 hm => ev_listitem (v_ H 3 rfl h4) (v_ H 5 rfl h5) (List.mem_append_right _ hm) hl3' iR (by simp)
    refine ex_cons (ex_unpack2 6 7 (ev_call Dd.ns Dd.keep (H.glob rfl) (ta_consp (ev_listitem (v_ H 2 rfl rfl) (v_ H 5 rfl rfl) (List.mem_append_right _ m2') hl2' iB (by simp)) (ta_consp (nA rfl rfl m4') (ta_nil fun vals hv => TV.mono (hmend B (parseF A) (by omega) (by omega) (bsm sB) (fun x hx => bsm sA x (pA.2 x hx)) _ _ c _ _ (room.le (by omega) (by omega)) (fun _ q => q) vals hv) ?_)))) (H.name rfl) (H.kind (i := 6) rfl) (H.name rfl) (H.kind (i := 7) rfl) H.L (by simp) (by simp))
    rintro pv O' N ⟨at', ot, rfl, rfl, hmt, htt⟩
    refine ⟨at', ot, _, _, rfl, htt, by simp [hmt], ?_⟩
    obtain ⟨q1, q2, q3, q4, q5, q6⟩ := ok
    generalize mendF B (parseF A) = e at *
    simp only [List.set_cons_zero, List.set_cons_succ, List.append_nil, List.nil_append]
    have m3'' : (a3, o3) ∈ N ++ F2 := List.mem_append_right _ m3'
    have m4'' : (a4, o4) ∈ N ++ F2 := List.mem_append_right _ m4'
    refine s_asg H 8 rfl (by simp) (ev_eq (ev_adds (ev_eq ev_str (by rw [hlit])) (v_ H 7 rfl rfl) (by rw [mk_length, mk_length, sizeLine_eq]; simp [pre5]; omega)) (by rw [mk_append])) ?_
    simp only [List.set_cons_zero, List.set_cons_succ]
    have hp5 : pre5.length = 5 := rfl
    refine s_if (b := false) (ts_eq (ts_cmpp (callp_ H Dp.ns Dp.keep rfl (ta_pp (v_ H 8 rfl rfl) ta_np) (parse_fn LG.lev.len Dp e.2 (by omega)) (room.le (by omega) (by omega))) (nA rfl rfl m4'') (.neS _ _)) (by rw [mk_ne, q2]; simp)) (fun e => by cases e) fun _ => ?_
    refine s_if (b := false) (ts_eq (ts_cmpp (callp_ H Dl.ns Dl.keep rfl (ta_pp (rB rfl rfl m3'') (ta_pp (v_ H 8 rfl rfl) (ta_pp (v_ H 6 rfl rfl) ta_np))) (hlev _ _ _ (by simp; omega) (by simp; omega)) (room.le (by omega) (by omega))) (v_ H 6 rfl rfl) (.neI _ _)) (by rw [q3]; simp)) (fun e => by cases e) fun _ => ?_
    refine s_if (b := false) (ts_eq (ts_cmpp (callp_ H Dl.ns Dl.keep rfl (ta_pp (v_ H 8 rfl rfl) (ta_pp (rB rfl rfl m3'') (ta_pp (ev_sub (v_ H 6 rfl rfl) ev_int) ta_np))) (hlev _ _ _ (by simp; omega) (by simp; omega)) (room.le (by omega) (by omega))) (v_ H 6 rfl rfl) (.ltI _ _)) (by simpa using q4)) (fun e => by cases e) fun _ => ?_
    refine s_if (b := false) (ts_eq (ts_cmpp (callp_ H Dl.ns Dl.keep rfl (ta_pp (rA rfl rfl m3'') (ta_pp (rB rfl rfl m3'') (ta_pp (v_ H 6 rfl rfl) ta_np))) (hlev _ _ _ (by simp; omega) (by simp; omega)) (room.le (by omega) (by omega))) (v_ H 6 rfl rfl) (.ltI _ _)) (by simpa using q5)) (fun e => by cases e) fun _ => ?_
    refine s_if (b := false) (ts_eq (ts_cmpp (ev_cmpp (v_ H 6 rfl rfl) ev_int (.eqI _ _)) (ev_cmpp (ev_listitem (v_ H 4 rfl rfl) (v_ H 5 rfl rfl) (List.mem_append_right _ m4'') hl4' iN (by simp)) (nA rfl rfl m4'') (.eqS _ _)) (.neB _ _)) (by rw [mk_eq, q6]; simp)) (fun e => by cases e) fun _ => ?_
    exact ex_nil ⟨_, _, _, _, rfl, rfl⟩
  · exact swaps_comp (by unfold Env.blockKind; rw [c.hek]; rfl) (H.kind (i := 2) rfl) rfl (by decide)
end Mine
end
section
open PySem PySem.W PyProof.Rows PySem.Calls
set_option autoImplicit false
set_option linter.unusedVariables false
namespace Mine

def Sg (x : Nat) : Prop := x = 34 ∨ x = 61 ∨ x = 256 ∨ x = 257 ∨ x = 259
def AllS (l : List Nat) : Prop := ∀ x ∈ l, Sg x
theorem cost_law {x y : Nat} (hx : Sg x) (hy : Sg y) : costN x y = lcost x y := by
  have h : ∀ x ∈ [34, 61, 256, 257, 259], ∀ y ∈ [34, 61, 256, 257, 259], costN x y = lcost ((x : Nat) : Int) ((y : Nat) : Int) := by decide +kernel
  refine h x ?_ y ?_
  · unfold Sg at hx; simpa using hx
  · unfold Sg at hy; simpa using hy
theorem cost_quote {y : Nat} (hy : Sg y) (h : y ≠ 34) : costN 34 y = 2 := by
  have h' : ∀ y ∈ [61, 256, 257, 259], costN 34 y = 2 := by decide +kernel
  refine h' y ?_
  unfold Sg at hy
  rcases hy with rfl | rfl | rfl | rfl | rfl
  · exact absurd rfl h
  all_goals simp
theorem Sg.ne0 {x : Nat} (h : Sg x) : x ≠ 0 := by unfold Sg at h; omega

/-! what may be written from here on -/
def Lg : List Nat → List Nat → Prop
  | [], T => T.head? ≠ some 34
  | g :: gs, T => (gs = [] ∧ T = []) ∨ ∃ T', T = g :: T' ∧ Lg gs T'

theorem minE_le {es : List En} {x : En} (hx : x ∈ es) : (minE es).1 ≤ x.1 := by
  have hle : ∀ x y : En, ltE x y = true → x.1 ≤ y.1 := by
    intro x y h
    unfold ltE at h
    split at h
    · rename_i e; exact Int.le_of_eq (eq_of_beq e)
    · have := of_decide_eq_true h; omega
  have hge : ∀ x y : En, ltE x y = false → y.1 ≤ x.1 := by
    intro x y h
    unfold ltE at h
    split at h
    · rename_i e; exact Int.le_of_eq (eq_of_beq e).symm
    · have := of_decide_eq_false h; omega
  have key : ∀ k, k < es.length → ∀ i, i ≤ k → (es.getD (argBest (fun i j => ltE (es.getD i (0, [])) (es.getD j (0, []))) k) (0, [])).1 ≤ (es.getD i (0, [])).1 := by
    intro k
    induction k with
    | zero => intro _ i hi; have : i = 0 := by omega
              subst this; exact Int.le_refl _
    | succ k ih =>
      intro hk i hi
      have ih' := ih (by omega)
      rw [argBest]
      generalize hb : ltE _ _ = bb
      cases bb with
      | true =>
        simp only [if_true]
        have h1 := hle _ _ hb
        by_cases e : i = k + 1
        · subst e; exact Int.le_refl _
        · have := ih' i (by omega); omega
      | false =>
        simp only [Bool.false_eq_true, if_false]
        have h1 := hge _ _ hb
        by_cases e : i = k + 1
        · subst e; exact h1
        · exact ih' i (by omega)
  obtain ⟨i, hi, rfl⟩ := List.getElem_of_mem hx
  have := key (es.length - 1) (by omega) i (by omega)
  have e : es.getD i (0, []) = es[i] := by rw [List.getD_eq_getElem?_getD, List.getElem?_eq_getElem hi]; rfl
  rw [e] at this
  exact this

section
variable (goal : List Nat) (hg : AllS goal)
def gsAt (m : Nat) : List Nat := goal.drop (goal.length - m)
theorem gsAt_0 : gsAt goal 0 = [] := by unfold gsAt; simp
theorem gsAt_succ {m : Nat} (h : m < goal.length) : gsAt goal (m + 1) = revG goal m :: gsAt goal m := by
  unfold gsAt revG
  have hi : goal.length - (m + 1) < goal.length := by omega
  rw [List.drop_eq_getElem_cons hi, show goal.length - (m + 1) + 1 = goal.length - m by omega, show goal.length - 1 - m = goal.length - (m + 1) by omega, List.getD_eq_getElem?_getD, List.getElem?_eq_getElem hi]
  rfl
theorem gsAt_nil {m : Nat} (h : m ≤ goal.length) : gsAt goal m = [] ↔ m = 0 := by
  unfold gsAt; rw [List.drop_eq_nil_iff]; omega
include hg in
theorem revG_S {m : Nat} (h : m < goal.length) : Sg (revG goal m) := by
  unfold revG
  rw [List.getD_eq_getElem?_getD, List.getElem?_eq_getElem (by omega)]
  exact hg _ (List.getElem_mem _)

structure Up (rest : List Nat) (m : Nat) (e : En) : Prop where
  lg : Lg (gsAt goal m) e.2
  d : D rest e.2 ≤ e.1
  s : AllS e.2

include hg in
theorem up_here {rest : List Nat} {c : Nat} {b : Nat → En} (hc : (rest = [] ∧ c = 0) ∨ ∃ r, rest = c :: r ∧ Sg c ∧ ∀ m, m ≤ goal.length → Up goal r m (b m)) (hr : AllS rest) :
    ∀ m, m ≤ goal.length → Up goal rest m (hereA c (firstE rest) (revG goal) b m) := by
  intro m
  induction m with
  | zero =>
    intro _
    rw [hereA]
    unfold firstE
    split
    · rename_i h
      refine ⟨by rw [gsAt_0]; simp [Lg], ?_, ?_⟩
      · have := D_ins 61 rest rest; rw [D_self] at this; exact this
      · intro x hx
        rcases List.mem_cons.mp hx with rfl | hx
        · exact .inr (.inl rfl)
        · exact hr x hx
    · rename_i h
      exact ⟨by rw [gsAt_0]; exact h, by simp [D_self], hr⟩
  | succ m ih =>
    intro hm
    have ih' := ih (by omega)
    have hgm := revG_S goal hg (show m < goal.length by omega)
    have hgs := gsAt_succ goal (show m < goal.length by omega)
    rw [hereA]
    generalize hereA c (firstE rest) (revG goal) b m = h at ih'
    have hmem := minE_mem (waysF_ne c (revG goal m) h (b (m + 1)) (b m) (m == 0))
    generalize minE _ = e at hmem
    have w1 : Up goal rest (m + 1) (2 + h.1, revG goal m :: h.2) := by
      refine ⟨by rw [hgs]; exact .inr ⟨_, rfl, ih'.lg⟩, ?_, ?_⟩
      · have := D_ins (revG goal m) rest h.2; have := ih'.d; show _ ≤ 2 + h.1; simp only; omega
      · intro x hx
        rcases List.mem_cons.mp hx with rfl | hx
        · exact hgm
        · exact ih'.s x hx
    unfold waysF at hmem
    rcases hc with ⟨rfl, rfl⟩ | ⟨r, rfl, hcs, hb⟩
    · rw [if_pos rfl] at hmem
      by_cases h0 : m = 0
      · subst h0
        simp only [beq_self_eq_true, if_true, List.mem_cons, List.not_mem_nil, or_false] at hmem
        rcases hmem with rfl | rfl
        · exact w1
        · exact ⟨by rw [hgs, gsAt_0]; exact .inl ⟨rfl, rfl⟩, by simp [D_self], fun x hx => nomatch hx⟩
      · have : (m == 0) = false := by simpa using h0
        rw [this] at hmem
        simp only [Bool.false_eq_true, if_false, List.mem_cons, List.not_mem_nil, or_false] at hmem
        subst hmem; exact w1
    · rw [if_neg hcs.ne0] at hmem
      simp only [List.mem_cons, List.not_mem_nil, or_false] at hmem
      rcases hmem with rfl | rfl | rfl
      · exact w1
      · have q := hb (m + 1) hm
        refine ⟨q.lg, ?_, q.s⟩
        have := D_del c r (b (m + 1)).2; have := q.d; show _ ≤ 2 + _; simp only; omega
      · have q := hb m (by omega)
        refine ⟨by rw [hgs]; exact .inr ⟨_, rfl, q.lg⟩, ?_, ?_⟩
        · have h1 := D_sub c (revG goal m) r (b m).2; have h2 := q.d; rw [cost_law hcs hgm] at h1; show _ ≤ lcost _ _ + _; simp only; omega
        · intro x hx
          rcases List.mem_cons.mp hx with rfl | hx
          · exact hgm
          · exact q.s x hx
include hg in
theorem up_below : ∀ (rest : List Nat), AllS rest → ∀ m, m ≤ goal.length → Up goal rest m (belowA (revG goal) rest m)
  | [], hr => up_here goal hg (.inl ⟨rfl, rfl⟩) hr
  | c :: r, hr => up_here goal hg (.inr ⟨r, rfl, hr c (.head _), up_below r fun x hx => hr x (.tail _ hx)⟩) hr

def Lo (rest : List Nat) (m : Nat) (e : En) : Prop := ∀ T, Lg (gsAt goal m) T → AllS T → e.1 ≤ D rest T

include hg in
theorem lo_here {rest : List Nat} {c : Nat} {b : Nat → En} (hc : (rest = [] ∧ c = 0) ∨ ∃ r, rest = c :: r ∧ Sg c ∧ ∀ m, m ≤ goal.length → Lo goal r m (b m)) (hr : AllS rest) :
    ∀ m, m ≤ goal.length → Lo goal rest m (hereA c (firstE rest) (revG goal) b m) := by
  intro m
  induction m with
  | zero =>
    intro _ T hT hTs
    rw [gsAt_0] at hT
    have hT' : T.head? ≠ some 34 := hT
    rw [hereA]
    unfold firstE
    split
    · rename_i h
      cases rest with
      | nil => simp at h
      | cons x r =>
        simp at h
        subst h
        cases T with
        | nil => rw [D_nil_right]; simp; omega
        | cons y T' =>
          have hy : y ≠ 34 := by simpa using hT'
          rw [D_cons, cost_quote (hTs y (.head _)) hy]
          have h1 := D_nonneg r (y :: T')
          have h2 := D_nonneg (34 :: r) T'
          have h3 := D_nonneg r T'
          simp only; omega
    · exact D_nonneg _ _
  | succ m ih =>
    intro hm T hT hTs
    have ih' := ih (by omega)
    have hgm := revG_S goal hg (show m < goal.length by omega)
    have hgs := gsAt_succ goal (show m < goal.length by omega)
    rw [hgs] at hT
    rw [hereA]
    generalize hereA c (firstE rest) (revG goal) b m = h at ih'
    have hle : ∀ x ∈ waysF c (revG goal m) h (b (m + 1)) (b m) (m == 0), (minE (waysF c (revG goal m) h (b (m + 1)) (b m) (m == 0))).1 ≤ x.1 := fun x hx => minE_le hx
    generalize minE _ = e at hle
    unfold waysF at hle
    rcases hc with ⟨rfl, rfl⟩ | ⟨r, rfl, hcs, hb⟩
    · rw [if_pos rfl] at hle
      rcases hT with ⟨hnil, rfl⟩ | ⟨T', rfl, hT'⟩
      · have hm0 : m = 0 := (gsAt_nil goal (by omega)).mp hnil
        subst hm0
        have := hle (0, []) (by simp)
        rw [D_self]; exact this
      · have h1 := hle (2 + h.1, revG goal m :: h.2) (by split <;> simp)
        have h2 := ih' T' hT' fun x hx => hTs x (.tail _ hx)
        rw [D_nil_left] at h2 ⊢
        simp only [List.length_cons] at h1 ⊢
        push_cast; omega
    · rw [if_neg hcs.ne0] at hle
      rcases hT with ⟨hnil, rfl⟩ | ⟨T', rfl, hT'⟩
      · have hm0 : m = 0 := (gsAt_nil goal (by omega)).mp hnil
        subst hm0
        have h1 := hle (2 + (b 1).1, (b 1).2) (by simp)
        have h2 := hb 1 hm [] (by rw [gsAt_succ goal (show 0 < goal.length by omega), gsAt_0]; exact .inl ⟨rfl, rfl⟩) fun x hx => nomatch hx
        rw [D_nil_right] at h2 ⊢
        simp only [List.length_cons] at h1 ⊢
        push_cast; omega
      · have hT's : AllS T' := fun x hx => hTs x (.tail _ hx)
        have h1 := hle (2 + h.1, revG goal m :: h.2) (by simp)
        have h2 := hle (2 + (b (m + 1)).1, (b (m + 1)).2) (by simp)
        have h3 := hle (lcost c (revG goal m) + (b m).1, revG goal m :: (b m).2) (by simp)
        have q1 := ih' T' hT' hT's
        have q2 := hb (m + 1) hm (revG goal m :: T') (by rw [hgs]; exact .inr ⟨_, rfl, hT'⟩) hTs
        have q3 := hb m (by omega) T' hT' hT's
        rw [D_cons, cost_law hcs hgm]
        simp only at h1 h2 h3
        omega
include hg in
theorem lo_below : ∀ (rest : List Nat), AllS rest → ∀ m, m ≤ goal.length → Lo goal rest m (belowA (revG goal) rest m)
  | [], hr => lo_here goal hg (.inl ⟨rfl, rfl⟩) hr
  | c :: r, hr => lo_here goal hg (.inr ⟨r, rfl, hr c (.head _), lo_below r fun x hx => hr x (.tail _ hx)⟩) hr
end

/-! names -/
theorem escS_cons (x : Nat) (n : List Nat) : escS (x :: n) = (if x = 34 then [34, 34] else [x]) ++ escS n := by
  unfold escS
  rw [replS]
  by_cases h : x = 34
  · subst h; simp
  · simp [h]
theorem parseF_ne {x : Nat} (h : x ≠ 34) (T : List Nat) : parseF (x :: T) = x :: parseF T := by
  cases T with
  | nil => simp [parseF, h]
  | cons d r => rw [parseF, if_neg h]
theorem parseF_qq (r : List Nat) : parseF (34 :: 34 :: r) = 34 :: parseF r := by rw [parseF]; simp
theorem parseF_q {T : List Nat} (h : T.head? ≠ some 34) : parseF (34 :: T) = [] := by
  cases T with
  | nil => simp [parseF]
  | cons d r => rw [parseF]; simp at h; simp [h]

theorem Lg_parse : ∀ (n T : List Nat), Lg (goalOf n) T → parseF T = n
  | [], T, h => by
    have h' : Lg [34] T := h
    rcases h' with ⟨_, rfl⟩ | ⟨T', rfl, h2⟩
    · rfl
    · exact parseF_q h2
  | x :: n, T, h => by
    have e : goalOf (x :: n) = (if x = 34 then [34, 34] else [x]) ++ goalOf n := by unfold goalOf; rw [escS_cons]; simp
    have hne : goalOf n ≠ [] := by simp [goalOf]
    rw [e] at h
    by_cases hx : x = 34
    · subst hx
      simp only [if_true, List.cons_append, List.nil_append] at h
      rcases h with ⟨h1, _⟩ | ⟨T', rfl, h⟩
      · cases h1
      · rcases h with ⟨h1, _⟩ | ⟨T'', rfl, h⟩
        · exact absurd h1 hne
        · rw [parseF_qq, Lg_parse n T'' h]
    · rw [if_neg hx] at h
      rcases h with ⟨h1, _⟩ | ⟨T', rfl, h⟩
      · exact absurd h1 hne
      · rw [parseF_ne hx, Lg_parse n T' h]

theorem Lg_self : ∀ (k : Nat) (A : List Nat), A.length ≤ k → Lg (goalOf (parseF A)) A := by
  have e : ∀ x n, goalOf (x :: n) = (if x = 34 then [34, 34] else [x]) ++ goalOf n := fun x n => by unfold goalOf; rw [escS_cons]; simp
  intro k
  induction k with
  | zero => intro A h; have : A = [] := List.length_eq_zero_iff.mp (by omega); subst this; exact .inl ⟨rfl, rfl⟩
  | succ k ih =>
    intro A hA
    cases A with
    | nil => exact .inl ⟨rfl, rfl⟩
    | cons x T =>
      have hT : T.length ≤ k := by simpa using hA
      by_cases hx : x = 34
      · subst hx
        by_cases ht : T.head? = some 34
        · cases T with
          | nil => simp at ht
          | cons d r =>
            have : d = 34 := by simpa using ht
            subst this
            rw [parseF_qq, e, if_pos rfl]
            exact .inr ⟨_, rfl, .inr ⟨_, rfl, ih r (by simp at hT; omega)⟩⟩
        · rw [parseF_q ht]
          exact .inr ⟨_, rfl, ht⟩
      · rw [parseF_ne hx, e, if_neg hx]
        exact .inr ⟨_, rfl, ih T hT⟩

theorem law_math (B A : List Nat) (hB : SignL B) (hA : SignL A) : LawOK B A := by
  have hpA := parseF_sub A.length A (Nat.le_refl _)
  have hname : AllS (parseF A) := fun x hx => hA.2 x (hpA.2 x hx)
  have hgoal : AllS (goalOf (parseF A)) := by
    have : ∀ n : List Nat, AllS n → AllS (goalOf n) := by
      intro n
      induction n with
      | nil => intro _ x hx; have : x = 34 := by simpa [goalOf, escS, replS] using hx
               exact .inl this
      | cons y n ih =>
        intro h x hx
        have e : goalOf (y :: n) = (if y = 34 then [34, 34] else [y]) ++ goalOf n := by unfold goalOf; rw [escS_cons]; simp
        rw [e] at hx
        rcases List.mem_append.mp hx with q | q
        · split at q
          · have : x = 34 := by simpa using q
            exact .inl this
          · have : x = y := by simpa using q
            subst this; exact h _ (.head _)
        · exact ih (fun z hz => h z (.tail _ hz)) x q
    exact this _ hname
  have up := up_below (goalOf (parseF A)) hgoal B hB.2 (goalOf (parseF A)).length (Nat.le_refl _)
  have lo := lo_below (goalOf (parseF A)) hgoal B hB.2 (goalOf (parseF A)).length (Nat.le_refl _)
  have hlen := belowA_len (revG (goalOf (parseF A))) B (goalOf (parseF A)).length
  have hgs : gsAt (goalOf (parseF A)) (goalOf (parseF A)).length = goalOf (parseF A) := by unfold gsAt; simp
  have hgl : (goalOf (parseF A)).length ≤ 11 := by
    have h1 := escS_len (parseF A); have h2 := hpA.1; have h3 := hA.1
    simp only [goalOf, List.length_append, List.length_cons, List.length_nil]; omega
  change Up (goalOf (parseF A)) B _ (mendF B (parseF A)) at up
  change Lo (goalOf (parseF A)) B _ (mendF B (parseF A)) at lo
  change (mendF B (parseF A)).2.length ≤ _ at hlen
  have hu := up.lg; have hd := up.d; have hs := up.s
  rw [hgs] at hu
  have lo' : ∀ T, Lg (goalOf (parseF A)) T → AllS T → (mendF B (parseF A)).1 ≤ D B T := by
    intro T h1 h2; exact lo T (by rw [hgs]; exact h1) h2
  have hp := Lg_parse _ _ hu
  have heq : D B (mendF B (parseF A)).2 = (mendF B (parseF A)).1 := Int.le_antisymm hd (lo' _ hu hs)
  have hAA := lo' A (Lg_self _ A (Nat.le_refl _)) hA.2
  have hBl := hB.1
  refine ⟨by omega, hp, ?_, ?_, ?_, ?_⟩
  · have := (lev_is (pre5 ++ B) (pre5 ++ (mendF B (parseF A)).2) (mendF B (parseF A)).1).1 (by rw [D_pre, heq]; exact Int.le_refl _)
    rw [this, D_pre, heq]
  · have h1 : D (pre5 ++ (mendF B (parseF A)).2) (pre5 ++ B) = (mendF B (parseF A)).1 := by rw [D_pre, D_symm, heq]
    have := (lev_is (pre5 ++ (mendF B (parseF A)).2) (pre5 ++ B) ((mendF B (parseF A)).1 - 1)).2 (by rw [h1]; omega)
    omega
  · have h1 : D (pre5 ++ A) (pre5 ++ B) = D B A := by rw [D_pre, D_symm]
    obtain ⟨l1, l2⟩ := lev_is (pre5 ++ A) (pre5 ++ B) (mendF B (parseF A)).1
    rw [h1] at l1 l2
    rcases Int.lt_or_le (mendF B (parseF A)).1 (D B A) with q | q
    · have := l2 q; omega
    · rw [l1 q]; omega
  · rw [Bool.eq_iff_iff, beq_iff_eq, beq_iff_eq]
    constructor
    · intro h
      rw [h] at heq
      rw [D_zero heq]; exact hp
    · intro h
      have h1 := lo' B (by rw [← h]; exact Lg_self _ B (Nat.le_refl _)) hB.2
      rw [D_self] at h1
      have := D_nonneg B (mendF B (parseF A)).2
      omega
end Mine
end
section
open PySem PySem.W PyProof.Rows PySem.Calls
set_option Elab.async false
set_option maxRecDepth 100000
set_option maxHeartbeats 8000000
namespace Mine
open_top hd2 for PySem.Challenge.rw_ti0002_02
end Mine
end
section
open PySem PySem.W PyProof.Rows PySem.Calls
set_option Elab.async false
set_option maxRecDepth 100000
set_option maxHeartbeats 8000000
set_option pp.deepTerms false
set_option pp.deepTerms.threshold 4
set_option pp.maxSteps 3000
namespace Mine
theorem enter_law {prog : Program} {w : World} {K : Frag} {p : Program} {loose : List Str} {mean : ExcName → Option Value} {mg mb : Str → Option Value} {s₁ : Shared} {h₁ : Heap} {name : Str} {scope : Scope} {fa : Addr} {cd : Value} (hk : scope.kind = .function)
    (X : K.In s₁.heap) (T : Top p loose mean mg mb s₁.heap) (B : Below callerA s₁.heap [] s₁.heap) {l : Addr} {x0 : Str} (F : Fr s₁.heap s₁.heap.objs.size h₁ fun x => [(x0, Value.ref l)].reverse.lookup x)
    {tk : Nat} (htk : 0 < tk) {names : List Str} (hnd : names.Nodup) (hloc : ∀ x ∈ names, scope.names.lookup x = some .local) {n : Nat} (hnames : names[0]? = some x0) {body : List Stmt}
    (hex : ∀ c : Act ⟨prog, w, K, p, loose, mean, mg, mb⟩, Loc c names scope → Room c 100 1000 → c.h0 = s₁.heap → Ex c (some (.ref l) :: List.replicate n none) [] [] body fun pf σ' O' N => pf = .ret (.bool true))
    {Q : Flow → Shared → Prop} {E : Value → Shared → Prop} {s : Shared} (hQ : ∀ h tk L m, Fr s₁.heap L h m → Q (.ret (.bool true)) (upd s h tk)) :
    wpAny (model prog w) (callerA.deeper (envOf name scope s₁.heap.objs.size fa cd)) (execs body (envOf name scope s₁.heap.objs.size fa cd)) Q E (upd s h₁ tk) := by
  let G : GC := ⟨prog, w, K, p, loose, mean, mg, mb⟩
  let env := envOf name scope s₁.heap.objs.size fa cd
  let c : Act G := { A := callerA.deeper env, fenv := env, env := env, L := s₁.heap.objs.size, h0 := s₁.heap, A0 := callerA, base := s₁.heap, outer := [], names := names, cells := [], B := B, X := X, T := T,
                     hA := rfl, hf := rfl, hk := hk, hek := hk, hhan := rfl, hglob := rfl, hbi := rfl, hnd := hnd }
  have H : Loc c names scope := ⟨rfl, rfl, rfl, hloc, ⟨rfl, fun x a h => by cases h⟩⟩
  have room : Room c 100 1000 := ⟨by show callerA.depth + 1 + 100 < _; decide, by show callerA.units + 3 + 1000 < _; decide⟩
  have S : St c (some (.ref l) :: List.replicate n none) [] [] (upd s h₁ tk) := by
    refine ⟨⟨_, [], F, fun p hp => by simp at hp, rfl, ?_⟩, List.nodup_nil, htk, ⟨fun q => (q rfl).elim, fun a ha => nomatch ha⟩⟩
    intro i x pv hx hv
    cases i with
    | zero =>
      rw [show c.names[0]? = names[0]? from rfl, hnames] at hx
      cases hx; cases hv
      exact ⟨_, rfl, .loc (H.kind (i := 0) hnames) rfl (by simp)⟩
    | succ i =>
      exfalso
      simp only [List.getElem?_cons_succ, List.getElem?_replicate] at hv
      split at hv <;> cases hv
  refine wpAny_mono (hex c H room rfl _ (fun fl s' => Q fl s') S ?_) (fun _ _ h => h) fun _ _ h => False.elim h
  rintro fl σ' O' N h tk' ⟨pf, rfl, v, rfl, iv⟩ S' ht
  cases iv
  obtain ⟨⟨mf, C, h1, _⟩, _⟩ := S'
  exact hQ h tk' _ mf h1
end Mine
open Mine
theorem PySem.Challenge.cw_ti0002_02_holds : PySem.Challenge.rw_ti0002_02.Holds := by
  exact hd2 (by
  k_go0
  rename Top _ _ _ _ _ _ => T
  rename Below _ _ _ _ => B
  rename Frag.In _ _ => X
  rename Fr _ _ _ _ => F
  rename News _ _ _ _ => N
  rename Heap.IsList _ _ _ => hL
  rename IntsAre _ _ => hI
  rename (_ = #[]) => hg
  rename ¬ _ => hlen
  refine enter_law rfl X T B F (Nat.succ_pos _) (names := lawNames) (by decide) (by decide) (n := 8) rfl ?_ ?_
  · intro c H room h0
    refine law_walk ?_ law_math c H room _ _ _ (h0 ▸ hL) hI (by omega)
    refine ⟨⟨by (dsimp only; k_is), by (dsimp only; k_is), by (dsimp only; k_is), by (dsimp only; k_is), ⟨_, by (dsimp only; k_is)⟩, ⟨_, by (dsimp only; k_is)⟩, ⟨_, by (dsimp only; k_is)⟩⟩, by (dsimp only; k_is), by (dsimp only; k_is), by (dsimp only; k_is), ⟨_, by (dsimp only; k_is)⟩, ⟨_, by (dsimp only; k_is)⟩, ?_, ?_, ?_, ?_, ?_, ?_, ?_, ?_, ?_, ?_⟩
    all_goals exact ⟨_, by (dsimp only; k_is), by (dsimp only; k_is), ⟨_, _, _, _, _, _, _, _, _, _, by (dsimp only; k_is), by (dsimp only; k_is)⟩⟩
  · intro h tk L m F2
    wrow_close)
end
