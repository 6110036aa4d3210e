import PyProof.Rows.All
import Wide.All
import OpenK.AllK
import Wide.FinOn
import PySem.Challenge.RW_ti0002_01
set_option Elab.async false
section
open PySem PySem.W PyProof.Rows PySem.Calls
set_option autoImplicit false
set_option linter.unusedVariables false
namespace Mine

/-! ### abstract values -/
set_option genSizeOf false in
inductive PV where
  | none | bool (b : Bool) | int (i : Int) | str (s : Str) | ref (a : Addr)

def PV.Is : PV → Value → Prop
  | .none, v => v = Value.none
  | .bool b, v => v = Value.bool b
  | .int i, v => ∃ t, v = Value.int i t
  | .str x, v => ∃ t, v = Value.str x t
  | .ref a, v => v = Value.ref a

inductive All2 {α β : Type} (R : α → β → Prop) : List α → List β → Prop
  | nil : All2 R [] []
  | cons {a : α} {b : β} {as : List α} {bs : List β} : R a b → All2 R as bs → All2 R (a :: as) (b :: bs)

abbrev Led := List (Addr × Obj)
abbrev Sto := List (Option PV)
abbrev upd (s : Shared) (h : Heap) (tk : Nat) : Shared := { s with heap := h, toks := tk }
abbrev NoE : Value → Shared → Prop := fun _ _ => False

set_option genInjectivity false in
set_option genSizeOf false in
structure GC where
  prog : Program
  w : World
  K : Frag
  p : Program
  loose : List Str
  mean : ExcName → Option Value
  mg : Str → Option Value
  mb : Str → Option Value

abbrev GC.M (G : GC) : Model := model G.prog G.w

set_option genInjectivity false in
set_option genSizeOf false in
structure Act (G : GC) where
  A : Around
  fenv : Env
  env : Env
  L : Addr
  h0 : Heap
  A0 : Around
  base : Heap
  outer : List Env
  names : List Str
  cells : List Addr
  B : Below A0 base outer h0
  X : G.K.In h0
  T : Top G.p G.loose G.mean G.mg G.mb h0
  hA : A.frames = some (fenv :: outer)
  hf : fenv.frame = some L
  hk : fenv.scope.kind = .function
  hek : env.scope.kind = .function
  hhan : A.handled = none
  hglob : env.globals = mainGlobals
  hbi : env.builtins = builtinsNs
  hnd : names.Nodup
  oL : Obj := { cls := .none }

inductive Holds {G : GC} (c : Act G) (mf : Str → Option Value) (C F : Led) (x : Str) (v : Value) : Prop
  | loc (h1 : c.env.kindOf x = some .local) (h2 : c.env.locals = c.L) (h3 : mf x = some v)
  | comp (h1 : c.env.kindOf x = some .local) (o : Obj) (m : Str → Option Value) (h2 : (c.env.locals, o) ∈ F)
      (h3 : ∀ h : Heap, h.get? c.env.locals = some o → h.Ns c.env.locals m) (h4 : m x = some v)
  | cell (h1 : c.env.kindOf x = some .cell) (a : Addr) (o : Obj) (h2 : c.env.cells.lookup x = some a) (h3 : (a, o) ∈ C ++ F) (h4 : o.data = .cell (some v))

def VarsOK {G : GC} (c : Act G) (mf : Str → Option Value) (C F : Led) (σ : Sto) : Prop :=
  ∀ (i : Nat) (x : Str) (pv : PV), c.names[i]? = some x → σ[i]? = some (some pv) → ∃ v, pv.Is v ∧ Holds c mf C F x v

/-- what stands at the owner's namespace, if it is not this activation's; the cells are cells -/
def FzOK {G : GC} (c : Act G) (h : Heap) : Prop := (c.env.locals ≠ c.L → h.get? c.L = some c.oL) ∧ ∀ a ∈ c.cells, ∃ o v, h.get? a = some o ∧ o.data = .cell v
theorem FzOK.of {G : GC} {c : Act G} {h h' : Heap} (H : FzOK c h) (k1 : ∀ o, h.get? c.L = some o → h'.get? c.L = some o) (k2 : ∀ a ∈ c.cells, ∀ o, h.get? a = some o → h'.get? a = some o) : FzOK c h' :=
  ⟨fun q => k1 _ (H.1 q), fun a ha => let ⟨o, v, e, d⟩ := H.2 a ha; ⟨o, v, k2 a ha o e, d⟩⟩

structure St {G : GC} (c : Act G) (σ : Sto) (O F : Led) (s : Shared) : Prop where
  ex : ∃ (mf : Str → Option Value) (C : Led), Fr c.h0 c.L s.heap mf ∧ News c.h0 c.L s.heap (C ++ (O ++ F)) ∧ C.map (·.1) = c.cells ∧ VarsOK c mf C F σ
  nd : (c.cells ++ (O ++ F).map (·.1)).Nodup
  tk : 0 < s.toks
  fz : FzOK c s.heap

abbrev VPost := PV → Led → Led → Prop
abbrev BPost := Bool → Led → Led → Prop

set_option genSizeOf false in
inductive PF where
  | next | brk | cont | ret (v : PV)

def PF.Is : PF → Flow → Prop
  | .next, f => f = .next
  | .brk, f => f = .brk
  | .cont, f => f = .cont
  | .ret pv, f => ∃ v, f = .ret v ∧ pv.Is v

abbrev FPost := PF → Sto → Led → Led → Prop

/-- a predicate transformer does what it should from every state that is so -/
def TG {G : GC} {β : Type} (c : Act G) (σ : Sto) (O F : Led) (T : (β → Shared → Prop) → Shared → Prop) (R : β → Sto → Led → Led → Prop) : Prop :=
  ∀ (s : Shared) (Q : β → Shared → Prop), St c σ O F s →
    (∀ b σ' O' N h tk, R b σ' O' N → St c σ' O' (N ++ F) (upd s h tk) → s.toks ≤ tk → Q b (upd s h tk)) → T Q s

abbrev RV (σ : Sto) (R : VPost) : Value → Sto → Led → Led → Prop := fun v σ' O' N => σ' = σ ∧ ∃ pv, R pv O' N ∧ pv.Is v
abbrev RB (σ : Sto) (R : BPost) : Bool → Sto → Led → Led → Prop := fun v σ' O' N => σ' = σ ∧ R v O' N
abbrev RF (R : FPost) : Flow → Sto → Led → Led → Prop := fun v σ' O' N => ∃ pf, R pf σ' O' N ∧ PF.Is pf v

def TV {G : GC} (c : Act G) (σ : Sto) (O F : Led) (t : Sem Value) (R : VPost) : Prop := TG c σ O F (fun Q s => wpAny G.M c.A t Q NoE s) (RV σ R)
def TB {G : GC} (c : Act G) (σ : Sto) (O F : Led) (t : Sem Bool) (R : BPost) : Prop := TG c σ O F (fun Q s => wpAny G.M c.A t Q NoE s) (RB σ R)
def TF {G : GC} (c : Act G) (σ : Sto) (O F : Led) (t : Sem Flow) (R : FPost) : Prop := TG c σ O F (fun Q s => wpAny G.M c.A t Q NoE s) (RF R)

abbrev Ev {G : GC} (c : Act G) (σ : Sto) (O F : Led) (e : Expr) (R : VPost) : Prop := TV c σ O F (eval e c.env) R
abbrev Tst {G : GC} (c : Act G) (σ : Sto) (O F : Led) (e : Expr) (R : BPost) : Prop := TB c σ O F (PySem.isTrue e c.env (eval e c.env)) R

abbrev just (O : Led) (pv : PV) : VPost := fun r O' N => r = pv ∧ O' = O ∧ N = []
abbrev justB (O : Led) (b : Bool) : BPost := fun r O' N => r = b ∧ O' = O ∧ N = []
abbrev Evp {G : GC} (c : Act G) (σ : Sto) (O F : Led) (e : Expr) (pv : PV) : Prop := Ev c σ O F e (just O pv)
abbrev TVp {G : GC} (c : Act G) (σ : Sto) (O F : Led) (t : Sem Value) (pv : PV) : Prop := TV c σ O F t (just O pv)
abbrev Tstp {G : GC} (c : Act G) (σ : Sto) (O F : Led) (e : Expr) (b : Bool) : Prop := Tst c σ O F e (justB O b)
abbrev TBp {G : GC} (c : Act G) (σ : Sto) (O F : Led) (t : Sem Bool) (b : Bool) : Prop := TB c σ O F t (justB O b)
abbrev Ex {G : GC} (c : Act G) (σ : Sto) (O F : Led) (ss : List Stmt) (P : FPost) : Prop := TF c σ O F (execs ss c.env) P
abbrev Ex1 {G : GC} (c : Act G) (σ : Sto) (O F : Led) (st : Stmt) (P : FPost) : Prop := TF c σ O F (exec st c.env) P

/-! ### state lemmas -/
section
variable {G : GC} {c : Act G} {σ : Sto} {O F : Led} {s : Shared}

theorem cells_at {h : Heap} {C X : Led} (N : News c.h0 c.L h (C ++ X)) (hC : C.map (·.1) = c.cells) {a : Addr} (ha : a ∈ c.cells) : a ≠ c.L ∧ c.h0.get? a = none ∧ ∃ o, (a, o) ∈ C ∧ h.get? a = some o := by
  rw [← hC] at ha
  obtain ⟨p, hp, rfl⟩ := List.mem_map.mp ha
  have := N p (List.mem_append_left _ hp)
  exact ⟨this.2.1, this.2.2, p.2, hp, this.1⟩

theorem news_sub {h₀ h : Heap} {L : Addr} {n n' : Led} (N : News h₀ L h n) (hs : ∀ p ∈ n', p ∈ n) : News h₀ L h n' := fun p hp => N p (hs p hp)

theorem Holds.mono {mf : Str → Option Value} {C F F' : Led} {x : Str} {v : Value} (h : Holds c mf C F x v) (hs : ∀ p ∈ F, p ∈ F') : Holds c mf C F' x v := by
  cases h with
  | loc h1 h2 h3 => exact .loc h1 h2 h3
  | comp h1 o m h2 h3 h4 => exact .comp h1 o m (hs _ h2) h3 h4
  | cell h1 a o h2 h3 h4 => exact .cell h1 a o h2 (by
      rcases List.mem_append.mp h3 with h | h
      · exact List.mem_append_left _ h
      · exact List.mem_append_right _ (hs _ h)) h4

theorem VarsOK.mono {mf : Str → Option Value} {C F F' : Led} {σ : Sto} (h : VarsOK c mf C F σ) (hs : ∀ p ∈ F, p ∈ F') : VarsOK c mf C F' σ :=
  fun i x pv h1 h2 => let ⟨v, h3, h4⟩ := h i x pv h1 h2; ⟨v, h3, h4.mono hs⟩

theorem frame_keeps {h₀ h h' : Heap} {L : Addr} {m : Str → Option Value} (F : Fr h₀ L h m) (k : ∀ b o, h.get? b = some o → h'.get? b = some o) : Fr h₀ L h' m :=
  ⟨F.ns.keeps k, fun b o e => k b o (F.keep b o e), F.above⟩
theorem news_keeps {h₀ h h' : Heap} {L : Addr} {n : Led} (N : News h₀ L h n) (k : ∀ b o, h.get? b = some o → h'.get? b = some o) : News h₀ L h' n :=
  fun p hp => ⟨k _ _ (N p hp).1, (N p hp).2⟩

/-- the heap has only grown -/
theorem St.keeps (S : St c σ O F s) {h : Heap} {tk : Nat} (k : ∀ b o, s.heap.get? b = some o → h.get? b = some o) (ht : s.toks ≤ tk) : St c σ O F (upd s h tk) := by
  obtain ⟨⟨mf, C, h1, h2, h3, h4⟩, h5, h6, h7⟩ := S
  exact ⟨⟨mf, C, frame_keeps h1 k, news_keeps h2 k, h3, h4⟩, h5, Nat.lt_of_lt_of_le h6 ht, h7.of (fun _ e => k _ _ e) fun _ _ _ e => k _ _ e⟩

theorem St.toks (S : St c σ O F s) {tk : Nat} (ht : s.toks ≤ tk) : St c σ O F (upd s s.heap tk) := S.keeps (fun _ _ e => e) ht

theorem St.get (S : St c σ O F s) {a : Addr} {o : Obj} (h : (a, o) ∈ O ++ F) : s.heap.get? a = some o := by
  obtain ⟨⟨mf, C, h1, h2, h3, h4⟩, h5, h6, h7⟩ := S
  exact (h2 _ (List.mem_append_right _ h)).1

theorem TG.mono {β : Type} {T : (β → Shared → Prop) → Shared → Prop} {R R' : β → Sto → Led → Led → Prop} (h : TG c σ O F T R) (hR : ∀ b σ' O' N, R b σ' O' N → R' b σ' O' N) : TG c σ O F T R' :=
  fun s Q S k => h s Q S fun b σ' O' N hh tk r S' ht => k b σ' O' N hh tk (hR _ _ _ _ r) S' ht

theorem TG.of {β : Type} {T T' : (β → Shared → Prop) → Shared → Prop} {R : β → Sto → Led → Led → Prop} (h : TG c σ O F T R) (hT : ∀ Q s, T Q s → T' Q s) : TG c σ O F T' R :=
  fun s Q S k => hT _ _ (h s Q S k)

theorem TG.bind {β γ : Type} {T : (β → Shared → Prop) → Shared → Prop} {T2 : β → (γ → Shared → Prop) → Shared → Prop} {R : β → Sto → Led → Led → Prop} {R2 : γ → Sto → Led → Led → Prop}
    (h : TG c σ O F T R) (k : ∀ b σ1 O1 N1, R b σ1 O1 N1 → TG c σ1 O1 (N1 ++ F) (T2 b) fun g σ2 O2 N2 => R2 g σ2 O2 (N2 ++ N1)) :
    TG c σ O F (fun Q s => T (fun b s1 => T2 b Q s1) s) R2 := by
  intro s Q S q
  refine h s _ S fun b σ1 O1 N1 h1 tk1 r1 S1 ht1 => ?_
  refine k b σ1 O1 N1 r1 _ Q S1 fun g σ2 O2 N2 h2 tk2 r2 S2 ht2 => ?_
  exact q g σ2 O2 (N2 ++ N1) h2 tk2 r2 (by rw [List.append_assoc]; exact S2) (Nat.le_trans ht1 ht2)

theorem TV.bindG {γ : Type} {t : Sem Value} {R : VPost} {T2 : Value → (γ → Shared → Prop) → Shared → Prop} {R2 : γ → Sto → Led → Led → Prop}
    (h : TV c σ O F t R) (k : ∀ v pv O1 N1, R pv O1 N1 → pv.Is v → TG c σ O1 (N1 ++ F) (T2 v) fun g σ2 O2 N2 => R2 g σ2 O2 (N2 ++ N1)) :
    TG c σ O F (fun Q s => wpAny G.M c.A t (fun v s1 => T2 v Q s1) NoE s) R2 :=
  TG.bind (T := fun Q s => wpAny G.M c.A t Q NoE s) h fun b σ1 O1 N1 ⟨e, pv, r, i⟩ => by subst e; exact k b pv O1 N1 r i

theorem TV.bindp {γ : Type} {t : Sem Value} {pv : PV} {T2 : Value → (γ → Shared → Prop) → Shared → Prop} {R2 : γ → Sto → Led → Led → Prop}
    (h : TVp c σ O F t pv) (k : ∀ v, pv.Is v → TG c σ O F (T2 v) R2) :
    TG c σ O F (fun Q s => wpAny G.M c.A t (fun v s1 => T2 v Q s1) NoE s) R2 :=
  TV.bindG h fun v pv' O1 N1 ⟨e1, e2, e3⟩ i => by subst e1 e2 e3; simpa using k v i

theorem TB.bindG {γ : Type} {t : Sem Bool} {R : BPost} {T2 : Bool → (γ → Shared → Prop) → Shared → Prop} {R2 : γ → Sto → Led → Led → Prop}
    (h : TB c σ O F t R) (k : ∀ v O1 N1, R v O1 N1 → TG c σ O1 (N1 ++ F) (T2 v) fun g σ2 O2 N2 => R2 g σ2 O2 (N2 ++ N1)) :
    TG c σ O F (fun Q s => wpAny G.M c.A t (fun v s1 => T2 v Q s1) NoE s) R2 :=
  TG.bind (T := fun Q s => wpAny G.M c.A t Q NoE s) h fun b σ1 O1 N1 ⟨e, r⟩ => by subst e; exact k b O1 N1 r

theorem TB.bindp {γ : Type} {t : Sem Bool} {b : Bool} {T2 : Bool → (γ → Shared → Prop) → Shared → Prop} {R2 : γ → Sto → Led → Led → Prop}
    (h : TBp c σ O F t b) (k : TG c σ O F (T2 b) R2) :
    TG c σ O F (fun Q s => wpAny G.M c.A t (fun v s1 => T2 v Q s1) NoE s) R2 :=
  TB.bindG h fun v O1 N1 ⟨e1, e2, e3⟩ => by subst e1 e2 e3; simpa using k

theorem TV.mono {t : Sem Value} {R R' : VPost} (h : TV c σ O F t R) (hR : ∀ pv O' N, R pv O' N → R' pv O' N) : TV c σ O F t R' :=
  TG.mono h fun b σ' O' N ⟨e, pv, r, i⟩ => ⟨e, pv, hR _ _ _ r, i⟩
theorem TB.mono {t : Sem Bool} {R R' : BPost} (h : TB c σ O F t R) (hR : ∀ pv O' N, R pv O' N → R' pv O' N) : TB c σ O F t R' :=
  TG.mono h fun b σ' O' N ⟨e, r⟩ => ⟨e, hR _ _ _ r⟩
theorem TF.mono {t : Sem Flow} {R R' : FPost} (h : TF c σ O F t R) (hR : ∀ pf σ' O' N, R pf σ' O' N → R' pf σ' O' N) : TF c σ O F t R' :=
  TG.mono h fun b σ' O' N ⟨pf, r, i⟩ => ⟨pf, hR _ _ _ _ r, i⟩

theorem TG.pure {β : Type} {T : (β → Shared → Prop) → Shared → Prop} {P : β → Prop} {R : β → Sto → Led → Led → Prop}
    (mono : ∀ Q Q' : β → Shared → Prop, (∀ b s', Q b s' → Q' b s') → ∀ s, T Q s → T Q' s)
    (toks : ∀ Q s, T Q s → T (fun b s' => s.toks ≤ s'.toks ∧ Q b s') s)
    (h : ∀ (s : Shared) (Q : β → Shared → Prop), St c σ O F s → (∀ v h tk, P v → (∀ b o, s.heap.get? b = some o → h.get? b = some o) → Q v (upd s h tk)) → T Q s)
    (hR : ∀ v, P v → R v σ O []) : TG c σ O F T R := by
  intro s Q S k
  refine mono _ _ ?_ _ (toks _ _ (h s (fun v s' => ∃ h tk, s' = upd s h tk ∧ P v ∧ ∀ b o, s.heap.get? b = some o → h.get? b = some o) S fun v h tk i k => ⟨h, tk, rfl, i, k⟩))
  rintro v s' ⟨ht, h', tk, rfl, i, kk⟩
  exact k v σ O [] h' tk (hR v i) (S.keeps kk ht) ht

theorem wp_toks1 {β : Type} {t : Sem β} {A : Around} (Q : β → Shared → Prop) (s : Shared) (h : wpAny G.M A t Q NoE s) : wpAny G.M A t (fun b s' => s.toks ≤ s'.toks ∧ Q b s') NoE s :=
  wpAny_mono (wpAny_toks h) (fun _ _ e => e) fun _ _ e => e.2

theorem TV.pure {t : Sem Value} {pv : PV}
    (h : ∀ (s : Shared) (Q : Value → Shared → Prop), St c σ O F s → (∀ v h tk, pv.Is v → (∀ b o, s.heap.get? b = some o → h.get? b = some o) → Q v (upd s h tk)) → wpAny G.M c.A t Q NoE s) : TVp c σ O F t pv :=
  TG.pure (P := pv.Is) (fun Q Q' hq s h => wpAny_mono h (fun b s' e => hq b s' e) fun _ _ e => e) (fun Q s h => wp_toks1 Q s h) h fun v i => ⟨rfl, pv, ⟨rfl, rfl, rfl⟩, i⟩
theorem TB.pure {t : Sem Bool} {b : Bool}
    (h : ∀ (s : Shared) (Q : Bool → Shared → Prop), St c σ O F s → (∀ h tk, (∀ b o, s.heap.get? b = some o → h.get? b = some o) → Q b (upd s h tk)) → wpAny G.M c.A t Q NoE s) : TBp c σ O F t b :=
  TG.pure (P := fun v => v = b) (fun Q Q' hq s h => wpAny_mono h (fun b s' e => hq b s' e) fun _ _ e => e) (fun Q s h => wp_toks1 Q s h)
    (fun s Q S k => h s Q S fun h tk kk => k b h tk rfl kk) fun v i => ⟨rfl, i, rfl, rfl⟩

/-! ### expressions -/
theorem ev_int {i : Int} {k : Nat} {pos : Pos} : Evp c σ O F (.Constant (.int i) k pos) (.int i) :=
  TV.pure fun s Q _ h => fun Γ p hΓ => h (.int i s.toks) s.heap (s.toks + 1) ⟨_, rfl⟩ (fun _ _ e => e)
theorem ev_str {x : Str} {k : Nat} {pos : Pos} : Evp c σ O F (.Constant (.str x) k pos) (.str x) :=
  TV.pure fun s Q _ h => fun Γ p hΓ => h (.str x s.toks) s.heap (s.toks + 1) ⟨_, rfl⟩ (fun _ _ e => e)
theorem ev_none {k : Nat} {pos : Pos} : Evp c σ O F (.Constant .none k pos) .none :=
  TV.pure fun s Q _ h => fun Γ p hΓ => h .none s.heap s.toks rfl (fun _ _ e => e)

theorem load_holds {mf : Str → Option Value} {C : Led} {x : Str} {v : Value} {Q : Value → Shared → Prop} (H : Holds c mf C F x v) (hF : Fr c.h0 c.L s.heap mf) (hN : News c.h0 c.L s.heap (C ++ (O ++ F)))
    (h : Q v s) : wpAny G.M c.A (loadName c.env x) Q NoE s := by
  cases H with
  | loc h1 h2 h3 => exact wpAny_loadName_local c.hek h1 (by rw [h2]; exact hF.ns) h3 h
  | comp h1 o m h2 h3 h4 => exact wpAny_loadName_local c.hek h1 (h3 _ (hN _ (List.mem_append_right _ (List.mem_append_right _ h2))).1) h4 h
  | cell h1 a o h2 h3 h4 => exact wpAny_loadName_cell c.hek h1 h2 ⟨o, (hN (a, o) (by
      rcases List.mem_append.mp h3 with h | h
      · exact List.mem_append_left _ h
      · exact List.mem_append_right _ (List.mem_append_right _ h))).1, h4⟩ h

theorem load_var {i : Nat} {x : Str} {pv : PV} (hx : c.names[i]? = some x) (hv : σ[i]? = some (some pv)) : TVp c σ O F (loadName c.env x) pv := by
  refine TV.pure fun s Q S h => ?_
  obtain ⟨⟨mf, C, h1, h2, h3, h4⟩, h5, h6, h7⟩ := S
  obtain ⟨v, i1, H⟩ := h4 i x pv hx hv
  exact load_holds H h1 h2 (h v s.heap s.toks i1 fun _ _ e => e)

theorem ev_var (i : Nat) {x : Str} {pos : Pos} {pv : PV} (hx : c.names[i]? = some x) (hv : σ[i]? = some (some pv)) (hd : (x == Str.ofString "__debug__") = false := by decide) :
    Evp c σ O F (.Name x pos) pv := by
  intro s Q S k
  exact wpAny_Name (load_var hx hv s Q S k) hd

/-! global names -/
theorem ev_glob {x : Str} {pos : Pos} {v : Value} {pv : PV} (e : nsIn G.K mainGlobals x = some (some v)) (hp : pv.Is v) (hx : c.env.kindOf x = some .globalImplicit) (hd : (x == Str.ofString "__debug__") = false := by decide) :
    Evp c σ O F (.Name x pos) pv := by
  refine TV.pure fun s Q S h => ?_
  obtain ⟨⟨mf, C, h1, h2, h3, h4⟩, h5, h6, h7⟩ := S
  exact Name_function_global c.hek hx (loadGlobal_global (by rw [c.hglob]; exact c.T.g.keeps h1.keep) (mg_of c.X c.T.g e) (h v s.heap s.toks hp fun _ _ e => e)) hd
end
end Mine
end
section
open PySem PySem.W PyProof.Rows PySem.Calls
set_option autoImplicit false
set_option linter.unusedVariables false
namespace Mine
section
variable {G : GC} {c : Act G} {σ : Sto} {O F : Led} {s : Shared}

/-! binary operators -/
theorem ev_bin {l r : Expr} {op : Operator} {pos : Pos} {pl pr : PV} {R : VPost} (hl : Evp c σ O F l pl) (hr : Evp c σ O F r pr)
    (h : ∀ vl vr, pl.Is vl → pr.Is vr → TV c σ O F (binaryOp op vl vr) R) : Ev c σ O F (.BinOp l op r pos) R :=
  TG.of (TV.bindp hl fun vl il => TV.bindp hr fun vr ir => h vl vr il ir) fun Q s h => wpAny_BinOp h

theorem op_add_int {a b : Int} {t u : Tok} : TVp c σ O F (binaryOp .Add (.int a t) (.int b u)) (.int (a + b)) :=
  TV.pure fun s Q S k => add_int (k _ s.heap _ ⟨_, rfl⟩ fun _ _ e => e)
theorem op_sub_int {a b : Int} {t u : Tok} : TVp c σ O F (binaryOp .Sub (.int a t) (.int b u)) (.int (a - b)) :=
  TV.pure fun s Q S k => sub_int (k _ s.heap _ ⟨_, rfl⟩ fun _ _ e => e)
theorem op_mul_int {a b : Int} {t u : Tok} (h : IntMulOk a b) : TVp c σ O F (binaryOp .Mult (.int a t) (.int b u)) (.int (a * b)) :=
  TV.pure fun s Q S k => mul_int (k _ s.heap _ ⟨_, rfl⟩ fun _ _ e => e) h
theorem op_fdiv_int {a b : Int} {t u : Tok} (h : b ≠ 0) (hp : Builtin.divisionGoesByPylong a b = false) : TVp c σ O F (binaryOp .FloorDiv (.int a t) (.int b u)) (.int (Int.fdiv a b)) :=
  TV.pure fun s Q S k => floordiv_int h (k _ s.heap _ ⟨_, rfl⟩ fun _ _ e => e) (.inl hp)
theorem op_fmod_int {a b : Int} {t u : Tok} (h : b ≠ 0) : TVp c σ O F (binaryOp .Mod (.int a t) (.int b u)) (.int (Int.fmod a b)) :=
  TV.pure fun s Q S k => mod_int' h (k _ s.heap _ ⟨_, rfl⟩ fun _ _ e => e)
theorem op_add_str {a b : Str} {t u : Tok} (h : a.length + b.length ≤ sizeLine) : TVp c σ O F (binaryOp .Add (.str a t) (.str b u)) (.str (a ++ b)) :=
  TV.pure fun s Q S k => add_str (fun t' tk => k _ s.heap tk ⟨t', rfl⟩ fun _ _ e => e) h
theorem op_mul_str {x : Str} {n : Int} {t u : Tok} (h : MulOk x n) : TVp c σ O F (binaryOp .Mult (.str x t) (.int n u)) (.str (Txt.mul x n)) :=
  TV.pure fun s Q S k => SB.mul h (fun t' tk => k _ s.heap tk ⟨t', rfl⟩ fun _ _ e => e)

theorem ev_add {l r : Expr} {pos : Pos} {a b : Int} (hl : Evp c σ O F l (.int a)) (hr : Evp c σ O F r (.int b)) : Evp c σ O F (.BinOp l .Add r pos) (.int (a + b)) :=
  ev_bin hl hr fun vl vr ⟨t, e⟩ ⟨u, e'⟩ => by subst e e'; exact op_add_int
theorem ev_sub {l r : Expr} {pos : Pos} {a b : Int} (hl : Evp c σ O F l (.int a)) (hr : Evp c σ O F r (.int b)) : Evp c σ O F (.BinOp l .Sub r pos) (.int (a - b)) :=
  ev_bin hl hr fun vl vr ⟨t, e⟩ ⟨u, e'⟩ => by subst e e'; exact op_sub_int
theorem ev_mul {l r : Expr} {pos : Pos} {a b : Int} (hl : Evp c σ O F l (.int a)) (hr : Evp c σ O F r (.int b)) (h : IntMulOk a b) : Evp c σ O F (.BinOp l .Mult r pos) (.int (a * b)) :=
  ev_bin hl hr fun vl vr ⟨t, e⟩ ⟨u, e'⟩ => by subst e e'; exact op_mul_int h
theorem ev_fdiv {l r : Expr} {pos : Pos} {a b : Int} (hl : Evp c σ O F l (.int a)) (hr : Evp c σ O F r (.int b)) (h : b ≠ 0) (hp : Builtin.divisionGoesByPylong a b = false) : Evp c σ O F (.BinOp l .FloorDiv r pos) (.int (Int.fdiv a b)) :=
  ev_bin hl hr fun vl vr ⟨t, e⟩ ⟨u, e'⟩ => by subst e e'; exact op_fdiv_int h hp
theorem ev_fmod {l r : Expr} {pos : Pos} {a b : Int} (hl : Evp c σ O F l (.int a)) (hr : Evp c σ O F r (.int b)) (h : b ≠ 0) : Evp c σ O F (.BinOp l .Mod r pos) (.int (Int.fmod a b)) :=
  ev_bin hl hr fun vl vr ⟨t, e⟩ ⟨u, e'⟩ => by subst e e'; exact op_fmod_int h
theorem ev_adds {l r : Expr} {pos : Pos} {a b : Str} (hl : Evp c σ O F l (.str a)) (hr : Evp c σ O F r (.str b)) (h : a.length + b.length ≤ sizeLine) : Evp c σ O F (.BinOp l .Add r pos) (.str (a ++ b)) :=
  ev_bin hl hr fun vl vr ⟨t, e⟩ ⟨u, e'⟩ => by subst e e'; exact op_add_str h
theorem ev_muls {l r : Expr} {pos : Pos} {a : Str} {n : Int} (hl : Evp c σ O F l (.str a)) (hr : Evp c σ O F r (.int n)) (h : MulOk a n) : Evp c σ O F (.BinOp l .Mult r pos) (.str (Txt.mul a n)) :=
  ev_bin hl hr fun vl vr ⟨t, e⟩ ⟨u, e'⟩ => by subst e e'; exact op_mul_str h

/-! unary -/
/-! truth -/
theorem tr_bool {b : Bool} : TBp c σ O F (truthy (.bool b)) b := TB.pure fun s Q S k => wpAny_truthy_bool (k s.heap s.toks fun _ _ e => e)
theorem tr_int {a : Int} {t : Tok} : TBp c σ O F (truthy (.int a t)) (a != 0) := TB.pure fun s Q S k => truthy_int (k s.heap s.toks fun _ _ e => e)

/-! comparisons -/
theorem ev_cmp {l r : Expr} {op : CmpOp} {pos : Pos} {pl pr : PV} {R : VPost} (hl : Evp c σ O F l pl) (hr : Evp c σ O F r pr) (hm : behindInMarks op r = false)
    (h : ∀ vl vr, pl.Is vl → pr.Is vr → TV c σ O F (compareOp op vl vr) R) : Ev c σ O F (.Compare l [op] [r] pos) R :=
  TG.of (TV.bindp hl fun vl il => TV.bindp hr fun vr ir => h vl vr il ir) fun Q s h => wpAny_Compare1 h hm
theorem ts_cmp {l r : Expr} {op : CmpOp} {pos : Pos} {pl pr : PV} {b : Bool} (hl : Evp c σ O F l pl) (hr : Evp c σ O F r pr) (hm : behindInMarks op r = false)
    (h : ∀ vl vr, pl.Is vl → pr.Is vr → TVp c σ O F (compareOp op vl vr) (.bool b)) : Tstp c σ O F (.Compare l [op] [r] pos) b :=
  TG.of (TV.bindp hl fun vl il => TV.bindp hr fun vr ir => TV.bindp (h vl vr il ir) fun v e => by cases e; exact tr_bool) fun Q s h => wpAny_isTrue_Compare1 h hm

theorem cm_eq_int {a b : Int} {t u : Tok} : TVp c σ O F (compareOp .Eq (.int a t) (.int b u)) (.bool (a == b)) := TV.pure fun s Q S k => eq_int (k _ s.heap s.toks rfl fun _ _ e => e)
theorem cm_ne_int {a b : Int} {t u : Tok} : TVp c σ O F (compareOp .NotEq (.int a t) (.int b u)) (.bool (a != b)) := TV.pure fun s Q S k => ne_int (k _ s.heap s.toks rfl fun _ _ e => e)
theorem cm_lt_int {a b : Int} {t u : Tok} : TVp c σ O F (compareOp .Lt (.int a t) (.int b u)) (.bool (decide (a < b))) := TV.pure fun s Q S k => lt_int (k _ s.heap s.toks rfl fun _ _ e => e)
theorem cm_le_int {a b : Int} {t u : Tok} : TVp c σ O F (compareOp .LtE (.int a t) (.int b u)) (.bool (decide (a ≤ b))) := TV.pure fun s Q S k => le_int (k _ s.heap s.toks rfl fun _ _ e => e)
theorem cm_gt_int {a b : Int} {t u : Tok} : TVp c σ O F (compareOp .Gt (.int a t) (.int b u)) (.bool (decide (b < a))) := TV.pure fun s Q S k => gt_int (k _ s.heap s.toks rfl fun _ _ e => e)
theorem cm_ge_int {a b : Int} {t u : Tok} : TVp c σ O F (compareOp .GtE (.int a t) (.int b u)) (.bool (decide (b ≤ a))) := TV.pure fun s Q S k => ge_int (k _ s.heap s.toks rfl fun _ _ e => e)
theorem cm_eq_str {a b : Str} {t u : Tok} : TVp c σ O F (compareOp .Eq (.str a t) (.str b u)) (.bool (a == b)) := TV.pure fun s Q S k => eq_str (k _ s.heap s.toks rfl fun _ _ e => e)
theorem cm_ne_str {a b : Str} {t u : Tok} : TVp c σ O F (compareOp .NotEq (.str a t) (.str b u)) (.bool (a != b)) := TV.pure fun s Q S k => ne_str (k _ s.heap s.toks rfl fun _ _ e => e)
theorem cm_ne_bool {a b : Bool} : TVp c σ O F (compareOp .NotEq (.bool a) (.bool b)) (.bool (a != b)) := TV.pure fun s Q S k => ne_bool (k _ s.heap s.toks rfl fun _ _ e => e)

/-- what a comparison of two plain values is -/
inductive CmpIs : CmpOp → PV → PV → Bool → Prop
  | eqI (a b : Int) : CmpIs .Eq (.int a) (.int b) (a == b)
  | neI (a b : Int) : CmpIs .NotEq (.int a) (.int b) (a != b)
  | ltI (a b : Int) : CmpIs .Lt (.int a) (.int b) (decide (a < b))
  | leI (a b : Int) : CmpIs .LtE (.int a) (.int b) (decide (a ≤ b))
  | gtI (a b : Int) : CmpIs .Gt (.int a) (.int b) (decide (b < a))
  | geI (a b : Int) : CmpIs .GtE (.int a) (.int b) (decide (b ≤ a))
  | eqS (a b : Str) : CmpIs .Eq (.str a) (.str b) (a == b)
  | neS (a b : Str) : CmpIs .NotEq (.str a) (.str b) (a != b)
  | neB (a b : Bool) : CmpIs .NotEq (.bool a) (.bool b) (a != b)

theorem cmp_is {op : CmpOp} {a b : PV} {r : Bool} (h : CmpIs op a b r) (va vb : Value) (ia : a.Is va) (ib : b.Is vb) : TVp c σ O F (compareOp op va vb) (.bool r) := by
  cases h
  case eqI => obtain ⟨t, rfl⟩ := ia; obtain ⟨u, rfl⟩ := ib; exact cm_eq_int
  case neI => obtain ⟨t, rfl⟩ := ia; obtain ⟨u, rfl⟩ := ib; exact cm_ne_int
  case ltI => obtain ⟨t, rfl⟩ := ia; obtain ⟨u, rfl⟩ := ib; exact cm_lt_int
  case leI => obtain ⟨t, rfl⟩ := ia; obtain ⟨u, rfl⟩ := ib; exact cm_le_int
  case gtI => obtain ⟨t, rfl⟩ := ia; obtain ⟨u, rfl⟩ := ib; exact cm_gt_int
  case geI => obtain ⟨t, rfl⟩ := ia; obtain ⟨u, rfl⟩ := ib; exact cm_ge_int
  case eqS => obtain ⟨t, rfl⟩ := ia; obtain ⟨u, rfl⟩ := ib; exact cm_eq_str
  case neS => obtain ⟨t, rfl⟩ := ia; obtain ⟨u, rfl⟩ := ib; exact cm_ne_str
  case neB => cases ia; cases ib; exact cm_ne_bool

theorem ev_cmpp {l r : Expr} {op : CmpOp} {pos : Pos} {pl pr : PV} {b : Bool} (hl : Evp c σ O F l pl) (hr : Evp c σ O F r pr) (h : CmpIs op pl pr b) (hm : behindInMarks op r = false := by rfl) : Evp c σ O F (.Compare l [op] [r] pos) (.bool b) :=
  ev_cmp hl hr hm fun vl vr il ir => cmp_is h vl vr il ir
theorem ts_cmpp {l r : Expr} {op : CmpOp} {pos : Pos} {pl pr : PV} {b : Bool} (hl : Evp c σ O F l pl) (hr : Evp c σ O F r pr) (h : CmpIs op pl pr b) (hm : behindInMarks op r = false := by rfl) : Tstp c σ O F (.Compare l [op] [r] pos) b :=
  ts_cmp hl hr hm fun vl vr il ir => cmp_is h vl vr il ir

/-! tests -/
theorem ts_val {e : Expr} {pv : PV} {b : Bool} (h : Evp c σ O F e pv) (ht : ∀ v, pv.Is v → TBp c σ O F (truthy v) b)
    (he : ∀ (env : Env) (whole : Sem Value), PySem.isTrue e env whole = (do let v ← whole; standAt e.pos; holding [v] (truthy v)) := by intro _ _; rfl) : Tstp c σ O F e b :=
  TG.of (TV.bindp h fun v i => ht v i) fun Q s h => isTrue_plain h (he _ _)

theorem tr_str {x : Str} {t : Tok} (h : x.length ≤ 1048576) : TBp c σ O F (truthy (.str x t)) ((x.length : Int) != 0) :=
  TB.pure fun s Q S k => SBL.truthy (by omega) (k s.heap _ fun _ _ e => e)
abbrev AllT {G : GC} (c : Act G) (σ : Sto) (O F : Led) (op : BoolOp) (es : List Expr) (b : Bool) : Prop := TBp c σ O F (allTrue op es c.env) b
theorem and_nil : AllT c σ O F .And [] true := TB.pure fun s Q S k => wpAny_allTrue_And_nil (k s.heap s.toks fun _ _ e => e)
theorem or_nil : AllT c σ O F .Or [] false := TB.pure fun s Q S k => wpAny_allTrue_Or_nil (k s.heap s.toks fun _ _ e => e)
theorem tb_ret {b : Bool} : TG c σ O F (fun (Q : Bool → Shared → Prop) s => Q b s) (RB σ (justB O b)) :=
  fun s Q S k => k b σ O [] s.heap s.toks ⟨rfl, rfl, rfl, rfl⟩ S (Nat.le_refl _)
theorem and_cons {x : Expr} {rest : List Expr} {a b : Bool} (hx : Tstp c σ O F x a) (hr : a = true → AllT c σ O F .And rest b) : AllT c σ O F .And (x :: rest) (a && b) :=
  TG.of (TB.bindp (T2 := fun a' Q s => if a' = true then wpAny G.M c.A (allTrue .And rest c.env) Q NoE s else Q false s) hx (by
    cases a with
    | false => simpa using tb_ret
    | true => exact TG.of (TB.mono (hr rfl) (by simp)) fun Q s h => by simpa using h)) fun Q s h => wpAny_allTrue_And_cons h
theorem or_cons {x : Expr} {rest : List Expr} {a b : Bool} (hx : Tstp c σ O F x a) (hr : a = false → AllT c σ O F .Or rest b) : AllT c σ O F .Or (x :: rest) (a || b) :=
  TG.of (TB.bindp (T2 := fun a' Q s => if a' = true then Q true s else wpAny G.M c.A (allTrue .Or rest c.env) Q NoE s) hx (by
    cases a with
    | true => simpa using tb_ret
    | false => exact TG.of (TB.mono (hr rfl) (by simp)) fun Q s h => by simpa using h)) fun Q s h => wpAny_allTrue_Or_cons h
theorem ts_bop {op : BoolOp} {es : List Expr} {pos : Pos} {b : Bool} (h : AllT c σ O F op es b) : Tstp c σ O F (.BoolOp op es pos) b :=
  TG.of h fun Q s h => wpAny_isTrue_BoolOp h
theorem ts_not {x : Expr} {pos : Pos} {b : Bool} (h : Tstp c σ O F x b) : Tstp c σ O F (.UnaryOp .Not x pos) (!b) :=
  TG.of (TB.bindp (T2 := fun b' Q s => Q (!b') s) h tb_ret) fun Q s h => isTrue_not h
theorem ts_eq {e : Expr} {a b : Bool} (h : Tstp c σ O F e a) (e1 : a = b) : Tstp c σ O F e b := e1 ▸ h
theorem ev_eq {e : Expr} {a b : PV} (h : Evp c σ O F e a) (e1 : a = b) : Evp c σ O F e b := e1 ▸ h

theorem ev_ite {test body orelse : Expr} {pos : Pos} {b : Bool} {R : VPost} (ht : Tstp c σ O F test b) (h1 : b = true → Ev c σ O F body R) (h2 : b = false → Ev c σ O F orelse R) :
    Ev c σ O F (.IfExp test body orelse pos) R :=
  TG.of (TB.bindp (T2 := fun b' Q s => if b' = true then wpAny G.M c.A (eval body c.env) Q NoE s else wpAny G.M c.A (eval orelse c.env) Q NoE s) ht (by
    cases b with
    | false => exact TG.of (h2 rfl) fun Q s h => by simpa using h
    | true => exact TG.of (h1 rfl) fun Q s h => by simpa using h)) fun Q s h => IfExp_ h

theorem ev_or2 {x y : Expr} {pos : Pos} {px : PV} {b : Bool} {R : VPost} (hx : Evp c σ O F x px) (ht : ∀ v, px.Is v → TBp c σ O F (truthy v) b) (h1 : b = true → R px O []) (h2 : b = false → Ev c σ O F y R) :
    Ev c σ O F (.BoolOp .Or [x, y] pos) R :=
  TG.of (TV.bindp (T2 := fun v Q s => wpAny G.M c.A (truthy v) (fun b' s2 => if b' = true then Q v s2 else wpAny G.M c.A (eval (.BoolOp .Or [y] pos) c.env) Q NoE s2) NoE s) hx fun v i =>
    TB.bindp (T2 := fun b' Q s2 => if b' = true then Q v s2 else wpAny G.M c.A (eval (.BoolOp .Or [y] pos) c.env) Q NoE s2) (ht v i) (by
      cases b with
      | true => exact fun s Q S k => k v σ O [] s.heap s.toks ⟨rfl, px, h1 rfl, i⟩ S (Nat.le_refl _)
      | false => exact TG.of (h2 rfl) fun Q s h => by simpa using (BoolOp_one h : wpAny G.M c.A (eval (.BoolOp .Or [y] pos) c.env) Q NoE s))) fun Q s h => BoolOp_or h

/-! statements -/
theorem ex_nil {P : FPost} (h : P .next σ O []) : Ex c σ O F [] P := fun s Q S k => wpAny_execs_nil (k _ σ O [] s.heap s.toks ⟨.next, h, rfl⟩ S (Nat.le_refl _))

theorem ex_cons {st : Stmt} {rest : List Stmt} {P : FPost}
    (h : Ex1 c σ O F st fun pf σ1 O1 N1 => match pf with
      | .next => Ex c σ1 O1 (N1 ++ F) rest fun pf2 σ2 O2 N2 => P pf2 σ2 O2 (N2 ++ N1)
      | pf => P pf σ1 O1 N1) : Ex c σ O F (st :: rest) P := by
  intro s Q S k
  refine wpAny_execs_cons (h s _ S fun fl σ1 O1 N1 h1 tk1 ⟨pf, hp, i⟩ S1 ht1 => ?_)
  cases pf with
  | next =>
    cases i
    exact hp _ Q S1 fun fl2 σ2 O2 N2 h2 tk2 ⟨pf2, hp2, i2⟩ S2 ht2 => k fl2 σ2 O2 (N2 ++ N1) h2 tk2 ⟨pf2, hp2, i2⟩ (by rw [List.append_assoc]; exact S2) (Nat.le_trans ht1 ht2)
  | brk => cases i; exact k _ σ1 O1 N1 h1 tk1 ⟨.brk, hp, rfl⟩ S1 ht1
  | cont => cases i; exact k _ σ1 O1 N1 h1 tk1 ⟨.cont, hp, rfl⟩ S1 ht1
  | ret v => obtain ⟨v', rfl, iv⟩ := i; exact k _ σ1 O1 N1 h1 tk1 ⟨.ret v, hp, v', rfl, iv⟩ S1 ht1

/-- a pure step ahead: nothing is frozen -/
theorem ex_step {st : Stmt} {rest : List Stmt} {P : FPost} {σ1 : Sto} (h : Ex1 c σ O F st fun pf σ' O' N => pf = .next ∧ σ' = σ1 ∧ O' = O ∧ N = []) (k : Ex c σ1 O F rest P) : Ex c σ O F (st :: rest) P :=
  ex_cons (TF.mono h fun pf σ' O' N ⟨e1, e2, e3, e4⟩ => by subst e1 e2 e3 e4; simpa using k)

theorem ex_if {test : Expr} {body orelse : List Stmt} {pos : Pos} {b : Bool} {P : FPost} (ht : Tstp c σ O F test b) (h1 : b = true → Ex c σ O F body P) (h2 : b = false → Ex c σ O F orelse P) :
    Ex1 c σ O F (.If test body orelse pos) P :=
  TG.of (TB.bindp (T2 := fun b' Q s => if b' = true then wpAny G.M c.A (execs body c.env) Q NoE s else wpAny G.M c.A (execs orelse c.env) Q NoE s) ht (by
    cases b with
    | false => exact TG.of (h2 rfl) fun Q s h => by simpa using h
    | true => exact TG.of (h1 rfl) fun Q s h => by simpa using h)) fun Q s h => wpAny_If h

theorem ex_ret {e : Expr} {pos : Pos} {P : FPost} (h : Ev c σ O F e fun pv O' N => P (.ret pv) σ O' N) : Ex1 c σ O F (.Return (some e) pos) P := by
  intro s Q S k
  exact wpAny_Return_some (h s _ S fun v σ' O' N h' tk ⟨e, pv, r, i⟩ S' ht => k _ σ' O' N h' tk ⟨.ret pv, e ▸ r, v, rfl, i⟩ S' ht)
theorem ex_brk {pos : Pos} {P : FPost} (h : P .brk σ O []) : Ex1 c σ O F (.Break pos) P := fun s Q S k => wpAny_Break (k _ σ O [] s.heap s.toks ⟨.brk, h, rfl⟩ S (Nat.le_refl _))

theorem ex_expr {e : Expr} {pos : Pos} {P : FPost} (h : Ev c σ O F e fun pv O' N => P .next σ O' N) (hi : interactive c.env = false) (hs : swapsWith e none pos.line c.env = pure false := by rfl) :
    Ex1 c σ O F (.Expr e pos) P := by
  intro s Q S k
  exact wpAny_Expr_any (h s _ S fun v σ' O' N h' tk ⟨e, pv, r, i⟩ S' ht => k _ σ' O' N h' tk ⟨.next, e ▸ r, rfl⟩ S' ht) hi hs

/-! storing -/
theorem names_ne {names : List Str} (hn : names.Nodup) {i j : Nat} {x y : Str} (hi : names[i]? = some x) (hj : names[j]? = some y) (h : i ≠ j) : x ≠ y := by
  intro e
  subst e
  obtain ⟨hi', e1⟩ := List.getElem?_eq_some_iff.mp hi
  obtain ⟨hj', e2⟩ := List.getElem?_eq_some_iff.mp hj
  have hp := List.pairwise_iff_getElem.mp hn
  rcases Nat.lt_or_gt_of_ne h with q | q
  · exact hp i j hi' hj' q (e1.trans e2.symm)
  · exact hp j i hj' hi' q (e2.trans e1.symm)

theorem St.store (S : St c σ O F s) {i : Nat} {x : Str} (hx : c.names[i]? = some x) (hk : c.env.kindOf x = some .local) (hL : c.env.locals = c.L) {v : Value} {pv : PV} (iv : pv.Is v) (hi : i < σ.length)
    {Q : Unit → Shared → Prop} (k : ∀ h, St c (σ.set i (some pv)) O F (upd s h (s.toks + 1)) → Q () (upd s h (s.toks + 1))) : wpAny G.M c.A (storeName c.env x v) Q NoE s := by
  obtain ⟨⟨mf, C, h1, h2, h3, h4⟩, h5, h6, h7⟩ := S
  refine wpAny_storeName_local hk (by rw [hL]; exact h1.ns) (fun h' hn hs => ?_) (by rw [c.hek, hL]; rfl)
  rw [hL] at hn hs
  refine k h' ⟨⟨_, C, h1.set hn hs, h2.set hs, h3, ?_⟩, h5, Nat.succ_pos _, ⟨fun q => (q hL).elim, fun a ha => let ⟨o, v, e, d⟩ := h7.2 a ha; ⟨o, v, (hs.2 a (cells_at h2 h3 ha).1).trans e, d⟩⟩⟩
  intro j y pw hy hv
  by_cases e : j = i
  · subst e
    rw [hx] at hy
    cases hy
    rw [List.getElem?_set_self hi] at hv
    cases hv
    exact ⟨v, iv, .loc hk hL (by simp)⟩
  · have hne := names_ne c.hnd hy hx e
    rw [List.getElem?_set_ne (fun q => e q.symm)] at hv
    obtain ⟨w, iw, H⟩ := h4 j y pw hy hv
    refine ⟨w, iw, ?_⟩
    cases H with
    | loc a1 a2 a3 => exact .loc a1 a2 (by simp [hne, a3])
    | comp a1 o m a2 a3 a4 => exact .comp a1 o m a2 a3 a4
    | cell a1 a o a2 a3 a4 => exact .cell a1 a o a2 a3 a4

theorem ex_asg (i : Nat) {x : Str} {p pos : Pos} {e : Expr} {P : FPost} (he : Ev c σ O F e fun pv O' N => P .next (σ.set i (some pv)) O' N)
    (hx : c.names[i]? = some x) (hk : c.env.kindOf x = some .local) (hL : c.env.locals = c.L) (hi : i < σ.length)
    (hs : swapsWith e (some (.Name x p)) pos.line c.env = pure false := by rfl) : Ex1 c σ O F (.Assign [.Name x p] e pos) P := by
  intro s Q S k
  refine wpAny_Assign_Name (he s _ S fun v σ' O' N h' tk ⟨e, pv, r, iv⟩ S' ht => ?_) hs
  subst e
  refine S'.store hx hk hL iv hi fun h2 S2 => ?_
  exact k _ _ O' N h2 (tk + 1) ⟨.next, r, rfl⟩ S2 (Nat.le_succ_of_le ht)

/-- an int name turned in place -/
theorem ex_aug_add (i : Nat) {x : Str} {p pos : Pos} {e : Expr} {a b : Int} {P : FPost} (hv : σ[i]? = some (some (.int a))) (he : Evp c σ O F e (.int b)) (h : P .next (σ.set i (some (.int (a + b)))) O [])
    (hx : c.names[i]? = some x) (hk : c.env.kindOf x = some .local) (hL : c.env.locals = c.L) : Ex1 c σ O F (.AugAssign (.Name x p) .Add e pos) P := by
  intro s Q S k
  have hi : i < σ.length := (List.getElem?_eq_some_iff.mp hv).1
  refine wpAny_AugAssign_Name ((TV.bindp (T2 := fun old (Q : Flow → Shared → Prop) s1 => wpAny G.M c.A (eval e c.env) (fun v s2 => wpAny G.M c.A (inplaceOp .Add old v) (fun r s3 => wpAny G.M c.A (storeName c.env x r) (fun _ => Q .next) NoE s3) NoE s2) NoE s1)
    (load_var hx hv) fun v ⟨t, ev⟩ => TV.bindp (T2 := fun v2 (Q : Flow → Shared → Prop) s2 => wpAny G.M c.A (inplaceOp .Add v v2) (fun r s3 => wpAny G.M c.A (storeName c.env x r) (fun _ => Q .next) NoE s3) NoE s2) he fun w ⟨u, ew⟩ => ?_) s Q S k)
  subst ev ew
  intro s2 Q2 S2 k2
  refine iadd_int (St.store (S2.toks (Nat.le_succ _)) hx hk hL (pv := .int (a + b)) ⟨_, rfl⟩ hi fun h3 S3 => k2 _ _ O [] h3 _ ⟨.next, h, rfl⟩ S3 (by show s2.toks ≤ s2.toks + 1 + 1; omega))
theorem ex_aug_sub (i : Nat) {x : Str} {p pos : Pos} {e : Expr} {a b : Int} {P : FPost} (hv : σ[i]? = some (some (.int a))) (he : Evp c σ O F e (.int b)) (h : P .next (σ.set i (some (.int (a - b)))) O [])
    (hx : c.names[i]? = some x) (hk : c.env.kindOf x = some .local) (hL : c.env.locals = c.L) : Ex1 c σ O F (.AugAssign (.Name x p) .Sub e pos) P := by
  intro s Q S k
  have hi : i < σ.length := (List.getElem?_eq_some_iff.mp hv).1
  refine wpAny_AugAssign_Name ((TV.bindp (T2 := fun old (Q : Flow → Shared → Prop) s1 => wpAny G.M c.A (eval e c.env) (fun v s2 => wpAny G.M c.A (inplaceOp .Sub old v) (fun r s3 => wpAny G.M c.A (storeName c.env x r) (fun _ => Q .next) NoE s3) NoE s2) NoE s1)
    (load_var hx hv) fun v ⟨t, ev⟩ => TV.bindp (T2 := fun v2 (Q : Flow → Shared → Prop) s2 => wpAny G.M c.A (inplaceOp .Sub v v2) (fun r s3 => wpAny G.M c.A (storeName c.env x r) (fun _ => Q .next) NoE s3) NoE s2) he fun w ⟨u, ew⟩ => ?_) s Q S k)
  subst ev ew
  intro s2 Q2 S2 k2
  refine isub_int (St.store (S2.toks (Nat.le_succ _)) hx hk hL (pv := .int (a - b)) ⟨_, rfl⟩ hi fun h3 S3 => k2 _ _ O [] h3 _ ⟨.next, h, rfl⟩ S3 (by show s2.toks ≤ s2.toks + 1 + 1; omega))

/-- two targets -/
theorem ex_asg2 (i j : Nat) {x y : Str} {p q pos : Pos} {e : Expr} {pv : PV} {P : FPost} (he : Evp c σ O F e pv) (h : P .next ((σ.set i (some pv)).set j (some pv)) O [])
    (hx : c.names[i]? = some x) (hkx : c.env.kindOf x = some .local) (hy : c.names[j]? = some y) (hky : c.env.kindOf y = some .local) (hL : c.env.locals = c.L) (hi : i < σ.length) (hj : j < σ.length) :
    Ex1 c σ O F (.Assign [.Name x p, .Name y q] e pos) P := by
  intro s Q S k
  refine wpAny_Assign_two ((TV.bindp (T2 := fun v (Q : Flow → Shared → Prop) s1 => wpAny G.M c.A (assign (.Name x p) c.env v) (fun _ s₂ => wpAny G.M c.A (assign (.Name y q) c.env v) (fun _ => Q .next) NoE s₂) NoE s1) he fun v iv => ?_) s Q S k)
  intro s2 Q2 S2 k2
  refine wpAny_assign_Name (S2.store hx hkx hL iv hi fun h3 S3 => ?_)
  refine wpAny_assign_Name (S3.store hy hky hL iv (by simpa using hj) fun h4 S4 => ?_)
  exact k2 _ _ O [] h4 _ ⟨.next, h, rfl⟩ S4 (by show s2.toks ≤ s2.toks + 1 + 1; omega)

end
end Mine
end
section
open PySem PySem.W PyProof.Rows PySem.Calls
set_option autoImplicit false
set_option linter.unusedVariables false
namespace Mine

/-! ### arguments -/
section
variable {G : GC} {c : Act G} {σ : Sto} {O F : Led} {s : Shared}

abbrev APost := List PV → Led → Led → Prop
def TA {G : GC} (c : Act G) (σ : Sto) (O F : Led) (pos : Pos) (args : List Expr) (R : APost) : Prop :=
  TG c σ O F (fun Q s => wpAny G.M c.A (spliced (backTo pos (starEach args c.env))) Q NoE s) fun vs σ' O' N => σ' = σ ∧ ∃ pvs, R pvs O' N ∧ All2 PV.Is pvs vs
abbrev justA (O : Led) (pvs : List PV) : APost := fun r O' N => r = pvs ∧ O' = O ∧ N = []

theorem ta_nil {pos : Pos} {R : APost} (h : R [] O []) : TA c σ O F pos [] R :=
  fun s Q S k => wpAny_items_nil (k [] σ O [] s.heap s.toks ⟨rfl, [], h, .nil⟩ S (Nat.le_refl _))
theorem ta_cons {pos : Pos} {e : Expr} {rest : List Expr} {R : APost}
    (h : Ev c σ O F e fun pv O1 N1 => TA c σ O1 (N1 ++ F) pos rest fun pvs O2 N2 => R (pv :: pvs) O2 (N2 ++ N1))
    (he : ∀ env, starEach (e :: rest) env = (false, eval e env) :: starEach rest env := by intro _; rfl) : TA c σ O F pos (e :: rest) R := by
  intro s Q S k
  refine wpAny_items_cons (h s _ S fun v σ1 O1 N1 h1 tk1 ⟨e1, pv, hr, i⟩ S1 ht1 => ?_) (he _)
  subst e1
  refine hr _ (fun vs s2 => Q (v :: vs) s2) S1 fun vs σ2 O2 N2 h2 tk2 ⟨e2, pvs, r, i2⟩ S2 ht2 => ?_
  exact k (v :: vs) σ2 O2 (N2 ++ N1) h2 tk2 ⟨e2, pv :: pvs, r, .cons i i2⟩ (by rw [List.append_assoc]; exact S2) (Nat.le_trans ht1 ht2)
theorem ta_consp {pos : Pos} {e : Expr} {rest : List Expr} {pv : PV} {R : APost}
    (h : Evp c σ O F e pv) (hr : TA c σ O F pos rest fun pvs O2 N2 => R (pv :: pvs) O2 N2)
    (he : ∀ env, starEach (e :: rest) env = (false, eval e env) :: starEach rest env := by intro _; rfl) : TA c σ O F pos (e :: rest) R :=
  ta_cons (TV.mono h fun pv' O' N' ⟨e1, e2, e3⟩ => by subst e1 e2 e3; simpa using hr) he
theorem ta_pp {pos : Pos} {e : Expr} {rest : List Expr} {pv : PV} {pvs : List PV}
    (h : Evp c σ O F e pv) (hr : TA c σ O F pos rest (justA O pvs))
    (he : ∀ env, starEach (e :: rest) env = (false, eval e env) :: starEach rest env := by intro _; rfl) : TA c σ O F pos (e :: rest) (justA O (pv :: pvs)) :=
  ta_consp h (TG.mono hr fun vs σ' O' N ⟨a, pvs', ⟨e1, e2, e3⟩, b⟩ => ⟨a, pvs', ⟨by rw [e1], e2, e3⟩, b⟩) he
theorem ta_np {pos : Pos} : TA c σ O F pos [] (justA O []) := ta_nil ⟨rfl, rfl, rfl⟩

theorem TA.bindG {γ : Type} {pos : Pos} {args : List Expr} {R : APost} {T2 : List Value → (γ → Shared → Prop) → Shared → Prop} {R2 : γ → Sto → Led → Led → Prop}
    (h : TA c σ O F pos args R) (k : ∀ vs pvs O1 N1, R pvs O1 N1 → All2 PV.Is pvs vs → TG c σ O1 (N1 ++ F) (T2 vs) fun g σ2 O2 N2 => R2 g σ2 O2 (N2 ++ N1)) :
    TG c σ O F (fun Q s => wpAny G.M c.A (spliced (backTo pos (starEach args c.env))) (fun vs s1 => T2 vs Q s1) NoE s) R2 :=
  TG.bind (T := fun Q s => wpAny G.M c.A (spliced (backTo pos (starEach args c.env))) Q NoE s) h fun b σ1 O1 N1 ⟨e, pvs, r, i⟩ => by subst e; exact k b pvs O1 N1 r i

/-! ### room -/
def Room {G : GC} (c : Act G) (d u : Nat) : Prop := c.A.depth + d < recursionLimit ∧ c.A.units + u < cLine
theorem Room.le {d u d' u' : Nat} (h : Room c d u) (hd : d' ≤ d) (hu : u' ≤ u) : Room c d' u' := ⟨by have := h.1; omega, by have := h.2; omega⟩

theorem St.kin (S : St c σ O F s) : G.K.In s.heap := by
  obtain ⟨⟨mf, C, h1, h2, h3, h4⟩, h5, h6, h7⟩ := S
  exact c.X.keeps h1.keep

/-! ### the call of a def by its name -/
structure DefAt (G : GC) (nm : Str) (f : Addr) (params : Arguments) (body : List Stmt) (scope : Scope) : Prop where
  ns : nsIn G.K mainGlobals nm = some (some (.ref f))
  keep : keepIn G.K (.ref f) = true
  obj : ∃ (oc : Value) (od : Option Addr) (name qual : Str) (doc pm : Value) (an : Option Addr) (cdv ct : Value) (osl : Array (Option Value)),
    G.K.lookup f = some ⟨oc, od, .func (fnOf name qual params body scope .none .none doc pm an cdv ct), osl⟩ ∧ codeIn G.K cdv qual = true

theorem ev_call {nm : Str} {f : Addr} {p pos : Pos} {e : Expr} {rest : List Expr} {R : VPost} (ns : nsIn G.K mainGlobals nm = some (some (.ref f))) (keep : keepIn G.K (.ref f) = true)
    (hx : c.env.kindOf nm = some .globalImplicit)
    (h : TA c σ O F pos (e :: rest) fun pvs O1 N1 => ∀ vals, All2 PV.Is pvs vals → TV c σ O1 (N1 ++ F) (call (.ref f) vals) fun r O2 N2 => R r O2 (N2 ++ N1))
    (he : ∀ env, starEach (e :: rest) env = (false, eval e env) :: starEach rest env := by intro _; rfl)
    (hplain : ∀ (pos : Pos) env, (backTo pos (starEach rest env)).any (·.1) = false := by intro _ _; rfl)
    (hd : (nm == Str.ofString "__debug__") = false := by decide) : Ev c σ O F (.Call (.Name nm p) (e :: rest) [] pos) R := by
  intro s Q S k
  refine Call_ ?_
  refine (TV.bindp (T2 := fun f' (Q : Value → Shared → Prop) s1 => wpAny G.M c.A (callWith pos f' [] (backTo pos (starEach (e :: rest) c.env)) []) Q NoE s1) (ev_glob ns (pv := .ref f) rfl hx hd) fun v e => ?_) s Q S k
  cases e
  intro s2 Q2 S2 k2
  refine callWith_K (S2.kin) keep ?_ (he _) (hplain _ _)
  refine (TA.bindG h (fun vs pvs O1 N1 hr i => ?_) :
    TG c σ O F (fun Q s => wpAny G.M c.A (spliced (backTo pos (starEach (e :: rest) c.env))) (fun vs s1 => (G.K.In s1.heap ∧ wpAny G.M c.A (call (.ref f) ([] ++ vs)) Q NoE s1)) NoE s) (RV σ R)) s2 Q2 S2 k2
  intro s3 Q3 S3 k3
  exact ⟨S3.kin, hr vs i s3 Q3 S3 k3⟩

/-! ### contracts -/
def FnSpec (G : GC) (f : Addr) (d u : Nat) (vs : List PV) (O F : Led) (R : VPost) : Prop :=
  ∀ (c : Act G) (σ : Sto) (F' : Led), Room c d u → (∀ p ∈ F, p ∈ F') → ∀ vals, All2 PV.Is vs vals → TV c σ O F' (call (.ref f) vals) R
abbrev FnPure (G : GC) (f : Addr) (d u : Nat) (vs : List PV) (pv : PV) : Prop := ∀ O F, FnSpec G f d u vs O F (just O pv)

theorem All2.length {α β : Type} {R : α → β → Prop} {as : List α} {bs : List β} (h : All2 R as bs) : as.length = bs.length := by
  induction h with
  | nil => rfl
  | cons _ _ ih => simp [ih]
theorem All2.get {α β : Type} {R : α → β → Prop} {as : List α} {bs : List β} (h : All2 R as bs) : ∀ {i : Nat} {a : α}, as[i]? = some a → ∃ b, bs[i]? = some b ∧ R a b := by
  induction h with
  | nil => intro i a h; simp at h
  | cons h1 _ ih =>
    intro i a hi
    cases i with
    | zero => simp at hi; subst hi; exact ⟨_, by simp, h1⟩
    | succ i => simpa using ih (by simpa using hi)

/-- the activation reads no name through what is frozen -/
structure Own {G : GC} (c : Act G) : Prop where
  L : c.env.locals = c.L
  cells : ∀ x a, c.env.cells.lookup x = some a → a ∈ c.cells

/-- how a def's own activation stands to its names -/
structure Loc {G : GC} (c : Act G) (names : List Str) (scope : Scope) : Prop where
  nm : c.names = names
  sc : c.env.scope = scope
  L : c.env.locals = c.L
  loc : ∀ x ∈ names, scope.names.lookup x = some .local
  own : Own c

theorem Loc.name {names : List Str} {scope : Scope} (H : Loc c names scope) {i : Nat} {x : Str} (h : names[i]? = some x) : c.names[i]? = some x := by rw [H.nm]; exact h
theorem Loc.kind {names : List Str} {scope : Scope} (H : Loc c names scope) {i : Nat} {x : Str} (h : names[i]? = some x) : c.env.kindOf x = some .local := by
  unfold Env.kindOf; rw [H.sc]; exact H.loc x (List.mem_of_getElem? h)
theorem Loc.glob {names : List Str} {scope : Scope} (H : Loc c names scope) {x : Str} (h : scope.names.lookup x = some .globalImplicit) : c.env.kindOf x = some .globalImplicit := by
  unfold Env.kindOf; rw [H.sc]; exact h

section
variable {prog : Program} {w : World} {A₀ A : Around} {s : Shared} {base h₀ : Heap} {outer : List Env} {L : Addr} {m : Str → Option Value} {env : Env} {news : List (Addr × Obj)} {K : Frag} {p : Program} {loose : List Str} {mean : ExcName → Option Value} {mg mb : Str → Option Value}
  {R : Result → Shared → Prop} {name qual : Str} {params : Arguments} {body : List Stmt} {scope : Scope} {dV kV doc pm cdv ct oc : Value} {an od : Option Addr} {osl : Array (Option Value)} {f : Addr} {args : Args} {binds : List (Str × Value)}

theorem hide_L (N : News h₀ L s.heap news) : ∀ o, s.heap.get? L = some o → (hideAll s.heap (news.map (·.1))).get? L = some o := fun o e =>
  hideAll_get _ e fun q => by
    obtain ⟨p, hp, e⟩ := List.mem_map.mp q
    exact (N p hp).2.1 e

/-- the entry of a def, with what stands at the caller's own namespace -/
theorem code_defC2 (B : Below A₀ base outer h₀) (F : Fr h₀ L s.heap m) (X₀ : K.In h₀) (N : News h₀ L s.heap news) (T : Top p loose mean mg mb h₀) (hA : A.frames = some (env :: outer)) (hf : env.frame = some L) (hke : env.scope.kind = .function)
    (ho : K.lookup f = some ⟨oc, od, .func (fnOf name qual params body scope dV kV doc pm an cdv ct), osl⟩) (hcd : codeIn K cdv qual = true) (hroom : A.depth < recursionLimit)
    (hbind : BindsTo s (fnOf name qual params body scope dV kV doc pm an cdv ct) args binds)
    (hkind : ∀ n, ∀ x ∈ binds, scope.names.lookup x.1 = some .local ∨ (scope.names.lookup x.1 = some .cell ∧ ((cellsFrom n scope.names []).lookup x.1).isSome = true))
    (hnd : ((cellsFrom 0 scope.names []).map (·.1)).Nodup)
    (h : ∀ g L' h₁ tk cells, Fr h₀ L g m → Fr g L' h₁ (bindL (envOfC qual scope L' f cdv).kindOf binds fun _ => none) → News g L' h₁ (cells ++ news) →
      CellsAre (bindC (envOfC qual scope L' f cdv).kindOf binds fun _ => none) (cellsFrom (L' + 1) scope.names []) cells → Below A base (env :: outer) g → K.In g → Top p loose mean mg mb g → (∀ p ∈ news, p.1 < L') →
      (∀ o, s.heap.get? L = some o → g.get? L = some o) → s.toks ≤ tk →
      wpAny (model prog w) (A.deeper (envOfC qual scope L' f cdv)) (execs body (envOfC qual scope L' f cdv))
        (fun fl s' => LeaveK h₀ L m g R (match fl with | .ret v => v | _ => .none) s')
        (fun e s' => wpAny (model prog w) (A.deeper (envOfC qual scope L' f cdv)) (leaving (envOfC qual scope L' f cdv) e) (fun _ s'' => R (.error e) s'') (fun e' s'' => R (.error e') s'') s')
        { s with heap := h₁, toks := tk })
    (hco : scope.isCoroutine = false) (hgen : scope.isGenerator = false) (hk : scope.kind = .function) : codeAny (model prog w) A (.call (.ref f) args) R s := by
  obtain ⟨FG, BG, st, lv⟩ := groundX (R := R) B F N hA hf hke
  have ho' := (X₀.keeps F.keep) _ _ ho
  refine codeAny_call_function hroom ho' rfl hco hgen rfl (codeRec_of (X₀.keeps F.keep) hcd) (hbind _ _ _ _ ?_)
  refine wpAny_with_toks (Nat.le_refl s.toks) (wpAny_newFunctionEnv_cells hk (hkind _) fun env' he s' x htk => ?_)
  subst he
  refine ⟨(T.nolimit.keeps F.keep).keeps x.toInCall.keep, codeAny_func ?_⟩
  obtain ⟨h₁, tk, rfl, _⟩ := x.done
  have hk₁ := x.toInCall.keep
  obtain ⟨cells, NC, Y⟩ := Cl.news (h₀ := s.heap) (Nat.le_refl _) fun n c hm => ⟨x.cell n c (lookup_of_mem_nodup (cellsFrom_names scope.names 0 (s.heap.objs.size + 1) [] [] rfl ▸ hnd) hm), x.above n c hm⟩
  refine wpAny_mono (h _ s.heap.objs.size h₁ tk cells FG ⟨x.toInCall.ns, fun b o e => hk₁ b o (of_hideAll _ e), Nat.le_of_eq (hideAll_size _ _)⟩ (fun p hp => ?_) Y BG (X₀.keeps st) (T.keeps st) (fun p hp => Heap.lt_size (N p hp).1) (hide_L N) ?_) (fun fl s' hl => lv _ _ hl) fun _ _ y => y
  · rcases List.mem_append.mp hp with hp | hp
    · refine ⟨(NC p hp).1, (NC p hp).2.1, ?_⟩
      cases q : (hideAll s.heap (news.map (·.1))).get? p.1 with
      | none => rfl
      | some o => have := of_hideAll _ q; rw [(NC p hp).2.2] at this; cases this
    · exact ⟨hk₁ _ _ (N p hp).1, Nat.ne_of_lt (Heap.lt_size (N p hp).1), hideAll_none _ (List.mem_map_of_mem hp)⟩
  · exact htk
end

/-! names over Loc -/
theorem v_ {names : List Str} {scope : Scope} (H : Loc c names scope) (i : Nat) {x : Str} {pos : Pos} {pv : PV} (hx : names[i]? = some x) (hv : σ[i]? = some (some pv)) (hd : (x == Str.ofString "__debug__") = false := by decide) :
    Evp c σ O F (.Name x pos) pv := ev_var i (H.name hx) hv hd
theorem asg_ {names : List Str} {scope : Scope} (H : Loc c names scope) (i : Nat) {x : Str} {p pos : Pos} {e : Expr} {P : FPost} (hx : names[i]? = some x) (hi : i < σ.length) (he : Ev c σ O F e fun pv O' N => P .next (σ.set i (some pv)) O' N)
    (hs : swapsWith e (some (.Name x p)) pos.line c.env = pure false := by rfl) : Ex1 c σ O F (.Assign [.Name x p] e pos) P :=
  ex_asg i he (H.name hx) (H.kind hx) H.L hi hs

end
end Mine
end
section
open PySem PySem.W PyProof.Rows PySem.Calls
set_option autoImplicit false
set_option linter.unusedVariables false
namespace Mine
section
variable {G : GC} {c : Act G} {σ : Sto} {O F : Led} {s : Shared}

/-! built-in names -/
theorem ev_bname {x : Str} {pos : Pos} {v : Value} {pv : PV} {R : VPost} (e : nsIn G.K mainGlobals x = some none) (hv : bootBuiltins x = some v) (hx : c.env.kindOf x = some .globalImplicit) (hn : x ≠ Str.ofString "__name__")
    {T2 : Value → (Value → Shared → Prop) → Shared → Prop} (h : TG c σ O F (T2 v) (RV σ R)) (hd : (x == Str.ofString "__debug__") = false := by decide) :
    TG c σ O F (fun Q s => wpAny G.M c.A (eval (.Name x pos) c.env) (fun v s1 => T2 v Q s1) NoE s) (RV σ R) := by
  intro s Q S k
  have S₀ := S
  obtain ⟨⟨mf, C, h1, h2, h3, h4⟩, h5, h6, h7⟩ := S
  have T := topRead_of c.T
  exact Name_function_global c.hek hx (loadGlobal_builtin (by rw [c.hglob]; exact T.g.keeps h1.keep) (mg_none_of c.X T.g e) (by rw [c.hbi]; exact T.b.keeps h1.keep) ((T.builtins x hn).trans hv) (h s Q S₀ k)) hd

/-- a built-in function by its name -/
theorem ev_bcall {x : Str} {p pos : Pos} {id : String} {e : Expr} {rest : List Expr} {R : VPost} (ns : nsIn G.K mainGlobals x = some none) (hv : bootBuiltins x = some (.builtin id)) (hx : c.env.kindOf x = some .globalImplicit)
    (h : TA c σ O F pos (e :: rest) fun pvs O1 N1 => ∀ vals, All2 PV.Is pvs vals → TV c σ O1 (N1 ++ F) (call (.builtin id) vals) fun r O2 N2 => R r O2 (N2 ++ N1))
    (hn : x ≠ Str.ofString "__name__" := by decide)
    (he : ∀ env, starEach (e :: rest) env = (false, eval e env) :: starEach rest env := by intro _; rfl)
    (hplain : ∀ (pos : Pos) env, (backTo pos (starEach rest env)).any (·.1) = false := by intro _ _; rfl)
    (hd : (x == Str.ofString "__debug__") = false := by decide) : Ev c σ O F (.Call (.Name x p) (e :: rest) [] pos) R :=
  TG.of (ev_bname (pv := .none) (T2 := fun f Q s1 => wpAny G.M c.A (callWith pos f [] (backTo pos (starEach (e :: rest) c.env)) []) Q NoE s1) ns hv hx hn
    (TG.of (TA.bindG (T2 := fun vs (Q : Value → Shared → Prop) s1 => wpAny G.M c.A (call (.builtin id) vs) Q NoE s1) h fun vs pvs O1 N1 hr i => hr vs i) fun Q s h => by
      have e1 : backTo pos (starEach (e :: rest) c.env) = (false, eval e c.env) :: backTo pos (starEach rest c.env) := by rw [he]; rfl
      refine callWith_builtin (by rw [e1]; simp [hplain]) ?_
      rw [e1] at h ⊢
      exact evalArgs_plain (wpAny_mono h (fun vs s1 q => by simpa using q) fun _ _ e => e)) hd) fun Q s h => Call_ h
/-- a built-in type by its name -/
theorem ev_tcall {x : Str} {p pos : Pos} {id : String} {e : Expr} {rest : List Expr} {R : VPost} (ns : nsIn G.K mainGlobals x = some none) (hv : bootBuiltins x = some (.type id)) (hx : c.env.kindOf x = some .globalImplicit)
    (h : TA c σ O F pos (e :: rest) fun pvs O1 N1 => ∀ vals, All2 PV.Is pvs vals → TV c σ O1 (N1 ++ F) (call (.type id) vals) fun r O2 N2 => R r O2 (N2 ++ N1))
    (hn : x ≠ Str.ofString "__name__" := by decide)
    (he : ∀ env, starEach (e :: rest) env = (false, eval e env) :: starEach rest env := by intro _; rfl)
    (hplain : ∀ (pos : Pos) env, (backTo pos (starEach rest env)).any (·.1) = false := by intro _ _; rfl)
    (hd : (x == Str.ofString "__debug__") = false := by decide) : Ev c σ O F (.Call (.Name x p) (e :: rest) [] pos) R :=
  TG.of (ev_bname (pv := .none) (T2 := fun f Q s1 => wpAny G.M c.A (callWith pos f [] (backTo pos (starEach (e :: rest) c.env)) []) Q NoE s1) ns hv hx hn
    (TG.of (TA.bindG (T2 := fun vs (Q : Value → Shared → Prop) s1 => wpAny G.M c.A (call (.type id) vs) Q NoE s1) h fun vs pvs O1 N1 hr i => hr vs i) fun Q s h =>
      PyProof.Rows.callWith_type1 h (he _) (hplain _ _)) hd) fun Q s h => Call_ h

/-! values of the built-ins -/
theorem All2.one {α β : Type} {R : α → β → Prop} {a : α} {bs : List β} (h : All2 R [a] bs) : ∃ b, bs = [b] ∧ R a b := by
  cases h with | cons h1 h2 => cases h2; exact ⟨_, rfl, h1⟩
theorem All2.two {α β : Type} {R : α → β → Prop} {a a' : α} {bs : List β} (h : All2 R [a, a'] bs) : ∃ b b', bs = [b, b'] ∧ R a b ∧ R a' b' := by
  cases h with | cons h1 h2 => obtain ⟨b, rfl, h3⟩ := h2.one; exact ⟨_, _, rfl, h1, h3⟩
theorem All2.three {α β : Type} {R : α → β → Prop} {a a' a'' : α} {bs : List β} (h : All2 R [a, a', a''] bs) : ∃ b b' b'', bs = [b, b', b''] ∧ R a b ∧ R a' b' ∧ R a'' b'' := by
  cases h with | cons h1 h2 => obtain ⟨b, b', rfl, h3⟩ := h2.two; exact ⟨_, _, _, rfl, h1, h3⟩

theorem len1 {α : Type} {l : List α} (h : l.length = 1) : ∃ a, l = [a] := List.length_eq_one_iff.mp h
theorem len2 {α : Type} {l : List α} (h : l.length = 2) : ∃ a b, l = [a, b] := by
  cases l with
  | nil => cases h
  | cons a l => obtain ⟨b, rfl⟩ := len1 (Nat.succ.inj h); exact ⟨a, b, rfl⟩
theorem len3 {α : Type} {l : List α} (h : l.length = 3) : ∃ a b c, l = [a, b, c] := by
  cases l with
  | nil => cases h
  | cons a l => obtain ⟨b, c, rfl⟩ := len2 (Nat.succ.inj h); exact ⟨a, b, c, rfl⟩
theorem len4 {α : Type} {l : List α} (h : l.length = 4) : ∃ a b c d, l = [a, b, c, d] := by
  cases l with
  | nil => cases h
  | cons a l => obtain ⟨b, c, d, rfl⟩ := len3 (Nat.succ.inj h); exact ⟨a, b, c, d, rfl⟩

theorem bi_len_str {x : Str} {t : Tok} (h : x.length ≤ 1048576) : TVp c σ O F (call (.builtin "len") [.str x t]) (.int x.length) :=
  TV.pure fun s Q S k => SBL.len (by omega) (k _ s.heap _ ⟨_, rfl⟩ fun _ _ e => e)
theorem bi_ord {n : Nat} {t : Tok} : TVp c σ O F (call (.builtin "ord") [.str ⟨#[n]⟩ t]) (.int n) :=
  TV.pure fun s Q S k => P.ord_of_char (k _ s.heap _ ⟨_, rfl⟩ fun _ _ e => e)
theorem bi_chr {n : Nat} {t : Tok} (h : n ≤ 1114111) : TVp c σ O F (call (.builtin "chr") [.int (n : Int) t]) (.str ⟨#[n]⟩) :=
  TV.pure fun s Q S k => chr_of_range (by omega) (by omega) (k _ s.heap _ ⟨s.toks, by simp⟩ fun _ _ e => e)
theorem bi_min2 {a b : Int} {t u : Tok} : TVp c σ O F (call (.builtin "min") [.int a t, .int b u]) (.int (if b < a then b else a)) :=
  TV.pure fun s Q S k => min_two_ints c.hhan fun h' tk hk => k _ h' tk (by split <;> exact ⟨_, rfl⟩) hk

theorem ev_len {p pos : Pos} {e : Expr} {x : Str} (ns : nsIn G.K mainGlobals (Str.ofString "len") = some none) (hx : c.env.kindOf (Str.ofString "len") = some .globalImplicit) (he : Evp c σ O F e (.str x)) (h : x.length ≤ 1048576)
    (hst : ∀ env, starEach [e] env = [(false, eval e env)] := by intro _; rfl) :
    Evp c σ O F (.Call (.Name (Str.ofString "len") p) [e] [] pos) (.int x.length) :=
  ev_bcall ns (by boot_fast) hx (ta_consp he (ta_nil fun vals hv => by
    obtain ⟨v, rfl, t, rfl⟩ := hv.one
    exact TV.mono (bi_len_str h) fun pv O' N h => by simpa using h) hst) (he := hst)

/-! methods -/
theorem meth_str {o : Expr} {name : Str} {apos pos : Pos} {args : List Expr} {id : String} {x : Str} {R : VPost} (ho : Evp c σ O F o (.str x)) (slot : Slot "str" name id) (ty : typeOf (.builtin id) = pure (.type "method_descriptor"))
    (hbase : attributeBase o name c.env (eval o c.env) = eval o c.env)
    (hfew : ((backTo pos (starEach args c.env)).all (fun x => !x.1) && (backToKw pos (keywordEach [] c.env)).all (fun x => x.1.isSome) && decide (args.length + ([] : List Keyword).length + (if ([] : List Keyword).isEmpty then 0 else 1) < 30)) = true)
    (hline : (apos.endLine == pos.line) = true)
    (h : ∀ t, TG c σ O F (fun (Q : Value → Shared → Prop) s => wpAny G.M c.A (callWith pos (.builtin id) [.str x t] (backTo pos (starEach args c.env)) []) Q NoE s) (RV σ R)) :
    Ev c σ O F (.Call (.Attribute o name apos) args [] pos) R :=
  TG.of (TV.bindp (T2 := fun ov (Q : Value → Shared → Prop) s1 => MethodOnS G.prog G.w c.A NoE name ov pos (backTo pos (starEach args c.env)) Q s1) ho fun v ⟨t, e⟩ => by
    subst e
    exact TG.of (h t) fun Q s h => ⟨"str", id, PySem.F.plainAttrs_str, slot, ty, typeIs_str _ _ _, (fun _ e => nomatch e), h⟩) fun Q s h => wpAny_Call_method_lateS hbase hfew hline h

theorem ev_lower {o : Expr} {apos pos : Pos} {x : Str} (ho : Evp c σ O F o (.str x)) (h : x.length ≤ 1048576) (hbase : attributeBase o (Str.ofString "lower") c.env (eval o c.env) = eval o c.env := by rfl) (hline : (apos.endLine == pos.line) = true := by rfl) :
    Evp c σ O F (.Call (.Attribute o (Str.ofString "lower") apos) [] [] pos) (.str (Txt.lower x)) :=
  meth_str ho PySem.F.slot_str_lower rfl hbase rfl hline fun t =>
    TG.of (TV.pure fun s Q S k => SCL.lower (by omega) fun _ => k _ s.heap _ ⟨_, rfl⟩ fun _ _ e => e : TVp c σ O F (call (.builtin "str.lower") [.str x t]) (.str (Txt.lower x))) fun Q s h => callWith_method0 h
end
end Mine
end
section
open PySem PySem.W PyProof.Rows PySem.Calls
set_option autoImplicit false
set_option linter.unusedVariables false
namespace Mine

/-! ### texts as lists of their signs -/
def mk (l : List Nat) : Str := ⟨l.toArray⟩
abbrev PV.s (l : List Nat) : PV := .str (mk l)

theorem mk_length (l : List Nat) : (mk l).length = l.length := by simp [mk, Str.length]
theorem mk_cps (l : List Nat) : (mk l).cps.toList = l := by simp [mk]
theorem mk_append (a b : List Nat) : mk a ++ mk b = mk (a ++ b) := by
  show Str.append (mk a) (mk b) = _
  simp [Str.append, mk]
theorem mk_inj {a b : List Nat} (h : mk a = mk b) : a = b := by
  have := congrArg (fun s => s.cps.toList) h
  simpa [mk] using this
theorem mk_eq (a b : List Nat) : (mk a == mk b) = (a == b) := by
  by_cases h : a = b
  · subst h; simp
  · have : mk a ≠ mk b := fun e => h (mk_inj e)
    rw [beq_eq_false_iff_ne.mpr h, beq_eq_false_iff_ne.mpr this]
theorem mk_ne (a b : List Nat) : (mk a != mk b) = (a != b) := by simp only [bne, mk_eq]
theorem mk_toList (x : Str) : mk x.cps.toList = x := by simp [mk]

theorem slice_eq (x : Str) (l u : Option Int) : Txt.slice x l u = StrLaws.sliceText x l u := by
  first | rfl | (unfold Txt.slice StrLaws.sliceText; rfl)
theorem slice_from {l : List Nat} {a : Nat} (h : a ≤ l.length) : Txt.slice (mk l) (some (a : Int)) none = mk (l.drop a) := by
  rw [slice_eq, StrLaws.sliceText_from ⟨Int.natCast_nonneg _, by rw [mk_cps]; exact Int.ofNat_le.mpr h⟩, mk_cps]
  simp only [Int.toNat_natCast]
  rw [show ((l.length : Int) - (a : Int)).toNat = (l.drop a).length by simp, List.take_length]
  rfl
theorem slice_to {l : List Nat} {a : Nat} (h : a ≤ l.length) : Txt.slice (mk l) none (some (a : Int)) = mk (l.take a) := by
  rw [slice_eq, StrLaws.sliceText_to ⟨Int.natCast_nonneg _, by rw [mk_cps]; exact Int.ofNat_le.mpr h⟩, mk_cps]
  simp [mk]
theorem slice_all (l : List Nat) : Txt.slice (mk l) none none = mk l := by
  have e : Txt.slice (mk l) none none = Txt.slice (mk l) (some ((0 : Nat) : Int)) none := by
    rw [slice_eq, slice_eq]; unfold StrLaws.sliceText; rfl
  rw [e, slice_from (Nat.zero_le _)]; simp
theorem slice_to_neg {l : List Nat} {a : Nat} (h : a ≤ l.length) (h0 : 0 < a) : Txt.slice (mk l) none (some (-(a : Int))) = mk (l.take (l.length - a)) := by
  rw [slice_eq, StrLaws.sliceText_to_neg (by omega) (by rw [mk_length]; omega), mk_cps, mk_length]
  simp only [List.drop_zero]
  rw [show (-(a : Int) + (l.length : Int) - 0).toNat = l.length - a by omega]
  rfl
theorem slice_mid {l : List Nat} {a b : Nat} (hab : a ≤ b) (hb : b ≤ l.length) : Txt.slice (mk l) (some (a : Int)) (some (b : Int)) = mk ((l.drop a).take (b - a)) := by
  rw [slice_eq, StrLaws.sliceText_nat _ hab (by rw [mk_length]; exact hb), mk_cps]; rfl
theorem item_pos {l : List Nat} {i : Nat} (h : i < l.length) : Txt.item (mk l) (i : Int) = mk [l[i]] := by
  rw [item_meets (n := l[i]) (Int.natCast_nonneg _) (by simp [mk, h])]; rfl

section
variable {G : GC} {c : Act G} {σ : Sto} {O F : Led} {s : Shared}

/-! subscripts -/
def partPV : Option Int → PV
  | none => .none
  | some i => .int i
theorem part_none : TVp c σ O F (evalPart none c.env) (partPV none) := TV.pure fun s Q S k => evalPart_none_step (k _ s.heap s.toks rfl fun _ _ e => e)
theorem part_some {e : Expr} {o : Option Int} (h : Evp c σ O F e (partPV o)) : TVp c σ O F (evalPart (some e) c.env) (partPV o) := TG.of h fun Q s h => evalPart_some_step h

theorem ev_item {value slice : Expr} {pos : Pos} {po pi : PV} {R : VPost} (ho : Evp c σ O F value po) (hi : Evp c σ O F slice pi)
    (h : ∀ vo vi, po.Is vo → pi.Is vi → TV c σ O F (subscriptTail value slice vo vi) R) : Ev c σ O F (.Subscript value slice pos) R :=
  TG.of (TV.bindp ho fun vo io => TV.bindp hi fun vi ii => h vo vi io ii) fun Q s h => Subscript_ h

theorem ev_stritem {value slice : Expr} {pos : Pos} {x : Str} {i : Int} (ho : Evp c σ O F value (.str x)) (hi : Evp c σ O F slice (.int i)) (h1 : -(x.length : Int) ≤ i) (h2 : i < x.length) (h3 : x.length ≤ 1048576)
    (hs : ∀ o i, subscripted slice false o i = operate [o, i] (getItem o i) := by intro _ _; rfl) : Evp c σ O F (.Subscript value slice pos) (.str (Txt.item x i)) :=
  ev_item ho hi fun vo vi ⟨t, e1⟩ ⟨u, e2⟩ => by
    subst e1 e2
    exact TV.pure fun s Q S k => by
      obtain ⟨T, id, q1, q2, q3⟩ := SBL.item (prog := G.prog) (w := G.w) (A := c.A) (E := NoE) (Q := Q) (s := s) (t := t) (u := u) h1 h2 (by omega) fun _ => k _ s.heap _ ⟨_, rfl⟩ fun _ _ e => e
      exact tail_any q2 q1 q3 (hs _ _)

theorem ev_strslice {value : Expr} {lower upper : Option Expr} {p pos : Pos} {x : Str} (l u : Option Int) (ho : Evp c σ O F value (.str x)) (hl : TVp c σ O F (evalPart lower c.env) (partPV l)) (hu : TVp c σ O F (evalPart upper c.env) (partPV u)) (hx : x.length ≤ 1048576) :
    Evp c σ O F (.Subscript value (.Slice lower upper none p) pos) (.str (Txt.slice x l u)) := by
  have hsz : x.length ≤ sizeLine := by rw [sizeLine_eq]; omega
  refine TG.of (T := fun Q s => wpAny G.M c.A (eval value c.env) (fun o s₁ => wpAny G.M c.A (evalPart lower c.env) (fun vl s₂ => wpAny G.M c.A (evalPart upper c.env) (fun vu s₃ =>
      wpAny G.M c.A (subscriptTail value (.Slice lower upper none p) o (.ref s₃.heap.objs.size)) Q NoE { s₃ with heap := s₃.heap.push { cls := .type "slice", data := .fields #[vl, vu, .none] } }) NoE s₂) NoE s₁) NoE s) ?_ ?_
  · refine TV.bindp (T2 := fun o Q s₁ => wpAny G.M c.A (evalPart lower c.env) (fun vl s₂ => wpAny G.M c.A (evalPart upper c.env) (fun vu s₃ =>
      wpAny G.M c.A (subscriptTail value (.Slice lower upper none p) o (.ref s₃.heap.objs.size)) Q NoE { s₃ with heap := s₃.heap.push { cls := .type "slice", data := .fields #[vl, vu, .none] } }) NoE s₂) NoE s₁) ho fun vo ⟨t, e⟩ => ?_
    subst e
    refine TV.bindp (T2 := fun vl Q s₂ => wpAny G.M c.A (evalPart upper c.env) (fun vu s₃ =>
      wpAny G.M c.A (subscriptTail value (.Slice lower upper none p) (.str x t) (.ref s₃.heap.objs.size)) Q NoE { s₃ with heap := s₃.heap.push { cls := .type "slice", data := .fields #[vl, vu, .none] } }) NoE s₂) hl fun vl il => ?_
    refine TV.bindp (T2 := fun vu Q s₃ =>
      wpAny G.M c.A (subscriptTail value (.Slice lower upper none p) (.str x t) (.ref s₃.heap.objs.size)) Q NoE { s₃ with heap := s₃.heap.push { cls := .type "slice", data := .fields #[vl, vu, .none] } }) hu fun vu iu => ?_
    refine TG.pure (P := (PV.str (Txt.slice x l u)).Is) (fun Q Q' hq s h => wpAny_mono h (fun b s' e => hq b s' e) fun _ _ e => e) (fun Q s h => ?_) ?_ fun v i => ⟨rfl, _, ⟨rfl, rfl, rfl⟩, i⟩
    · exact wpAny_mono (wpAny_toks h) (fun _ _ e => e) fun _ _ e => e.2
    intro s Q S k
    let P : Heap → Prop := fun h => ∀ b o, s.heap.get? b = some o → h.get? b = some o
    have hk : KeptH P := fun h ob hp b o e => Heap.get?_push_of_some _ (hp b o e)
    have h0 : P s.heap := fun _ _ e => e
    have fin : ItemOn G.M c.A NoE (.str x t) (.ref s.heap.objs.size) Q { s with heap := s.heap.push { cls := .type "slice", data := .fields #[vl, vu, .none] } } := by
      cases l with
      | none =>
        cases il
        cases u with
        | none => cases iu; exact SBH.sliceItem_nn hk h0 (fun h' t' k' hp => k _ h' k' ⟨t', rfl⟩ hp) hsz
        | some j => obtain ⟨tj, rfl⟩ := iu; exact SBH.sliceItem_ns hk h0 (fun h' t' k' hp => k _ h' k' ⟨t', rfl⟩ hp) hsz
      | some i =>
        obtain ⟨ti, rfl⟩ := il
        cases u with
        | none => cases iu; exact SBH.sliceItem_sn hk h0 (fun h' t' k' hp => k _ h' k' ⟨t', rfl⟩ hp) hsz
        | some j => obtain ⟨tj, rfl⟩ := iu; exact SBH.sliceItem_ss hk h0 (fun h' t' k' hp => k _ h' k' ⟨t', rfl⟩ hp) hsz
    obtain ⟨T, id, q1, q2, q3⟩ := fin
    exact tail_any q2 q1 q3 rfl
  · intro Q s h
    refine Subscript_ (wpAny_mono h (fun o s₁ h₁ => wpAny_Slice (wpAny_mono h₁ (fun vl s₂ h₂ => wpAny_mono h₂ (fun vu s₃ h₃ => ?_) fun _ _ e => e) fun _ _ e => e)) fun _ _ e => e)
    exact wpAny_pure h₃
end
end Mine
end
section
open PySem PySem.W PyProof.Rows PySem.Calls
set_option autoImplicit false
set_option linter.unusedVariables false
namespace Mine

def ListO (xs : List PV) (o : Obj) : Prop := ∃ (vs : Array Value) (n : Nat), o = W.listOf vs n ∧ All2 PV.Is xs vs.toList
def TupO (xs : List PV) (o : Obj) : Prop := ∃ (vs : Array Value), o = { cls := .type "tuple", data := .seq vs } ∧ All2 PV.Is xs vs.toList

theorem All2.size {α β : Type} {R : α → β → Prop} {xs : List α} {vs : Array β} (h : All2 R xs vs.toList) : vs.size = xs.length := by rw [← Array.length_toList]; exact h.length.symm
theorem All2.sizeM {α β γ : Type} {R : α → β → Prop} {f : γ → α} {xs : List γ} {vs : Array β} (h : All2 R (xs.map f) vs.toList) : vs.size = xs.length := h.size.trans (List.length_map ..)
theorem leSL {n : Nat} (h : n ≤ 1048576) : n ≤ sizeLine := Nat.le_trans h (by rw [sizeLine_eq]; decide)
section
variable {G : GC} {c : Act G} {σ : Sto} {O F : Led} {s : Shared}

/-! ### moving entries about -/
theorem St.move (S : St c σ O F s) {O' F' : Led} (hp : (O ++ F).Perm (O' ++ F')) (hF : ∀ p ∈ F, p ∈ F') : St c σ O' F' s := by
  obtain ⟨⟨mf, C, h1, h2, h3, h4⟩, h5, h6, h7⟩ := S
  refine ⟨⟨mf, C, h1, news_sub h2 fun p hq => ?_, h3, h4.mono hF⟩, ?_, h6, h7⟩
  · rcases List.mem_append.mp hq with q | q
    · exact List.mem_append_left _ q
    · exact List.mem_append_right _ (hp.mem_iff.mpr q)
  · exact (List.Perm.nodup_iff (List.Perm.append_left _ (hp.map _))).mp h5

theorem St.drop (S : St c σ O F s) {O' : Led} (hs : O'.Sublist O) : St c σ O' F s := by
  obtain ⟨⟨mf, C, h1, h2, h3, h4⟩, h5, h6, h7⟩ := S
  refine ⟨⟨mf, C, h1, news_sub h2 fun p hq => ?_, h3, h4⟩, ?_, h6, h7⟩
  · have := hs.subset
    simp only [List.mem_append] at hq ⊢
    rcases hq with q | q | q
    · exact .inl q
    · exact .inr (.inl (this q))
    · exact .inr (.inr q)
  · exact h5.sublist (List.Sublist.append_left ((hs.append_right _).map _) _)

/-- the owned entries reordered -/
theorem TG.permO {β : Type} {O' : Led} {T : (β → Shared → Prop) → Shared → Prop} {R : β → Sto → Led → Led → Prop} (hp : O.Perm O') (h : TG c σ O' F T R) : TG c σ O F T R :=
  fun s Q S k => h s Q (S.move (hp.append_right _) fun _ q => q) k
theorem TG.dropO {β : Type} {O' : Led} {T : (β → Shared → Prop) → Shared → Prop} {R : β → Sto → Led → Led → Prop} (hs : O'.Sublist O) (h : TG c σ O' F T R) : TG c σ O F T R :=
  fun s Q S k => h s Q (S.drop hs) k

/-- an owned entry is frozen for good -/
theorem TG.freezeN {β : Type} {p : Addr × Obj} {T : (β → Shared → Prop) → Shared → Prop} {R : β → Sto → Led → Led → Prop} (h : TG c σ O (p :: F) T fun b σ' O' N => R b σ' O' (N ++ [p])) : TG c σ (p :: O) F T R := by
  intro s Q S k
  have S1 : St c σ O (p :: F) s := S.move (by simpa using (List.perm_middle (a := p) (l₁ := O) (l₂ := F)).symm) fun _ q => .tail _ q
  refine h s Q S1 fun b σ' O' N hh tk r S2 ht => k b σ' O' (N ++ [p]) hh tk r ?_ ht
  simpa using S2
/-- the head of the owned entries is turned -/
theorem St.setHead {a : Addr} {o o' : Obj} (S : St c σ ((a, o) :: O) F s) {h : Heap} {tk : Nat} (hs : Heap.SameBut a s.heap h) (ho : h.get? a = some o') (ht : s.toks ≤ tk) : St c σ ((a, o') :: O) F (upd s h tk) := by
  obtain ⟨⟨mf, C, h1, h2, h3, h4⟩, h5, h6, h7⟩ := S
  have hA := h2 (a, o) (List.mem_append_right _ (List.mem_append_left _ (.head _)))
  have hnot : ∀ p ∈ C ++ (O ++ F), p.1 ≠ a := by
    intro p hp e
    rw [← h3] at h5
    simp only [List.map_append, List.map_cons, List.cons_append] at h5
    have hq := (List.Perm.nodup_iff (List.perm_middle)).mp h5
    have := (List.nodup_cons.mp hq).1
    apply this
    rw [← e]
    simp only [List.mem_append, List.mem_map] at hp ⊢
    rcases hp with z | z | z
    · exact .inl ⟨p, z, rfl⟩
    · exact .inr (.inl ⟨p, z, rfl⟩)
    · exact .inr (.inr ⟨p, z, rfl⟩)
  refine ⟨⟨mf, C, ⟨h1.ns.sameBut hs (fun e => hA.2.1 e.symm), fun b ob e => (hs.2 b fun q => ?_).trans (h1.keep b ob e), h1.above⟩, fun p hp => ?_, h3, h4⟩, ?_, Nat.lt_of_lt_of_le h6 ht, h7.of (fun _ e => (hs.2 _ fun e => hA.2.1 e.symm).trans e) fun b hb o e => (hs.2 b fun q => by obtain ⟨_, _, o', ho', _⟩ := cells_at h2 h3 hb; exact hnot _ (List.mem_append_left _ ho') q).trans e⟩
  · have := hA.2.2; rw [q] at e; rw [this] at e; cases e
  · rcases List.mem_append.mp hp with z | z
    · exact ⟨(hs.2 _ (hnot p (List.mem_append_left _ z))).trans (h2 p (List.mem_append_left _ z)).1, (h2 p (List.mem_append_left _ z)).2⟩
    · rcases List.mem_append.mp z with z | z
      · rcases List.mem_cons.mp z with rfl | z
        · exact ⟨ho, hA.2⟩
        · have w := h2 p (List.mem_append_right _ (List.mem_append_left _ (.tail _ z)))
          exact ⟨(hs.2 _ (hnot p (List.mem_append_right _ (List.mem_append_left _ z)))).trans w.1, w.2⟩
      · have w := h2 p (List.mem_append_right _ (List.mem_append_right _ z))
        exact ⟨(hs.2 _ (hnot p (List.mem_append_right _ (List.mem_append_right _ z)))).trans w.1, w.2⟩
  · simpa using h5

/-- a new object -/
theorem St.push (S : St c σ O F s) {o : Obj} (hf : o.isFreed = false) : St c σ ((s.heap.objs.size, o) :: O) F (upd s (s.heap.push o) s.toks) := by
  obtain ⟨⟨mf, C, h1, h2, h3, h4⟩, h5, h6, h7⟩ := S
  have N := News.push h1 h2 o hf
  refine ⟨⟨mf, C, h1.push o, news_sub N fun p hp => ?_, h3, h4⟩, ?_, h6, h7.of (fun _ e => Heap.get?_push_of_some _ e) fun _ _ _ e => Heap.get?_push_of_some _ e⟩
  · simp only [List.mem_append, List.mem_cons, List.cons_append] at hp ⊢; grind
  · show (c.cells ++ (s.heap.objs.size :: (O ++ F).map (·.1))).Nodup
    refine (List.Perm.nodup_iff List.perm_middle).mpr (List.nodup_cons.mpr ⟨fun hm => ?_, h5⟩)
    rw [← h3, ← List.map_append] at hm
    obtain ⟨p, hp, e⟩ := List.mem_map.mp hm
    have := Heap.lt_size (h2 p hp).1
    rw [e] at this
    exact Nat.lt_irrefl _ this

theorem new_list {xs : List PV} {vs : List Value} (h : All2 PV.Is xs vs) (hs : vs.length ≤ sizeLine) : TV c σ O F (newList vs) fun r O' N => ∃ a o, r = .ref a ∧ ListO xs o ∧ O' = (a, o) :: O ∧ N = [] := by
  intro s Q S k
  refine wpAny_newList (k _ σ ((s.heap.objs.size, W.listOf vs.toArray 0) :: O) [] _ s.toks ⟨rfl, .ref _, ⟨_, _, rfl, ⟨_, _, rfl, by simpa using h⟩, rfl, rfl⟩, rfl⟩ (S.push rfl) (Nat.le_refl _)) hs
theorem new_tuple {xs : List PV} {vs : List Value} (h : All2 PV.Is xs vs) (hs : vs.length ≤ sizeLine) : TV c σ O F (newTuple vs) fun r O' N => ∃ a o, r = .ref a ∧ TupO xs o ∧ O' = (a, o) :: O ∧ N = [] := by
  intro s Q S k
  refine wpAny_newObj_type (k _ σ ((s.heap.objs.size, { cls := .type "tuple", data := .seq vs.toArray }) :: O) [] _ s.toks ⟨rfl, .ref _, ⟨_, _, rfl, ⟨_, rfl, by simpa using h⟩, rfl, rfl⟩, rfl⟩ (S.push rfl) (Nat.le_refl _)) ?_
  show vs.toArray.size ≤ sizeLine; simpa using hs

theorem ev_list {elts : List Expr} {pos : Pos} {xs : List PV} {R : VPost} (h : TA c σ O F pos elts (justA O xs)) (hs : xs.length ≤ sizeLine) (hR : ∀ a o, ListO xs o → R (.ref a) ((a, o) :: O) []) : Ev c σ O F (.List elts pos) R :=
  TG.of (TA.bindG (T2 := fun vs Q s => wpAny G.M c.A (newList vs) Q NoE s) h fun vs pvs O1 N1 ⟨e1, e2, e3⟩ i => by
    subst e1 e2 e3
    exact TG.mono (new_list i (by rw [← i.length]; exact hs)) fun v σ' O' N ⟨e, pv, ⟨a, o, e1, e2, e3, e4⟩, iv⟩ => ⟨e, pv, by subst e1 e3 e4; exact hR a o e2, iv⟩) fun Q s h => List_ h
theorem ev_tuple {elts : List Expr} {k : Nat} {pos : Pos} {xs : List PV} {R : VPost} (h : TA c σ O F pos elts (justA O xs)) (hs : xs.length ≤ sizeLine) (hR : ∀ a o, TupO xs o → R (.ref a) ((a, o) :: O) []) : Ev c σ O F (.Tuple elts k pos) R :=
  TG.of (TA.bindG (T2 := fun vs Q s => wpAny G.M c.A (newTuple vs) Q NoE s) h fun vs pvs O1 N1 ⟨e1, e2, e3⟩ i => by
    subst e1 e2 e3
    exact TG.mono (new_tuple i (by rw [← i.length]; exact hs)) fun v σ' O' N ⟨e, pv, ⟨a, o, e1, e2, e3, e4⟩, iv⟩ => ⟨e, pv, by subst e1 e3 e4; exact hR a o e2, iv⟩) fun Q s h => Tuple_ h

/-! ### reading -/
theorem St.isList (S : St c σ O F s) {a : Addr} {o : Obj} {xs : List PV} (hm : (a, o) ∈ O ++ F) (h : ListO xs o) : ∃ vs : Array Value, s.heap.IsList a vs ∧ All2 PV.Is xs vs.toList := by
  obtain ⟨vs, n, rfl, i⟩ := h
  exact ⟨vs, ⟨_, S.get hm, rfl, n, rfl⟩, i⟩

theorem ev_listitem {value slice : Expr} {pos : Pos} {a : Addr} {o : Obj} {xs : List PV} {pv : PV} {i : Nat} (ho : Evp c σ O F value (.ref a)) (hi : Evp c σ O F slice (.int (i : Int))) (hm : (a, o) ∈ O ++ F) (hl : ListO xs o) (hx : xs[i]? = some pv)
    (hsz : xs.length ≤ 1048576)
    (hs : ∀ o i, subscripted slice false o i = operate [o, i] (getItem o i) := by intro _ _; rfl) : Evp c σ O F (.Subscript value slice pos) pv :=
  ev_item ho hi fun vo vi e1 ⟨u, e2⟩ => by
    cases e1; subst e2
    exact TV.pure fun s Q S k => by
      obtain ⟨vs, q1, q2⟩ := S.isList hm hl
      obtain ⟨v, hv, iv⟩ := q2.get hx
      have hlt := (List.getElem?_eq_some_iff.mp hx).1
      refine tail_any q1.typeIs slot_list_getitem.lookup (wpAny_getItem_list q1 (by omega) (by omega) (x := v) ?_ (k v s.heap s.toks iv fun _ _ e => e)) (hs _ _)
      simpa using hv

/-! ### storing into a list -/
theorem All2.set {α β : Type} {R : α → β → Prop} {as : List α} {bs : List β} (h : All2 R as bs) : ∀ {i : Nat} {a : α} {b : β}, R a b → All2 R (as.set i a) (bs.set i b) := by
  induction h with
  | nil => intro i a b _; exact .nil
  | cons h1 h2 ih =>
    intro i a b r
    cases i with
    | zero => exact .cons r h2
    | succ i => exact .cons h1 (ih r)
theorem All2.append {α β : Type} {R : α → β → Prop} {as as' : List α} {bs bs' : List β} (h : All2 R as bs) (h' : All2 R as' bs') : All2 R (as ++ as') (bs ++ bs') := by
  induction h with
  | nil => exact h'
  | cons h1 _ ih => exact .cons h1 ih

theorem ex_setitem {lo ie e : Expr} {p pos : Pos} {a : Addr} {o : Obj} {xs : List PV} {pv : PV} {i : Nat} {P : FPost}
    (he : Evp c σ ((a, o) :: O) F e pv) (hlo : Evp c σ ((a, o) :: O) F lo (.ref a)) (hi : Evp c σ ((a, o) :: O) F ie (.int (i : Int))) (hl : ListO xs o) (hx : i < xs.length) (hsz : xs.length ≤ 1048576)
    (h : ∀ o', ListO (xs.set i pv) o' → P .next σ ((a, o') :: O) []) (hs : swapsWith e (some (.Subscript lo ie p)) pos.line c.env = pure false := by rfl) :
    Ex1 c σ ((a, o) :: O) F (.Assign [.Subscript lo ie p] e pos) P := by
  intro s Q S k
  refine wpAny_Assign_Subscript ?_ hs
  refine (TV.bindp (T2 := fun v (Q : Flow → Shared → Prop) s1 => wpAny G.M c.A (eval lo c.env) (fun ov s₂ => wpAny G.M c.A (eval ie c.env) (fun iv s₃ => wpAny G.M c.A (setItem ov iv v) (fun _ => Q .next) NoE s₃) NoE s₂) NoE s1) he fun v iv =>
    TV.bindp (T2 := fun ov (Q : Flow → Shared → Prop) s₂ => wpAny G.M c.A (eval ie c.env) (fun iv s₃ => wpAny G.M c.A (setItem ov iv v) (fun _ => Q .next) NoE s₃) NoE s₂) hlo fun ov e1 =>
    TV.bindp (T2 := fun i' (Q : Flow → Shared → Prop) s₃ => wpAny G.M c.A (setItem ov i' v) (fun _ => Q .next) NoE s₃) hi fun i' e2 => ?_) s Q S k
  cases e1
  obtain ⟨u, rfl⟩ := e2
  intro s2 Q2 S2 k2
  obtain ⟨vs, n, rfl, ia⟩ := hl
  have e3 : vs.size = xs.length := by rw [ia.length]; simp
  have hg := S2.get (List.mem_append_left _ (.head _))
  refine ki_setAt hg (by omega) (by omega) (by omega) ?_
  have hfin : (s2.heap.update a (Obj.mapSeq fun x => x.setIfInBounds (i : Int).toNat v)).get? a = some (W.listOf (vs.setIfInBounds i v) n) := by
    refine (Heap.get?_update_self _ hg (by rfl)).trans ?_
    show some _ = some _
    congr 1
    show Obj.mk _ _ (Data.seq _ _) _ = _
    simp only [Int.toNat_natCast, Array.size_setIfInBounds]
    simp [W.listOf]
  exact k2 _ σ _ [] _ s2.toks ⟨.next, h _ ⟨_, n, rfl, by simpa using ia.set iv⟩, rfl⟩ (S2.setHead (Heap.SameBut.update ..) hfin (Nat.le_refl _)) (Nat.le_refl _)

/-! ### methods of a list -/
theorem meth_list {o : Expr} {name : Str} {apos pos : Pos} {args : List Expr} {id : String} {a : Addr} {ob : Obj} {xs : List PV} {R : VPost} (ho : Evp c σ O F o (.ref a)) (hm : (a, ob) ∈ O ++ F) (hl : ListO xs ob)
    (slot : Slot "list" name id) (ty : typeOf (.builtin id) = pure (.type "method_descriptor"))
    (hbase : attributeBase o name c.env (eval o c.env) = eval o c.env)
    (hfew : ((backTo pos (starEach args c.env)).all (fun x => !x.1) && (backToKw pos (keywordEach [] c.env)).all (fun x => x.1.isSome) && decide (args.length + ([] : List Keyword).length + (if ([] : List Keyword).isEmpty then 0 else 1) < 30)) = true)
    (hline : (apos.endLine == pos.line) = true)
    (h : TG c σ O F (fun (Q : Value → Shared → Prop) s => wpAny G.M c.A (callWith pos (.builtin id) [.ref a] (backTo pos (starEach args c.env)) []) Q NoE s) (RV σ R)) :
    Ev c σ O F (.Call (.Attribute o name apos) args [] pos) R :=
  TG.of (TV.bindp (T2 := fun ov (Q : Value → Shared → Prop) s1 => MethodOnS G.prog G.w c.A NoE name ov pos (backTo pos (starEach args c.env)) Q s1) ho fun v e => by
    cases e
    intro s Q S k
    obtain ⟨vs, n, rfl, ia⟩ := hl
    have hg := S.get hm
    exact ⟨"list", id, PySem.F.plainAttrs_list, slot, ty, ⟨_, hg, rfl⟩, (fun b e => by cases e; exact ⟨_, hg, rfl⟩), h s Q S k⟩) fun Q s h => wpAny_Call_method_lateS hbase hfew hline h

theorem ev_append {lo e : Expr} {apos pos : Pos} {a : Addr} {o : Obj} {xs : List PV} {pv : PV} {R : VPost} (hlo : Evp c σ ((a, o) :: O) F lo (.ref a)) (he : Evp c σ ((a, o) :: O) F e pv) (hl : ListO xs o) (hsz : xs.length ≤ 1048576)
    (h : ∀ o', ListO (xs ++ [pv]) o' → R .none ((a, o') :: O) [])
    (hbase : attributeBase lo (Str.ofString "append") c.env (eval lo c.env) = eval lo c.env := by rfl) (hline : (apos.endLine == pos.line) = true := by rfl)
    (hst : ∀ env, starEach [e] env = [(false, eval e env)] := by intro _; rfl) :
    Ev c σ ((a, o) :: O) F (.Call (.Attribute lo (Str.ofString "append") apos) [e] [] pos) R := by
  refine meth_list hlo (List.mem_append_left _ (.head _)) hl PySem.F.slot_list_append rfl hbase (by rw [hst]; rfl) hline ?_
  refine TG.of (TA.bindG (T2 := fun vs (Q : Value → Shared → Prop) s1 => wpAny G.M c.A (call (.builtin "list.append") ([.ref a] ++ vs)) Q NoE s1) (ta_pp he ta_np hst) fun vs pvs O1 N1 ⟨e1, e2, e3⟩ i => ?_) fun Q s h => callWith_method1 h (hst _)
  subst e1 e2 e3
  obtain ⟨v, rfl, iv⟩ := i.one
  intro s Q S k
  obtain ⟨vs, n, rfl, ia⟩ := hl
  have e3 : vs.size = xs.length := by rw [ia.length]; simp
  refine append_at (S.get (List.mem_append_left _ (.head _))) (fun h' hs ho => ?_) (by first | exact leSL (by assumption) | (rw [sizeLine_eq]; omega))
  exact k .none σ _ [] h' s.toks ⟨rfl, .none, h _ ⟨_, _, rfl, by simpa using ia.append (.cons iv .nil)⟩, rfl⟩ (S.setHead hs ho (Nat.le_refl _)) (Nat.le_refl _)

theorem ev_pop {lo : Expr} {apos pos : Pos} {a : Addr} {o : Obj} {xs : List PV} {pv : PV} {R : VPost} (hlo : Evp c σ ((a, o) :: O) F lo (.ref a)) (hl : ListO (xs ++ [pv]) o) (hsz : xs.length ≤ 1048576)
    (h : ∀ o', ListO xs o' → R pv ((a, o') :: O) [])
    (hbase : attributeBase lo (Str.ofString "pop") c.env (eval lo c.env) = eval lo c.env := by rfl) (hline : (apos.endLine == pos.line) = true := by rfl) :
    Ev c σ ((a, o) :: O) F (.Call (.Attribute lo (Str.ofString "pop") apos) [] [] pos) R := by
  refine meth_list hlo (List.mem_append_left _ (.head _)) hl PySem.F.slot_list_pop rfl hbase rfl hline ?_
  refine TG.of (T := fun Q s => wpAny G.M c.A (call (.builtin "list.pop") [.ref a]) Q NoE s) ?_ fun Q s h => callWith_method0 h
  intro s Q S k
  obtain ⟨vs, n, rfl, ia⟩ := hl
  have e3 : vs.size = xs.length + 1 := by have := ia.length; simp at this; omega
  obtain ⟨v, hv, iv⟩ := ia.get (i := xs.length) (a := pv) (by simp)
  refine PyProof.Rows.Copied.pop_at (S.get (List.mem_append_left _ (.head _))) (y := v) (by rw [e3]; simpa using hv) (fun h' hs ho => ?_) (by first | exact leSL (by assumption) | (rw [sizeLine_eq]; omega))
  refine k v σ _ [] h' s.toks ⟨rfl, pv, h _ ⟨_, _, rfl, ?_⟩, iv⟩ (S.setHead hs ho (Nat.le_refl _)) (Nat.le_refl _)
  have : ∀ {as : List PV} {b : PV} {bs : List Value}, All2 PV.Is (as ++ [b]) bs → All2 PV.Is as bs.dropLast := by
    intro as
    induction as with
    | nil => intro b bs h; obtain ⟨w, rfl, _⟩ := h.one; exact .nil
    | cons x xs ih =>
      intro b bs h
      cases h with
      | cons h1 h2 =>
        rename_i y ys
        have hne : ys ≠ [] := by intro e; subst e; have := h2.length; simp at this
        rw [List.dropLast_cons_of_ne_nil hne]
        exact .cons h1 (ih h2)
  simpa using this ia
end
end Mine
end
section
open PySem PySem.W PyProof.Rows PySem.Calls
set_option autoImplicit false
set_option linter.unusedVariables false
namespace Mine
section
variable {G : GC} {c : Act G} {σ : Sto} {O F : Led} {s : Shared}

/-! ### while -/
theorem ex_while {test : Expr} {body : List Stmt} {pos : Pos} {P : FPost} (I : Nat → Sto → Led → Led → Prop) (n₀ : Nat) (h0 : I n₀ σ O [])
    (turn : ∀ n σ1 O1 N1, I n σ1 O1 N1 → ∃ b, Tstp c σ1 O1 (N1 ++ F) test b ∧
      (b = true → Ex c σ1 O1 (N1 ++ F) body fun pf σ2 O2 N2 => match pf with
        | .next => ∃ m, m < n ∧ I m σ2 O2 (N2 ++ N1)
        | .cont => ∃ m, m < n ∧ I m σ2 O2 (N2 ++ N1)
        | .brk => P .next σ2 O2 (N2 ++ N1)
        | .ret v => P (.ret v) σ2 O2 (N2 ++ N1)) ∧
      (b = false → P .next σ1 O1 N1)) : Ex1 c σ O F (.While test body [] pos) P := by
  intro s Q S k
  refine wpAny_While (codeAny_whileLoop (fun n s' => ∃ σ1 O1 N1 h tk, s' = upd s h tk ∧ St c σ1 O1 (N1 ++ F) s' ∧ s.toks ≤ tk ∧ I n σ1 O1 N1) ?_ n₀ ⟨σ, O, [], s.heap, s.toks, rfl, S, Nat.le_refl _, h0⟩)
  rintro n s' ⟨σ1, O1, N1, h, tk, rfl, S1, ht1, hI⟩
  obtain ⟨b, hb, ht, hf⟩ := turn n σ1 O1 N1 hI
  refine wpAny_mono (hb _ _ S1 ?_) (fun _ _ e => e) fun _ _ e => False.elim e
  rintro b' σ2 O2 N2 h2 tk2 ⟨e1, e2, e3, e4⟩ S2 ht2
  subst e1 e2 e3 e4
  cases b' with
  | false =>
    simp only [Bool.false_eq_true, if_false]
    exact wpAny_execs_nil (k .next _ _ N1 h2 tk2 ⟨.next, hf rfl, rfl⟩ S2 (Nat.le_trans ht1 ht2))
  | true =>
    simp only [if_true]
    refine wpAny_mono (ht rfl _ (fun f s₃ => match f with
          | .next => ∃ m, m < n ∧ ∃ σ1 O1 N1 h tk, s₃ = upd s h tk ∧ St c σ1 O1 (N1 ++ F) s₃ ∧ s.toks ≤ tk ∧ I m σ1 O1 N1
          | .cont => ∃ m, m < n ∧ ∃ σ1 O1 N1 h tk, s₃ = upd s h tk ∧ St c σ1 O1 (N1 ++ F) s₃ ∧ s.toks ≤ tk ∧ I m σ1 O1 N1
          | .brk => Q .next s₃
          | .ret v => Q (.ret v) s₃) S2 ?_) (fun _ _ e => e) fun _ _ e => False.elim e
    rintro fl σ3 O3 N3 h3 tk3 ⟨pf, hp, ip⟩ S3 ht3
    have S3' : St c σ3 O3 ((N3 ++ N1) ++ F) (upd s h3 tk3) := by rw [List.append_assoc]; exact S3
    have htt : s.toks ≤ tk3 := Nat.le_trans ht1 (Nat.le_trans ht2 ht3)
    cases pf with
    | next => cases ip; obtain ⟨m, hm, hI'⟩ := hp; exact ⟨m, hm, σ3, O3, N3 ++ N1, h3, tk3, rfl, S3', htt, hI'⟩
    | cont => cases ip; obtain ⟨m, hm, hI'⟩ := hp; exact ⟨m, hm, σ3, O3, N3 ++ N1, h3, tk3, rfl, S3', htt, hI'⟩
    | brk => cases ip; exact k .next σ3 O3 (N3 ++ N1) h3 tk3 ⟨.next, hp, rfl⟩ S3' htt
    | ret v => obtain ⟨v', rfl, iv⟩ := ip; exact k _ σ3 O3 (N3 ++ N1) h3 tk3 ⟨.ret v, hp, v', rfl, iv⟩ S3' htt

/-! ### what can be walked -/
structure WalkAt (c : Act G) (O F : Led) (h : Heap) (it : Value) (items : List PV) (I : Addr) (fp wr : List Addr) (Pk : Nat → Value → Prop) (Sw : Nat → Heap → Prop) : Prop where
  it : it = .ref I
  W : Walks G.prog G.w c.A I fp wr items.length Pk Sw
  st : Sw 0 h
  val : ∀ k v, k < items.length → Pk k v → ∃ pv, items[k]? = some pv ∧ pv.Is v
  lt : ∀ b ∈ fp, b < h.objs.size
  wnd : wr.Nodup
  wnew : ∀ b ∈ wr, b ∉ c.cells ++ (O ++ F).map (·.1) ∧ b ≠ c.L ∧ c.h0.get? b = none
  old : ∀ b ∈ fp, b ∉ wr → (∃ o, (b, o) ∈ F) ∨ (∃ o, c.h0.get? b = some o)
  ex : ∀ k h', Sw k h' → ∀ b ∈ wr, ∃ o, h'.get? b = some o

def Iterates {G : GC} (c : Act G) (σ : Sto) (O F : Led) (iter : Expr) (items : List PV) (I0 : Led → Led → Prop) : Prop :=
  ∀ (s : Shared) (Q : Value → Shared → Prop), St c σ O F s →
    (∀ it O1 N1 h tk I fp wr Pk Sw, I0 O1 N1 → St c σ O1 (N1 ++ F) (upd s h tk) → WalkAt c O1 (N1 ++ F) h it items I fp wr Pk Sw → s.toks ≤ tk → Q it (upd s h tk)) →
    wpAny G.M c.A (eval iter c.env) (fun xv s1 => wpAny G.M c.A (pyIter xv) Q NoE s1) NoE s

def wrLed (h : Heap) : List Addr → Led
  | [] => []
  | b :: r => match h.get? b with | some o => (b, o) :: wrLed h r | none => wrLed h r
theorem wrLed_mem {h : Heap} : ∀ {wr : List Addr} {p : Addr × Obj}, p ∈ wrLed h wr ↔ p.1 ∈ wr ∧ h.get? p.1 = some p.2
  | [], p => by simp [wrLed]
  | b :: r, p => by
    unfold wrLed
    split
    · rename_i o e
      rw [List.mem_cons, wrLed_mem, List.mem_cons]
      constructor
      · rintro (rfl | ⟨h1, h2⟩)
        · exact ⟨.inl rfl, e⟩
        · exact ⟨.inr h1, h2⟩
      · rintro ⟨rfl | h1, h2⟩
        · left; rw [e] at h2; cases p; simp at h2 ⊢; exact h2.symm
        · exact .inr ⟨h1, h2⟩
    · rename_i e
      rw [wrLed_mem, List.mem_cons]
      constructor
      · rintro ⟨h1, h2⟩; exact ⟨.inr h1, h2⟩
      · rintro ⟨rfl | h1, h2⟩
        · rw [e] at h2; cases h2
        · exact ⟨h1, h2⟩
theorem wrLed_sub {h : Heap} : ∀ {wr : List Addr}, ((wrLed h wr).map (·.1)).Sublist wr
  | [] => List.Sublist.slnil
  | b :: r => by
    unfold wrLed
    split
    · exact List.Sublist.cons_cons _ wrLed_sub
    · exact List.Sublist.cons _ wrLed_sub

/-- objects beside: what the walk itself turns -/
theorem St.past (S : St c σ O F s) {wr : List Addr} {h : Heap} {tk : Nat} (hw : ∀ b ∈ wr, b ∉ c.cells ++ (O ++ F).map (·.1) ∧ b ≠ c.L ∧ c.h0.get? b = none)
    (hk : ∀ b o, b ∉ wr → s.heap.get? b = some o → h.get? b = some o) (ht : s.toks ≤ tk) : St c σ O F (upd s h tk) := by
  obtain ⟨⟨mf, C, h1, h2, h3, h4⟩, h5, h6, h7⟩ := S
  have hL : c.L ∉ wr := fun q => (hw _ q).2.1 rfl
  refine ⟨⟨mf, C, ⟨h1.ns.at' fun o e => hk _ o hL e, fun b o e => hk b o (fun q => by have := (hw b q).2.2; rw [this] at e; cases e) (h1.keep b o e), h1.above⟩, fun p hp => ⟨hk _ _ (fun q => ?_) (h2 p hp).1, (h2 p hp).2⟩, h3, h4⟩, h5, Nat.lt_of_lt_of_le h6 ht, h7.of (fun _ e => hk _ _ hL e) fun b hb _ e => hk _ _ (fun q => (hw b q).1 (List.mem_append_left _ hb)) e⟩
  apply (hw _ q).1
  rw [← h3, ← List.map_append]
  exact List.mem_map.mpr ⟨p, hp, rfl⟩

theorem St.beside (S : St c σ O F s) {wr : List Addr} (hw : ∀ b ∈ wr, b ∉ c.cells ++ (O ++ F).map (·.1) ∧ b ≠ c.L ∧ c.h0.get? b = none) (hn : wr.Nodup) : St c σ O (wrLed s.heap wr ++ F) s := by
  obtain ⟨⟨mf, C, h1, h2, h3, h4⟩, h5, h6, h7⟩ := S
  refine ⟨⟨mf, C, h1, fun p hp => ?_, h3, h4.mono fun p hp => List.mem_append_right _ hp⟩, ?_, h6, h7⟩
  · simp only [List.mem_append] at hp
    rcases hp with z | z | z | z
    · exact h2 p (List.mem_append_left _ z)
    · exact h2 p (List.mem_append_right _ (List.mem_append_left _ z))
    · obtain ⟨z1, z2⟩ := wrLed_mem.mp z
      exact ⟨z2, (hw _ z1).2.1, (hw _ z1).2.2⟩
    · exact h2 p (List.mem_append_right _ (List.mem_append_right _ z))
  · have hp : (c.cells ++ (O ++ (wrLed s.heap wr ++ F)).map (·.1)).Perm ((wrLed s.heap wr).map (·.1) ++ (c.cells ++ (O ++ F).map (·.1))) := by
      simp only [List.map_append]
      have e1 : c.cells ++ (O.map (·.1) ++ ((wrLed s.heap wr).map (·.1) ++ F.map (·.1))) = (c.cells ++ O.map (·.1)) ++ ((wrLed s.heap wr).map (·.1) ++ F.map (·.1)) := by simp only [List.append_assoc]
      have e2 : (wrLed s.heap wr).map (·.1) ++ (c.cells ++ (O.map (·.1) ++ F.map (·.1))) = (wrLed s.heap wr).map (·.1) ++ ((c.cells ++ O.map (·.1)) ++ F.map (·.1)) := by simp only [List.append_assoc]
      rw [e1, e2, ← List.append_assoc, ← List.append_assoc]
      exact List.Perm.append_right _ List.perm_append_comm
    refine (List.Perm.nodup_iff hp).mpr (List.nodup_append.mpr ⟨hn.sublist wrLed_sub, h5, ?_⟩)
    intro a ha b hb e
    subst e
    exact (hw a (wrLed_sub.subset ha)).1 hb

/-- the frozen part may shrink where names don't look at it -/
theorem St.shrink (H : Own c) (S : St c σ O F s) {F' : Led} (hs : F'.Sublist F) : St c σ O F' s := by
  have S₀ := S
  obtain ⟨⟨mf, C, h1, h2, h3, h4⟩, h5, h6, h7⟩ := S
  refine ⟨⟨mf, C, h1, news_sub h2 fun p hq => ?_, h3, ?_⟩, ?_, h6, h7⟩
  · have := hs.subset
    simp only [List.mem_append] at hq ⊢
    rcases hq with q | q | q
    · exact .inl q
    · exact .inr (.inl q)
    · exact .inr (.inr (this q))
  · intro i x pv hx hv
    obtain ⟨v, iv, W⟩ := h4 i x pv hx hv
    refine ⟨v, iv, ?_⟩
    cases W with
    | loc a1 a2 a3 => exact .loc a1 a2 a3
    | comp a1 o m a2 a3 a4 => exact absurd H.L (h2 _ (List.mem_append_right _ (List.mem_append_right _ a2))).2.1
    | cell a1 a o a2 a3 a4 =>
      refine .cell a1 a o a2 ?_ a4
      have ha := H.cells x a a2
      rw [← h3] at ha
      obtain ⟨q, hq, rfl⟩ := List.mem_map.mp ha
      have e1 := (h2 _ (List.mem_append_left _ hq)).1
      have e2 : s.heap.get? q.1 = some o := by
        rcases List.mem_append.mp a3 with z | z
        · exact (h2 _ (List.mem_append_left _ z)).1
        · exact (h2 _ (List.mem_append_right _ (List.mem_append_right _ z))).1
      rw [e1] at e2
      cases e2
      exact List.mem_append_left _ hq
  · exact h5.sublist (List.Sublist.append_left ((List.Sublist.append_left hs _).map _) _)

/-! ### for -/
theorem wrLed_congr {h h' : Heap} : ∀ {wr : List Addr}, (∀ b ∈ wr, h'.get? b = h.get? b) → wrLed h' wr = wrLed h wr
  | [], _ => rfl
  | b :: r, hq => by
    unfold wrLed
    rw [hq b (.head _), wrLed_congr fun b hb => hq b (.tail _ hb)]

theorem St.wr {wr : List Addr} (S : St c σ O (wrLed s.heap wr ++ F) s) (hex : ∀ b ∈ wr, ∃ o, s.heap.get? b = some o) : ∀ b ∈ wr, b ∉ c.cells ++ (O ++ F).map (·.1) ∧ b ≠ c.L ∧ c.h0.get? b = none := by
  intro b hb
  obtain ⟨o, ho⟩ := hex b hb
  have hm : (b, o) ∈ wrLed s.heap wr := wrLed_mem.mpr ⟨hb, ho⟩
  obtain ⟨⟨mf, C, h1, h2, h3, h4⟩, h5, h6, h7⟩ := S
  have hN := h2 (b, o) (List.mem_append_right _ (List.mem_append_right _ (List.mem_append_left _ hm)))
  refine ⟨fun hq => ?_, hN.2⟩
  have hp : (c.cells ++ (O ++ (wrLed s.heap wr ++ F)).map (·.1)).Perm ((wrLed s.heap wr).map (·.1) ++ (c.cells ++ (O ++ F).map (·.1))) := by
    simp only [List.map_append]
    have e1 : c.cells ++ (O.map (·.1) ++ ((wrLed s.heap wr).map (·.1) ++ F.map (·.1))) = (c.cells ++ O.map (·.1)) ++ ((wrLed s.heap wr).map (·.1) ++ F.map (·.1)) := by simp only [List.append_assoc]
    have e2 : (wrLed s.heap wr).map (·.1) ++ (c.cells ++ (O.map (·.1) ++ F.map (·.1))) = (wrLed s.heap wr).map (·.1) ++ ((c.cells ++ O.map (·.1)) ++ F.map (·.1)) := by simp only [List.append_assoc]
    rw [e1, e2, ← List.append_assoc, ← List.append_assoc]
    exact List.Perm.append_right _ List.perm_append_comm
  have hnd := (List.nodup_append.mp ((List.Perm.nodup_iff hp).mp h5)).2.2
  exact hnd b (List.mem_map.mpr ⟨_, hm, rfl⟩) b hq rfl

theorem ex_for {x : Str} {px pos : Pos} {iter : Expr} {body : List Stmt} {P : FPost} {items : List PV} (H : Own c) (i : Nat) (hx : c.names[i]? = some x) (hk : c.env.kindOf x = some .local)
    (I : Nat → Sto → Led → Led → Prop) (hi : ∀ k σ1 O1 N1, I k σ1 O1 N1 → i < σ1.length)
    (hit : Iterates c σ O F iter items fun O1 N1 => I 0 σ O1 N1)
    (turn : ∀ k pv σ1 O1 N1 F', items[k]? = some pv → I k σ1 O1 N1 → (∀ p ∈ N1 ++ F, p ∈ F') → Ex c (σ1.set i (some pv)) O1 F' body fun pf σ2 O2 N2 => match pf with
        | .next => I (k + 1) σ2 O2 (N2 ++ N1)
        | .cont => I (k + 1) σ2 O2 (N2 ++ N1)
        | .brk => P .next σ2 O2 (N2 ++ N1)
        | .ret v => P (.ret v) σ2 O2 (N2 ++ N1))
    (done : ∀ σ1 O1 N1, I items.length σ1 O1 N1 → P .next σ1 O1 N1)
    (hs : ∀ x, foldedSetIterable iter c.env x = pure x := by intro _; rfl) : Ex1 c σ O F (.For (.Name x px) iter body [] pos) P := by
  intro s Q S k
  refine wpAny_For (hit s _ S fun it O1 N1 h tk Ia fp wr Pk Sw h0 S1 WA ht1 => ?_) hs
  obtain ⟨rfl, W, hst, hval, hlt, hwn, hwnew, hold, hex⟩ := WA
  refine codeAny_forLoop (fun n s' => ∃ j σ1 O1 N1 h tk, s' = upd s h tk ∧ n = items.length - j ∧ j ≤ items.length ∧ St c σ1 O1 (wrLed h wr ++ (N1 ++ F)) s' ∧ s.toks ≤ tk ∧ Sw j h ∧ I j σ1 O1 N1 ∧
      (∀ b ∈ fp, b ∉ wr → (∃ o, (b, o) ∈ N1 ++ F) ∨ ∃ o, c.h0.get? b = some o)) ?_ items.length
    ⟨0, σ, O1, N1, h, tk, rfl, rfl, Nat.zero_le _, S1.beside hwnew hwn, ht1, hst, h0, hold⟩
  rintro n s' ⟨j, σ1, O1, N1, h, tk, rfl, rfl, hj, S1, ht1, hst, hI, hold⟩
  have hw := St.wr (s := upd s h tk) S1 (hex j h hst)
  have hsub : (N1 ++ F).Sublist (wrLed h wr ++ (N1 ++ F)) := List.sublist_append_right _ _
  have S0 : St c σ1 O1 (N1 ++ F) (upd s h tk) := S1.shrink H hsub
  by_cases hlt : j < items.length
  · refine wpAny_with_toks (Nat.le_refl _) (W.item j _ _ _ hlt hst fun v h' tk' hP hst' hk' => ?_)
    intro htk
    have S2 : St c σ1 O1 (N1 ++ F) (upd s h' tk') := St.past (s := upd s h tk) S0 hw hk' htk
    have S3 : St c σ1 O1 (wrLed h' wr ++ (N1 ++ F)) (upd s h' tk') := St.beside (s := upd s h' tk') S2 hw hwn
    obtain ⟨pv, hpv, iv⟩ := hval j v hlt hP
    refine wpAny_assign_Name (wpAny_mono (St.store S3 hx hk H.L iv (hi _ _ _ _ hI) (Q := fun _ s3 => ∃ h3, s3 = upd s h3 (tk' + 1) ∧ St c (σ1.set i (some pv)) O1 (wrLed h' wr ++ (N1 ++ F)) s3) fun h3 S4 => ⟨h3, rfl, S4⟩) (fun _ s3 h4 => ?_) fun _ _ e => False.elim e)
    obtain ⟨h3, rfl, S4⟩ := h4
    refine wpAny_mono (turn j pv σ1 O1 N1 _ hpv hI (fun p hp => List.mem_append_right _ hp) _ (fun f s₃ => match f with
          | .next => ∃ m, m < items.length - j ∧ ∃ j σ1 O1 N1 h tk, s₃ = upd s h tk ∧ m = items.length - j ∧ j ≤ items.length ∧ St c σ1 O1 (wrLed h wr ++ (N1 ++ F)) s₃ ∧ s.toks ≤ tk ∧ Sw j h ∧ I j σ1 O1 N1 ∧ (∀ b ∈ fp, b ∉ wr → (∃ o, (b, o) ∈ N1 ++ F) ∨ ∃ o, c.h0.get? b = some o)
          | .cont => ∃ m, m < items.length - j ∧ ∃ j σ1 O1 N1 h tk, s₃ = upd s h tk ∧ m = items.length - j ∧ j ≤ items.length ∧ St c σ1 O1 (wrLed h wr ++ (N1 ++ F)) s₃ ∧ s.toks ≤ tk ∧ Sw j h ∧ I j σ1 O1 N1 ∧ (∀ b ∈ fp, b ∉ wr → (∃ o, (b, o) ∈ N1 ++ F) ∨ ∃ o, c.h0.get? b = some o)
          | .brk => Q .next s₃
          | .ret v => Q (.ret v) s₃) S4 ?_) (fun _ _ e => e) fun _ _ e => False.elim e
    rintro fl σ2 O2 N2 h5 tk5 ⟨pf, hp, ip⟩ S5 ht5
    have htt : s.toks ≤ tk5 := Nat.le_trans ht1 (Nat.le_trans htk (Nat.le_trans (Nat.le_succ _) ht5))
    have hperm : (O2 ++ (N2 ++ (wrLed h' wr ++ (N1 ++ F)))).Perm (O2 ++ (wrLed h' wr ++ ((N2 ++ N1) ++ F))) := by
      refine List.Perm.append_left _ ?_
      rw [List.append_assoc, ← List.append_assoc, ← List.append_assoc (wrLed h' wr) N2]
      exact List.Perm.append_right _ List.perm_append_comm
    have S6 : St c σ2 O2 (wrLed h' wr ++ ((N2 ++ N1) ++ F)) (upd s h5 tk5) := St.move S5 hperm fun p hp => by
      simp only [List.mem_append] at hp ⊢; grind
    have S7 : St c σ2 O2 ((N2 ++ N1) ++ F) (upd s h5 tk5) := S6.shrink H (List.sublist_append_right _ _)
    have same : ∀ b ∈ wr, h5.get? b = h'.get? b := fun b hb => by
      obtain ⟨o, ho⟩ := hex (j + 1) h' hst' b hb
      rw [ho]
      exact St.get (s := upd s h5 tk5) S6 (List.mem_append_right _ (List.mem_append_left _ (wrLed_mem.mpr ⟨hb, ho⟩)))
    have go : I (j + 1) σ2 O2 (N2 ++ N1) → ∃ m, m < items.length - j ∧ ∃ j σ1 O1 N1 h tk, upd s h5 tk5 = upd s h tk ∧ m = items.length - j ∧ j ≤ items.length ∧ St c σ1 O1 (wrLed h wr ++ (N1 ++ F)) (upd s h5 tk5) ∧ s.toks ≤ tk ∧ Sw j h ∧ I j σ1 O1 N1 ∧ (∀ b ∈ fp, b ∉ wr → (∃ o, (b, o) ∈ N1 ++ F) ∨ ∃ o, c.h0.get? b = some o) := by
      intro hI2
      refine ⟨items.length - (j + 1), by omega, j + 1, σ2, O2, N2 ++ N1, h5, tk5, rfl, rfl, hlt, by rw [wrLed_congr same]; exact S6, htt, ?_, hI2, fun b hb hn => ?_⟩
      · refine W.frame _ _ _ hst' fun b hb o e => ?_
        by_cases hbw : b ∈ wr
        · exact (same b hbw).trans e
        · rcases hold b hb hbw with ⟨o', ho'⟩ | ⟨o', ho'⟩
          · have q1 : h'.get? b = some o' := St.get (s := upd s h' tk') S2 (List.mem_append_right _ ho')
            rw [q1] at e; cases e
            exact St.get (s := upd s h5 tk5) S7 (List.mem_append_right _ (by simp only [List.mem_append] at ho' ⊢; grind))
          · obtain ⟨⟨mf, C, g1, _⟩, _⟩ := S2
            obtain ⟨⟨mf7, C7, g7, _⟩, _⟩ := S7
            have q1 := g1.keep b o' ho'
            have q2 : h'.get? b = some o' := q1
            rw [q2] at e; cases e
            exact g7.keep b _ ho'
      · rcases hold b hb hn with ⟨o', ho'⟩ | q
        · exact .inl ⟨o', by simp only [List.mem_append] at ho' ⊢; grind⟩
        · exact .inr q
    cases pf with
    | next => cases ip; exact go hp
    | cont => cases ip; exact go hp
    | brk => cases ip; exact k .next σ2 O2 (N2 ++ N1) h5 tk5 ⟨.next, hp, rfl⟩ S7 htt
    | ret v => obtain ⟨v', rfl, iv⟩ := ip; exact k _ σ2 O2 (N2 ++ N1) h5 tk5 ⟨.ret v, hp, v', rfl, iv⟩ S7 htt
  · have hjn : j = items.length := by omega
    subst hjn
    refine wpAny_with_toks (Nat.le_refl _) (W.done _ _ _ hst fun h' tk' hk' => ?_)
    intro htk
    have S2 : St c σ1 O1 (N1 ++ F) (upd s h' tk') := St.past (s := upd s h tk) S0 hw hk' htk
    exact wpAny_execs_nil (k .next σ1 O1 N1 h' tk' ⟨.next, done _ _ _ hI, rfl⟩ S2 (Nat.le_trans ht1 htk))

/-! ### the things that are walked -/
theorem it_list {iter : Expr} {items : List PV} {I0 : Led → Led → Prop}
    (h : Ev c σ O F iter fun pv O1 N1 => ∃ l o, pv = .ref l ∧ ListO items o ∧ (l, o) ∈ N1 ++ F ∧ I0 O1 N1) : Iterates c σ O F iter items I0 := by
  intro s Q S k
  refine h s _ S ?_
  rintro v σ1 O1 N1 h1 tk1 ⟨e, pv, ⟨l, o, rfl, hl, hm, hI⟩, iv⟩ S1 ht1
  subst e
  cases iv
  obtain ⟨vs, n, rfl, ia⟩ := hl
  have hg : h1.get? l = some (W.listOf vs n) := St.get (s := upd s h1 tk1) S1 (List.mem_append_right _ hm)
  have hL : h1.IsList l vs := ⟨_, hg, rfl, n, rfl⟩
  refine wpAny_pyIter_list hL ?_
  have hlt : l < h1.objs.size := Heap.lt_size hg
  have hne : l ≠ h1.objs.size := Nat.ne_of_lt hlt
  have hlen : vs.size = items.length := by first | exact ia.size | exact ia.sizeM | (have := ia.length; simp at this; omega)
  have Wk := Walks.list (prog := G.prog) (w := G.w) c.hhan h1.objs.size l hne vs
  rw [hlen] at Wk
  have S2 : St c σ1 O1 (N1 ++ F) (upd s (h1.push { cls := Value.type "list_iterator", data := Data.fields #[Value.ref l, Value.int 0 0] }) tk1) :=
    St.keeps (s := upd s h1 tk1) S1 (fun b o e => Heap.get?_push_of_some _ e) (Nat.le_refl _)
  refine k _ O1 N1 _ tk1 h1.objs.size [h1.objs.size, l] [h1.objs.size] _ _ hI S2 ⟨rfl, Wk, ⟨⟨_, Heap.get?_push_size _ rfl, rfl, rfl⟩, hL.at fun o e => Heap.get?_push_of_some _ e⟩, fun j v _ hv => ?_, ?_, by simp, ?_, ?_, ?_⟩ ht1
  · have hj : j < items.length := by rw [← hlen]; exact (Array.getElem?_eq_some_iff.mp hv).1
    obtain ⟨w, hw, iw⟩ := ia.get (i := j) (a := items[j]) (by simp [hj])
    have : w = v := by
      have q : vs[j]? = some w := by simpa using hw
      have hv' : vs[j]? = some v := hv
      rw [q] at hv'; exact Option.some.inj hv'
    subst this
    exact ⟨items[j], by simp [hj], iw⟩
  · intro b hb
    rw [Heap.size_push]
    rcases List.mem_cons.mp hb with rfl | hb
    · exact Nat.lt_succ_self _
    · rw [List.mem_singleton.mp hb]; exact Nat.lt_succ_of_lt hlt
  · intro b hb
    rw [List.mem_singleton.mp hb]
    obtain ⟨⟨mf, C, g1, g2, g3, g4⟩, g5, g6⟩ := S1
    refine ⟨fun q => ?_, fun q => ?_, next_is_new g1⟩
    · rw [← g3, ← List.map_append] at q
      obtain ⟨p, hp, e⟩ := List.mem_map.mp q
      have := Heap.lt_size (g2 p hp).1
      have e' : p.1 = h1.objs.size := e
      rw [e'] at this
      exact Nat.lt_irrefl _ this
    · exact absurd g1.ns.lt (q ▸ Nat.lt_irrefl _)
  · intro b hb hn
    rcases List.mem_cons.mp hb with rfl | hb
    · exact absurd (.head _) hn
    · rw [List.mem_singleton.mp hb]; exact .inl ⟨_, hm⟩
  · rintro j h' ⟨⟨o, ho, _⟩, _⟩ b hb
    rw [List.mem_singleton.mp hb]; exact ⟨o, ho⟩
end
end Mine
end
section
open PySem PySem.W PyProof.Rows PySem.Calls
set_option autoImplicit false
set_option linter.unusedVariables false
namespace Mine
section
variable {G : GC} {c : Act G} {σ : Sto} {O F : Led} {s : Shared}

theorem St.lt (S : St c σ O F s) : ∀ b ∈ c.cells ++ (O ++ F).map (·.1), b < s.heap.objs.size := by
  obtain ⟨⟨mf, C, h1, h2, h3, h4⟩, h5, h6, h7⟩ := S
  intro b hb
  rw [← h3, ← List.map_append] at hb
  obtain ⟨p, hp, rfl⟩ := List.mem_map.mp hb
  exact Heap.lt_size (h2 p hp).1
theorem St.Lh (S : St c σ O F s) : c.L < s.heap.objs.size ∧ ∀ b o, c.h0.get? b = some o → b < s.heap.objs.size := by
  obtain ⟨⟨mf, C, h1, h2, h3, h4⟩, h5, h6, h7⟩ := S
  exact ⟨h1.ns.lt, fun b o e => Heap.lt_size (h1.keep b o e)⟩

/-- a new object stands at the heap's old end; the heap has grown -/
theorem St.grown (S : St c σ O F s) {h : Heap} {tk : Nat} (k : ∀ b o, s.heap.get? b = some o → h.get? b = some o) {o : Obj} (ho : h.get? s.heap.objs.size = some o) (ht : s.toks ≤ tk) :
    St c σ ((s.heap.objs.size, o) :: O) F (upd s h tk) := by
  have S1 := S.keeps k ht
  obtain ⟨⟨mf, C, h1, h2, h3, h4⟩, h5, h6, h7⟩ := S1
  refine ⟨⟨mf, C, h1, fun p hp => ?_, h3, h4⟩, ?_, h6, h7⟩
  · simp only [List.mem_append, List.mem_cons, List.cons_append] at hp
    rcases hp with z | z | z | z
    · exact h2 p (List.mem_append_left _ z)
    · subst z
      refine ⟨ho, fun q => ?_, ?_⟩
      · have := S.Lh.1; rw [← q] at this; exact Nat.lt_irrefl _ this
      · cases q : c.h0.get? s.heap.objs.size with
        | none => rfl
        | some o' => exact absurd (S.Lh.2 _ _ q) (Nat.lt_irrefl _)
    · exact h2 p (List.mem_append_right _ (List.mem_append_left _ z))
    · exact h2 p (List.mem_append_right _ (List.mem_append_right _ z))
  · show (c.cells ++ (s.heap.objs.size :: (O ++ F).map (·.1))).Nodup
    refine (List.Perm.nodup_iff List.perm_middle).mpr (List.nodup_cons.mpr ⟨fun hm => ?_, h5⟩)
    exact Nat.lt_irrefl _ (S.lt _ hm)

/-! ### ranges -/
abbrev rangeO (a b cc : Int) (t u v : Tok) : Obj := { cls := .type "range", data := .fields #[.int a t, .int b u, .int cc v] }
def RangeRes (O : Led) (a b cc : Int) : VPost := fun pv O1 N1 => ∃ r t u v, pv = .ref r ∧ O1 = O ∧ N1 = [(r, rangeO a b cc t u v)]

theorem bi_range1 {n : Int} {t : Tok} : TV c σ O F (call (.type "range") [.int n t]) (RangeRes O 0 n 1) := by
  intro s Q S k
  have S₀ := S
  obtain ⟨⟨mf, C, h1, h2, h3, h4⟩, h5, h6, h7⟩ := S
  refine wpAny_with_toks (Nat.le_refl _) (range1_rows h1 h2 fun h' tk t₁ u₁ v₁ hr _ _ hk => ?_)
  intro ht
  have S1 := S₀.grown hk hr ht
  exact k (.ref s.heap.objs.size) σ O [(_, rangeO 0 n 1 t₁ u₁ v₁)] h' tk ⟨rfl, .ref _, ⟨_, _, _, _, rfl, rfl, rfl⟩, rfl⟩ (S1.move (by simpa using (List.perm_middle (a := (s.heap.objs.size, rangeO 0 n 1 t₁ u₁ v₁)) (l₁ := O) (l₂ := F)).symm) fun p hp => .tail _ hp) ht
theorem bi_range3 {a b d : Int} {t u v : Tok} (hd : d ≠ 0) (hp : Builtin.divisionGoesByPylong (b - a) d = false) : TV c σ O F (call (.type "range") [.int a t, .int b u, .int d v]) (RangeRes O a b d) := by
  intro s Q S k
  have S₀ := S
  obtain ⟨⟨mf, C, h1, h2, h3, h4⟩, h5, h6, h7⟩ := S
  refine wpAny_with_toks (Nat.le_refl _) (range3_rows h1 h2 hd (fun h' tk t₁ u₁ v₁ hr _ _ hk => ?_) (.inl hp))
  intro ht
  have S1 := S₀.grown hk hr ht
  exact k (.ref s.heap.objs.size) σ O [(_, rangeO a b d t₁ u₁ v₁)] h' tk ⟨rfl, .ref _, ⟨_, _, _, _, rfl, rfl, rfl⟩, rfl⟩ (S1.move (by simpa using (List.perm_middle (a := (s.heap.objs.size, rangeO a b d t₁ u₁ v₁)) (l₁ := O) (l₂ := F)).symm) fun p hp => .tail _ hp) ht

def rangePV (a d : Int) (n : Nat) : List PV := (List.range n).map fun k : Nat => PV.int (a + (k : Int) * d)
theorem rangePV_get {a d : Int} {n k : Nat} (h : k < n) : (rangePV a d n)[k]? = some (.int (a + (k : Int) * d)) := by simp [rangePV, h]
theorem rangePV_len {a d : Int} {n : Nat} : (rangePV a d n).length = n := by simp [rangePV]

theorem it_range {iter : Expr} {a b d : Int} {n : Nat} {I0 : Led → Led → Prop} (h : Ev c σ O F iter (RangeRes O a b d)) (hsm : Builtin.Range.small a b d = true) (hn : Builtin.Range.rangeSize a b d = (n : Int)) (h0 : I0 O []) (H : Own c) :
    Iterates c σ O F iter (rangePV a d n) I0 := by
  intro s Q S k
  refine h s _ S ?_
  rintro v σ1 O1 N1 h1 tk1 ⟨e, pv, ⟨r, t, u, w, rfl, rfl, rfl⟩, iv⟩ S1 ht1
  subst e
  cases iv
  have hg : h1.get? r = some (rangeO a b d t u w) := St.get (s := upd s h1 tk1) S1 (List.mem_append_right _ (.head _))
  refine wpAny_pyIter_range (s := upd s h1 tk1) hg hsm ?_
  have S2 : St c σ1 O1 F (upd s (h1.push { cls := Value.type "range_iterator", data := Data.fields #[rawInt a, rawInt (Builtin.Range.rangeSize a b d), rawInt d] }) tk1) :=
    St.keeps (s := upd s h1 tk1) (S1.shrink H (List.sublist_append_right _ _)) (fun b o e => Heap.get?_push_of_some _ e) (Nat.le_refl _)
  have Wk := Walks.range (prog := G.prog) (w := G.w) c.hhan h1.objs.size a d n
  have el : (rangePV a d n).length = n := rangePV_len
  refine k _ O1 [] _ tk1 h1.objs.size [h1.objs.size] [h1.objs.size] _ _ h0 S2 ⟨rfl, by rw [el]; exact Wk, ?_, fun j v hj hv => ?_, ?_, by simp, ?_, ?_, ?_⟩ ht1
  · show IsRangeIter _ _ _ _ _
    rw [show a + ((0 : Nat) : Int) * d = a by simp, show (n : Int) - ((0 : Nat) : Int) = n by simp, ← hn]
    exact Heap.get?_push_size _ rfl
  · obtain ⟨tt, rfl⟩ := hv
    exact ⟨_, rangePV_get (by rw [← rangePV_len (a := a) (d := d) (n := n)]; exact hj), tt, rfl⟩
  · intro b hb
    rw [Heap.size_push, List.mem_singleton.mp hb]
    exact Nat.lt_succ_self _
  · intro b hb
    rw [List.mem_singleton.mp hb]
    have S3 : St c σ1 O1 F (upd s h1 tk1) := S1.shrink H (List.sublist_append_right _ _)
    refine ⟨fun q => Nat.lt_irrefl _ (S3.lt _ q), fun q => ?_, ?_⟩
    · have := S3.Lh.1; rw [← q] at this; exact Nat.lt_irrefl _ this
    · cases q : c.h0.get? h1.objs.size with
      | none => rfl
      | some o' => exact absurd (S3.Lh.2 _ _ q) (Nat.lt_irrefl _)
  · intro b hb hn
    exact absurd hb hn
  · rintro j h' ho b hb
    rw [List.mem_singleton.mp hb]; exact ⟨_, ho⟩

theorem it_range1 {p pos : Pos} {e : Expr} {n : Nat} {I0 : Led → Led → Prop} (ns : nsIn G.K mainGlobals (Str.ofString "range") = some none) (hx : c.env.kindOf (Str.ofString "range") = some .globalImplicit)
    (he : Evp c σ O F e (.int (n : Int))) (hn : n ≤ 2 ^ 40) (h0 : I0 O []) (H : Own c) (hst : ∀ env, starEach [e] env = [(false, eval e env)] := by intro _; rfl) :
    Iterates c σ O F (.Call (.Name (Str.ofString "range") p) [e] [] pos) (rangePV 0 1 n) I0 := by
  have e : Builtin.Range.rangeSize 0 (n : Int) 1 = n := by
    unfold Builtin.Range.rangeSize
    rw [if_pos (by decide)]
    split <;> omega
  refine it_range (b := (n : Int)) (ev_tcall ns (by boot_fast) hx (ta_consp he (ta_nil fun vals hv => ?_) hst) (he := hst)) ?_ e h0 H
  · obtain ⟨v, rfl, t, rfl⟩ := hv.one
    exact TV.mono bi_range1 fun pv O' N h => by simpa using h
  · unfold Builtin.Range.small Builtin.Range.rangeFitsLong
    rw [e]
    simp only [Bool.and_eq_true, Bool.or_eq_true, decide_eq_true_eq, beq_iff_eq]
    refine ⟨⟨⟨⟨by omega, by omega⟩, by omega⟩, by omega⟩, .inr ?_⟩
    simp only [show (1 : Int) > 0 by decide, if_true, Bool.and_eq_true, decide_eq_true_eq]; omega

theorem All2.of_get {α β : Type} {R : α → β → Prop} : ∀ {as : List α} {bs : List β}, as.length = bs.length → (∀ (i : Nat) a b, as[i]? = some a → bs[i]? = some b → R a b) → All2 R as bs
  | [], [], _, _ => .nil
  | [], _ :: _, h, _ => by simp at h
  | _ :: _, [], h, _ => by simp at h
  | a :: as, b :: bs, h, hr => .cons (hr 0 a b (by simp) (by simp)) (All2.of_get (by simpa using h) fun i x y hx hy => hr (i + 1) x y (by simpa using hx) (by simpa using hy))

theorem all2_range {a d : Int} {acc : Array Value} {n : Nat} (h : ItemsOf (fun i v => ∃ t, v = Value.int (a + (i : Int) * d) t) acc n) : All2 PV.Is (rangePV a d n) acc.toList := by
  refine All2.of_get (by rw [rangePV_len]; simpa using h.1.symm) fun i x y hx hy => ?_
  have hi : i < n := by rw [← rangePV_len (a := a) (d := d) (n := n)]; exact (List.getElem?_eq_some_iff.mp hx).1
  rw [rangePV_get hi] at hx
  cases hx
  obtain ⟨t, rfl⟩ := h.2 i y (by simpa using hy)
  exact ⟨t, rfl⟩

/-- list(range(a, b, d)) -/
theorem ev_listrange {lp rp p pos : Pos} {args : List Expr} {a b d : Int} {n : Nat} {R : VPost} (nl : nsIn G.K mainGlobals (Str.ofString "list") = some none) (hxl : c.env.kindOf (Str.ofString "list") = some .globalImplicit)
    (hr : Ev c σ O F (.Call (.Name (Str.ofString "range") rp) args [] p) (RangeRes O a b d)) (hsm : Builtin.Range.small a b d = true) (hn : Builtin.Range.rangeSize a b d = (n : Int)) (hb : n ≤ 1048576) (H : Own c)
    (h : ∀ l o, ListO (rangePV a d n) o → R (.ref l) ((l, o) :: O) []) :
    Ev c σ O F (.Call (.Name (Str.ofString "list") lp) [.Call (.Name (Str.ofString "range") rp) args [] p] [] pos) R := by
  intro s0 Q0 S0 k0
  refine (ev_tcall (R := fun pv O' N => ∃ l o, pv = .ref l ∧ ListO (rangePV a d n) o ∧ O' = (l, o) :: O) nl (by boot_fast) hxl (ta_cons (TV.mono hr ?_))) s0 Q0 S0 ?_
  · rintro pv O1 N1 ⟨r, t, u, w, rfl, rfl, rfl⟩
    refine ta_nil fun vals hv => ?_
    obtain ⟨v, rfl, e⟩ := hv.one
    cases e
    intro s Q S k
    have hg : s.heap.get? r = some (rangeO a b d t u w) := S.get (List.mem_append_right _ (by simp))
    refine wpAny_with_toks (Nat.le_refl _) (call_list_range c.hhan hg hsm hn (by omega) fun h' tk acc c' hk ho hi => ?_)
    intro ht
    have S1 := S.grown hk ho ht
    refine k (.ref s.heap.objs.size) σ _ [] h' tk ⟨rfl, .ref _, ⟨_, _, rfl, ⟨acc, c', rfl, ?_⟩, rfl⟩, rfl⟩ S1 ht
    exact all2_range hi
  · rintro v σ' O' N hh tk ⟨e, pv, ⟨l, o, e1, e2, e3⟩, iv⟩ S ht
    subst e e3
    exact k0 v _ ((l, o) :: O) [] hh tk ⟨rfl, pv, e1 ▸ h l o e2, iv⟩ (S.shrink H (List.sublist_append_right _ _)) ht

/-! ### taking tuples apart -/
theorem ex_unpack2 (i j : Nat) {x y : Str} {px py tp pos : Pos} {k' : Nat} {e : Expr} {P : FPost}
    (he : Ev c σ O F e fun pv O1 N1 => ∃ t o u v, pv = .ref t ∧ TupO [u, v] o ∧ (t, o) ∈ O1 ++ (N1 ++ F) ∧ P .next ((σ.set i (some u)).set j (some v)) O1 N1)
    (hx : c.names[i]? = some x) (hkx : c.env.kindOf x = some .local) (hy : c.names[j]? = some y) (hky : c.env.kindOf y = some .local) (hL : c.env.locals = c.L) (hi : i < σ.length) (hj : j < σ.length)
    (hs : swapsWithSole [.Tuple [.Name x px, .Name y py] k' tp] e pos.line c.env = pure false := by rfl)
    (hw : swappedStores [.Tuple [.Name x px, .Name y py] k' tp] e c.env = pure none := by rfl) :
    Ex1 c σ O F (.Assign [.Tuple [.Name x px, .Name y py] k' tp] e pos) P := by
  intro s Q S k
  refine Assign_Tuple (he s _ S ?_) hs hw
  rintro v σ1 O1 N1 h1 tk1 ⟨e1, pv, ⟨t, o, u, w, rfl, ht, hm, hP⟩, iv⟩ S1 ht1
  subst e1
  cases iv
  obtain ⟨vs, rfl, ia⟩ := ht
  obtain ⟨a, b, hab, iu, iw⟩ := ia.two
  have hvs : vs = #[a, b] := by apply Array.toList_inj.mp; simpa using hab
  subst hvs
  have hg : h1.get? t = some _ := St.get (s := upd s h1 tk1) S1 hm
  refine assign_Tuple_tuple c.hhan ⟨_, hg, rfl, _, rfl⟩ rfl rfl fun h2 he2 => ?_
  have S2 : St c σ1 O1 (N1 ++ F) (upd s h2 tk1) := St.keeps (s := upd s h1 tk1) S1 (fun b' o' e' => he2 b' o' (Nat.ne_of_lt (Heap.lt_size e')) e') (Nat.le_refl _)
  refine assignInOrder_cons (wpAny_assign_Name (S2.store hx hkx hL iu hi fun h3 S3 => ?_))
  refine assignInOrder_cons (wpAny_assign_Name (S3.store hy hky hL iw (by simpa using hj) fun h4 S4 => ?_))
  exact assignInOrder_nil (k .next _ O1 N1 h4 _ ⟨.next, hP, rfl⟩ S4 (Nat.le_succ_of_le (Nat.le_succ_of_le ht1)))

/-- a, b = (u, v), the stores exchanged -/
theorem ex_swap2 (i j : Nat) {x y : Str} {px py tp vp pos : Pos} {k' k2 : Nat} {e1 e2 : Expr} {u v : PV} {P : FPost} (he1 : Evp c σ O F e1 u) (he2 : Evp c σ O F e2 v)
    (h : P .next ((σ.set j (some v)).set i (some u)) O [])
    (hx : c.names[i]? = some x) (hkx : c.env.kindOf x = some .local) (hy : c.names[j]? = some y) (hky : c.env.kindOf y = some .local) (hL : c.env.locals = c.L) (hi : i < σ.length) (hj : j < σ.length)
    (hstar : ∀ env, starEach [e1, e2] env = [(false, eval e1 env), (false, eval e2 env)] := by intro _; rfl)
    (hstar2 : ∀ env, starEach [e2] env = [(false, eval e2 env)] := by intro _; rfl)
    (hs : swapsWithSole [.Tuple [.Name x px, .Name y py] k' tp] (.Tuple [e1, e2] k2 vp) pos.line c.env = pure false := by rfl)
    (hw : swappedStores [.Tuple [.Name x px, .Name y py] k' tp] (.Tuple [e1, e2] k2 vp) c.env = pure (some [x, y])) :
    Ex1 c σ O F (.Assign [.Tuple [.Name x px, .Name y py] k' tp] (.Tuple [e1, e2] k2 vp) pos) P := by
  intro s Q S k
  have ht : Ev c σ O F (.Tuple [e1, e2] k2 vp) fun pv O1 N1 => ∃ t o, pv = .ref t ∧ TupO [u, v] o ∧ O1 = (t, o) :: O ∧ N1 = [] :=
    ev_tuple (ta_pp he1 (ta_pp he2 ta_np hstar2) fun env => by rw [hstar, hstar2]) (by rw [sizeLine_eq]; simp) fun a o ho => ⟨a, o, rfl, ho, rfl, rfl⟩
  refine Assign_Tuple_swapped (names := [x, y]) (ht s _ S ?_) hs hw
  rintro w σ1 O1 N1 h1 tk1 ⟨q1, pv, ⟨t, o, rfl, htp, rfl, rfl⟩, iv⟩ S1 ht1
  subst q1
  cases iv
  obtain ⟨vs, rfl, ia⟩ := htp
  obtain ⟨a, b, hab, iu, iw⟩ := ia.two
  have hvs : vs = #[a, b] := by apply Array.toList_inj.mp; simpa using hab
  subst hvs
  have hg : h1.get? t = some _ := St.get (s := upd s h1 tk1) S1 (.head _)
  refine unpackItems_tuple (items := #[a, b]) c.hhan ⟨_, hg, rfl, _, rfl⟩ fun h2 he2 => ?_
  have S2 : St c σ1 O F (upd s h2 tk1) := St.keeps (s := upd s h1 tk1) (S1.drop (List.sublist_cons_self _ _)) (fun b' o' e' => he2 b' o' (Nat.ne_of_lt (Heap.lt_size e')) e') (Nat.le_refl _)
  refine assignInOrder_cons (wpAny_bindName (S2.store hy hky hL iw hj fun h3 S3 => ?_))
  refine assignInOrder_cons (wpAny_bindName (S3.store hx hkx hL iu (by simpa using hi) fun h4 S4 => ?_))
  exact assignInOrder_nil (k .next _ O [] h4 _ ⟨.next, h, rfl⟩ S4 (Nat.le_succ_of_le (Nat.le_succ_of_le ht1)))

/-! over Loc -/
section
variable {names : List Str} {scope : Scope}
theorem for_ (H : Loc c names scope) (i : Nat) {x : Str} {px pos : Pos} {iter : Expr} {body : List Stmt} {P : FPost} {items : List PV} (hx : names[i]? = some x)
    (I : Nat → Sto → Led → Led → Prop) (hi : ∀ k σ1 O1 N1, I k σ1 O1 N1 → i < σ1.length)
    (hit : Iterates c σ O F iter items fun O1 N1 => I 0 σ O1 N1)
    (turn : ∀ k pv σ1 O1 N1 F', items[k]? = some pv → I k σ1 O1 N1 → (∀ p ∈ N1 ++ F, p ∈ F') → Ex c (σ1.set i (some pv)) O1 F' body fun pf σ2 O2 N2 => match pf with
        | .next => I (k + 1) σ2 O2 (N2 ++ N1)
        | .cont => I (k + 1) σ2 O2 (N2 ++ N1)
        | .brk => P .next σ2 O2 (N2 ++ N1)
        | .ret v => P (.ret v) σ2 O2 (N2 ++ N1))
    (done : ∀ σ1 O1 N1, I items.length σ1 O1 N1 → P .next σ1 O1 N1)
    (hs : ∀ x, foldedSetIterable iter c.env x = pure x := by intro _; rfl) : Ex1 c σ O F (.For (.Name x px) iter body [] pos) P :=
  ex_for H.own i (H.name hx) (H.kind hx) I hi hit turn done hs
theorem augadd_ (H : Loc c names scope) (i : Nat) {x : Str} {p pos : Pos} {e : Expr} {a b : Int} {P : FPost} (hx : names[i]? = some x) (hv : σ[i]? = some (some (.int a))) (he : Evp c σ O F e (.int b)) (h : P .next (σ.set i (some (.int (a + b)))) O []) :
    Ex1 c σ O F (.AugAssign (.Name x p) .Add e pos) P := ex_aug_add i hv he h (H.name hx) (H.kind hx) H.L
theorem augsub_ (H : Loc c names scope) (i : Nat) {x : Str} {p pos : Pos} {e : Expr} {a b : Int} {P : FPost} (hx : names[i]? = some x) (hv : σ[i]? = some (some (.int a))) (he : Evp c σ O F e (.int b)) (h : P .next (σ.set i (some (.int (a - b)))) O []) :
    Ex1 c σ O F (.AugAssign (.Name x p) .Sub e pos) P := ex_aug_sub i hv he h (H.name hx) (H.kind hx) H.L
theorem asg2_ (H : Loc c names scope) (i j : Nat) {x y : Str} {p q pos : Pos} {e : Expr} {pv : PV} {P : FPost} (hx : names[i]? = some x) (hy : names[j]? = some y) (hi : i < σ.length) (hj : j < σ.length) (he : Evp c σ O F e pv) (h : P .next ((σ.set i (some pv)).set j (some pv)) O []) :
    Ex1 c σ O F (.Assign [.Name x p, .Name y q] e pos) P := ex_asg2 i j he h (H.name hx) (H.kind hx) (H.name hy) (H.kind hy) H.L hi hj
theorem g_ (H : Loc c names scope) {x : Str} {pos : Pos} {v : Value} {pv : PV} (e : nsIn G.K mainGlobals x = some (some v)) (hp : pv.Is v) (hx : scope.names.lookup x = some .globalImplicit) (hd : (x == Str.ofString "__debug__") = false := by decide) :
    Evp c σ O F (.Name x pos) pv := ev_glob e hp (H.glob hx) hd
theorem len_ (H : Loc c names scope) {p pos : Pos} {e : Expr} {x : Str} (ns : nsIn G.K mainGlobals (Str.ofString "len") = some none) (hx : scope.names.lookup (Str.ofString "len") = some .globalImplicit) (he : Evp c σ O F e (.str x)) (h : x.length ≤ 1048576)
    (hst : ∀ env, starEach [e] env = [(false, eval e env)] := by intro _; rfl) :
    Evp c σ O F (.Call (.Name (Str.ofString "len") p) [e] [] pos) (.int x.length) := ev_len ns (H.glob hx) he h hst
theorem min2_ (H : Loc c names scope) {p pos : Pos} {e1 e2 : Expr} {a b : Int} (ns : nsIn G.K mainGlobals (Str.ofString "min") = some none) (hx : scope.names.lookup (Str.ofString "min") = some .globalImplicit)
    (h1 : Evp c σ O F e1 (.int a)) (h2 : Evp c σ O F e2 (.int b))
    (hst : ∀ env, starEach [e1, e2] env = (false, eval e1 env) :: starEach [e2] env := by intro _; rfl) (hst2 : ∀ env, starEach [e2] env = [(false, eval e2 env)] := by intro _; rfl) :
    Evp c σ O F (.Call (.Name (Str.ofString "min") p) [e1, e2] [] pos) (.int (if b < a then b else a)) :=
  ev_bcall ns (by boot_fast) (H.glob hx) (ta_consp h1 (ta_consp h2 (ta_nil fun vals hv => by
    obtain ⟨v, w, rfl, ⟨t, rfl⟩, u, rfl⟩ := hv.two
    exact TV.mono bi_min2 fun pv O' N h => by simpa using h) hst2) hst) (he := hst) (hplain := fun pos env => by rw [hst2]; rfl)
end

/-! steps of a block -/
section
variable {names : List Str} {scope : Scope} {rest : List Stmt} {P : FPost}
theorem s_ret {e : Expr} {pos : Pos} {pv : PV} (he : Evp c σ O F e pv) (h : P (.ret pv) σ O []) : Ex c σ O F (.Return (some e) pos :: rest) P :=
  ex_cons (ex_ret (TV.mono he fun pv' O' N ⟨e1, e2, e3⟩ => by subst e1 e2 e3; exact h))
theorem s_asg (H : Loc c names scope) (i : Nat) {x : Str} {p pos : Pos} {e : Expr} {pv : PV} (hx : names[i]? = some x) (hi : i < σ.length) (he : Evp c σ O F e pv) (k : Ex c (σ.set i (some pv)) O F rest P)
    (hs : swapsWith e (some (.Name x p)) pos.line c.env = pure false := by rfl) : Ex c σ O F (.Assign [.Name x p] e pos :: rest) P :=
  ex_step (asg_ H i hx hi (TV.mono he fun pv' O' N ⟨e1, e2, e3⟩ => by subst e1 e2 e3; exact ⟨rfl, rfl, rfl, rfl⟩) hs) k
theorem s_asg2 (H : Loc c names scope) (i j : Nat) {x y : Str} {p q pos : Pos} {e : Expr} {pv : PV} (hx : names[i]? = some x) (hy : names[j]? = some y) (hi : i < σ.length) (hj : j < σ.length) (he : Evp c σ O F e pv)
    (k : Ex c ((σ.set i (some pv)).set j (some pv)) O F rest P) : Ex c σ O F (.Assign [.Name x p, .Name y q] e pos :: rest) P :=
  ex_step (asg2_ H i j hx hy hi hj he ⟨rfl, rfl, rfl, rfl⟩) k
theorem s_aadd (H : Loc c names scope) (i : Nat) {x : Str} {p pos : Pos} {e : Expr} {a b : Int} (hx : names[i]? = some x) (hv : σ[i]? = some (some (.int a))) (he : Evp c σ O F e (.int b)) (k : Ex c (σ.set i (some (.int (a + b)))) O F rest P) :
    Ex c σ O F (.AugAssign (.Name x p) .Add e pos :: rest) P := ex_step (augadd_ H i hx hv he ⟨rfl, rfl, rfl, rfl⟩) k
theorem s_asub (H : Loc c names scope) (i : Nat) {x : Str} {p pos : Pos} {e : Expr} {a b : Int} (hx : names[i]? = some x) (hv : σ[i]? = some (some (.int a))) (he : Evp c σ O F e (.int b)) (k : Ex c (σ.set i (some (.int (a - b)))) O F rest P) :
    Ex c σ O F (.AugAssign (.Name x p) .Sub e pos :: rest) P := ex_step (augsub_ H i hx hv he ⟨rfl, rfl, rfl, rfl⟩) k
/-- an if without else whose body does not come back -/
theorem s_if {test : Expr} {body : List Stmt} {pos : Pos} {b : Bool} (ht : Tstp c σ O F test b) (h1 : b = true → Ex c σ O F body fun pf σ' O' N => match pf with | .next => False | pf => P pf σ' O' N) (h2 : b = false → Ex c σ O F rest P) :
    Ex c σ O F (.If test body [] pos :: rest) P := by
  refine ex_cons (ex_if ht (fun e => TF.mono (h1 e) fun pf σ' O' N h => ?_) fun e => ex_nil ?_)
  · cases pf with
    | next => exact h.elim
    | brk => exact h
    | cont => exact h
    | ret v => exact h
  · simpa using h2 e
/-- an if without else whose body comes back, purely -/
theorem s_ifp {test : Expr} {body : List Stmt} {pos : Pos} {b : Bool} {σ1 : Sto} (ht : Tstp c σ O F test b) (h1 : b = true → Ex c σ O F body fun pf σ' O' N => pf = .next ∧ σ' = σ1 ∧ O' = O ∧ N = []) (hb : b = false → σ1 = σ) (h2 : Ex c σ1 O F rest P) :
    Ex c σ O F (.If test body [] pos :: rest) P := by
  refine ex_step (ex_if ht (fun e => h1 e) fun e => ex_nil ⟨rfl, (hb e).symm, rfl, rfl⟩) h2
end

/-! texts as lists of signs -/
theorem ts_s {e : Expr} {l : List Nat} (h : Evp c σ O F e (.s l)) (hl : l.length ≤ 1048576)
    (he : ∀ (env : Env) (whole : Sem Value), PySem.isTrue e env whole = (do let v ← whole; standAt e.pos; holding [v] (truthy v)) := by intro _ _; rfl) : Tstp c σ O F e (decide (l ≠ [])) :=
  ts_eq (ts_val h (fun v ⟨t, e⟩ => by subst e; exact tr_str (by rw [mk_length]; exact hl)) he) (by
    rw [mk_length]
    cases l with
    | nil => rfl
    | cons x xs => simp; omega)
theorem ts_and3 {x y z : Expr} {pos : Pos} {b : Bool} (a1 a2 a3 : Bool) (h1 : Tstp c σ O F x a1) (h2 : a1 = true → Tstp c σ O F y a2) (h3 : a1 = true → a2 = true → Tstp c σ O F z a3) (e : (a1 && (a2 && a3)) = b) : Tstp c σ O F (.BoolOp .And [x, y, z] pos) b :=
  ts_bop (by rw [← e, ← Bool.and_true a3]; exact and_cons h1 fun q => and_cons (h2 q) fun q2 => and_cons (h3 q q2) fun _ => and_nil)
theorem ts_or2 {x y : Expr} {pos : Pos} {b : Bool} (a1 a2 : Bool) (h1 : Tstp c σ O F x a1) (h2 : a1 = false → Tstp c σ O F y a2) (e : (a1 || a2) = b) : Tstp c σ O F (.BoolOp .Or [x, y] pos) b :=
  ts_bop (by rw [← e, ← Bool.or_false a2]; exact or_cons h1 fun q => or_cons (h2 q) fun _ => or_nil)

theorem item_ {value slice : Expr} {pos : Pos} {l : List Nat} {i : Nat} (ho : Evp c σ O F value (.s l)) (hi : Evp c σ O F slice (.int (i : Int))) (h : i < l.length) (hl : l.length ≤ 1048576)
    (hs : ∀ o i, subscripted slice false o i = operate [o, i] (getItem o i) := by intro _ _; rfl) : Evp c σ O F (.Subscript value slice pos) (.s [l[i]]) :=
  ev_eq (ev_stritem ho hi (Int.le_trans (Int.neg_nonpos_of_nonneg (Int.natCast_nonneg _)) (Int.natCast_nonneg i)) (by rw [mk_length]; exact Int.ofNat_lt.mpr h) (by rw [mk_length]; exact hl) hs) (by rw [item_pos h])
theorem itemneg_ {value slice : Expr} {pos : Pos} {l : List Nat} {i : Nat} (ho : Evp c σ O F value (.s l)) (hi : Evp c σ O F slice (.int (-((i : Int) + 1)))) (h : i < l.length) (hl : l.length ≤ 1048576)
    (hs : ∀ o i, subscripted slice false o i = operate [o, i] (getItem o i) := by intro _ _; rfl) : Evp c σ O F (.Subscript value slice pos) (.s [l.reverse[i]'(by simpa using h)]) :=
  ev_eq (ev_stritem ho hi (by rw [mk_length]; omega) (by rw [mk_length]; omega) (by rw [mk_length]; exact hl) hs) (by
    congr 1
    have := item_closes_neg (x := mk l) (i := -((i : Int) + 1)) (j := (l.length : Int) - 1 - i) (by omega) (by rw [mk_length]; omega) (by rw [mk_length]; omega)
    rw [eq_of_beq this, List.getElem_reverse]
    have e : ((l.length : Int) - 1 - i).toNat = l.length - 1 - i := by omega
    have h2 : l.length - 1 - i < l.length := by omega
    simp [mk, e, h2])
theorem from_ {value : Expr} {lo : Expr} {p pos : Pos} {l : List Nat} {a : Nat} (ho : Evp c σ O F value (.s l)) (hl : Evp c σ O F lo (.int (a : Int))) (ha : a ≤ l.length) (hx : l.length ≤ 1048576) : Evp c σ O F (.Subscript value (.Slice (some lo) none none p) pos) (.s (l.drop a)) :=
  ev_eq (ev_strslice (some (a : Int)) none ho (part_some hl) part_none (by rw [mk_length]; exact hx)) (by rw [slice_from ha])
theorem to_ {value : Expr} {hi : Expr} {p pos : Pos} {l : List Nat} {a : Nat} (ho : Evp c σ O F value (.s l)) (hl : Evp c σ O F hi (.int (a : Int))) (ha : a ≤ l.length) (hx : l.length ≤ 1048576) : Evp c σ O F (.Subscript value (.Slice none (some hi) none p) pos) (.s (l.take a)) :=
  ev_eq (ev_strslice none (some (a : Int)) ho part_none (part_some hl) (by rw [mk_length]; exact hx)) (by rw [slice_to ha])
theorem mid_ {value : Expr} {lo hi : Expr} {p pos : Pos} {l : List Nat} {a b : Nat} (ho : Evp c σ O F value (.s l)) (hlo : Evp c σ O F lo (.int (a : Int))) (hhi : Evp c σ O F hi (.int (b : Int))) (hab : a ≤ b) (hb : b ≤ l.length) (hx : l.length ≤ 1048576) :
    Evp c σ O F (.Subscript value (.Slice (some lo) (some hi) none p) pos) (.s ((l.drop a).take (b - a))) :=
  ev_eq (ev_strslice (some (a : Int)) (some (b : Int)) ho (part_some hlo) (part_some hhi) (by rw [mk_length]; exact hx)) (by rw [slice_mid hab hb])
/-- value[:post or None] where post is less than nothing, or nothing -/
theorem toneg_ {value x : Expr} {bp np p pos : Pos} {k : Nat} {l : List Nat} {a : Nat} (ho : Evp c σ O F value (.s l)) (hp : Evp c σ O F x (.int (-(a : Int)))) (ha : a ≤ l.length) (hx : l.length ≤ 1048576) :
    Evp c σ O F (.Subscript value (.Slice none (some (.BoolOp .Or [x, .Constant .none k np] bp)) none p) pos) (.s (l.take (l.length - a))) := by
  by_cases h0 : a = 0
  · subst h0
    refine ev_eq (ev_strslice none none ho part_none (part_some (o := none) ?_) (by rw [mk_length]; exact hx)) (by rw [slice_all]; simp)
    exact ev_or2 hp (b := false) (fun v ⟨t, e⟩ => by subst e; exact tr_int) (by simp) fun _ => ev_none
  · refine ev_eq (ev_strslice none (some (-(a : Int))) ho part_none (part_some (o := some (-(a : Int))) ?_) (by rw [mk_length]; exact hx)) (by rw [slice_to_neg ha (by omega)])
    refine ev_or2 hp (b := true) (fun v ⟨t, e⟩ => ?_) (fun _ => ⟨rfl, rfl, rfl⟩) (by simp)
    subst e
    have : ((-(a : Int)) != 0) = true := by simp; omega
    rw [← this]; exact tr_int

/-! loops that freeze nothing -/
section
variable {names : List Str} {scope : Scope} {rest : List Stmt} {P : FPost}
theorem s_while {test : Expr} {body : List Stmt} {pos : Pos} (I : Nat → Sto → Prop) (n₀ : Nat) (h0 : I n₀ σ)
    (turn : ∀ n σ1, I n σ1 → ∃ b, Tstp c σ1 O F test b ∧
      (b = true → Ex c σ1 O F body fun pf σ2 O2 N2 => O2 = O ∧ N2 = [] ∧ match pf with
        | .next => ∃ m, m < n ∧ I m σ2
        | .cont => ∃ m, m < n ∧ I m σ2
        | .brk => Ex c σ2 O F rest P
        | .ret v => P (.ret v) σ2 O []) ∧
      (b = false → Ex c σ1 O F rest P)) : Ex c σ O F (.While test body [] pos :: rest) P := by
  refine ex_cons (ex_while (fun n σ1 O1 N1 => O1 = O ∧ N1 = [] ∧ I n σ1) n₀ ⟨rfl, rfl, h0⟩ ?_)
  rintro n σ1 O1 N1 ⟨rfl, rfl, hI⟩
  obtain ⟨b, ht, h1, h2⟩ := turn n σ1 hI
  refine ⟨b, ht, fun e => TF.mono (h1 e) ?_, fun e => by simpa using h2 e⟩
  rintro pf σ2 O2 N2 ⟨rfl, rfl, h⟩
  cases pf with
  | next => obtain ⟨m, hm, h⟩ := h; exact ⟨m, hm, rfl, rfl, h⟩
  | cont => obtain ⟨m, hm, h⟩ := h; exact ⟨m, hm, rfl, rfl, h⟩
  | brk => simpa using h
  | ret v => exact h
theorem s_for (H : Loc c names scope) (i : Nat) {x : Str} {px pos : Pos} {iter : Expr} {body : List Stmt} {items : List PV} (hx : names[i]? = some x)
    (I : Nat → Sto → Led → Prop) (hi : ∀ k σ1 O1, I k σ1 O1 → i < σ1.length)
    (hit : Iterates c σ O F iter items fun O1 N1 => N1 = [] ∧ I 0 σ O1)
    (turn : ∀ k pv σ1 O1 F', items[k]? = some pv → I k σ1 O1 → (∀ p ∈ F, p ∈ F') → Ex c (σ1.set i (some pv)) O1 F' body fun pf σ2 O2 N2 => N2 = [] ∧ match pf with
        | .next => I (k + 1) σ2 O2
        | .cont => I (k + 1) σ2 O2
        | .brk => Ex c σ2 O2 F rest P
        | .ret v => P (.ret v) σ2 O2 [])
    (done : ∀ σ1 O1, I items.length σ1 O1 → Ex c σ1 O1 F rest P)
    (hs : ∀ x, foldedSetIterable iter c.env x = pure x := by intro _; rfl) : Ex c σ O F (.For (.Name x px) iter body [] pos :: rest) P := by
  refine ex_cons (for_ H i hx (fun k σ1 O1 N1 => N1 = [] ∧ I k σ1 O1) (fun k σ1 O1 N1 h => hi k σ1 O1 h.2) hit ?_ ?_ hs)
  · rintro k pv σ1 O1 N1 F' hk ⟨rfl, hI⟩ hF
    refine TF.mono (turn k pv σ1 O1 F' hk hI hF) ?_
    rintro pf σ2 O2 N2 ⟨rfl, h⟩
    cases pf with
    | next => exact ⟨rfl, h⟩
    | cont => exact ⟨rfl, h⟩
    | brk => simpa using h
    | ret v => exact h
  · rintro σ1 O1 N1 ⟨rfl, hI⟩
    simpa using done σ1 O1 hI
end

theorem TF.drop {t : Sem Flow} {P : FPost} (h : TF c σ O F t fun pf σ' O' N => ∃ O'' : Led, O''.Sublist O' ∧ P pf σ' O'' N) : TF c σ O F t P := by
  intro s Q S k
  refine h s Q S ?_
  rintro fl σ' O' N hh tk ⟨pf, ⟨O'', hs, hp⟩, ip⟩ S' ht
  exact k fl σ' O'' N hh tk ⟨pf, hp, ip⟩ (S'.drop hs) ht

theorem drop_le {α : Type} {l : List α} {n k : Nat} (h : l.length ≤ n) : (l.drop k).length ≤ n := by rw [List.length_drop]; exact Nat.le_trans (Nat.sub_le _ _) h
theorem take_le {α : Type} {l : List α} {n k : Nat} (h : l.length ≤ n) : (l.take k).length ≤ n := by rw [List.length_take]; exact Nat.le_trans (Nat.min_le_right _ _) h
theorem le_mk {l : List Nat} {n : Nat} (h : l.length ≤ n) : (mk l).length ≤ n := by rw [mk_length]; exact h
theorem two_le {a b : List Nat} (n1 n2 : Nat) (ha : a.length ≤ n1) (hb : b.length ≤ n2) (h : n1 + n2 ≤ 1000000 := by decide) : (mk a).length + (mk b).length ≤ sizeLine := by
  rw [mk_length, mk_length]; exact Nat.le_trans (Nat.add_le_add ha hb) (Nat.le_trans h (by rw [sizeLine_eq]; decide))
theorem zk (k : Nat) : (0 : Int) + (k : Int) * 1 = (k : Int) := by rw [Int.mul_one, Int.zero_add]
theorem map_le {α β : Type} {f : α → β} {l : List α} {n m : Nat} (h : l.length ≤ n) (hm : n ≤ m := by decide) : (l.map f).length ≤ m := by rw [List.length_map]; exact Nat.le_trans h hm
theorem lt_of_blt {i n : Nat} (h : Nat.blt i n = true) : i < n := Nat.le_of_ble_eq_true h
/-- what stands behind a block is named -/
theorem Ex.cut {ss : List Stmt} {P : FPost} (h : ∀ P' : FPost, (∀ pf σ' O' N, P pf σ' O' N → P' pf σ' O' N) → Ex c σ O F ss P') : Ex c σ O F ss P := h P fun _ _ _ _ h => h

theorem swapped_names {env : Env} {x y x2 y2 : Str} {px py q1 q2 tp vp : Pos} {k1 k2 : Nat} (hk : env.scope.kind = .function) (hx : env.kindOf x = some .local) (hy : env.kindOf y = some .local) (hl : px.line = py.line) (hne : x ≠ y)
    (h1 : (x2 == Str.ofString "__debug__") = false) :
    swappedStores [.Tuple [.Name x px, .Name y py] k1 tp] (.Tuple [.Name x2 q1, .Name y2 q2] k2 vp) env = pure (some [x, y]) := by
  have e0 : [x, y].eraseDups.length = 2 := by
    simp [List.eraseDups_cons, Ne.symm hne]
  have hb : (env.blockKind != .function) = false := by unfold Env.blockKind; rw [hk]; rfl
  have kx : (env.kindOf x == some NameKind.local) = true := by rw [hx]; rfl
  have ky : (env.kindOf y == some NameKind.local) = true := by rw [hy]; rfl
  have kl : (py.line == px.line) = true := by rw [hl]; exact beq_self_eq_true _
  have kl0 : (px.line == px.line) = true := beq_self_eq_true _
  have hf : [Expr.Name x2 q1, Expr.Name y2 q2].all (foldedForSure 8) = false := rfl
  have hc : [Expr.Name x2 q1, Expr.Name y2 q2].all (constantsAlone 8) = false := by
    show ((x2 == Str.ofString "__debug__") && _) = false
    rw [h1]; rfl
  let f : Expr → Option Str := fun | .Name id pos => if env.kindOf id == some .local && pos.line == px.line then some id else none | _ => none
  have f1 : f (.Name x px) = some x := by
    show (if (env.kindOf x == some .local && px.line == px.line) = true then some x else none) = some x
    rw [kx, kl0]; rfl
  have f2 : f (.Name y py) = some y := by
    show (if (env.kindOf y == some .local && py.line == px.line) = true then some y else none) = some y
    rw [ky, kl]; rfl
  have hn : [Expr.Name x px, Expr.Name y py].filterMap f = [x, y] := (List.filterMap_cons_some f1).trans (congrArg (x :: ·) ((List.filterMap_cons_some f2).trans rfl))
  unfold swappedStores
  dsimp only
  generalize hg : List.filterMap _ [Expr.Name x px, Expr.Name y py] = names
  have hnm : names = [x, y] := by rw [← hg]; exact hn
  clear hg hn
  subst hnm
  rw [hb, hf, hc, e0]
  rfl

/-- a call of a def that hands back a plain value -/
theorem callp_ {names : List Str} {scope : Scope} (H : Loc c names scope) {nm : Str} {f : Addr} {p pos : Pos} {e : Expr} {rest : List Expr} {pvs : List PV} {pv : PV} {d u : Nat} (ns : nsIn G.K mainGlobals nm = some (some (.ref f))) (keep : keepIn G.K (.ref f) = true)
    (hx : scope.names.lookup nm = some .globalImplicit) (ha : TA c σ O F pos (e :: rest) (justA O pvs)) (spec : FnPure G f d u pvs pv) (room : Room c d u)
    (he : ∀ env, starEach (e :: rest) env = (false, eval e env) :: starEach rest env := by intro _; rfl)
    (hplain : ∀ (pos : Pos) env, (backTo pos (starEach rest env)).any (·.1) = false := by intro _ _; rfl)
    (hd : (nm == Str.ofString "__debug__") = false := by decide) : Evp c σ O F (.Call (.Name nm p) (e :: rest) [] pos) pv :=
  ev_call ns keep (H.glob hx) (TG.mono ha fun vs σ' O' N ⟨e1, pvs', ⟨e2, e3, e4⟩, i⟩ => ⟨e1, pvs', by
    subst e2 e3 e4
    exact fun vals hv => TV.mono (spec _ _ c σ _ room (fun _ q => q) vals hv) fun r O2 N2 h => by simpa using h, i⟩) he hplain hd

theorem range_small2 {n : Nat} (h : n ≤ 1000000) : Builtin.Range.small 2 (2 * ((n : Int) + 1)) 2 = true ∧ Builtin.Range.rangeSize 2 (2 * ((n : Int) + 1)) 2 = (n : Int) := by
  have e : Builtin.Range.rangeSize 2 (2 * ((n : Int) + 1)) 2 = (n : Int) := by
    unfold Builtin.Range.rangeSize
    rw [if_pos (by decide)]
    split <;> omega
  refine ⟨?_, e⟩
  unfold Builtin.Range.small Builtin.Range.rangeFitsLong
  rw [e]
  simp only [Bool.and_eq_true, Bool.or_eq_true, decide_eq_true_eq, beq_iff_eq]
  refine ⟨⟨⟨⟨by omega, by omega⟩, by omega⟩, by omega⟩, .inr ?_⟩
  simp only [show (2 : Int) > 0 by decide, if_true, Bool.and_eq_true, decide_eq_true_eq]; omega

section
variable {rest : List Stmt} {P : FPost}
theorem s_iftrue {test : Expr} {body orelse : List Stmt} {pos : Pos} (ht : Tstp c σ O F test true)
    (h : Ex c σ O F body fun pf σ1 O1 N1 => match pf with
      | .next => Ex c σ1 O1 (N1 ++ F) rest fun pf2 σ2 O2 N2 => P pf2 σ2 O2 (N2 ++ N1)
      | pf => P pf σ1 O1 N1) : Ex c σ O F (.If test body orelse pos :: rest) P :=
  ex_cons (ex_if ht (fun _ => h) fun e => by cases e)
theorem s_iffalse {test : Expr} {body : List Stmt} {pos : Pos} (ht : Tstp c σ O F test false) (h : Ex c σ O F rest P) : Ex c σ O F (.If test body [] pos :: rest) P :=
  s_if ht (fun e => by cases e) fun _ => h
theorem s_brk {pos : Pos} (h : P .brk σ O []) : Ex c σ O F (.Break pos :: rest) P := ex_cons (ex_brk h)
end
end
end Mine
end
section
open PySem PySem.W PyProof.Rows PySem.Calls
set_option autoImplicit false
set_option linter.unusedVariables false
namespace Mine
open Builtin.Str

/-- where a pattern stands, from the left, none over another -/
def occS (p : List Nat) : Nat → List Nat → Nat → List Nat
  | _, [], _ => []
  | 0, c :: r, i => if (c :: r).take p.length = p then i :: occS p (p.length - 1) r (i + 1) else occS p 0 r (i + 1)
  | k + 1, _ :: r, i => occS p k r (i + 1)

def replS (p z : List Nat) : Nat → List Nat → List Nat
  | _, [] => []
  | 0, c :: r => if (c :: r).take p.length = p then z ++ replS p z (p.length - 1) r else c :: replS p z 0 r
  | k + 1, _ :: r => replS p z k r

theorem occ_fold (l p : List Nat) (hp : p ≠ []) : ∀ (r : List Nat) (i free : Nat) (acc : Array Nat), l.drop i = r → i + r.length = l.length → acc.size ≤ i →
    (forIn (List.range' i (r.length + 1)) (acc, free) (StrLaws.occBody (mk l) (mk p) (mk l).length ((mk l).length + 1))).run.fst.toList = acc.toList ++ occS p (free - i) r i := by
  intro r
  induction r with
  | nil =>
    intro i free acc hd hl hs
    have hpl : 0 < p.length := List.length_pos_iff.mpr hp
    simp only [List.length_nil, Nat.zero_add]
    rw [List.range'_succ, List.forIn_cons]
    unfold StrLaws.occBody
    have h2 : ¬ (((acc, free).fst.size < (mk l).length + 1 ∧ (acc, free).snd ≤ i) ∧ i + (mk p).length ≤ (mk l).length ∧ True) := by
      rw [mk_length, mk_length]; simp at hl; omega
    rw [if_neg (fun q => h2 ⟨q.1.1, q.1.2, trivial⟩)]
    simp [occS]
  | cons c r ih =>
    intro i free acc hd hl hs
    have hpl : 0 < p.length := List.length_pos_iff.mpr hp
    have hd' : l.drop (i + 1) = r := by rw [← List.drop_drop, hd]; rfl
    have hlen : i + (r.length + 1) = l.length := by simpa using hl
    rw [show (c :: r).length + 1 = (r.length + 1) + 1 by simp, List.range'_succ, List.forIn_cons]
    unfold StrLaws.occBody
    have hsub : subAt (mk l) (mk p) i = decide ((c :: r).take p.length = p) := by
      rw [StrLaws.subAt_eq, mk_cps, mk_cps, mk_length, hd]
      by_cases e : (c :: r).take p.length = p <;> simp [e]
    have tl : ∀ (acc2 : Array Nat) (free2 : Nat), acc2.size ≤ i + 1 → (forIn (List.range' (i + 1) (r.length + 1)) (acc2, free2) (StrLaws.occBody (mk l) (mk p) (mk l).length ((mk l).length + 1))).run.fst.toList = acc2.toList ++ occS p (free2 - (i + 1)) r (i + 1) :=
      fun acc2 free2 h1 => ih (i + 1) free2 acc2 hd' ((Nat.succ_add_eq_add_succ i r.length).trans hlen) h1
    by_cases hfree : free ≤ i
    · rw [Nat.sub_eq_zero_of_le hfree]
      by_cases hm : (c :: r).take p.length = p
      · have hw : p.length ≤ r.length + 1 := by have := congrArg List.length hm; simp at this; omega
        have hcond : (((acc, free).fst.size < (mk l).length + 1 ∧ (acc, free).snd ≤ i) ∧ i + (mk p).length ≤ (mk l).length) ∧ subAt (mk l) (mk p) i = true := by
          rw [mk_length, mk_length, hsub]; simp [hm]; omega
        rw [if_pos hcond]
        have := tl (acc.push i) (i + p.length) (by rw [Array.size_push]; exact Nat.succ_le_succ hs)
        rw [mk_length p]
        show (forIn (List.range' (i + 1) (r.length + 1)) (acc.push i, i + p.length) (StrLaws.occBody (mk l) (mk p) (mk l).length ((mk l).length + 1))).run.fst.toList = _
        rw [this]
        have e2 : occS p 0 (c :: r) i = i :: occS p (p.length - 1) r (i + 1) := by rw [occS, if_pos hm]
        rw [e2, Nat.add_sub_add_left i p.length 1]
        simp
      · have hcond : ¬ ((((acc, free).fst.size < (mk l).length + 1 ∧ (acc, free).snd ≤ i) ∧ i + (mk p).length ≤ (mk l).length) ∧ subAt (mk l) (mk p) i = true) := by
          rw [hsub]; simp [hm]
        rw [if_neg hcond]
        have e2 : occS p 0 (c :: r) i = occS p 0 r (i + 1) := by rw [occS, if_neg hm]
        rw [e2]
        have := tl acc free (Nat.le_succ_of_le hs)
        rw [Nat.sub_eq_zero_of_le (Nat.le_succ_of_le hfree)] at this
        exact this
    · obtain ⟨k, hk⟩ : ∃ k, free = i + (k + 1) := Nat.exists_eq_add_of_lt (Nat.not_le.mp hfree)
      subst hk
      have hcond : ¬ ((((acc, i + (k + 1)).fst.size < (mk l).length + 1 ∧ (acc, i + (k + 1)).snd ≤ i) ∧ i + (mk p).length ≤ (mk l).length) ∧ subAt (mk l) (mk p) i = true) := by
        exact fun q => absurd q.1.1.2 (Nat.not_le.mpr (Nat.lt_add_of_pos_right (Nat.succ_pos k)))
      rw [if_neg hcond]
      have := tl acc (i + (k + 1)) (Nat.le_succ_of_le hs)
      show (forIn (List.range' (i + 1) (r.length + 1)) (acc, i + (k + 1)) (StrLaws.occBody (mk l) (mk p) (mk l).length ((mk l).length + 1))).run.fst.toList = _
      rw [this, Nat.add_sub_cancel_left, show i + (k + 1) - (i + 1) = k from Nat.add_sub_add_left i (k + 1) 1]
      rfl

theorem occ_is (l p : List Nat) (hp : p ≠ []) : occurrences (mk l) (mk p) 0 (mk l).length ((mk l).length + 1) = occS p 0 l 0 := by
  rw [StrLaws.occ_eq]
  have h := occ_fold l p hp l 0 0 #[] rfl (by simp) (by simp)
  rw [show (mk l).length + 1 - 0 = l.length + 1 by rw [mk_length]; rfl]
  simpa using h

def partsR (l : List Nat) (w : Nat) : Nat → List Nat → List (List Nat)
  | a, [] => [(l.drop a).take (l.length - a)]
  | a, c :: cs => (l.drop a).take (c - a) :: partsR l w (c + w) cs

theorem strSub_mk (l : List Nat) (i j : Nat) : strSub (mk l) i j = mk ((l.drop i).take (j - i)) := by
  have := StrLaws.strSub_toList (mk l) i j
  rw [mk_cps] at this
  rw [← mk_toList (strSub (mk l) i j), this]

theorem parts_is (l : List Nat) (w : Nat) (cuts : List Nat) : partsBetween (mk l) cuts w = (partsR l w 0 cuts).map mk := by
  have : ∀ (cuts : List Nat) (a : Nat), ((a :: cuts.map (· + w)).zip (cuts ++ [(mk l).length])).map (fun x => strSub (mk l) x.1 x.2) = (partsR l w a cuts).map mk := by
    intro cuts
    induction cuts with
    | nil => intro a; simp [partsR, strSub_mk, mk_length]
    | cons c cs ih =>
      intro a
      have := ih (c + w)
      simp only [List.map_cons, List.cons_append, List.zip_cons_cons, partsR] at this ⊢
      rw [strSub_mk, this]
  unfold partsBetween
  exact this cuts 0

theorem parts_ne (l : List Nat) (w a : Nat) (cuts : List Nat) : partsR l w a cuts ≠ [] := by cases cuts <;> simp [partsR]

def joinL (z : List Nat) : List (List Nat) → List Nat
  | [] => []
  | [x] => x
  | x :: r => x ++ z ++ joinL z r
theorem join_mk (z : List Nat) : ∀ ps : List (List Nat), Str.join (mk z) (ps.map mk) = mk (joinL z ps)
  | [] => rfl
  | [x] => rfl
  | x :: y :: r => by
    have ih := join_mk z (y :: r)
    show mk x ++ mk z ++ Str.join (mk z) ((y :: r).map mk) = _
    rw [ih, mk_append, mk_append]; rfl
theorem joinL_cons (z x : List Nat) {r : List (List Nat)} (h : r ≠ []) : joinL z (x :: r) = x ++ z ++ joinL z r := by
  cases r with
  | nil => exact absurd rfl h
  | cons y r => rfl

theorem join_parts (l p z : List Nat) (hp : p ≠ []) : ∀ (r : List Nat) (b k a : Nat), l.drop b = r → b + r.length = l.length → k ≤ r.length → ((k = 0 ∧ a ≤ b) ∨ a = b + k) →
    joinL z (partsR l p.length a (occS p k r b)) = (l.drop a).take (b - a) ++ replS p z k r := by
  have hpl : 0 < p.length := List.length_pos_iff.mpr hp
  intro r
  induction r with
  | nil =>
    intro b k a hd hl hk ha
    simp only [List.length_nil, Nat.le_zero_eq] at hk
    subst hk
    have : b = l.length := by simpa using hl
    simp [occS, partsR, joinL, replS, this]
  | cons c r ih =>
    intro b k a hd hl hk ha
    have hd' : l.drop (b + 1) = r := by rw [← List.drop_drop, hd]; rfl
    have hlen : b + (r.length + 1) = l.length := by simpa using hl
    have h1 : b + 1 + r.length = l.length := (Nat.succ_add_eq_add_succ b r.length).trans hlen
    cases k with
    | zero =>
      have hab : a ≤ b := ha.elim (fun h => h.2) fun h => Nat.le_of_eq h
      by_cases hm : (c :: r).take p.length = p
      · have hw : p.length ≤ r.length + 1 := by have := congrArg List.length hm; simp at this; omega
        rw [occS, if_pos hm, replS, if_pos hm, partsR, joinL_cons z _ (parts_ne _ _ _ _)]
        rw [ih (b + 1) (p.length - 1) (b + p.length) hd' h1 (Nat.sub_le_of_le_add hw) (.inr (by rw [Nat.add_assoc, Nat.add_sub_cancel' hpl]))]
        rw [Nat.sub_eq_zero_of_le (Nat.add_le_add_left hpl b)]
        simp
      · rw [occS, if_neg hm, replS, if_neg hm, ih (b + 1) 0 a hd' h1 (Nat.zero_le _) (.inl ⟨rfl, Nat.le_succ_of_le hab⟩)]
        have e : (l.drop a).take (b + 1 - a) = (l.drop a).take (b - a) ++ [c] := by
          have hb : (l.drop a)[b - a]? = some c := by
            rw [List.getElem?_drop, Nat.add_sub_cancel' hab]
            have := congrArg (fun q => q[0]?) hd
            simpa using this
          rw [show b + 1 - a = (b - a) + 1 from Nat.succ_sub hab, List.take_add_one, hb]; rfl
        rw [e]; simp
    | succ k =>
      have hab : a = b + (k + 1) := ha.resolve_left fun h => nomatch h.1
      rw [occS, replS, ih (b + 1) k a hd' h1 (Nat.le_of_succ_le_succ hk) (.inr (hab.trans (Nat.succ_add_eq_add_succ b k).symm))]
      subst hab
      rw [Nat.sub_eq_zero_of_le (Nat.add_le_add_left (Nat.le_add_left 1 k) b), Nat.sub_eq_zero_of_le (Nat.le_add_right b (k + 1))]

theorem repl_none (p z : List Nat) : ∀ (r : List Nat) (b : Nat), occS p 0 r b = [] → replS p z 0 r = r := by
  intro r
  induction r with
  | nil => intro b _; rfl
  | cons c r ih =>
    intro b h
    by_cases hm : (c :: r).take p.length = p
    · rw [occS, if_pos hm] at h; cases h
    · rw [occS, if_neg hm] at h
      rw [replS, if_neg hm, ih _ h]

theorem replace_is (l p z : List Nat) (hp : p ≠ []) : Txt.replace (mk l) (mk p) (mk z) = mk (replS p z 0 l) := by
  have hpl : 0 < p.length := List.length_pos_iff.mpr hp
  unfold Txt.replace
  rw [occ_is l p hp]
  by_cases he : occS p 0 l 0 = []
  · rw [he]
    simp only [List.isEmpty_nil, Bool.true_or, if_true]
    rw [repl_none p z l 0 he]
  · have : ((occS p 0 l 0).isEmpty || (mk p).length == 0 && (mk z).length == 0) = false := by
      rw [mk_length]
      cases h : occS p 0 l 0 with
      | nil => exact absurd h he
      | cons c cs =>
        have : (p.length == 0) = false := by simp; exact hp
        simp [this]
    rw [this]
    simp only [Bool.false_eq_true, if_false]
    rw [StrLaws.glued_eq_join, parts_is, mk_length, join_mk, join_parts l p z hp l 0 0 0 rfl (by simp) (Nat.zero_le _) (.inl ⟨rfl, Nat.le_refl _⟩)]
    simp

end Mine
end
section
open PySem PySem.W PyProof.Rows PySem.Calls
set_option autoImplicit false
set_option linter.unusedVariables false
namespace Mine
section
variable {G : GC} {c : Act G} {σ : Sto} {O F : Led} {s : Shared}

/-- a text made anew: its token is not older than the state -/
def EvFresh (c : Act G) (σ : Sto) (O F : Led) (e : Expr) (y : Str) : Prop :=
  ∀ (s : Shared) (Q : Value → Shared → Prop), St c σ O F s → (∀ t h tk, s.toks ≤ t → t < tk → (∀ b o, s.heap.get? b = some o → h.get? b = some o) → Q (.str y t) (upd s h tk)) → wpAny G.M c.A (eval e c.env) Q NoE s

theorem fresh_const {x : Str} {k : Nat} {pos : Pos} : EvFresh c σ O F (.Constant (.str x) k pos) x :=
  fun s Q S h => fun Γ p hΓ => h s.toks s.heap (s.toks + 1) (Nat.le_refl _) (Nat.lt_succ_self _) fun _ _ e => e

theorem ev_replace {o e1 e2 : Expr} {apos pos : Pos} {x y z : List Nat} (ho : Evp c σ O F o (.s x)) (h1 : EvFresh c σ O F e1 (mk y)) (h2 : EvFresh c σ O F e2 (mk z)) (hy : y ≠ []) (hyz : y ≠ z) (hsz : x.length + (x.length + 1) * z.length ≤ 16777216)
    (hbase : attributeBase o (Str.ofString "replace") c.env (eval o c.env) = eval o c.env := by rfl) (hline : (apos.endLine == pos.line) = true := by rfl)
    (hst : ∀ env, starEach [e1, e2] env = (false, eval e1 env) :: starEach [e2] env := by intro _; rfl) (hst2 : ∀ env, starEach [e2] env = [(false, eval e2 env)] := by intro _; rfl) :
    Evp c σ O F (.Call (.Attribute o (Str.ofString "replace") apos) [e1, e2] [] pos) (.s (replS y z 0 x)) := by
  refine meth_str ho PySem.F.slot_str_replace PySem.F.type_str_replace hbase (by rw [hst, hst2]; rfl) hline fun t => ?_
  refine TG.pure (P := (PV.s (replS y z 0 x)).Is) (fun Q Q' hq s h => wpAny_mono h (fun b s' e => hq b s' e) fun _ _ e => e) (fun Q s h => wp_toks1 Q s h) ?_ fun v i => ⟨rfl, _, ⟨rfl, rfl, rfl⟩, i⟩
  intro s Q S k
  refine callWith_method1 (wpAny_items_cons (h1 s _ S fun t1 hp1 tk1 a1 b1 k1 => ?_) (hst _)) (hst _) (by rw [hst2]; rfl)
  have S1 : St c σ O F (upd s hp1 tk1) := S.keeps k1 (by omega)
  refine wpAny_items_cons (h2 (upd s hp1 tk1) _ S1 fun t2 hp2 tk2 a2 b2 k2 => ?_) (hst2 _)
  refine wpAny_items_nil ?_
  have hpos : 0 < s.toks := S.tk
  have a2' : tk1 ≤ t2 := a2
  have n1 : (t1 : Nat) ≠ 0 := Nat.ne_of_gt (Nat.lt_of_lt_of_le hpos a1)
  have n2 : (t2 : Nat) ≠ 0 := Nat.ne_of_gt (Nat.lt_of_lt_of_le (Nat.lt_of_le_of_lt (Nat.zero_le _) b1) a2')
  have n3 : (t1 : Nat) ≠ t2 := Nat.ne_of_lt (Nat.lt_of_lt_of_le b1 a2')
  refine SC.replace (x := mk x) (y := mk y) (z := mk z) (u := t1) (v := t2) n1 n2 n3 (by rw [mk_eq]; simp [hyz]) (by rw [mk_length, mk_length]; exact hsz) fun t' tk => ?_
  rw [replace_is x y z hy]
  exact k _ hp2 tk ⟨t', rfl⟩ fun b ob e => k2 b ob (k1 b ob e)

end
end Mine
end
section
open PySem PySem.W PyProof.Rows PySem.Calls
set_option autoImplicit false
set_option linter.unusedVariables false
namespace Mine

theorem PV.Is.uniq {p q : PV} {v : Value} (hp : p.Is v) (hq : q.Is v) : p = q := by
  cases p <;> cases q <;> simp only [PV.Is] at hp hq
  all_goals (try (obtain ⟨t, rfl⟩ := hp))
  all_goals (try subst hp)
  all_goals (try (obtain ⟨u, hu⟩ := hq))
  all_goals (first | rfl | (cases hu; rfl) | (cases hq; rfl) | cases hu | cases hq)

/-! ### the names of a comprehension -/
theorem lookup_relabel_glob {env : Env} : ∀ {names : List (Str × NameKind)} {x : Str}, names.lookup x = some .globalImplicit →
    (names.map fun (n, k) => if (k == NameKind.free && env.scope.kind == .function && env.kindOf n == some .cell) then (n, NameKind.cell) else (n, k)).lookup x = some .globalImplicit
  | [], _, h => by simp at h
  | (n, k) :: r, x, h => by
    have ih := @lookup_relabel_glob env r x
    show List.lookup x ((if (k == NameKind.free && env.scope.kind == .function && env.kindOf n == some .cell) = true then (n, NameKind.cell) else (n, k)) :: _) = _
    cases hx : x == n with
    | true =>
      simp only [List.lookup_cons, hx] at h
      cases h
      simp [List.lookup_cons, hx]
    | false =>
      simp only [List.lookup_cons, hx] at h
      by_cases hc : (k == NameKind.free && env.scope.kind == .function && env.kindOf n == some .cell) = true
      · rw [if_pos hc]; simp only [List.lookup_cons, hx]; exact ih h
      · rw [if_neg hc]; simp only [List.lookup_cons, hx]; exact ih h
theorem lookup_relabel_cell {env : Env} (hk : env.scope.kind = .function) : ∀ {names : List (Str × NameKind)} {x : Str}, names.lookup x = some .free → env.kindOf x = some .cell →
    (names.map fun (n, k) => if (k == NameKind.free && env.scope.kind == .function && env.kindOf n == some .cell) then (n, NameKind.cell) else (n, k)).lookup x = some .cell
  | [], _, h, _ => by simp at h
  | (n, k) :: r, x, h, hc => by
    have ih := @lookup_relabel_cell env hk r x
    show List.lookup x ((if (k == NameKind.free && env.scope.kind == .function && env.kindOf n == some .cell) = true then (n, NameKind.cell) else (n, k)) :: _) = _
    cases hx : x == n with
    | true =>
      simp only [List.lookup_cons, hx] at h
      cases h
      have : x = n := eq_of_beq hx
      subst this
      simp [List.lookup_cons, hk, hc]
    | false =>
      simp only [List.lookup_cons, hx] at h
      by_cases hcc : (k == NameKind.free && env.scope.kind == .function && env.kindOf n == some .cell) = true
      · rw [if_pos hcc]; simp only [List.lookup_cons, hx]; exact ih h hc
      · rw [if_neg hcc]; simp only [List.lookup_cons, hx]; exact ih h hc

def freesOf (names : List (Str × NameKind)) : List Str := (names.filter fun p => p.2 == .free).map (·.1)

theorem lookup_const {a : Str → Addr} : ∀ (l : List Str) (x : Str), x ∈ l → (l.map fun n => (n, a n)).lookup x = some (a x)
  | [], _, h => by cases h
  | n :: r, x, h => by
    cases hx : x == n with
    | true => have : x = n := eq_of_beq hx; subst this; simp [List.lookup_cons]
    | false =>
      simp only [List.map_cons, List.lookup_cons, hx]
      refine lookup_const r x ?_
      rcases List.mem_cons.mp h with rfl | h
      · simp at hx
      · exact h

theorem closureFor_some {scope : Scope} {env : Env} (a : Str → Addr) (h : ∀ n ∈ freesOf scope.names, env.cells.lookup n = some (a n)) :
    closureFor scope env = pure ((freesOf scope.names).reverse.map fun n => (n, a n)) := by
  unfold closureFor freesOf at *
  suffices H : ∀ (names : List (Str × NameKind)) (acc : List (Str × Addr)), (∀ n ∈ (names.filter fun p => p.2 == .free).map (·.1), env.cells.lookup n = some (a n)) →
      (forIn names acc fun x r => match x with
        | (name, kind) => if (kind == .free) = true then do let y ← cellOf env name; pure (ForInStep.yield ((name, y) :: r)) else pure (ForInStep.yield r) : Sem (List (Str × Addr)))
        = pure (((names.filter fun p => p.2 == .free).map (·.1)).reverse.map (fun n => (n, a n)) ++ acc) by
    have := H scope.names [] h
    simp only [List.append_nil] at this
    first
      | exact this
      | (simp only [bind_pure_comp] at this ⊢; exact this)
      | (refine Eq.trans ?_ (congrArg (· >>= pure) this); rfl)
  intro names
  induction names with
  | nil => intro acc _; rfl
  | cons p r ih =>
    intro acc hn
    obtain ⟨n, k⟩ := p
    rw [List.forIn_cons]
    by_cases hk : (k == NameKind.free) = true
    · have hl : env.cells.lookup n = some (a n) := hn n (by simp [List.filter_cons, hk])
      have hc : cellOf env n = pure (a n) := by unfold cellOf; rw [hl]
      simp only [hk, if_true, hc, pure_bind]
      rw [ih _ (fun m hm => hn m (by simp only [List.filter_cons, hk, if_true, List.map_cons]; exact .tail _ hm))]
      simp [List.filter_cons, hk]
    · have hk' : (k == NameKind.free) = false := by simpa using hk
      have hfl : ((n, k) :: r).filter (fun p => p.2 == NameKind.free) = r.filter (fun p => p.2 == NameKind.free) := by simp [hk']
      simp only [hk', Bool.false_eq_true, if_false, pure_bind]
      rw [hfl] at hn ⊢
      exact ih acc hn

section
variable {G : GC} {c : Act G} {σ : Sto} {O F : Led} {s : Shared}

/-- the activation of a comprehension's element -/
structure CompAct {G : GC} (c c' : Act G) (names' : List Str) (scope : Scope) : Prop where
  nm : c'.names = names'
  A : c'.A = c.A
  glob : ∀ x, scope.names.lookup x = some .globalImplicit → c'.env.kindOf x = some .globalImplicit
theorem CompAct.room {c' : Act G} {names' : List Str} {scope : Scope} (H : CompAct c c' names' scope) {d u : Nat} (h : Room c d u) : Room c' d u := by
  unfold Room; rw [H.A]; exact h

theorem St.add (S : St c σ O F s) {D : Addr} {o : Obj} (hg : s.heap.get? D = some o) (hn : D ∉ c.cells ++ (O ++ F).map (·.1)) (hL : D ≠ c.L) (h0 : c.h0.get? D = none) : St c σ ((D, o) :: O) F s := by
  obtain ⟨⟨mf, C, h1, h2, h3, h4⟩, h5, h6, h7⟩ := S
  refine ⟨⟨mf, C, h1, fun p hp => ?_, h3, h4⟩, ?_, h6, h7⟩
  · simp only [List.mem_append, List.mem_cons, List.cons_append] at hp
    rcases hp with z | z | z | z
    · exact h2 p (List.mem_append_left _ z)
    · subst z; exact ⟨hg, hL, h0⟩
    · exact h2 p (List.mem_append_right _ (List.mem_append_left _ z))
    · exact h2 p (List.mem_append_right _ (List.mem_append_right _ z))
  · show (c.cells ++ (D :: (O ++ F).map (·.1))).Nodup
    exact (List.Perm.nodup_iff List.perm_middle).mpr (List.nodup_cons.mpr ⟨hn, h5⟩)

/-- everything of the heap that the frame does not keep by itself -/
def restOf (h0 : Heap) (L : Addr) (h : Heap) : Led := wrLed h ((List.range h.objs.size).filter fun b => b != L && (h0.get? b).isNone)
theorem restOf_mem {h0 h : Heap} {L b : Addr} {o : Obj} (hb : h.get? b = some o) (hL : b ≠ L) (h0b : h0.get? b = none) : (b, o) ∈ restOf h0 L h :=
  wrLed_mem.mpr ⟨List.mem_filter.mpr ⟨List.mem_range.mpr (Heap.lt_size hb), by simp [hL, h0b]⟩, hb⟩
theorem restOf_news {h0 h : Heap} {L : Addr} : News h0 L h (restOf h0 L h) := fun p hp => by
  obtain ⟨h1, h2⟩ := wrLed_mem.mp hp
  have := (List.mem_filter.mp h1).2
  simp only [Bool.and_eq_true, bne_iff_ne, ne_eq, Option.isNone_iff_eq_none] at this
  exact ⟨h2, this.1, this.2⟩
theorem restOf_nodup {h0 h : Heap} {L : Addr} : ((restOf h0 L h).map (·.1)).Nodup := (List.nodup_range.sublist List.filter_sublist).sublist wrLed_sub

theorem St.heapOnly (S : St c σ O F s) {s' : Shared} (hh : s'.heap = s.heap) (ht : 0 < s'.toks) : St c σ O F s' := by
  obtain ⟨⟨mf, C, h1, h2, h3, h4⟩, h5, h6, h7⟩ := S
  exact ⟨⟨mf, C, hh ▸ h1, hh ▸ h2, h3, h4⟩, h5, ht, hh ▸ h7⟩

/-- a free name of a comprehension -/
structure FreeAt {G : GC} (c : Act G) (σ : Sto) (scope : Scope) (x : Str) (pv : PV) : Prop where
  cell : c.env.kindOf x = some .cell
  free : scope.names.lookup x = some .free
  at' : ∃ i : Nat, c.names[i]? = some x ∧ σ[i]? = some (some pv)
  mem : x ∈ freesOf scope.names

/-- the element of a comprehension in the world of its own activation -/
theorem comp_elt {elt : Expr} {x : Str} {scope : Scope} {frs : List (Str × PV)} {a : Str → Addr} {s₂ s₃ : Shared} {C : Addr} {m₃ : Str → Option Value} {v : Value} {pv r : PV} {wr : List Addr}
    (S₂ : St c σ O F s₂) (hw : ∀ b ∈ wr, b ∉ c.cells ++ (O ++ F).map (·.1) ∧ b ≠ c.L ∧ c.h0.get? b = none)
    (hcl : ∀ n ∈ freesOf scope.names, c.env.cells.lookup n = some (a n)) (hkind : scope.kind = .function) (hx : scope.names.lookup x = some .local)
    (hfr : ∀ p ∈ frs, FreeAt c σ scope p.1 p.2) (hnd : (x :: frs.map (·.1)).Nodup)
    (helt : ∀ (c' : Act G) (F' : Led), CompAct c c' (x :: frs.map (·.1)) scope → (∀ p ∈ O ++ F, p ∈ F') → Evp c' (some pv :: frs.map fun p => some p.2) [] F' elt r)
    (hC : s₂.heap.objs.size ≤ C) (hn : s₃.heap.Ns C m₃) (hm : m₃ x = some v) (iv : pv.Is v) (hk : ∀ b o, b ∉ wr → s₂.heap.get? b = some o → s₃.heap.get? b = some o) (ht : s₂.toks ≤ s₃.toks) :
    wpAny G.M c.A (eval elt (compEnvC scope ((freesOf scope.names).reverse.map fun n => (n, a n)) C c.env)) (fun y s₄ => r.Is y ∧ Keeps s₃ s₄) NoE s₃ := by
  have S3 : St c σ O F s₃ := (St.past S₂ hw hk ht).heapOnly rfl (Nat.lt_of_lt_of_le S₂.tk ht)
  obtain ⟨⟨mf, C0, h1, h2, h3, h4⟩, h5, h6, h7⟩ := S3
  obtain ⟨oL, eL⟩ : ∃ o, s₃.heap.get? c.L = some o := by obtain ⟨o, _, _, e, _⟩ := h1.ns; exact ⟨o, e⟩
  have hCL : C ≠ c.L := fun e => by have := S₂.Lh.1; rw [← e] at this; exact Nat.lt_irrefl _ (Nat.lt_of_lt_of_le this hC)
  have hC0 : c.h0.get? C = none := by
    cases q : c.h0.get? C with
    | none => rfl
    | some o' => exact absurd (Nat.lt_of_lt_of_le (S₂.Lh.2 _ _ q) hC) (Nat.lt_irrefl _)
  have hkd : (relabel scope c.env).kind = .function := hkind
  let cl := (freesOf scope.names).reverse.map fun n => (n, a n)
  let c' : Act G := { c with env := compEnvC scope cl C c.env, names := x :: frs.map (·.1), cells := [], hek := hkd, hglob := c.hglob, hbi := c.hbi, hnd := hnd, oL := oL }
  have hCA : CompAct c c' (x :: frs.map (·.1)) scope := ⟨rfl, rfl, fun y hy => lookup_relabel_glob hy⟩
  have S' : St c' (some pv :: frs.map fun p => some p.2) [] (restOf c.h0 c.L s₃.heap) s₃ := by
    refine ⟨⟨mf, [], h1, by simpa using restOf_news, rfl, ?_⟩, (restOf_nodup : ((restOf c.h0 c.L s₃.heap).map (·.1)).Nodup), h6, ⟨fun _ => eL, fun a ha => nomatch ha⟩⟩
    intro i y pw hy hv
    cases i with
    | zero =>
      have e1 : x = y := Option.some.inj hy
      have e2 : pv = pw := Option.some.inj (Option.some.inj hv)
      subst e1 e2
      obtain ⟨oC, es, ep, hg, hr⟩ := hn
      refine ⟨v, iv, .comp (lookup_relabel_local hx) oC m₃ (restOf_mem hg hCL hC0) (fun h e => ⟨oC, es, ep, e, hr⟩) hm⟩
    | succ i =>
      have hy' : (frs.map (·.1))[i]? = some y := hy
      rw [List.getElem?_map] at hy'
      obtain ⟨p, hp, rfl⟩ := Option.map_eq_some_iff.mp hy'
      have hv' : (frs.map fun p => some p.2)[i]? = some (some pw) := hv
      rw [List.getElem?_map, hp] at hv'
      have e2 : p.2 = pw := by simpa using hv'
      subst e2
      obtain ⟨f1, f2, ⟨j, hj1, hj2⟩, f3⟩ := hfr p (List.mem_of_getElem? hp)
      obtain ⟨w, iw, Hw⟩ := h4 j p.1 p.2 hj1 hj2
      refine ⟨w, iw, ?_⟩
      cases Hw with
      | loc a1 a2 a3 => rw [f1] at a1; cases a1
      | comp a1 o m a2 a3 a4 => rw [f1] at a1; cases a1
      | cell a1 ad o a2 a3 a4 =>
        rw [hcl _ f3] at a2
        cases a2
        have hN := h2 (a p.1, o) (by
          rcases List.mem_append.mp a3 with q | q
          · exact List.mem_append_left _ q
          · exact List.mem_append_right _ (List.mem_append_right _ q))
        refine .cell (lookup_relabel_cell c.hek f2 f1) (a p.1) o ?_ (restOf_mem hN.1 hN.2.1 hN.2.2) a4
        exact lookup_const _ _ (List.mem_reverse.mpr f3)
  have hsub : ∀ p ∈ O ++ F, p ∈ restOf c.h0 c.L s₃.heap := fun p hp => by
    have := h2 p (List.mem_append_right _ hp)
    exact restOf_mem this.1 this.2.1 this.2.2
  refine helt c' _ hCA hsub s₃ _ S' ?_
  rintro y σ' O' N h tk ⟨rfl, pw, ⟨rfl, rfl, rfl⟩, iy⟩ S4 ht4
  refine ⟨iy, h, tk, rfl, fun b o e => ?_⟩
  have S4' := S4
  obtain ⟨⟨mf4, C4, k1, k2, k3, k4⟩, k5, k6, k7⟩ := S4
  cases q : c.h0.get? b with
  | some o' =>
    have e1 := h1.keep b o' q
    rw [e1] at e; cases e
    exact k1.keep b _ q
  | none =>
    by_cases hb : b = c.L
    · subst hb
      rw [eL] at e; cases e
      exact k7.1 hCL
    · exact (k2 (b, o) (List.mem_append_right _ (by simpa using restOf_mem e hb q))).1

theorem Keeps.rfl' {s : Shared} : Keeps s s := ⟨s.heap, s.toks, rfl, fun _ _ e => e⟩

abbrev CompF (items : List PV) (f : PV → PV) : Value → Value → Prop := fun v y => ∃ pv ∈ items, pv.Is v ∧ (f pv).Is y

theorem comp_all2 {items : List PV} {f : PV → PV} {P : Nat → Value → Prop} (hval : ∀ k v, P k v → ∃ pv, items[k]? = some pv ∧ pv.Is v) {vs : List Value} {ys : List Value} (hlen : vs.length = items.length)
    (hP : ∀ (j : Nat) v, vs[j]? = some v → P j v) (hF : Paired (CompF items f) (vs.filter fun _ => true) ys) : All2 PV.Is (items.map f) ys := by
  have e : vs.filter (fun _ => true) = vs := List.filter_eq_self.mpr fun _ _ => rfl
  rw [e] at hF
  suffices H : ∀ (vs ys : List Value) (its : List PV), vs.length = its.length → (∀ (j : Nat) v pv, vs[j]? = some v → its[j]? = some pv → pv.Is v) → Paired (CompF items f) vs ys → All2 PV.Is (its.map f) ys by
    refine H vs ys items hlen (fun j v pv hv hp => ?_) hF
    obtain ⟨pv', h1, h2⟩ := hval j v (hP j v hv)
    rw [hp] at h1; cases h1; exact h2
  intro vs ys its hl hv hp
  induction hp generalizing its with
  | nil =>
    have : its = [] := List.length_eq_zero_iff.mp hl.symm
    subst this; exact .nil
  | @cons v y l1 l2 h1 h2 ih =>
    cases its with
    | nil => cases hl
    | cons pv its =>
      obtain ⟨pv', _, i1, i2⟩ := h1
      have := hv 0 v pv rfl rfl
      have := PV.Is.uniq this i1
      subst this
      exact .cons i2 (ih its (by simpa using hl) fun j v pv a b => hv (j + 1) v pv (by simpa using a) (by simpa using b))

theorem WalkAt.quiet {h : Heap} {it : Value} {items : List PV} {I : Addr} {fp wr : List Addr} {Pk : Nat → Value → Prop} {Sw : Nat → Heap → Prop} (W : WalkAt c O F h it items I fp wr Pk Sw) :
    Walks G.prog G.w c.A I fp wr items.length (fun k v => k < items.length ∧ Pk k v) Sw where
  sub := W.W.sub
  frame := W.W.frame
  item := fun i s Q E hi st hQ => W.W.item i s Q E hi st fun v h' tk p => hQ v h' tk ⟨hi, p⟩
  done := W.W.done
  self := W.W.self

theorem comp_quiet {elt : Expr} {x : Str} {scope : Scope} {frs : List (Str × PV)} {a : Str → Addr} {items : List PV} (f : PV → PV) {s₂ : Shared} {it : Value} {I : Addr} {fp wr : List Addr} {Pk : Nat → Value → Prop} {Sw : Nat → Heap → Prop}
    (S₂ : St c σ O F s₂) (W : WalkAt c O F s₂.heap it items I fp wr Pk Sw)
    (hcl : ∀ n ∈ freesOf scope.names, c.env.cells.lookup n = some (a n)) (hkind : scope.kind = .function) (hx : scope.names.lookup x = some .local)
    (hfr : ∀ p ∈ frs, FreeAt c σ scope p.1 p.2) (hnd : (x :: frs.map (·.1)).Nodup)
    (helt : ∀ pv ∈ items, ∀ (c' : Act G) (F' : Led), CompAct c c' (x :: frs.map (·.1)) scope → (∀ p ∈ O ++ F, p ∈ F') → Evp c' (some pv :: frs.map fun p => some p.2) [] F' elt (f pv)) :
    QuietOnC G.prog G.w c.A c.env scope ((freesOf scope.names).reverse.map fun n => (n, a n)) x [] elt wr (fun k v => k < items.length ∧ Pk k v) (fun _ => true) (CompF items f) s₂ where
  tests := fun C i v s₃ m₃ E' _ _ _ _ _ _ => wpAny_pure ⟨rfl, Keeps.rfl'⟩
  elt := fun C i v s₃ m₃ E' hC hP _ hn hm hk ht => by
    obtain ⟨pv, h1, h2⟩ := W.val i v hP.1 hP.2
    have hm' := List.mem_of_getElem? h1
    exact wpAny_mono (comp_elt S₂ W.wnew hcl hkind hx hfr hnd (helt pv hm') hC hn hm h2 hk ht) (fun y s₄ q => ⟨⟨pv, hm', h2, q.1⟩, q.2⟩) fun _ _ e => e.elim

/-- the facts of a comprehension's scope -/
structure CompSc (scope : Scope) (x : Str) : Prop where
  cell : ∀ y ∈ scope.names, y.2 ≠ .cell
  kind : scope.kind = .function
  names : ∀ y ∈ scope.names, y.2 = .local → scope.names.lookup y.1 = some .local
  x : scope.names.lookup x = some .local

theorem wp_withtoks {β : Type} {t : Sem β} {M : Model} {A : Around} {Q : β → Shared → Prop} {s : Shared} (h : wpAny M A t (fun b s' => s.toks ≤ s'.toks → Q b s') NoE s) : wpAny M A t Q NoE s :=
  wpAny_with_toks (Nat.le_refl s.toks) (wpAny_mono h (fun _ _ e => e) fun _ _ e => e.elim)

theorem St.fresh (S : St c σ O F s) {D : Addr} (hD : s.heap.get? D = none) : D ∉ c.cells ++ (O ++ F).map (·.1) ∧ D ≠ c.L ∧ c.h0.get? D = none := by
  obtain ⟨⟨mf, C, h1, h2, h3, h4⟩, h5, h6, h7⟩ := S
  refine ⟨fun q => ?_, fun q => ?_, ?_⟩
  · rw [← h3, ← List.map_append] at q
    obtain ⟨p, hp, e⟩ := List.mem_map.mp q
    have := (h2 p hp).1
    rw [e, hD] at this; cases this
  · obtain ⟨o, _, _, e, _⟩ := h1.ns
    rw [← q, hD] at e; cases e
  · cases q : c.h0.get? D with
    | none => rfl
    | some o => have := h1.keep D o q; rw [hD] at this; cases this

theorem ev_comp {elt iter : Expr} {x : Str} {px : Pos} {scope : Scope} {pos : Pos} {items : List PV} {I0 : Led → Led → Prop} (f : PV → PV) (frs : List (Str × PV)) (hsc : CompSc scope x)
    (hit : Iterates c σ O F iter items I0) (hsz : items.length ≤ 1048576)
    (hcl : ∀ n ∈ freesOf scope.names, ∃ a, c.env.cells.lookup n = some a)
    (hfr : ∀ p ∈ frs, FreeAt c σ scope p.1 p.2) (hnd : (x :: frs.map (·.1)).Nodup)
    (helt : ∀ O1 N1, I0 O1 N1 → ∀ pv ∈ items, ∀ (c' : Act G) (F' : Led), CompAct c c' (x :: frs.map (·.1)) scope → (∀ p ∈ O1 ++ (N1 ++ F), p ∈ F') → Evp c' (some pv :: frs.map fun p => some p.2) [] F' elt (f pv))
    {R : VPost} (hR : ∀ O1 N1 a o, I0 O1 N1 → ListO (items.map f) o → R (.ref a) ((a, o) :: O1) N1)
    (hs : ∀ x, foldedSetIterable iter c.env x = pure x := by intro _; rfl) : Ev c σ O F (.ListComp elt [⟨.Name x px, iter, [], 0⟩] scope pos) R := by
  intro s Q S k
  let af : Str → Addr := fun n => ((c.env.cells.lookup n).getD 0)
  have hcl' : ∀ n ∈ freesOf scope.names, c.env.cells.lookup n = some (af n) := fun n hn => by
    obtain ⟨a, e⟩ := hcl n hn
    show _ = some ((c.env.cells.lookup n).getD 0)
    rw [e]; rfl
  refine wp_withtoks (wpAny_ListComp_free (fun _ => true) (CompF items f) (closureFor_some af hcl') hsc.cell hsc.kind hsc.names hsc.x (hit s _ S ?_) hs)
  intro it O1 N1 h tk I fp wr Pk Sw hI S2 W ht
  refine ⟨I, fp, wr, items.length, _, Sw, W.it, W.quiet, by rw [sizeLine_eq]; omega, W.st, W.lt, comp_quiet f S2 W hcl' hsc.kind hsc.x (fun p hp => ?_) hnd (helt O1 N1 hI), ?_⟩
  · exact hfr p hp
  intro D h' tk' ys vs hD hl hpl hlen hP hF hk
  intro htk
  obtain ⟨n, hpl⟩ := hpl
  have ha := comp_all2 (f := f) (fun k v p => W.val k v p.1 p.2) hlen hP hF
  have S3 : St c σ O1 (N1 ++ F) (upd s h' tk') := (St.past S2 W.wnew hk (Nat.le_refl _)).heapOnly (s' := upd s h' tk') rfl (Nat.lt_of_lt_of_le S.tk htk)
  exact k (.ref D) σ ((D, _) :: O1) N1 h' tk' ⟨rfl, _, hR O1 N1 D _ hI ⟨ys, n, rfl, ha⟩, rfl⟩ (S3.add hpl (S2.fresh hD).1 (S2.fresh hD).2.1 (S2.fresh hD).2.2) htk

theorem asg_comp (i : Nat) {elt iter : Expr} {x y : Str} {px py : Pos} {scope : Scope} {pos spos : Pos} {items : List PV} {I0 : Led → Led → Prop} (f : PV → PV) (frs : List (Str × PV)) (hsc : CompSc scope x)
    (hy : c.names[i]? = some y) (hky : c.env.kindOf y = some .local) (hL : c.env.locals = c.L) (hi : i < σ.length)
    (hit : Iterates c σ O F iter items I0) (hsz : items.length ≤ 1048576)
    (hcl : ∀ n ∈ freesOf scope.names, ∃ a, c.env.cells.lookup n = some a)
    (hfr : ∀ p ∈ frs, FreeAt c σ scope p.1 p.2) (hnd : (x :: frs.map (·.1)).Nodup)
    (helt : ∀ O1 N1, I0 O1 N1 → ∀ pv ∈ items, ∀ (c' : Act G) (F' : Led), CompAct c c' (x :: frs.map (·.1)) scope → (∀ p ∈ O1 ++ (N1 ++ F), p ∈ F') → Evp c' (some pv :: frs.map fun p => some p.2) [] F' elt (f pv))
    {P : FPost} (hR : ∀ O1 N1 a o, I0 O1 N1 → ListO (items.map f) o → P .next (σ.set i (some (.ref a))) ((a, o) :: O1) N1)
    (hsw : swapsWith (.ListComp elt [⟨.Name x px, iter, [], 0⟩] scope pos) (some (.Name y py)) spos.line c.env = pure true)
    (hs : ∀ x, foldedSetIterable iter c.env x = pure x := by intro _; rfl) : Ex1 c σ O F (.Assign [.Name y py] (.ListComp elt [⟨.Name x px, iter, [], 0⟩] scope pos) spos) P := by
  intro s Q S k
  let af : Str → Addr := fun n => ((c.env.cells.lookup n).getD 0)
  have hcl' : ∀ n ∈ freesOf scope.names, c.env.cells.lookup n = some (af n) := fun n hn => by
    obtain ⟨a, e⟩ := hcl n hn
    show _ = some ((c.env.cells.lookup n).getD 0)
    rw [e]; rfl
  refine wp_withtoks (wpAny_Assign_ListComp_free (fun _ => true) (CompF items f) hsw (closureFor_some af hcl') hsc.cell hsc.kind hsc.names hsc.x hky (by rw [c.hek]; rfl) (hit s _ S ?_) hs)
  intro it O1 N1 h tk I fp wr Pk Sw hI S2 W ht
  have S2c := S2
  obtain ⟨⟨mf, C, h1, h2, h3, h4⟩, h5, h6, h7⟩ := S2
  have hLw : c.L ∉ wr := fun q => (W.wnew _ q).2.1 rfl
  refine ⟨I, fp, wr, items.length, _, Sw, mf, W.it, W.quiet, by rw [sizeLine_eq]; omega, W.st, W.lt, by rw [hL]; exact hLw, by rw [hL]; exact h1.ns, comp_quiet f S2c W hcl' hsc.kind hsc.x (fun p hp => ?_) hnd (helt O1 N1 hI), ?_⟩
  · exact hfr p hp
  intro D h' tk' ys vs hD hl hpl hlen hP hF hns hk htk
  rw [hL] at hns hk
  obtain ⟨n, hpl⟩ := hpl
  have ha := comp_all2 (f := f) (fun k v p => W.val k v p.1 p.2) hlen hP hF
  have S3 : St c (σ.set i (some (.ref D))) O1 (N1 ++ F) (upd s h' tk') := by
    refine ⟨⟨_, C, ⟨hns, fun b o e => hk b o (fun q => ?_) (fun q => by have := (W.wnew b q).2.2; rw [this] at e; cases e) (h1.keep b o e), h1.above⟩,
      fun p hp => ⟨hk _ _ (h2 p hp).2.1 (fun q => ?_) (h2 p hp).1, (h2 p hp).2⟩, h3, ?_⟩, h5, Nat.lt_of_lt_of_le S.tk htk, ⟨fun q => (q hL).elim, fun a ha => let ⟨o, v, e, d⟩ := h7.2 a ha; ⟨o, v, hk _ _ (cells_at h2 h3 ha).1 (fun q => (W.wnew a q).1 (List.mem_append_left _ ha)) e, d⟩⟩⟩
    · subst q; exact Nat.lt_irrefl _ (Nat.lt_of_lt_of_le (Heap.lt_size e) h1.above)
    · apply (W.wnew _ q).1
      rw [← h3, ← List.map_append]
      exact List.mem_map.mpr ⟨p, hp, rfl⟩
    intro j z pw hz hv
    by_cases e : j = i
    · subst e
      rw [hy] at hz
      cases hz
      rw [List.getElem?_set_self hi] at hv
      cases hv
      exact ⟨.ref D, rfl, .loc hky hL (by simp)⟩
    · have hne := names_ne c.hnd hz hy e
      rw [List.getElem?_set_ne (fun q => e q.symm)] at hv
      obtain ⟨w, iw, H⟩ := h4 j z pw hz hv
      refine ⟨w, iw, ?_⟩
      cases H with
      | loc a1 a2 a3 => exact .loc a1 a2 (by simp [hne, a3])
      | comp a1 o m a2 a3 a4 => exact .comp a1 o m a2 a3 a4
      | cell a1 a o a2 a3 a4 => exact .cell a1 a o a2 a3 a4
  exact k .next _ ((D, _) :: O1) N1 h' tk' ⟨.next, hR O1 N1 D _ hI ⟨ys, n, rfl, ha⟩, rfl⟩ (S3.add hpl (S2c.fresh hD).1 (S2c.fresh hD).2.1 (S2c.fresh hD).2.2) htk
end
end Mine
end
section
open PySem PySem.W PyProof.Rows PySem.Calls
set_option autoImplicit false
set_option linter.unusedVariables false
namespace Mine
section
variable {G : GC} {c : Act G} {σ : Sto} {O F : Led} {s : Shared}

/-! ### names over what every kind of activation knows -/
structure Nms {G : GC} (c : Act G) (names : List Str) (scope : Scope) : Prop where
  nm : c.names = names
  glob : ∀ x, scope.names.lookup x = some .globalImplicit → c.env.kindOf x = some .globalImplicit
theorem CompAct.nms {c' : Act G} {names : List Str} {scope : Scope} (H : CompAct c c' names scope) : Nms c' names scope := ⟨H.nm, H.glob⟩
theorem Loc.nms {names : List Str} {scope : Scope} (H : Loc c names scope) : Nms c names scope := ⟨H.nm, fun _ h => H.glob h⟩

section
variable {names : List Str} {scope : Scope}
theorem nv_ (H : Nms c names scope) (i : Nat) {x : Str} {pos : Pos} {pv : PV} (hx : names[i]? = some x) (hv : σ[i]? = some (some pv)) (hd : (x == Str.ofString "__debug__") = false := by decide) :
    Evp c σ O F (.Name x pos) pv := ev_var i (by rw [H.nm]; exact hx) hv hd
theorem ncall_ (H : Nms c names scope) {nm : Str} {f : Addr} {p pos : Pos} {e : Expr} {rest : List Expr} {pvs : List PV} {pv : PV} {d u : Nat} (ns : nsIn G.K mainGlobals nm = some (some (.ref f))) (keep : keepIn G.K (.ref f) = true)
    (hx : scope.names.lookup nm = some .globalImplicit) (ha : TA c σ O F pos (e :: rest) (justA O pvs)) (spec : FnPure G f d u pvs pv) (room : Room c d u)
    (he : ∀ env, starEach (e :: rest) env = (false, eval e env) :: starEach rest env := by intro _; rfl)
    (hplain : ∀ (pos : Pos) env, (backTo pos (starEach rest env)).any (·.1) = false := by intro _ _; rfl)
    (hd : (nm == Str.ofString "__debug__") = false := by decide) : Evp c σ O F (.Call (.Name nm p) (e :: rest) [] pos) pv :=
  ev_call ns keep (H.glob _ hx) (TG.mono ha fun vs σ' O' N ⟨e1, pvs', ⟨e2, e3, e4⟩, i⟩ => ⟨e1, pvs', by
    subst e2 e3 e4
    exact fun vals hv => TV.mono (spec _ _ c σ _ room (fun _ q => q) vals hv) fun r O2 N2 h => by simpa using h, i⟩) he hplain hd
theorem nord_ (H : Nms c names scope) {p pos : Pos} {e : Expr} {n : Nat} (ns : nsIn G.K mainGlobals (Str.ofString "ord") = some none) (hx : scope.names.lookup (Str.ofString "ord") = some .globalImplicit) (he : Evp c σ O F e (.s [n]))
    (hst : ∀ env, starEach [e] env = [(false, eval e env)] := by intro _; rfl) : Evp c σ O F (.Call (.Name (Str.ofString "ord") p) [e] [] pos) (.int n) :=
  ev_bcall ns (by boot_fast) (H.glob _ hx) (ta_consp he (ta_nil fun vals hv => by
    obtain ⟨v, rfl, t, rfl⟩ := hv.one
    exact TV.mono bi_ord fun pv O' N h => by simpa using h) hst) (he := hst)
theorem nchr_ (H : Nms c names scope) {p pos : Pos} {e : Expr} {n : Nat} (ns : nsIn G.K mainGlobals (Str.ofString "chr") = some none) (hx : scope.names.lookup (Str.ofString "chr") = some .globalImplicit) (he : Evp c σ O F e (.int (n : Int))) (hn : n ≤ 1114111)
    (hst : ∀ env, starEach [e] env = [(false, eval e env)] := by intro _; rfl) : Evp c σ O F (.Call (.Name (Str.ofString "chr") p) [e] [] pos) (.s [n]) :=
  ev_bcall ns (by boot_fast) (H.glob _ hx) (ta_consp he (ta_nil fun vals hv => by
    obtain ⟨v, rfl, t, rfl⟩ := hv.one
    exact TV.mono (bi_chr hn) fun pv O' N ⟨e1, e2, e3⟩ => ⟨e1, e2, by rw [e3]; rfl⟩) hst) (he := hst)
end

/-! ### powers -/
theorem ev_pow {l r : Expr} {pos : Pos} {a b : Int} (hl : Evp c σ O F l (.int a)) (hr : Evp c σ O F r (.int b)) (hb : 0 ≤ b) (hb2 : b ≤ 1000000) (ha : a.natAbs < 2 ^ 64) : Evp c σ O F (.BinOp l .Pow r pos) (.int (a ^ b.toNat)) :=
  ev_bin hl hr fun vl vr ⟨t, e⟩ ⟨u, e'⟩ => by subst e e'; exact TV.pure fun s Q S k => pow_int_small hb hb2 ha (k _ s.heap _ ⟨_, rfl⟩ fun _ _ e => e)

/-! ### the signs of a text -/
theorem it_str {iter : Expr} {l : List Nat} {I0 : Led → Led → Prop} (h : Evp c σ O F iter (.s l)) (h0 : I0 O []) : Iterates c σ O F iter (l.map fun n => PV.s [n]) I0 := by
  intro s Q S k
  refine h s _ S ?_
  rintro v σ1 O1 N1 h1 tk1 ⟨rfl, pv, ⟨rfl, rfl, rfl⟩, t, rfl⟩ S1 ht1
  have hnew : h1.get? h1.objs.size = none := by
    cases q : h1.get? h1.objs.size with
    | none => rfl
    | some o => exact absurd (Heap.lt_size q) (Nat.lt_irrefl _)
  have hlen : (mk l).cps.size = (l.map fun n => PV.s [n]).length := by simp [mk]
  have key : ∀ ty : String, Walks G.prog G.w c.A h1.objs.size [h1.objs.size] [h1.objs.size] (mk l).cps.size (SignAt (mk l)) (fun i h => h.IsStrIter h1.objs.size ty (mk l) t i) →
      Q (.ref h1.objs.size) (upd s (h1.push { cls := .type ty, data := .fields #[.str (mk l) t, .int 0 0] }) tk1) := by
    intro ty Wk
    have S2 : St c σ1 O1 ([] ++ F) (upd s (h1.push { cls := .type ty, data := .fields #[.str (mk l) t, .int 0 0] }) tk1) := St.keeps (s := upd s h1 tk1) S1 (fun b o e => Heap.get?_push_of_some _ e) (Nat.le_refl _)
    rw [hlen] at Wk
    refine k _ O1 [] _ tk1 h1.objs.size [h1.objs.size] [h1.objs.size] _ _ h0 S2 ⟨rfl, Wk, ⟨_, Heap.get?_push_size _ rfl, rfl, rfl⟩, fun j v _ hv => ?_, ?_, by simp, ?_, fun b hb hn => absurd hb hn, ?_⟩ ht1
    · obtain ⟨cp, t', hj, rfl⟩ := hv
      refine ⟨PV.s [cp], ?_, t', rfl⟩
      have : l[j]? = some cp := by simpa [mk] using hj
      simp [this]
    · intro b hb
      rw [List.mem_singleton.mp hb, Heap.size_push]
      exact Nat.lt_succ_self _
    · intro b hb
      rw [List.mem_singleton.mp hb]
      exact S1.fresh (s := upd s h1 tk1) hnew
    · rintro j h' ⟨o, ho, _⟩ b hb
      rw [List.mem_singleton.mp hb]
      exact ⟨o, ho⟩
  cases ha : (mk l).cps.all (· < 128)
  · exact wpAny_pyIter_wide ha (key "str_iterator" (Walks.strWide c.hhan _ _ t))
  · exact wpAny_pyIter_ascii ha (key "str_ascii_iterator" (Walks.strAscii c.hhan _ _ t))

/-! ### sep.join(list) -/
theorem strsAre_of {ps : List (List Nat)} {vs : List Value} (h : All2 PV.Is (ps.map PV.s) vs) : StrsAre vs (ps.map mk) := by
  induction ps generalizing vs with
  | nil => cases h; exact .nil
  | cons p ps ih =>
    cases h with
    | cons h1 h2 => obtain ⟨t, rfl⟩ := h1; exact .cons _ t (ih h2)

theorem ev_join {o e : Expr} {apos pos : Pos} {z : List Nat} {ps : List (List Nat)} {R : VPost} (ho : Evp c σ O F o (.s z))
    (he : Ev c σ O F e fun pv O1 N1 => ∃ a ob, pv = .ref a ∧ (a, ob) ∈ O1 ++ (N1 ++ F) ∧ ListO (ps.map PV.s) ob ∧ R (.s (joinL z ps)) O1 N1)
    (hok : (ps.map (·.length)).sum + ps.length * z.length ≤ 16777216)
    (hbase : attributeBase o (Str.ofString "join") c.env (eval o c.env) = eval o c.env := by rfl) (hline : (apos.endLine == pos.line) = true := by rfl)
    (hst : ∀ env, starEach [e] env = [(false, eval e env)] := by intro _; rfl) :
    Ev c σ O F (.Call (.Attribute o (Str.ofString "join") apos) [e] [] pos) R := by
  refine meth_str ho PySem.F.slot_str_join PySem.F.type_str_join hbase (by rw [hst]; rfl) hline fun t => ?_
  refine TG.of (TA.bindG (R := fun pvs O1 N1 => ∃ a ob, pvs = [.ref a] ∧ (a, ob) ∈ O1 ++ (N1 ++ F) ∧ ListO (ps.map PV.s) ob ∧ R (.s (joinL z ps)) O1 N1) (T2 := fun vs (Q : Value → Shared → Prop) s1 => wpAny G.M c.A (call (.builtin "str.join") ([.str (mk z) t] ++ vs)) Q NoE s1)
    (ta_cons (TV.mono he fun pv O1 N1 ⟨a, ob, e1, e2, e3, e4⟩ => ta_nil ⟨a, ob, by rw [e1], by simpa using e2, e3, by simpa using e4⟩) hst) fun vs pvs O1 N1 ⟨a, ob, e1, e2, e3, e4⟩ i => ?_) fun Q s h => callWith_method1 h (hst _)
  subst e1
  obtain ⟨v, rfl, iv⟩ := i.one
  cases iv
  refine TV.mono (TV.pure fun s Q S k => ?_ : TVp c σ O1 (N1 ++ F) (call (.builtin "str.join") [.str (mk z) t, .ref a]) (.s (joinL z ps))) fun pv O' N ⟨q1, q2, q3⟩ => by subst q1 q2 q3; simpa using e4
  obtain ⟨vs, hl, ia⟩ := S.isList e2 e3
  refine join_list (x := mk z) (ys := ps.map mk) hl (strsAre_of ia) (by simpa [mk_length, Function.comp_def] using hok) fun t' tk => ?_
  have hj : Txt.join (mk z) (ps.map mk) = mk (joinL z ps) := (StrLaws.glued_eq_join _ _).trans (join_mk z ps)
  rw [hj]
  exact k _ s.heap tk ⟨t', rfl⟩ fun _ _ e => e

/-! ### a def with cells -/
structure LocC {G : GC} (c : Act G) (names : List Str) (scope : Scope) : Prop where
  nm : c.names = names
  sc : c.env.scope = scope
  L : c.env.locals = c.L
  cell : ∀ x, scope.names.lookup x = some .cell → ∃ a, c.env.cells.lookup x = some a
  own : Own c
  inj : ∀ x y a, c.env.cells.lookup x = some a → c.env.cells.lookup y = some a → x = y
theorem LocC.kind {names : List Str} {scope : Scope} (H : LocC c names scope) {x : Str} {k : NameKind} (h : scope.names.lookup x = some k) : c.env.kindOf x = some k := by
  unfold Env.kindOf; rw [H.sc]; exact h
theorem LocC.nms {names : List Str} {scope : Scope} (H : LocC c names scope) : Nms c names scope := ⟨H.nm, fun _ h => H.kind h⟩

theorem bindL_out {kd : Str → Option NameKind} : ∀ {names : List Str} {vals : List Value} {m : Str → Option Value} {x : Str}, x ∉ names → bindL kd (names.zip vals) m x = m x
  | [], _, _, _, _ => rfl
  | n :: ns, [], _, _, _ => rfl
  | n :: ns, v :: vs, m, x, h => by
    have h1 : x ≠ n := fun e => h (e ▸ .head _)
    have h2 : x ∉ ns := fun e => h (.tail _ e)
    show bindL kd (ns.zip vs) _ x = _
    rw [bindL_out h2]
    split
    · simp [h1]
    · rfl
theorem bindL_get {kd : Str → Option NameKind} : ∀ {names : List Str} {vals : List Value} {m : Str → Option Value} {i : Nat} {x : Str} {v : Value}, names.Nodup → names[i]? = some x → vals[i]? = some v → kd x = some .local → bindL kd (names.zip vals) m x = some v
  | [], _, _, i, _, _, _, h, _, _ => by simp at h
  | n :: ns, [], _, i, _, _, _, _, h, _ => by simp at h
  | n :: ns, w :: ws, m, 0, x, v, hn, hx, hv, hk => by
    simp at hx hv; subst hx hv
    show bindL kd (ns.zip ws) _ n = _
    rw [bindL_out (List.nodup_cons.mp hn).1, if_pos hk]; simp
  | n :: ns, w :: ws, m, i + 1, x, v, hn, hx, hv, hk => by
    show bindL kd (ns.zip ws) _ x = _
    exact bindL_get (i := i) (List.nodup_cons.mp hn).2 (by simpa using hx) (by simpa using hv) hk
theorem bindC_out {kd : Str → Option NameKind} : ∀ {names : List Str} {vals : List Value} {m : Str → Option Value} {x : Str}, x ∉ names → bindC kd (names.zip vals) m x = m x
  | [], _, _, _, _ => rfl
  | n :: ns, [], _, _, _ => rfl
  | n :: ns, v :: vs, m, x, h => by
    have h1 : x ≠ n := fun e => h (e ▸ .head _)
    have h2 : x ∉ ns := fun e => h (.tail _ e)
    show bindC kd (ns.zip vs) _ x = _
    rw [bindC_out h2]
    split
    · rfl
    · simp [h1]
theorem bindC_get {kd : Str → Option NameKind} : ∀ {names : List Str} {vals : List Value} {m : Str → Option Value} {i : Nat} {x : Str} {v : Value}, names.Nodup → names[i]? = some x → vals[i]? = some v → kd x = some .cell → bindC kd (names.zip vals) m x = some v
  | [], _, _, i, _, _, _, h, _, _ => by simp at h
  | n :: ns, [], _, i, _, _, _, _, h, _ => by simp at h
  | n :: ns, w :: ws, m, 0, x, v, hn, hx, hv, hk => by
    simp at hx hv; subst hx hv
    show bindC kd (ns.zip ws) _ n = _
    rw [bindC_out (List.nodup_cons.mp hn).1, if_neg (by rw [hk]; decide)]; simp
  | n :: ns, w :: ws, m, i + 1, x, v, hn, hx, hv, hk => by
    show bindC kd (ns.zip ws) _ x = _
    exact bindC_get (i := i) (List.nodup_cons.mp hn).2 (by simpa using hx) (by simpa using hv) hk

theorem cellsAre_get {cm : Str → Option Value} {cs : List (Str × Addr)} {cells : Led} (Y : CellsAre cm cs cells) : cells.map (·.1) = cs.map (·.2) ∧ (∀ p ∈ cells, ∃ v, p.2.data = .cell v) ∧ ∀ x a, cs.lookup x = some a → ∃ o, (a, o) ∈ cells ∧ o.data = .cell (cm x) := by
  induction Y with
  | nil => exact ⟨rfl, fun _ h => (nomatch h), fun x a h => by cases h⟩
  | @cons n cc o cs cells h1 h2 ih =>
    refine ⟨by simp [ih.1], fun p hp => ?_, fun x a h => ?_⟩
    · rcases List.mem_cons.mp hp with rfl | hp
      · exact ⟨_, h1⟩
      · exact ih.2.1 p hp
    · rw [List.lookup_cons] at h
      split at h
      · rename_i e
        cases h
        have : x = n := eq_of_beq e
        subst this
        exact ⟨o, .head _, h1⟩
      · obtain ⟨o', h3, h4⟩ := ih.2.2 x a h
        exact ⟨o', .tail _ h3, h4⟩

theorem cellsFrom_addrs : ∀ (names : List (Str × NameKind)) (n : Nat) (acc : List (Str × Addr)), (∀ p ∈ acc, p.2 < n) → (acc.map (·.2)).Nodup →
    ((cellsFrom n names acc).map (·.2)).Nodup ∧ ∀ p ∈ cellsFrom n names acc, p ∈ acc ∨ n ≤ p.2
  | [], n, acc, _, h2 => ⟨h2, fun p hp => .inl hp⟩
  | (x, k) :: r, n, acc, h1, h2 => by
    unfold cellsFrom
    split
    · obtain ⟨a1, a2⟩ := cellsFrom_addrs r (n + 1) ((x, n) :: acc) (fun p hp => by
        rcases List.mem_cons.mp hp with rfl | hp
        · exact Nat.lt_succ_self _
        · exact Nat.lt_succ_of_lt (h1 p hp)) (by
        simp only [List.map_cons, List.nodup_cons]
        refine ⟨fun hm => ?_, h2⟩
        obtain ⟨p, hp, e⟩ := List.mem_map.mp hm
        have := h1 p hp; rw [e] at this; exact Nat.lt_irrefl _ this)
      refine ⟨a1, fun p hp => ?_⟩
      rcases a2 p hp with q | q
      · rcases List.mem_cons.mp q with rfl | q
        · exact .inr (Nat.le_refl _)
        · exact .inl q
      · exact .inr (Nat.le_of_succ_le q)
    · exact cellsFrom_addrs r n acc h1 h2

theorem lookup_mem' {x : Str} {a : Addr} : ∀ {l : List (Str × Addr)}, l.lookup x = some a → (x, a) ∈ l
  | [], h => by cases h
  | (y, b) :: r, h => by
    rw [List.lookup_cons] at h
    split at h
    · rename_i e; cases h; have : x = y := eq_of_beq e; subst this; exact .head _
    · exact .tail _ (lookup_mem' h)
theorem nodup_snd {x y : Str} {a : Addr} : ∀ {l : List (Str × Addr)}, (l.map (·.2)).Nodup → (x, a) ∈ l → (y, a) ∈ l → x = y
  | [], _, h, _ => by cases h
  | (z, b) :: r, hn, h1, h2 => by
    have hn' := List.nodup_cons.mp hn
    rcases List.mem_cons.mp h1 with e1 | q1
    · rcases List.mem_cons.mp h2 with e2 | q2
      · cases e1; cases e2; rfl
      · cases e1; exact (hn'.1 (List.mem_map.mpr ⟨_, q2, rfl⟩)).elim
    · rcases List.mem_cons.mp h2 with e2 | q2
      · cases e2; exact (hn'.1 (List.mem_map.mpr ⟨_, q1, rfl⟩)).elim
      · exact nodup_snd hn'.2 q1 q2

theorem fn_of_bodyC {nm : Str} {f : Addr} {params : Arguments} {body : List Stmt} {scope : Scope} (D : DefAt G nm f params body scope)
    {d u : Nat} {vs : List PV} {R : VPost} (names : List Str)
    (hparams : ∀ (name qual : Str) (doc pm : Value) (an : Option Addr) (cdv ct : Value) (vals : List Value), vals.length = vs.length →
      bindArgs (fnOf name qual params body scope .none .none doc pm an cdv ct) ⟨vals, []⟩ = pure (names.zip vals))
    (hloc : ∀ x ∈ names, scope.names.lookup x = some .local ∨ scope.names.lookup x = some .cell) (hnd : names.Nodup)
    (hco : scope.isCoroutine = false) (hgen : scope.isGenerator = false) (hk : scope.kind = .function) (hcn : ((cellsFrom 0 scope.names []).map (·.1)).Nodup)
    (hlen : vs.length ≤ names.length)
    (hbody : ∀ (c' : Act G) (F' : Led), LocC c' names scope → Room c' d u → (∀ p ∈ F, p ∈ F') →
      Ex c' (vs.map some ++ List.replicate (names.length - vs.length) none) O F' body fun pf σ' O' N => match pf with | .ret pv => R pv O' N | .next => R .none O' N | _ => False) :
    FnSpec G f (d + 1) (u + 3) vs O F R := by
  intro c σ F₁ room hsub vals hv s Q S k
  obtain ⟨oc, od, name, qual, doc, pm, an, cdv, ct, osl, ho, hcd⟩ := D.obj
  have S₀ := S
  obtain ⟨⟨mf, C, h1, h2, h3, h4⟩, h5, h6, h7⟩ := S
  have hlenv : vals.length = vs.length := (hv.length).symm
  have hsome : ∀ (n : Nat) (x : Str), scope.names.lookup x = some .cell → ∃ a, (cellsFrom n scope.names []).lookup x = some a := fun n x hx =>
    Option.isSome_iff_exists.mp (cellsFrom_some scope.names n [] (.inl hx))
  refine wpAny_call (code_defC2 c.B h1 c.X h2 c.T c.hA c.hf c.hk ho hcd (by have := room.1; omega) (BindsTo.of_eq (hparams _ _ _ _ _ _ _ vals hlenv)) (fun n y hy => ?_) hcn ?_ hco hgen hk)
  · rcases hloc _ (List.of_mem_zip hy).1 with q | q
    · exact .inl q
    · obtain ⟨a, e⟩ := hsome n _ q
      exact .inr ⟨q, by rw [e]; rfl⟩
  intro g L' h₁ tk0 cells FG F' N' Y B' X' T' hlt gL htk0
  let env' : Env := envOfC qual scope L' f cdv
  let c' : Act G := { A := c.A.deeper env', fenv := env', env := env', L := L', h0 := g, A0 := c.A, base := c.base, outer := c.fenv :: c.outer, names := names, cells := (cellsFrom (L' + 1) scope.names []).map (·.2), B := B', X := X', T := T',
                      hA := Around.frames_deeper c.hA, hf := rfl, hk := hk, hek := hk, hhan := c.hhan, hglob := rfl, hbi := rfl, hnd := hnd }
  obtain ⟨ca1, ca2⟩ := cellsFrom_addrs scope.names (L' + 1) [] (fun _ h => (nomatch h)) List.nodup_nil
  obtain ⟨y1, y2, y3⟩ := cellsAre_get Y
  have hL : LocC c' names scope := ⟨rfl, rfl, rfl, fun x hx => hsome _ x hx, ⟨rfl, fun x a h => List.mem_map.mpr ⟨(x, a), lookup_mem' h, rfl⟩⟩, fun x y a hx hy => nodup_snd ca1 (lookup_mem' hx) (lookup_mem' hy)⟩
  have room' : Room c' d u := ⟨by show c.A.depth + 1 + d < _; have := room.1; omega, by show c.A.units + 3 + u < _; have := room.2; omega⟩
  have hb := hbody c' (F₁ ++ C) hL room' fun p hp => List.mem_append_left _ (hsub p hp)
  have S' : St c' (vs.map some ++ List.replicate (names.length - vs.length) none) O (F₁ ++ C) ⟨h₁, s.gens, s.drawn, tk0, s.os⟩ := by
    refine ⟨⟨_, cells, F', news_sub N' fun p hp => ?_, y1, ?_⟩, ?_, Nat.lt_of_lt_of_le h6 htk0, ⟨fun q => (q rfl).elim, fun a ha => ?_⟩⟩
    · simp only [List.mem_append] at hp ⊢; grind
    · intro i x pv hx hσ
      have hi : i < vs.length := by
        rcases Nat.lt_or_ge i vs.length with h | h
        · exact h
        · exfalso
          rw [List.getElem?_append_right (by simpa using h)] at hσ
          rw [List.getElem?_replicate] at hσ
          split at hσ <;> cases hσ
      rw [List.getElem?_append_left (by simpa using hi)] at hσ
      obtain ⟨v, hvv, iv⟩ := hv.get (i := i) (a := pv) (by
        rw [List.getElem?_map] at hσ
        cases h : vs[i]? with
        | none => rw [h] at hσ; cases hσ
        | some q => rw [h] at hσ; simp at hσ; rw [hσ])
      rcases hloc x (List.mem_of_getElem? hx) with q | q
      · exact ⟨v, iv, .loc (hL.kind q) rfl (bindL_get hnd hx hvv (hL.kind q))⟩
      · obtain ⟨a, ha⟩ := hL.cell x q
        obtain ⟨o, ho1, ho2⟩ := y3 x a ha
        exact ⟨v, iv, .cell (hL.kind q) a o ha (List.mem_append_left _ ho1) (by rw [ho2, bindC_get hnd hx hvv (hL.kind q)])⟩
    · show ((cellsFrom (L' + 1) scope.names []).map (·.2) ++ List.map Prod.fst (O ++ (F₁ ++ C))).Nodup
      rw [← h3] at h5
      refine List.nodup_append.mpr ⟨ca1, ?_, ?_⟩
      · simp only [List.map_append] at h5 ⊢
        refine (List.Perm.nodup_iff ?_).mp h5
        refine (List.perm_append_comm).trans ?_
        rw [List.append_assoc]
      · intro a ha b hb' e
        subst e
        obtain ⟨p, hp, rfl⟩ := List.mem_map.mp ha
        have q1 : L' + 1 ≤ p.2 := (ca2 p hp).resolve_left (fun h => nomatch h)
        obtain ⟨q, hq, e⟩ := List.mem_map.mp hb'
        have q2 := hlt q (by simp only [List.mem_append] at hq ⊢; grind)
        rw [e] at q2
        exact Nat.lt_irrefl _ (Nat.lt_of_lt_of_le q2 (Nat.le_of_succ_le q1))
    · have ha' : a ∈ cells.map (·.1) := by rw [y1]; exact ha
      obtain ⟨p, hp, rfl⟩ := List.mem_map.mp ha'
      obtain ⟨v, e⟩ := y2 p hp
      exact ⟨p.2, v, (N' p (List.mem_append_left _ hp)).1, e⟩
  refine wpAny_mono (hb _ (fun fl s' => LeaveK c.h0 c.L mf g (fun r s' => match r with | .ok (.ret v) => Q v s' | .ok _ => False | .error e => NoE e s') (match fl with | .ret v => v | _ => .none) s') S' ?_) (fun _ _ h => h) (fun _ _ h => False.elim h)
  rintro fl σ' O' N h' tk ⟨pf, hp, ip⟩ S2 ht2
  obtain ⟨⟨mf', C', a1, a2, a3, a4⟩, a5, a6⟩ := S2
  have a2' : News g L' h' (O' ++ (N ++ (F₁ ++ C))) := fun p hp => a2 p (List.mem_append_right _ hp)
  refine leaveK_ a1 a2' fun q1 q2 => ?_
  have S3 : ∀ pv, R pv O' N → St c σ O' (N ++ F₁) (upd s h' tk) := fun pv _ => by
    refine ⟨⟨mf, C, q1, news_sub q2 fun p hp => ?_, h3, h4.mono fun p hp => List.mem_append_right _ hp⟩, ?_, a6, h7.of (fun _ e => a1.keep _ _ (gL _ e)) fun a ha o e => ?_⟩
    · simp only [List.mem_append] at hp ⊢; grind
    · have a5' : ((cellsFrom (L' + 1) scope.names []).map (·.2) ++ List.map Prod.fst (O' ++ (N ++ (F₁ ++ C)))).Nodup := a5
      have a5'' := (List.nodup_append.mp a5').2.1
      rw [← h3]
      simp only [List.map_append] at a5'' ⊢
      refine (List.Perm.nodup_iff ?_).mp a5''
      have e1 : List.map Prod.fst O' ++ (List.map Prod.fst N ++ (List.map Prod.fst F₁ ++ List.map Prod.fst C)) = (List.map Prod.fst O' ++ (List.map Prod.fst N ++ List.map Prod.fst F₁)) ++ List.map Prod.fst C := by simp only [List.append_assoc]
      rw [e1]
      exact List.perm_append_comm
    · obtain ⟨_, _, o', ho', e'⟩ := cells_at h2 h3 ha
      rw [e] at e'; cases e'
      exact (a2 (a, o) (by simp only [List.mem_append]; grind)).1
  have ht3 : s.toks ≤ tk := Nat.le_trans htk0 ht2
  cases pf with
  | ret pv =>
    obtain ⟨v, rfl, iv⟩ := ip
    exact k v σ O' N h' tk ⟨rfl, pv, hp, iv⟩ (S3 pv hp) ht3
  | next =>
    cases ip
    exact k .none σ O' N h' tk ⟨rfl, .none, hp, rfl⟩ (S3 .none hp) ht3
  | brk => exact hp.elim
  | cont => exact hp.elim

/-! a def without cells -/
theorem cellsFrom_none : ∀ (names : List (Str × NameKind)) (n : Nat) (acc : List (Str × Addr)), (∀ x ∈ names, x.2 ≠ .cell) → cellsFrom n names acc = acc
  | [], _, _, _ => rfl
  | (nm, k) :: r, n, acc, h => by
    have hk : (k == NameKind.cell) = false := by
      have := h (nm, k) (.head _)
      cases k <;> first | rfl | exact absurd rfl this
    rw [cellsFrom, hk]
    exact cellsFrom_none r n acc fun x hx => h x (.tail _ hx)
theorem fn_of_body {nm : Str} {f : Addr} {params : Arguments} {body : List Stmt} {scope : Scope} (D : DefAt G nm f params body scope)
    {d u : Nat} {vs : List PV} {R : VPost} (names : List Str)
    (hparams : ∀ (name qual : Str) (doc pm : Value) (an : Option Addr) (cdv ct : Value) (vals : List Value), vals.length = vs.length →
      bindArgs (fnOf name qual params body scope .none .none doc pm an cdv ct) ⟨vals, []⟩ = pure (names.zip vals))
    (hloc : ∀ x ∈ names, scope.names.lookup x = some .local) (hnd : names.Nodup)
    (hco : scope.isCoroutine = false) (hgen : scope.isGenerator = false) (hk : scope.kind = .function) (hcell : ∀ x ∈ scope.names, x.2 ≠ .cell)
    (hlen : vs.length ≤ names.length)
    (hbody : ∀ (c' : Act G) (F' : Led), Loc c' names scope → Room c' d u → (∀ p ∈ F, p ∈ F') →
      Ex c' (vs.map some ++ List.replicate (names.length - vs.length) none) O F' body fun pf σ' O' N => match pf with | .ret pv => R pv O' N | .next => R .none O' N | _ => False) :
    FnSpec G f (d + 1) (u + 3) vs O F R :=
  fn_of_bodyC D names hparams (fun x hx => .inl (hloc x hx)) hnd hco hgen hk (by rw [cellsFrom_none scope.names 0 [] hcell]; exact List.nodup_nil) hlen
    fun c' F' H room hs => hbody c' F' ⟨H.nm, H.sc, H.L, hloc, H.own⟩ room hs

/-! storing into a cell -/
end
end Mine
end
section
open PySem PySem.W PyProof.Rows PySem.Calls
set_option autoImplicit false
set_option linter.unusedVariables false
namespace Mine
open PySem.SeqAt
open AutoSeq1 (wpAny_loadPart')
open MeetsSeq MeetsSeq2 MeetsSeq3 SeqRoads2

def LtAt (A : Around) (s : Shared) (y x : Value) (b : Bool) : Prop :=
  ∀ (prog : Program) (w : World) (E : Value → Shared → Prop) (Q : Value → Shared → Prop), Q (.bool b) s → wpAny (model prog w) A (richCompare .Lt y x) Q E s

section
variable {A : Around} {s : Shared}
theorem LtAt.int (a b : Int) (t u : Tok) : LtAt A s (.int a t) (.int b u) (decide (a < b)) := fun prog w E Q h => (lt_int h : wpAny (model prog w) A (compareOp .Lt (.int a t) (.int b u)) Q E s)
end

section
variable {prog : Program} {w : World} {A : Around} {R : Result → Shared → Prop} {I : Addr} {fp wr : List Addr} {n : Nat} {P : Nat → Value → Prop} {Sw : Nat → Heap → Prop}

theorem min_loop_at (W : Walks prog w A.in1 I fp wr n P Sw) (bt : Nat → Nat → Bool) (S : Addr) (hSf : S ∉ fp) (H0 : Heap) (hI0 : ∀ b ∈ wr, H0.get? b = none) (hS0 : H0.get? S = none)
    (hcmp : ∀ i j vi vj (s' : Shared), P i vi → P j vj → (∀ b o, H0.get? b = some o → s'.heap.get? b = some o) → LtAt A.in1 s' vi vj (bt i j)) :
    ∀ (k j : Nat) (s : Shared) (vb : Value) (c : Nat), n - (j + 1) = k → j + 1 ≤ n → Sw (j + 1) s.heap → P (argBest bt j) vb → (∀ b o, H0.get? b = some o → s.heap.get? b = some o) →
    s.heap.get? S = some { cls := .type "list", dict := none, data := .seq #[vb, vb] c, slots := #[] } →
    (∀ v h' tk, P (argBest bt (n - 1)) v → (∀ b o, b ∉ wr → b ≠ S → s.heap.get? b = some o → h'.get? b = some o) → R (.ok (.ret v)) { s with heap := h', toks := tk }) →
    codeAny (model prog w) A (.builtin "min.loop" ⟨[.ref I, .none, .ref S], []⟩) R s := by
  have hSw : S ∉ wr := fun h => hSf (W.sub _ h)
  have hname : (toString "min" ++ toString ".loop" : String) = "min.loop" := by decide
  intro k
  induction k with
  | zero =>
    intro j s vb c hk hj hst hPb hold hS hR
    have hin : j + 1 = n := by omega
    refine codeAny_builtin F.entry_min_loop ?_
    rw [Around.under_plainId F.plain_min_loop _]
    show wpAny _ A.in1 (seqItems? (.ref S) >>= _) _ _ s
    refine wpAny_bind (wpAny_seqItems hS rfl ?_)
    show wpAny _ A.in1 (tryCatch (pyNext (.ref I)) _ >>= _) _ _ s
    refine wpAny_bind (wpAny_tryCatch (W.done s _ _ (hin ▸ hst) fun h' tk hk' => ?_))
    have hS' := hk' S _ hSw hS
    show wpAny _ A.in1 (updateSeq S (fun _ => #[]) >>= _) _ _ _
    refine wpAny_bind ?_
    refine wpAny_updateSeq hS' rfl (wpAny_bind (wpAny_letGo (wpAny_pure ?_)))
    refine hR vb _ tk (by rw [← hin]; exact hPb) fun b o hbw hbS e => (Heap.get?_update_other _ _ (Ne.symm hbS)).trans (hk' b o hbw e)
  | succ k ih =>
    intro j s vb c hk hj hst hPb hold hS hR
    have hlt : j + 1 < n := by omega
    refine codeAny_builtin F.entry_min_loop ?_
    rw [Around.under_plainId F.plain_min_loop _]
    show wpAny _ A.in1 (seqItems? (.ref S) >>= _) _ _ s
    refine wpAny_bind (wpAny_seqItems hS rfl ?_)
    show wpAny _ A.in1 (tryCatch (pyNext (.ref I)) _ >>= _) _ _ s
    refine wpAny_bind (wpAny_tryCatch (W.item (j + 1) s _ _ hlt hst fun v h' tk hP hst' hk' => ?_))
    have hS' := hk' S _ hSw hS
    have hold' : ∀ b o, H0.get? b = some o → h'.get? b = some o := fun b o e => hk' b o (fun q => by rw [hI0 b q] at e; cases e) (hold b o e)
    show wpAny _ A.in1 (tryCatch (holding [v, v] (richCompare .Lt v vb >>= _)) _ >>= _) _ _ _
    refine wpAny_bind (wpAny_tryCatch (wpAny_holding (wpAny_bind (hcmp (j + 1) (argBest bt j) v vb ⟨h', s.gens, s.drawn, tk, s.os⟩ hP hPb hold' prog w _ _ ?_))))
    refine wpAny_bind (wpAny_holding (wpAny_truthy_bool ?_))
    refine wpAny_bind (wpAny_letGo (wpAny_pure ?_))
    cases hb : bt (j + 1) (argBest bt j) with
    | true =>
      simp only [if_true]
      refine wpAny_bind ?_
      refine wpAny_updateSeq hS' rfl (wpAny_bind (wpAny_letGo ?_))
      rw [hname]
      refine wpAny_pure ⟨plainId_quiet F.plain_min_loop _, ih (j + 1) _ v _ (by omega) hlt (W.frame _ _ _ hst' fun b hbf o e => ?_) (by simp only [argBest, hb, if_true]; exact hP) (fun b o e => ?_) (Heap.get?_update_self _ hS' rfl)
        fun v' h'' tk'' hP' hk'' => ?_⟩
      · exact (Heap.get?_update_other _ _ (fun h : S = b => hSf (by rw [h]; exact hbf))).trans e
      · exact (Heap.get?_update_other _ _ (fun h : S = b => by rw [← h, hS0] at e; cases e)).trans (hold' b o e)
      · exact hR v' h'' tk'' hP' fun b o hbw hbS e => hk'' b o hbw hbS ((Heap.get?_update_other _ _ (Ne.symm hbS)).trans (hk' b o hbw e))
    | false =>
      simp only [Bool.false_eq_true, if_false]
      refine wpAny_bind (wpAny_letGo ?_)
      rw [hname]
      refine wpAny_pure ⟨plainId_quiet F.plain_min_loop _, ih (j + 1) _ vb c (by omega) hlt hst' (by simp only [argBest, hb, Bool.false_eq_true, if_false]; exact hPb) hold' hS' fun v' h'' tk'' hP' hk'' => ?_⟩
      exact hR v' h'' tk'' hP' fun b o hbw hbS e => hk'' b o hbw hbS (hk' b o hbw e)

theorem min_first_at (W : Walks prog w A.in1 I fp wr n P Sw) (bt : Nat → Nat → Bool) (S : Addr) (hSf : S ∉ fp) (H0 : Heap) (hI0 : ∀ b ∈ wr, H0.get? b = none) (hS0 : H0.get? S = none)
    (hcmp : ∀ i j vi vj (s' : Shared), P i vi → P j vj → (∀ b o, H0.get? b = some o → s'.heap.get? b = some o) → LtAt A.in1 s' vi vj (bt i j)) (hn : 0 < n) {s : Shared} {c : Nat} (hst : Sw 0 s.heap) (hold : ∀ b o, H0.get? b = some o → s.heap.get? b = some o)
    (hS : s.heap.get? S = some { cls := .type "list", dict := none, data := .seq #[] c, slots := #[] })
    (hR : ∀ v h' tk, P (argBest bt (n - 1)) v → (∀ b o, b ∉ wr → b ≠ S → s.heap.get? b = some o → h'.get? b = some o) → R (.ok (.ret v)) { s with heap := h', toks := tk }) :
    codeAny (model prog w) A (.builtin "min.loop" ⟨[.ref I, .none, .ref S], []⟩) R s := by
  have hSw : S ∉ wr := fun h => hSf (W.sub _ h)
  have hname : (toString "min" ++ toString ".loop" : String) = "min.loop" := by decide
  refine codeAny_builtin F.entry_min_loop ?_
  rw [Around.under_plainId F.plain_min_loop _]
  show wpAny _ A.in1 (seqItems? (.ref S) >>= _) _ _ s
  refine wpAny_bind (wpAny_seqItems hS rfl ?_)
  show wpAny _ A.in1 (tryCatch (pyNext (.ref I)) _ >>= _) _ _ s
  refine wpAny_bind (wpAny_tryCatch (W.item 0 s _ _ hn hst fun v h' tk hP hst' hk' => ?_))
  have hS' := hk' S _ hSw hS
  have hold' : ∀ b o, H0.get? b = some o → h'.get? b = some o := fun b o e => hk' b o (fun q => by rw [hI0 b q] at e; cases e) (hold b o e)
  show wpAny _ A.in1 (updateSeq S (fun _ => #[v, v]) >>= _) _ _ _
  refine wpAny_bind ?_
  refine wpAny_updateSeq hS' rfl ?_
  rw [hname]
  refine wpAny_pure ⟨plainId_quiet F.plain_min_loop _, min_loop_at W bt S hSf H0 hI0 hS0 hcmp _ 0 _ v _ rfl hn (W.frame _ _ _ hst' fun b hbf o e => ?_) hP (fun b o e => ?_) (Heap.get?_update_self _ hS' rfl) fun v' h'' tk'' hP' hk'' => ?_⟩
  · exact (Heap.get?_update_other _ _ (fun h : S = b => hSf (by rw [h]; exact hbf))).trans e
  · exact (Heap.get?_update_other _ _ (fun h : S = b => by rw [← h, hS0] at e; cases e)).trans (hold' b o e)
  · exact hR v' h'' tk'' hP' fun b o hbw hbS e => hk'' b o hbw hbS ((Heap.get?_update_other _ _ (Ne.symm hbS)).trans (hk' b o hbw e))
end

theorem call_min_list {prog : Program} {w : World} {A : Around} {E : Value → Shared → Prop} {s : Shared} {l : Addr} {vs : Array Value} (bt : Nat → Nat → Bool) {Q : Value → Shared → Prop} (hh : A.handled = none) (hl : s.heap.IsList l vs) (hn : 0 < vs.size)
    (hcmp : ∀ (i j : Nat) vi vj (s' : Shared), vs[i]? = some vi → vs[j]? = some vj → (∀ b o, s.heap.get? b = some o → s'.heap.get? b = some o) → LtAt A.in1 s' vi vj (bt i j))
    (hQ : ∀ v h' tk, vs[argBest bt (vs.size - 1)]? = some v → (∀ b o, s.heap.get? b = some o → h'.get? b = some o) → Q v { s with heap := h', toks := tk }) :
    wpAny (model prog w) A (call (.builtin "min") [.ref l]) Q E s := by
  have hname : (toString "min" ++ toString ".loop" : String) = "min.loop" := by decide
  refine call_function_tree F.kind_min F.plain_min F.entry_min (F.args_min1 _) ?_
  show wpAny _ A.in1 (Builtin.Builtins.bindParams "min" ["key", "default"] 0 ⟨[], []⟩ >>= _) _ _ s
  refine wpAny_bind (wpAny_of_eq (show Builtin.Builtins.bindParams "min" ["key", "default"] 0 ⟨[], []⟩ = pure [none, none] from rfl) ?_)
  refine wpAny_bind (wpAny_pure ?_)
  refine wpAny_bind (wpAny_pyIter_list hl ?_)
  refine wpAny_bind (wpAny_newObj_type ?_)
  obtain ⟨ol, hol, _⟩ := id hl
  have hlt : l < s.heap.objs.size := Heap.lt_size hol
  have hne : l ≠ s.heap.objs.size := Nat.ne_of_lt hlt
  have W := Walks.list (prog := prog) (w := w) (A := A.in1) hh s.heap.objs.size l hne vs
  have none_at : ∀ b, s.heap.objs.size ≤ b → s.heap.get? b = none := fun b hb => by
    cases q : s.heap.get? b with
    | none => rfl
    | some o => exact absurd (Heap.lt_size q) (Nat.not_lt.mpr hb)
  dsimp only
  generalize hH : s.heap.push { cls := Value.type "list_iterator", dict := none, data := Data.fields #[Value.ref l, Value.int 0 0] } = H1
  have hH1 : H1.objs.size = s.heap.objs.size + 1 := by rw [← hH, Heap.size_push]
  have k1 : ∀ b o, s.heap.get? b = some o → H1.get? b = some o := fun b o e => hH ▸ Heap.get?_push_of_some _ e
  have kI : H1.get? s.heap.objs.size = some { cls := Value.type "list_iterator", dict := none, data := Data.fields #[Value.ref l, Value.int 0 0] } := by rw [← hH]; exact Heap.get?_push_size _ rfl
  have hle : s.heap.objs.size ≤ H1.objs.size := by rw [hH1]; exact Nat.le_succ _
  have hSf : H1.objs.size ∉ [s.heap.objs.size, l] := by
    intro hm
    rcases List.mem_cons.mp hm with q | q
    · rw [hH1] at q; exact Nat.succ_ne_self _ q
    · have := List.mem_singleton.mp q
      rw [← this] at hlt
      exact Nat.lt_irrefl _ (Nat.lt_of_lt_of_le hlt hle)
  rw [hname]
  refine wpAny_pure ⟨plainId_quiet F.plain_min_loop _, min_first_at W bt H1.objs.size hSf s.heap (fun b hb => none_at b (Nat.le_of_eq (List.mem_singleton.mp hb).symm)) (none_at _ hle) hcmp hn
    ⟨⟨_, Heap.get?_push_of_some _ kI, rfl, rfl⟩, hl.at fun o e => Heap.get?_push_of_some _ (k1 _ _ e)⟩ (fun b o e => Heap.get?_push_of_some _ (k1 _ _ e)) (Heap.get?_push_size _ rfl) fun v h' tk hP hk => ?_⟩
  refine hQ v h' tk hP fun b o e => hk b o ?_ ?_ (Heap.get?_push_of_some _ (k1 _ _ e))
  · intro q
    have := Heap.lt_size e
    rw [List.mem_singleton.mp q] at this
    exact Nat.lt_irrefl _ this
  · intro q
    have := Heap.lt_size e
    rw [q] at this
    exact Nat.lt_irrefl _ (Nat.lt_of_lt_of_le this hle)
end Mine
end
section
open PySem PySem.W PyProof.Rows PySem.Calls
set_option autoImplicit false
set_option linter.unusedVariables false
namespace Mine

theorem slice_clip {l : List Nat} {a b : Nat} (hab : a ≤ b) (ha : a ≤ l.length) : Txt.slice (mk l) (some (a : Int)) (some (b : Int)) = mk ((l.drop a).take (b - a)) := by
  by_cases hb : b ≤ l.length
  · exact slice_mid hab hb
  · have e : Txt.slice (mk l) (some (a : Int)) (some (b : Int)) = Txt.slice (mk l) (some (a : Int)) (some (l.length : Int)) := by
      rw [slice_eq, slice_eq]
      have e1 : Builtin.Str.strSliceIndices (some (a : Int)) (some (b : Int)) 1 (mk l).length = Builtin.Str.strSliceIndices (some (a : Int)) (some (l.length : Int)) 1 (mk l).length := by
        simp only [Builtin.Str.strSliceIndices, mk_length]
        have n1 : ¬ ((b : Int) < 0) := Int.not_lt.mpr (Int.natCast_nonneg b)
        have n2 : ¬ ((l.length : Int) < 0) := Int.not_lt.mpr (Int.natCast_nonneg _)
        have e2 : max (0 : Int) (min (b : Int) (l.length : Int)) = max (0 : Int) (min (l.length : Int) (l.length : Int)) := by rw [Int.min_eq_right (Int.ofNat_le.mpr (Nat.le_of_not_le hb)), Int.min_self]
        simp [n1, n2, e2]
      unfold StrLaws.sliceText
      rw [e1]
    rw [e, slice_mid ha (Nat.le_refl _), List.take_of_length_le (by simp), List.take_of_length_le (by rw [List.length_drop]; exact Nat.sub_le_sub_right (Nat.le_of_not_le hb) a)]

section
variable {G : GC} {c : Act G} {σ : Sto} {O F : Led} {s : Shared}

theorem clip_ {value : Expr} {lo hi : Expr} {p pos : Pos} {l : List Nat} {a b : Nat} (ho : Evp c σ O F value (.s l)) (hlo : Evp c σ O F lo (.int (a : Int))) (hhi : Evp c σ O F hi (.int (b : Int))) (hab : a ≤ b) (ha : a ≤ l.length) (hx : l.length ≤ 1048576) :
    Evp c σ O F (.Subscript value (.Slice (some lo) (some hi) none p) pos) (.s ((l.drop a).take (b - a))) :=
  ev_eq (ev_strslice (some (a : Int)) (some (b : Int)) ho (part_some hlo) (part_some hhi) (by rw [mk_length]; exact hx)) (by rw [slice_clip hab ha])

theorem TV.dropN (H : Own c) {t : Sem Value} {R : VPost} (h : TV c σ O F t fun pv O' N => R pv O' []) : TV c σ O F t R := by
  intro s Q S k
  refine h s Q S ?_
  rintro v σ' O' N hh tk ⟨e, pv, hp, ip⟩ S' ht
  exact k v σ' O' [] hh tk ⟨e, pv, hp, ip⟩ (S'.shrink H (List.sublist_append_right _ _)) ht
theorem TV.drop {t : Sem Value} {R : VPost} (h : TV c σ O F t fun pv O' N => ∃ O'' : Led, O''.Sublist O' ∧ R pv O'' N) : TV c σ O F t R := by
  intro s Q S k
  refine h s Q S ?_
  rintro v σ' O' N hh tk ⟨e, pv, ⟨O'', hs, hp⟩, ip⟩ S' ht
  exact k v σ' O'' N hh tk ⟨e, pv, hp, ip⟩ (S'.drop hs) ht

/-- [e], e any expression -/
theorem ev_list1 {e : Expr} {pos : Pos} {R : VPost} (he : Ev c σ O F e fun pv O1 N1 => ∀ a o, ListO [pv] o → R (.ref a) ((a, o) :: O1) N1)
    (hst : ∀ env, starEach [e] env = [(false, eval e env)] := by intro _; rfl) : Ev c σ O F (.List [e] pos) R :=
  TG.of (TA.bindG (R := fun pvs O1 N1 => ∃ pv, pvs = [pv] ∧ ∀ a o, ListO [pv] o → R (.ref a) ((a, o) :: O1) N1) (T2 := fun vs Q s => wpAny G.M c.A (newList vs) Q NoE s)
    (ta_cons (TV.mono he fun pv O1 N1 h => ta_nil ⟨pv, rfl, by simpa using h⟩) hst) fun vs pvs O1 N1 ⟨pv, e1, hR⟩ i => by
    subst e1
    exact TG.mono (new_list i (by rw [← i.length]; simp [sizeLine_eq])) fun v σ' O' N ⟨e, pv', ⟨a, o, e1, e2, e3, e4⟩, iv⟩ => ⟨e, pv', by subst e1 e3 e4; exact hR a o e2, iv⟩) fun Q s h => List_ h

/-- list + list -/
theorem op_addlist {a b : Addr} {oa ob : Obj} {xs ys : List PV} (ma : (a, oa) ∈ O ++ F) (mb : (b, ob) ∈ O ++ F) (ha : ListO xs oa) (hb : ListO ys ob) (hsz : xs.length + ys.length ≤ 1048576) :
    TV c σ O F (binaryOp .Add (.ref a) (.ref b)) fun pv O1 N1 => ∃ d od, pv = .ref d ∧ ListO (xs ++ ys) od ∧ O1 = (d, od) :: O ∧ N1 = [] := by
  intro s Q S k
  have ga := S.get ma
  have gb := S.get mb
  obtain ⟨vs, n, rfl, ia⟩ := ha
  obtain ⟨ws, n2, rfl, ib⟩ := hb
  have e1 : vs.size = xs.length := by rw [ia.length]; simp
  have e2 : ws.size = ys.length := by rw [ib.length]; simp
  refine concat_meets ⟨_, ga, rfl⟩ ⟨_, gb, rfl⟩ noFill_list_add seq_list_add PySem.F.slot_list_add PySem.F.entry_list_add (PySem.F.args_list_add_2 _ _) (list_addW a b vs ws n n2 none none #[] #[] (by first | exact leSL (by assumption) | (rw [sizeLine_eq]; omega))) ⟨ga, gb, ?_⟩
  exact k (.ref s.heap.objs.size) σ ((s.heap.objs.size, _) :: O) [] _ s.toks ⟨rfl, _, ⟨_, _, rfl, ⟨vs ++ ws, 0, rfl, by simpa using ia.append ib⟩, rfl, rfl⟩, rfl⟩ (S.push rfl) (Nat.le_refl _)
theorem ev_addlist {l r : Expr} {pos : Pos} {R : VPost}
    (hl : Ev c σ O F l fun pl O1 N1 => Ev c σ O1 (N1 ++ F) r fun pr O2 N2 => ∃ a oa b ob xs ys, pl = .ref a ∧ pr = .ref b ∧ (a, oa) ∈ O2 ++ (N2 ++ (N1 ++ F)) ∧ (b, ob) ∈ O2 ++ (N2 ++ (N1 ++ F)) ∧ ListO xs oa ∧ ListO ys ob ∧ xs.length + ys.length ≤ 1048576 ∧
      ∀ d od, ListO (xs ++ ys) od → R (.ref d) ((d, od) :: O2) (N2 ++ N1)) : Ev c σ O F (.BinOp l .Add r pos) R :=
  TG.of (TV.bindG (T2 := fun vl (Q : Value → Shared → Prop) s1 => wpAny G.M c.A (eval r c.env) (fun vr s2 => wpAny G.M c.A (binaryOp .Add vl vr) Q NoE s2) NoE s1) hl fun vl pl O1 N1 h il =>
    TV.bindG (T2 := fun vr (Q : Value → Shared → Prop) s2 => wpAny G.M c.A (binaryOp .Add vl vr) Q NoE s2) h fun vr pr O2 N2 hh ir => by
      obtain ⟨a, oa, b, ob, xs, ys, e1, e2, ma, mb, ha, hb, hsz, hR⟩ := hh
      subst e1 e2
      cases il; cases ir
      exact TV.mono (op_addlist ma mb ha hb hsz) fun pv O3 N3 ⟨d, od, e1, e2, e3, e4⟩ => by subst e1 e3 e4; simpa using hR d od e2) fun Q s h => wpAny_BinOp h

/-- xs.append(e), e any expression -/
theorem ev_append2 {lo e : Expr} {apos pos : Pos} {a : Addr} {o : Obj} {xs : List PV} {R : VPost} (hlo : Evp c σ ((a, o) :: O) F lo (.ref a))
    (he : Ev c σ ((a, o) :: O) F e fun pv O1 N1 => ∃ O2 : Led, O1.Perm ((a, o) :: O2) ∧ ∀ o', ListO (xs ++ [pv]) o' → R .none ((a, o') :: O2) N1) (hl : ListO xs o) (hsz : xs.length ≤ 1048576)
    (hbase : attributeBase lo (Str.ofString "append") c.env (eval lo c.env) = eval lo c.env := by rfl) (hline : (apos.endLine == pos.line) = true := by rfl)
    (hst : ∀ env, starEach [e] env = [(false, eval e env)] := by intro _; rfl) :
    Ev c σ ((a, o) :: O) F (.Call (.Attribute lo (Str.ofString "append") apos) [e] [] pos) R := by
  refine meth_list hlo (List.mem_append_left _ (.head _)) hl PySem.F.slot_list_append rfl hbase (by rw [hst]; rfl) hline ?_
  refine TG.of (TA.bindG (R := fun pvs O1 N1 => ∃ pv, pvs = [pv] ∧ ∃ O2 : Led, O1.Perm ((a, o) :: O2) ∧ ∀ o', ListO (xs ++ [pv]) o' → R .none ((a, o') :: O2) N1)
    (T2 := fun vs (Q : Value → Shared → Prop) s1 => wpAny G.M c.A (call (.builtin "list.append") ([.ref a] ++ vs)) Q NoE s1) (ta_cons (TV.mono he fun pv O1 N1 ⟨O2, h1, h2⟩ => ta_nil ⟨pv, rfl, O2, h1, by simpa using h2⟩) hst) fun vs pvs O1 N1 ⟨pv, e1, O2, hp, hR⟩ i => ?_) fun Q s h => callWith_method1 h (hst _)
  subst e1
  obtain ⟨v, rfl, iv⟩ := i.one
  refine TG.permO hp ?_
  intro s Q S k
  obtain ⟨vs, n, rfl, ia⟩ := hl
  have e3 : vs.size = xs.length := by rw [ia.length]; simp
  refine append_at (S.get (List.mem_append_left _ (.head _))) (fun h' hs ho => ?_) (by first | exact leSL (by assumption) | (rw [sizeLine_eq]; omega))
  exact k .none σ _ [] h' s.toks ⟨rfl, .none, by simpa using hR _ ⟨_, _, rfl, by simpa using ia.append (.cons iv .nil)⟩, rfl⟩ (S.setHead hs ho (Nat.le_refl _)) (Nat.le_refl _)

/-! ### pairs -/
theorem All2.mono {α β : Type} {R R' : α → β → Prop} {as : List α} {bs : List β} (h : All2 R as bs) (hR : ∀ a b, R a b → R' a b) : All2 R' as bs := by
  induction h with
  | nil => exact .nil
  | cons h1 _ ih => exact .cons (hR _ _ h1) ih
theorem All2.snoc {α β : Type} {R : α → β → Prop} {as : List α} {a : α} : ∀ {bs : List β}, All2 R (as ++ [a]) bs → ∃ bs' b, bs = bs' ++ [b] ∧ All2 R as bs' ∧ R a b := by
  induction as with
  | nil => intro bs h; obtain ⟨b, rfl, h1⟩ := All2.one h; exact ⟨[], b, rfl, .nil, h1⟩
  | cons x as ih =>
    intro bs h
    cases h with
    | cons h1 h2 => obtain ⟨bs', b, rfl, h3, h4⟩ := ih h2; exact ⟨_ :: bs', b, rfl, .cons h1 h3, h4⟩
theorem argBest_le (bt : Nat → Nat → Bool) : ∀ k, argBest bt k ≤ k
  | 0 => Nat.le_refl _
  | k + 1 => by
    rw [argBest]
    split
    · exact Nat.le_refl _
    · exact Nat.le_succ_of_le (argBest_le bt k)

end
end Mine
end
section
open PySem PySem.W PyProof.Rows PySem.Calls
set_option autoImplicit false
set_option linter.unusedVariables false
namespace Mine

def pickL {α : Type} (xs : List α) (lo hi st : Option Int) : List α :=
  (sliceRange (sliceBounds lo hi st xs.length).1 (sliceBounds lo hi st xs.length).2.1 (sliceBounds lo hi st xs.length).2.2).filterMap (xs[·]?)

theorem All2.getn {α β : Type} {R : α → β → Prop} {as : List α} {bs : List β} (h : All2 R as bs) {i : Nat} (hi : as[i]? = none) : bs[i]? = none := by
  have := h.length
  rw [List.getElem?_eq_none_iff] at hi ⊢; omega
theorem All2.picks {α β : Type} {R : α → β → Prop} {as : List α} {bs : List β} (h : All2 R as bs) : ∀ l : List Nat, All2 R (l.filterMap (as[·]?)) (l.filterMap (bs[·]?))
  | [] => .nil
  | i :: r => by
    have ih := h.picks r
    cases e : as[i]? with
    | none => simp only [List.filterMap_cons, e, h.getn e]; exact ih
    | some a => obtain ⟨b, e2, hr⟩ := h.get e; simp only [List.filterMap_cons, e, e2]; exact .cons hr ih
theorem All2.pick {xs : List PV} {vs : Array Value} (h : All2 PV.Is xs vs.toList) (lo hi st : Option Int) : All2 PV.Is (pickL xs lo hi st) (slicePick vs lo hi st).toList := by
  have e : vs.size = xs.length := by first | exact h.size | exact h.sizeM | (have := h.length; simp at this; omega)
  unfold pickL slicePick
  rw [e]
  simpa using h.picks _
section
variable {G : GC} {c : Act G} {σ : Sto} {O F : Led} {s : Shared}

/-- a list that can be read from every state -/
def ListAt {G : GC} (c : Act G) (σ : Sto) (O F : Led) (l : Addr) (xs : List PV) : Prop := ∀ s, St c σ O F s → ∃ vs : Array Value, s.heap.IsList l vs ∧ All2 PV.Is xs vs.toList
theorem listAt_led {l : Addr} {o : Obj} {xs : List PV} (hm : (l, o) ∈ O ++ F) (h : ListO xs o) : ListAt c σ O F l xs := fun s S => S.isList hm h
theorem listAt_h0 {l : Addr} {vs : List Value} {xs : List PV} (h : c.h0.IsList l vs.toArray) (hx : All2 PV.Is xs vs) : ListAt c σ O F l xs := fun s S => by
  obtain ⟨⟨mf, C, h1, h2, h3, h4⟩, h5, h6, h7⟩ := S
  exact ⟨vs.toArray, h.at fun o e => h1.keep _ _ e, by simpa using hx⟩

theorem isPart_of {o : Option Int} {v : Value} (h : (partPV o).Is v) : IsPart v o := by
  cases o with
  | none => cases h; exact .none
  | some i => obtain ⟨t, rfl⟩ := h; exact .int i t

theorem get_slice {l : Addr} {xs : List PV} {vl vu vk : Value} {lo hi st : Option Int} (hL : ListAt c σ O F l xs) (hsz : xs.length ≤ 1048576) (pl : IsPart vl lo) (pu : IsPart vu hi) (pk : IsPart vk st) (h0 : st ≠ some 0) :
    TG c σ O F (fun (Q : Value → Shared → Prop) s => Shared.TypeIs (upd s (s.heap.push { cls := .type "slice", data := .fields #[vl, vu, vk] }) s.toks) (.ref l) "list" ∧
      wpAny G.M c.A (getItem (.ref l) (.ref s.heap.objs.size)) Q NoE (upd s (s.heap.push { cls := .type "slice", data := .fields #[vl, vu, vk] }) s.toks))
      (RV σ fun pv O1 N1 => ∃ d od, pv = .ref d ∧ ListO (pickL xs lo hi st) od ∧ O1 = (d, od) :: O ∧ N1 = []) := by
  intro s Q S k
  obtain ⟨vs, hl, ia⟩ := hL s S
  have e : vs.size = xs.length := by first | exact ia.size | exact ia.sizeM | (have := ia.length; simp at this; omega)
  refine ⟨Heap.IsList.typeIs (s := upd s (s.heap.push { cls := .type "slice", data := .fields #[vl, vu, vk] }) s.toks) (hl.push _), ?_⟩
  refine wpAny_getItem_list_slice (s := upd s (s.heap.push { cls := .type "slice", data := .fields #[vl, vu, vk] }) s.toks) (hl.push _) (Heap.IsSliceOf.new ..) pl pu pk h0 ?_ (by first | exact leSL (by assumption) | (rw [sizeLine_eq]; omega))
  have S1 := S.push (o := { cls := .type "slice", data := .fields #[vl, vu, vk] }) rfl
  have S2 := S1.push (o := { cls := .type "list", data := .seq (slicePick vs lo hi st) }) rfl
  exact k _ σ (((s.heap.push { cls := .type "slice", data := .fields #[vl, vu, vk] }).objs.size, _) :: O) [] _ s.toks ⟨rfl, _, ⟨_, _, rfl, ⟨_, 0, rfl, ia.pick lo hi st⟩, rfl, rfl⟩, rfl⟩ (S2.drop (List.Sublist.cons_cons _ (List.Sublist.cons _ (List.Sublist.refl _)))) (Nat.le_refl _)

theorem TB.drop {t : Sem Bool} {R : BPost} (h : TB c σ O F t fun b O' N => ∃ O'' : Led, O''.Sublist O' ∧ R b O'' N) : TB c σ O F t R := by
  intro s Q S k
  refine h s Q S ?_
  rintro v σ' O' N hh tk ⟨e, O'', hs, hp⟩ S' ht
  exact k v σ' O'' N hh tk ⟨e, hp⟩ (S'.drop hs) ht

theorem ts_cmpG {l r : Expr} {op : CmpOp} {pos : Pos} {pl : PV} {R1 : VPost} {b : Bool} (hl : Evp c σ O F l pl) (hr : Ev c σ O F r R1)
    (h : ∀ vl vr pr O1 N1, pl.Is vl → pr.Is vr → R1 pr O1 N1 → O.Sublist O1 ∧ N1 = [] ∧ TVp c σ O1 F (compareOp op vl vr) (.bool b)) (hm : behindInMarks op r = false := by rfl) : Tstp c σ O F (.Compare l [op] [r] pos) b := by
  refine TB.drop (TG.of (T := fun (Q : Bool → Shared → Prop) s => wpAny G.M c.A (eval l c.env) (fun vl s1 => wpAny G.M c.A (eval r c.env) (fun vr s2 => wpAny G.M c.A (compareOp op vl vr) (fun v s3 => wpAny G.M c.A (truthy v) Q NoE s3) NoE s2) NoE s1) NoE s) ?_ fun Q s h => wpAny_isTrue_Compare1 h hm)
  refine TV.bindp (T2 := fun vl (Q : Bool → Shared → Prop) s1 => wpAny G.M c.A (eval r c.env) (fun vr s2 => wpAny G.M c.A (compareOp op vl vr) (fun v s3 => wpAny G.M c.A (truthy v) Q NoE s3) NoE s2) NoE s1) hl fun vl il => ?_
  refine TV.bindG (T2 := fun vr (Q : Bool → Shared → Prop) s2 => wpAny G.M c.A (compareOp op vl vr) (fun v s3 => wpAny G.M c.A (truthy v) Q NoE s3) NoE s2) hr fun vr pr O1 N1 h1 ir => ?_
  obtain ⟨hs, rfl, hc⟩ := h vl vr pr O1 N1 il ir h1
  refine TV.bindp (T2 := fun v (Q : Bool → Shared → Prop) s3 => wpAny G.M c.A (truthy v) Q NoE s3) (by simpa using hc) fun v e => ?_
  cases e
  exact TB.mono tr_bool fun b' O' N ⟨e1, e2, e3⟩ => ⟨O, e2 ▸ hs, e1, rfl, by simpa using e3⟩

theorem swaps_comp {e : Expr} {g : List Comprehension} {sc : Scope} {pos tp : Pos} {t : Str} {line : Nat} (hb : c.env.blockKind = .function) (hk : c.env.kindOf t = some .local) (h1 : (tp.line == pos.line) = true)
    (h2 : (sc.names.any fun (n, k) => n == t && (k == .local || k == .cell)) = false) : swapsWith (.ListComp e g sc pos) (some (.Name t tp)) line c.env = pure true := by
  show (pure (c.env.blockKind == .function && c.env.kindOf t == some .local && tp.line == pos.line && !(sc.names.any fun (n, k) => n == t && (k == .local || k == .cell))) : Sem Bool) = pure true
  rw [hb, hk, h1, h2]; rfl
end
end Mine
end
section
open PySem PySem.W PyProof.Rows PySem.Calls
set_option autoImplicit false
set_option linter.unusedVariables false
namespace Mine
section
variable {G : GC} {c : Act G} {σ : Sto} {O F : Led} {s : Shared}

theorem any_strs {vs : Array Value} {xs : List (List Nat)} {x : List Nat} (i : All2 PV.Is (xs.map PV.s) vs.toList) {e : Value → Bool} (he : ∀ y u, e (.str (mk y) u) = (y == x)) : vs.any e = xs.contains x := by
  rw [← Array.any_toList]
  generalize vs.toList = l at i
  induction xs generalizing l with
  | nil => cases i; rfl
  | cons y xs ih =>
    cases i with
    | cons h1 h2 =>
      obtain ⟨t, rfl⟩ := h1
      simp only [List.any_cons, he, ih _ h2, List.contains_cons]
      rw [Bool.beq_comm (a := y)]
def strIs (x : List Nat) : Value → Bool
  | .str y _ => y.cps.toList == x
  | _ => false
theorem strIs_at {vs : Array Value} {xs : List (List Nat)} {x : List Nat} {t : Tok} {A : Around} (i : All2 PV.Is (xs.map PV.s) vs.toList) : ∀ y, y ∈ vs → SeqAt.EqAt A s y (.str (mk x) t) (strIs x y) := by
  intro y hy
  obtain ⟨j, hj⟩ := List.getElem?_of_mem (show y ∈ vs.toList by simpa using hy)
  have hlen := i.length
  have hjl : j < xs.length := by have := (List.getElem?_eq_some_iff.mp hj).1; simp at hlen this; omega
  obtain ⟨w, hw, u, rfl⟩ := i.get (i := j) (a := PV.s xs[j]) (by rw [List.getElem?_map, List.getElem?_eq_getElem hjl]; rfl)
  rw [hj] at hw; cases hw
  have := MeetsSeq.EqGives.at (SeqRoads2.EqGives.str (mk xs[j]) (mk x) u t) A s
  simpa [strIs, mk] using this

theorem cm_notin_list {l : Addr} {xs : List (List Nat)} {x : List Nat} {t : Tok} (hL : ListAt c σ O F l (xs.map PV.s)) : TVp c σ O F (compareOp .NotIn (.str (mk x) t) (.ref l)) (.bool (!xs.contains x)) := TV.pure fun s Q S k => by
  obtain ⟨vs, h, i⟩ := hL s S
  refine SeqAt.notIn_listAt (strIs x) h (strIs_at i) ?_
  rw [any_strs i (x := x) (fun y u => by simp [strIs, mk])]
  exact k _ s.heap s.toks rfl fun _ _ e => e
theorem cm_in_tup {l : Addr} {o : Obj} {xs : List (List Nat)} {x : List Nat} {t : Tok} (hm : (l, o) ∈ O ++ F) (hl : TupO (xs.map PV.s) o) : TVp c σ O F (compareOp .In (.str (mk x) t) (.ref l)) (.bool (xs.contains x)) := TV.pure fun s Q S k => by
  obtain ⟨vs, rfl, i⟩ := hl
  refine SeqAt.in_tupleAt (strIs x) ⟨_, S.get hm, rfl, _, rfl⟩ (strIs_at i) ?_
  rw [any_strs i (x := x) (fun y u => by simp [strIs, mk])]
  exact k _ s.heap s.toks rfl fun _ _ e => e

/-! sorted(list of texts) -/
def SortedT (ts : List (List Nat)) : Prop := sortedS (ts.map mk) = true
theorem bi_sorted {l : Addr} {xs : List (List Nat)} (hL : ListAt c σ O F l (xs.map PV.s)) (h64 : xs.length < 64) :
    TV c σ O F (call (.builtin "sorted") [.ref l]) fun pv O1 N1 => ∃ d od ts, pv = .ref d ∧ ListO (ts.map PV.s) od ∧ ts.Perm xs ∧ SortedT ts ∧ O1 = (d, od) :: O ∧ N1 = [] := by
  intro s Q S k
  obtain ⟨vs, h, i⟩ := hL s S
  have hlen : vs.toList.length = xs.length := by rw [← i.length]; simp
  refine sorted_strs (vs := vs.toList) (by simpa using h) (strsAre_of i) (by omega) fun out ss' a1 a2 a3 => ?_
  obtain ⟨e, he⟩ := sortedAll_at s.heap vs.toList out
  have hts : ss' = (ss'.map fun x => x.cps.toList).map mk := by
    rw [List.map_map]; conv => lhs; rw [← List.map_id ss']
    exact List.map_congr_left fun x _ => (mk_toList x).symm
  have S1 : St c σ O F (upd s (sortedAll s.heap vs.toList out) s.toks) := S.keeps (fun _ _ => sortedAll_old) (Nat.le_refl _)
  have hnew : s.heap.get? (s.heap.objs.size + 1) = none := by
    cases q : s.heap.get? (s.heap.objs.size + 1) with
    | none => rfl
    | some o => exact absurd (Heap.lt_size q) (by exact Nat.not_lt.mpr (Nat.le_succ _))
  have hf := S.fresh hnew
  have hall : ∀ {vs : List Value} {ss : List Str}, StrsAre vs ss → All2 PV.Is ((ss.map fun x => x.cps.toList).map PV.s) vs := by
    intro vs ss h
    induction h with
    | nil => exact .nil
    | cons y t _ ih => exact .cons ⟨t, by simp [mk]⟩ ih
  refine k (.ref (s.heap.objs.size + 1)) σ ((s.heap.objs.size + 1, _) :: O) [] (sortedAll s.heap vs.toList out) s.toks ⟨rfl, _, ⟨_, _, ss'.map fun x => x.cps.toList, rfl, ⟨out, e, rfl, hall a1⟩, ?_, ?_, rfl, rfl⟩, rfl⟩ (S1.add (by simpa [seqObj] using he) hf.1 hf.2.1 hf.2.2) (Nat.le_refl _)
  · have := a2.map fun x => x.cps.toList
    simpa [Function.comp_def, mk] using this
  · unfold SortedT; rw [← hts]; exact a3

/-! lists of texts beside one another -/
theorem range_all_eq {xs ys : List (List Nat)} (h : xs.length = ys.length) : ((List.range xs.length).all fun j => xs.getD j [] == ys.getD j []) = (xs == ys) := by
  rw [Bool.eq_iff_iff, List.all_eq_true, beq_iff_eq]
  constructor
  · intro q
    apply List.ext_getElem h
    intro i h1 h2
    have := q i (List.mem_range.mpr h1)
    simpa [List.getD_eq_getElem?_getD, h1, h2] using this
  · rintro rfl j _; simp
theorem texts_at {vs ws : Array Value} {xs ys : List (List Nat)} {A : Around} (i1 : All2 PV.Is (xs.map PV.s) vs.toList) (i2 : All2 PV.Is (ys.map PV.s) ws.toList) :
    ∀ j (h1 : j < vs.size) (h2 : j < ws.size), SeqAt.EqAt A s vs[j] ws[j] (xs.getD j [] == ys.getD j []) := by
  intro j h1 h2
  have e1 : vs.size = xs.length := by first | exact i1.size | exact i1.sizeM | (have := i1.length; simp at this; omega)
  have e2 : ws.size = ys.length := by first | exact i2.size | exact i2.sizeM | (have := i2.length; simp at this; omega)
  obtain ⟨v, hv, t, rfl⟩ := i1.get (i := j) (a := PV.s (xs.getD j [])) (by rw [List.getElem?_map, List.getD_eq_getElem?_getD, List.getElem?_eq_getElem (by omega)]; rfl)
  obtain ⟨w, hw, u, rfl⟩ := i2.get (i := j) (a := PV.s (ys.getD j [])) (by rw [List.getElem?_map, List.getD_eq_getElem?_getD, List.getElem?_eq_getElem (by omega)]; rfl)
  have e3 : vs[j] = .str (mk (xs.getD j [])) t := by simpa [h1] using hv
  have e4 : ws[j] = .str (mk (ys.getD j [])) u := by simpa [h2] using hw
  rw [e3, e4]
  have := (MeetsSeq.EqGives.at (SeqRoads2.EqGives.str (mk (xs.getD j [])) (mk (ys.getD j [])) t u) A s)
  simpa only [mk_cps] using this

theorem cm_ne_lists {a b : Addr} {xs ys : List (List Nat)} (ha : ListAt c σ O F a (xs.map PV.s)) (hb : ListAt c σ O F b (ys.map PV.s)) (hu : Room c 0 1) :
    TVp c σ O F (compareOp .NotEq (.ref a) (.ref b)) (.bool (xs != ys)) := TV.pure fun s Q S k => by
  obtain ⟨vs, q1, i1⟩ := ha s S
  obtain ⟨ws, q2, i2⟩ := hb s S
  have e1 : vs.size = xs.length := by first | exact i1.size | exact i1.sizeM | (have := i1.length; simp at this; omega)
  have e2 : ws.size = ys.length := by first | exact i2.size | exact i2.sizeM | (have := i2.length; simp at this; omega)
  by_cases h : xs.length = ys.length
  · have h' := SeqAt.RcNeAt.lists (A := c.A) (e := fun j => xs.getD j [] == ys.getD j []) q1 q2 (by omega) (by have := hu.2; omega) (texts_at i1 i2)
    rw [e1, range_all_eq h] at h'
    exact h' G.prog G.w NoE Q (k _ s.heap s.toks rfl fun _ _ e => e)
  · have h' := SeqAt.RcNeAt.lists_lengths (A := c.A) q1 q2 (by simp; omega) (by have := hu.2; omega)
    have e : (xs != ys) = true := by simpa using fun e => h (by rw [e])
    rw [e] at k
    exact h' G.prog G.w NoE Q (k _ s.heap s.toks rfl fun _ _ e => e)
theorem cm_eq_lists {a b : Addr} {xs ys : List (List Nat)} (ha : ListAt c σ O F a (xs.map PV.s)) (hb : ListAt c σ O F b (ys.map PV.s)) (hu : Room c 0 1) :
    TVp c σ O F (compareOp .Eq (.ref a) (.ref b)) (.bool (xs == ys)) := TV.pure fun s Q S k => by
  obtain ⟨vs, q1, i1⟩ := ha s S
  obtain ⟨ws, q2, i2⟩ := hb s S
  have e1 : vs.size = xs.length := by first | exact i1.size | exact i1.sizeM | (have := i1.length; simp at this; omega)
  have e2 : ws.size = ys.length := by first | exact i2.size | exact i2.sizeM | (have := i2.length; simp at this; omega)
  by_cases h : xs.length = ys.length
  · have h' := SeqAt.RcAt.lists (A := c.A) (e := fun j => xs.getD j [] == ys.getD j []) q1 q2 (by omega) (by have := hu.2; omega) (texts_at i1 i2)
    rw [e1, range_all_eq h] at h'
    exact h' G.prog G.w NoE Q (k _ s.heap s.toks rfl fun _ _ e => e)
  · have h' := SeqAt.RcAt.lists_lengths (A := c.A) q1 q2 (by simp; omega) (by have := hu.2; omega)
    have e : (xs == ys) = false := by simpa using fun e => h (by rw [e])
    rw [e] at k
    exact h' G.prog G.w NoE Q (k _ s.heap s.toks rfl fun _ _ e => e)
/-- any list against an empty one -/
theorem cm_ne_empty {a b : Addr} {xs : List PV} (ha : ListAt c σ O F a xs) (hb : ListAt c σ O F b []) (hu : Room c 0 1) :
    TVp c σ O F (compareOp .NotEq (.ref a) (.ref b)) (.bool (!xs.isEmpty)) := TV.pure fun s Q S k => by
  obtain ⟨vs, q1, i1⟩ := ha s S
  obtain ⟨ws, q2, i2⟩ := hb s S
  have e1 : vs.size = xs.length := by first | exact i1.size | exact i1.sizeM | (have := i1.length; simp at this; omega)
  have e2 : ws.size = 0 := by have := i2.length; simp at this; simp [this]
  cases xs with
  | nil =>
    have h' := SeqAt.RcNeAt.lists (A := c.A) (e := fun j => true) q1 q2 (by rw [e1, e2]; rfl) (by have := hu.2; omega) (fun j h1 h2 => by omega)
    have e : (!(List.range vs.size).all fun _ => true) = false := by simp
    rw [e] at h'
    exact h' G.prog G.w NoE Q (k _ s.heap s.toks rfl fun _ _ e => e)
  | cons x xs =>
    have h' := SeqAt.RcNeAt.lists_lengths (A := c.A) q1 q2 (by rw [e1, e2]; rfl) (by have := hu.2; omega)
    exact h' G.prog G.w NoE Q (k _ s.heap s.toks rfl fun _ _ e => e)

/-! dicts with texts as keys -/
def DictO (G : GC) (kvs : List (Str × Value)) (o : Obj) : Prop := o.IsDictOf (strKind G.prog G.w) kvs
theorem ev_dict_empty {pos : Pos} {R : VPost} (hR : ∀ d o, (d == sysModules) = false → DictO G [] o → R (.ref d) ((d, o) :: O) []) : Ev c σ O F (.Dict [] [] pos) R := by
  intro s Q S k
  obtain ⟨o, ho, hd⟩ := Heap.dictOf_iff.mp (Heap.DictOf.new (knd := strKind G.prog G.w) s.heap)
  have T := topRead_of c.T
  have hlow : sysModules < s.heap.objs.size := by
    obtain ⟨⟨mf, C, h1, _⟩, _⟩ := S
    have := modules_low T.nolimit
    exact Nat.lt_of_lt_of_le this (Nat.le_trans h1.above (Nat.le_of_lt h1.ns.lt))
  refine wpAny_Dict_empty (k (.ref s.heap.objs.size) σ ((s.heap.objs.size, _) :: O) [] _ s.toks ⟨rfl, _, hR _ _ ?_ ?_, rfl⟩ (S.push rfl) (Nat.le_refl _))
  · exact beq_eq_false_iff_ne.mpr fun e => Nat.lt_irrefl _ (e ▸ hlow)
  · rw [Heap.get?_push_size _ rfl] at ho
    exact (Option.some.inj ho) ▸ hd
theorem St.isDict (S : St c σ O F s) {d : Addr} {o : Obj} {kvs : List (Str × Value)} (hm : (d, o) ∈ O ++ F) (h : DictO G kvs o) : s.heap.DictOf (strKind G.prog G.w) d kvs := Heap.dictOf_iff.mpr ⟨o, S.get hm, h⟩

theorem cm_in_dict {d : Addr} {o : Obj} {kvs : List (Str × Value)} {x : Str} {t : Tok} (hd : (d == sysModules) = false) (hm : (d, o) ∈ O ++ F) (h : DictO G kvs o) : TVp c σ O F (compareOp .In (.str x t) (.ref d)) (.bool (valueAt kvs x).isSome) :=
  TV.pure fun s Q S k => wpAny_in_of (strKind_is G.prog G.w x t) hd (S.isDict hm h).mapOf (k _ s.heap _ rfl fun _ _ e => e)
theorem ev_dictitem {value slice : Expr} {pos : Pos} {d : Addr} {o : Obj} {kvs : List (Str × Value)} {x : Str} {pv : PV} {v : Value} (ho : Evp c σ O F value (.ref d)) (hi : Evp c σ O F slice (.str x)) (hm : (d, o) ∈ O ++ F) (h : DictO G kvs o) (hx : valueAt kvs x = some v) (iv : pv.Is v)
    (hs : ∀ o i, subscripted slice false o i = operate [o, i] (getItem o i) := by intro _ _; rfl) : Evp c σ O F (.Subscript value slice pos) pv :=
  ev_item ho hi fun vo vi e1 ⟨u, e2⟩ => by
    cases e1; subst e2
    exact TV.pure fun s Q S k => tail_any (S.isDict hm h).mapOf.typeIs slot_dict_getitem.lookup (wpAny_getItem_of (strKind_is G.prog G.w x u) (S.isDict hm h).mapOf hx (k v s.heap _ iv fun _ _ e => e)) (hs _ _)
theorem ex_setdict {lo ie e : Expr} {p pos : Pos} {d : Addr} {o : Obj} {kvs : List (Str × Value)} {x : Str} {R1 : VPost} {P : FPost}
    (he : Ev c σ ((d, o) :: O) F e fun pv O1 N1 => ∃ O2 : Led, O1.Perm ((d, o) :: O2) ∧ Evp c σ ((d, o) :: O2) (N1 ++ F) lo (.ref d) ∧ Evp c σ ((d, o) :: O2) (N1 ++ F) ie (.str x) ∧ ∀ v o', pv.Is v → DictO G (stored kvs x v) o' → P .next σ ((d, o') :: O2) N1)
    (hl : DictO G kvs o) (hsz : kvs.length ≤ 1048576) (hs : swapsWith e (some (.Subscript lo ie p)) pos.line c.env = pure false := by rfl) :
    Ex1 c σ ((d, o) :: O) F (.Assign [.Subscript lo ie p] e pos) P := by
  refine TG.of (TV.bindG (T2 := fun v (Q : Flow → Shared → Prop) s1 => wpAny G.M c.A (eval lo c.env) (fun ov s₂ => wpAny G.M c.A (eval ie c.env) (fun iv s₃ => wpAny G.M c.A (setItem ov iv v) (fun _ => Q .next) NoE s₃) NoE s₂) NoE s1) he ?_) fun Q s h => wpAny_Assign_Subscript h hs
  rintro v pv O1 N1 ⟨O2, hp, h1, h2, h3⟩ iv
  refine TG.permO hp ?_
  refine TV.bindp (T2 := fun ov (Q : Flow → Shared → Prop) s₂ => wpAny G.M c.A (eval ie c.env) (fun iv s₃ => wpAny G.M c.A (setItem ov iv v) (fun _ => Q .next) NoE s₃) NoE s₂) h1 fun ov e1 => ?_
  refine TV.bindp (T2 := fun i' (Q : Flow → Shared → Prop) s₃ => wpAny G.M c.A (setItem ov i' v) (fun _ => Q .next) NoE s₃) h2 fun i' e2 => ?_
  cases e1
  obtain ⟨u, rfl⟩ := e2
  intro s2 Q2 S2 k2
  refine wpAny_setItem_pairs (strKind_is G.prog G.w x u) (S2.isDict (List.mem_append_left _ (.head _)) hl) (fun h' hd' hs' => ?_) (by first | exact leSL (by assumption) | (rw [sizeLine_eq]; omega))
  obtain ⟨o', ho', hdo⟩ := Heap.dictOf_iff.mp hd'
  exact k2 .next σ ((d, o') :: O2) [] h' (s2.toks + 1) ⟨.next, by simpa using h3 v o' iv hdo, rfl⟩ (S2.setHead hs' ho' (Nat.le_succ _)) (Nat.le_succ _)
end
end Mine
end
section
open PySem PySem.W PyProof.Rows PySem.Calls
set_option autoImplicit false
set_option linter.unusedVariables false
namespace Mine

/-! what _levenshtein_distance reckons, in plain words -/
def costN (x y : Nat) : Int := if (x == y) = true then 0 else if (Txt.lower (mk [x]) == Txt.lower (mk [y])) = true then 1 else 2

def comPre : List Nat → List Nat → Nat
  | x :: xs, y :: ys => if x = y then comPre xs ys + 1 else 0
  | _, _ => 0

def pmin (a b : Int) : Int := if b < a then b else a

set_option genSizeOf false in
structure InS where
  acc : List Int
  dist : Int
  res : Int
  mn : Int

def stepI (bc : Nat) (st : InS) (p : Nat × Int) : InS :=
  let r := pmin (pmin st.res p.2 + 2) (st.dist + costN bc p.1)
  ⟨st.acc ++ [r], p.2, r, if r < st.mn then r else st.mn⟩

def innerF (bc : Nat) (a : List Nat) (row : List Int) (d : Int) : InS := (a.zip row).foldl (stepI bc) ⟨[], d, d, 9223372036854775807⟩

def outerF (a : List Nat) (m : Int) : List Nat → Int → List Int → Int → Int
  | [], _, _, res => res
  | bc :: bs, i, row, res =>
    let st := innerF bc a row (i * 2)
    if m < st.mn then m + 1 else outerF a m bs (i + 1) st.acc st.res

def row0 (n : Nat) : List Int := (List.range n).map fun k : Nat => 2 + (k : Int) * 2

def levCore (a b : List Nat) (m : Int) : Int :=
  if ((b.length : Int) - a.length) * 2 > m then m + 1 else outerF a m b 0 (row0 a.length) 0

def trimA (a b : List Nat) : List Nat := let k := comPre a b; let a1 := a.drop k; let b1 := b.drop k; a1.take (a1.length - comPre a1.reverse b1.reverse)

def levF (a b : List Nat) (m : Int) : Int :=
  if a = b then 0 else
    let a2 := trimA a b
    let b2 := trimA b a
    if a2 = [] ∨ b2 = [] then 2 * (a2.length + b2.length)
    else if b2.length < a2.length then levCore b2 a2 m else levCore a2 b2 m

theorem comPre_le (a b : List Nat) : comPre a b ≤ a.length ∧ comPre a b ≤ b.length := by
  induction a generalizing b with
  | nil => cases b <;> simp [comPre]
  | cons x xs ih =>
    cases b with
    | nil => simp [comPre]
    | cons y ys =>
      unfold comPre
      split
      · have := ih ys; simp; omega
      · simp
theorem comPre_comm (a b : List Nat) : comPre a b = comPre b a := by
  induction a generalizing b with
  | nil => cases b <;> simp [comPre]
  | cons x xs ih =>
    cases b with
    | nil => simp [comPre]
    | cons y ys =>
      unfold comPre
      by_cases h : x = y
      · subst h; simp [ih ys]
      · rw [if_neg h, if_neg (fun e => h e.symm)]

/-- the test of the loop that looks for what begins alike -/
theorem comPre_test (a b : List Nat) {k : Nat} (hk : k ≤ comPre a b) : (k < comPre a b) ↔ (k < a.length ∧ k < b.length ∧ ∀ (h1 : k < a.length) (h2 : k < b.length), a[k] = b[k]) := by
  induction a generalizing b k with
  | nil => cases b <;> simp [comPre]
  | cons x xs ih =>
    cases b with
    | nil => simp [comPre]
    | cons y ys =>
      unfold comPre at hk ⊢
      split at hk
      · rename_i e
        rw [if_pos e]
        cases k with
        | zero => simp [e]
        | succ k => have := ih ys (k := k) (by omega); simp at this ⊢; exact this
      · rename_i e
        rw [if_neg e]
        have : k = 0 := by omega
        subst this
        simp [e]
end Mine
end
section
open PySem PySem.W PyProof.Rows PySem.Calls
set_option autoImplicit false
set_option linter.unusedVariables false
namespace Mine
def fnB (p : Program) (k : Nat) : List Stmt := match p.main.body[k]? with | some (.FunctionDef _ _ b _ _ _ _ _ _ _) => b | _ => []
def fnP (p : Program) (k : Nat) : Arguments := match p.main.body[k]? with | some (.FunctionDef _ a _ _ _ _ _ _ _ _) => a | _ => default
def fnS (p : Program) (k : Nat) : Scope := match p.main.body[k]? with | some (.FunctionDef _ _ _ _ _ _ sc _ _ _) => sc | _ => default
abbrev PP := PySem.Challenge.pw_ti0002_01

/-- the world's names that the two take -/
structure LevNames (G : GC) : Prop where
  len : nsIn G.K mainGlobals (Str.ofString "len") = some none
  list : nsIn G.K mainGlobals (Str.ofString "list") = some none
  range : nsIn G.K mainGlobals (Str.ofString "range") = some none
  min : nsIn G.K mainGlobals (Str.ofString "min") = some none
  case : ∃ t, nsIn G.K mainGlobals (Str.ofString "_CASE_COST") = some (some (.int 1 t))
  move : ∃ t, nsIn G.K mainGlobals (Str.ofString "_MOVE_COST") = some (some (.int 2 t))
  most : ∃ t, nsIn G.K mainGlobals (Str.ofString "_MAX_STRING_SIZE") = some (some (.int 40 t))

theorem subst_fn {G : GC} (LN : LevNames G) {f : Addr} (D : DefAt G (Str.ofString "_substitution_cost") f (fnP PP 4) (fnB PP 4) (fnS PP 4)) (x y : Nat) : FnPure G f 1 3 [.s [x], .s [y]] (.int (costN x y)) := by
  intro O F
  obtain ⟨t1, hc⟩ := LN.case
  obtain ⟨t2, hm⟩ := LN.move
  refine fn_of_body D [Str.ofString "ch_a", Str.ofString "ch_b"] ?_ (by decide) (by decide) rfl rfl rfl (by decide) (by simp) ?_
  · intro name qual doc pm an cdv ct vals hv
    obtain ⟨v1, v2, rfl⟩ := len2 hv; rfl
  intro c F' H room hsub
  refine s_if (ts_cmpp (v_ H 0 rfl rfl) (v_ H 1 rfl rfl) (.eqS _ _)) ?_ ?_
  · intro hb
    have hb' : x = y := by simpa [mk_eq] using hb
    exact s_ret ev_int ⟨by simp [costN, hb'], rfl, rfl⟩
  · intro hb
    have hb' : ¬ x = y := by simpa [mk_eq] using hb
    refine s_if (ts_cmpp (ev_lower (v_ H 0 rfl rfl) (by simp [mk_length])) (ev_lower (v_ H 1 rfl rfl) (by simp [mk_length])) (.eqS _ _)) ?_ ?_
    · intro hb2
      exact s_ret (g_ H hc (pv := .int 1) ⟨_, rfl⟩ rfl) ⟨by simp only [costN, hb2]; simp [hb'], rfl, rfl⟩
    · intro hb2
      exact s_ret (g_ H hm (pv := .int 2) ⟨_, rfl⟩ rfl) ⟨by simp only [costN, hb2]; simp [hb'], rfl, rfl⟩

theorem comPre_lt (a b : List Nat) {k : Nat} (hk : k ≤ comPre a b) : decide (k < comPre a b) = (decide (a.drop k ≠ []) && (decide (b.drop k ≠ []) && (decide (a[k]? = b[k]?)))) := by
  have h := comPre_test a b hk
  have h1 := comPre_le a b
  by_cases q : k < comPre a b
  · have ha : k < a.length := by omega
    have hb : k < b.length := by omega
    have := (h.mp q).2.2 ha hb
    simp [q, ha, hb, this]
  · simp only [q, decide_false]
    by_cases ha : k < a.length
    · by_cases hb : k < b.length
      · have : a[k] ≠ b[k] := fun e => q (h.mpr ⟨ha, hb, fun _ _ => e⟩)
        simp [ha, hb, this]
      · simp [hb]
    · simp [ha]
theorem set_mid {α : Type} {acc : List α} (x r : α) (l : List α) {j : Nat} (h : acc.length = j) : (acc ++ x :: l).set j r = acc ++ [r] ++ l := by
  subst h; rw [List.set_append_right _ _ (Nat.le_refl _)]; simp
theorem one_eq (x y : Nat) : ((mk [x]) == (mk [y])) = decide (x = y) := by
  rw [mk_eq]; by_cases e : x = y <;> simp [e]
theorem take_ne (l : List Nat) (k : Nat) : decide (l.take (l.length - k) ≠ []) = decide (l.reverse.drop k ≠ []) := by
  by_cases h : k < l.length
  · have h1 : l.take (l.length - k) ≠ [] := by intro e; have := congrArg List.length e; simp at this; omega
    have h2 : l.reverse.drop k ≠ [] := by intro e; have := congrArg List.length e; simp at this; omega
    rw [decide_eq_true h1, decide_eq_true h2]
  · have h1 : l.take (l.length - k) = [] := by rw [show l.length - k = 0 by omega]; rfl
    have h2 : l.reverse.drop k = [] := by apply List.drop_eq_nil_of_le; simp; omega
    rw [h1, h2]

/-- the loop over the rows -/
inductive LVR (x y : List Nat) (m : Int) (p q : Nat) (l : Addr) (O : Led) (k : Nat) : Sto → Led → Prop
  | mk (row : List Int) (res : Int) (z7 z8 z9 z10 z11 z12 z13 : Option PV) (o : Obj) (h1 : ListO (row.map PV.int) o) (h2 : row.length = x.length) (h3 : outerF x m (y.drop k) (k : Int) row res = outerF x m y 0 (row0 x.length) 0) :
    LVR x y m p q l O k [some (.s x), some (.s y), some (.int m), some (.int (p : Int)), some (.int (-(q : Int))), some (.ref l), some (.int res), z7, z8, z9, z10, z11, z12, z13] ((l, o) :: O)
/-- the loop inside a row -/
inductive LVS (x y : List Nat) (m : Int) (p q : Nat) (l : Addr) (O : Led) (k yk : Nat) (row : List Int) (j : Nat) : Sto → Led → Prop
  | mk (st : InS) (z11 z12 z13 : Option PV) (o : Obj) (h1 : st = ((x.zip row).take j).foldl (stepI yk) ⟨[], (k : Int) * 2, (k : Int) * 2, 9223372036854775807⟩) (h2 : ListO ((st.acc ++ row.drop j).map PV.int) o) (h3 : st.acc.length = j) :
    LVS x y m p q l O k yk row j [some (.s x), some (.s y), some (.int m), some (.int (p : Int)), some (.int (-(q : Int))), some (.ref l), some (.int st.res), some (.int (k : Int)), some (.s [yk]), some (.int st.dist), some (.int st.mn), z11, z12, z13] ((l, o) :: O)

theorem lev_fn {G : GC} (LN : LevNames G) {f g : Addr} (D : DefAt G (Str.ofString "_levenshtein_distance") f (fnP PP 5) (fnB PP 5) (fnS PP 5)) (Dg : nsIn G.K mainGlobals (Str.ofString "_substitution_cost") = some (some (.ref g))) (kg : keepIn G.K (.ref g) = true)
    (sub : ∀ x y, FnPure G g 1 3 [.s [x], .s [y]] (.int (costN x y))) (a b : List Nat) (m : Int) (la : a.length ≤ 40) (lb : b.length ≤ 40) : FnPure G f 2 6 [.s a, .s b, .int m] (.int (levF a b m)) := by
  intro O F
  obtain ⟨t1, hc⟩ := LN.case
  obtain ⟨t2, hm⟩ := LN.move
  obtain ⟨t3, hmax⟩ := LN.most
  refine fn_of_body D [Str.ofString "a", Str.ofString "b", Str.ofString "max_cost", Str.ofString "pre", Str.ofString "post", Str.ofString "row", Str.ofString "result", Str.ofString "bindex", Str.ofString "bchar", Str.ofString "distance", Str.ofString "minimum", Str.ofString "index", Str.ofString "substitute", Str.ofString "insert_delete"] ?_ (by decide) (by decide) rfl rfl rfl (by decide) (by simp) ?_
  · intro name qual doc pm an cdv ct vals hv
    obtain ⟨v1, v2, v3, rfl⟩ := len3 hv; rfl
  intro c F' H room hsub
  -- equal texts
  refine s_if (ts_cmpp (v_ H 0 rfl rfl) (v_ H 1 rfl rfl) (.eqS _ _)) ?_ ?_
  · intro hb
    have hb' : a = b := by simpa [mk_eq] using hb
    exact s_ret ev_int ⟨by simp [levF, hb'], rfl, rfl⟩
  intro hb
  have hab : a ≠ b := by simpa [mk_eq] using hb
  refine s_asg H 3 rfl (lt_of_blt rfl) ev_int ?_
  -- what begins alike
  have hla := (comPre_le a b).1
  have hlb := (comPre_le a b).2
  have qa : a.length ≤ 1048576 := Nat.le_trans la (by decide)
  have qb : b.length ≤ 1048576 := Nat.le_trans lb (by decide)
  refine s_while (fun n σ1 => ∃ k, k ≤ comPre a b ∧ n = comPre a b - k ∧ σ1 = [some (.s a), some (.s b), some (.int m), some (.int (k : Int)), none, none, none, none, none, none, none, none, none, none]) (comPre a b) ⟨0, Nat.zero_le _, rfl, rfl⟩ ?_
  rintro n σ1 ⟨k, hk, rfl, rfl⟩
  refine ⟨decide (k < comPre a b), ?_, ?_, ?_⟩
  · refine ts_and3 _ _ _ (ts_s (from_ (v_ H 0 rfl rfl) (v_ H 3 rfl rfl) (Nat.le_trans hk hla) qa) (drop_le qa)) (fun _ => ts_s (from_ (v_ H 1 rfl rfl) (v_ H 3 rfl rfl) (Nat.le_trans hk hlb) qb) (drop_le qb)) (fun h1 h2 => ?_) (comPre_lt a b hk).symm
    have ha : k < a.length := by simpa using h1
    have hb : k < b.length := by simpa using h2
    refine ts_eq (ts_cmpp (item_ (v_ H 0 rfl rfl) (v_ H 3 rfl rfl) ha qa) (item_ (v_ H 1 rfl rfl) (v_ H 3 rfl rfl) hb qb) (.eqS _ _)) ?_
    rw [one_eq, List.getElem?_eq_getElem ha, List.getElem?_eq_getElem hb]; simp
  · intro hlt
    have hlt' : k < comPre a b := by simpa using hlt
    refine s_aadd H 3 rfl rfl ev_int (ex_nil ?_)
    exact ⟨rfl, rfl, comPre a b - (k + 1), Nat.sub_lt_sub_left hlt' (Nat.lt_succ_self k), k + 1, hlt', rfl, rfl⟩
  intro hge
  have hk' : k = comPre a b := Nat.le_antisymm hk (Nat.not_lt.mp (of_decide_eq_false hge))
  subst hk'
  clear hge hk
  refine s_asg H 0 rfl (lt_of_blt rfl) (from_ (v_ H 0 rfl rfl) (v_ H 3 rfl rfl) hla qa) ?_
  refine s_asg H 1 rfl (lt_of_blt rfl) (from_ (v_ H 1 rfl rfl) (v_ H 3 rfl rfl) hlb qb) ?_
  refine s_asg H 4 rfl (lt_of_blt rfl) ev_int ?_
  -- what ends alike
  have eA : trimA a b = (a.drop (comPre a b)).take ((a.drop (comPre a b)).length - comPre (a.drop (comPre a b)).reverse (b.drop (comPre a b)).reverse) := rfl
  have eB : trimA b a = (b.drop (comPre a b)).take ((b.drop (comPre a b)).length - comPre (a.drop (comPre a b)).reverse (b.drop (comPre a b)).reverse) := by
    show List.take ((b.drop (comPre b a)).length - comPre (b.drop (comPre b a)).reverse (a.drop (comPre b a)).reverse) (b.drop (comPre b a)) = _
    rw [comPre_comm b a, comPre_comm (b.drop (comPre a b)).reverse]
  have la1 : (a.drop (comPre a b)).length ≤ 40 := drop_le la
  have lb1 : (b.drop (comPre a b)).length ≤ 40 := drop_le lb
  clear qa qb
  generalize ha1 : a.drop (comPre a b) = a1 at *
  generalize hb1 : b.drop (comPre a b) = b1 at *
  have hlr := comPre_le a1.reverse b1.reverse
  simp only [List.length_reverse] at hlr
  have qa : a1.length ≤ 1048576 := Nat.le_trans la1 (by decide)
  have qb : b1.length ≤ 1048576 := Nat.le_trans lb1 (by decide)
  refine s_while (fun n σ1 => ∃ k, k ≤ comPre a1.reverse b1.reverse ∧ n = comPre a1.reverse b1.reverse - k ∧ σ1 = [some (.s a1), some (.s b1), some (.int m), some (.int (comPre a b : Int)), some (.int (-(k : Int))), none, none, none, none, none, none, none, none, none]) (comPre a1.reverse b1.reverse) ⟨0, Nat.zero_le _, rfl, rfl⟩ ?_
  rintro n σ1 ⟨k, hk, rfl, rfl⟩
  refine ⟨decide (k < comPre a1.reverse b1.reverse), ?_, ?_, ?_⟩
  · have ht := comPre_lt a1.reverse b1.reverse hk
    refine ts_and3 _ _ (decide (a1.reverse[k]? = b1.reverse[k]?)) (ts_s (toneg_ (v_ H 0 rfl rfl) (v_ H 4 rfl rfl) (Nat.le_trans hk hlr.1) qa) (take_le qa)) (fun _ => ts_s (toneg_ (v_ H 1 rfl rfl) (v_ H 4 rfl rfl) (Nat.le_trans hk hlr.2) qb) (take_le qb)) (fun h1 h2 => ?_) ?_
    · have ha : k < a1.length := by simp at h1; omega
      have hb : k < b1.length := by simp at h2; omega
      have e1 : (-(k : Int) - 1) = -((k : Int) + 1) := by omega
      refine ts_eq (ts_cmpp (itemneg_ (v_ H 0 rfl rfl) (ev_eq (ev_sub (v_ H 4 rfl rfl) ev_int) (by rw [e1])) ha qa) (itemneg_ (v_ H 1 rfl rfl) (ev_eq (ev_sub (v_ H 4 rfl rfl) ev_int) (by rw [e1])) hb qb) (.eqS _ _)) ?_
      rw [one_eq, List.getElem?_eq_getElem (by simpa using ha), List.getElem?_eq_getElem (by simpa using hb)]; simp
    · rw [ht, take_ne, take_ne]
  · intro hlt
    have hlt' : k < comPre a1.reverse b1.reverse := by simpa using hlt
    refine s_asub H 4 rfl rfl ev_int (ex_nil ?_)
    refine ⟨rfl, rfl, comPre a1.reverse b1.reverse - (k + 1), Nat.sub_lt_sub_left hlt' (Nat.lt_succ_self k), k + 1, hlt', rfl, ?_⟩
    simp; omega
  intro hge
  have hk' : k = comPre a1.reverse b1.reverse := Nat.le_antisymm hk (Nat.not_lt.mp (of_decide_eq_false hge))
  subst hk'
  refine s_asg H 0 rfl (lt_of_blt rfl) (toneg_ (v_ H 0 rfl rfl) (v_ H 4 rfl rfl) hlr.1 qa) ?_
  refine s_asg H 1 rfl (lt_of_blt rfl) (toneg_ (v_ H 1 rfl rfl) (v_ H 4 rfl rfl) hlr.2 qb) ?_
  dsimp only [List.set_cons_zero, List.set_cons_succ]
  rw [← eA, ← eB]
  have la2 : (trimA a b).length ≤ 40 := by rw [eA]; exact take_le la1
  have lb2 : (trimA b a).length ≤ 40 := by rw [eB]; exact take_le lb1
  clear qa qb
  have hspec : levF a b m = if trimA a b = [] ∨ trimA b a = [] then (2 * (((trimA a b).length : Int) + ((trimA b a).length : Int)) : Int) else if (trimA b a).length < (trimA a b).length then levCore (trimA b a) (trimA a b) m else levCore (trimA a b) (trimA b a) m := by
    unfold levF; rw [if_neg hab]
  rw [hspec]
  clear hspec eA eB hge hk
  generalize trimA a b = a2 at *
  generalize trimA b a = b2 at *
  have qa : a2.length ≤ 1048576 := Nat.le_trans la2 (by decide)
  have qb : b2.length ≤ 1048576 := Nat.le_trans lb2 (by decide)
  -- one of them is used up
  refine s_if (b := decide (a2 = [] ∨ b2 = [])) (ts_or2 (decide (a2 = [])) (decide (b2 = [])) (ts_eq (ts_not (ts_s (v_ H 0 rfl rfl) qa)) (by by_cases e : a2 = [] <;> simp [e])) (fun _ => ts_eq (ts_not (ts_s (v_ H 1 rfl rfl) qb)) (by by_cases e : b2 = [] <;> simp [e])) (by by_cases e : a2 = [] <;> by_cases e2 : b2 = [] <;> simp [e, e2])) ?_ ?_
  · intro hq
    have hq' : a2 = [] ∨ b2 = [] := by simpa using hq
    refine s_ret (ev_mul (g_ H hm (pv := .int 2) ⟨_, rfl⟩ rfl) (ev_add (len_ H LN.len rfl (v_ H 0 rfl rfl) (le_mk qa)) (len_ H LN.len rfl (v_ H 1 rfl rfl) (le_mk qb))) (.of_left (by decide))) ⟨?_, rfl, rfl⟩
    rw [if_pos hq', mk_length, mk_length]
  intro hq
  have hne : ¬ (a2 = [] ∨ b2 = []) := by simpa using hq
  rw [if_neg hne]
  -- neither is too long
  refine s_if (b := false) (ts_or2 false false (ts_eq (ts_cmpp (len_ H LN.len rfl (v_ H 0 rfl rfl) (le_mk qa)) (g_ H hmax (pv := .int 40) ⟨_, rfl⟩ rfl) (.gtI _ _)) (by rw [mk_length]; simp; omega)) (fun _ => ts_eq (ts_cmpp (len_ H LN.len rfl (v_ H 1 rfl rfl) (le_mk qb)) (g_ H hmax (pv := .int 40) ⟨_, rfl⟩ rfl) (.gtI _ _)) (by rw [mk_length]; simp; omega)) rfl) (fun e => by cases e) fun _ => ?_
  -- the shorter one first
  refine s_ifp (b := decide (b2.length < a2.length)) (σ1 := [some (.s (if b2.length < a2.length then b2 else a2)), some (.s (if b2.length < a2.length then a2 else b2)), some (.int m), some (.int (comPre a b : Int)), some (.int (-(comPre a1.reverse b1.reverse : Int))), none, none, none, none, none, none, none, none, none])
    (ts_eq (ts_cmpp (len_ H LN.len rfl (v_ H 1 rfl rfl) (le_mk qb)) (len_ H LN.len rfl (v_ H 0 rfl rfl) (le_mk qa)) (.ltI _ _)) (by rw [mk_length, mk_length]; simp)) ?_ ?_ ?_
  · intro e
    have e' : b2.length < a2.length := by simpa using e
    rw [if_pos e', if_pos e']
    refine ex_cons (ex_swap2 0 1 (v_ H 1 rfl rfl) (v_ H 0 rfl rfl) ?_ (H.name rfl) (H.kind (i := 0) rfl) (H.name rfl) (H.kind (i := 1) rfl) H.L (lt_of_blt rfl) (lt_of_blt rfl) (hw := swapped_names c.hek (H.kind (i := 0) rfl) (H.kind (i := 1) rfl) rfl (by decide) (by decide)))
    exact ex_nil ⟨rfl, rfl, rfl, rfl⟩
  · intro e
    have e' : ¬ b2.length < a2.length := by simpa using e
    rw [if_neg e', if_neg e']
  have hlev : (if b2.length < a2.length then levCore b2 a2 m else levCore a2 b2 m) = levCore (if b2.length < a2.length then b2 else a2) (if b2.length < a2.length then a2 else b2) m := by split <;> rfl
  rw [hlev]
  have hne1 : (if b2.length < a2.length then b2 else a2) ≠ [] := by split <;> (intro e; apply hne; simp [e])
  have hle : (if b2.length < a2.length then b2 else a2).length ≤ 40 := by split <;> assumption
  have hle2 : (if b2.length < a2.length then a2 else b2).length ≤ 40 := by split <;> assumption
  clear qa qb
  clear hlev hq hne
  generalize (if b2.length < a2.length then b2 else a2) = x at *
  generalize (if b2.length < a2.length then a2 else b2) = y at *
  have hxpos : 0 < x.length := List.length_pos_iff.mpr hne1
  have qx : x.length ≤ 1048576 := Nat.le_trans hle (by decide)
  have qy : y.length ≤ 1048576 := Nat.le_trans hle2 (by decide)
  -- the lengths alone
  refine s_if (b := decide (m < ((y.length : Int) - x.length) * 2)) (ts_eq (ts_cmpp (ev_mul (ev_sub (len_ H LN.len rfl (v_ H 1 rfl rfl) (le_mk qy)) (len_ H LN.len rfl (v_ H 0 rfl rfl) (le_mk qx))) (g_ H hm (pv := .int 2) ⟨_, rfl⟩ rfl) (.of_right (by decide))) (v_ H 2 rfl rfl) (.gtI _ _)) (by rw [mk_length, mk_length])) ?_ ?_
  · intro e
    have e' : m < ((y.length : Int) - x.length) * 2 := by simpa using e
    refine s_ret (ev_add (v_ H 2 rfl rfl) ev_int) ⟨?_, rfl, rfl⟩
    unfold levCore; rw [if_pos e']
  intro e
  have e' : ¬ ((y.length : Int) - x.length) * 2 > m := by simpa using e
  have hspec : levCore x y m = outerF x m y 0 (row0 x.length) 0 := by unfold levCore; rw [if_neg e']
  rw [hspec]
  clear hspec
  refine TF.drop ?_
  -- the first row
  have n2 : Evp c [some (.s x), some (.s y), some (.int m), some (.int (comPre a b : Int)), some (.int (-(comPre a1.reverse b1.reverse : Int))), none, none, none, none, none, none, none, none, none] O F' (.Name (Str.ofString "_MOVE_COST") ⟨0, 0, 0, 0⟩) (.int 2) := g_ H hm (pv := .int 2) ⟨_, rfl⟩ rfl
  refine ex_cons (asg_ H 5 rfl (lt_of_blt rfl) (ev_listrange (a := 2) (b := 2 * ((x.length : Int) + 1)) (d := 2) (n := x.length) LN.list (H.glob rfl) (ev_tcall LN.range (by boot_fast) (H.glob rfl) (ta_consp (g_ H hm (pv := .int 2) ⟨_, rfl⟩ rfl) (ta_consp (ev_mul (g_ H hm (pv := .int 2) ⟨_, rfl⟩ rfl) (ev_add (len_ H LN.len rfl (v_ H 0 rfl rfl) (le_mk qx)) ev_int) (.of_left (by decide))) (ta_consp (g_ H hm (pv := .int 2) ⟨_, rfl⟩ rfl) (ta_nil fun vals hv => ?_))))) ?_ ?_ (by omega) H.own ?_))
  · obtain ⟨v1, v2, v3, rfl, ⟨u1, rfl⟩, ⟨u2, rfl⟩, u3, rfl⟩ := hv.three
    rw [mk_length]
    exact TV.mono (bi_range3 (by decide) (PyProof.noPylong_small (by decide))) fun pv O' N h => by simpa using h
  · exact (range_small2 (Nat.le_trans hle (by decide))).1
  · exact (range_small2 (Nat.le_trans hle (by decide))).2
  intro l o ho
  simp only [List.set_cons_zero, List.set_cons_succ, List.nil_append, List.append_nil]
  refine s_asg H 6 rfl (lt_of_blt rfl) ev_int ?_
  -- the rows
  refine s_for H 7 (items := rangePV 0 1 y.length) rfl (LVR x y m (comPre a b) (comPre a1.reverse b1.reverse) l O) ?_ ?_ ?_ ?_
  · rintro k σ1 O1 ⟨⟩; exact lt_of_blt rfl
  · refine it_range1 LN.range (H.glob rfl) (ev_eq (len_ H LN.len rfl (v_ H 1 rfl rfl) (le_mk qy)) (by rw [mk_length])) (Nat.le_trans qy (by decide)) ⟨rfl, row0 x.length, 0, none, none, none, none, none, none, none, o, ?_, by simp [row0], rfl⟩ H.own
    have : (row0 x.length).map PV.int = rangePV 2 2 x.length := by simp [row0, rangePV]
    rw [this]; exact ho
  · rintro k pv σ1 O1 F1 hk ⟨row, res, z7, z8, z9, z10, z11, z12, z13, o, hl, hlen, hinv⟩ hF
    have hky : k < y.length := by have := (List.getElem?_eq_some_iff.mp hk).1; rwa [rangePV_len] at this
    rw [rangePV_get hky] at hk
    simp only [Int.zero_add, Int.mul_one, Option.some.injEq] at hk
    subst hk
    dsimp only [List.set_cons_zero, List.set_cons_succ]
    have hdrop : y.drop k = y[k] :: y.drop (k + 1) := List.drop_eq_getElem_cons hky
    rw [hdrop] at hinv
    refine Ex.cut fun P1 hP1 => ?_
    refine s_asg H 8 rfl (lt_of_blt rfl) (item_ (v_ H 1 rfl rfl) (v_ H 7 rfl rfl) hky qy) ?_
    refine s_asg2 H 9 6 rfl rfl (lt_of_blt rfl) (lt_of_blt rfl) (ev_mul (v_ H 7 rfl rfl) (g_ H hm (pv := .int 2) ⟨_, rfl⟩ rfl) (.of_right (by decide))) ?_
    refine s_asg H 10 rfl (lt_of_blt rfl) ev_int ?_
    dsimp only [List.set_cons_zero, List.set_cons_succ]
    refine s_for H 11 (items := rangePV 0 1 x.length) rfl (LVS x y m (comPre a b) (comPre a1.reverse b1.reverse) l O k y[k] row) ?_ ?_ ?_ ?_
    · rintro j σ1 O1 ⟨⟩; exact lt_of_blt rfl
    · exact it_range1 LN.range (H.glob rfl) (ev_eq (len_ H LN.len rfl (v_ H 0 rfl rfl) (le_mk qx)) (by rw [mk_length])) (Nat.le_trans qx (by decide)) ⟨rfl, ⟨[], (k : Int) * 2, (k : Int) * 2, 9223372036854775807⟩, z11, z12, z13, o, rfl, by simpa using hl, rfl⟩ H.own
    · rintro j pv σ1 O1 F2 hj ⟨st, z11, z12, z13, o, hst, hl2, hlj⟩ hF2
      have hjx : j < x.length := by have := (List.getElem?_eq_some_iff.mp hj).1; rwa [rangePV_len] at this
      rw [rangePV_get hjx] at hj
      simp only [Int.zero_add, Int.mul_one, Option.some.injEq] at hj
      subst hj
      dsimp only [List.set_cons_zero, List.set_cons_succ]
      refine Ex.cut fun P2 hP2 => ?_
      have hjr : j < row.length := by rw [hlen]; exact hjx
      have hrow : (st.acc ++ row.drop j)[j]? = some row[j] := by
        rw [List.getElem?_append_right (Nat.le_of_eq hlj), hlj, Nat.sub_self, List.drop_eq_getElem_cons hjr]; rfl
      have hlen2 : (st.acc ++ row.drop j).length = x.length := by simp; omega
      refine s_asg H 12 rfl (lt_of_blt rfl) (ev_add (v_ H 9 rfl rfl) (callp_ H Dg kg rfl (ta_pp (v_ H 8 rfl rfl) (ta_pp (item_ (v_ H 0 rfl rfl) (v_ H 11 rfl rfl) hjx qx) ta_np)) (sub _ _) (room.le (by decide) (by decide)))) ?_
      refine s_asg H 9 rfl (lt_of_blt rfl) (ev_listitem (pv := .int row[j]) (v_ H 5 rfl rfl) (v_ H 11 rfl rfl) (List.mem_append_left _ (.head _)) hl2 (by rw [List.getElem?_map, hrow]; rfl) (by rw [List.length_map, hlen2]; exact qx)) ?_
      refine s_asg H 13 rfl (lt_of_blt rfl) (ev_add (min2_ H LN.min rfl (v_ H 6 rfl rfl) (v_ H 9 rfl rfl)) (g_ H hm (pv := .int 2) ⟨_, rfl⟩ rfl)) ?_
      refine s_asg H 6 rfl (lt_of_blt rfl) (min2_ H LN.min rfl (v_ H 13 rfl rfl) (v_ H 12 rfl rfl)) ?_
      dsimp only [List.set_cons_zero, List.set_cons_succ]
      refine ex_cons (ex_setitem (v_ H 6 rfl rfl) (v_ H 5 rfl rfl) (v_ H 11 rfl rfl) hl2 (by rw [List.length_map, hlen2]; exact hjx) (by rw [List.length_map, hlen2]; exact qx) fun o' ho' => ?_)
      have hst' : stepI y[k] st (x[j], row[j]) = ((x.zip row).take (j + 1)).foldl (stepI y[k]) ⟨[], (k : Int) * 2, (k : Int) * 2, 9223372036854775807⟩ := by
        have hz : j < (x.zip row).length := by simp; omega
        rw [List.take_succ_eq_append_getElem hz, List.foldl_append, ← hst]
        simp
      have hacc : (stepI y[k] st (x[j], row[j])).acc = st.acc ++ [pmin (pmin st.res row[j] + 2) (st.dist + costN y[k] x[j])] := rfl
      have hset : ((st.acc ++ row.drop j).map PV.int).set j (.int (pmin (pmin st.res row[j] + 2) (st.dist + costN y[k] x[j]))) = ((stepI y[k] st (x[j], row[j])).acc ++ row.drop (j + 1)).map PV.int := by
        rw [hacc, ← List.map_set, List.drop_eq_getElem_cons hjr]
        rw [set_mid _ _ _ hlj]
      have ho2 : ListO (((stepI y[k] st (x[j], row[j])).acc ++ row.drop (j + 1)).map PV.int) o' := hset ▸ ho'
      refine s_ifp (b := decide (pmin (pmin st.res row[j] + 2) (st.dist + costN y[k] x[j]) < st.mn)) (σ1 := [some (.s x), some (.s y), some (.int m), some (.int (comPre a b : Int)), some (.int (-(comPre a1.reverse b1.reverse : Int))), some (.ref l), some (.int (pmin (pmin st.res row[j] + 2) (st.dist + costN y[k] x[j]))), some (.int (k : Int)), some (.s [y[k]]), some (.int row[j]), some (.int (if pmin (pmin st.res row[j] + 2) (st.dist + costN y[k] x[j]) < st.mn then pmin (pmin st.res row[j] + 2) (st.dist + costN y[k] x[j]) else st.mn)), some (.int (j : Int)), some (.int (st.dist + costN y[k] x[j])), some (.int (pmin st.res row[j] + 2))])
        (ts_cmpp (v_ H 6 rfl rfl) (v_ H 10 rfl rfl) (.ltI _ _)) (fun e => ?_) (fun e => ?_) (ex_nil (hP2 _ _ _ _ ⟨rfl, stepI y[k] st (x[j], row[j]), _, _, _, o', hst', ho2, by rw [hacc]; simp [hlj]⟩))
      · have e' := of_decide_eq_true e
        rw [if_pos e']
        exact s_asg H 10 rfl (lt_of_blt rfl) (v_ H 6 rfl rfl) (ex_nil ⟨rfl, rfl, rfl, rfl⟩)
      · have e' := of_decide_eq_false e
        rw [if_neg e']; rfl
    · rintro σ1 O1 ⟨st, z11, z12, z13, o, hst, hl2, hlj⟩
      rw [rangePV_len] at hst hl2 hlj
      have hzl : (x.zip row).length = x.length := by simp; omega
      rw [List.take_of_length_le (Nat.le_of_eq hzl)] at hst
      have hst2 : st = innerF y[k] x row ((k : Int) * 2) := hst
      rw [List.drop_of_length_le (Nat.le_of_eq hlen), List.append_nil] at hl2
      refine s_if (b := decide (m < st.mn)) (ts_cmpp (v_ H 10 rfl rfl) (v_ H 2 rfl rfl) (.gtI _ _)) (fun e => ?_) (fun e => ex_nil ?_)
      · have e' : m < st.mn := of_decide_eq_true e
        refine s_ret (ev_add (v_ H 2 rfl rfl) ev_int) (hP1 _ _ _ _ ⟨rfl, O, List.sublist_cons_self _ _, ?_, rfl, rfl⟩)
        rw [← hinv]
        unfold outerF
        rw [hst2] at e'
        simp only [if_pos e']
      · have e' : ¬ m < st.mn := of_decide_eq_false e
        refine hP1 _ _ _ _ ⟨rfl, st.acc, st.res, _, _, _, _, _, _, _, o, hl2, hlj, ?_⟩
        rw [← hinv]
        conv => rhs; unfold outerF
        rw [hst2] at e' ⊢
        simp only [if_neg e']
        push_cast
        rfl
  · rintro σ1 O1 ⟨row, res, z7, z8, z9, z10, z11, z12, z13, o, hl, hlen, hinv⟩
    rw [rangePV_len, List.drop_length] at hinv
    refine s_ret (v_ H 6 rfl rfl) ⟨O, List.sublist_cons_self _ _, ?_, rfl, rfl⟩
    rw [← hinv]; rfl
end Mine
end
section
open PySem PySem.W PyProof.Rows PySem.Calls
set_option autoImplicit false
set_option linter.unusedVariables false
namespace Mine

theorem lit_257 : Str.ofString "257" = mk [50, 53, 55] := by decide +kernel
theorem lit_sq : Str.ofString " \"" = mk [32, 34] := by decide +kernel
theorem lit_q : Str.ofString "\"" = mk [34] := by decide +kernel
theorem lit_qq : Str.ofString "\"\"" = mk [34, 34] := by decide +kernel
theorem lit_e : Str.ofString "" = mk [] := by decide +kernel

/-- what parse257 reads behind the first five signs -/
def parseF : List Nat → List Nat
  | [] => []
  | [c] => if c = 34 then [] else [c]
  | c :: d :: r => if c = 34 then (if d = 34 then 34 :: parseF r else []) else c :: parseF (d :: r)

theorem parse_fn {G : GC} (hlen : nsIn G.K mainGlobals (Str.ofString "len") = some none) {f : Addr} (D : DefAt G (Str.ofString "parse257") f (fnP PP 9) (fnB PP 9) (fnS PP 9)) (body : List Nat) (hb : body.length ≤ 1000) :
    FnPure G f 1 3 [.s ([50, 53, 55, 32, 34] ++ body)] (.s (parseF body)) := by
  intro O F
  refine fn_of_body D [Str.ofString "resp", Str.ofString "dirname", Str.ofString "i", Str.ofString "n", Str.ofString "c"] ?_ (by decide) (by decide) rfl rfl rfl (by decide) (by simp) ?_
  · intro name qual doc pm an cdv ct vals hv
    obtain ⟨v1, rfl⟩ := len1 hv; rfl
  intro c F' H room hsub
  have hr : ([50, 53, 55, 32, 34] ++ body).length = body.length + 5 := by simp
  have hM : ([50, 53, 55, 32, 34] ++ body).length ≤ 1048576 := by rw [hr]; exact Nat.le_trans (Nat.add_le_add_right hb 5) (by decide)
  have h5 : ∀ {k : Nat}, k < body.length → k + 5 < ([50, 53, 55, 32, 34] ++ body).length := fun h => by rw [hr]; exact Nat.add_lt_add_right h 5
  have h3 : 5 ≤ ([50, 53, 55, 32, 34] ++ body).length := by rw [hr]; exact Nat.le_add_left 5 _
  refine s_if (b := false) (ts_eq (ts_cmpp (to_ (a := 3) (v_ H 0 rfl rfl) ev_int (Nat.le_trans (by decide) h3) hM) (ev_eq ev_str (by rw [lit_257])) (.neS _ _)) (by rw [mk_ne]; rfl)) (fun e => by cases e) fun _ => ?_
  refine s_if (b := false) (ts_eq (ts_cmpp (mid_ (a := 3) (b := 5) (v_ H 0 rfl rfl) ev_int ev_int (by decide) h3 hM) (ev_eq ev_str (by rw [lit_sq])) (.neS _ _)) (by rw [mk_ne]; rfl)) (fun e => by cases e) fun _ => ?_
  refine s_asg H 1 rfl (lt_of_blt rfl) (ev_eq ev_str (by rw [lit_e])) ?_
  refine s_asg H 2 rfl (lt_of_blt rfl) ev_int ?_
  refine s_asg H 3 rfl (lt_of_blt rfl) (len_ H hlen rfl (v_ H 0 rfl rfl) (le_mk hM)) ?_
  rw [mk_length, hr]
  simp only [List.map_cons, List.map_nil, List.cons_append, List.nil_append, List.set_cons_zero, List.set_cons_succ]
  refine s_while (fun n σ1 => ∃ (k : Nat) (d : List Nat) (z : Option PV), k ≤ body.length ∧ n = body.length - k ∧ d.length ≤ k ∧ d ++ parseF (body.drop k) = parseF body ∧
    σ1 = [some (.s ([50, 53, 55, 32, 34] ++ body)), some (.s d), some (.int ((k + 5 : Nat) : Int)), some (.int ((body.length + 5 : Nat) : Int)), z]) body.length ⟨0, [], none, Nat.zero_le _, rfl, Nat.le_refl _, rfl, rfl⟩ ?_
  rintro n σ1 ⟨k, d, z, hk, rfl, hd, hinv, rfl⟩
  refine ⟨decide (k < body.length), ts_eq (ts_cmpp (v_ H 2 rfl rfl) (v_ H 3 rfl rfl) (.ltI _ _)) (by simp), ?_, ?_⟩
  · intro hlt
    have hlt' : k < body.length := of_decide_eq_true hlt
    have hget : ∀ (j : Nat) (hj : j < body.length) (h : j + 5 < ([50, 53, 55, 32, 34] ++ body).length), ([50, 53, 55, 32, 34] ++ body)[j + 5] = body[j] := fun j hj h => by
      simp
    have hdrop : body.drop k = body[k] :: body.drop (k + 1) := List.drop_eq_getElem_cons hlt'
    refine s_asg H 4 rfl (lt_of_blt rfl) (item_ (v_ H 0 rfl rfl) (v_ H 2 rfl rfl) (h5 hlt') hM) ?_
    rw [hget k hlt']
    refine s_asg H 2 rfl (lt_of_blt rfl) (ev_add (v_ H 2 rfl rfl) ev_int) ?_
    dsimp only [List.set_cons_zero, List.set_cons_succ]
    have e1 : ((k + 5 : Nat) : Int) + 1 = ((k + 1 + 5 : Nat) : Int) := by omega
    rw [e1]
    have hs1 : ∀ v : Nat, (mk [v] == mk [34]) = decide (v = 34) := fun v => one_eq v 34
    by_cases hc : body[k] = 34
    · by_cases hn : k + 1 < body.length ∧ body[k + 1]? = some 34
      · have h2 : k + 1 < body.length := hn.1
        have hb2 : body[k + 1] = 34 := by have := hn.2; rw [List.getElem?_eq_getElem h2] at this; exact Option.some.inj this
        refine s_ifp (b := true) (σ1 := [some (.s ([50, 53, 55, 32, 34] ++ body)), some (.s d), some (.int ((k + 1 + 5 : Nat) + 1 : Int)), some (.int ((body.length + 5 : Nat) : Int)), some (.s [body[k]])]) (ts_eq (ts_cmpp (v_ H 4 rfl rfl) (ev_eq ev_str (by rw [lit_q])) (.eqS _ _)) (by rw [hs1]; simp [hc])) (fun _ => ?_) (fun e => by cases e) ?_
        · refine s_iffalse (ts_or2 false false (ts_eq (ts_cmpp (v_ H 2 rfl rfl) (v_ H 3 rfl rfl) (.geI _ _)) (by simp; omega)) (fun _ => ts_eq (ts_cmpp (item_ (v_ H 0 rfl rfl) (v_ H 2 rfl rfl) (h5 h2) hM) (ev_eq ev_str (by rw [lit_q])) (.neS _ _)) (by rw [hget (k + 1) h2, bne, hs1]; simp [hb2])) rfl) ?_
          exact s_asg H 2 rfl (lt_of_blt rfl) (ev_add (v_ H 2 rfl rfl) ev_int) (ex_nil ⟨rfl, rfl, rfl, rfl⟩)
        refine s_asg H 1 rfl (lt_of_blt rfl) (ev_eq (ev_adds (v_ H 1 rfl rfl) (v_ H 4 rfl rfl) (two_le 1000 1 (Nat.le_trans hd (Nat.le_trans hk hb)) (Nat.le_refl _))) (by rw [mk_append])) (ex_nil ?_)
        refine ⟨rfl, rfl, body.length - (k + 2), by omega, k + 2, d ++ [body[k]], some (.s [body[k]]), h2, rfl, by rw [List.length_append]; exact Nat.le_succ_of_le (Nat.succ_le_succ hd), ?_, ?_⟩
        · rw [← hinv, hdrop, List.drop_eq_getElem_cons h2]
          simp [parseF, hc, hb2]
        · simp; omega
      · refine s_iftrue (ts_eq (ts_cmpp (v_ H 4 rfl rfl) (ev_eq ev_str (by rw [lit_q])) (.eqS _ _)) (by rw [hs1]; simp [hc])) ?_
        refine s_iftrue (ts_or2 (decide (¬ k + 1 < body.length)) true (ts_eq (ts_cmpp (v_ H 2 rfl rfl) (v_ H 3 rfl rfl) (.geI _ _)) (by simp; omega)) (fun q => ?_) (by simp)) ?_
        · have h2 : k + 1 < body.length := by simpa using q
          have hb2 : body[k + 1] ≠ 34 := fun e => hn ⟨h2, by rw [List.getElem?_eq_getElem h2, e]⟩
          exact ts_eq (ts_cmpp (item_ (v_ H 0 rfl rfl) (v_ H 2 rfl rfl) (h5 h2) hM) (ev_eq ev_str (by rw [lit_q])) (.neS _ _)) (by rw [hget (k + 1) h2, bne, hs1]; simp [hb2])
        · refine s_brk ⟨rfl, rfl, ?_⟩
          refine s_ret (v_ H 1 rfl rfl) ⟨?_, rfl, rfl⟩
          have hp : parseF (body.drop k) = [] := by
            rw [hdrop]
            by_cases h2 : k + 1 < body.length
            · have hb2 : body[k + 1] ≠ 34 := fun e => hn ⟨h2, by rw [List.getElem?_eq_getElem h2, e]⟩
              rw [List.drop_eq_getElem_cons h2]
              simp [parseF, hc, hb2]
            · rw [List.drop_of_length_le (Nat.not_lt.mp h2)]
              simp [parseF, hc]
          rw [hp, List.append_nil] at hinv
          rw [hinv]
    · refine s_iffalse (ts_eq (ts_cmpp (v_ H 4 rfl rfl) (ev_eq ev_str (by rw [lit_q])) (.eqS _ _)) (by rw [hs1]; simp [hc])) ?_
      refine s_asg H 1 rfl (lt_of_blt rfl) (ev_eq (ev_adds (v_ H 1 rfl rfl) (v_ H 4 rfl rfl) (two_le 1000 1 (Nat.le_trans hd (Nat.le_trans hk hb)) (Nat.le_refl _))) (by rw [mk_append])) (ex_nil ?_)
      refine ⟨rfl, rfl, body.length - (k + 1), by omega, k + 1, d ++ [body[k]], some (.s [body[k]]), hlt', rfl, by rw [List.length_append]; exact Nat.succ_le_succ hd, ?_, rfl⟩
      rw [← hinv, hdrop]
      cases hr2 : body.drop (k + 1) with
      | nil => simp [parseF, hc]
      | cons x r => simp [parseF, hc]
  · intro hge
    have hk' : k = body.length := Nat.le_antisymm hk (Nat.not_lt.mp (of_decide_eq_false hge))
    subst hk'
    refine s_ret (v_ H 1 rfl rfl) ⟨?_, rfl, rfl⟩
    rw [List.drop_length] at hinv
    rw [← hinv]; simp [parseF]
end Mine
end
section
open PySem PySem.W PyProof.Rows PySem.Calls
set_option autoImplicit false
set_option linter.unusedVariables false
namespace Mine

/-! the grammar's words -/
theorem term_fn {G : GC} (hoff : ∃ t, nsIn G.K mainGlobals (Str.ofString "NT_OFFSET") = some (some (.int 256 t))) {f : Addr} (D : DefAt G (Str.ofString "ISTERMINAL") f (fnP PP 13) (fnB PP 13) (fnS PP 13)) (x : Int) : FnPure G f 1 3 [.int x] (.bool (decide (x < 256))) := by
  intro O F
  obtain ⟨t, ht⟩ := hoff
  refine fn_of_body D [Str.ofString "x"] ?_ (by decide) (by decide) rfl rfl rfl (by decide) (by simp) ?_
  · intro name qual doc pm an cdv ct vals hv
    obtain ⟨v1, rfl⟩ := len1 hv; rfl
  intro c F' H room hsub
  exact s_ret (ev_cmpp (v_ H 0 rfl rfl) (g_ H ht (pv := .int 256) ⟨_, rfl⟩ rfl) (.ltI _ _)) ⟨rfl, rfl, rfl⟩
theorem nonterm_fn {G : GC} (hoff : ∃ t, nsIn G.K mainGlobals (Str.ofString "NT_OFFSET") = some (some (.int 256 t))) {f : Addr} (D : DefAt G (Str.ofString "ISNONTERMINAL") f (fnP PP 14) (fnB PP 14) (fnS PP 14)) (x : Int) : FnPure G f 1 3 [.int x] (.bool (decide (256 ≤ x))) := by
  intro O F
  obtain ⟨t, ht⟩ := hoff
  refine fn_of_body D [Str.ofString "x"] ?_ (by decide) (by decide) rfl rfl rfl (by decide) (by simp) ?_
  · intro name qual doc pm an cdv ct vals hv
    obtain ⟨v1, rfl⟩ := len1 hv; rfl
  intro c F' H room hsub
  exact s_ret (ev_cmpp (v_ H 0 rfl rfl) (g_ H ht (pv := .int 256) ⟨_, rfl⟩ rfl) (.geI _ _)) ⟨rfl, rfl, rfl⟩
theorem eof_fn {G : GC} (heof : ∃ t, nsIn G.K mainGlobals (Str.ofString "ENDMARKER") = some (some (.int 0 t))) {f : Addr} (D : DefAt G (Str.ofString "ISEOF") f (fnP PP 15) (fnB PP 15) (fnS PP 15)) (x : Int) : FnPure G f 1 3 [.int x] (.bool (x == 0)) := by
  intro O F
  obtain ⟨t, ht⟩ := heof
  refine fn_of_body D [Str.ofString "x"] ?_ (by decide) (by decide) rfl rfl rfl (by decide) (by simp) ?_
  · intro name qual doc pm an cdv ct vals hv
    obtain ⟨v1, rfl⟩ := len1 hv; rfl
  intro c F' H room hsub
  exact s_ret (ev_cmpp (v_ H 0 rfl rfl) (g_ H ht (pv := .int 0) ⟨_, rfl⟩ rfl) (.eqI _ _)) ⟨rfl, rfl, rfl⟩


theorem ts_call {G : GC} {c : Act G} {σ : Sto} {O F : Led} {e : Expr} {b : Bool} (h : Evp c σ O F e (.bool b))
    (he : ∀ (env : Env) (whole : Sem Value), PySem.isTrue e env whole = (do let v ← whole; standAt e.pos; holding [v] (truthy v)) := by intro _ _; rfl) : Tstp c σ O F e b :=
  ts_val h (fun v e => by cases e; exact tr_bool) he
end Mine
end
section
open PySem PySem.W PyProof.Rows PySem.Calls
set_option autoImplicit false
set_option linter.unusedVariables false
set_option linter.unusedSimpArgs false
set_option maxRecDepth 20000
namespace Mine

def escS (l : List Nat) : List Nat := replS [34] [34, 34] 0 l
theorem escS_len (l : List Nat) : (escS l).length ≤ 2 * l.length := by
  unfold escS
  suffices H : ∀ (l : List Nat) (k : Nat), (replS [34] [34, 34] k l).length ≤ 2 * l.length from H l 0
  intro l
  induction l with
  | nil => intro k; simp [replS]
  | cons c r ih =>
    intro k
    cases k with
    | zero =>
      rw [replS]
      split
      · have := ih ([34].length - 1); simp only [List.length_append, List.length_cons, List.length_nil] at *; omega
      · have := ih 0; simp only [List.length_cons] at *; omega
    | succ k => rw [replS]; have := ih k; simp only [List.length_cons]; omega
def pre5 : List Nat := [50, 53, 55, 32, 34]
def behindL : List (List Nat) := [[], [32, 34, 61, 34], [120, 34, 34]]
def third (n : Int) : Nat := (Int.fmod n 3).toNat
theorem third_lt (n : Int) : third n < 3 := by
  have h1 := Int.fmod_lt_of_pos n (b := 3) (by decide)
  unfold third; omega
theorem third_is (n : Int) : Int.fmod n 3 = ((third n : Nat) : Int) := by
  have h1 := Int.fmod_nonneg_of_pos n (b := 3) (by decide)
  unfold third; omega
def behindF (n : Int) : List Nat := behindL.getD (third n) []
theorem behindF_mem (n : Int) : behindF n ∈ behindL := by
  have := third_lt n
  unfold behindF
  rw [List.getD_eq_getElem?_getD, List.getElem?_eq_getElem (by show third n < 3; exact this)]
  exact List.getElem_mem _
def replyF (text : List Nat) (n : Int) : List Nat := pre5 ++ escS text ++ [34] ++ behindF n

theorem reply_fn {G : GC} {f : Addr} (D : DefAt G (Str.ofString "_law_reply") f (fnP PP 18) (fnB PP 18) (fnS PP 18)) (text : List Nat) (n : Int) (ht : text.length ≤ 1000) : FnPure G f 1 3 [.s text, .int n] (.s (replyF text n)) := by
  intro O F
  refine fn_of_body D [Str.ofString "text", Str.ofString "number", Str.ofString "behind"] ?_ (by decide) (by decide) rfl rfl rfl (by decide) (by simp) ?_
  · intro name qual doc pm an cdv ct vals hv
    obtain ⟨v1, v2, rfl⟩ := len2 hv; rfl
  intro c F' H room hsub
  have f1 : ∀ (k : Nat) (pos : Pos) (σ : Sto) (O F : Led), EvFresh c σ O F (.Constant (.str (Str.ofString "\"\"")) k pos) (mk [34, 34]) := fun k pos σ O F => by rw [← lit_qq]; exact fresh_const
  have f2 : ∀ (k : Nat) (pos : Pos) (σ : Sto) (O F : Led), EvFresh c σ O F (.Constant (.str (Str.ofString "\"")) k pos) (mk [34]) := fun k pos σ O F => by rw [← lit_q]; exact fresh_const
  refine ex_cons (asg_ H 2 rfl (lt_of_blt rfl) (ev_list (xs := behindL.map PV.s) (ta_pp (ev_eq ev_str (by rw [lit_e])) (ta_pp (ev_eq ev_str (by rw [show Str.ofString " \"=\"" = mk [32, 34, 61, 34] from by decide +kernel])) (ta_pp (ev_eq ev_str (by rw [show Str.ofString "x\"\"" = mk [120, 34, 34] from by decide +kernel])) ta_np))) (by decide) ?_))
  intro a o hl
  simp only [List.map_cons, List.map_nil, List.cons_append, List.nil_append, List.length_cons, List.length_nil, List.replicate_succ, List.replicate_zero, List.set_cons_zero, List.set_cons_succ, List.append_nil]
  refine TF.drop ?_
  have hesc := escS_len text
  have hbl : (behindF n).length ≤ 4 := by
    have : ∀ x ∈ behindL, x.length ≤ 4 := by decide
    exact this _ (behindF_mem n)
  have hb : (behindL.map PV.s)[third n]? = some (.s (behindF n)) := by
    have := third_lt n
    unfold behindF
    rw [List.getElem?_map, List.getD_eq_getElem?_getD, List.getElem?_eq_getElem (by show third n < 3; exact this)]; rfl
  refine s_ret (ev_eq (ev_adds (ev_eq (ev_adds (ev_eq (ev_adds (ev_eq ev_str (by rw [show Str.ofString "257 \"" = mk pre5 from by decide +kernel])) (ev_replace (v_ H 0 rfl rfl) (f2 _ _ _ _ _) (f1 _ _ _ _ _) (by decide) (by decide) (by simp only [List.length_cons, List.length_nil]; omega)) ?_) (by rw [mk_append])) (ev_eq ev_str (by rw [lit_q])) ?_) (by rw [mk_append])) (ev_listitem (i := third n) (v_ H 2 rfl rfl) (by rw [← third_is]; exact ev_fmod (v_ H 1 rfl rfl) ev_int (by decide)) (List.mem_append_left _ (.head _)) hl hb (by decide)) ?_) (by rw [mk_append])) ⟨O, List.Sublist.cons _ (List.Sublist.refl _), ?_, rfl, rfl⟩
  · unfold escS at hesc; rw [mk_length, mk_length, sizeLine_eq]; simp only [pre5, List.length_cons, List.length_nil]; omega
  · unfold escS at hesc; rw [mk_length, mk_length, sizeLine_eq]; simp only [pre5, List.length_append, List.length_cons, List.length_nil]; omega
  · unfold escS at hesc; rw [mk_length, mk_length, sizeLine_eq]; simp only [pre5, List.length_append, List.length_cons, List.length_nil]; omega
  · rfl
end Mine
end
section
open PySem PySem.W PyProof.Rows PySem.Calls
set_option autoImplicit false
set_option linter.unusedVariables false
set_option linter.unusedSimpArgs false
set_option maxRecDepth 20000
namespace Mine

def sixth (n : Int) : Nat := (Int.fmod n 6).toNat
theorem sixth_lt (n : Int) : sixth n < 6 := by
  have h1 := Int.fmod_lt_of_pos n (b := 6) (by decide)
  unfold sixth; omega
theorem sixth_is (n : Int) : Int.fmod n 6 = ((sixth n : Nat) : Int) := by
  have h1 := Int.fmod_nonneg_of_pos n (b := 6) (by decide)
  unfold sixth; omega
def leftF (k : Nat) : Nat := 256 + k / 2
def firstF (l : Nat) : List Nat := [34, 61, 88, 120] ++ (if l < 258 then [l + 1, l + 1] else [120, 88])
def secondF (l : Nat) : List Nat := [34, 61, 88, 120] ++ (if l = 256 then [258, 258] else [120, 88])
def ruleF (k : Nat) (n : Int) : List Nat := [leftF k, (firstF (leftF k)).getD (sixth n) 0, (secondF (leftF k)).getD (sixth (Int.fdiv n 6)) 0]
def rulesF (ns : List Int) : List (List Nat) := (List.range 6).map fun k => ruleF k (ns.getD k 0)
theorem firstF_len (l : Nat) : (firstF l).length = 6 := by unfold firstF; split <;> rfl
theorem secondF_len (l : Nat) : (secondF l).length = 6 := by unfold secondF; split <;> rfl

theorem mul_two (c : Nat) : Txt.mul (mk [c]) 2 = mk [c, c] := by
  have h := mul_one_list c 2
  have e : Txt.mul (mk [c]) 2 = mk (Txt.mul (mk [c]) 2).cps.toList := (mk_toList _).symm
  rw [e]
  show mk (Txt.mul ⟨#[c]⟩ 2).cps.toList = _
  rw [h]; rfl
theorem mul_ok (c : Nat) : MulOk (mk [c]) 2 := by
  refine ⟨by decide, fun _ _ => ?_, fun _ _ => ?_⟩
  · rw [mk_length]; show ¬ (((1 : Nat) : Int) > (2 ^ 63 - 1) / 2); decide
  · rw [mk_length]; show Builtin.Str.tooLong (1 * Int.toNat 2) = false; decide +kernel
theorem lit_first : Str.ofString "\"=Xx" = mk [34, 61, 88, 120] := by decide +kernel
theorem lit_xX : Str.ofString "xX" = mk [120, 88] := by decide +kernel

theorem rules_fn {G : GC} (hchr : nsIn G.K mainGlobals (Str.ofString "chr") = some none) (hrange : nsIn G.K mainGlobals (Str.ofString "range") = some none)
    {f : Addr} (D : DefAt G (Str.ofString "_law_rules") f (fnP PP 17) (fnB PP 17) (fnS PP 17)) (ns : List Int) (hn : 6 ≤ ns.length) (hn2 : ns.length ≤ 1000) (na : Addr) (no : Obj) (O F : Led) (hm : (na, no) ∈ F) (hl : ListO (ns.map .int) no) :
    FnSpec G f 1 3 [.ref na] O F fun pv O' N => ∃ a o, pv = .ref a ∧ O' = (a, o) :: O ∧ N = [] ∧ ListO ((rulesF ns).map PV.s) o := by
  refine fn_of_body D [Str.ofString "numbers", Str.ofString "rules", Str.ofString "k", Str.ofString "left", Str.ofString "first", Str.ofString "second"] ?_ (by decide) (by decide) rfl rfl rfl (by decide) (by simp) ?_
  · intro name qual doc pm an cdv ct vals hv
    obtain ⟨v1, rfl⟩ := len1 hv; rfl
  intro c F' H room hsub
  have Hn := H.nms
  refine ex_cons (asg_ H 1 rfl (lt_of_blt rfl) (ev_list ta_np (by decide) ?_))
  intro r ro hr
  simp only [List.map_cons, List.map_nil, List.cons_append, List.nil_append, List.length_cons, List.length_nil, List.replicate_succ, List.replicate_zero, List.set_cons_zero, List.set_cons_succ, List.append_nil]
  refine s_for H 2 (items := rangePV 0 1 6) rfl (fun k σ1 O1 => ∃ (ro : Obj) (z2 z3 z4 z5 : Option PV), σ1 = [some (.ref na), some (.ref r), z2, z3, z4, z5] ∧ O1 = (r, ro) :: O ∧ ListO (((List.range k).map fun k => ruleF k (ns.getD k 0)).map PV.s) ro)
    ?_ (it_range1 (n := 6) hrange (H.glob rfl) ev_int (by decide) ⟨rfl, ro, _, _, _, _, rfl, rfl, hr⟩ H.own) ?_ ?_
  · rintro k σ1 O1 ⟨ro, z2, z3, z4, z5, rfl, _⟩; exact lt_of_blt rfl
  rotate_left
  · rintro σ1 O1 ⟨ro, z2, z3, z4, z5, rfl, rfl, hro⟩
    exact s_ret (v_ H 1 rfl rfl) ⟨r, ro, rfl, rfl, rfl, hro⟩
  rintro k pv σ1 O1 F2 hk ⟨ro, z2, z3, z4, z5, rfl, rfl, hro⟩ hF2
  have hk6 : k < 6 := by have := (List.getElem?_eq_some_iff.mp hk).1; rwa [rangePV_len] at this
  rw [rangePV_get hk6] at hk
  have e1 := zk k
  rw [e1] at hk
  cases hk
  have hm2 : (na, no) ∈ F2 := hF2 _ (hsub _ hm)
  dsimp only [List.set_cons_zero, List.set_cons_succ]
  have hleft : (256 : Int) + Int.fdiv (k : Int) 2 = ((leftF k : Nat) : Int) := by unfold leftF; rw [Int.fdiv_eq_ediv_of_nonneg _ (by decide)]; omega
  have hl3 : leftF k < 259 := by unfold leftF; omega
  have hl0 : 256 ≤ leftF k := by unfold leftF; omega
  refine s_asg H 3 rfl (lt_of_blt rfl) (ev_eq (ev_add ev_int (ev_fdiv (v_ H 2 rfl rfl) ev_int (by decide) (PyProof.noPylong_small (by decide)))) (by rw [hleft])) ?_
  dsimp only [List.set_cons_zero, List.set_cons_succ]
  generalize hL : leftF k = lf at hl3 hl0
  have two : ∀ {σ : Sto} {O F : Led} {p p1 p2 p3 p4 : Pos} {k2 : Nat} {e : Expr} {n : Nat}, Evp c σ O F e (.int (n : Int)) → n ≤ 1000 → (∀ env, starEach [e] env = [(false, eval e env)]) → Evp c σ O F (.BinOp (.Call (.Name (Str.ofString "chr") p) [e] [] p1) .Mult (.Constant (.int 2) k2 p2) p3) (.s [n, n]) :=
    fun h hn hst => ev_eq (ev_muls (nchr_ Hn hchr rfl h (Nat.le_trans hn (by decide)) hst) ev_int (mul_ok _)) (by rw [mul_two])
  -- first
  refine s_asg H 4 rfl (lt_of_blt rfl) (pv := .s (firstF lf)) ?_ ?_
  · refine ev_eq (ev_adds (a := mk [34, 61, 88, 120]) (b := mk (if lf < 258 then [lf + 1, lf + 1] else [120, 88])) (ev_eq ev_str (by rw [lit_first])) ?_ ?_) (by rw [mk_append]; rfl)
    · refine ev_ite (b := decide (lf < 258)) (ts_eq (ts_cmpp (v_ H 3 rfl rfl) ev_int (.ltI _ _)) (by simp; omega)) (fun e => ?_) (fun e => ?_)
      · rw [if_pos (of_decide_eq_true e)]
        exact two (n := lf + 1) (p4 := ⟨0, 0, 0, 0⟩) (ev_eq (ev_add (v_ H 3 rfl rfl) ev_int) (by push_cast; rfl)) (Nat.le_trans hl3 (by decide)) (fun _ => rfl)
      · rw [if_neg (of_decide_eq_false e)]
        exact ev_eq ev_str (by rw [lit_xX])
    · rw [mk_length, mk_length, sizeLine_eq]; split <;> simp
  dsimp only [List.set_cons_zero, List.set_cons_succ]
  -- second
  refine s_asg H 5 rfl (lt_of_blt rfl) (pv := .s (secondF lf)) ?_ ?_
  · refine ev_eq (ev_adds (a := mk [34, 61, 88, 120]) (b := mk (if lf = 256 then [258, 258] else [120, 88])) (ev_eq ev_str (by rw [lit_first])) ?_ ?_) (by rw [mk_append]; rfl)
    · refine ev_ite (b := decide (lf = 256)) (ts_eq (ts_cmpp (v_ H 3 rfl rfl) ev_int (.eqI _ _)) (by rw [Bool.eq_iff_iff]; simp; omega)) (fun e => ?_) (fun e => ?_)
      · rw [if_pos (of_decide_eq_true e)]
        exact two (n := 258) (p4 := ⟨0, 0, 0, 0⟩) ev_int (by decide) (fun _ => rfl)
      · rw [if_neg (of_decide_eq_false e)]
        exact ev_eq ev_str (by rw [lit_xX])
    · rw [mk_length, mk_length, sizeLine_eq]; split <;> simp
  dsimp only [List.set_cons_zero, List.set_cons_succ]
  -- the rule
  have hnk : ∀ {σ : Sto} {Ox Fx : Led} {p1 p2 p3 : Pos}, σ[0]? = some (some (.ref na)) → σ[2]? = some (some (.int (k : Int))) → (na, no) ∈ Fx → Evp c σ Ox Fx (.Subscript (.Name (Str.ofString "numbers") p1) (.Name (Str.ofString "k") p2) p3) (.int (ns.getD k 0)) :=
    fun h0 h2 hmm => ev_listitem (i := k) (v_ H 0 rfl h0) (v_ H 2 rfl h2) (List.mem_append_right _ hmm) hl (by rw [List.getElem?_map, List.getD_eq_getElem?_getD, List.getElem?_eq_getElem (by omega)]; rfl) (by simp; omega)
  have hf6 := firstF_len lf
  have hs6 := secondF_len lf
  have hget : ∀ (l : List Nat) (i : Nat) (h : i < l.length), [l[i]] = [l.getD i 0] := fun l i h => by rw [List.getD_eq_getElem?_getD, List.getElem?_eq_getElem h]; rfl
  have q1 := sixth_lt (ns.getD k 0)
  have q2 := sixth_lt (Int.fdiv (ns.getD k 0) 6)
  refine ex_cons (ex_expr (ev_append (pv := .s (ruleF k (ns.getD k 0))) (v_ H 1 rfl rfl) (ev_eq (ev_adds (ev_eq (ev_adds (nchr_ Hn hchr rfl (v_ H 3 rfl rfl) (by omega)) (ev_eq (item_ (i := sixth (ns.getD k 0)) (v_ H 4 rfl rfl) (by rw [← sixth_is]; exact ev_fmod (hnk rfl rfl hm2) ev_int (by decide)) (by omega) (by omega)) (by rw [hget])) (by rw [mk_length, mk_length, sizeLine_eq]; simp)) (by rw [mk_append])) (ev_eq (item_ (i := sixth (Int.fdiv (ns.getD k 0) 6)) (v_ H 5 rfl rfl) (by rw [← sixth_is]; exact ev_fmod (ev_fdiv (hnk rfl rfl hm2) ev_int (by decide) (PyProof.noPylong_small (by decide))) ev_int (by decide)) (by omega) (by omega)) (by rw [hget])) (by rw [mk_length, mk_length, sizeLine_eq]; simp)) (by rw [mk_append]; unfold ruleF; rw [hL]; rfl)) hro (by simp; omega) ?_) (by unfold interactive; rw [c.hek]; rfl))
  intro ro' hro'
  refine ex_nil ⟨rfl, ro', _, _, _, _, rfl, rfl, ?_⟩
  have e : ((List.range (k + 1)).map fun k => ruleF k (ns.getD k 0)).map PV.s = ((List.range k).map fun k => ruleF k (ns.getD k 0)).map PV.s ++ [.s (ruleF k (ns.getD k 0))] := by rw [List.range_succ]; simp
  rw [e]; exact hro'
end Mine
end
section
open PySem PySem.W PyProof.Rows PySem.Calls
set_option autoImplicit false
set_option linter.unusedVariables false
set_option linter.unusedSimpArgs false
set_option maxRecDepth 20000
namespace Mine

/-! ### lists of tuples -/
def PList {α : Type} (tp : α → List PV) (es : List α) (L : Led) (o : Obj) : Prop := ∃ as : List Addr, ListO (as.map .ref) o ∧ All2 (fun e a => ∃ ob, (a, ob) ∈ L ∧ TupO (tp e) ob) es as
theorem PList.one {α : Type} {tp : α → List PV} {e : α} {L : Led} {a : Addr} {ob o : Obj} (hl : ListO [.ref a] o) (hm : (a, ob) ∈ L) (ht : TupO (tp e) ob) : PList tp [e] L o := ⟨[a], hl, .cons ⟨ob, hm, ht⟩ .nil⟩
theorem PList.last {α : Type} {tp : α → List PV} {es : List α} {e : α} {L : Led} {o : Obj} (h : PList tp (es ++ [e]) L o) : ∃ (as : List Addr) (a : Addr) (ob : Obj), ListO (as.map PV.ref ++ [.ref a]) o ∧ as.length = es.length ∧ (a, ob) ∈ L ∧ TupO (tp e) ob ∧ ∀ o', ListO (as.map .ref) o' → PList tp es L o' := by
  obtain ⟨as, h1, h2⟩ := h
  obtain ⟨as', a, rfl, h3, ob, h4, h5⟩ := h2.snoc
  exact ⟨as', a, ob, by simpa using h1, h3.length.symm, h4, h5, fun o' h => ⟨as', h, h3⟩⟩
theorem PList.list {α : Type} {tp : α → List PV} {es : List α} {L : Led} {o : Obj} (h : PList tp es L o) : ∃ as : List Addr, ListO (as.map .ref) o ∧ as.length = es.length ∧ ∀ (L' : Led) (a : Addr) (ob : Obj) (e : α) (o' : Obj), (∀ p ∈ L, p ∈ L') → (a, ob) ∈ L' → TupO (tp e) ob → ListO (as.map PV.ref ++ [.ref a]) o' → PList tp (es ++ [e]) L' o' := by
  obtain ⟨as, h1, h2⟩ := h
  exact ⟨as, h1, h2.length.symm, fun L' a ob e o' hs hm ht hl => ⟨as ++ [a], by simpa using hl, (h2.mono fun e a ⟨ob, h3, h4⟩ => ⟨ob, hs _ h3, h4⟩).append (.cons ⟨ob, hm, ht⟩ .nil)⟩⟩

/-! ### the grammar -/
def sz (s : Nat) : Nat := if s = 256 then 9 else if s = 257 then 5 else if s = 258 then 3 else 1
def lv (s : Nat) : Nat := if s = 256 then 16 else if s = 257 then 4 else if s = 258 then 2 else 1
def Sy (s : Nat) : Prop := s = 34 ∨ s = 61 ∨ s = 88 ∨ s = 120 ∨ s = 256 ∨ s = 257 ∨ s = 258
theorem sz1 {s : Nat} (h : s < 256) : sz s = 1 ∧ lv s = 1 := by
  have h1 := Nat.ne_of_lt h
  have h2 := Nat.ne_of_lt (Nat.lt_succ_of_lt h)
  have h3 := Nat.ne_of_lt (Nat.lt_succ_of_lt (Nat.lt_succ_of_lt h))
  unfold sz lv
  rw [if_neg h1, if_neg h2, if_neg h3, if_neg h1, if_neg h2, if_neg h3]; exact ⟨rfl, rfl⟩
theorem Sy.hi {s : Nat} (h : Sy s) (hge : 256 ≤ s) : s = 256 ∨ s = 257 ∨ s = 258 := by
  rcases h with rfl | rfl | rfl | rfl | h | h | h
  · exact absurd hge (by decide)
  · exact absurd hge (by decide)
  · exact absurd hge (by decide)
  · exact absurd hge (by decide)
  · exact .inl h
  · exact .inr (.inl h)
  · exact .inr (.inr h)
theorem Sy.lo {s : Nat} (h : Sy s) (hlt : s < 256) : s = 34 ∨ s = 61 ∨ s = 88 ∨ s = 120 := by
  rcases h with h | h | h | h | rfl | rfl | rfl
  · exact .inl h
  · exact .inr (.inl h)
  · exact .inr (.inr (.inl h))
  · exact .inr (.inr (.inr h))
  · exact absurd hlt (by decide)
  · exact absurd hlt (by decide)
  · exact absurd hlt (by decide)
theorem Sy.ne0 {s : Nat} (h : Sy s) : s ≠ 0 := by rcases h with rfl | rfl | rfl | rfl | rfl | rfl | rfl <;> decide
def szL : List Nat → Nat
  | [] => 0
  | c :: r => sz c + szL r
def lvL : List Nat → Nat
  | [] => 1
  | c :: r => lv c * lvL r
def RuleOK (N : Nat) (r : List Nat) : Prop := ∃ x y, r = [N, x, y] ∧ Sy x ∧ Sy y ∧ sz x + sz y < sz N ∧ 2 * (lv x * lv y) ≤ lv N
def Gram (R : List (List Nat)) : Prop := ∃ r0 r1 r2 r3 r4 r5, R = [r0, r1, r2, r3, r4, r5] ∧ RuleOK 256 r0 ∧ RuleOK 256 r1 ∧ RuleOK 257 r2 ∧ RuleOK 257 r3 ∧ RuleOK 258 r4 ∧ RuleOK 258 r5

theorem rule_ok (k : Nat) (hk : k < 6) (n : Int) : RuleOK (leftF k) (ruleF k n) := by
  refine ⟨_, _, rfl, ?_⟩
  have h1 := sixth_lt n
  have h2 := sixth_lt (Int.fdiv n 6)
  generalize sixth n = a at h1
  generalize sixth (Int.fdiv n 6) = b at h2
  have key : ∀ l ∈ [256, 257, 258], ∀ a ∈ List.range 6, ∀ b ∈ List.range 6, ((firstF l).getD a 0 ∈ [34, 61, 88, 120, 256, 257, 258]) ∧ ((secondF l).getD b 0 ∈ [34, 61, 88, 120, 256, 257, 258]) ∧ sz ((firstF l).getD a 0) + sz ((secondF l).getD b 0) < sz l ∧ 2 * (lv ((firstF l).getD a 0) * lv ((secondF l).getD b 0)) ≤ lv l := by decide +kernel
  have hl : leftF k ∈ [256, 257, 258] := by
    unfold leftF
    match k, hk with
    | 0, _ => decide
    | 1, _ => decide
    | 2, _ => decide
    | 3, _ => decide
    | 4, _ => decide
    | 5, _ => decide
  obtain ⟨q1, q2, q3, q4⟩ := key _ hl a (List.mem_range.mpr h1) b (List.mem_range.mpr h2)
  exact ⟨by simpa [Sy] using q1, by simpa [Sy] using q2, q3, q4⟩
theorem gram_rules (ns : List Int) : Gram (rulesF ns) :=
  ⟨_, _, _, _, _, _, rfl, rule_ok 0 (by decide) _, rule_ok 1 (by decide) _, rule_ok 2 (by decide) _, rule_ok 3 (by decide) _, rule_ok 4 (by decide) _, rule_ok 5 (by decide) _⟩

/-- what the symbols ahead of the end marker can become -/
inductive DerS (R : List (List Nat)) : List Nat → List Nat → Prop
  | fin : DerS R [0] []
  | term {c : Nat} {r w : List Nat} (h1 : c < 256) (h0 : c ≠ 0) (h : DerS R r w) : DerS R (c :: r) (c :: w)
  | nont {N x y : Nat} {r w : List Nat} (hN : 256 ≤ N) (hm : [N, x, y] ∈ R) (h : DerS R (x :: y :: r) w) : DerS R (N :: r) w

theorem DerS.fin_iff {R : List (List Nat)} {w : List Nat} : DerS R [0] w ↔ w = [] := by
  constructor
  · intro h
    cases h with
    | fin => rfl
    | term h1 h0 h => exact absurd rfl h0
    | nont hN _ _ => omega
  · rintro rfl; exact .fin
theorem DerS.term_iff {R : List (List Nat)} {c : Nat} {r w : List Nat} (hc : c < 256) (h0 : c ≠ 0) : DerS R (c :: r) w ↔ ∃ w', w = c :: w' ∧ DerS R r w' := by
  constructor
  · intro h
    cases h with
    | fin => exact absurd rfl h0
    | term h1 h0 h => exact ⟨_, rfl, h⟩
    | nont hN _ _ => omega
  · rintro ⟨w', rfl, h⟩; exact .term hc h0 h
theorem DerS.nont_iff {R : List (List Nat)} {N : Nat} {r w : List Nat} (hN : 256 ≤ N) : DerS R (N :: r) w ↔ ∃ x y, [N, x, y] ∈ R ∧ DerS R (x :: y :: r) w := by
  constructor
  · intro h
    cases h with
    | fin => omega
    | term h1 _ _ => omega
    | nont _ hm h => exact ⟨_, _, hm, h⟩
  · rintro ⟨x, y, hm, h⟩; exact .nont hN hm h

abbrev Fm := List Nat × List Nat
abbrev tpF (f : Fm) : List PV := [.s f.1, .s f.2]
def FormOK (f : Fm) : Prop := (∃ syms, f.2 = syms ++ [0] ∧ ∀ s ∈ syms, Sy s) ∧ f.1.length + szL f.2 ≤ 10
def mass : List Fm → Nat
  | [] => 0
  | f :: r => 3 ^ szL f.2 + mass r
def lvs : List Fm → Nat
  | [] => 0
  | f :: r => lvL f.2 + lvs r
theorem mass_append (a b : List Fm) : mass (a ++ b) = mass a + mass b := by induction a with | nil => simp [mass] | cons f r ih => simp [mass, ih]; omega
theorem lvs_append (a b : List Fm) : lvs (a ++ b) = lvs a + lvs b := by induction a with | nil => simp [lvs] | cons f r ih => simp [lvs, ih]; omega
theorem mass_len (a : List Fm) : a.length ≤ mass a := by
  induction a with
  | nil => simp [mass]
  | cons f r ih => have : 0 < 3 ^ szL f.2 := Nat.pow_pos (by decide); simp only [mass, List.length_cons]; omega
theorem len_sz : ∀ l : List Nat, l.length ≤ szL l
  | [] => Nat.le_refl _
  | c :: r => by
    have := len_sz r
    have h : 1 ≤ sz c := by unfold sz; split <;> (try split) <;> (try split) <;> decide
    simp only [szL, List.length_cons]; omega
/-- the forms that the rules lay for a nonterminal -/
def newF (told : List Nat) (N : Nat) (r : List Nat) (rs : List (List Nat)) : List Fm := (rs.filter fun u => u.take 1 == [N]).map fun u => (told, u.drop 1 ++ r)

theorem gram_new {R : List (List Nat)} (g : Gram R) {N : Nat} (hN : N = 256 ∨ N = 257 ∨ N = 258) (told r : List Nat) : ∃ x1 y1 x2 y2, newF told N r R = [(told, x1 :: y1 :: r), (told, x2 :: y2 :: r)] ∧ RuleOK N [N, x1, y1] ∧ RuleOK N [N, x2, y2] ∧
    ∀ x y, [N, x, y] ∈ R ↔ (x = x1 ∧ y = y1) ∨ (x = x2 ∧ y = y2) := by
  obtain ⟨r0, r1, r2, r3, r4, r5, rfl, ⟨a0, b0, rfl, h0⟩, ⟨a1, b1, rfl, h1⟩, ⟨a2, b2, rfl, h2⟩, ⟨a3, b3, rfl, h3⟩, ⟨a4, b4, rfl, h4⟩, ⟨a5, b5, rfl, h5⟩⟩ := g
  rcases hN with rfl | rfl | rfl
  · exact ⟨a0, b0, a1, b1, rfl, ⟨_, _, rfl, h0⟩, ⟨_, _, rfl, h1⟩, fun x y => by simp⟩
  · exact ⟨a2, b2, a3, b3, rfl, ⟨_, _, rfl, h2⟩, ⟨_, _, rfl, h3⟩, fun x y => by simp⟩
  · exact ⟨a4, b4, a5, b5, rfl, ⟨_, _, rfl, h4⟩, ⟨_, _, rfl, h5⟩, fun x y => by simp⟩
end Mine
end
section
open PySem PySem.W PyProof.Rows PySem.Calls
set_option autoImplicit false
set_option linter.unusedVariables false
set_option linter.unusedSimpArgs false
set_option maxRecDepth 20000
namespace Mine

theorem lt256i {s : Nat} (h : (s : Int) < 256) : s < 256 := by omega
theorem nlt256i {s : Nat} (h : ¬ (s : Int) < 256) : 256 ≤ s := by omega
/-- what is told and what is still to be told make the grammar's words -/
def Tgt (R : List (List Nat)) (W : List (List Nat)) (FS : List Fm) : Prop := ∀ x, DerS R [256, 0] x ↔ x ∈ W ∨ ∃ f ∈ FS, ∃ u, x = f.1 ++ u ∧ DerS R f.2 u
section
variable {R W : List (List Nat)} {FS' : List Fm} {told : List Nat}
theorem tgt_last {s : List Nat} (htgt : Tgt R W (FS' ++ [(told, s)])) : ∀ x, DerS R [256, 0] x ↔ x ∈ W ∨ (∃ f ∈ FS', ∃ u, x = f.1 ++ u ∧ DerS R f.2 u) ∨ ∃ u, x = told ++ u ∧ DerS R s u := by
  intro x; rw [htgt x]
  simp only [List.mem_append, List.mem_singleton]
  constructor
  · rintro (h | ⟨f, h | rfl, u, h1, h2⟩)
    · exact .inl h
    · exact .inr (.inl ⟨f, h, u, h1, h2⟩)
    · exact .inr (.inr ⟨u, h1, h2⟩)
  · rintro (h | ⟨f, h, u, h1, h2⟩ | ⟨u, h1, h2⟩)
    · exact .inl h
    · exact .inr ⟨f, .inl h, u, h1, h2⟩
    · exact .inr ⟨(told, s), .inr rfl, u, h1, h2⟩
theorem tgt_eof_new (htgt : Tgt R W (FS' ++ [(told, [0])])) : Tgt R (W ++ [told]) FS' := by
  have htgt' := tgt_last htgt
  intro x
  rw [htgt' x]
  simp only [List.mem_append, List.mem_singleton, DerS.fin_iff]
  constructor
  · rintro (h | h | ⟨u, h1, h2⟩)
    · exact .inl (.inl h)
    · exact .inr h
    · exact .inl (.inr (by rw [h1, h2, List.append_nil]))
  · rintro ((h | h) | h)
    · exact .inl h
    · exact .inr (.inr ⟨[], by rw [h, List.append_nil], rfl⟩)
    · exact .inr (.inl h)
theorem tgt_eof_old (htgt : Tgt R W (FS' ++ [(told, [0])])) (hin : told ∈ W) : Tgt R W FS' := by
  have htgt' := tgt_last htgt
  intro x
  rw [htgt' x]
  simp only [DerS.fin_iff]
  constructor
  · rintro (h | h | ⟨u, h1, h2⟩)
    · exact .inl h
    · exact .inr h
    · exact .inl (by rw [h1, h2, List.append_nil]; exact hin)
  · rintro (h | h)
    · exact .inl h
    · exact .inr (.inl h)
theorem tgt_term {c0 : Nat} {r0 : List Nat} (htgt : Tgt R W (FS' ++ [(told, c0 :: r0)])) (hlt : c0 < 256) (hc0 : c0 ≠ 0) : Tgt R W (FS' ++ [(told ++ [c0], r0)]) := by
  have htgt' := tgt_last htgt
  intro x
  rw [htgt' x]
  simp only [List.mem_append, List.mem_singleton]
  constructor
  · rintro (h | ⟨f, h, u, h1, h2⟩ | ⟨u, h1, h2⟩)
    · exact .inl h
    · exact .inr ⟨f, .inl h, u, h1, h2⟩
    · obtain ⟨w', rfl, h3⟩ := (DerS.term_iff hlt hc0).mp h2
      exact .inr ⟨_, .inr rfl, w', by rw [h1]; simp, h3⟩
  · rintro (h | ⟨f, h | rfl, u, h1, h2⟩)
    · exact .inl h
    · exact .inr (.inl ⟨f, h, u, h1, h2⟩)
    · exact .inr (.inr ⟨c0 :: u, by rw [h1]; simp, (DerS.term_iff hlt hc0).mpr ⟨u, rfl, h2⟩⟩)
theorem tgt_nont {c0 x1 y1 x2 y2 : Nat} {r0 : List Nat} (htgt : Tgt R W (FS' ++ [(told, c0 :: r0)])) (hge : 256 ≤ c0) (hiff : ∀ a b, [c0, a, b] ∈ R ↔ (a = x1 ∧ b = y1) ∨ (a = x2 ∧ b = y2)) : Tgt R W (FS' ++ [(told, x1 :: y1 :: r0), (told, x2 :: y2 :: r0)]) := by
  have htgt' := tgt_last htgt
  intro x
  rw [htgt' x]
  simp only [List.mem_append, List.mem_cons, List.not_mem_nil, or_false]
  constructor
  · rintro (h | ⟨f, h, u, h1, h2⟩ | ⟨u, h1, h2⟩)
    · exact .inl h
    · exact .inr ⟨f, .inl h, u, h1, h2⟩
    · obtain ⟨a, b, hab, h3⟩ := (DerS.nont_iff hge).mp h2
      rcases (hiff a b).mp hab with ⟨rfl, rfl⟩ | ⟨rfl, rfl⟩
      · exact .inr ⟨_, .inr (.inl rfl), u, h1, h3⟩
      · exact .inr ⟨_, .inr (.inr rfl), u, h1, h3⟩
  · rintro (h | ⟨f, h | rfl | rfl, u, h1, h2⟩)
    · exact .inl h
    · exact .inr (.inl ⟨f, h, u, h1, h2⟩)
    · exact .inr (.inr ⟨u, h1, (DerS.nont_iff hge).mpr ⟨x1, y1, (hiff x1 y1).mpr (.inl ⟨rfl, rfl⟩), h2⟩⟩)
    · exact .inr (.inr ⟨u, h1, (DerS.nont_iff hge).mpr ⟨x2, y2, (hiff x2 y2).mpr (.inr ⟨rfl, rfl⟩), h2⟩⟩)
end

inductive WI (R : List (List Nat)) (ra w fm : Addr) (O T : Led) (n : Nat) : Sto → Led → Led → Prop
  | mk {N1 : Led} (wo fo : Obj) (z3 z4 z5 z6 : Option PV) (W : List (List Nat)) (FS : List Fm) (h1 : ListO (W.map PV.s) wo) (h2 : PList tpF FS (N1 ++ T) fo) (h3 : W.Nodup) (h4 : ∀ f ∈ FS, FormOK f) (h5 : mass FS = n) (h6 : n ≤ 59049) (h7 : W.length + lvs FS ≤ 16)
      (h8 : Tgt R W FS) :
    WI R ra w fm O T n [some (.ref ra), some (.ref w), some (.ref fm), z3, z4, z5, z6] ((w, wo) :: (fm, fo) :: O) N1
/-- the loop over the rules -/
inductive WI2 (R : List (List Nat)) (ra w fm : Addr) (O T : Led) (told : List Nat) (c0 : Nat) (r0 : List Nat) (wo : Obj) (FS' : List Fm) (j : Nat) : Sto → Led → Led → Prop
  | mk {N2 : Led} (fo2 : Obj) (z6 : Option PV) (h : PList tpF (FS' ++ newF told c0 r0 (R.take j)) (N2 ++ T) fo2) :
    WI2 R ra w fm O T told c0 r0 wo FS' j [some (.ref ra), some (.ref w), some (.ref fm), some (.s told), some (.s (c0 :: r0)), some (.int (c0 : Int)), z6] ((fm, fo2) :: (w, wo) :: O) N2

theorem words_fn {G : GC} (hchr : nsIn G.K mainGlobals (Str.ofString "chr") = some none) (hord : nsIn G.K mainGlobals (Str.ofString "ord") = some none) (hsorted : nsIn G.K mainGlobals (Str.ofString "sorted") = some none)
    (heofc : ∃ t, nsIn G.K mainGlobals (Str.ofString "ENDMARKER") = some (some (.int 0 t)))
    {f fe ft fn : Addr} (D : DefAt G (Str.ofString "_law_words") f (fnP PP 19) (fnB PP 19) (fnS PP 19))
    (ne : nsIn G.K mainGlobals (Str.ofString "ISEOF") = some (some (.ref fe))) (ke : keepIn G.K (.ref fe) = true) (nt : nsIn G.K mainGlobals (Str.ofString "ISTERMINAL") = some (some (.ref ft))) (kt : keepIn G.K (.ref ft) = true)
    (nn : nsIn G.K mainGlobals (Str.ofString "ISNONTERMINAL") = some (some (.ref fn))) (kn : keepIn G.K (.ref fn) = true)
    (he : ∀ x, FnPure G fe 1 3 [.int x] (.bool (x == 0))) (ht : ∀ x, FnPure G ft 1 3 [.int x] (.bool (decide (x < 256)))) (hn : ∀ x, FnPure G fn 1 3 [.int x] (.bool (decide (256 ≤ x))))
    (R : List (List Nat)) (g : Gram R) (ra : Addr) (ro : Obj) (O F : Led) (hm : (ra, ro) ∈ F) (hl : ListO (R.map PV.s) ro) :
    FnSpec G f 2 6 [.ref ra] O F fun pv O' N => ∃ a o ts, pv = .ref a ∧ O' = (a, o) :: O ∧ ListO (ts.map PV.s) o ∧ SortedT ts ∧ ts.Nodup ∧ ts.length ≤ 16 ∧ ∀ x, x ∈ ts ↔ DerS R [256, 0] x := by
  refine fn_of_body D [Str.ofString "rules", Str.ofString "words", Str.ofString "forms", Str.ofString "told", Str.ofString "rest", Str.ofString "symbol", Str.ofString "rule"] ?_ (by decide) (by decide) rfl rfl rfl (by decide) (by simp) ?_
  · intro name qual doc pm an cdv ct vals hv
    obtain ⟨v1, rfl⟩ := len1 hv; rfl
  intro c F' H room hsub
  refine Ex.cut fun P0 hP0 => ?_
  have Hn := H.nms
  obtain ⟨te, heofc⟩ := heofc
  refine ex_cons (asg_ H 1 rfl (lt_of_blt rfl) (ev_list ta_np (by decide) ?_))
  intro w wo hw
  simp only [List.map_cons, List.map_nil, List.cons_append, List.nil_append, List.length_cons, List.length_nil, List.replicate_succ, List.replicate_zero, List.set_cons_zero, List.set_cons_succ, List.append_nil]
  refine ex_cons (asg_ H 2 rfl (lt_of_blt rfl) (ev_list1 (ev_tuple (xs := tpF ([], [256, 0])) (ta_pp (ev_eq ev_str (by rw [lit_e])) (ta_pp (ev_eq (ev_adds (nchr_ Hn (n := 256) hchr rfl ev_int (by decide)) (nchr_ Hn (n := 0) hchr rfl (g_ H heofc (pv := .int 0) ⟨_, rfl⟩ rfl) (by decide)) (by rw [mk_length, mk_length, sizeLine_eq]; decide)) (by rw [mk_append]; rfl)) ta_np)) (by simp [sizeLine_eq]) ?_)))
  intro t0 ot0 ht0 fm fo hfm
  simp only [List.map_cons, List.map_nil, List.cons_append, List.nil_append, List.set_cons_zero, List.set_cons_succ, List.append_nil]
  refine TG.permO (List.Perm.trans (List.Perm.swap _ _ _) (List.Perm.cons _ (List.Perm.swap _ _ _))) ?_
  refine TG.freezeN ?_
  refine ex_cons (ex_while (fun n σ1 O1 N1 => WI R ra w fm O [(t0, ot0)] n σ1 O1 N1) 59049 ?_ ?_)
  · refine ⟨wo, fo, _, _, _, _, [], [([], [256, 0])], hw, PList.one hfm (.head _) ht0, List.nodup_nil, ?_, by decide, by decide, by decide, ?_⟩
    · intro f hf
      have : f = ([], [256, 0]) := by simpa using hf
      subst this
      exact ⟨⟨[256], rfl, fun s hs => by have : s = 256 := by simpa using hs
                                         subst this; simp [Sy]⟩, by decide⟩
    · intro x; simp
  rintro n σ1 O1 N1 ⟨wo, fo, z3, z4, z5, z6, W, FS, hW, hF, hWn, hok, hmass, hn6, hleaf, htgt⟩
  have hlenFS : FS.length ≤ 59049 := Nat.le_trans (mass_len FS) (hmass ▸ hn6)
  refine ⟨!FS.isEmpty, ?_, ?_, ?_⟩
  · obtain ⟨as, hla, hal, _⟩ := hF.list
    have e : (!FS.isEmpty) = (!(as.map PV.ref).isEmpty) := by cases FS <;> cases as <;> simp_all
    rw [e]
    refine ts_cmpG (v_ H 2 rfl rfl) (R1 := fun pv O1 N1 => ∃ a o, pv = .ref a ∧ O1 = (a, o) :: (w, wo) :: (fm, fo) :: O ∧ N1 = [] ∧ ListO [] o) (ev_list ta_np (by decide) fun a o h => ⟨a, o, rfl, rfl, rfl, h⟩) ?_
    rintro vl vr pr O1 N1 il ir ⟨a, o, rfl, rfl, rfl, ho⟩
    cases il; cases ir
    exact ⟨List.Sublist.cons _ (List.Sublist.refl _), rfl, cm_ne_empty (listAt_led (List.mem_append_left _ (.tail _ (.tail _ (.head _)))) hla) (listAt_led (List.mem_append_left _ (.head _)) ho) (room.le (by decide) (by decide))⟩
  · intro hb
    refine Ex.cut fun P1 hP1 => ?_
    obtain ⟨FS', f0, rfl⟩ : ∃ FS' f0, FS = FS' ++ [f0] := by
      have hne : FS ≠ [] := by intro e; subst e; simp at hb
      exact ⟨FS.dropLast, FS.getLast hne, (List.dropLast_concat_getLast hne).symm⟩
    obtain ⟨as, a0, ob0, hla, hal, hm0, ht0', hrest⟩ := hF.last
    obtain ⟨told, rest⟩ := f0
    obtain ⟨⟨syms, hsy, hsyms⟩, hlen⟩ := hok (told, rest) (by simp)
    have hasl : (as.map PV.ref).length ≤ 59049 := by rw [List.length_map, hal]; exact Nat.le_trans (by rw [List.length_append]; exact Nat.le_add_right _ _) hlenFS
    have hrF : (ra, ro) ∈ N1 ++ ((t0, ot0) :: F') := List.mem_append_right _ (.tail _ (hsub _ hm))
    have hm0' : (a0, ob0) ∈ N1 ++ ((t0, ot0) :: F') := by
      rcases List.mem_append.mp hm0 with q | q
      · exact List.mem_append_left _ q
      · exact List.mem_append_right _ (List.mem_singleton.mp q ▸ .head _)
    refine TG.permO (List.Perm.swap _ _ _) ?_
    refine ex_cons (ex_unpack2 3 4 (ev_pop (pv := .ref a0) (v_ H 2 rfl rfl) hla (Nat.le_trans hasl (by decide)) ?_) (H.name rfl) (H.kind (i := 3) rfl) (H.name rfl) (H.kind (i := 4) rfl) H.L (lt_of_blt rfl) (lt_of_blt rfl))
    intro fo' hfo'
    have hFS' := hrest fo' hfo'
    refine ⟨a0, ob0, _, _, rfl, ht0', List.mem_append_right _ (by simpa using hm0'), ?_⟩
    simp only [List.set_cons_zero, List.set_cons_succ, List.nil_append]
    obtain ⟨c0, r0, hr⟩ : ∃ c r, rest = c :: r := by subst hsy; cases syms <;> exact ⟨_, _, rfl⟩
    have hrl : rest.length ≤ 10 := by have := len_sz rest; simp only at hlen; omega
    have htl : told.length ≤ 10 := by simp only at hlen; omega
    subst hr
    have hrM : (c0 :: r0).length ≤ 1048576 := Nat.le_trans hrl (by decide)
    simp only at hsy hlen
    have hpos : 0 < 3 ^ szL (c0 :: r0) := Nat.pow_pos (by decide)
    have hmass' : mass FS' + 3 ^ szL (c0 :: r0) = n := by rw [← hmass, mass_append]; simp [mass]
    have hmlt : mass FS' < n := hmass' ▸ Nat.lt_add_of_pos_right hpos
    have hm9 : mass FS' ≤ 59049 := Nat.le_trans (Nat.le_of_lt hmlt) hn6
    have hleaf' : W.length + (lvs FS' + lvL (c0 :: r0)) ≤ 16 := by rw [lvs_append] at hleaf; simpa [lvs] using hleaf
    have hok' : ∀ f ∈ FS', FormOK f := fun f hf => hok f (by simp [hf])
    refine s_asg H 5 rfl (lt_of_blt rfl) (nord_ Hn (n := c0) hord rfl (item_ (l := c0 :: r0) (i := 0) (v_ H 4 rfl rfl) ev_int (Nat.succ_pos _) hrM)) ?_
    dsimp only [List.set_cons_zero, List.set_cons_succ]
    refine ex_cons (ex_if (b := ((c0 : Int) == 0)) (ts_call (callp_ H ne ke rfl (ta_pp (v_ H 5 rfl rfl) ta_np) (he _) (room.le (by decide) (by decide)))) (fun e => ?_) (fun e => ?_))
    · have hc0 : c0 = 0 := Int.ofNat_eq_zero.mp (eq_of_beq e)
      subst hc0
      have hr0 : r0 = [] := by
        cases syms with
        | nil => simpa using hsy
        | cons s t =>
          have h1 := hsyms s (.head _)
          have h2 : (0 : Nat) = s := by simpa using congrArg List.head? hsy
          rw [← h2] at h1; exact absurd rfl h1.ne0
      subst hr0
      have hlv1 : lvL [0] = 1 := rfl
      rw [hlv1] at hleaf'
      refine ex_cons (ex_if (b := !W.contains told) (ts_cmp (v_ H 3 rfl rfl) (v_ H 1 rfl rfl) rfl (fun vl vr il ir => ?_)) (fun e2 => ?_) (fun e2 => ?_))
      · obtain ⟨t, rfl⟩ := il
        cases ir
        exact cm_notin_list (listAt_led (List.mem_append_left _ (.tail _ (.head _))) hW)
      · have hnotin : told ∉ W := by simpa using e2
        refine TG.permO (List.Perm.swap _ _ _) ?_
        refine ex_cons (ex_expr (ev_append (pv := .s told) (v_ H 1 rfl rfl) (v_ H 3 rfl rfl) hW (map_le (Nat.le_trans (Nat.le_add_right _ _) hleaf')) ?_) (by unfold interactive; rw [c.hek]; rfl))
        intro wo' hwo'
        refine ex_nil (ex_nil (ex_nil (hP1 _ _ _ _ ?_)))
        refine ⟨mass FS', hmlt, wo', fo', _, _, _, _, W ++ [told], FS', by simpa using hwo', by simpa using hFS', ?_, hok', rfl, hm9, by simp; omega, ?_⟩
        · refine List.nodup_append.mpr ⟨hWn, by simp, fun a ha b hb' e => ?_⟩
          have hbt : b = told := by simpa using hb'
          subst hbt; subst e; exact hnotin ha
        · exact tgt_eof_new htgt
      · have hin : told ∈ W := by simpa using e2
        refine TG.permO (List.Perm.swap _ _ _) ?_
        refine ex_nil (ex_nil (ex_nil (hP1 _ _ _ _ ?_)))
        refine ⟨mass FS', hmlt, wo, fo', _, _, _, _, W, FS', hW, by simpa using hFS', hWn, hok', rfl, hm9, Nat.le_trans (Nat.add_le_add_left (Nat.le_add_right _ _) _) hleaf', ?_⟩
        exact tgt_eof_old htgt hin
    · have hc0 : c0 ≠ 0 := by intro q; subst q; simp at e
      obtain ⟨s', rfl⟩ : ∃ s', syms = c0 :: s' := by
        cases syms with
        | nil => exact absurd (by simpa using congrArg List.head? hsy) hc0
        | cons s t => have h2 : c0 = s := by simpa using congrArg List.head? hsy
                      subst h2; exact ⟨t, rfl⟩
      have hr0 : r0 = s' ++ [0] := by simpa using hsy
      have hcS := hsyms c0 (.head _)
      have hs' : ∀ s ∈ s', Sy s := fun s hs => hsyms s (.tail _ hs)
      refine ex_cons (ex_if (b := decide ((c0 : Int) < 256)) (ts_call (callp_ H nt kt rfl (ta_pp (v_ H 5 rfl rfl) ta_np) (ht _) (room.le (by decide) (by decide)))) (fun e => ?_) (fun e => ?_))
      · have hlt : c0 < 256 := lt256i (of_decide_eq_true e)
        obtain ⟨hsz1, hlv1⟩ := sz1 hlt
        have hszr : szL (c0 :: r0) = 1 + szL r0 := by rw [szL, hsz1]
        have hlvr : lvL (c0 :: r0) = lvL r0 := by rw [lvL, hlv1, Nat.one_mul]
        rw [hszr] at hmass' hlen
        rw [hlvr] at hleaf'
        have hpow : 3 ^ (1 + szL r0) = 3 * 3 ^ szL r0 := by rw [Nat.pow_add, Nat.pow_one]
        have hpos0 : 0 < 3 ^ szL r0 := Nat.pow_pos (by decide)
        rw [hpow] at hmass'
        obtain ⟨as1, hla1, hal1, hsn1⟩ := hFS'.list
        have hasl1 : as1.length ≤ 59049 := by rw [hal1]; exact Nat.le_trans (by rw [List.length_append]; exact Nat.le_add_right _ _) hlenFS
        refine ex_cons (ex_expr (ev_append2 (v_ H 2 rfl rfl) (ev_tuple (xs := tpF (told ++ [c0], r0)) (ta_pp (ev_eq (ev_adds (v_ H 3 rfl rfl) (item_ (l := c0 :: r0) (i := 0) (v_ H 4 rfl rfl) ev_int (Nat.succ_pos _) hrM) (two_le 10 1 htl (Nat.le_refl _))) (by rw [mk_append]; rfl)) (ta_pp (ev_eq (from_ (a := 1) (v_ H 4 rfl rfl) ev_int (Nat.succ_le_succ (Nat.zero_le _)) hrM) rfl) ta_np)) (by simp [sizeLine_eq]) ?_) hla1 (map_le hasl1)) (by unfold interactive; rw [c.hek]; rfl))
        intro t1 ot1 ht1
        refine ⟨_, List.Perm.swap _ _ _, fun fo2 hfo2 => ?_⟩
        simp only [List.nil_append]
        refine TG.permO (List.Perm.trans (List.Perm.swap _ _ _) (List.Perm.cons _ (List.Perm.swap _ _ _))) ?_
        refine TG.freezeN (ex_nil (ex_nil (ex_nil (hP1 _ _ _ _ ?_))))
        refine ⟨mass FS' + 3 ^ szL r0, by omega, wo, fo2, _, _, _, _, W, FS' ++ [(told ++ [c0], r0)], hW, ?_, hWn, ?_, by rw [mass_append]; simp [mass], by omega, by rw [lvs_append]; simpa [lvs] using hleaf', ?_⟩
        · refine hsn1 _ t1 ot1 (told ++ [c0], r0) fo2 (fun p hp => ?_) ?_ ht1 hfo2
          · simp only [List.append_assoc, List.nil_append, List.cons_append]; exact .tail _ hp
          · simp
        · intro f hf
          rcases List.mem_append.mp hf with h | h
          · exact hok' f h
          · have : f = (told ++ [c0], r0) := by simpa using h
            subst this
            exact ⟨⟨s', hr0, hs'⟩, by simp; omega⟩
        · exact tgt_term htgt hlt hc0
      · have hge : 256 ≤ c0 := nlt256i (of_decide_eq_false e)
        have hN : c0 = 256 ∨ c0 = 257 ∨ c0 = 258 := hcS.hi hge
        obtain ⟨x1, y1, x2, y2, hnew, ⟨u1, v1, q1, sx1, sy1, q2, q3⟩, ⟨u2, v2, q4, sx2, sy2, q5, q6⟩, hiff⟩ := gram_new g hN told r0
        have e1 : x1 = u1 ∧ y1 = v1 := by simpa using q1
        have e4 : x2 = u2 ∧ y2 = v2 := by simpa using q4
        obtain ⟨rfl, rfl⟩ := e1
        obtain ⟨rfl, rfl⟩ := e4
        have hR3 : ∀ u ∈ R, ∃ N x y, u = [N, x, y] := by
          obtain ⟨r0, r1, r2, r3, r4, r5, rfl, ⟨_, _, rfl, _⟩, ⟨_, _, rfl, _⟩, ⟨_, _, rfl, _⟩, ⟨_, _, rfl, _⟩, ⟨_, _, rfl, _⟩, ⟨_, _, rfl, _⟩⟩ := g
          intro u hu
          simp only [List.mem_cons, List.not_mem_nil, or_false] at hu
          rcases hu with rfl | rfl | rfl | rfl | rfl | rfl <;> exact ⟨_, _, _, rfl⟩
        have hR6 : R.length = 6 := by obtain ⟨r0, r1, r2, r3, r4, r5, rfl, _⟩ := g; rfl
        refine ex_cons (ex_if (b := decide (256 ≤ (c0 : Int))) (ts_call (callp_ H nn kn rfl (ta_pp (v_ H 5 rfl rfl) ta_np) (hn _) (room.le (by decide) (by decide)))) (fun _ => ?_) (fun e3 => by have := of_decide_eq_false e3; omega))
        refine ex_cons (for_ H 6 (items := R.map PV.s) rfl (WI2 R ra w fm O (N1 ++ [(t0, ot0)]) told c0 r0 wo FS') ?_ (it_list (TV.mono (v_ H 0 rfl rfl) fun pv O1 N1' ⟨e1, e2, e3⟩ => ⟨ra, ro, e1, hl, by subst e3; simpa using hrF, by subst e2 e3; exact ⟨fo', z6, by simpa [newF] using hFS'⟩⟩)) ?_ ?_)
        · rintro k σ1 O1 N1 ⟨⟩; exact lt_of_blt rfl
        · rintro j pv σ2 O2 N2 F2 hj ⟨fo2, z6, hP⟩ hF2
          refine Ex.cut fun P2 hP2 => ?_
          have hjl : j < R.length := by have := (List.getElem?_eq_some_iff.mp hj).1; simpa using this
          rw [List.getElem?_map, List.getElem?_eq_getElem hjl] at hj
          cases hj
          obtain ⟨N, x, y, hu⟩ := hR3 R[j] (List.getElem_mem hjl)
          have htake : R.take (j + 1) = R.take j ++ [R[j]] := List.take_succ_eq_append_getElem hjl
          dsimp only [List.set_cons_zero, List.set_cons_succ]
          rw [hu] at htake ⊢
          refine ex_cons (ex_if (b := ([N] == [c0])) (ts_eq (ts_cmpp (item_ (l := [N, x, y]) (i := 0) (v_ H 6 rfl rfl) ev_int (Nat.le_of_ble_eq_true rfl) (Nat.le_of_ble_eq_true rfl)) (item_ (l := c0 :: r0) (i := 0) (v_ H 4 rfl rfl) ev_int (Nat.succ_pos _) hrM) (.eqS _ _)) (by rw [mk_eq]; rfl)) (fun e5 => ?_) (fun e5 => ?_))
          · have hNc : N = c0 := by simpa using e5
            obtain ⟨as1, hla1, hal1, hsn1⟩ := hP.list
            have hnl : (newF told c0 r0 (R.take j)).length ≤ 6 := by
              unfold newF
              rw [List.length_map]
              exact Nat.le_trans (List.length_filter_le _ _) (take_le (Nat.le_of_eq hR6))
            refine ex_cons (ex_expr (ev_append2 (v_ H 2 rfl rfl) (ev_tuple (xs := tpF (told, [x, y] ++ r0)) (ta_pp (v_ H 3 rfl rfl) (ta_pp (ev_eq (ev_adds (from_ (l := [N, x, y]) (a := 1) (v_ H 6 rfl rfl) ev_int (Nat.le_of_ble_eq_true rfl) (Nat.le_of_ble_eq_true rfl)) (from_ (l := c0 :: r0) (a := 1) (v_ H 4 rfl rfl) ev_int (Nat.succ_le_succ (Nat.zero_le _)) hrM) (two_le 2 10 (Nat.le_refl _) (drop_le hrl))) (by rw [mk_append]; rfl)) ta_np)) (by simp [sizeLine_eq]) ?_) hla1 (by simp [hal1]; simp at hlenFS; omega)) (by unfold interactive; rw [c.hek]; rfl))
            intro t1 ot1 ht1
            refine ⟨_, List.Perm.swap _ _ _, fun fo3 hfo3 => ?_⟩
            simp only [List.nil_append]
            refine TG.permO (List.Perm.swap _ _ _) ?_
            refine TG.freezeN (ex_nil (ex_nil (hP2 _ _ _ _ ?_)))
            refine ⟨fo3, _, ?_⟩
            have e6 : FS' ++ newF told c0 r0 (R.take (j + 1)) = (FS' ++ newF told c0 r0 (R.take j)) ++ [(told, [x, y] ++ r0)] := by
              rw [htake]; unfold newF; rw [List.filter_append, List.map_append, List.append_assoc]; simp [hNc]
            rw [e6]
            refine hsn1 _ t1 ot1 _ fo3 (fun p hp => ?_) ?_ ht1 hfo3
            · simp only [List.append_assoc, List.nil_append, List.cons_append]; exact .tail _ hp
            · simp
          · have hNc : ¬ N = c0 := by simpa using e5
            refine ex_nil (ex_nil (hP2 _ _ _ _ ?_))
            refine ⟨fo2, _, ?_⟩
            have e6 : newF told c0 r0 (R.take (j + 1)) = newF told c0 r0 (R.take j) := by
              rw [htake]; unfold newF; rw [List.filter_append]; simp [hNc]
            rw [e6]; simpa using hP
        · rintro σ2 O2 N2 ⟨fo2, z6', hP⟩
          rw [List.length_map, List.take_length, hnew] at hP
          refine TG.permO (List.Perm.swap _ _ _) ?_
          refine ex_nil (ex_nil (ex_nil (ex_nil (hP1 _ _ _ _ ?_))))
          have hszr : szL (c0 :: r0) = sz c0 + szL r0 := rfl
          have hlvr : lvL (c0 :: r0) = lv c0 * lvL r0 := rfl
          rw [hszr] at hmass' hlen
          rw [hlvr] at hleaf'
          have pw : ∀ {x y : Nat}, sz x + sz y < sz c0 → 3 * 3 ^ szL (x :: y :: r0) ≤ 3 ^ (sz c0 + szL r0) := by
            intro x y h
            rw [show 3 * 3 ^ szL (x :: y :: r0) = 3 ^ (szL (x :: y :: r0) + 1) by rw [Nat.pow_succ, Nat.mul_comm]]
            exact Nat.pow_le_pow_right (by decide) (by simp only [szL]; omega)
          have p1 := pw q2
          have p2 := pw q5
          have z1 : 0 < 3 ^ szL (x1 :: y1 :: r0) := Nat.pow_pos (by decide)
          have z2 : 0 < 3 ^ szL (x2 :: y2 :: r0) := Nat.pow_pos (by decide)
          have lw : ∀ {x y : Nat}, 2 * (lv x * lv y) ≤ lv c0 → 2 * lvL (x :: y :: r0) ≤ lv c0 * lvL r0 := by
            intro x y h
            have : 2 * lvL (x :: y :: r0) = (2 * (lv x * lv y)) * lvL r0 := by simp only [lvL]; rw [Nat.mul_assoc, Nat.mul_assoc]
            rw [this]; exact Nat.mul_le_mul_right _ h
          have l1 := lw q3
          have l2 := lw q6
          refine ⟨mass (FS' ++ [(told, x1 :: y1 :: r0), (told, x2 :: y2 :: r0)]), ?_, wo, fo2, _, _, _, _, W, FS' ++ [(told, x1 :: y1 :: r0), (told, x2 :: y2 :: r0)], hW, ?_, hWn, ?_, rfl, ?_, ?_, ?_⟩
          · rw [mass_append]; simp only [mass]; omega
          · simpa using hP
          · intro f hf
            rcases List.mem_append.mp hf with h | h
            · exact hok' f h
            · simp only [List.mem_cons, List.not_mem_nil, or_false] at h
              rcases h with rfl | rfl
              · refine ⟨⟨x1 :: y1 :: s', by rw [hr0]; rfl, ?_⟩, by simp only [szL]; omega⟩
                intro s hs
                rcases List.mem_cons.mp hs with rfl | hs
                · exact sx1
                rcases List.mem_cons.mp hs with rfl | hs
                · exact sy1
                exact hs' s hs
              · refine ⟨⟨x2 :: y2 :: s', by rw [hr0]; rfl, ?_⟩, by simp only [szL]; omega⟩
                intro s hs
                rcases List.mem_cons.mp hs with rfl | hs
                · exact sx2
                rcases List.mem_cons.mp hs with rfl | hs
                · exact sy2
                exact hs' s hs
          · rw [mass_append]; simp only [mass]; omega
          · rw [lvs_append]; simp only [lvs]; omega
          · exact tgt_nont htgt hge hiff
  · intro hb
    have hFS : FS = [] := by simpa using hb
    subst hFS
    refine ex_cons (ex_ret (TV.drop (ev_bcall hsorted (by boot_fast) (H.glob rfl) (ta_consp (v_ H 1 rfl rfl) (ta_nil fun vals hv => ?_)))))
    obtain ⟨v, rfl, iv⟩ := hv.one
    cases iv
    refine TV.mono (bi_sorted (listAt_led (List.mem_append_left _ (.head _)) hW) (by simp [lvs] at hleaf; omega)) ?_
    rintro pv O' N ⟨d, od, ts, rfl, hd, hp, hs, rfl, rfl⟩
    refine ⟨(d, od) :: O, ?_, hP0 _ _ _ _ ⟨d, od, ts, rfl, rfl, hd, hs, ?_, ?_, ?_⟩⟩
    · exact List.Sublist.cons_cons _ (List.Sublist.cons _ (List.Sublist.cons _ (List.Sublist.refl _)))
    · exact hp.nodup_iff.mpr hWn
    · have := hp.length_eq; simp [lvs] at hleaf; omega
    · intro x; rw [htgt x, hp.mem_iff]; simp
end Mine
end
section
open PySem PySem.W PyProof.Rows PySem.Calls
set_option autoImplicit false
set_option linter.unusedVariables false
namespace Mine

/-! ### the distance of two words, and that levF reckons it -/
theorem cost_nonneg (x y : Nat) : 0 ≤ costN x y := by unfold costN; split <;> (try split) <;> decide
theorem cost_le2 (x y : Nat) : costN x y ≤ 2 := by unfold costN; split <;> (try split) <;> decide
theorem cost_self (x : Nat) : costN x x = 0 := by unfold costN; simp
theorem cost_symm (x y : Nat) : costN x y = costN y x := by
  unfold costN
  by_cases h : x = y
  · subst h; rfl
  · have h1 : (x == y) = false := by simpa using h
    have h2 : (y == x) = false := by simpa using fun e => h (Eq.symm e)
    rw [h1, h2]
    by_cases h3 : Txt.lower (mk [x]) = Txt.lower (mk [y])
    · rw [h3]
    · have h4 : (Txt.lower (mk [x]) == Txt.lower (mk [y])) = false := by simpa using h3
      have h5 : (Txt.lower (mk [y]) == Txt.lower (mk [x])) = false := by simpa using fun e => h3 (Eq.symm e)
      rw [h4, h5]
inductive Al : List Nat → List Nat → Int → Prop
  | nil : Al [] [] 0
  | del {a b : List Nat} {k : Int} (x : Nat) : Al a b k → Al (x :: a) b (2 + k)
  | ins {a b : List Nat} {k : Int} (y : Nat) : Al a b k → Al a (y :: b) (2 + k)
  | sub {a b : List Nat} {k : Int} (x y : Nat) : Al a b k → Al (x :: a) (y :: b) (costN x y + k)

def D : List Nat → List Nat → Int
  | [], b => 2 * b.length
  | x :: a, [] => 2 * (x :: a).length
  | x :: a, y :: b => min (min (2 + D a (y :: b)) (2 + D (x :: a) b)) (costN x y + D a b)
termination_by a b => a.length + b.length

theorem D_nil_left (b : List Nat) : D [] b = 2 * b.length := by rw [D]
theorem D_nil_right (a : List Nat) : D a [] = 2 * a.length := by cases a <;> simp [D]
theorem D_cons (x y : Nat) (a b : List Nat) : D (x :: a) (y :: b) = min (min (2 + D a (y :: b)) (2 + D (x :: a) b)) (costN x y + D a b) := by rw [D]

theorem D_del (x : Nat) (a b : List Nat) : D (x :: a) b ≤ 2 + D a b := by
  cases b with
  | nil => rw [D_nil_right, D_nil_right]; simp; omega
  | cons y b => rw [D_cons]; exact Int.le_trans (Int.min_le_left _ _) (Int.min_le_left _ _)
theorem D_ins (y : Nat) (a b : List Nat) : D a (y :: b) ≤ 2 + D a b := by
  cases a with
  | nil => rw [D_nil_left, D_nil_left]; simp; omega
  | cons x a => rw [D_cons]; exact Int.le_trans (Int.min_le_left _ _) (Int.min_le_right _ _)
theorem D_sub (x y : Nat) (a b : List Nat) : D (x :: a) (y :: b) ≤ costN x y + D a b := by rw [D_cons]; exact Int.min_le_right _ _

theorem D_of_Al {a b : List Nat} {k : Int} (h : Al a b k) : D a b ≤ k := by
  induction h with
  | nil => simp [D]
  | @del a b k x _ ih => exact Int.le_trans (D_del x a b) (Int.add_le_add_left ih 2)
  | @ins a b k y _ ih => exact Int.le_trans (D_ins y a b) (Int.add_le_add_left ih 2)
  | @sub a b k x y _ ih => exact Int.le_trans (D_sub x y a b) (Int.add_le_add_left ih _)

theorem Al_left : ∀ a : List Nat, Al a [] (2 * a.length)
  | [] => Al.nil
  | x :: a => by
    have := Al.del x (Al_left a)
    have e : (2 : Int) * ((x :: a).length : Nat) = 2 + 2 * (a.length : Nat) := by simp; omega
    rw [e]; exact this
theorem Al_right : ∀ a : List Nat, Al [] a (2 * a.length)
  | [] => Al.nil
  | x :: a => by
    have := Al.ins x (Al_right a)
    have e : (2 : Int) * ((x :: a).length : Nat) = 2 + 2 * (a.length : Nat) := by simp; omega
    rw [e]; exact this
theorem Al_D (a b : List Nat) : Al a b (D a b) := by
  fun_induction D a b with
  | case1 b => exact Al_right b
  | case2 x a => exact Al_left (x :: a)
  | case3 x a y b ih1 ih2 ih3 =>
    rcases Int.le_total (min (2 + D a (y :: b)) (2 + D (x :: a) b)) (costN x y + D a b) with h | h
    · rw [Int.min_eq_left h]
      rcases Int.le_total (2 + D a (y :: b)) (2 + D (x :: a) b) with h | h
      · rw [Int.min_eq_left h]; exact .del x ih1
      · rw [Int.min_eq_right h]; exact .ins y ih2
    · rw [Int.min_eq_right h]; exact .sub x y ih3

theorem Al.append {a b a' b' : List Nat} {k k' : Int} (h : Al a b k) (h' : Al a' b' k') : Al (a ++ a') (b ++ b') (k + k') := by
  induction h with
  | nil => simpa using h'
  | del x _ ih => have := Al.del x ih; rw [Int.add_assoc]; exact this
  | ins y _ ih => have := Al.ins y ih; rw [Int.add_assoc]; exact this
  | sub x y _ ih => have := Al.sub x y ih; rw [Int.add_assoc]; exact this
theorem Al.rev {a b : List Nat} {k : Int} (h : Al a b k) : Al a.reverse b.reverse k := by
  induction h with
  | nil => exact .nil
  | del x _ ih => have := ih.append (Al.del x Al.nil); simp only [List.reverse_cons, List.append_nil] at this ⊢; rw [Int.add_comm]; simpa using this
  | ins y _ ih => have := ih.append (Al.ins y Al.nil); simp only [List.reverse_cons, List.append_nil] at this ⊢; rw [Int.add_comm]; simpa using this
  | sub x y _ ih => have := ih.append (Al.sub x y Al.nil); simp only [List.reverse_cons] at this ⊢; rw [Int.add_comm]; simpa using this
theorem Al.symm {a b : List Nat} {k : Int} (h : Al a b k) : Al b a k := by
  induction h with
  | nil => exact .nil
  | del x _ ih => exact .ins x ih
  | ins y _ ih => exact .del y ih
  | sub x y _ ih => have := Al.sub y x ih; rw [cost_symm]; exact this
theorem Al.nonneg {a b : List Nat} {k : Int} (h : Al a b k) : 0 ≤ k := by
  induction h with
  | nil => decide
  | del x _ ih => exact Int.add_nonneg (by decide) ih
  | ins y _ ih => exact Int.add_nonneg (by decide) ih
  | sub x y _ ih => exact Int.add_nonneg (cost_nonneg x y) ih
theorem Al.len {a b : List Nat} {k : Int} (h : Al a b k) : 2 * ((b.length : Int) - a.length) ≤ k := by
  induction h with
  | nil => decide
  | del x _ ih => simp; omega
  | ins y _ ih => simp; omega
  | sub x y _ ih => have := cost_nonneg x y; simp; omega
theorem Al.refl : ∀ a : List Nat, Al a a 0
  | [] => .nil
  | x :: a => by have := Al.sub x x (Al.refl a); rw [cost_self] at this; exact this

theorem D_symm (a b : List Nat) : D a b = D b a := Int.le_antisymm (D_of_Al (Al_D b a).symm) (D_of_Al (Al_D a b).symm)
theorem D_rev (a b : List Nat) : D a.reverse b.reverse = D a b :=
  Int.le_antisymm (D_of_Al (Al_D a b).rev) (by have := D_of_Al (Al_D a.reverse b.reverse).rev; simpa using this)
theorem D_nonneg (a b : List Nat) : 0 ≤ D a b := (Al_D a b).nonneg
theorem D_len (a b : List Nat) : 2 * ((b.length : Int) - a.length) ≤ D a b := (Al_D a b).len
theorem D_self (a : List Nat) : D a a = 0 := Int.le_antisymm (D_of_Al (Al.refl a)) (D_nonneg _ _)
theorem Al.tail {a b : List Nat} {k : Int} (h : Al a b k) : ∀ y b', b = y :: b' → D a b' ≤ 2 + k := by
  induction h with
  | nil => intro y b' e; cases e
  | @del a b k x h ih =>
    intro y b' e
    have h1 := ih y b' e
    have h2 := D_del x a b'
    omega
  | @ins a b k y0 h ih =>
    intro y b' e
    cases e
    have := D_of_Al h
    omega
  | @sub a b k x y0 h ih =>
    intro y b' e
    cases e
    have h1 := D_del x a b
    have h2 := D_of_Al h
    have h3 := cost_nonneg x y0
    omega
theorem D_lip_right (y : Nat) (a b : List Nat) : D a b ≤ 2 + D a (y :: b) := (Al_D a (y :: b)).tail y b rfl
theorem D_lip_left (x : Nat) (a b : List Nat) : D a b ≤ 2 + D (x :: a) b := by rw [D_symm a b, D_symm (x :: a) b]; exact D_lip_right x b a
theorem D_same (x : Nat) (a b : List Nat) : D (x :: a) (x :: b) = D a b := by
  rw [D_cons, cost_self, Int.zero_add]
  exact Int.min_eq_right (Int.le_min.mpr ⟨D_lip_right x a b, D_lip_left x a b⟩)
theorem D_pre : ∀ p a b : List Nat, D (p ++ a) (p ++ b) = D a b
  | [], _, _ => rfl
  | x :: p, a, b => by rw [List.cons_append, List.cons_append, D_same, D_pre p]
theorem D_post (p a b : List Nat) : D (a ++ p) (b ++ p) = D a b := by
  rw [← D_rev, List.reverse_append, List.reverse_append, D_pre, D_rev]

theorem comPre_take : ∀ a b : List Nat, a.take (comPre a b) = b.take (comPre a b)
  | [], b => by cases b <;> simp [comPre]
  | x :: a, [] => by simp [comPre]
  | x :: a, y :: b => by
    unfold comPre
    split
    · rename_i e; subst e; simp [comPre_take a b]
    · simp
theorem trim_is (a b : List Nat) : D (trimA a b) (trimA b a) = D a b := by
  have h1 := comPre_take a b
  have ea : a = a.take (comPre a b) ++ a.drop (comPre a b) := (List.take_append_drop _ _).symm
  have eb : b = a.take (comPre a b) ++ b.drop (comPre a b) := by rw [h1]; exact (List.take_append_drop _ _).symm
  have e1 : D a b = D (a.drop (comPre a b)) (b.drop (comPre a b)) := by
    exact (congr (congrArg D ea) eb).trans (D_pre _ _ _)
  rw [e1]
  unfold trimA
  simp only [comPre_comm b a]
  generalize a.drop (comPre a b) = a1
  generalize b.drop (comPre a b) = b1
  rw [comPre_comm b1.reverse a1.reverse]
  have h2 := comPre_take a1.reverse b1.reverse
  have hle := comPre_le a1.reverse b1.reverse
  generalize comPre a1.reverse b1.reverse = k at h2 hle
  have s1 : a1 = a1.take (a1.length - k) ++ (a1.reverse.take k).reverse := by
    rw [List.take_reverse, List.reverse_reverse]; exact (List.take_append_drop _ _).symm
  have s2 : b1 = b1.take (b1.length - k) ++ (a1.reverse.take k).reverse := by
    rw [h2, List.take_reverse, List.reverse_reverse]; exact (List.take_append_drop _ _).symm
  exact ((congr (congrArg D s1) s2).trans (D_post _ _ _)).symm
end Mine
end
section
open PySem PySem.W PyProof.Rows PySem.Calls
set_option autoImplicit false
set_option linter.unusedVariables false
namespace Mine

section
variable (a b : List Nat)
def EE (i j : Nat) : Int := D (b.take i).reverse (a.take j).reverse
theorem EE_0 {j : Nat} (h : j ≤ a.length) : EE a b 0 j = 2 * j := by unfold EE; simp [D_nil_left]; omega
theorem EE_c0 {i : Nat} (h : i ≤ b.length) : EE a b i 0 = 2 * i := by unfold EE; simp [D_nil_right]; omega
theorem EE_step {i j : Nat} (hi : i < b.length) (hj : j < a.length) : EE a b (i + 1) (j + 1) = min (min (2 + EE a b i (j + 1)) (2 + EE a b (i + 1) j)) (costN b[i] a[j] + EE a b i j) := by
  have e1 : (b.take (i + 1)).reverse = b[i] :: (b.take i).reverse := by rw [List.take_succ_eq_append_getElem hi]; simp
  have e2 : (a.take (j + 1)).reverse = a[j] :: (a.take j).reverse := by rw [List.take_succ_eq_append_getElem hj]; simp
  unfold EE
  rw [e1, e2, D_cons]
theorem EE_all : EE a b b.length a.length = D a b := by unfold EE; rw [List.take_length, List.take_length, D_rev, D_symm]
theorem EE_1 {i : Nat} (hi : i < b.length) (hn : 0 < a.length) : EE a b (i + 1) 1 ≤ 2 * ((i : Int) + 1) := by
  rw [EE_step a b hi hn]
  have h0 := EE_c0 a b (Nat.le_of_lt hi)
  have := cost_le2 b[i] a[0]
  omega
def rowE (i : Nat) : List Int := (List.range a.length).map fun j => EE a b i (j + 1)

theorem inner_inv {i : Nat} (hi : i < b.length) : ∀ j, j ≤ a.length → ∃ mn : Int, (∀ t, t < j → mn ≤ EE a b (i + 1) (t + 1)) ∧
    ((a.zip (rowE a b i)).take j).foldl (stepI b[i]) ⟨[], (i : Int) * 2, (i : Int) * 2, 9223372036854775807⟩ = ⟨(List.range j).map fun t => EE a b (i + 1) (t + 1), EE a b i j, if j = 0 then (i : Int) * 2 else EE a b (i + 1) j, mn⟩ := by
  intro j
  induction j with
  | zero => intro _; exact ⟨9223372036854775807, fun t h => by omega, by simp [EE_c0 a b (Nat.le_of_lt hi)]; omega⟩
  | succ j ih =>
    intro hj
    obtain ⟨mn, h1, h2⟩ := ih (by omega)
    have hzl : j < (a.zip (rowE a b i)).length := by simp [rowE]; omega
    have hz : (a.zip (rowE a b i))[j] = (a[j], EE a b i (j + 1)) := by simp [rowE]
    have hr : pmin (pmin (if j = 0 then (i : Int) * 2 else EE a b (i + 1) j) (EE a b i (j + 1)) + 2) (EE a b i j + costN b[i] a[j]) = EE a b (i + 1) (j + 1) := by
      rw [EE_step a b hi hj]
      have hc := cost_le2 b[i] a[j]
      unfold pmin
      by_cases hj0 : j = 0
      · subst hj0
        rw [if_pos rfl, EE_c0 a b (Nat.le_of_lt hi), EE_c0 a b (show i + 1 ≤ b.length from hi)]
        push_cast
        split <;> split <;> omega
      · rw [if_neg hj0]
        split <;> split <;> omega
    refine ⟨if EE a b (i + 1) (j + 1) < mn then EE a b (i + 1) (j + 1) else mn, fun t ht => ?_, ?_⟩
    · by_cases e : t = j
      · subst e; split <;> omega
      · have := h1 t (by omega); split <;> omega
    · rw [List.take_succ_eq_append_getElem hzl, List.foldl_append, h2, hz]
      simp only [List.foldl_cons, List.foldl_nil, stepI, hr, List.range_succ, List.map_append, List.map_cons, List.map_nil, Nat.add_eq_zero_iff, Nat.one_ne_zero, and_false, if_false]

theorem inner_is {i : Nat} (hi : i < b.length) (hn : 0 < a.length) : ∃ mn : Int, (∀ t, t < a.length → mn ≤ EE a b (i + 1) (t + 1)) ∧
    innerF b[i] a (rowE a b i) ((i : Int) * 2) = ⟨rowE a b (i + 1), EE a b i a.length, EE a b (i + 1) a.length, mn⟩ := by
  obtain ⟨mn, h1, h2⟩ := inner_inv a b hi a.length (Nat.le_refl _)
  refine ⟨mn, h1, ?_⟩
  have hl : (a.zip (rowE a b i)).length = a.length := by simp [rowE]
  rw [List.take_of_length_le (by omega), if_neg (by omega)] at h2
  exact h2

theorem rows_up {m : Int} (hn : 0 < a.length) : ∀ (k r : Nat), b.length - r = k → 1 ≤ r → r ≤ b.length → (∀ j, j ≤ a.length → m < EE a b r j) → m < EE a b b.length a.length := by
  intro k
  induction k with
  | zero => intro r hk h1 h2 h; have : r = b.length := by omega
            subst this; exact h _ (Nat.le_refl _)
  | succ k ih =>
    intro r hk h1 h2 h
    refine ih (r + 1) (by omega) (by omega) (by omega) ?_
    intro j
    induction j with
    | zero =>
      intro _
      have := h 0 (Nat.zero_le _)
      rw [EE_c0 a b h2] at this
      rw [EE_c0 a b (by omega)]
      push_cast; omega
    | succ j ihj =>
      intro hj
      rw [EE_step a b (by omega) hj]
      have a1 := h (j + 1) hj
      have a2 := h j (by omega)
      have a3 := ihj (by omega)
      have a4 := cost_nonneg b[r] a[j]
      omega

theorem outer_is {m : Int} (hn : 0 < a.length) : ∀ (k i : Nat) (res : Int), b.length - i = k → i ≤ b.length → (0 < i → res = EE a b i a.length) → 0 < b.length →
    (D a b ≤ m → outerF a m (b.drop i) (i : Int) (rowE a b i) res = D a b) ∧ (m < D a b → m < outerF a m (b.drop i) (i : Int) (rowE a b i) res) := by
  intro k
  induction k with
  | zero =>
    intro i res hk hi hres hb
    have : i = b.length := by omega
    subst this
    rw [List.drop_length, outerF, hres hb, EE_all]
    exact ⟨fun _ => rfl, fun h => h⟩
  | succ k ih =>
    intro i res hk hi hres hb
    have hil : i < b.length := by omega
    obtain ⟨mn, h1, h2⟩ := inner_is a b hil hn
    rw [List.drop_eq_getElem_cons hil, outerF, h2]
    simp only
    by_cases hm : m < mn
    · rw [if_pos hm]
      have hbig : m < D a b := by
        rw [← EE_all]
        refine rows_up a b hn _ (i + 1) rfl (by omega) hil fun j hj => ?_
        cases j with
        | zero =>
          have q1 := h1 0 hn
          have q2 := EE_1 a b hil hn
          rw [EE_c0 a b hil]
          simp only [Nat.zero_add] at q1
          push_cast at q2 ⊢; omega
        | succ j => have := h1 j hj; omega
      exact ⟨fun h => by omega, fun _ => by omega⟩
    · rw [if_neg hm]
      have := ih (i + 1) (EE a b (i + 1) a.length) (by omega) hil (fun _ => rfl) hb
      simpa using this

theorem core_is {m : Int} (hn : 0 < a.length) (hb : 0 < b.length) : (D a b ≤ m → levCore a b m = D a b) ∧ (m < D a b → m < levCore a b m) := by
  unfold levCore
  have hlen := D_len a b
  split
  · exact ⟨fun h => by omega, fun _ => by omega⟩
  · have hrow : row0 a.length = rowE a b 0 := by
      unfold row0 rowE
      refine List.map_congr_left fun k hk => ?_
      have := List.mem_range.mp hk
      rw [EE_0 a b (by omega)]
      push_cast; omega
    have := outer_is a b hn (m := m) _ 0 0 rfl (Nat.zero_le _) (fun h => by omega) hb
    rw [hrow]
    simpa using this
end

theorem lev_is (a b : List Nat) (m : Int) : (D a b ≤ m → levF a b m = D a b) ∧ (m < D a b → m < levF a b m) := by
  unfold levF
  by_cases he : a = b
  · subst he
    rw [if_pos rfl, D_self]
    exact ⟨fun _ => rfl, fun h => h⟩
  rw [if_neg he]
  simp only
  rw [← trim_is a b]
  generalize trimA a b = a2
  generalize trimA b a = b2
  split
  · rename_i h
    have : D a2 b2 = 2 * (a2.length + b2.length) := by
      rcases h with rfl | rfl
      · rw [D_nil_left]; simp
      · rw [D_nil_right]; simp
    rw [this]
    exact ⟨fun _ => rfl, fun h => h⟩
  · rename_i h
    have h1 : 0 < a2.length := List.length_pos_iff.mpr fun e => h (.inl e)
    have h2 : 0 < b2.length := List.length_pos_iff.mpr fun e => h (.inr e)
    split
    · rw [D_symm]; exact core_is b2 a2 h2 h1
    · exact core_is a2 b2 h1 h2
end Mine
end
section
open PySem PySem.W PyProof.Rows PySem.Calls
set_option autoImplicit false
set_option linter.unusedVariables false
set_option linter.unusedSimpArgs false
namespace Mine

/-- what one symbol can become -/
inductive DerW (R : List (List Nat)) : Nat → List Nat → Prop
  | term {c : Nat} (h1 : c < 256) : DerW R c [c]
  | nont {N x y : Nat} {u v : List Nat} (hN : 256 ≤ N) (hm : [N, x, y] ∈ R) (hu : DerW R x u) (hv : DerW R y v) : DerW R N (u ++ v)

theorem Gram.rule {R : List (List Nat)} (g : Gram R) {N x y : Nat} (h : [N, x, y] ∈ R) : (N = 256 ∨ N = 257 ∨ N = 258) ∧ Sy x ∧ Sy y ∧ sz x + sz y < sz N := by
  obtain ⟨r0, r1, r2, r3, r4, r5, rfl, ⟨_, _, rfl, a0, b0, c0, _⟩, ⟨_, _, rfl, a1, b1, c1, _⟩, ⟨_, _, rfl, a2, b2, c2, _⟩, ⟨_, _, rfl, a3, b3, c3, _⟩, ⟨_, _, rfl, a4, b4, c4, _⟩, ⟨_, _, rfl, a5, b5, c5, _⟩⟩ := g
  simp only [List.mem_cons, List.cons.injEq, List.not_mem_nil, or_false, and_true] at h
  rcases h with ⟨rfl, rfl, rfl⟩ | ⟨rfl, rfl, rfl⟩ | ⟨rfl, rfl, rfl⟩ | ⟨rfl, rfl, rfl⟩ | ⟨rfl, rfl, rfl⟩ | ⟨rfl, rfl, rfl⟩
  · exact ⟨.inl rfl, a0, b0, c0⟩
  · exact ⟨.inl rfl, a1, b1, c1⟩
  · exact ⟨.inr (.inl rfl), a2, b2, c2⟩
  · exact ⟨.inr (.inl rfl), a3, b3, c3⟩
  · exact ⟨.inr (.inr rfl), a4, b4, c4⟩
  · exact ⟨.inr (.inr rfl), a5, b5, c5⟩

theorem DerW.toS {R : List (List Nat)} (g : Gram R) {s : Nat} {u : List Nat} (h : DerW R s u) : s ≠ 0 → ∀ r v, DerS R r v → DerS R (s :: r) (u ++ v) := by
  induction h with
  | term h1 => intro h0 r v hr; exact .term h1 h0 hr
  | nont hN hm hu hv ih1 ih2 =>
    intro _ r w hr
    obtain ⟨_, sx, sy, _⟩ := g.rule hm
    rw [List.append_assoc]
    exact .nont hN hm (ih1 sx.ne0 _ _ (ih2 sy.ne0 _ _ hr))
theorem DerS.split {R : List (List Nat)} (g : Gram R) : ∀ (n : Nat) (s : Nat) (r w : List Nat), szL (s :: r) ≤ n → s ≠ 0 → DerS R (s :: r) w → ∃ u v, w = u ++ v ∧ DerW R s u ∧ DerS R r v := by
  intro n
  induction n with
  | zero => intro s r w h _ _; have := len_sz (s :: r); simp at this; omega
  | succ n ih =>
    intro s r w hn h0 h
    cases h with
    | fin => exact absurd rfl h0
    | term h1 _ h => exact ⟨[s], _, rfl, .term h1, h⟩
    | @nont _ x y _ _ hN hm h =>
      obtain ⟨_, sx, sy, hlt⟩ := g.rule hm
      have hs : szL (x :: y :: r) ≤ n := by simp only [szL] at hn ⊢; omega
      obtain ⟨u, v, rfl, hu, hv⟩ := ih x (y :: r) w hs sx.ne0 h
      obtain ⟨u2, v2, rfl, hu2, hv2⟩ := ih y r v (by simp only [szL] at hs ⊢; omega) sy.ne0 hv
      exact ⟨u ++ u2, v2, by rw [List.append_assoc], .nont hN hm hu hu2, hv2⟩
theorem DerS_iff {R : List (List Nat)} (g : Gram R) (w : List Nat) : DerS R [256, 0] w ↔ DerW R 256 w := by
  constructor
  · intro h
    obtain ⟨u, v, rfl, hu, hv⟩ := DerS.split g _ 256 [0] w (Nat.le_refl _) (by decide) h
    rw [DerS.fin_iff] at hv
    subst hv
    rwa [List.append_nil]
  · intro h
    have := h.toS g (by decide) [0] [] .fin
    rwa [List.append_nil] at this

theorem DerW.nont_iff {R : List (List Nat)} {N : Nat} {w : List Nat} (hN : 256 ≤ N) : DerW R N w ↔ ∃ x y u v, [N, x, y] ∈ R ∧ DerW R x u ∧ DerW R y v ∧ w = u ++ v := by
  constructor
  · intro h
    cases h with
    | term h1 => omega
    | nont _ hm hu hv => exact ⟨_, _, _, _, hm, hu, hv, rfl⟩
  · rintro ⟨x, y, u, v, hm, hu, hv, rfl⟩; exact .nont hN hm hu hv
theorem DerW.term_iff {R : List (List Nat)} {c : Nat} {w : List Nat} (hc : c < 256) : DerW R c w ↔ w = [c] := by
  constructor
  · intro h
    cases h with
    | term _ => rfl
    | nont hN _ _ _ => omega
  · rintro rfl; exact .term hc
theorem DerW.len {R : List (List Nat)} (g : Gram R) {s : Nat} {w : List Nat} (h : DerW R s w) : w.length ≤ sz s := by
  induction h with
  | @term c h1 => have h : 1 ≤ sz c := by unfold sz; split <;> (try split) <;> (try split) <;> decide
                  simpa using h
  | nont hN hm _ _ ih1 ih2 => obtain ⟨_, _, _, h⟩ := g.rule hm; simp; omega

/-! the distance over a cut -/
theorem D_cut_le (a b u v : List Nat) : D (a ++ b) (u ++ v) ≤ D a u + D b v := D_of_Al ((Al_D a u).append (Al_D b v))
theorem Al.cut {a w : List Nat} {k : Int} (h : Al a w k) : ∀ u v, w = u ++ v → ∃ i, i ≤ a.length ∧ D (a.take i) u + D (a.drop i) v ≤ k := by
  induction h with
  | nil =>
    intro u v e
    have h1 : u = [] := by cases u <;> simp_all
    have h2 : v = [] := by subst h1; simpa using e.symm
    subst h1 h2
    exact ⟨0, Nat.le_refl _, by simp [D]⟩
  | @del a b k x h ih =>
    intro u v e
    obtain ⟨i, hi, hk⟩ := ih u v e
    refine ⟨i + 1, by simpa using hi, ?_⟩
    have := D_del x (a.take i) u
    simp only [List.take_succ_cons, List.drop_succ_cons]
    omega
  | @ins a b k y h ih =>
    intro u v e
    cases u with
    | nil =>
      have e' : v = y :: b := by simpa using e.symm
      subst e'
      refine ⟨0, Nat.zero_le _, ?_⟩
      have := D_of_Al (Al.ins y h)
      simp [D_nil_left]; exact this
    | cons z u =>
      have e1 : y = z ∧ b = u ++ v := by simpa using e
      obtain ⟨rfl, rfl⟩ := e1
      obtain ⟨i, hi, hk⟩ := ih u v rfl
      have := D_ins y (a.take i) u
      exact ⟨i, hi, by omega⟩
  | @sub a b k x y h ih =>
    intro u v e
    cases u with
    | nil =>
      have e' : v = y :: b := by simpa using e.symm
      subst e'
      refine ⟨0, Nat.zero_le _, ?_⟩
      have := D_of_Al (Al.sub x y h)
      simp [D_nil_left]; exact this
    | cons z u =>
      have e1 : y = z ∧ b = u ++ v := by simpa using e
      obtain ⟨rfl, rfl⟩ := e1
      obtain ⟨i, hi, hk⟩ := ih u v rfl
      refine ⟨i + 1, by simpa using hi, ?_⟩
      have := D_sub x y (a.take i) u
      simp only [List.take_succ_cons, List.drop_succ_cons]
      omega
theorem D_cut (a u v : List Nat) : ∃ i, i ≤ a.length ∧ D (a.take i) u + D (a.drop i) v = D a (u ++ v) := by
  obtain ⟨i, hi, hk⟩ := (Al_D a (u ++ v)).cut u v rfl
  refine ⟨i, hi, Int.le_antisymm hk ?_⟩
  have := D_cut_le (a.take i) (a.drop i) u v
  rwa [List.take_append_drop] at this

/-! one sign -/
def mcost (c : Nat) : List Nat → Int
  | [] => 2
  | x :: r => min (costN x c) (mcost c r)
theorem mcost_le2 (c : Nat) : ∀ r, mcost c r ≤ 2
  | [] => Int.le_refl _
  | x :: r => by have := mcost_le2 c r; simp only [mcost]; omega
theorem mcost_nonneg (c : Nat) : ∀ r, 0 ≤ mcost c r
  | [] => by show (0 : Int) ≤ 2; decide
  | x :: r => by have := mcost_nonneg c r; have := cost_nonneg x c; simp only [mcost]; omega
theorem D_one (c : Nat) : ∀ row : List Nat, row ≠ [] → D row [c] = 2 * row.length - 2 + mcost c row
  | [x], _ => by
    have := cost_le2 x c
    rw [D_cons, D_nil_left, D_nil_right, D_nil_left]; simp [mcost]; omega
  | x :: y :: r, _ => by
    have ih := D_one c (y :: r) (by simp)
    have h1 := mcost_le2 c r
    have h2 := mcost_nonneg c (y :: r)
    have h3 := cost_nonneg x c
    have h4 := cost_le2 x c
    have h5 := cost_le2 y c
    rw [D_cons, ih, D_nil_right, D_nil_right]
    show min (min (2 + (2 * (((y :: r).length : Nat) : Int) - 2 + mcost c (y :: r))) (2 + 2 * (((x :: y :: r).length : Nat) : Int))) (costN x c + 2 * (((y :: r).length : Nat) : Int)) = 2 * (((x :: y :: r).length : Nat) : Int) - 2 + min (costN x c) (mcost c (y :: r))
    rw [List.length_cons (a := x)]
    generalize (((y :: r).length : Nat)) = L at *
    generalize hm : mcost c (y :: r) = M at *
    have hM : M ≤ 2 := hm ▸ mcost_le2 c (y :: r)
    generalize costN x c = C at *
    clear hm ih h1 h5 h2 h3
    push_cast
    omega

/-! the least price and its words -/
structure LeastOK (R : List (List Nat)) (s : Nat) (row : List Nat) (best : Int) (ws : List (List Nat)) : Prop where
  lo : ∀ w, DerW R s w → best ≤ D row w
  nd : ws.Nodup
  mem : ∀ w, w ∈ ws ↔ DerW R s w ∧ D row w = best
  ne : ws ≠ []
theorem least_term {R : List (List Nat)} {c : Nat} (hc : c < 256) (row : List Nat) : LeastOK R c row (if row = [] then 2 else 2 * row.length - 2 + mcost c row) [[c]] := by
  have e : D row [c] = if row = [] then 2 else 2 * row.length - 2 + mcost c row := by
    split
    · rename_i h; subst h; rw [D_nil_left]; rfl
    · rename_i h; exact D_one c row h
  refine ⟨fun w hw => ?_, by simp, fun w => ?_, by simp⟩
  · rw [DerW.term_iff hc] at hw; subst hw; rw [e]; exact Int.le_refl _
  · rw [DerW.term_iff hc, List.mem_singleton]
    constructor
    · rintro rfl; exact ⟨rfl, e⟩
    · exact fun h => h.1
end Mine
end
section
open PySem PySem.W PyProof.Rows PySem.Calls
set_option autoImplicit false
set_option linter.unusedVariables false
set_option linter.unusedSimpArgs false
namespace Mine

theorem D_le_sum (a b : List Nat) : D a b ≤ 2 * (a.length + b.length) := by
  have := D_of_Al ((Al_left a).append (Al_right b))
  simp only [List.append_nil, List.nil_append] at this
  omega

abbrev Tr := Nat × Nat × Nat
def trIs (R : List (List Nat)) (row : List Nat) (p : Tr) (w : List Nat) (k : Int) : Prop := ∃ u v, w = u ++ v ∧ DerW R p.1 u ∧ DerW R p.2.1 v ∧ D (row.take p.2.2) u + D (row.drop p.2.2) v = k

structure CI (R : List (List Nat)) (s : Nat) (row : List Nat) (P : Tr → Prop) (best : Int) (ws : List (List Nat)) : Prop where
  lo : ∀ p w k, P p → trIs R row p w k → best ≤ k
  nd : ws.Nodup
  hi : best ≤ 1000
  mem : ((∀ p, ¬ P p) ∧ best = 1000) ∨ (ws ≠ [] ∧ best < 1000 ∧ ∀ w, w ∈ ws ↔ ∃ p, P p ∧ trIs R row p w best)

theorem CI_start (R : List (List Nat)) (s : Nat) (row : List Nat) {P : Tr → Prop} (hP : ∀ p, ¬ P p) : CI R s row P 1000 [[s]] := ⟨fun p _ _ h _ => (hP p h).elim, by simp, Int.le_refl _, .inl ⟨hP, rfl⟩⟩
theorem CI_congr {R : List (List Nat)} {s : Nat} {row : List Nat} {P Q : Tr → Prop} {best : Int} {ws : List (List Nat)} (h : CI R s row P best ws) (hPQ : ∀ p, Q p ↔ P p) : CI R s row Q best ws := by
  have : Q = P := funext fun p => propext (hPQ p)
  rw [this]; exact h

theorem ite_le (x b : Int) : (if x < b then x else b) ≤ b ∧ (if x < b then x else b) ≤ x := by
  split
  · rename_i h; exact ⟨Int.le_of_lt h, Int.le_refl _⟩
  · rename_i h; exact ⟨Int.le_refl _, Int.not_lt.mp h⟩
theorem part_l {a b c n : Nat} (h : a + b < c) (h2 : c ≤ n + 1) : a ≤ n ∧ b ≤ n :=
  have h3 : a + b ≤ n := Nat.le_of_lt_succ (Nat.lt_of_lt_of_le h h2)
  ⟨Nat.le_trans (Nat.le_add_right _ _) h3, Nat.le_trans (Nat.le_add_left _ _) h3⟩
theorem CI_step {R : List (List Nat)} {s : Nat} {row : List Nat} {P : Tr → Prop} {best : Int} {ws : List (List Nat)} (h : CI R s row P best ws) {x y cut : Nat} {one two : Int} {heads tails : List (List Nat)}
    (h1 : LeastOK R x (row.take cut) one heads) (h2 : LeastOK R y (row.drop cut) two tails) (hlt : one + two < 1000) {ws' : List (List Nat)} (hnd : ws'.Nodup)
    (hws : ∀ w, w ∈ ws' ↔ w ∈ (if one + two < best then [] else ws) ∨ (one + two = (if one + two < best then one + two else best) ∧ ∃ u ∈ heads, ∃ v ∈ tails, w = u ++ v)) :
    CI R s row (fun p => P p ∨ p = (x, y, cut)) (if one + two < best then one + two else best) ws' := by
  have htr : ∀ w k, trIs R row (x, y, cut) w k → one + two ≤ k := by
    rintro w k ⟨u, v, rfl, hu, hv, rfl⟩
    have := h1.lo u hu
    have := h2.lo v hv
    simp only; omega
  have hcross : ∀ w, trIs R row (x, y, cut) w (one + two) ↔ ∃ u ∈ heads, ∃ v ∈ tails, w = u ++ v := by
    intro w
    constructor
    · rintro ⟨u, v, rfl, hu, hv, hk⟩
      have a1 := h1.lo u hu
      have a2 := h2.lo v hv
      simp only at hk
      exact ⟨u, (h1.mem u).mpr ⟨hu, by omega⟩, v, (h2.mem v).mpr ⟨hv, by omega⟩, rfl⟩
    · rintro ⟨u, hu, v, hv, rfl⟩
      obtain ⟨b1, b2⟩ := (h1.mem u).mp hu
      obtain ⟨b3, b4⟩ := (h2.mem v).mp hv
      exact ⟨u, v, rfl, b1, b3, by simp only; omega⟩
  obtain ⟨u0, hu0⟩ := List.exists_mem_of_ne_nil _ h1.ne
  obtain ⟨v0, hv0⟩ := List.exists_mem_of_ne_nil _ h2.ne
  refine ⟨?_, hnd, ?_, .inr ⟨?_, ?_, ?_⟩⟩
  · rintro p w k (hp | rfl) ht
    · exact Int.le_trans (ite_le _ _).1 (h.lo p w k hp ht)
    · exact Int.le_trans (ite_le _ _).2 (htr w k ht)
  · exact Int.le_trans (ite_le _ _).1 h.hi
  · by_cases hb : one + two < best
    · have : u0 ++ v0 ∈ ws' := (hws _).mpr (.inr ⟨by rw [if_pos hb], u0, hu0, v0, hv0, rfl⟩)
      exact List.ne_nil_of_mem this
    · rcases h.mem with ⟨_, hb1⟩ | ⟨hne, _, _⟩
      · omega
      · obtain ⟨w, hw⟩ := List.exists_mem_of_ne_nil _ hne
        have : w ∈ ws' := (hws _).mpr (.inl (by rw [if_neg hb]; exact hw))
        exact List.ne_nil_of_mem this
  · by_cases hb : one + two < best
    · rw [if_pos hb]; exact hlt
    · rw [if_neg hb]
      rcases h.mem with ⟨_, hb1⟩ | ⟨_, hlt', _⟩
      · omega
      · exact hlt'
  · intro w
    rw [hws w]
    by_cases hb : one + two < best
    · rw [if_pos hb, if_pos hb]
      simp only [List.not_mem_nil, false_or, true_and]
      rw [← hcross w]
      constructor
      · intro ht; exact ⟨_, .inr rfl, ht⟩
      · rintro ⟨p, hp | rfl, ht⟩
        · have := h.lo p w _ hp ht; omega
        · exact ht
    · rw [if_neg hb, if_neg hb]
      rcases h.mem with ⟨_, hb1⟩ | ⟨_, _, hm⟩
      · omega
      · rw [hm w]
        constructor
        · rintro (⟨p, hp, ht⟩ | ⟨he, hx⟩)
          · exact ⟨p, .inl hp, ht⟩
          · exact ⟨_, .inr rfl, he ▸ (hcross w).mpr hx⟩
        · rintro ⟨p, hp | rfl, ht⟩
          · exact .inl ⟨p, hp, ht⟩
          · have := htr w _ ht
            have he : one + two = best := by omega
            exact .inr ⟨he, (hcross w).mp (he ▸ ht)⟩

theorem CI_done {R : List (List Nat)} {s : Nat} {row : List Nat} {P : Tr → Prop} {best : Int} {ws : List (List Nat)} (hs : 256 ≤ s) (h : CI R s row P best ws)
    (hP : ∀ p : Tr, P p ↔ [s, p.1, p.2.1] ∈ R ∧ p.2.2 ≤ row.length) (hne : ∃ p, P p) : LeastOK R s row best ws := by
  rcases h.mem with ⟨hn, _⟩ | ⟨hne', _, hm⟩
  · obtain ⟨p, hp⟩ := hne; exact absurd hp (hn p)
  have lo : ∀ w, DerW R s w → best ≤ D row w := by
    intro w hw
    obtain ⟨x, y, u, v, hxy, hu, hv, rfl⟩ := (DerW.nont_iff hs).mp hw
    obtain ⟨i, hi, hk⟩ := D_cut row u v
    exact h.lo (x, y, i) (u ++ v) _ ((hP _).mpr ⟨hxy, hi⟩) ⟨u, v, rfl, hu, hv, hk⟩
  refine ⟨lo, h.nd, fun w => ?_, hne'⟩
  rw [hm w]
  constructor
  · rintro ⟨⟨x, y, i⟩, hp, u, v, rfl, hu, hv, hk⟩
    obtain ⟨hxy, hi⟩ := (hP _).mp hp
    have hd : DerW R s (u ++ v) := (DerW.nont_iff hs).mpr ⟨x, y, u, v, hxy, hu, hv, rfl⟩
    refine ⟨hd, Int.le_antisymm ?_ (lo _ hd)⟩
    have := D_cut_le (row.take i) (row.drop i) u v
    rw [List.take_append_drop] at this
    simp only at hk; omega
  · rintro ⟨hw, hb⟩
    obtain ⟨x, y, u, v, hxy, hu, hv, rfl⟩ := (DerW.nont_iff hs).mp hw
    obtain ⟨i, hi, hk⟩ := D_cut row u v
    exact ⟨(x, y, i), (hP _).mpr ⟨hxy, hi⟩, u, v, rfl, hu, hv, by rw [hk]; exact hb⟩

/-! how many words -/
theorem nodup_len {α : Type} [DecidableEq α] : ∀ (l m : List α), l.Nodup → (∀ x ∈ l, x ∈ m) → l.length ≤ m.length
  | [], _, _, _ => Nat.zero_le _
  | x :: l, m, hn, hs => by
    have hx := hs x (.head _)
    have h1 := nodup_len l (m.erase x) (List.nodup_cons.mp hn).2 fun y hy => by
      refine (List.mem_erase_of_ne ?_).mpr (hs y (.tail _ hy))
      rintro rfl; exact (List.nodup_cons.mp hn).1 hy
    have h2 := List.length_erase_of_mem hx
    have h3 := List.length_pos_of_mem hx
    simp only [List.length_cons]; omega
theorem words_count {R : List (List Nat)} (g : Gram R) : ∀ (n s : Nat), sz s ≤ n → (s < 256 ∨ s = 256 ∨ s = 257 ∨ s = 258) → ∃ E : List (List Nat), E.length ≤ lv s ∧ ∀ w, DerW R s w → w ∈ E := by
  intro n
  induction n with
  | zero => intro s h _; have h' : 1 ≤ sz s := by unfold sz; split <;> (try split) <;> (try split) <;> decide
            omega
  | succ n ih =>
    intro s hs hk
    rcases hk with hlt | hN
    · refine ⟨[[s]], ?_, fun w hw => by rw [DerW.term_iff hlt] at hw; subst hw; exact .head _⟩
      show 1 ≤ lv s
      unfold lv; split <;> (try split) <;> (try split) <;> decide
    · obtain ⟨x1, y1, x2, y2, _, ⟨u1, v1, q1, sx1, sy1, q2, q3⟩, ⟨u2, v2, q4, sx2, sy2, q5, q6⟩, hiff⟩ := gram_new g hN [] []
      have e1 : x1 = u1 ∧ y1 = v1 := by simpa using q1
      have e4 : x2 = u2 ∧ y2 = v2 := by simpa using q4
      obtain ⟨rfl, rfl⟩ := e1
      obtain ⟨rfl, rfl⟩ := e4
      have hsy : ∀ {z}, Sy z → z < 256 ∨ z = 256 ∨ z = 257 ∨ z = 258 := fun {z} h => by
        rcases Nat.lt_or_ge z 256 with q | q
        · exact .inl q
        · exact .inr (h.hi q)
      obtain ⟨A1, l1, a1⟩ := ih x1 (part_l q2 hs).1 (hsy sx1)
      obtain ⟨B1, l2, a2⟩ := ih y1 (part_l q2 hs).2 (hsy sy1)
      obtain ⟨A2, l3, a3⟩ := ih x2 (part_l q5 hs).1 (hsy sx2)
      obtain ⟨B2, l4, a4⟩ := ih y2 (part_l q5 hs).2 (hsy sy2)
      have hcl : ∀ A B : List (List Nat), (A.flatMap fun u => B.map fun v => u ++ v).length = A.length * B.length := by
        intro A B
        induction A with
        | nil => simp
        | cons u A ih => simp only [List.flatMap_cons, List.length_append, List.length_map, ih, List.length_cons]; rw [Nat.succ_mul]; omega
      refine ⟨(A1.flatMap fun u => B1.map fun v => u ++ v) ++ (A2.flatMap fun u => B2.map fun v => u ++ v), ?_, ?_⟩
      · rw [List.length_append, hcl, hcl]
        have m1 := Nat.mul_le_mul l1 l2
        have m2 := Nat.mul_le_mul l3 l4
        omega
      · intro w hw
        have hge : 256 ≤ s := by omega
        obtain ⟨x, y, u, v, hxy, hu, hv, rfl⟩ := (DerW.nont_iff hge).mp hw
        rcases (hiff x y).mp hxy with ⟨rfl, rfl⟩ | ⟨rfl, rfl⟩
        · exact List.mem_append_left _ (List.mem_flatMap.mpr ⟨u, a1 u hu, List.mem_map.mpr ⟨v, a2 v hv, rfl⟩⟩)
        · exact List.mem_append_right _ (List.mem_flatMap.mpr ⟨u, a3 u hu, List.mem_map.mpr ⟨v, a4 v hv, rfl⟩⟩)
theorem words_le16 {R : List (List Nat)} (g : Gram R) {s : Nat} (hs : s < 256 ∨ s = 256 ∨ s = 257 ∨ s = 258) {ws : List (List Nat)} (hn : ws.Nodup) (hw : ∀ w ∈ ws, DerW R s w) : ws.length ≤ 16 := by
  obtain ⟨E, h1, h2⟩ := words_count g (sz s) s (Nat.le_refl _) hs
  have := nodup_len ws E hn fun w h => h2 w (hw w h)
  have h3 : lv s ≤ 16 := by unfold lv; split <;> (try split) <;> (try split) <;> decide
  omega
theorem LeastOK.small {R : List (List Nat)} (g : Gram R) {s : Nat} {row : List Nat} {b : Int} {ws : List (List Nat)} (h : LeastOK R s row b ws) (hr : row.length ≤ 4) : 0 ≤ b ∧ b ≤ 26 := by
  obtain ⟨w, hw⟩ := List.exists_mem_of_ne_nil _ h.ne
  obtain ⟨h1, h2⟩ := (h.mem w).mp hw
  have h3 := h1.len g
  have h4 : sz s ≤ 9 := by unfold sz; split <;> (try split) <;> (try split) <;> decide
  have h5 := D_le_sum row w
  have h6 := D_nonneg row w
  omega
end Mine
end
section
open PySem PySem.W PyProof.Rows PySem.Calls
set_option autoImplicit false
set_option linter.unusedVariables false
namespace Mine
section
variable {G : GC} {c : Act G} {σ : Sto} {O F : Led} {s : Shared}
section
variable {names : List Str} {scope : Scope} {rest : List Stmt} {P : FPost}
/-! local names of a def that has cells -/
theorem asgN_ (H : LocC c names scope) (i : Nat) {x : Str} {p pos : Pos} {e : Expr} (hx : names[i]? = some x) (hk : scope.names.lookup x = some .local) (hi : i < σ.length) (he : Ev c σ O F e fun pv O' N => P .next (σ.set i (some pv)) O' N)
    (hs : swapsWith e (some (.Name x p)) pos.line c.env = pure false := by rfl) : Ex1 c σ O F (.Assign [.Name x p] e pos) P :=
  ex_asg i he (by rw [H.nm]; exact hx) (H.kind hk) H.L hi hs
theorem s_asgN (H : LocC c names scope) (i : Nat) {x : Str} {p pos : Pos} {e : Expr} {pv : PV} (hx : names[i]? = some x) (hk : scope.names.lookup x = some .local) (hi : i < σ.length) (he : Evp c σ O F e pv) (k : Ex c (σ.set i (some pv)) O F rest P)
    (hs : swapsWith e (some (.Name x p)) pos.line c.env = pure false := by rfl) : Ex c σ O F (.Assign [.Name x p] e pos :: rest) P :=
  ex_cons (asgN_ H i hx hk hi (TV.mono he fun pv' O' N ⟨e1, e2, e3⟩ => by subst e1 e2 e3; simpa using k) hs)
theorem forN_ (H : LocC c names scope) (i : Nat) {x : Str} {px pos : Pos} {iter : Expr} {body : List Stmt} {items : List PV} (hx : names[i]? = some x) (hk : scope.names.lookup x = some .local)
    (I : Nat → Sto → Led → Led → Prop) (hi : ∀ k σ1 O1 N1, I k σ1 O1 N1 → i < σ1.length)
    (hit : Iterates c σ O F iter items fun O1 N1 => I 0 σ O1 N1)
    (turn : ∀ k pv σ1 O1 N1 F', items[k]? = some pv → I k σ1 O1 N1 → (∀ p ∈ N1 ++ F, p ∈ F') → Ex c (σ1.set i (some pv)) O1 F' body fun pf σ2 O2 N2 => match pf with
        | .next => I (k + 1) σ2 O2 (N2 ++ N1)
        | .cont => I (k + 1) σ2 O2 (N2 ++ N1)
        | .brk => P .next σ2 O2 (N2 ++ N1)
        | .ret v => P (.ret v) σ2 O2 (N2 ++ N1))
    (done : ∀ σ1 O1 N1, I items.length σ1 O1 N1 → P .next σ1 O1 N1)
    (hs : ∀ x, foldedSetIterable iter c.env x = pure x := by intro _; rfl) : Ex1 c σ O F (.For (.Name x px) iter body [] pos) P :=
  ex_for H.own i (by rw [H.nm]; exact hx) (H.kind hk) I hi hit turn done hs
theorem unpackN_ (H : LocC c names scope) (i j : Nat) {x y : Str} {px py tp pos : Pos} {k' : Nat} {e : Expr} (hx : names[i]? = some x) (hkx : scope.names.lookup x = some .local) (hy : names[j]? = some y) (hky : scope.names.lookup y = some .local) (hi : i < σ.length) (hj : j < σ.length)
    (he : Ev c σ O F e fun pv O1 N1 => ∃ t o u v, pv = .ref t ∧ TupO [u, v] o ∧ (t, o) ∈ O1 ++ (N1 ++ F) ∧ P .next ((σ.set i (some u)).set j (some v)) O1 N1)
    (hs : swapsWithSole [.Tuple [.Name x px, .Name y py] k' tp] e pos.line c.env = pure false := by rfl)
    (hw : swappedStores [.Tuple [.Name x px, .Name y py] k' tp] e c.env = pure none := by rfl) : Ex1 c σ O F (.Assign [.Tuple [.Name x px, .Name y py] k' tp] e pos) P :=
  ex_unpack2 i j he (by rw [H.nm]; exact hx) (H.kind hkx) (by rw [H.nm]; exact hy) (H.kind hky) H.L hi hj hs hw
end

/-! min of a list of ints -/
theorem bi_minints {l : Addr} {xs : List Int} (hL : ListAt c σ O F l (xs.map .int)) (hne : xs ≠ []) : ∃ m, m ∈ xs ∧ (∀ x ∈ xs, m ≤ x) ∧ TVp c σ O F (call (.builtin "min") [.ref l]) (.int m) := by
  have hpos : 0 < xs.length := List.length_pos_iff.mpr hne
  let bt : Nat → Nat → Bool := fun i j => decide (xs.getD i 0 < xs.getD j 0)
  have hb : argBest bt (xs.length - 1) < xs.length := Nat.lt_of_le_of_lt (argBest_le _ _) (by omega)
  have key : ∀ k, k < xs.length → ∀ i, i ≤ k → xs.getD (argBest bt k) 0 ≤ xs.getD i 0 := by
    intro k
    induction k with
    | zero => intro _ i hi; have : i = 0 := by omega
              subst this; exact Int.le_refl _
    | succ k ih =>
      intro hk i hi
      have ih' := ih (by omega)
      rw [argBest]
      by_cases hbb : bt (k + 1) (argBest bt k) = true
      · rw [if_pos hbb]
        have h1 := of_decide_eq_true hbb
        by_cases e : i = k + 1
        · subst e; exact Int.le_refl _
        · have := ih' i (by omega); omega
      · rw [if_neg hbb]
        have h1 : ¬ xs.getD (k + 1) 0 < xs.getD (argBest bt k) 0 := fun q => hbb (decide_eq_true q)
        by_cases e : i = k + 1
        · subst e; omega
        · exact ih' i (by omega)
  have hget : ∀ i (h : i < xs.length), xs.getD i 0 = xs[i] := fun i h => by rw [List.getD_eq_getElem?_getD, List.getElem?_eq_getElem h]; rfl
  refine ⟨xs.getD (argBest bt (xs.length - 1)) 0, ?_, ?_, ?_⟩
  · rw [hget _ hb]; exact List.getElem_mem _
  · intro x hx
    obtain ⟨i, hi, rfl⟩ := List.getElem_of_mem hx
    have := key (xs.length - 1) (by omega) i (by omega)
    rwa [hget i hi] at this
  refine TV.pure fun s Q S k => ?_
  obtain ⟨vs, q1, q2⟩ := hL s S
  have hvs : vs.size = xs.length := by first | exact q2.size | exact q2.sizeM | (have := q2.length; simp at this; omega)
  have hvi : ∀ (i : Nat) v, vs[i]? = some v → ∃ t, v = .int (xs.getD i 0) t := by
    intro i v hv
    have hi : i < xs.length := by rw [← hvs]; exact (Array.getElem?_eq_some_iff.mp hv).1
    obtain ⟨v', hv', t, rfl⟩ := q2.get (i := i) (a := .int (xs.getD i 0)) (by rw [List.getElem?_map, hget i hi, List.getElem?_eq_getElem hi]; rfl)
    have q : vs[i]? = some (.int (xs.getD i 0) t) := by simpa using hv'
    rw [q] at hv; exact ⟨t, (Option.some.inj hv).symm⟩
  refine call_min_list bt c.hhan q1 (by omega) (fun i j vi vj s' h1 h2 hk => ?_) fun v h' tk hv hk => ?_
  · obtain ⟨t1, rfl⟩ := hvi i vi h1
    obtain ⟨t2, rfl⟩ := hvi j vj h2
    exact LtAt.int _ _ _ _
  · rw [hvs] at hv
    obtain ⟨t, rfl⟩ := hvi _ _ hv
    exact k _ h' tk ⟨t, rfl⟩ hk
end

theorem valueAt_set (kvs : List (Str × Value)) (k : Str) (v : Value) (k' : Str) : valueAt (stored kvs k v) k' = if k' = k then some v else valueAt kvs k' := by
  unfold stored
  have hf : ∀ l : List (Str × Value), valueAt (l.map fun kv => if kv.1 = k then (kv.1, v) else kv) k' = if k' = k then (if l.any (fun kv => kv.1 = k) then some v else none) else valueAt l k' := by
    intro l
    induction l with
    | nil => simp [valueAt]
    | cons a l ih =>
      unfold valueAt at ih ⊢
      by_cases h1 : a.1 = k
      · by_cases h2 : k' = k
        · subst h2; simp [h1]
        · have : ¬ a.1 = k' := fun e => h2 (e ▸ h1)
          have h3 : ¬ k = k' := fun e => h2 e.symm
          simp [h1, h2, h3] at ih ⊢; exact ih
      · by_cases h2 : a.1 = k'
        · have h3 : ¬ k' = k := fun e => h1 (h2.trans e)
          simp [h1, h2, h3]
        · have ha : decide (a.1 = k) = false := by simpa using h1
          rw [List.any_cons, ha, Bool.false_or]
          simp [h1, h2] at ih ⊢; exact ih
  split
  · rename_i h
    rw [hf, h]; simp
  · rename_i h
    unfold valueAt
    rw [List.find?_append]
    by_cases h2 : k' = k
    · subst h2
      have : kvs.find? (fun kv => kv.1 = k') = none := by
        rw [List.find?_eq_none]; intro x hx e
        apply h; rw [List.any_eq_true]; exact ⟨x, hx, e⟩
      rw [this]; simp
    · have h3 : ¬ k = k' := fun e => h2 e.symm
      simp [h2, h3]
end Mine
end
section
open PySem PySem.W PyProof.Rows PySem.Calls
set_option autoImplicit false
set_option linter.unusedVariables false
set_option linter.unusedSimpArgs false
set_option maxRecDepth 20000
namespace Mine

theorem lt255 {s : Nat} (h : (255 : Int) < s) : 256 ≤ s := by omega
theorem nlt255 {s : Nat} (h : ¬ (255 : Int) < s) : s < 256 := by omega
theorem lt1000 {a b : Int} (h1 : a ≤ 26) (h2 : b ≤ 26) : a + b < 1000 := by omega
/-- a remembered answer -/
def Entry (R : List (List Nat)) (s : Nat) (row : List Nat) (v : Value) (L : Led) : Prop :=
  ∃ (t : Addr) (ot : Obj) (w : Addr) (ow : Obj) (best : Int) (ws : List (List Nat)), v = .ref t ∧ (t, ot) ∈ L ∧ TupO [.int best, .ref w] ot ∧ (w, ow) ∈ L ∧ ListO (ws.map PV.s) ow ∧ LeastOK R s row best ws
theorem Entry.mono {R : List (List Nat)} {s : Nat} {row : List Nat} {v : Value} {L L' : Led} (h : Entry R s row v L) (hs : ∀ p ∈ L, p ∈ L') : Entry R s row v L' :=
by
  obtain ⟨t, ot, w, ow, best, ws, h1, h2, h3, h4, h5, h6⟩ := h
  exact ⟨t, ot, w, ow, best, ws, h1, hs _ h2, h3, hs _ h4, h5, h6⟩

def sign7 : List Nat := [34, 61, 88, 120, 256, 257, 258]
theorem Sy_mem {s : Nat} : Sy s ↔ s ∈ sign7 := by unfold Sy sign7; simp
/-- a piece of the whole row -/
def Piece (row0 row : List Nat) : Prop := ∃ a b, a ≤ 4 ∧ b ≤ 4 ∧ row = (row0.drop a).take b
theorem Piece.take {row0 row : List Nat} (h : Piece row0 row) (k : Nat) : Piece row0 (row.take k) := by
  obtain ⟨a, b, ha, hb, rfl⟩ := h
  exact ⟨a, min k b, ha, by omega, by rw [List.take_take]⟩
theorem Piece.drop {row0 row : List Nat} (h0 : row0.length ≤ 4) (h : Piece row0 row) (k : Nat) : Piece row0 (row.drop k) := by
  obtain ⟨a, b, ha, hb, rfl⟩ := h
  rw [List.drop_take, List.drop_drop]
  by_cases hk : a + k ≤ 4
  · exact ⟨a + k, b - k, hk, by omega, rfl⟩
  · refine ⟨4, 0, by omega, by omega, ?_⟩
    have : row0.drop (a + k) = [] := List.drop_of_length_le (by omega)
    rw [this]; simp
theorem Piece.len {row0 row : List Nat} (h : Piece row0 row) : row.length ≤ 4 := by
  obtain ⟨a, b, ha, hb, rfl⟩ := h
  simp; omega
theorem Piece.mem {row0 row : List Nat} (h : Piece row0 row) : ∀ x ∈ row, x ∈ row0 := by
  obtain ⟨a, b, ha, hb, rfl⟩ := h
  exact fun x hx => List.mem_of_mem_drop (List.mem_of_mem_take hx)
def keysOf (row0 : List Nat) : List Str := sign7.flatMap fun s => (List.range 5).flatMap fun a => (List.range 5).map fun b => mk (s :: (row0.drop a).take b)
theorem keysOf_len (row0 : List Nat) : (keysOf row0).length = 175 := by
  unfold keysOf sign7
  simp only [List.length_flatMap, List.length_map, List.length_range, List.map_cons, List.map_nil, List.sum_cons, List.sum_nil]
  decide
theorem keysOf_mem {row0 row : List Nat} {s : Nat} (hs : Sy s) (h : Piece row0 row) : mk (s :: row) ∈ keysOf row0 := by
  obtain ⟨a, b, ha, hb, rfl⟩ := h
  exact List.mem_flatMap.mpr ⟨s, Sy_mem.mp hs, List.mem_flatMap.mpr ⟨a, List.mem_range.mpr (by omega), List.mem_map.mpr ⟨b, List.mem_range.mpr (by omega), rfl⟩⟩⟩

structure Memo (G : GC) (R : List (List Nat)) (row0 : List Nat) (L : Led) (kvs : List (Str × Value)) (ko : Obj) : Prop where
  o : DictO G kvs ko
  keys : ∀ p ∈ kvs, p.1 ∈ keysOf row0
  ent : ∀ s row v, valueAt kvs (mk (s :: row)) = some v → Entry R s row v L
theorem Memo.len {G : GC} {R : List (List Nat)} {row0 : List Nat} {L : Led} {kvs : List (Str × Value)} {ko : Obj} (h : Memo G R row0 L kvs ko) : kvs.length ≤ 175 := by
  obtain ⟨es, ep, _, _, _, _, hn⟩ := h.o
  have := nodup_len (kvs.map (·.1)) (keysOf row0) hn fun x hx => by
    obtain ⟨p, hp, rfl⟩ := List.mem_map.mp hx
    exact h.keys p hp
  rw [keysOf_len] at this
  simpa using this
theorem Memo.mono {G : GC} {R : List (List Nat)} {row0 : List Nat} {L L' : Led} {kvs : List (Str × Value)} {ko : Obj} (h : Memo G R row0 L kvs ko) (hs : ∀ p ∈ L, p ∈ L') : Memo G R row0 L' kvs ko :=
  ⟨h.o, h.keys, fun s row v hv => (h.ent s row v hv).mono hs⟩
theorem memo_store {G : GC} {R : List (List Nat)} {row0 : List Nat} {L : Led} {kvs : List (Str × Value)} {ko ko' : Obj} (h : Memo G R row0 L kvs ko) {s : Nat} {row : List Nat} {v : Value} (hs : Sy s) (hp : Piece row0 row) (hv : Entry R s row v L) (ho : DictO G (stored kvs (mk (s :: row)) v) ko') : Memo G R row0 L (stored kvs (mk (s :: row)) v) ko' := by
  refine ⟨ho, fun p hp' => ?_, fun s' row' v' hv' => ?_⟩
  · unfold stored at hp'
    split at hp'
    · obtain ⟨q, hq, rfl⟩ := List.mem_map.mp hp'
      split <;> exact h.keys q hq
    · rcases List.mem_append.mp hp' with q | q
      · exact h.keys p q
      · have : p = (mk (s :: row), v) := by simpa using q
        subst this; exact keysOf_mem hs hp
  · rw [valueAt_set] at hv'
    split at hv'
    · rename_i e
      have e' := mk_inj e
      cases hv'
      have e1 : s' = s ∧ row' = row := by simpa using e'
      rw [e1.1, e1.2]; exact hv
    · exact h.ent s' row' v' hv'

def level (s : Nat) : Nat := if s = 256 then 3 else if s = 257 then 2 else if s = 258 then 1 else 0
/-- what a call of _law_least answers -/
def LeastAns (G : GC) (R : List (List Nat)) (row0 : List Nat) (s : Nat) (row : List Nat) (kd : Addr) (rest F : Led) : VPost := fun pv O' N =>
  ∃ (t : Addr) (ko' : Obj) (kvs' : List (Str × Value)), pv = .ref t ∧ O' = (kd, ko') :: rest ∧ Memo G R row0 (N ++ F) kvs' ko' ∧ Entry R s row (.ref t) (N ++ F)
def LeastFn (G : GC) (f : Addr) (R : List (List Nat)) (row0 : List Nat) (ra : Addr) (n d u : Nat) : Prop :=
  ∀ (s : Nat) (row : List Nat) (kd : Addr) (ko : Obj) (kvs : List (Str × Value)) (rest F : Led), Sy s → level s ≤ n → Piece row0 row → (kd == sysModules) = false → Memo G R row0 F kvs ko → (∃ ro, (ra, ro) ∈ F ∧ ListO (R.map PV.s) ro) →
    FnSpec G f d u [.ref ra, .s [s], .s row, .ref kd] ((kd, ko) :: rest) F (LeastAns G R row0 s row kd rest F)
end Mine
end
section
open PySem PySem.W PyProof.Rows PySem.Calls
set_option autoImplicit false
set_option linter.unusedVariables false
set_option linter.unusedSimpArgs false
set_option maxRecDepth 20000
namespace Mine

abbrev leastNames : List Str := [Str.ofString "rules", Str.ofString "sign", Str.ofString "row", Str.ofString "known", Str.ofString "key", Str.ofString "best", Str.ofString "words", Str.ofString "rule", Str.ofString "cut", Str.ofString "one", Str.ofString "heads", Str.ofString "two", Str.ofString "tails", Str.ofString "head", Str.ofString "tail"]

theorem mcost_is {c : Nat} : ∀ {row : List Nat} {m : Int}, m ∈ row.map (fun x => costN x c) → (∀ x ∈ row.map (fun x => costN x c), m ≤ x) → mcost c row = m
  | [], m, h, _ => by simp at h
  | [x], m, h, _ => by
    have e : m = costN x c := by simpa using h
    have := cost_le2 x c
    simp only [mcost]; omega
  | x :: y :: r, m, h, hle => by
    have h0 := hle (costN x c) (by simp)
    by_cases hx : m = costN x c
    · have hr : ∀ z ∈ (y :: r).map (fun x => costN x c), m ≤ z := fun z hz => hle z (by simp at hz ⊢; exact .inr hz)
      have : m ≤ mcost c (y :: r) := by
        have : ∀ l : List Nat, (∀ z ∈ l.map (fun x => costN x c), m ≤ z) → m ≤ 2 → m ≤ mcost c l := by
          intro l
          induction l with
          | nil => intro _ h; exact h
          | cons z l ih => intro h1 h2; have := h1 _ (by simp : costN z c ∈ _); have := ih (fun w hw => h1 w (by simp at hw ⊢; exact .inr hw)) h2; simp only [mcost]; omega
        exact this _ hr (by have := cost_le2 x c; omega)
      rw [mcost]; omega
    · have hm : m ∈ (y :: r).map (fun x => costN x c) := by
        simp only [List.map_cons, List.mem_cons] at h ⊢
        rcases h with h | h
        · exact absurd h hx
        · exact h
      have := mcost_is hm fun z hz => hle z (by simp at hz ⊢; exact .inr hz)
      rw [mcost, this]; omega
def Tm (s : Nat) : Prop := s = 34 ∨ s = 61 ∨ s = 88 ∨ s = 120
theorem cost_tm {x s : Nat} (hx : Tm x) (hs : Tm s) : costN x s = if x = s then 0 else if [[120, 88], [88, 120]].contains [x, s] then 1 else 2 := by
  have h : ∀ x ∈ [34, 61, 88, 120], ∀ s ∈ [34, 61, 88, 120], costN x s = if x = s then 0 else if [[120, 88], [88, 120]].contains [x, s] then 1 else 2 := by decide +kernel
  refine h x ?_ s ?_
  · unfold Tm at hx; simpa using hx
  · unfold Tm at hs; simpa using hs

theorem level_lt {N x y : Nat} (hN : N = 256 ∨ N = 257 ∨ N = 258) (sx : Sy x) (sy : Sy y) (h : sz x + sz y < sz N) : level x < level N ∧ level y < level N := by
  have key : ∀ N ∈ [256, 257, 258], ∀ x ∈ sign7, ∀ y ∈ sign7, sz x + sz y < sz N → level x < level N ∧ level y < level N := by decide +kernel
  exact key N (by simpa using hN) x (Sy_mem.mp sx) y (Sy_mem.mp sy) h

/-- the state of the loops of _law_least -/
inductive LWI (G : GC) (R : List (List Nat)) (row0 : List Nat) (s : Nat) (row : List Nat) (ra kd : Addr) (rest F : Led) (P : Tr → Prop) : Sto → Led → Led → Prop
  | mk {N1 : Led} (best : Int) (ws : List (List Nat)) (w : Addr) (wo ko : Obj) (kvs : List (Str × Value)) (z7 z8 z9 z10 z11 z12 z13 z14 : Option PV) (h1 : ListO (ws.map PV.s) wo) (h2 : CI R s row P best ws) (h3 : Memo G R row0 (N1 ++ F) kvs ko) :
    LWI G R row0 s row ra kd rest F P [some (.ref ra), some (.s [s]), some (.s row), some (.ref kd), some (.s (s :: row)), some (.int best), some (.ref w), z7, z8, z9, z10, z11, z12, z13, z14] ((w, wo) :: (kd, ko) :: rest) N1
/-- when the least price and its words stand -/
inductive LWE (G : GC) (R : List (List Nat)) (row0 : List Nat) (s : Nat) (row : List Nat) (ra kd : Addr) (rest F : Led) : FPost
  | mk {N1 : Led} (best : Int) (ws : List (List Nat)) (w : Addr) (wo ko : Obj) (kvs : List (Str × Value)) (z7 z8 z9 z10 z11 z12 z13 z14 : Option PV) (h1 : ListO (ws.map PV.s) wo) (h2 : LeastOK R s row best ws) (h3 : Memo G R row0 (N1 ++ F) kvs ko) :
    LWE G R row0 s row ra kd rest F .next [some (.ref ra), some (.s [s]), some (.s row), some (.ref kd), some (.s (s :: row)), some (.int best), some (.ref w), z7, z8, z9, z10, z11, z12, z13, z14] ((w, wo) :: (kd, ko) :: rest) N1
/-- behind the first if -/
inductive LW1 (ra : Addr) (N : Nat) (row : List Nat) (kd : Addr) (best : Int) (x y k : Nat) (one : Int) (wh : Addr) (two : Int) (wt : Addr) (z13 z14 : Option PV) (ws : List (List Nat)) (ko2 : Obj) (rest : Led) : FPost
  | mk (best1 : Int) (bws : List (List Nat)) (w1 : Addr) (wo1 : Obj) (hb : (if one + two < best then one + two else best) = best1) (hw : (if one + two < best then [] else ws) = bws) (h : ListO (bws.map PV.s) wo1) :
    LW1 ra N row kd best x y k one wh two wt z13 z14 ws ko2 rest .next [some (.ref ra), some (.s [N]), some (.s row), some (.ref kd), some (.s (N :: row)), some (.int best1), some (.ref w1), some (.s [N, x, y]), some (.int (k : Int)), some (.int one), some (.ref wh), some (.int two), some (.ref wt), z13, z14] ((w1, wo1) :: (kd, ko2) :: rest) []
/-- behind the second if -/
inductive LW2 (ra : Addr) (N : Nat) (row : List Nat) (kd : Addr) (best1 : Int) (w1 : Addr) (x y k : Nat) (one : Int) (wh : Addr) (two : Int) (wt : Addr) (bws heads tails : List (List Nat)) (ko2 : Obj) (rest : Led) : FPost
  | mk {N' : Led} (ws2 : List (List Nat)) (wo2 : Obj) (z13 z14 : Option PV) (h1 : ListO (ws2.map PV.s) wo2) (h2 : ws2.Nodup) (h3 : ∀ v, v ∈ ws2 ↔ v ∈ bws ∨ (one + two = best1 ∧ ∃ h ∈ heads, ∃ t ∈ tails, v = h ++ t)) :
    LW2 ra N row kd best1 w1 x y k one wh two wt bws heads tails ko2 rest .next [some (.ref ra), some (.s [N]), some (.s row), some (.ref kd), some (.s (N :: row)), some (.int best1), some (.ref w1), some (.s [N, x, y]), some (.int (k : Int)), some (.int one), some (.ref wh), some (.int two), some (.ref wt), z13, z14] ((w1, wo2) :: (kd, ko2) :: rest) N'
/-- the loop over the heads -/
inductive LWH (ra : Addr) (N : Nat) (row : List Nat) (kd : Addr) (best1 : Int) (w1 : Addr) (x y k : Nat) (one : Int) (wh : Addr) (two : Int) (wt : Addr) (bws heads tails : List (List Nat)) (ko2 : Obj) (rest : Led) (j2 : Nat) : Sto → Led → Led → Prop
  | mk {N' : Led} (ws2 : List (List Nat)) (wo2 : Obj) (z13 z14 : Option PV) (h1 : ListO (ws2.map PV.s) wo2) (h2 : ws2.Nodup) (h3 : ∀ v, v ∈ ws2 ↔ v ∈ bws ∨ (∃ h ∈ heads.take j2, ∃ t ∈ tails, v = h ++ t)) :
    LWH ra N row kd best1 w1 x y k one wh two wt bws heads tails ko2 rest j2 [some (.ref ra), some (.s [N]), some (.s row), some (.ref kd), some (.s (N :: row)), some (.int best1), some (.ref w1), some (.s [N, x, y]), some (.int (k : Int)), some (.int one), some (.ref wh), some (.int two), some (.ref wt), z13, z14] ((w1, wo2) :: (kd, ko2) :: rest) N'
/-- the loop over the tails -/
inductive LWT (ra : Addr) (N : Nat) (row : List Nat) (kd : Addr) (best1 : Int) (w1 : Addr) (x y k : Nat) (one : Int) (wh : Addr) (two : Int) (wt : Addr) (ws2 tails : List (List Nat)) (hd : List Nat) (ko2 : Obj) (rest : Led) (j3 : Nat) : Sto → Led → Led → Prop
  | mk {N' : Led} (ws3 : List (List Nat)) (wo3 : Obj) (z14 : Option PV) (h1 : ListO (ws3.map PV.s) wo3) (h2 : ws3.Nodup) (h3 : ∀ v, v ∈ ws3 ↔ v ∈ ws2 ∨ (∃ t ∈ tails.take j3, v = hd ++ t)) :
    LWT ra N row kd best1 w1 x y k one wh two wt ws2 tails hd ko2 rest j3 [some (.ref ra), some (.s [N]), some (.s row), some (.ref kd), some (.s (N :: row)), some (.int best1), some (.ref w1), some (.s [N, x, y]), some (.int (k : Int)), some (.int one), some (.ref wh), some (.int two), some (.ref wt), some (.s hd), z14] ((w1, wo3) :: (kd, ko2) :: rest) N'

set_option maxHeartbeats 4000000 in
theorem least_step {G : GC} (hord : nsIn G.K mainGlobals (Str.ofString "ord") = some none) (hrange : nsIn G.K mainGlobals (Str.ofString "range") = some none) (hlen : nsIn G.K mainGlobals (Str.ofString "len") = some none) (hmin : nsIn G.K mainGlobals (Str.ofString "min") = some none)
    {f : Addr} (D : DefAt G (Str.ofString "_law_least") f (fnP PP 20) (fnB PP 20) (fnS PP 20)) (R : List (List Nat)) (g : Gram R) (row0 : List Nat) (hrow0 : row0.length ≤ 4) (hrowS : ∀ x ∈ row0, x = 34 ∨ x = 61 ∨ x = 88 ∨ x = 120) (ra : Addr) (n d u : Nat) (hu : 1 ≤ u)
    (ih : ∀ m, m < n → LeastFn G f R row0 ra m d u) : LeastFn G f R row0 ra n (d + 1) (u + 3) := by
  intro s row kd ko kvs rest F hs hlv hpc hkd hmemo ⟨ro, hrm, hrl⟩
  refine fn_of_bodyC D leastNames ?_ (by decide) (by decide) rfl rfl rfl (by decide) (by simp) ?_
  · intro name qual doc pm an cdv ct vals hv
    obtain ⟨v1, v2, v3, v4, rfl⟩ := len4 hv; rfl
  intro c F' H room hsub
  refine Ex.cut fun P0 hP0 => ?_
  have Hn := H.nms
  have hrl4 := hpc.len
  have hrM : row.length ≤ 1048576 := Nat.le_trans hrl4 (by decide)
  -- key
  refine s_asgN H 4 rfl rfl (lt_of_blt rfl) (ev_eq (ev_adds (nv_ Hn 1 rfl rfl) (nv_ Hn 2 rfl rfl) (two_le 1 4 (Nat.le_refl _) hrl4)) (by rw [mk_append]; first | done | rfl)) ?_
  simp only [List.map_cons, List.map_nil, List.cons_append, List.nil_append, List.length_cons, List.length_nil, List.replicate_succ, List.replicate_zero, List.set_cons_zero, List.set_cons_succ, List.append_nil]
  have hmemo' := hmemo.mono hsub
  -- known?
  refine s_if (b := (valueAt kvs (mk (s :: row))).isSome) (ts_cmp (nv_ Hn 4 rfl rfl) (nv_ Hn 3 rfl rfl) rfl (fun vl vr il ir => ?_)) (fun e => ?_) (fun e => ?_)
  · obtain ⟨t, rfl⟩ := il
    cases ir
    exact cm_in_dict hkd (List.mem_append_left _ (.head _)) hmemo.o
  · obtain ⟨v, hv⟩ := Option.isSome_iff_exists.mp e
    obtain ⟨t, ot, w, ow, best, ws, rfl, hm1, hm2, hm3, hm4, hm5⟩ := hmemo.ent s row v hv
    refine s_ret (ev_dictitem (nv_ Hn 3 rfl rfl) (nv_ Hn 4 rfl rfl) (List.mem_append_left _ (.head _)) hmemo.o hv (pv := .ref t) rfl) ?_
    exact hP0 _ _ _ _ ⟨t, ko, kvs, rfl, rfl, by simpa using hmemo, ⟨t, ot, w, ow, best, ws, rfl, by simpa using hm1, hm2, by simpa using hm3, hm4, hm5⟩⟩
  refine s_asgN H 5 rfl rfl (lt_of_blt rfl) ev_int ?_
  refine ex_cons (asgN_ H 6 rfl rfl (lt_of_blt rfl) (ev_list (xs := [[s]].map PV.s) (ta_pp (nv_ Hn 1 rfl rfl) ta_np) (by simp [sizeLine_eq]) ?_))
  intro w wo hwo
  simp only [List.set_cons_zero, List.set_cons_succ, List.nil_append]
  -- the least price and its words
  refine ex_cons (TF.mono (R := LWE G R row0 s row ra kd rest F) ?_ ?_)
  · refine ex_if (b := decide (255 < (s : Int))) (ts_cmpp (nord_ Hn (n := s) hord rfl (nv_ Hn 1 rfl rfl)) ev_int (.gtI _ _)) (fun e1 => ?_) (fun e1 => ?_)
    · have hge : 256 ≤ s := lt255 (of_decide_eq_true e1)
      have hN : s = 256 ∨ s = 257 ∨ s = 258 := hs.hi hge
      refine s_asgN H 5 rfl rfl (lt_of_blt rfl) ev_int ?_
      dsimp only [List.set_cons_zero, List.set_cons_succ]
      refine ex_cons (forN_ H 7 (items := R.map PV.s) rfl rfl (fun j σ1 O1 N1 => LWI G R row0 s row ra kd rest F (fun p => [s, p.1, p.2.1] ∈ R.take j ∧ p.2.2 ≤ row.length) σ1 O1 N1) ?_ (it_list (TV.mono (nv_ Hn 0 rfl rfl) fun pv O1 N1' ⟨q1, q2, q3⟩ => ⟨ra, ro, q1, hrl, by subst q3; exact hsub _ hrm, ?_⟩)) ?_ ?_)
      · rintro k σ1 O1 N1 ⟨⟩; exact lt_of_blt rfl
      · subst q2 q3
        exact ⟨1000, [[s]], w, wo, ko, kvs, _, _, _, _, _, _, _, _, hwo, CI_start R s row (fun p hp => by simp at hp), by simpa using hmemo⟩
      · rintro j pv σ1 O1 N1 F2 hj ⟨best, ws, w, wo, ko, kvs, z7, z8, z9, z10, z11, z12, z13, z14, hws, hci, hmm⟩ hF2
        refine Ex.cut fun P1 hP1 => ?_
        have hjl : j < R.length := by have := (List.getElem?_eq_some_iff.mp hj).1; simpa using this
        rw [List.getElem?_map, List.getElem?_eq_getElem hjl] at hj
        cases hj
        obtain ⟨N, x, y, hu⟩ : ∃ N x y, R[j] = [N, x, y] := by
          have hm := List.getElem_mem hjl
          obtain ⟨r0, r1, r2, r3, r4, r5, rfl, ⟨_, _, rfl, _⟩, ⟨_, _, rfl, _⟩, ⟨_, _, rfl, _⟩, ⟨_, _, rfl, _⟩, ⟨_, _, rfl, _⟩, ⟨_, _, rfl, _⟩⟩ := g
          simp only [List.mem_cons, List.not_mem_nil, or_false] at hm
          rcases hm with h | h | h | h | h | h <;> exact ⟨_, _, _, h⟩
        have htake : R.take (j + 1) = R.take j ++ [R[j]] := List.take_succ_eq_append_getElem hjl
        have hmemR : [N, x, y] ∈ R := hu ▸ List.getElem_mem hjl
        dsimp only [List.set_cons_zero, List.set_cons_succ]
        rw [hu] at htake ⊢
        refine ex_cons (ex_if (b := ([N] == [s])) (ts_eq (ts_cmpp (item_ (l := [N, x, y]) (i := 0) (nv_ Hn 7 rfl rfl) ev_int (Nat.le_of_ble_eq_true rfl) (Nat.le_of_ble_eq_true rfl)) (nv_ Hn 1 rfl rfl) (.eqS _ _)) (by rw [mk_eq]; rfl)) (fun e5 => ?_) (fun e5 => ?_))
        · have hNs : N = s := by simpa using e5
          subst hNs
          obtain ⟨_, sx, sy, hszlt⟩ := g.rule hmemR
          have hrm2 : (ra, ro) ∈ F2 := hF2 _ (List.mem_append_right _ (hsub _ hrm))
          refine ex_cons (forN_ H 8 (items := rangePV 0 1 (row.length + 1)) rfl rfl (fun k σ1 O1 N2 => σ1[7]? = some (some (.s [N, x, y])) ∧ LWI G R row0 N row ra kd rest (N1 ++ F) (fun p => ([N, p.1, p.2.1] ∈ R.take j ∧ p.2.2 ≤ row.length) ∨ (p.1 = x ∧ p.2.1 = y ∧ p.2.2 < k)) σ1 O1 N2) ?_
            (it_range1 (n := row.length + 1) hrange (Hn.glob _ rfl) (ev_eq (ev_add (ev_eq (ev_len hlen (Hn.glob _ rfl) (nv_ Hn 2 rfl rfl) (le_mk hrM)) (by rw [mk_length])) ev_int) (by push_cast; rfl)) (Nat.le_trans (Nat.succ_le_succ hrl4) (by decide)) ?_ H.own) ?_ ?_)
          · rintro k σ1 O1 N1 ⟨_, ⟨⟩⟩; exact lt_of_blt rfl
          · exact ⟨rfl, best, ws, w, wo, ko, kvs, _, _, _, _, _, _, _, _, hws, CI_congr hci (fun p => by simp), by simpa using hmm⟩
          · rintro k pv σ1 O1 N2 F3 hk ⟨h7, best, ws, w, wo, ko, kvs, z7, z8, z9, z10, z11, z12, z13, z14, hws, hci, hmm⟩ hF3
            refine Ex.cut fun P2 hP2 => ?_
            have hkl : k < row.length + 1 := by have := (List.getElem?_eq_some_iff.mp hk).1; rwa [rangePV_len] at this
            rw [rangePV_get hkl] at hk
            have ek := zk k
            rw [ek] at hk
            cases hk
            have hz7 : z7 = some (.s [N, x, y]) := by simpa using h7
            subst hz7
            have hrm3 : (ra, ro) ∈ F3 := hF3 _ (List.mem_append_right _ hrm2)
            have hsub3 : ∀ p ∈ N2 ++ (N1 ++ F), p ∈ F3 := fun p hp => by
              rcases List.mem_append.mp hp with q | q
              · exact hF3 p (List.mem_append_left _ q)
              · refine hF3 p (List.mem_append_right _ (hF2 p ?_))
                rcases List.mem_append.mp q with q | q
                · exact List.mem_append_left _ q
                · exact List.mem_append_right _ (hsub _ q)
            have hlvx := level_lt hN sx sy hszlt
            have hroF : ∃ ro, (ra, ro) ∈ N2 ++ (N1 ++ F) ∧ ListO (R.map PV.s) ro := ⟨ro, List.mem_append_right _ (List.mem_append_right _ hrm), hrl⟩
            dsimp only [List.set_cons_zero, List.set_cons_succ]
            refine TG.permO (List.Perm.swap _ _ _) ?_
            refine ex_cons (unpackN_ H 9 10 rfl rfl rfl rfl (lt_of_blt rfl) (lt_of_blt rfl) (ev_call D.ns D.keep (Hn.glob _ rfl) (ta_consp (nv_ Hn 0 rfl rfl) (ta_consp (item_ (l := [N, x, y]) (i := 1) (nv_ Hn 7 rfl rfl) ev_int (Nat.le_of_ble_eq_true rfl) (Nat.le_of_ble_eq_true rfl)) (ta_consp (to_ (a := k) (nv_ Hn 2 rfl rfl) (nv_ Hn 8 rfl rfl) (Nat.le_of_lt_succ hkl) hrM) (ta_consp (nv_ Hn 3 rfl rfl)
              (ta_nil fun vals hv => TV.mono (ih (level x) (Nat.lt_of_lt_of_le hlvx.1 hlv) x (row.take k) kd ko kvs ((w, wo) :: rest) (N2 ++ (N1 ++ F)) sx (Nat.le_refl _) (hpc.take k) hkd hmm hroF c _ _ room hsub3 vals hv) ?_)))))))
            rintro pv O' N3 ⟨t, ko1, kvs1, rfl, rfl, hmm1, t', ot, wh, owh, one, heads, e, hm1, hm2, hm3, hm4, hL1⟩
            cases e
            refine ⟨t, ot, _, _, rfl, hm2, ?_, ?_⟩
            · rcases List.mem_append.mp hm1 with q | q
              · exact List.mem_append_right _ (by simp [q])
              · exact List.mem_append_right _ (by simp [hsub3 _ q])
            dsimp only [List.set_cons_zero, List.set_cons_succ]
            simp only [List.append_nil]
            have hsub4 : ∀ p ∈ N3 ++ (N2 ++ (N1 ++ F)), p ∈ N3 ++ F3 := fun p hp => by
              rcases List.mem_append.mp hp with q | q
              · exact List.mem_append_left _ q
              · exact List.mem_append_right _ (hsub3 _ q)
            have hro4 : ∃ ro, (ra, ro) ∈ N3 ++ (N2 ++ (N1 ++ F)) ∧ ListO (R.map PV.s) ro := ⟨ro, List.mem_append_right _ (List.mem_append_right _ (List.mem_append_right _ hrm)), hrl⟩
            refine ex_cons (unpackN_ H 11 12 rfl rfl rfl rfl (lt_of_blt rfl) (lt_of_blt rfl) (ev_call D.ns D.keep (Hn.glob _ rfl) (ta_consp (nv_ Hn 0 rfl rfl) (ta_consp (item_ (l := [N, x, y]) (i := 2) (nv_ Hn 7 rfl rfl) ev_int (Nat.le_of_ble_eq_true rfl) (Nat.le_of_ble_eq_true rfl)) (ta_consp (from_ (a := k) (nv_ Hn 2 rfl rfl) (nv_ Hn 8 rfl rfl) (Nat.le_of_lt_succ hkl) hrM) (ta_consp (nv_ Hn 3 rfl rfl)
              (ta_nil fun vals hv => TV.mono (ih (level y) (Nat.lt_of_lt_of_le hlvx.2 hlv) y (row.drop k) kd ko1 kvs1 ((w, wo) :: rest) (N3 ++ (N2 ++ (N1 ++ F))) sy (Nat.le_refl _) (hpc.drop hrow0 k) hkd hmm1 hro4 c _ _ room hsub4 vals hv) ?_)))))))
            rintro pv O' N4 ⟨t2, ko2, kvs2, rfl, rfl, hmm2, t2', ot2, wt, owt, two, tails, e, hm5, hm6, hm7, hm8, hL2⟩
            cases e
            have hsub5 : ∀ p ∈ N4 ++ (N3 ++ (N2 ++ (N1 ++ F))), p ∈ N4 ++ (N3 ++ F3) := fun p hp => by
              rcases List.mem_append.mp hp with q | q
              · exact List.mem_append_left _ q
              · exact List.mem_append_right _ (hsub4 _ q)
            refine ⟨t2, ot2, _, _, rfl, hm6, List.mem_append_right _ (by rw [List.append_nil]; exact hsub5 _ hm5), ?_⟩
            have hheads : (wh, owh) ∈ N4 ++ (N3 ++ F3) := List.mem_append_right _ (hsub4 _ hm3)
            have htails : (wt, owt) ∈ N4 ++ (N3 ++ F3) := hsub5 _ hm7
            simp only [List.set_cons_zero, List.set_cons_succ, List.append_nil]
            refine TG.permO (List.Perm.swap _ _ _) ?_
            have hb1 := hL1.small g (take_le hrl4)
            have hb2 := hL2.small g (drop_le hrl4)
            refine ex_cons (TF.mono (R := LW1 ra N row kd best x y k one wh two wt z13 z14 ws ko2 rest) ?_ ?_)
            · refine ex_if (b := decide (one + two < best)) (ts_cmpp (ev_add (nv_ Hn 9 rfl rfl) (nv_ Hn 11 rfl rfl)) (nv_ Hn 5 rfl rfl) (.ltI _ _)) (fun e1 => ?_) (fun e1 => ?_)
              · have e1' := of_decide_eq_true e1
                refine s_asgN H 5 rfl rfl (lt_of_blt rfl) (ev_add (nv_ Hn 9 rfl rfl) (nv_ Hn 11 rfl rfl)) ?_
                refine ex_cons (asgN_ H 6 rfl rfl (lt_of_blt rfl) (ev_list (xs := [].map PV.s) ta_np (by decide) ?_))
                intro w1 wo1 hw1
                dsimp only [List.set_cons_zero, List.set_cons_succ]
                refine TG.dropO (O' := (w1, wo1) :: (kd, ko2) :: rest) (List.Sublist.cons_cons _ (List.Sublist.cons _ (List.Sublist.refl _))) ?_
                exact ex_nil ⟨_, _, w1, wo1, by rw [if_pos e1'], by rw [if_pos e1'], hw1⟩
              · have e1' := of_decide_eq_false e1
                exact ex_nil ⟨_, _, w, wo, by rw [if_neg e1'], by rw [if_neg e1'], hws⟩
            rintro pf σ' O' N' ⟨best1, bws, w1, wo1, hbb, hbw, hw1⟩
            have hder : ∀ v ∈ bws, DerW R N v := by
              rw [← hbw]
              intro v hv
              split at hv
              · cases hv
              · rename_i hnl
                rcases hci.mem with ⟨_, e9⟩ | ⟨_, _, hmem⟩
                · exact absurd (by rw [e9]; exact lt1000 hb1.2 hb2.2) hnl
                · obtain ⟨p, hp, u, v', rfl, hu1, hv1, _⟩ := (hmem v).mp hv
                  have hpR : [N, p.1, p.2.1] ∈ R := by
                    rcases hp with ⟨hp, _⟩ | ⟨hp1, hp2, _⟩
                    · exact List.mem_of_mem_take hp
                    · rw [hp1, hp2]; exact hmemR
                  exact .nont hge hpR hu1 hv1
            have hnd1 : bws.Nodup := by
              rw [← hbw]
              split
              · exact List.nodup_nil
              · exact hci.nd
            have hdx : ∀ u ∈ heads, DerW R x u := fun u hu => ((hL1.mem u).mp hu).1
            have hdy : ∀ u ∈ tails, DerW R y u := fun u hu => ((hL2.mem u).mp hu).1
            have szle : ∀ s, sz s ≤ 9 := fun s => by unfold sz; split <;> (try split) <;> (try split) <;> decide
            refine ex_cons (TF.mono (R := LW2 ra N row kd best1 w1 x y k one wh two wt bws heads tails ko2 rest) ?_ ?_)
            · refine ex_if (b := (one + two == best1)) (ts_cmpp (ev_add (nv_ Hn 9 rfl rfl) (nv_ Hn 11 rfl rfl)) (nv_ Hn 5 rfl rfl) (.eqI _ _)) (fun e1 => ?_) (fun e1 => ?_)
              · have e1' : one + two = best1 := eq_of_beq e1
                refine ex_cons (forN_ H 13 (items := heads.map PV.s) rfl rfl (LWH ra N row kd best1 w1 x y k one wh two wt bws heads tails ko2 rest) ?_ (it_list (TV.mono (nv_ Hn 10 rfl rfl) fun pv O1 N1' ⟨q1, q2, q3⟩ => ⟨wh, owh, q1, hm4, by subst q3; exact hheads, ?_⟩)) ?_ ?_)
                · rintro k σ1 O1 N1 ⟨⟩; exact lt_of_blt rfl
                · subst q2 q3
                  exact ⟨bws, wo1, _, _, hw1, hnd1, fun v => by simp⟩
                · rintro j2 pv σ1 O1 N5 F5 hj2 ⟨ws2, wo2, z13, z14, hw2, hnd2, hiff2⟩ hF5
                  refine Ex.cut fun P4 hP4 => ?_
                  have hjl2 : j2 < heads.length := by have := (List.getElem?_eq_some_iff.mp hj2).1; simpa using this
                  rw [List.getElem?_map, List.getElem?_eq_getElem hjl2] at hj2
                  cases hj2
                  have htake2 : heads.take (j2 + 1) = heads.take j2 ++ [heads[j2]] := List.take_succ_eq_append_getElem hjl2
                  have hhm : heads[j2] ∈ heads := List.getElem_mem hjl2
                  generalize heads[j2] = hd at htake2 hhm ⊢
                  dsimp only [List.set_cons_zero, List.set_cons_succ]
                  refine ex_cons (forN_ H 14 (items := tails.map PV.s) rfl rfl (LWT ra N row kd best1 w1 x y k one wh two wt ws2 tails hd ko2 rest) ?_ (it_list (TV.mono (nv_ Hn 12 rfl rfl) fun pv O1 N1' ⟨q1, q2, q3⟩ => ⟨wt, owt, q1, hm8, by subst q3; exact hF5 _ (List.mem_append_right _ htails), ?_⟩)) ?_ ?_)
                  · rintro k σ1 O1 N1 ⟨⟩; exact lt_of_blt rfl
                  · subst q2 q3
                    exact ⟨ws2, wo2, _, hw2, hnd2, fun v => by simp⟩
                  · rintro j3 pv σ1 O1 N6 F6 hj3 ⟨ws3, wo3, z14, hw3, hnd3, hiff3⟩ hF6
                    refine Ex.cut fun P3 hP3 => ?_
                    have hjl3 : j3 < tails.length := by have := (List.getElem?_eq_some_iff.mp hj3).1; simpa using this
                    rw [List.getElem?_map, List.getElem?_eq_getElem hjl3] at hj3
                    cases hj3
                    have htake3 : tails.take (j3 + 1) = tails.take j3 ++ [tails[j3]] := List.take_succ_eq_append_getElem hjl3
                    have htm : tails[j3] ∈ tails := List.getElem_mem hjl3
                    generalize tails[j3] = tl at htake3 htm ⊢
                    dsimp only [List.set_cons_zero, List.set_cons_succ]
                    have hl1 := (hdx _ hhm).len g
                    have hl2 := (hdy _ htm).len g
                    have hl1' := szle x
                    have hl2' := szle y
                    have hszs : (mk hd).length + (mk tl).length ≤ sizeLine := two_le 9 9 (Nat.le_trans hl1 hl1') (Nat.le_trans hl2 hl2')
                    refine ex_cons (ex_if (b := !ws3.contains (hd ++ tl)) (ts_cmp (pl := .s (hd ++ tl)) (ev_eq (ev_adds (nv_ Hn 13 rfl rfl) (nv_ Hn 14 rfl rfl) hszs) (by rw [mk_append])) (nv_ Hn 6 rfl rfl) rfl (fun vl vr il ir => ?_)) (fun e2 => ?_) (fun e2 => ?_))
                    · obtain ⟨t, rfl⟩ := il
                      cases ir
                      exact cm_notin_list (listAt_led (List.mem_append_left _ (.head _)) hw3)
                    · have hnotin : (hd ++ tl) ∉ ws3 := by simpa using e2
                      have hlen3 : ws3.length ≤ 16 := by
                        refine words_le16 g (.inr hN) hnd3 fun v hv => ?_
                        rcases (hiff3 v).mp hv with h | ⟨t, ht, rfl⟩
                        · rcases (hiff2 v).mp h with h | ⟨h1, hh1, t1, ht1, rfl⟩
                          · exact hder v h
                          · exact .nont hge hmemR (hdx _ (List.mem_of_mem_take hh1)) (hdy _ ht1)
                        · exact .nont hge hmemR (hdx _ hhm) (hdy _ (List.mem_of_mem_take ht))
                      refine ex_cons (ex_expr (ev_append (pv := .s (hd ++ tl)) (nv_ Hn 6 rfl rfl) (ev_eq (ev_adds (nv_ Hn 13 rfl rfl) (nv_ Hn 14 rfl rfl) hszs) (by rw [mk_append])) hw3 (map_le hlen3) ?_) (by unfold interactive; rw [c.hek]; rfl))
                      intro wo4 hwo4
                      refine ex_nil (ex_nil (hP3 _ _ _ _ ⟨ws3 ++ [hd ++ tl], wo4, _, by simpa using hwo4, ?_, fun v => ?_⟩))
                      · refine List.nodup_append.mpr ⟨hnd3, by simp, fun a ha b hb' e => ?_⟩
                        have hbt : b = hd ++ tl := by simpa using hb'
                        subst hbt; subst e; exact hnotin ha
                      · rw [htake3, List.mem_append, hiff3 v]
                        simp only [List.mem_append, List.mem_singleton]
                        constructor
                        · rintro ((h | ⟨t, ht, e⟩) | h)
                          · exact .inl h
                          · exact .inr ⟨t, .inl ht, e⟩
                          · exact .inr ⟨tl, .inr rfl, h⟩
                        · rintro (h | ⟨t, ht | rfl, e⟩)
                          · exact .inl (.inl h)
                          · exact .inl (.inr ⟨t, ht, e⟩)
                          · exact .inr e
                    · have hin : (hd ++ tl) ∈ ws3 := by simpa using e2
                      refine ex_nil (ex_nil (hP3 _ _ _ _ ⟨ws3, wo3, _, hw3, hnd3, fun v => ?_⟩))
                      rw [htake3, hiff3 v]
                      simp only [List.mem_append, List.mem_singleton]
                      constructor
                      · rintro (h | ⟨t, ht, e⟩)
                        · exact .inl h
                        · exact .inr ⟨t, .inl ht, e⟩
                      · rintro (h | ⟨t, ht | rfl, e⟩)
                        · exact .inl h
                        · exact .inr ⟨t, ht, e⟩
                        · rw [← e] at hin
                          exact (hiff3 v).mp hin
                  · rintro σ1 O1 N6 ⟨ws3, wo3, z14, hw3, hnd3, hiff3⟩
                    refine ex_nil (hP4 _ _ _ _ ⟨ws3, wo3, _, _, hw3, hnd3, fun v => ?_⟩)
                    rw [hiff3 v, hiff2 v, htake2, List.length_map, List.take_length]
                    simp only [List.mem_append, List.mem_singleton]
                    constructor
                    · rintro ((h | ⟨h, hh, t, ht, e⟩) | ⟨t, ht, e⟩)
                      · exact .inl h
                      · exact .inr ⟨h, .inl hh, t, ht, e⟩
                      · exact .inr ⟨hd, .inr rfl, t, ht, e⟩
                    · rintro (h | ⟨h, hh | rfl, t, ht, e⟩)
                      · exact .inl (.inl h)
                      · exact .inl (.inr ⟨h, hh, t, ht, e⟩)
                      · exact .inr ⟨t, ht, e⟩
                · rintro σ1 O1 N5 ⟨ws2, wo2, z13, z14, hw2, hnd2, hiff2⟩
                  refine ex_nil ⟨ws2, wo2, _, _, hw2, hnd2, fun v => ?_⟩
                  rw [hiff2 v, List.length_map, List.take_length]
                  simp only [e1', true_and]
              · have e1' : ¬ one + two = best1 := by simpa using e1
                exact ex_nil ⟨bws, wo1, _, _, hw1, hnd1, fun v => by simp [e1']⟩
            rintro pf σ' O' N5 ⟨ws2, wo2, z13', z14', hw2, hnd2, hiff2⟩
            subst hbb
            have hci2 := CI_step hci hL1 hL2 (lt1000 hb1.2 hb2.2) hnd2 (fun v => by rw [hiff2 v, ← hbw])
            refine ex_nil (hP2 _ _ _ _ ⟨rfl, _, ws2, w1, wo2, ko2, kvs2, _, _, _, _, _, _, _, _, hw2, CI_congr hci2 (fun p => ?_), ?_⟩)
            · obtain ⟨p1, p2, p3⟩ := p
              simp only [Prod.mk.injEq]
              constructor
              · rintro (h | ⟨h1, h2, h3⟩)
                · exact .inl (.inl h)
                · by_cases h4 : p3 = k
                  · exact .inr ⟨h1, h2, h4⟩
                  · exact .inl (.inr ⟨h1, h2, Nat.lt_of_le_of_ne (Nat.le_of_lt_succ h3) h4⟩)
              · rintro ((h | ⟨h1, h2, h3⟩) | ⟨h1, h2, h3⟩)
                · exact .inl h
                · exact .inr ⟨h1, h2, Nat.lt_succ_of_lt h3⟩
                · exact .inr ⟨h1, h2, h3 ▸ Nat.lt_succ_self _⟩
            · refine hmm2.mono fun p hp => ?_
              simp only [List.append_assoc, List.append_nil, List.nil_append]
              exact List.mem_append_right _ hp
          · rintro σ1 O1 N2 ⟨_, best, ws, w, wo, ko, kvs, z7, z8, z9, z10, z11, z12, z13, z14, hws, hci, hmm⟩
            refine ex_nil (ex_nil (hP1 _ _ _ _ ⟨best, ws, w, wo, ko, kvs, _, _, _, _, _, _, _, _, hws, CI_congr hci (fun p => ?_), by simpa using hmm⟩))
            rw [htake, List.mem_append, rangePV_len]
            obtain ⟨p1, p2, p3⟩ := p
            simp only [List.mem_singleton, List.cons.injEq, and_true, true_and]
            constructor
            · rintro ⟨h | h, h2⟩
              · exact .inl ⟨h, h2⟩
              · exact .inr ⟨h.1, h.2, Nat.lt_succ_of_le h2⟩
            · rintro (⟨h, h2⟩ | ⟨h1, h2, h3⟩)
              · exact ⟨.inl h, h2⟩
              · exact ⟨.inr ⟨h1, h2⟩, Nat.le_of_lt_succ h3⟩
        · have hNs : ¬ N = s := by simpa using e5
          refine ex_nil (ex_nil (hP1 _ _ _ _ ⟨best, ws, w, wo, ko, kvs, _, _, _, _, _, _, _, _, hws, CI_congr hci (fun p => ?_), by simpa using hmm⟩))
          rw [htake, List.mem_append]
          constructor
          · rintro ⟨h | h, h2⟩
            · exact ⟨h, h2⟩
            · exact absurd (by simpa using congrArg List.head? (List.mem_singleton.mp h)) (fun e : s = N => hNs e.symm)
          · rintro ⟨h, h2⟩; exact ⟨.inl h, h2⟩
      · rintro σ1 O1 N1 ⟨best, ws, w, wo, ko, kvs, z7, z8, z9, z10, z11, z12, z13, z14, hws, hci, hmm⟩
        refine ex_nil ⟨best, ws, w, wo, ko, kvs, _, _, _, _, _, _, _, _, hws, CI_done hge hci (fun p => by rw [List.length_map, List.take_length]) ?_, by simpa using hmm⟩
        obtain ⟨x1, y1, x2, y2, _, _, _, hiff⟩ := gram_new g hN [] []
        exact ⟨(x1, y1, 0), by rw [List.length_map, List.take_length]; exact (hiff x1 y1).mpr (.inl ⟨rfl, rfl⟩), Nat.zero_le _⟩
    · have hlt : s < 256 := nlt255 (of_decide_eq_false e1)
      have hst : Tm s := hs.lo hlt
      have hbest := least_term (R := R) hlt row
      by_cases hr : row = []
      · rw [if_pos hr] at hbest
        refine ex_cons (ex_if (b := false) (ts_eq (ts_cmpp (nv_ Hn 2 rfl rfl) (ev_eq ev_str (by rw [lit_e])) (.neS _ _)) (by rw [mk_ne, hr]; rfl)) (fun e => by cases e) (fun _ => ex_nil (ex_nil ?_)))
        exact ⟨2, [[s]], w, wo, ko, kvs, _, _, _, _, _, _, _, _, hwo, hbest, by simpa using hmemo⟩
      · rw [if_neg hr] at hbest
        refine ex_cons (ex_if (b := true) (ts_eq (ts_cmpp (nv_ Hn 2 rfl rfl) (ev_eq ev_str (by rw [lit_e])) (.neS _ _)) (by rw [mk_ne]; simpa using hr)) (fun _ => ?_) (fun e => by cases e))
        have hrt : ∀ x ∈ row, Tm x := fun x hx => by have := hrowS x (hpc.mem x hx); unfold Tm; exact this
        have hst' : s ≠ 256 ∧ s ≠ 257 ∧ s ≠ 258 := ⟨Nat.ne_of_lt hlt, Nat.ne_of_lt (Nat.lt_succ_of_lt hlt), Nat.ne_of_lt (Nat.lt_succ_of_lt (Nat.lt_succ_of_lt hlt))⟩
        refine s_asgN H 5 rfl rfl (lt_of_blt rfl) (pv := .int (2 * row.length - 2 + mcost s row)) (ev_add (ev_sub (ev_mul ev_int (ev_eq (ev_len hlen (Hn.glob _ rfl) (nv_ Hn 2 rfl rfl) (le_mk hrM)) (by rw [mk_length])) (.of_left (by decide))) ev_int) (TV.drop (ev_bcall hmin (by boot_fast) (Hn.glob _ rfl) (ta_cons (TV.mono (R := fun pv O1 N1 => ∃ a o, pv = .ref a ∧ O1 = (a, o) :: (w, wo) :: (kd, ko) :: rest ∧ N1 = [] ∧ ListO ((row.map fun x => costN x s).map PV.int) o) ?_ ?_))))) ?_
        · refine ev_comp (I0 := fun O1 N1 => O1 = (w, wo) :: (kd, ko) :: rest ∧ N1 = []) (fun pv => match pv with | .str x => .int (costN (x.cps.toList.headD 0) s) | _ => .none) [(Str.ofString "sign", .s [s])] ⟨by decide, rfl, by decide, rfl⟩
            (it_str (nv_ Hn 2 rfl rfl) ⟨rfl, rfl⟩) (map_le hrM (Nat.le_refl _)) ?_ ?_ (by show List.Nodup [Str.ofString "one", Str.ofString "sign"]; decide) ?_ ?_
          · intro x hx
            rcases List.mem_cons.mp hx with rfl | hx
            · exact H.cell _ rfl
            cases hx
          · intro p hp
            rcases List.mem_cons.mp hp with rfl | hp
            · exact ⟨H.kind rfl, rfl, ⟨1, by rw [H.nm]; rfl, rfl⟩, by show Str.ofString "sign" ∈ _; decide⟩
            cases hp
          · rintro O1 N1 ⟨rfl, rfl⟩ pv hpv c' F2 Hc hs2
            obtain ⟨x, hx, rfl⟩ := List.mem_map.mp hpv
            have hxt := hrt x hx
            show Evp c' _ [] F2 _ (.int (costN x s))
            rw [cost_tm hxt hst]
            refine ev_ite (b := decide (x = s)) (ts_eq (ts_cmpp (nv_ Hc.nms 0 rfl rfl) (nv_ Hc.nms 1 rfl rfl) (.eqS _ _)) (by rw [mk_eq]; rw [Bool.eq_iff_iff]; simp)) (fun e2 => ?_) (fun e2 => ?_)
            · rw [if_pos (of_decide_eq_true e2)]; exact ev_int
            · rw [if_neg (of_decide_eq_false e2)]
              refine ev_ite (b := [[120, 88], [88, 120]].contains [x, s]) (ts_cmpG (pl := .s [x, s]) (R1 := fun pv O1 N1 => ∃ a o, pv = .ref a ∧ O1 = [(a, o)] ∧ N1 = [] ∧ TupO ([[120, 88], [88, 120]].map PV.s) o) (ev_eq (ev_adds (nv_ Hc.nms 0 rfl rfl) (nv_ Hc.nms 1 rfl rfl) (by rw [mk_length, mk_length, sizeLine_eq]; simp)) (by rw [mk_append]; first | done | rfl)) (ev_tuple (xs := [[120, 88], [88, 120]].map PV.s) (ta_pp (ev_eq ev_str (by rw [lit_xX])) (ta_pp (ev_eq ev_str (by rw [show Str.ofString "Xx" = mk [88, 120] from by decide +kernel])) ta_np)) (by simp [sizeLine_eq]) fun a o h => ⟨a, o, rfl, rfl, rfl, h⟩) ?_) (fun e3 => ?_) (fun e3 => ?_)
              · rintro vl vr pr O1 N1 il ir ⟨a, o, rfl, rfl, rfl, ho⟩
                obtain ⟨t, rfl⟩ := il
                cases ir
                exact ⟨List.nil_sublist _, rfl, cm_in_tup (List.mem_append_left _ (.head _)) ho⟩
              · rw [if_pos e3]; exact ev_int
              · rw [if_neg (by rw [e3]; decide)]; exact ev_int
          · rintro O1 N1 a o ⟨rfl, rfl⟩ hlo
            refine ⟨a, o, rfl, rfl, rfl, ?_⟩
            have e : (row.map fun n => PV.s [n]).map (fun pv => match pv with | .str x => PV.int (costN (x.cps.toList.headD 0) s) | _ => .none) = (row.map fun x => costN x s).map PV.int := by
              rw [List.map_map, List.map_map]; exact List.map_congr_left fun n _ => rfl
            exact e ▸ hlo
        · rintro pv O1 N1 ⟨a, o, rfl, rfl, rfl, hlo⟩
          refine ta_nil fun vals hv => ?_
          obtain ⟨v, rfl, iv⟩ := hv.one
          cases iv
          obtain ⟨m, hm1, hm2, hm3⟩ := bi_minints (c := c) (σ := [some (.ref ra), some (.s [s]), some (.s row), some (.ref kd), some (.s (s :: row)), some (.int 2), some (.ref w), none, none, none, none, none, none, none, none]) (O := (a, o) :: (w, wo) :: (kd, ko) :: rest) (F := [] ++ F') (l := a) (xs := row.map fun x => costN x s) (listAt_led (List.mem_append_left _ (.head _)) hlo) (by simpa using hr)
          rw [mcost_is hm1 hm2]
          refine TV.mono hm3 ?_
          rintro pv O' N ⟨rfl, rfl, rfl⟩
          exact ⟨_, List.Sublist.cons _ (List.Sublist.refl _), rfl, rfl, rfl⟩
        dsimp only [List.set_cons_zero, List.set_cons_succ]
        refine ex_nil (ex_nil ?_)
        exact ⟨_, [[s]], w, wo, ko, kvs, _, _, _, _, _, _, _, _, hwo, hbest, by simpa using hmemo⟩
  rintro pf σ' O' N ⟨best, ws, w', wo', ko', kvs', z7, z8, z9, z10, z11, z12, z13, z14, hws, hbest, hmm⟩
  -- the words list is frozen, then told
  refine TG.freezeN ?_
  refine ex_cons (ex_setdict (R1 := fun _ _ _ => True) (x := mk (s :: row)) (ev_tuple (xs := [.int best, .ref w']) (ta_pp (nv_ Hn 5 rfl rfl) (ta_pp (nv_ Hn 6 rfl rfl) ta_np)) (by simp [sizeLine_eq]) ?_) hmm.o (Nat.le_trans hmm.len (by decide)))
  intro t ot ht
  refine ⟨(t, ot) :: rest, List.Perm.swap _ _ _, nv_ Hn 3 rfl rfl, nv_ Hn 4 rfl rfl, fun v o' iv ho' => ?_⟩
  cases iv
  refine TG.permO (List.Perm.swap _ _ _) ?_
  refine TG.freezeN ?_
  have hent : Entry R s row (.ref t) ([(t, ot), (w', wo')] ++ (N ++ F)) := ⟨t, ot, w', wo', best, ws, rfl, by simp, ht, by simp, hws, hbest⟩
  have hmm2 := memo_store (hmm.mono (L' := [(t, ot), (w', wo')] ++ (N ++ F)) fun p hp => List.mem_append_right _ hp) hs hpc hent ho'
  refine s_ret (ev_dictitem (nv_ Hn 3 rfl rfl) (nv_ Hn 4 rfl rfl) (List.mem_append_left _ (.head _)) ho' (by rw [valueAt_set, if_pos rfl]) (pv := .ref t) rfl) ?_
  refine hP0 _ _ _ _ ⟨t, o', _, rfl, rfl, hmm2.mono fun p hp => ?_, hent.mono fun p hp => ?_⟩
  all_goals simpa only [List.append_assoc, List.append_nil, List.nil_append, List.cons_append] using hp
end Mine
end
section
open PySem PySem.W PyProof.Rows PySem.Calls
set_option autoImplicit false
set_option linter.unusedVariables false
set_option linter.unusedSimpArgs false
namespace Mine

section
variable {prog : Program} {w : World} {A : Around} {R : Result → Shared → Prop} {s : Shared}
/-- the loop of a list comprehension over pairs -/
theorem loop_pair {elt iter : Expr} {x1 x2 : Str} {p1 p2 tp : Pos} {kk : Nat} {scope : Scope} {pos : Pos} {I D : Addr} {fp wr : List Addr} {n : Nat} {Pt : Nat → Array Value → Prop} {Sw : Nat → Heap → Prop} {Mid : Nat → Addr → Heap → Prop}
    {cenv : Env} {m : Str → Option Value} (W : WalksT prog w A I fp wr n Pt Sw Mid) (Fv : Nat → Value → Prop) (hh : A.handled = none)
    (hx1 : cenv.kindOf x1 = some .local) (hx2 : cenv.kindOf x2 = some .local) (hne : x1 ≠ x2) (hp : (cenv.scope.kind == .class || (cenv.scope.kind == .module && cenv.locals != cenv.globals)) = false)
    (hDC : D ≠ cenv.locals) (hDf : D ∉ fp) (hCf : cenv.locals ∉ fp)
    (hst : Sw 0 s.heap) (hacc : s.heap.PlainList D #[]) (hn : s.heap.Ns cenv.locals m)
    (hpt : ∀ i vals, Pt i vals → ∃ a b, vals = #[a, b])
    (helt : ∀ i a b s₂ m₂ E', i < n → Pt i #[a, b] → s₂.heap.Ns cenv.locals m₂ → m₂ x1 = some a → m₂ x2 = some b → (∀ b o, b ≠ cenv.locals → b ∉ wr → b ≠ D → s.heap.get? b = some o → s₂.heap.get? b = some o) → s.toks ≤ s₂.toks →
      wpAny (model prog w) A (eval elt cenv) (fun y s₃ => Fv i y ∧ Keeps s₂ s₃) E' s₂)
    (hR : ∀ h' tk m' ys, h'.Ns cenv.locals m' → h'.PlainList D ys → ys.size = n → (∀ j y, ys[j]? = some y → Fv j y) →
      (∀ b o, b ≠ cenv.locals → b ∉ wr → b ≠ D → s.heap.get? b = some o → h'.get? b = some o) → R (.ok .next) { s with heap := h', toks := tk })
    (hsz : n ≤ sizeLine) :
    codeAny (model prog w) A (.compLoop (.ListComp elt [⟨.Tuple [.Name x1 p1, .Name x2 p2] kk tp, iter, [], 0⟩] scope pos) 0 (.ref I) (.ref D) cenv) R s := by
  refine LCp.codeAny_compLoop_pair
    (fun k s' => ∃ h' tk m' ys, s' = { s with heap := h', toks := tk } ∧ Sw ys.size h' ∧ h'.PlainList D ys ∧ h'.Ns cenv.locals m' ∧ (∀ j y, ys[j]? = some y → Fv j y) ∧ ys.size ≤ n ∧ k = n + 1 - ys.size ∧
      (∀ b o, b ≠ cenv.locals → b ∉ wr → b ≠ D → s.heap.get? b = some o → h'.get? b = some o) ∧ s.toks ≤ tk) ?_ (n + 1)
    ⟨s.heap, s.toks, m, #[], rfl, hst, hacc, hn, by simp, Nat.zero_le _, rfl, fun _ _ _ _ _ e => e, Nat.le_refl _⟩
  rintro k s' ⟨H, tk, m', ys, rfl, hst', hacc', hn', hF, hi, rfl, hk, htk⟩
  have hCw : cenv.locals ∉ wr := fun h => hCf (W.sub _ h)
  have hDw : D ∉ wr := fun h => hDf (W.sub _ h)
  by_cases hlt : ys.size < n
  · refine wpAny_with_toks (n := s.toks) htk (W.item ys.size _ _ _ hlt hst' fun T vals h₁ tk₁ hPv hT hTt hmid hk₁ htk₁ => ?_)
    obtain ⟨a, b, rfl⟩ := hpt _ _ hPv
    refine W.go _ _ _ _ _ _ _ _ hmid fun h₂ hst₂ hk₂ => ?_
    have hTw := W.apart _ _ _ hmid
    have hTt₂ : h₂.IsTuple T #[a, b] := hTt.at fun o e => hk₂ _ o hTw e
    have hn₂ : h₂.Ns cenv.locals m' := (hn'.at' fun o e => hk₁ _ o hCw e).at' fun o e => hk₂ _ o hCw e
    refine wpAny_with_toks (n := s.toks) htk₁ (kcp_assign hh hTt₂ hx1 hx2 hp hn₂ fun h₃ tk₃ hn₃ hk₃ htk₃ => ?_)
    have up₃ : ∀ b o, b ≠ cenv.locals → b ∉ wr → H.get? b = some o → h₃.get? b = some o := fun b o hbC hbf e => hk₃ b o hbC (hk₂ b o hbf (hk₁ b o hbf e))
    have hst₃ : Sw (ys.size + 1) h₃ := W.frame _ _ _ hst₂ fun b hb o e => hk₃ b o (fun h => hCf (h ▸ hb)) e
    refine wpAny_mono (wpAny_toks_of (n := s.toks) htk₃ (helt ys.size a b _ _ _ hlt hPv hn₃ (by simp [hne]) (by simp) (fun b o hbC hbf hbD e => up₃ b o hbC hbf (hk b o hbC hbf hbD e)) htk₃)) (fun y s₄ h₄ => ?_) fun _ _ e => e.2
    obtain ⟨htk₄, hFy, h₄, tk₄, rfl, hk₄⟩ := h₄
    have hacc₄ : h₄.PlainList D ys := hacc'.at fun o e => hk₄ _ o (up₃ D o hDC hDw e)
    refine wpAny_list_append_plain (hsz := Nat.le_trans hi hsz) hacc₄ fun h₅ hl₅ hs₅ => ?_
    refine ⟨n + 1 - (ys.size + 1), Nat.sub_lt_sub_left (Nat.lt_succ_of_lt hlt) (Nat.lt_succ_self _), h₅, tk₄, _, ys.push y, rfl, ?_, hl₅, (hn₃.keeps hk₄).sameBut hs₅ (Ne.symm hDC), ?_, by rw [Array.size_push]; exact hlt, by simp, fun b o hbC hbf hbD e => hs₅.extBut b o hbD (hk₄ b o (up₃ b o hbC hbf (hk b o hbC hbf hbD e))), htk₄⟩
    · rw [Array.size_push]
      exact W.frame _ _ h₅ hst₃ fun b hb o e => hs₅.extBut b o (fun h => hDf (h ▸ hb)) (hk₄ b o e)
    · intro j u hj
      rw [Array.getElem?_push] at hj
      split at hj
      · rename_i e; cases hj; rw [e]; exact hFy
      · exact hF j u hj
  · have hin : ys.size = n := Nat.le_antisymm hi (Nat.not_lt.mp hlt)
    refine W.done _ _ _ (hin ▸ hst') fun h₁ tk₁ hk₁ => ?_
    exact hR h₁ tk₁ m' ys (hn'.at' fun o e => hk₁ _ o hCw e) (hacc'.at fun o e => hk₁ _ o hDw e) hin hF fun b o hbC hbf hbD e => hk₁ b o hbf (hk b o hbC hbf hbD e)
end

section
variable {G : GC} {c : Act G} {σ : Sto} {O F : Led} {s : Shared}
/-- the element of a comprehension over pairs in the world of its own activation -/
theorem comp_elt2 {elt : Expr} {x1 x2 : Str} {scope : Scope} {s₂ s₃ : Shared} {C : Addr} {m₃ : Str → Option Value} {v1 v2 : Value} {q1 q2 r : PV} {wr : List Addr}
    (S₂ : St c σ O F s₂) (hw : ∀ b ∈ wr, b ∉ c.cells ++ (O ++ F).map (·.1) ∧ b ≠ c.L ∧ c.h0.get? b = none)
    (hkind : scope.kind = .function) (hx1 : scope.names.lookup x1 = some .local) (hx2 : scope.names.lookup x2 = some .local) (hne : x1 ≠ x2)
    (helt : ∀ (c' : Act G) (F' : Led), CompAct c c' [x1, x2] scope → (∀ p ∈ O ++ F, p ∈ F') → Evp c' [some q1, some q2] [] F' elt r)
    (hC : s₂.heap.objs.size ≤ C) (hn : s₃.heap.Ns C m₃) (hm1 : m₃ x1 = some v1) (hm2 : m₃ x2 = some v2) (iv1 : q1.Is v1) (iv2 : q2.Is v2) (hk : ∀ b o, b ∉ wr → s₂.heap.get? b = some o → s₃.heap.get? b = some o) (ht : s₂.toks ≤ s₃.toks) :
    wpAny G.M c.A (eval elt (compEnvC scope [] C c.env)) (fun y s₄ => r.Is y ∧ Keeps s₃ s₄) NoE s₃ := by
  have S3 : St c σ O F s₃ := (St.past S₂ hw hk ht).heapOnly rfl (Nat.lt_of_lt_of_le S₂.tk ht)
  obtain ⟨⟨mf, C0, h1, h2, h3, h4⟩, h5, h6, h7⟩ := S3
  obtain ⟨oL, eL⟩ : ∃ o, s₃.heap.get? c.L = some o := by obtain ⟨o, _, _, e, _⟩ := h1.ns; exact ⟨o, e⟩
  have hCL : C ≠ c.L := fun e => by have := S₂.Lh.1; rw [← e] at this; exact Nat.lt_irrefl _ (Nat.lt_of_lt_of_le this hC)
  have hC0 : c.h0.get? C = none := by
    cases q : c.h0.get? C with
    | none => rfl
    | some o' => exact absurd (Nat.lt_of_lt_of_le (S₂.Lh.2 _ _ q) hC) (Nat.lt_irrefl _)
  have hkd : (relabel scope c.env).kind = .function := hkind
  let c' : Act G := { c with env := compEnvC scope [] C c.env, names := [x1, x2], cells := [], hek := hkd, hglob := c.hglob, hbi := c.hbi, hnd := by simp [hne], oL := oL }
  have hCA : CompAct c c' [x1, x2] scope := ⟨rfl, rfl, fun y hy => lookup_relabel_glob hy⟩
  have S' : St c' [some q1, some q2] [] (restOf c.h0 c.L s₃.heap) s₃ := by
    refine ⟨⟨mf, [], h1, by simpa using restOf_news, rfl, ?_⟩, (restOf_nodup : ((restOf c.h0 c.L s₃.heap).map (·.1)).Nodup), h6, ⟨fun _ => eL, fun a ha => nomatch ha⟩⟩
    intro i y pw hy hv
    obtain ⟨oC, es, ep, hg, hr⟩ := hn
    match i, hy, hv with
    | 0, hy, hv =>
      have e1 : x1 = y := Option.some.inj hy
      have e2 : q1 = pw := Option.some.inj (Option.some.inj hv)
      subst e1 e2
      exact ⟨v1, iv1, .comp (lookup_relabel_local hx1) oC m₃ (restOf_mem hg hCL hC0) (fun h e => ⟨oC, es, ep, e, hr⟩) hm1⟩
    | 1, hy, hv =>
      have e1 : x2 = y := Option.some.inj hy
      have e2 : q2 = pw := Option.some.inj (Option.some.inj hv)
      subst e1 e2
      exact ⟨v2, iv2, .comp (lookup_relabel_local hx2) oC m₃ (restOf_mem hg hCL hC0) (fun h e => ⟨oC, es, ep, e, hr⟩) hm2⟩
    | i + 2, hy, _ => cases hy
  have hsub : ∀ p ∈ O ++ F, p ∈ restOf c.h0 c.L s₃.heap := fun p hp => by
    have := h2 p (List.mem_append_right _ hp)
    exact restOf_mem this.1 this.2.1 this.2.2
  refine helt c' _ hCA hsub s₃ _ S' ?_
  rintro y σ' O' N h tk ⟨rfl, pw, ⟨rfl, rfl, rfl⟩, iy⟩ S4 ht4
  refine ⟨iy, h, tk, rfl, fun b o e => ?_⟩
  obtain ⟨⟨mf4, C4, k1, k2, k3, k4⟩, k5, k6, k7⟩ := S4
  cases q : c.h0.get? b with
  | some o' =>
    have e1 := h1.keep b o' q
    rw [e1] at e; cases e
    exact k1.keep b _ q
  | none =>
    by_cases hb : b = c.L
    · subst hb
      rw [eL] at e; cases e
      exact k7.1 hCL
    · exact (k2 (b, o) (List.mem_append_right _ (by simpa using restOf_mem e hb q))).1
end
end Mine
end
section
open PySem PySem.W PyProof.Rows PySem.Calls
set_option autoImplicit false
set_option linter.unusedVariables false
set_option linter.unusedSimpArgs false
namespace Mine
section
variable {G : GC} {c : Act G} {σ : Sto} {O F : Led} {s : Shared}

abbrev zipO (TI TO : Addr) : Obj := { cls := .type "zip", dict := none, data := .fields #[.none, .bool false, .bool false, .ref TI, .ref TO], slots := #[] }
abbrev pairO (a b : Value) : Obj := { cls := .type "tuple", data := .seq #[a, b] }
def LIter (l : Addr) (o : Obj) : Prop := o.cls = .type "list_iterator" ∧ o.data = .fields #[.ref l, .int 0 0]
def ZipRes (l1 l2 : Addr) (O : Led) : VPost := fun pv O1 N1 => ∃ (z TI TO i1 i2 : Addr) (oi1 oi2 : Obj), pv = .ref z ∧ N1 = [] ∧ O1 = (z, zipO TI TO) :: (TI, pairO (.ref i1) (.ref i2)) :: (TO, pairO .none .none) :: (i1, oi1) :: (i2, oi2) :: O ∧ ZipApart z TI TO i1 i2 l1 l2 ∧ LIter l1 oi1 ∧ LIter l2 oi2

theorem bi_zip {l1 l2 : Addr} {xs ys : List PV} (h1 : ListAt c σ O F l1 xs) (h2 : ListAt c σ O F l2 ys) : TV c σ O F (call (.type "zip") [.ref l1, .ref l2]) (ZipRes l1 l2 O) := by
  intro s Q S k
  obtain ⟨vs1, q1, q2⟩ := h1 s S
  obtain ⟨vs2, q3, q4⟩ := h2 s S
  have hl1 : l1 < s.heap.objs.size := by obtain ⟨_, e, _⟩ := q1; exact Heap.lt_size e
  have hl2 : l2 < s.heap.objs.size := by obtain ⟨_, e, _⟩ := q3; exact Heap.lt_size e
  refine call_zip_2 q1 q3 fun h' hz hTI hTO hi1 hi2 hsz hk => ?_
  obtain ⟨oi1, g1, d1⟩ := hi1
  obtain ⟨oi2, g2, d2⟩ := hi2
  have fr : ∀ j, s.heap.get? (s.heap.objs.size + j) = none := fun j => by
    cases e : s.heap.get? (s.heap.objs.size + j) with
    | none => rfl
    | some o' => exact absurd (Heap.lt_size e) (by show ¬ _ < _; exact Nat.not_lt.mpr (Nat.le_add_right _ _))
  have S0 : St c σ O F (upd s h' s.toks) := S.keeps hk (Nat.le_refl _)
  have f0 := S.fresh (fr 0)
  have f1 := S.fresh (fr 1)
  have f2 := S.fresh (fr 2)
  have f3 := S.fresh (fr 3)
  have f4 := S.fresh (fr 4)
  rw [Nat.add_zero] at f0
  generalize hn : s.heap.objs.size = n at *
  have ne : ∀ {a b : Nat}, a ≠ b → n + a ≠ n + b := fun h e => h (Nat.add_left_cancel e)
  have ne0 : ∀ {b : Nat}, 0 ≠ b → n ≠ n + b := fun {b} h e => h (Nat.add_left_cancel (n := n) (m := 0) (k := b) (by simpa using e))
  have up : ∀ (D : Addr) (p : Addr × Obj) (O' : Led), D ∉ c.cells ++ (O' ++ F).map (·.1) → D ≠ p.1 → D ∉ c.cells ++ ((p :: O') ++ F).map (·.1) := by
    intro D p O' h1 h2 h3
    simp only [List.cons_append, List.map_cons, List.mem_append, List.mem_cons] at h1 h3
    rcases h3 with h | h | h
    · exact h1 (.inl h)
    · exact h2 h
    · exact h1 (.inr h)
  have S1 := St.add (s := upd s h' s.toks) S0 g2 f1.1 f1.2.1 f1.2.2
  have S2 := St.add (s := upd s h' s.toks) S1 g1 (up _ _ _ f0.1 (ne0 (by decide))) f0.2.1 f0.2.2
  have S3 := St.add (s := upd s h' s.toks) S2 hTO (up _ _ _ (up _ _ _ f3.1 (ne (by decide))) (ne0 (b := 3) (by decide)).symm) f3.2.1 f3.2.2
  have S4 := St.add (s := upd s h' s.toks) S3 hTI (up _ _ _ (up _ _ _ (up _ _ _ f2.1 (ne (by decide))) (ne0 (b := 2) (by decide)).symm) (ne (by decide))) f2.2.1 f2.2.2
  have S5 := St.add (s := upd s h' s.toks) S4 hz (up _ _ _ (up _ _ _ (up _ _ _ (up _ _ _ f4.1 (ne (by decide))) (ne0 (b := 4) (by decide)).symm) (ne (by decide))) (ne (by decide))) f4.2.1 f4.2.2
  have lt : ∀ {l : Nat} (j : Nat), l < n → l ≠ n + j := fun j h e => Nat.lt_irrefl _ (Nat.lt_of_lt_of_le h (e ▸ Nat.le_add_right n j))
  refine k (.ref (n + 4)) σ _ [] h' s.toks ⟨rfl, .ref (n + 4), ⟨n + 4, n + 2, n + 3, n, n + 1, oi1, oi2, rfl, rfl, rfl, ⟨ne (by decide), ne (by decide), ne0 (by decide), ne (by decide), ne (by decide), (ne0 (b := 2) (by decide)).symm, ne (by decide), (ne0 (b := 3) (by decide)).symm, ne (by decide), ne0 (by decide), lt 4 hl1, lt 3 hl1, Nat.ne_of_lt hl1, lt 1 hl1, lt 4 hl2, lt 3 hl2, Nat.ne_of_lt hl2, lt 1 hl2⟩, d1, d2⟩, rfl⟩ S5 (Nat.le_refl _)

theorem St.newAt {M : Led} (S : St c σ (M ++ O) F s) : ∀ p ∈ M, p.1 ∉ c.cells ++ (O ++ F).map (·.1) ∧ p.1 ≠ c.L ∧ c.h0.get? p.1 = none := by
  intro p hp
  have hn := S.nd
  rw [List.append_assoc, List.map_append] at hn
  obtain ⟨⟨mf, C, h1, h2, h3, h4⟩, h5, h6, h7⟩ := S
  have hp2 := h2 p (List.mem_append_right _ (List.mem_append_left _ (List.mem_append_left _ hp)))
  refine ⟨fun q => ?_, hp2.2.1, hp2.2.2⟩
  rw [List.nodup_append] at hn
  obtain ⟨_, n2, n3⟩ := hn
  rw [List.nodup_append] at n2
  obtain ⟨_, _, n4⟩ := n2
  have hm : p.1 ∈ M.map (·.1) := List.mem_map_of_mem hp
  rcases List.mem_append.mp q with q | q
  · exact n3 _ q _ (List.mem_append_left _ hm) rfl
  · exact n4 _ hm _ q rfl
theorem Paired2.all2 {xs ys : List PV} {f : PV → PV → PV} {n : Nat} (hx : xs.length = n) (hy : n ≤ ys.length) {vs : Array Value} (hs : vs.size = n)
    (h : ∀ (j : Nat) (y : Value), vs[j]? = some y → ∃ p q, xs[j]? = some p ∧ ys[j]? = some q ∧ (f p q).Is y) : All2 PV.Is (List.zipWith f xs ys) vs.toList := by
  refine All2.of_get ?_ fun i a b ha hb => ?_
  · simp; omega
  · obtain ⟨p, q, h1, h2, h3⟩ := h i b (by simpa using hb)
    rw [List.getElem?_zipWith, h1, h2] at ha
    cases ha
    exact h3

/-- told = [elt for x1, x2 in zip(e1, e2)] -/
theorem asg_zip (i : Nat) {elt e1 e2 : Expr} {x1 x2 y : Str} {px1 px2 tp py zp : Pos} {kk : Nat} {scope : Scope} {pos spos cpos : Pos} {xs ys : List PV} {I0 : Led → Led → Prop} (f : PV → PV → PV)
    (hcell : ∀ y ∈ scope.names, y.2 ≠ .cell) (hkind : scope.kind = .function) (hnames : ∀ y ∈ scope.names, y.2 = .local → scope.names.lookup y.1 = some .local) (hx1 : scope.names.lookup x1 = some .local) (hx2 : scope.names.lookup x2 = some .local) (hne : x1 ≠ x2)
    (hno : freesOf scope.names = [])
    (nz : nsIn G.K mainGlobals (Str.ofString "zip") = some none) (hxz : c.env.kindOf (Str.ofString "zip") = some .globalImplicit)
    (hy : c.names[i]? = some y) (hky : c.env.kindOf y = some .local) (hL : c.env.locals = c.L) (hi : i < σ.length)
    (hargs : TA c σ O F cpos [e1, e2] fun pvs O1 N1 => ∃ a b oa ob, pvs = [.ref a, .ref b] ∧ (a, oa) ∈ O1 ++ (N1 ++ F) ∧ ListO xs oa ∧ (b, ob) ∈ O1 ++ (N1 ++ F) ∧ ListO ys ob ∧ I0 O1 N1)
    (hsz : xs.length ≤ 1048576) (hle : xs.length ≤ ys.length)
    (helt : ∀ O1 N1, I0 O1 N1 → ∀ p q, p ∈ xs → q ∈ ys → ∀ (c' : Act G) (F' : Led), CompAct c c' [x1, x2] scope → (∀ p ∈ O1 ++ (N1 ++ F), p ∈ F') → Evp c' [some p, some q] [] F' elt (f p q))
    {P : FPost} (hR : ∀ O1 N1 a o, I0 O1 N1 → ListO (List.zipWith f xs ys) o → P .next (σ.set i (some (.ref a))) ((a, o) :: O1) N1)
    (hsw : swapsWith (.ListComp elt [⟨.Tuple [.Name x1 px1, .Name x2 px2] kk tp, .Call (.Name (Str.ofString "zip") zp) [e1, e2] [] cpos, [], 0⟩] scope pos) (some (.Name y py)) spos.line c.env = pure true)
    (hs : ∀ x, foldedSetIterable (.Call (.Name (Str.ofString "zip") zp) [e1, e2] [] cpos) c.env x = pure x := by intro _; rfl)
    (he : ∀ env, starEach [e1, e2] env = (false, eval e1 env) :: starEach [e2] env := by intro _; rfl)
    (hplain : ∀ (pos : Pos) env, (backTo pos (starEach [e2] env)).any (·.1) = false := by intro _ _; rfl) :
    Ex1 c σ O F (.Assign [.Name y py] (.ListComp elt [⟨.Tuple [.Name x1 px1, .Name x2 px2] kk tp, .Call (.Name (Str.ofString "zip") zp) [e1, e2] [] cpos, [], 0⟩] scope pos) spos) P := by
  intro s Q S k
  have hev : Ev c σ O F (.Call (.Name (Str.ofString "zip") zp) [e1, e2] [] cpos) fun pv O2 N2 => ∃ (O1 N1 : Led) (a b : Addr) (oa ob : Obj), ZipRes a b O1 pv O2 [] ∧ N2 = N1 ∧ (a, oa) ∈ O1 ++ (N1 ++ F) ∧ ListO xs oa ∧ (b, ob) ∈ O1 ++ (N1 ++ F) ∧ ListO ys ob ∧ I0 O1 N1 := by
    refine ev_tcall nz (by boot_fast) hxz ?_ (he := he) (hplain := hplain)
    refine TG.mono hargs ?_
    rintro vs σ' O1 N1 ⟨rfl, pvs, ⟨a, b, oa, ob, rfl, ma, la, mb, lb, hI⟩, i⟩
    refine ⟨rfl, _, fun vals hv => ?_, i⟩
    obtain ⟨v1, v2, rfl, i1, i2⟩ := hv.two
    cases i1; cases i2
    refine TV.mono (bi_zip (listAt_led ma la) (listAt_led mb lb)) ?_
    rintro pv O2 N2 hz
    obtain ⟨z, TI, TO, j1, j2, oi1, oi2, rfl, rfl, hr⟩ := hz
    exact ⟨O1, N1, a, b, oa, ob, ⟨z, TI, TO, j1, j2, oi1, oi2, rfl, rfl, hr⟩, rfl, ma, la, mb, lb, hI⟩
  have hclos : closureFor scope c.env = pure [] := by
    have := closureFor_some (scope := scope) (env := c.env) (fun _ => 0) (by rw [hno]; intro n hn; cases hn)
    rw [hno] at this; exact this
  refine wp_withtoks ?_
  rw [exec_Assign_Name_used _ _ _ _ hsw]
  refine wpAny_bind (wpAny_standAt (wpAny_bind ?_))
  show wpAny _ _ (do let _ ← comprehension (.ListComp elt [⟨.Tuple [.Name x1 px1, .Name x2 px2] kk tp, .Call (.Name (Str.ofString "zip") zp) [e1, e2] [] cpos, [], 0⟩] scope pos) scope c.env _ (newList []) false (eval (.Call (.Name (Str.ofString "zip") zp) [e1, e2] [] cpos) c.env) (some (assign (.Name y py) c.env))) _ _ s
  refine wpAny_bind (wpAny_mono (wpAny_comprehension_free (use := some (assign (.Name y py) c.env)) (Q := fun _ s' => s.toks ≤ s'.toks → Q .next s') rfl hs hclos hkind hnames
    (hev s _ S ?_)) (fun _ s' hq => wpAny_pure (wpAny_pure hq)) fun _ _ e => e)
  rintro v σ1 O2 N1 h tk ⟨rfl, pv, ⟨O1, _, a, b, oa, ob, ⟨z, TI, TO, i1, i2, oi1, oi2, rfl, _, rfl, Ap, li1, li2⟩, rfl, ma, la, mb, lb, hI⟩, iv⟩ S1 ht1
  cases iv
  have gz : h.get? z = some (zipO TI TO) := St.get (s := upd s h tk) S1 (List.mem_append_left _ (.head _))
  have gTI : h.get? TI = some (pairO (.ref i1) (.ref i2)) := St.get (s := upd s h tk) S1 (List.mem_append_left _ (.tail _ (.head _)))
  have gTO : h.get? TO = some (pairO .none .none) := St.get (s := upd s h tk) S1 (List.mem_append_left _ (.tail _ (.tail _ (.head _))))
  have g1 : h.get? i1 = some oi1 := St.get (s := upd s h tk) S1 (List.mem_append_left _ (.tail _ (.tail _ (.tail _ (.head _)))))
  have g2 : h.get? i2 = some oi2 := St.get (s := upd s h tk) S1 (List.mem_append_left _ (.tail _ (.tail _ (.tail _ (.tail _ (.head _))))))
  have memup : ∀ p ∈ O1 ++ (N1 ++ F), p ∈ ((z, zipO TI TO) :: (TI, pairO (.ref i1) (.ref i2)) :: (TO, pairO .none .none) :: (i1, oi1) :: (i2, oi2) :: O1) ++ (N1 ++ F) := fun p hp => .tail _ (.tail _ (.tail _ (.tail _ (.tail _ hp))))
  obtain ⟨vs1, hla, ia⟩ := St.isList (s := upd s h tk) S1 (memup _ ma) la
  obtain ⟨vs2, hlb, ib⟩ := St.isList (s := upd s h tk) S1 (memup _ mb) lb
  have hlen1 : vs1.size = xs.length := by first | exact ia.size | exact ia.sizeM | (have := ia.length; simp at this; omega)
  have hlen2 : vs2.size = ys.length := by first | exact ib.size | exact ib.sizeM | (have := ib.length; simp at this; omega)
  have W := WalksT.zip2 (prog := G.prog) (w := G.w) c.hhan z TI TO i1 i2 a b Ap vs1 vs2
  have hmin : min vs1.size vs2.size = xs.length := by omega
  rw [hmin] at W
  -- the ledger without the zip's parts
  have S2 : St c σ1 O1 (N1 ++ F) (upd s h tk) := S1.drop (List.Sublist.cons _ (List.Sublist.cons _ (List.Sublist.cons _ (List.Sublist.cons _ (List.Sublist.cons _ (List.Sublist.refl _))))))
  have wnew : ∀ b ∈ [z, TO, i1, i2], b ∉ c.cells ++ (O1 ++ (N1 ++ F)).map (·.1) ∧ b ≠ c.L ∧ c.h0.get? b = none := by
    have key := St.newAt (M := [(z, zipO TI TO), (TI, pairO (.ref i1) (.ref i2)), (TO, pairO .none .none), (i1, oi1), (i2, oi2)]) S1
    intro b hb
    simp only [List.mem_cons, List.not_mem_nil, or_false] at hb
    rcases hb with rfl | rfl | rfl | rfl
    · exact key (b, zipO TI TO) (.head _)
    · exact key (b, pairO .none .none) (.tail _ (.tail _ (.head _)))
    · exact key (b, oi1) (.tail _ (.tail _ (.tail _ (.head _))))
    · exact key (b, oi2) (.tail _ (.tail _ (.tail _ (.tail _ (.head _)))))
  refine wpAny_pyIter_zip (s := upd s h tk) gz ?_
  -- the block
  refine wpAny_newObj_type (wpAny_newFunctionEnv hcell (by intro y hy; simp at hy) (fun h₁ hns₁ hsb₁ => ?_) hkind)
  dsimp only at hns₁ hsb₁ ⊢
  generalize hH2 : h.push { cls := .type "list", dict := none, data := .seq ([] : List Value).toArray } = H2 at hns₁ hsb₁ ⊢
  have hC : H2.objs.size = h.objs.size + 1 := by rw [← hH2, Heap.size_push]
  have hDC : h.objs.size ≠ H2.objs.size := by rw [hC]; exact Nat.ne_of_lt (Nat.lt_succ_self _)
  have hCle : h.objs.size ≤ H2.objs.size := by rw [hC]; exact Nat.le_succ _
  have below : ∀ b, b < h.objs.size → b ≠ H2.objs.size ∧ b ≠ h.objs.size := fun b hb => ⟨by rw [hC]; exact Nat.ne_of_lt (Nat.lt_succ_of_lt hb), Nat.ne_of_lt hb⟩
  have hfp : ∀ d ∈ [z, TI, TO, i1, i2, a, b], d < h.objs.size := by
    intro d hb
    simp only [List.mem_cons, List.not_mem_nil, or_false] at hb
    rcases hb with rfl | rfl | rfl | rfl | rfl | rfl | rfl
    · exact Heap.lt_size gz
    · exact Heap.lt_size gTI
    · exact Heap.lt_size gTO
    · exact Heap.lt_size g1
    · exact Heap.lt_size g2
    · obtain ⟨_, e, _⟩ := hla; exact Heap.lt_size e
    · obtain ⟨_, e, _⟩ := hlb; exact Heap.lt_size e
  have hDf : h.objs.size ∉ [z, TI, TO, i1, i2, a, b] := fun hm => Nat.lt_irrefl _ (hfp _ hm)
  have hCf : H2.objs.size ∉ [z, TI, TO, i1, i2, a, b] := fun hm => by have := hfp _ hm; rw [hC] at this; exact Nat.lt_irrefl _ (Nat.lt_of_succ_lt this)
  have old : ∀ b o, h.get? b = some o → h₁.get? b = some o := fun b o e => hsb₁.extBut b o (below b (Heap.lt_size e)).1 (Heap.get?_push_of_some _ (hH2 ▸ Heap.get?_push_of_some _ e))
  have hacc : h₁.PlainList h.objs.size #[] := ⟨_, hsb₁.extBut _ _ hDC (Heap.get?_push_of_some _ (hH2 ▸ Heap.get?_push_size _ rfl))⟩
  have hst₁ := W.frame 0 h h₁ ⟨gz, gTI, ⟨_, _, gTO⟩, ⟨_, g1, li1.1, li1.2⟩, ⟨_, g2, li2.1, li2.2⟩, hla, hlb⟩ fun b _ o e => old b o e
  have fresh : ∀ a, h.objs.size ≤ a → h.get? a = none := fun a ha => by
    cases e : h.get? a with
    | none => rfl
    | some o' => exact absurd (Heap.lt_size e) (Nat.not_lt.mpr ha)
  have loop : codeAny G.M c.A (.compLoop (.ListComp elt [⟨.Tuple [.Name x1 px1, .Name x2 px2] kk tp, .Call (.Name (Str.ofString "zip") zp) [e1, e2] [] cpos, [], 0⟩] scope pos) 0 (.ref z) (.ref h.objs.size) (compEnvC scope [] H2.objs.size c.env))
        (compPost G.M c.A NoE (some (assign (.Name y py) c.env)) (fun _ s' => s.toks ≤ s'.toks → Q .next s') (.ref h.objs.size) H2.objs.size) { (upd s h tk) with heap := h₁, toks := tk + ([] : List (Str × Value)).length } := by
    refine loop_pair (cenv := compEnvC scope [] H2.objs.size c.env) W (fun j y => ∃ p q, xs[j]? = some p ∧ ys[j]? = some q ∧ (f p q).Is y) c.hhan (lookup_relabel_local hx1) (lookup_relabel_local hx2) hne (by simp [compEnvC, relabel, hkind]) hDC hDf hCf hst₁ hacc hns₁ ?_ ?_ ?_ (by first | exact leSL (by assumption) | (rw [sizeLine_eq]; omega))
    · rintro j vals ⟨u, v, _, _, rfl⟩; exact ⟨u, v, rfl⟩
    · rintro j u v s₂ m₂ E' hj ⟨u', v', hu, hv, heq⟩ hns hm1 hm2 hk htk
      have e1 : u' = u ∧ v' = v := by
        have := congrArg Array.toList heq
        simp at this; exact ⟨this.1.symm, this.2.symm⟩
      obtain ⟨rfl, rfl⟩ := e1
      have hjy : j < ys.length := Nat.lt_of_lt_of_le hj hle
      obtain ⟨u2, hu2, iu⟩ := ia.get (i := j) (a := xs[j]) (by simp [hj])
      obtain ⟨v2, hv2, iv⟩ := ib.get (i := j) (a := ys[j]) (by simp [hjy])
      have eu : u2 = u' := by
        have q : vs1[j]? = some u2 := by simpa using hu2
        rw [q] at hu; exact Option.some.inj hu
      have ev : v2 = v' := by
        have q : vs2[j]? = some v2 := by simpa using hv2
        rw [q] at hv; exact Option.some.inj hv
      subst eu ev
      refine wpAny_mono (comp_elt2 (wr := [z, TO, i1, i2]) S2 wnew hkind hx1 hx2 hne (helt O1 N1 hI xs[j] ys[j] (List.getElem_mem _) (List.getElem_mem _)) hCle hns hm1 hm2 iu iv (fun b o hbf e => hk b o (below b (Heap.lt_size e)).1 hbf (below b (Heap.lt_size e)).2 (old b o e)) htk) (fun y s₃ q => ⟨⟨_, _, by simp [hj], by simp [hjy], q.1⟩, q.2⟩) fun _ _ e => e.elim
    · intro h' tk' m' vs hn' hpl hsize hF hk
      have hLC : c.env.locals ≠ H2.objs.size := by
        rw [hL]; intro q
        have := S2.Lh.1
        rw [q] at this
        exact Nat.lt_irrefl _ (Nat.lt_of_lt_of_le this hCle)
      have hLD : c.env.locals ≠ h.objs.size := by rw [hL]; exact Nat.ne_of_lt S2.Lh.1
      have S2c := S2
      obtain ⟨⟨mf, C, h1, h2, h3, h4⟩, h5, h6, h7⟩ := S2
      have hk' : ∀ b o, b ∉ [z, TO, i1, i2] → h.get? b = some o → h'.get? b = some o := fun b o hbf e => hk b o (below b (Heap.lt_size e)).1 hbf (below b (Heap.lt_size e)).2 (old b o e)
      have hLw : c.L ∉ [z, TO, i1, i2] := fun q => (wnew _ q).2.1 rfl
      show wpAny _ _ (assign (.Name y py) c.env (.ref h.objs.size)) _ _ _
      refine wpAny_assign_Name (wpAny_storeName_local hky (by rw [hL]; exact h1.ns.at' fun o e => hk' _ o hLw e) (fun h₂ hn₂ hs₂ => ?_) (by rw [c.hek]; rfl))
      refine ⟨m', hn'.sameBut hs₂ (Ne.symm hLC), fun h₃ hs₃ htk => ?_⟩
      have hpl3 : h₃.PlainList h.objs.size vs := (hpl.extBut hs₂.extBut (Ne.symm hLD)).extBut hs₃.extBut hDC
      obtain ⟨n, hpl3⟩ := hpl3
      have ha := Paired2.all2 (f := f) rfl hle hsize hF
      have hk3 : ∀ b o, b ≠ c.L → b ∉ [z, TO, i1, i2] → h.get? b = some o → h₃.get? b = some o := fun b o hbL hbf e =>
        hs₃.extBut b o (below b (Heap.lt_size e)).1 (hs₂.extBut b o (by rw [hL]; exact hbL) (hk' b o hbf e))
      have hns3 : h₃.Ns c.L (fun z => if z = y then some (.ref h.objs.size) else mf z) := hL ▸ hn₂.sameBut hs₃ hLC
      have hD := fresh h.objs.size (Nat.le_refl _)
      have S3 : St c (σ1.set i (some (.ref h.objs.size))) O1 (N1 ++ F) (upd s h₃ (tk' + 1)) := by
        refine ⟨⟨_, C, ⟨hns3, fun b o e => hk3 b o (fun q => ?_) (fun q => by have := (wnew b q).2.2; rw [this] at e; cases e) (h1.keep b o e), h1.above⟩,
          fun p hp => ⟨hk3 _ _ (h2 p hp).2.1 (fun q => ?_) (h2 p hp).1, (h2 p hp).2⟩, h3, ?_⟩, h5, Nat.lt_of_lt_of_le S.tk htk, ⟨fun q => (q hL).elim, fun a ha => let ⟨o, v, e, d⟩ := h7.2 a ha; ⟨o, v, hk3 _ _ (cells_at h2 h3 ha).1 (fun q => (wnew a q).1 (List.mem_append_left _ ha)) e, d⟩⟩⟩
        · subst q; exact Nat.lt_irrefl _ (Nat.lt_of_lt_of_le (Heap.lt_size e) h1.above)
        · apply (wnew _ q).1
          rw [← h3, ← List.map_append]
          exact List.mem_map.mpr ⟨p, hp, rfl⟩
        intro j zz pw hz hv
        by_cases e : j = i
        · subst e
          rw [hy] at hz
          cases hz
          rw [List.getElem?_set_self hi] at hv
          cases hv
          exact ⟨.ref h.objs.size, rfl, .loc hky hL (by simp)⟩
        · have hne := names_ne c.hnd hz hy e
          rw [List.getElem?_set_ne (fun q => e q.symm)] at hv
          obtain ⟨w, iw, H⟩ := h4 j zz pw hz hv
          refine ⟨w, iw, ?_⟩
          cases H with
          | loc a1 a2 a3 => exact .loc a1 a2 (by simp [hne, a3])
          | comp a1 o m a2 a3 a4 => exact .comp a1 o m a2 a3 a4
          | cell a1 a o a2 a3 a4 => exact .cell a1 a o a2 a3 a4
      exact k .next _ ((h.objs.size, _) :: O1) N1 h₃ _ ⟨.next, hR O1 N1 _ _ hI ⟨vs, n, rfl, ha⟩, rfl⟩ (S3.add hpl3 (S2c.fresh hD).1 (S2c.fresh hD).2.1 (S2c.fresh hD).2.2) htk
  refine codeAny_compStart_list loop (wpAny_pyIter_zip (hst₁.1) loop)
end
end Mine
end
section
open PySem PySem.W PyProof.Rows PySem.Calls
set_option autoImplicit false
set_option linter.unusedVariables false
set_option linter.unusedSimpArgs false
namespace Mine

theorem pickL_plain {α : Type} (xs : List α) (lo hi : Option Int) : pickL xs lo hi none = (xs.drop (lo.elim 0 (clipAt xs.length))).take (hi.elim xs.length (clipAt xs.length) - lo.elim 0 (clipAt xs.length)) := by
  unfold pickL
  rw [sliceBounds_plain]
  simp only [sliceRange_one]
  have := pick_run xs.toArray (lo.elim 0 (clipAt xs.length)) (hi.elim xs.length (clipAt xs.length) - lo.elim 0 (clipAt xs.length))
  simpa using this
theorem pickL_from {α : Type} (xs : List α) (a : Nat) : pickL xs (some (a : Int)) none none = xs.drop a := by
  rw [pickL_plain]
  simp only [Option.elim, clipAt_nat]
  rcases Nat.le_total a xs.length with h | h
  · rw [Nat.min_eq_left h, List.take_of_length_le (by simp)]
  · rw [Nat.min_eq_right h, List.drop_of_length_le (Nat.le_refl _), List.drop_of_length_le h]; simp
theorem pickL_upto {α : Type} (xs : List α) (b : Nat) : pickL xs none (some (b : Int)) none = xs.take b := by
  rw [pickL_plain]
  simp only [Option.elim, clipAt_nat, List.drop_zero, Nat.sub_zero]
  rcases Nat.le_total b xs.length with h | h
  · rw [Nat.min_eq_left h]
  · rw [Nat.min_eq_right h, List.take_of_length_le (Nat.le_refl _), List.take_of_length_le h]

section
variable {G : GC} {c : Act G} {σ : Sto} {O F : Led} {s : Shared}
theorem ev_listslice {value : Expr} {lower upper : Option Expr} {p pos : Pos} {l : Addr} {xs : List PV} (lo hi : Option Int) (ho : Evp c σ O F value (.ref l)) (hlo : TVp c σ O F (evalPart lower c.env) (partPV lo)) (hhi : TVp c σ O F (evalPart upper c.env) (partPV hi))
    (hL : ListAt c σ O F l xs) (hsz : xs.length ≤ 1048576) (ht : ∀ o r, letTemporaryGo value o r = pure () := by intro _ _; rfl) :
    Ev c σ O F (.Subscript value (.Slice lower upper none p) pos) fun pv O1 N1 => ∃ d od, pv = .ref d ∧ ListO (pickL xs lo hi none) od ∧ O1 = (d, od) :: O ∧ N1 = [] := by
  refine TG.of (T := fun Q s => wpAny G.M c.A (eval value c.env) (fun o s₁ => wpAny G.M c.A (evalPart lower c.env) (fun vl s₂ => wpAny G.M c.A (evalPart upper c.env) (fun vu s₃ =>
      Shared.TypeIs (upd s₃ (s₃.heap.push { cls := .type "slice", data := .fields #[vl, vu, .none] }) s₃.toks) o "list" ∧ wpAny G.M c.A (getItem o (.ref s₃.heap.objs.size)) Q NoE (upd s₃ (s₃.heap.push { cls := .type "slice", data := .fields #[vl, vu, .none] }) s₃.toks)) NoE s₂) NoE s₁) NoE s) ?_ ?_
  · refine TV.bindp (T2 := fun o Q s₁ => wpAny G.M c.A (evalPart lower c.env) (fun vl s₂ => wpAny G.M c.A (evalPart upper c.env) (fun vu s₃ =>
      Shared.TypeIs (upd s₃ (s₃.heap.push { cls := .type "slice", data := .fields #[vl, vu, .none] }) s₃.toks) o "list" ∧ wpAny G.M c.A (getItem o (.ref s₃.heap.objs.size)) Q NoE (upd s₃ (s₃.heap.push { cls := .type "slice", data := .fields #[vl, vu, .none] }) s₃.toks)) NoE s₂) NoE s₁) ho fun vo e => ?_
    cases e
    refine TV.bindp (T2 := fun vl Q s₂ => wpAny G.M c.A (evalPart upper c.env) (fun vu s₃ =>
      Shared.TypeIs (upd s₃ (s₃.heap.push { cls := .type "slice", data := .fields #[vl, vu, .none] }) s₃.toks) (.ref l) "list" ∧ wpAny G.M c.A (getItem (.ref l) (.ref s₃.heap.objs.size)) Q NoE (upd s₃ (s₃.heap.push { cls := .type "slice", data := .fields #[vl, vu, .none] }) s₃.toks)) NoE s₂) hlo fun vl il => ?_
    refine TV.bindp (T2 := fun vu Q s₃ =>
      Shared.TypeIs (upd s₃ (s₃.heap.push { cls := .type "slice", data := .fields #[vl, vu, .none] }) s₃.toks) (.ref l) "list" ∧ wpAny G.M c.A (getItem (.ref l) (.ref s₃.heap.objs.size)) Q NoE (upd s₃ (s₃.heap.push { cls := .type "slice", data := .fields #[vl, vu, .none] }) s₃.toks)) hhi fun vu iu => ?_
    exact get_slice hL hsz (isPart_of il) (isPart_of iu) .none (by simp)
  · intro Q s h
    refine wpAny_Subscript_Slice (T := "list") list_getitem_lookup (wpAny_mono h (fun o s₁ h₁ => wpAny_Slice (wpAny_mono h₁ (fun vl s₂ h₂ => wpAny_mono h₂ (fun vu s₃ h₃ => ?_) fun _ _ e => e) fun _ _ e => e)) fun _ _ e => e) ht
    rw [evalPart_none]
    exact wpAny_pure h₃
theorem ev_listupto {value e : Expr} {p pos : Pos} {l : Addr} {xs : List PV} (b : Nat) (ho : Evp c σ O F value (.ref l)) (hb : Evp c σ O F e (.int (b : Int))) (hL : ListAt c σ O F l xs) (hsz : xs.length ≤ 1048576) (ht : ∀ o r, letTemporaryGo value o r = pure () := by intro _ _; rfl) :
    Ev c σ O F (.Subscript value (.Slice none (some e) none p) pos) fun pv O1 N1 => ∃ d od, pv = .ref d ∧ ListO (xs.take b) od ∧ O1 = (d, od) :: O ∧ N1 = [] := by
  have := ev_listslice (p := p) (pos := pos) none (some (b : Int)) ho part_none (part_some hb) hL hsz ht
  rwa [pickL_upto] at this
theorem ev_listfrom {value e : Expr} {p pos : Pos} {l : Addr} {xs : List PV} (a : Nat) (ho : Evp c σ O F value (.ref l)) (ha : Evp c σ O F e (.int (a : Int))) (hL : ListAt c σ O F l xs) (hsz : xs.length ≤ 1048576) (ht : ∀ o r, letTemporaryGo value o r = pure () := by intro _ _; rfl) :
    Ev c σ O F (.Subscript value (.Slice (some e) none none p) pos) fun pv O1 N1 => ∃ d od, pv = .ref d ∧ ListO (xs.drop a) od ∧ O1 = (d, od) :: O ∧ N1 = [] := by
  have := ev_listslice (p := p) (pos := pos) (some (a : Int)) none ho (part_some ha) part_none hL hsz ht
  rwa [pickL_from] at this

/-- len of a list that can be read -/
theorem bi_len_at {l : Addr} {xs : List PV} (hL : ListAt c σ O F l xs) (hsz : xs.length ≤ 1048576) : TVp c σ O F (call (.builtin "len") [.ref l]) (.int xs.length) :=
  TV.pure fun s Q S k => by
    obtain ⟨vs, q1, q2⟩ := hL s S
    have e : vs.size = xs.length := by rw [q2.length]; simp
    refine Calls.call_len_list q1 (by omega) ?_
    rw [e]
    exact k _ s.heap _ ⟨_, rfl⟩ fun _ _ e => e
end
end Mine
end
section
open PySem PySem.W PyProof.Rows PySem.Calls
set_option autoImplicit false
set_option linter.unusedVariables false
set_option linter.unusedSimpArgs false
namespace Mine

/-! what the reply says is what was asked -/
theorem replS_one (l : List Nat) : escS l = l.flatMap fun c => if c = 34 then [34, 34] else [c] := by
  unfold escS
  induction l with
  | nil => rfl
  | cons c r ih =>
    rw [replS, List.flatMap_cons, ← ih]
    by_cases h : c = 34
    · rw [if_pos (by simp [h]), if_pos h]; rfl
    · rw [if_neg (by simp [h]), if_neg h]; rfl
theorem parse_esc (b : List Nat) (hb : b.head? ≠ some 34) : ∀ t : List Nat, parseF (escS t ++ 34 :: b) = t := by
  intro t
  rw [replS_one]
  induction t with
  | nil =>
    cases b with
    | nil => rfl
    | cons d b =>
      have : d ≠ 34 := by simpa using hb
      simp [parseF, this]
  | cons c r ih =>
    rw [List.flatMap_cons]
    by_cases h : c = 34
    · rw [if_pos h, h, List.append_assoc]
      show parseF (34 :: 34 :: (List.flatMap (fun c => if c = 34 then [34, 34] else [c]) r ++ 34 :: b)) = _
      rw [parseF, if_pos rfl, if_pos rfl, ih]
    · rw [if_neg h, List.append_assoc]
      show parseF (c :: (_ ++ 34 :: b)) = _
      cases e : (List.flatMap (fun c => if c = 34 then [34, 34] else [c]) r ++ 34 :: b) with
      | nil => simp at e
      | cons d x => rw [parseF, if_neg h, ← e, ih]
theorem parse_reply (t : List Nat) (n : Int) : parseF (escS t ++ [34] ++ behindF n) = t := by
  rw [List.append_assoc]
  refine parse_esc (behindF n) ?_ t
  have := behindF_mem n
  simp only [behindL, List.mem_cons, List.not_mem_nil, or_false] at this
  rcases this with h | h | h <;> rw [h] <;> decide

/-! two sorted lists with the same words -/
theorem rising_pw : ∀ (l : List (List Nat)) (p : List Nat), risingS (mk p) (l.map mk) = true → (p :: l).Pairwise (fun a b => a ≤ b)
  | [], p, _ => by simp
  | x :: r, p, h => by
    have h' : (!Spec.ltCps (mk x).cps.toList (mk p).cps.toList && risingS (mk x) (r.map mk)) = true := h
    rw [Bool.and_eq_true, ltCps_eq, mk_cps, mk_cps] at h'
    have h1 : p ≤ x := by have := h'.1; simpa using this
    have ih := rising_pw r x h'.2
    refine List.pairwise_cons.mpr ⟨fun y hy => ?_, ih⟩
    rcases List.mem_cons.mp hy with rfl | hy
    · exact h1
    · exact List.le_trans h1 ((List.pairwise_cons.mp ih).1 y hy)
theorem SortedT.pw {l : List (List Nat)} (h : SortedT l) : l.Pairwise (fun a b => a ≤ b) := by
  cases l with
  | nil => exact .nil
  | cons x r => exact rising_pw r x h
theorem sorted_uniq : ∀ {as bs : List (List Nat)}, as.Pairwise (fun a b => a ≤ b) → bs.Pairwise (fun a b => a ≤ b) → as.Nodup → bs.Nodup → (∀ x, x ∈ as ↔ x ∈ bs) → as = bs
  | [], bs, _, _, _, _, h => by
    cases bs with
    | nil => rfl
    | cons b bs => have := (h b).mpr (.head _); cases this
  | a :: as, [], _, _, _, _, h => by have := (h a).mp (.head _); cases this
  | a :: as, b :: bs, h1, h2, n1, n2, h => by
    have p1 := List.pairwise_cons.mp h1
    have p2 := List.pairwise_cons.mp h2
    have d1 := List.nodup_cons.mp n1
    have d2 := List.nodup_cons.mp n2
    have hab : a = b := by
      have q1 : a = b ∨ b ≤ a := by
        rcases List.mem_cons.mp ((h a).mp (.head _)) with e | e
        · exact .inl e
        · exact .inr (p2.1 a e)
      have q2 : b = a ∨ a ≤ b := by
        rcases List.mem_cons.mp ((h b).mpr (.head _)) with e | e
        · exact .inl e
        · exact .inr (p1.1 b e)
      rcases q1 with e | q1
      · exact e
      · rcases q2 with e | q2
        · exact e.symm
        · exact List.le_antisymm q2 q1
    subst hab
    rw [sorted_uniq p1.2 p2.2 d1.2 d2.2 fun x => ?_]
    have hx := h x
    simp only [List.mem_cons] at hx
    constructor
    · intro q
      rcases hx.mp (.inr q) with e | e
      · subst e; exact absurd q d1.1
      · exact e
    · intro q
      rcases hx.mpr (.inr q) with e | e
      · subst e; exact absurd q d2.1
      · exact e

theorem lev_price {R : List (List Nat)} {row : List Nat} {price : Int} {nearest : List (List Nat)} (hl : LeastOK R 256 row price nearest) {w : List Nat} (hw : DerW R 256 w) : ¬ levF row w price < price ∧ (levF row w price = price ↔ D row w = price) := by
  have h1 := hl.lo w hw
  obtain ⟨h2, h3⟩ := lev_is row w price
  by_cases h : D row w ≤ price
  · have := h2 h; omega
  · have := h3 (by omega); omega
end Mine
end
section
open PySem PySem.W PyProof.Rows PySem.Calls
set_option autoImplicit false
set_option linter.unusedVariables false
set_option linter.unusedSimpArgs false
namespace Mine

def insU (x : List Nat) : List (List Nat) → List (List Nat)
  | [] => [x]
  | y :: r => if x < y then x :: y :: r else if x = y then y :: r else y :: insU x r
theorem insU_mem (x z : List Nat) : ∀ l, z ∈ insU x l ↔ z = x ∨ z ∈ l
  | [] => by simp [insU]
  | y :: r => by
    have ih := insU_mem x z r
    rw [insU]
    split
    · simp
    · split
      · rename_i e; subst e; simp
      · simp only [List.mem_cons, ih]
        constructor
        · rintro (h | h | h)
          · exact .inr (.inl h)
          · exact .inl h
          · exact .inr (.inr h)
        · rintro (h | h | h)
          · exact .inr (.inl h)
          · exact .inl h
          · exact .inr (.inr h)
theorem insU_pw (x : List Nat) : ∀ l : List (List Nat), l.Pairwise (fun a b => a < b) → (insU x l).Pairwise (fun a b => a < b)
  | [], _ => by simp [insU]
  | y :: r, h => by
    have h1 := List.pairwise_cons.mp h
    rw [insU]
    split
    · rename_i hxy
      refine List.pairwise_cons.mpr ⟨fun z hz => ?_, h⟩
      rcases List.mem_cons.mp hz with rfl | hz
      · exact hxy
      · exact List.lt_trans hxy (h1.1 z hz)
    · rename_i hxy
      split
      · exact h
      · rename_i hne
        have hyx : y < x := by
          rcases Classical.em (y < x) with q | q
          · exact q
          · exact absurd (List.le_antisymm (List.not_lt.mp q) (List.not_lt.mp hxy)) hne
        refine List.pairwise_cons.mpr ⟨fun z hz => ?_, insU_pw x r h1.2⟩
        rcases (insU_mem x z r).mp hz with rfl | hz
        · exact hyx
        · exact h1.1 z hz
/-- the grammar's words, in order -/
theorem words_exist {R : List (List Nat)} (g : Gram R) : ∃ ts : List (List Nat), ts.Pairwise (fun a b => a ≤ b) ∧ ts.Nodup ∧ ∀ x, x ∈ ts ↔ DerW R 256 x := by
  classical
  obtain ⟨E, _, hE⟩ := words_count g (sz 256) 256 (Nat.le_refl _) (.inr (.inl rfl))
  have key : ∀ E : List (List Nat), ∃ ts : List (List Nat), ts.Pairwise (fun a b => a < b) ∧ ∀ x, x ∈ ts ↔ x ∈ E := by
    intro E
    induction E with
    | nil => exact ⟨[], .nil, fun x => Iff.rfl⟩
    | cons e E ih =>
      obtain ⟨ts, h1, h2⟩ := ih
      exact ⟨insU e ts, insU_pw e ts h1, fun x => by rw [insU_mem, h2, List.mem_cons]⟩
  obtain ⟨ts, h1, h2⟩ := key (E.filter fun w => decide (DerW R 256 w))
  refine ⟨ts, h1.imp fun h => List.le_of_lt h, h1.imp fun {a b} h e => ?_, fun x => ?_⟩
  · subst e; exact List.lt_irrefl _ h
  · rw [h2, List.mem_filter, decide_eq_true_iff]
    exact ⟨fun h => h.2, fun h => ⟨hE x h, h⟩⟩
/-- the law's last line -/
theorem found_is' {R : List (List Nat)} {row : List Nat} {price : Int} {nearest ts ss : List (List Nat)} (hl : LeastOK R 256 row price nearest) (hts : ∀ x, x ∈ ts ↔ DerW R 256 x) (hs : ts.Pairwise (fun a b => a ≤ b)) (hn : ts.Nodup) (hss : SortedT ss) (hp : ss.Perm nearest) :
    (ts.filter fun w => D row w = price) = ss := by
  refine sorted_uniq (hs.sublist List.filter_sublist) hss.pw (hn.sublist List.filter_sublist) (hp.nodup_iff.mpr hl.nd) fun x => ?_
  rw [hp.mem_iff, hl.mem x, List.mem_filter, hts x]
  simp
end Mine
end
section
open PySem PySem.W PyProof.Rows PySem.Calls
set_option autoImplicit false
set_option linter.unusedVariables false
set_option linter.unusedSimpArgs false
set_option maxRecDepth 20000
namespace Mine

section
variable {G : GC} {c : Act G} {σ : Sto} {O F : Led} {s : Shared}
/-- owned entries of an answer are frozen for good -/
theorem TV.freezeOut {t : Sem Value} {R : VPost} (h : TV c σ O F t fun pv O' N => ∃ O'' M : Led, O'.Perm (M ++ O'') ∧ R pv O'' (M ++ N)) : TV c σ O F t R := by
  intro s Q S k
  refine h s Q S ?_
  rintro v σ' O' N hh tk ⟨e, pv, ⟨O'', M, hp, hr⟩, iv⟩ S' ht
  refine k v σ' O'' (M ++ N) hh tk ⟨e, pv, hr, iv⟩ (S'.move ?_ fun p hq => ?_) ht
  · refine (hp.append_right _).trans ?_
    simp only [List.append_assoc]
    rw [← List.append_assoc M O'', ← List.append_assoc O'' M]
    exact List.Perm.append_right _ List.perm_append_comm
  · rw [List.append_assoc]; exact List.mem_append_right _ hq
theorem star_const {k : Const} {n : Nat} {p : Pos} {rest : List Expr} {env : Env} : starEach (.Constant k n p :: rest) env = (false, eval (.Constant k n p) env) :: starEach rest env := rfl
theorem ta_int {pos p : Pos} {i : Int} {k : Nat} {rest : List Expr} {pvs : List PV} (h : TA c σ O F pos rest (justA O pvs)) : TA c σ O F pos (.Constant (.int i) k p :: rest) (justA O (.int i :: pvs)) :=
  ta_pp ev_int h (fun _ => star_const)
/-- x == [..], as a value -/
theorem ev_cmpG {l r : Expr} {op : CmpOp} {pos : Pos} {pl : PV} {R1 : VPost} {b : Bool} (hl : Evp c σ O F l pl) (hr : Ev c σ O F r R1)
    (h : ∀ vl vr pr O1 N1, pl.Is vl → pr.Is vr → R1 pr O1 N1 → O.Sublist O1 ∧ N1 = [] ∧ TVp c σ O1 F (compareOp op vl vr) (.bool b)) (hm : behindInMarks op r = false := by rfl) : Evp c σ O F (.Compare l [op] [r] pos) (.bool b) := by
  refine TV.drop (TG.of (T := fun (Q : Value → Shared → Prop) s => wpAny G.M c.A (eval l c.env) (fun vl s1 => wpAny G.M c.A (eval r c.env) (fun vr s2 => wpAny G.M c.A (compareOp op vl vr) Q NoE s2) NoE s1) NoE s) ?_ fun Q s h => wpAny_Compare1 h hm)
  refine TV.bindp (T2 := fun vl (Q : Value → Shared → Prop) s1 => wpAny G.M c.A (eval r c.env) (fun vr s2 => wpAny G.M c.A (compareOp op vl vr) Q NoE s2) NoE s1) hl fun vl il => ?_
  refine TV.bindG (T2 := fun vr (Q : Value → Shared → Prop) s2 => wpAny G.M c.A (compareOp op vl vr) Q NoE s2) hr fun vr pr O1 N1 h1 ir => ?_
  obtain ⟨hs, rfl, hc⟩ := h vl vr pr O1 N1 il ir h1
  refine TV.mono (by simpa using hc) ?_
  rintro pv O' N ⟨e1, e2, e3⟩
  exact ⟨O, e2 ▸ hs, e1, rfl, by simpa using e3⟩
end

abbrev DefOf (G : GC) (nm : String) (k : Nat) : Prop := ∃ f, DefAt G (Str.ofString nm) f (fnP PP k) (fnB PP k) (fnS PP k)
structure LawG (G : GC) : Prop where
  lev : LevNames G
  chr : nsIn G.K mainGlobals (Str.ofString "chr") = some none
  ord : nsIn G.K mainGlobals (Str.ofString "ord") = some none
  zip : nsIn G.K mainGlobals (Str.ofString "zip") = some none
  sorted : nsIn G.K mainGlobals (Str.ofString "sorted") = some none
  eof : ∃ t, nsIn G.K mainGlobals (Str.ofString "ENDMARKER") = some (some (.int 0 t))
  off : ∃ t, nsIn G.K mainGlobals (Str.ofString "NT_OFFSET") = some (some (.int 256 t))
  parse : DefOf G "parse257" 9
  dsub : DefOf G "_substitution_cost" 4
  dlev : DefOf G "_levenshtein_distance" 5
  dterm : DefOf G "ISTERMINAL" 13
  dnon : DefOf G "ISNONTERMINAL" 14
  deof : DefOf G "ISEOF" 15
  drules : DefOf G "_law_rules" 17
  dreply : DefOf G "_law_reply" 18
  dwords : DefOf G "_law_words" 19
  dleast : DefOf G "_law_least" 20

theorem least_all {G : GC} (LG : LawG G) {f : Addr} (D : DefAt G (Str.ofString "_law_least") f (fnP PP 20) (fnB PP 20) (fnS PP 20)) (R : List (List Nat)) (g : Gram R) (row0 : List Nat) (hrow0 : row0.length ≤ 4) (hrowS : ∀ x ∈ row0, x = 34 ∨ x = 61 ∨ x = 88 ∨ x = 120) (ra : Addr) :
    ∀ k n, n ≤ k → LeastFn G f R row0 ra n (k + 1) (3 * k + 4)
  | 0, n, h => by
    have : n = 0 := Nat.le_zero.mp h
    subst this
    exact least_step LG.ord LG.lev.range LG.lev.len LG.lev.min D R g row0 hrow0 hrowS ra 0 0 1 (Nat.le_refl _) fun m hm => absurd hm (Nat.not_lt_zero m)
  | k + 1, n, h => least_step LG.ord LG.lev.range LG.lev.len LG.lev.min D R g row0 hrow0 hrowS ra n (k + 1) (3 * k + 4) (by omega) fun m hm => least_all LG D R g row0 hrow0 hrowS ra k m (by omega)

abbrev lawNames : List Str := [Str.ofString "script", Str.ofString "lacking", Str.ofString "numbers", Str.ofString "rules", Str.ofString "row", Str.ofString "told", Str.ofString "price", Str.ofString "nearest", Str.ofString "found", Str.ofString "word", Str.ofString "distance"]

theorem all2_ints {vs : List Value} {ns : List Int} (h : IntsAre vs ns) : All2 PV.Is (ns.map .int) vs := by
  induction h with
  | nil => exact .nil
  | cons n t _ ih => exact .cons ⟨t, rfl⟩ ih

def lackL : List Int := [28, 33, 4, 8, 18, 13, 3, 0, 2, 4]
def fifth (n : Int) : Nat := (Int.fmod n 5).toNat
theorem fifth_lt (n : Int) : fifth n < 5 := by
  have h1 := Int.fmod_lt_of_pos n (b := 5) (by decide)
  unfold fifth; omega
theorem fifth_is (n : Int) : Int.fmod n 5 = ((fifth n : Nat) : Int) := by
  have h1 := Int.fmod_nonneg_of_pos n (b := 5) (by decide)
  unfold fifth; omega
def signF (n : Int) : List Nat := ([34, 61, 88, 120].drop (fifth n)).take 1
theorem signF_ok (n : Int) : (signF n).length ≤ 1 ∧ ∀ x ∈ signF n, x = 34 ∨ x = 61 ∨ x = 88 ∨ x = 120 := by
  unfold signF
  refine ⟨by rw [List.length_take]; omega, fun x hx => ?_⟩
  have := List.mem_of_mem_drop (List.mem_of_mem_take hx)
  simpa using this
theorem joinL_nil : ∀ ls : List (List Nat), joinL [] ls = ls.flatten := by
  intro ls
  induction ls with
  | nil => rfl
  | cons x r ih =>
    cases r with
    | nil => simp [joinL]
    | cons y r => simp only [joinL] at ih ⊢; simp only [List.append_nil, List.flatten_cons] at ih ⊢; rw [ih]
theorem row_ok (ns : List Int) (h : ns.length ≤ 4) : (joinL [] (ns.map signF)).length ≤ 4 ∧ ∀ x ∈ joinL [] (ns.map signF), x = 34 ∨ x = 61 ∨ x = 88 ∨ x = 120 := by
  rw [joinL_nil]
  refine ⟨?_, fun x hx => ?_⟩
  · suffices H : ∀ ns : List Int, (ns.map signF).flatten.length ≤ ns.length from Nat.le_trans (H ns) h
    intro ns
    induction ns with
    | nil => simp
    | cons n r ih => have := (signF_ok n).1; simp only [List.map_cons, List.flatten_cons, List.length_append, List.length_cons]; omega
  · obtain ⟨l, hl, hx⟩ := List.mem_flatten.mp hx
    obtain ⟨n, _, rfl⟩ := List.mem_map.mp hl
    exact (signF_ok n).2 x hx

end Mine
end
section
open PySem PySem.W PyProof.Rows PySem.Calls
set_option autoImplicit false
set_option linter.unusedVariables false
set_option linter.unusedSimpArgs false
set_option maxRecDepth 20000
namespace Mine

set_option maxHeartbeats 4000000 in
theorem law_walk {G : GC} (LG : LawG G) (c : Act G) (H : Loc c lawNames (fnS PP 21)) (room : Room c 100 1000) (l : Addr) (vs : List Value) (ns : List Int) (hl : c.h0.IsList l vs.toArray) (hi : IntsAre vs ns) (hn : ns.length ≤ 63) :
    Ex c [some (.ref l), none, none, none, none, none, none, none, none, none, none] [] [] (fnB PP 21) fun pf σ' O' N => pf = .ret (.bool true) := by
  obtain ⟨fp, Dp⟩ := LG.parse
  obtain ⟨fl, Dl⟩ := LG.dlev
  obtain ⟨ft, Dt⟩ := LG.dterm
  obtain ⟨fn, Dn⟩ := LG.dnon
  obtain ⟨fe, De⟩ := LG.deof
  obtain ⟨fr, Dr⟩ := LG.drules
  obtain ⟨fy, Dy⟩ := LG.dreply
  obtain ⟨fw, Dw⟩ := LG.dwords
  obtain ⟨fm, Dm⟩ := LG.dleast
  obtain ⟨fs, Ds⟩ := LG.dsub
  have Hn := H.nms
  have hL : ∀ {σ O F}, ListAt c σ O F l (ns.map .int) := fun {σ O F} => listAt_h0 hl (all2_ints hi)
  have hterm := term_fn LG.off Dt
  have hnon := nonterm_fn LG.off Dn
  have heof := eof_fn LG.eof De
  have hsub := fun x y => subst_fn LG.lev Ds x y
  have hlev := fun (a b : List Nat) (m : Int) (la : a.length ≤ 40) (lb : b.length ≤ 40) => lev_fn LG.lev Dl Ds.ns Ds.keep hsub a b m la lb
  -- lacking
  refine ex_cons ?_
  refine asg_ H 1 ?_ ?_ ?_ ?_
  · rfl
  · simp
  rotate_left
  · rfl
  refine ev_list (xs := lackL.map .int) ?_ ?_ ?_
  · refine ta_int ?_; refine ta_int ?_; refine ta_int ?_; refine ta_int ?_; refine ta_int ?_; refine ta_int ?_; refine ta_int ?_; refine ta_int ?_; refine ta_int ?_; refine ta_int ?_
    exact ta_np
  · simp [sizeLine_eq, lackL]
  intro la lo hla
  simp only [List.set_cons_zero, List.set_cons_succ, List.nil_append]
  refine TG.freezeN ?_
  -- numbers
  refine ex_cons (asg_comp 2 (items := (ns.take 10 ++ lackL.drop ns.length).map .int) (I0 := fun O1 N1 => True) (fun pv => match pv with | .int x => .int (Int.fmod x 1000000) | _ => .none) [] ⟨by decide, rfl, by decide, rfl⟩ (H.name rfl) (H.kind (i := 2) rfl) H.L (by simp)
    ?_ ?_ ?_ (fun p hp => nomatch hp) (by show List.Nodup [Str.ofString "x"]; decide) ?_ ?_ ?_)
  · refine it_list ?_
    refine TV.freezeOut ?_
    refine ev_addlist ?_
    refine TV.mono (ev_listupto 10 (v_ H 0 rfl rfl) ev_int hL (map_le hn)) ?_
    rintro pv O1 N1 ⟨d1, o1, rfl, hd1, rfl, rfl⟩
    refine TV.mono (ev_listfrom ns.length (v_ H 1 rfl rfl) (ev_bcall LG.lev.len (by boot_fast) (H.glob rfl) (ta_consp (v_ H 0 rfl rfl) (ta_nil fun vals hv => ?_))) (listAt_led (List.mem_append_right _ (by simp)) hla) (by simp [lackL])) ?_
    · obtain ⟨v, rfl, iv⟩ := hv.one
      cases iv
      have := bi_len_at (c := c) (σ := [some (.ref l), some (.ref la), none, none, none, none, none, none, none, none, none]) (O := [(d1, o1)]) (F := [(la, lo)]) (hL) (map_le hn)
      refine TV.mono this ?_
      rintro pv O' N ⟨rfl, rfl, rfl⟩
      exact ⟨by simp, rfl, rfl⟩
    · rintro pv O2 N2 ⟨d2, o2, rfl, hd2, rfl, rfl⟩
      refine ⟨d1, o1, d2, o2, _, _, rfl, rfl, by simp, by simp, hd1, hd2, Nat.le_trans (Nat.add_le_add (take_le (n := 63) (map_le hn)) (drop_le (n := 10) (Nat.le_refl _))) (by decide), ?_⟩
      intro d od hd
      refine ⟨[(d2, o2), (d1, o1)], [(d, od)], List.Perm.refl _, d, od, rfl, ?_, by simp, trivial⟩
      rw [List.map_append, List.map_take, List.map_drop]; exact hd
  · exact map_le (n := 73) (by rw [List.length_append]; exact Nat.add_le_add (take_le hn) (drop_le (Nat.le_refl _)))
  · exact fun n hn => nomatch (show n ∈ ([] : List Str) from hn)
  · rintro O1 N1 _ pv hpv c' F2 Hc hs2
    obtain ⟨m, _, rfl⟩ := List.mem_map.mp hpv
    exact ev_fmod (nv_ Hc.nms 0 rfl rfl) (ev_eq (ev_pow ev_int ev_int (by decide) (by decide) (by decide)) (by rw [show (10 : Int) ^ (6 : Int).toNat = 1000000 from by decide])) (by decide)
  rotate_left
  · exact swaps_comp (by unfold Env.blockKind; rw [c.hek]; rfl) (H.kind (i := 2) rfl) rfl (by decide)
  rintro O1 Nn na no _ hno
  refine TG.dropO (O' := [(na, no)]) (List.Sublist.cons_cons _ (List.nil_sublist _)) ?_
  simp only [List.set_cons_zero, List.set_cons_succ, List.nil_append]
  refine TG.freezeN ?_
  obtain ⟨nums, hnums, hnl⟩ : ∃ nums : List Int, ListO (nums.map .int) no ∧ nums.length = 10 := by
    refine ⟨(ns.take 10 ++ lackL.drop ns.length).map fun x => Int.fmod x 1000000, ?_, by simp [lackL]; omega⟩
    rw [List.map_map] at hno ⊢
    exact hno
  clear hno
  generalize Nn ++ [(la, lo)] = F0
  -- rules
  refine ex_cons (asg_ H 3 rfl (lt_of_blt rfl) (ev_call Dr.ns Dr.keep (H.glob rfl) (ta_consp (v_ H 2 rfl rfl) (ta_nil fun vals hv => TV.mono (rules_fn LG.chr LG.lev.range Dr nums (by rw [hnl]; decide) (by rw [hnl]; decide) na no _ _ (.head _) hnums c _ _ (room.le (by decide) (by decide)) (fun _ q => q) vals hv) ?_))))
  rintro pv O' N ⟨ra, ro, rfl, rfl, rfl, hro⟩
  have g := gram_rules nums
  have hR3 : ∀ u ∈ rulesF nums, u.length = 3 := by
    intro u hu
    obtain ⟨k, _, rfl⟩ := List.mem_map.mp hu
    rfl
  have hR6 : (rulesF nums).length = 6 := by unfold rulesF; simp
  generalize rulesF nums = R at hro g hR3 hR6
  simp only [List.set_cons_zero, List.set_cons_succ, List.nil_append]
  refine TG.freezeN ?_
  -- row
  refine ex_cons ?_
  refine asg_ H 4 ?_ ?_ ?_ ?_
  · rfl
  · simp
  rotate_left
  · rfl
  refine TV.drop (TV.dropN H.own ?_)
  refine ev_join (z := []) (ps := (nums.drop 6).map signF) (ev_eq ev_str (by rw [lit_e])) ?_ ?_
  rotate_left
  · have : ∀ ns : List Int, ((ns.map signF).map (·.length)).sum ≤ ns.length := by
      intro ns
      induction ns with
      | nil => simp
      | cons n r ih => have := (signF_ok n).1; simp only [List.map_cons, List.sum_cons, List.length_cons]; omega
    have := this (nums.drop 6)
    simp at this ⊢; omega
  · refine ev_comp (items := (nums.drop 6).map .int) (I0 := fun O1 N1 => True) (fun pv => match pv with | .int x => .s (signF x) | _ => .none) [] ⟨by decide, rfl, by decide, rfl⟩ ?_ ?_ ?_ (fun p hp => nomatch hp) (by show List.Nodup [Str.ofString "n"]; decide) ?_ ?_
    · refine it_list ?_
      refine TV.freezeOut ?_
      refine TV.mono (ev_listfrom 6 (v_ H 2 rfl rfl) ev_int (listAt_led (List.mem_append_right _ (by simp)) hnums) (map_le (Nat.le_of_eq hnl))) ?_
      rintro pv O1 N1 ⟨d, od, rfl, hd, rfl, rfl⟩
      refine ⟨[], [(d, od)], List.Perm.refl _, d, od, rfl, ?_, by simp, trivial⟩
      rw [List.map_drop]; exact hd
    · exact map_le (drop_le (Nat.le_of_eq hnl))
    · exact fun n hn => nomatch (show n ∈ ([] : List Str) from hn)
    · rintro O1 N1 _ pv hpv c' F2 Hc hs2
      obtain ⟨m, _, rfl⟩ := List.mem_map.mp hpv
      have hf := fifth_lt m
      refine ev_eq (clip_ (l := [34, 61, 88, 120]) (a := fifth m) (b := fifth m + 1) (ev_eq ev_str (by rw [lit_first])) (ev_eq (ev_fmod (nv_ Hc.nms 0 rfl rfl) ev_int (by decide)) (by rw [fifth_is])) (ev_eq (ev_add (ev_fmod (nv_ Hc.nms 0 rfl rfl) ev_int (by decide)) ev_int) (by rw [fifth_is]; push_cast; rfl)) (Nat.le_succ _) (Nat.le_of_lt_succ hf) (by decide)) ?_
      rw [Nat.add_sub_cancel_left]; rfl
    · rintro O1 N1 a o _ hlo
      refine ⟨a, o, rfl, by simp, ?_, [], List.nil_sublist _, ?_⟩
      · rw [List.map_map] at hlo ⊢; exact hlo
      obtain ⟨hrl, hrs⟩ := row_ok (nums.drop 6) (by rw [List.length_drop, hnl]; decide)
      generalize joinL [] ((nums.drop 6).map signF) = row at hrl hrs
      simp only [List.set_cons_zero, List.set_cons_succ, List.nil_append]
      -- told
      have hrow : ∀ {σ : Sto} {O F : Led} {p1 p2 p3 p4 : Pos}, σ[3]? = some (some (.ref ra)) → σ[4]? = some (some (.s row)) → (ra, ro) ∈ F →
          Ev c σ O F (.BinOp (.Name (Str.ofString "rules") p1) .Add (.List [.Name (Str.ofString "row") p2] p3) p4) fun pv O1 N1 => ∃ d od e oe, pv = .ref d ∧ O1 = (d, od) :: (e, oe) :: O ∧ N1 = [] ∧ ListO ((R ++ [row]).map PV.s) od := by
        intro σ O F p1 p2 p3 p4 h3 h4 hm
        refine ev_addlist (TV.mono (v_ H 3 rfl h3) ?_)
        rintro pv O1 N1 ⟨rfl, rfl, rfl⟩
        refine ev_list (xs := [row].map PV.s) (ta_pp (v_ H 4 rfl h4) ta_np) (by simp [sizeLine_eq]) ?_
        intro e oe he
        refine ⟨ra, ro, e, oe, _, _, rfl, rfl, by simp [hm], by simp, hro, he, by simp [hR6], ?_⟩
        intro d od hd
        exact ⟨d, od, e, oe, rfl, rfl, rfl, by rw [List.map_append]; exact hd⟩
      refine ex_cons ?_
      refine asg_zip 5 (xs := (R ++ [row]).map PV.s) (ys := nums.map .int) (I0 := fun O1 N1 => N1 = []) (fun p q => p) ?_ ?_ ?_ ?_ ?_ ?_ ?_ ?_ ?_ ?_ ?_ ?_ ?_ ?_ ?_ ?_ ?_ ?_ ?_
      · decide
      · rfl
      · decide
      · rfl
      · rfl
      · decide
      · rfl
      · exact LG.zip
      · exact H.glob rfl
      · exact H.name rfl
      · exact H.kind (i := 5) rfl
      · exact H.L
      · simp
      · refine ta_cons (TV.mono (hrow rfl rfl (by simp)) ?_)
        rintro pv O1 N1 ⟨d, od, e, oe, rfl, rfl, rfl, hd⟩
        exact ta_consp (v_ H 2 rfl rfl) (ta_nil ⟨d, na, od, no, rfl, by simp, hd, by simp, hnums, rfl⟩)
      · simp [hR6]
      · simp [hR6, hnl]
      · rintro O1 N1 rfl p q hp hq c' F2 Hc hs2
        obtain ⟨t, ht, rfl⟩ := List.mem_map.mp hp
        obtain ⟨m, _, rfl⟩ := List.mem_map.mp hq
        have htl : t.length ≤ 4 := by
          rcases List.mem_append.mp ht with h | h
          · rw [hR3 t h]; decide
          · have : t = row := by simpa using h
            rw [this]; exact hrl
        have hel := escS_len t
        have hbl : (behindF m).length ≤ 4 := by
          have := behindF_mem m
          simp only [behindL, List.mem_cons, List.not_mem_nil, or_false] at this
          rcases this with h | h | h <;> rw [h] <;> decide
        refine ev_eq (ncall_ Hc.nms Dp.ns Dp.keep rfl (ta_pp (ev_eq (ncall_ Hc.nms Dy.ns Dy.keep rfl (ta_pp (nv_ Hc.nms 0 rfl rfl) (ta_pp (nv_ Hc.nms 1 rfl rfl) ta_np)) (reply_fn Dy t m (Nat.le_trans htl (by decide))) ((Hc.room room).le (by decide) (by decide))) (b := .s ([50, 53, 55, 32, 34] ++ (escS t ++ [34] ++ behindF m))) ?_) ta_np) (parse_fn LG.lev.len Dp (escS t ++ [34] ++ behindF m) ?_) ((Hc.room room).le (by decide) (by decide))) ?_
        · unfold replyF pre5; simp only [List.append_assoc]
        · rw [List.length_append, List.length_append]; exact Nat.le_trans (Nat.add_le_add (Nat.add_le_add (Nat.le_trans hel (Nat.mul_le_mul_left 2 htl)) (Nat.le_refl 1)) hbl) (by decide)
        · rw [parse_reply]
      rotate_left
      · exact swaps_comp (by unfold Env.blockKind; rw [c.hek]; rfl) (H.kind (i := 5) rfl) rfl (by decide)
      rintro O1 N1 ta to rfl hto
      have hz : ∀ (xs ys : List PV), xs.length ≤ ys.length → List.zipWith (fun p q => p) xs ys = xs := by
        intro xs
        induction xs with
        | nil => intro ys _; rfl
        | cons x xs ih =>
          intro ys h
          cases ys with
          | nil => simp at h
          | cons y ys => rw [List.zipWith_cons_cons, ih ys (by simpa using h)]
      rw [hz _ _ (by simp [hR6, hnl])] at hto
      refine TG.dropO (O' := [(ta, to)]) (List.Sublist.cons_cons _ (List.nil_sublist _)) ?_
      simp only [List.set_cons_zero, List.set_cons_succ, List.nil_append]
      refine TG.freezeN ?_
      refine s_if (b := false) (ts_cmpG (v_ H 5 rfl rfl) (hrow rfl rfl (by simp)) ?_) (fun e => by cases e) fun _ => ?_
      · rintro vl vr pr O1 N1 il ir ⟨d, od, e, oe, rfl, rfl, rfl, hd⟩
        cases il; cases ir
        refine ⟨List.nil_sublist _, rfl, ?_⟩
        have := cm_ne_lists (c := c) (σ := [some (.ref l), some (.ref la), some (.ref na), some (.ref ra), some (.s row), some (.ref ta), none, none, none, none, none]) (O := [(d, od), (e, oe)]) (F := ((ta, to) :: (ra, ro) :: (na, no) :: F0)) (a := ta) (b := d) (listAt_led (o := to) (by simp) hto) (listAt_led (o := od) (by simp) hd) (room.le (by decide) (by decide))
        rw [show (R ++ [row] != R ++ [row]) = false from by simp] at this
        exact this
      -- the least price
      refine ex_cons ?_
      refine ex_unpack2 6 7 ?_ (H.name rfl) (H.kind (i := 6) rfl) (H.name rfl) (H.kind (i := 7) rfl) H.L (lt_of_blt rfl) (lt_of_blt rfl)
      refine ev_call Dm.ns Dm.keep (H.glob rfl) (ta_consp (v_ H 3 rfl rfl) (ta_consp (nchr_ Hn (n := 256) LG.chr rfl ev_int (by decide)) (ta_consp (v_ H 4 rfl rfl) (ta_cons (ev_dict_empty ?_)))))
      intro kd ko hkd hko
      refine ta_nil fun vals hv => TV.mono (least_all LG Dm R g row hrl hrs ra 3 3 (Nat.le_refl _) 256 row kd ko [] [] _ (by simp [Sy]) (by decide) ⟨0, 4, by decide, by decide, by rw [List.drop_zero, List.take_of_length_le hrl]⟩ hkd ⟨hko, fun p hp => (nomatch hp), fun s row v hv => by simp [valueAt] at hv⟩ ⟨ro, ?_, hro⟩ c _ _ (room.le (by decide) (by decide)) (fun _ q => q) vals hv) ?_
      · simp
      rintro pv O' N ⟨t, ko', kvs', rfl, rfl, hmm, t', ot, w, ow, price, nearest, e, hm1, hm2, hm3, hm4, hLo⟩
      cases e
      refine ⟨t, ot, _, _, rfl, hm2, List.mem_append_right _ ?_, ?_⟩
      · simpa using hm1
      refine TG.dropO (O' := []) (List.nil_sublist _) ?_
      simp only [List.set_cons_zero, List.set_cons_succ, List.nil_append, List.append_nil]
      have hwF : (w, ow) ∈ N ++ ((ta, to) :: (ra, ro) :: (na, no) :: F0) := by simpa using hm3
      have htoF : (ta, to) ∈ N ++ ((ta, to) :: (ra, ro) :: (na, no) :: F0) := by simp
      have hnear16 : nearest.length ≤ 16 := words_le16 g (.inr (.inl rfl)) hLo.nd fun x hx => ((hLo.mem x).mp hx).1
      obtain ⟨ts, hts1, hts2, hts3⟩ := words_exist g
      have hts16 : ts.length ≤ 16 := words_le16 g (.inr (.inl rfl)) hts2 fun x hx => (hts3 x).mp hx
      -- found
      refine ex_cons (asg_ H 8 rfl (lt_of_blt rfl) (ev_list (xs := [].map PV.s) ta_np (by decide) ?_))
      intro fd fo hfo
      simp only [List.set_cons_zero, List.set_cons_succ, List.nil_append]
      refine ex_cons (for_ H 9 (items := ts.map PV.s) rfl (fun k σ1 O1 N1 => ∃ (fo : Obj) (z9 z10 : Option PV), σ1 = [some (.ref l), some (.ref la), some (.ref na), some (.ref ra), some (.s row), some (.ref ta), some (.int price), some (.ref w), some (.ref fd), z9, z10] ∧
        O1 = [(fd, fo)] ∧ ListO (((ts.take k).filter fun x => D row x = price).map PV.s) fo) ?_ ?_ ?_ ?_)
      · rintro k σ1 O1 N1 ⟨fo, z9, z10, rfl, _⟩; simp
      · refine it_list (TV.freezeOut ?_)
        refine ev_call Dw.ns Dw.keep (H.glob rfl) (ta_cons (TV.freezeOut (TV.mono (ev_listupto 6 (v_ H 5 rfl rfl) ev_int (listAt_led (List.mem_append_right _ htoF) hto) (by simp [hR6])) ?_)))
        rintro pv O1 N1 ⟨d, od, rfl, hd, rfl, rfl⟩
        refine ⟨[(fd, fo)], [(d, od)], List.Perm.refl _, ?_⟩
        have hd' : ListO (R.map PV.s) od := by
          rw [← List.map_take, List.take_append_of_le_length (Nat.le_of_eq hR6.symm), List.take_of_length_le (Nat.le_of_eq hR6)] at hd; exact hd
        refine ta_nil fun vals hv => TV.mono (words_fn LG.chr LG.ord LG.sorted LG.eof Dw De.ns De.keep Dt.ns Dt.keep Dn.ns Dn.keep heof hterm hnon R g d od _ _ ?_ hd' c _ _ (room.le (by decide) (by decide)) (fun _ q => q) vals hv) ?_
        · simp
        rintro pv O' N2 ⟨a, o, ts', rfl, rfl, ho, hsT, hnd, _, hmem⟩
        have hts : ts' = ts := sorted_uniq hsT.pw hts1 hnd hts2 fun x => by rw [hmem x, DerS_iff g x, hts3 x]
        subst hts
        exact ⟨[(fd, fo)], [(a, o)], List.Perm.refl _, a, o, rfl, ho, by simp, fo, _, _, rfl, rfl, by simpa using hfo⟩
      · rintro k pv σ1 O1 N1 F2 hk ⟨fo, z9, z10, rfl, rfl, hfo⟩ hF2
        refine Ex.cut fun P1 hP1 => ?_
        have hkl : k < ts.length := by have := (List.getElem?_eq_some_iff.mp hk).1; simpa using this
        rw [List.getElem?_map, List.getElem?_eq_getElem hkl] at hk
        cases hk
        have htake : ts.take (k + 1) = ts.take k ++ [ts[k]] := List.take_succ_eq_append_getElem hkl
        have hwd : DerW R 256 ts[k] := (hts3 _).mp (List.getElem_mem hkl)
        generalize ts[k] = x at htake hwd ⊢
        have hto2 : (ta, to) ∈ F2 := hF2 _ (List.mem_append_right _ htoF)
        obtain ⟨hp1, hp2⟩ := lev_price hLo hwd
        have hxl : x.length ≤ 9 := hwd.len g
        dsimp only [List.set_cons_zero, List.set_cons_succ]
        refine s_asg H 10 rfl (lt_of_blt rfl) (callp_ H Dl.ns Dl.keep rfl (ta_pp (ev_listitem (i := 6) (pv := .s row) (v_ H 5 rfl rfl) ev_int (List.mem_append_right _ hto2) hto ?_ (by simp [hR6])) (ta_pp (v_ H 9 rfl rfl) (ta_pp (v_ H 6 rfl rfl) ta_np))) (hlev row x price (Nat.le_trans hrl (by decide)) (Nat.le_trans hxl (by decide))) (room.le (by decide) (by decide))) ?_
        · rw [List.getElem?_map, List.getElem?_append_right (Nat.le_of_eq hR6), hR6]; rfl
        dsimp only [List.set_cons_zero, List.set_cons_succ]
        refine s_if (b := false) (ts_eq (ts_cmpp (v_ H 10 rfl rfl) (v_ H 6 rfl rfl) (.ltI _ _)) (by simpa using hp1)) (fun e => by cases e) fun _ => ?_
        refine ex_cons (ex_if (b := (levF row x price == price)) (ts_cmpp (v_ H 10 rfl rfl) (v_ H 6 rfl rfl) (.eqI _ _)) (fun e => ?_) (fun e => ?_))
        · have hD : D row x = price := hp2.mp (eq_of_beq e)
          refine ex_cons (ex_expr (ev_append (pv := .s x) (v_ H 8 rfl rfl) (v_ H 9 rfl rfl) hfo ?_ ?_) (by unfold interactive; rw [c.hek]; rfl))
          · have h1 := List.length_filter_le (fun x => decide (D row x = price)) (ts.take k)
            exact map_le (Nat.le_trans h1 (take_le hts16))
          · intro fo' hfo'
            refine ex_nil (ex_nil (hP1 _ _ _ _ ⟨fo', _, _, rfl, rfl, ?_⟩))
            rw [htake, List.filter_append, List.map_append]
            simpa [hD] using hfo'
        · have hD : ¬ D row x = price := fun q => by have := hp2.mpr q; rw [this] at e; simp at e
          refine ex_nil (ex_nil (hP1 _ _ _ _ ⟨fo, _, _, rfl, rfl, ?_⟩))
          rw [htake, List.filter_append]
          simpa [hD] using hfo
      · rintro σ1 O1 N1 ⟨fo, z9, z10, rfl, rfl, hfo⟩
        rw [List.length_map, List.take_length] at hfo
        refine ex_cons (ex_ret (TV.mono (ev_cmpG (b := true) (R1 := fun pv O1 N1 => ∃ d od ss, pv = .ref d ∧ ListO (ss.map PV.s) od ∧ ss.Perm nearest ∧ SortedT ss ∧ O1 = [(d, od), (fd, fo)] ∧ N1 = []) (v_ H 8 rfl rfl) (ev_bcall LG.sorted (by boot_fast) (H.glob rfl) (ta_consp (v_ H 7 rfl rfl) (ta_nil fun vals hv => ?_))) ?_) ?_))
        · obtain ⟨v, rfl, iv⟩ := hv.one
          cases iv
          refine TV.mono (bi_sorted (listAt_led (o := ow) (List.mem_append_right _ (by simp [hwF])) hm4) (Nat.lt_of_le_of_lt hnear16 (by decide))) ?_
          rintro pv O' N2 ⟨d, od, ss, rfl, hd, hp, hs, rfl, rfl⟩
          exact ⟨d, od, ss, rfl, hd, hp, hs, rfl, by simp⟩
        · rintro vl vr pr O2 N2 il ir ⟨d, od, ss, rfl, hd, hp, hs, rfl, rfl⟩
          cases il; cases ir
          refine ⟨List.Sublist.cons _ (List.Sublist.refl _), rfl, ?_⟩
          have he := found_is' hLo hts3 hts1 hts2 hs hp
          have := cm_eq_lists (c := c) (σ := [some (.ref l), some (.ref la), some (.ref na), some (.ref ra), some (.s row), some (.ref ta), some (.int price), some (.ref w), some (.ref fd), z9, z10]) (O := [(d, od), (fd, fo)]) (F := N1 ++ (N ++ ((ta, to) :: (ra, ro) :: (na, no) :: F0))) (a := fd) (b := d) (listAt_led (o := fo) (by simp) hfo) (listAt_led (o := od) (by simp) hd) (room.le (by decide) (by decide))
          rw [he, show (ss == ss) = true from by simp] at this
          exact this
        · rintro pv O' N2 ⟨rfl, rfl, rfl⟩
          rfl
end Mine
end
section
open PySem PySem.W PyProof.Rows PySem.Calls
set_option Elab.async false
set_option maxRecDepth 100000
set_option maxHeartbeats 8000000
namespace Mine
open_top hd1 for PySem.Challenge.rw_ti0002_01
end Mine
end
section
open PySem PySem.W PyProof.Rows PySem.Calls
set_option Elab.async false
set_option maxRecDepth 100000
set_option maxHeartbeats 8000000
set_option pp.deepTerms false
set_option pp.deepTerms.threshold 4
set_option pp.maxSteps 3000
namespace Mine
theorem enter_law {prog : Program} {w : World} {K : Frag} {p : Program} {loose : List Str} {mean : ExcName → Option Value} {mg mb : Str → Option Value} {s₁ : Shared} {h₁ : Heap} {name : Str} {scope : Scope} {fa : Addr} {cd : Value} (hk : scope.kind = .function)
    (X : K.In s₁.heap) (T : Top p loose mean mg mb s₁.heap) (B : Below callerA s₁.heap [] s₁.heap) {l : Addr} {x0 : Str} (F : Fr s₁.heap s₁.heap.objs.size h₁ fun x => [(x0, Value.ref l)].reverse.lookup x)
    {tk : Nat} (htk : 0 < tk) {names : List Str} (hnd : names.Nodup) (hloc : ∀ x ∈ names, scope.names.lookup x = some .local) {n : Nat} (hnames : names[0]? = some x0) {body : List Stmt}
    (hex : ∀ c : Act ⟨prog, w, K, p, loose, mean, mg, mb⟩, Loc c names scope → Room c 100 1000 → c.h0 = s₁.heap → Ex c (some (.ref l) :: List.replicate n none) [] [] body fun pf σ' O' N => pf = .ret (.bool true))
    {Q : Flow → Shared → Prop} {E : Value → Shared → Prop} {s : Shared} (hQ : ∀ h tk L m, Fr s₁.heap L h m → Q (.ret (.bool true)) (upd s h tk)) :
    wpAny (model prog w) (callerA.deeper (envOf name scope s₁.heap.objs.size fa cd)) (execs body (envOf name scope s₁.heap.objs.size fa cd)) Q E (upd s h₁ tk) := by
  let G : GC := ⟨prog, w, K, p, loose, mean, mg, mb⟩
  let env := envOf name scope s₁.heap.objs.size fa cd
  let c : Act G := { A := callerA.deeper env, fenv := env, env := env, L := s₁.heap.objs.size, h0 := s₁.heap, A0 := callerA, base := s₁.heap, outer := [], names := names, cells := [], B := B, X := X, T := T,
                     hA := rfl, hf := rfl, hk := hk, hek := hk, hhan := rfl, hglob := rfl, hbi := rfl, hnd := hnd }
  have H : Loc c names scope := ⟨rfl, rfl, rfl, hloc, ⟨rfl, fun x a h => by cases h⟩⟩
  have room : Room c 100 1000 := ⟨by show callerA.depth + 1 + 100 < _; decide, by show callerA.units + 3 + 1000 < _; decide⟩
  have S : St c (some (.ref l) :: List.replicate n none) [] [] (upd s h₁ tk) := by
    refine ⟨⟨_, [], F, fun p hp => by simp at hp, rfl, ?_⟩, List.nodup_nil, htk, ⟨fun q => (q rfl).elim, fun a ha => nomatch ha⟩⟩
    intro i x pv hx hv
    cases i with
    | zero =>
      rw [show c.names[0]? = names[0]? from rfl, hnames] at hx
      cases hx; cases hv
      exact ⟨_, rfl, .loc (H.kind (i := 0) hnames) rfl (by simp)⟩
    | succ i =>
      exfalso
      simp only [List.getElem?_cons_succ, List.getElem?_replicate] at hv
      split at hv <;> cases hv
  refine wpAny_mono (hex c H room rfl _ (fun fl s' => Q fl s') S ?_) (fun _ _ h => h) fun _ _ h => False.elim h
  rintro fl σ' O' N h tk' ⟨pf, rfl, v, rfl, iv⟩ S' ht
  cases iv
  obtain ⟨⟨mf, C, h1, _⟩, _⟩ := S'
  exact hQ h tk' _ mf h1
end Mine
open Mine
theorem PySem.Challenge.cw_ti0002_01_holds : PySem.Challenge.rw_ti0002_01.Holds := by
  exact hd1 (by
  k_go0
  rename Top _ _ _ _ _ _ => T
  rename Below _ _ _ _ => B
  rename Frag.In _ _ => X
  rename Fr _ _ _ _ => F
  rename News _ _ _ _ => N
  rename Heap.IsList _ _ _ => hL
  rename IntsAre _ _ => hI
  rename (_ = #[]) => hg
  rename ¬ _ => hlen
  refine enter_law rfl X T B F (Nat.succ_pos _) (names := lawNames) (by decide) (by decide) (n := 10) rfl ?_ ?_
  · intro c H room h0
    refine law_walk ?_ c H room _ _ _ (h0 ▸ hL) hI (by omega)
    refine ⟨⟨by (dsimp only; k_is), by (dsimp only; k_is), by (dsimp only; k_is), by (dsimp only; k_is), ⟨_, by (dsimp only; k_is)⟩, ⟨_, by (dsimp only; k_is)⟩, ⟨_, by (dsimp only; k_is)⟩⟩, by (dsimp only; k_is), by (dsimp only; k_is), by (dsimp only; k_is), by (dsimp only; k_is), ⟨_, by (dsimp only; k_is)⟩, ⟨_, by (dsimp only; k_is)⟩, ?_, ?_, ?_, ?_, ?_, ?_, ?_, ?_, ?_, ?_⟩
    all_goals exact ⟨_, by (dsimp only; k_is), by (dsimp only; k_is), ⟨_, _, _, _, _, _, _, _, _, _, by (dsimp only; k_is), by (dsimp only; k_is)⟩⟩
  · intro h tk L m F2
    wrow_close)
end
