import PyProof.Rows.All
import Wide.All
import OpenK.AllK
import Wide.FinOn
import PySem.Challenge.RW_wk0002_01
set_option Elab.async false

section
open PySem PySem.W PyProof.Rows
set_option maxRecDepth 100000
set_option maxHeartbeats 8000000
namespace Mine
open_top hd for PySem.Challenge.rw_wk0002_01
end Mine
end

section
open PySem PySem.W PyProof.Rows PySem.Calls PySem.Spec
set_option maxRecDepth 100000
namespace Mine
/-- a contract of a def: from any caller's frame; what stood stays -/
abbrev Ct (w : World) (mean : ExcName → Option Value) (mg mb : Str → Option Value) (f : Addr) (vs : List Value) (dn u : Nat) (pre : Heap → Prop) (post : Value → Heap → Prop) : Prop :=
  ∀ (dp un : Nat) (gd : Option (List Code)) (cn : Str) (cs : Scope) (a : Addr) (ccd : Value) (cl : List (Str × Addr)) (outer : List Env) (A₀ : Around) (base h₀ : Heap) (L : Addr) (m : Str → Option Value) (s : Shared) (Q E : Value → Shared → Prop),
    Below A₀ base outer h₀ → Fr h₀ L s.heap m → (hd.heap_39 w.params).In h₀ → Top hd.view_39 (looseW hd.view_39 [Str.ofString "_twin_re_1", Str.ofString "_twin_re_2"]) mean mg mb h₀ → cs.kind = .function →
    pre s.heap → dp + dn < recursionLimit → un + u < cLine → (∀ v h' tk', (∀ b o, s.heap.get? b = some o → h'.get? b = some o) → post v h' → Q v { s with heap := h', toks := tk' }) →
      wpAny (model PySem.Challenge.rw_wk0002_01.row.prog w) (ktrTop dp un gd cn cs L a ccd cl outer) (call (.ref f) vs) Q E s
/-- the same for a def that makes generators -/
abbrev CtG (w : World) (mean : ExcName → Option Value) (mg mb : Str → Option Value) (f : Addr) (vs : List Value) (dn u : Nat) (pre : Heap → Prop) (post : Value → Heap → Prop) : Prop :=
  ∀ (dp un : Nat) (gd : Option (List Code)) (cn : Str) (cs : Scope) (a : Addr) (ccd : Value) (cl : List (Str × Addr)) (outer : List Env) (A₀ : Around) (base h₀ : Heap) (L : Addr) (m : Str → Option Value) (s : Shared) (Q E : Value → Shared → Prop),
    Below A₀ base outer h₀ → Fr h₀ L s.heap m → (hd.heap_39 w.params).In h₀ → Top hd.view_39 (looseW hd.view_39 [Str.ofString "_twin_re_1", Str.ofString "_twin_re_2"]) mean mg mb h₀ → cs.kind = .function →
    pre s.heap → dp + dn < recursionLimit → un + u < cLine → AllBare s.gens → (∀ v h' tk' G, AllBare G → (∀ b o, s.heap.get? b = some o → h'.get? b = some o) → post v h' → Q v { s with heap := h', toks := tk', gens := G }) →
      wpAny (model PySem.Challenge.rw_wk0002_01.row.prog w) (ktrTop dp un gd cn cs L a ccd cl outer) (call (.ref f) vs) Q E s
def StopAt (P : Prop) : Prop := P
theorem stop_out {P : Prop} (h : StopAt P) : P := h
theorem stop_in {P : Prop} (h : P) : StopAt P := h

section
variable {prog : Program} {w : World} {A₀ A : Around} {s : Shared} {base h₀ : Heap} {outer : List Env} {L : Addr} {m : Str → Option Value} {env : Env} {K : Frag} {p : Program} {loose : List Str} {mean : ExcName → Option Value} {mg mb : Str → Option Value}
  {R : Result → Shared → Prop} {name qual : Str} {params : Arguments} {body : List Stmt} {scope : Scope} {dV kV doc pm cdv ct oc : Value} {an od : Option Addr} {osl : Array (Option Value)} {f : Addr} {args : Args} {binds : List (Str × Value)}
theorem enter_def (B : Below A₀ base outer h₀) (F : Fr h₀ L s.heap m) (X₀ : K.In h₀) (T : Top p loose mean mg mb h₀) (hA : A.frames = some (env :: outer)) (hf : env.frame = some L) (hke : env.scope.kind = .function)
    (ho : K.lookup f = some ⟨oc, od, .func (fnOf name qual params body scope dV kV doc pm an cdv ct), osl⟩) (hcd : codeIn K cdv qual = true) (hroom : A.depth < recursionLimit)
    (hbind : BindsTo s (fnOf name qual params body scope dV kV doc pm an cdv ct) args binds) (hloc : ∀ y ∈ binds, scope.names.lookup y.1 = some .local)
    (h : ∀ L' h₁, Fr s.heap L' h₁ (fun y => binds.reverse.lookup y) → News s.heap L' h₁ [] → Below A base (env :: outer) s.heap → K.In s.heap → Top p loose mean mg mb s.heap →
      wpAny (model prog w) (A.deeper (envOf qual scope L' f cdv)) (execs body (envOf qual scope L' f cdv))
        (fun fl s' => R (.ok (.ret (match fl with | .ret v => v | _ => .none))) s')
        (fun e s' => wpAny (model prog w) (A.deeper (envOf qual scope L' f cdv)) (leaving (envOf qual scope L' f cdv) e) (fun _ s'' => R (.error e) s'') (fun e' s'' => R (.error e') s'') s')
        { s with heap := h₁, toks := s.toks + binds.length })
    (hco : scope.isCoroutine = false) (hgen : scope.isGenerator = false) (hk : scope.kind = .function)
    (hcell : ∀ x ∈ scope.names, x.2 ≠ .cell) : codeAny (model prog w) A (.call (.ref f) args) R s := by
  have X := X₀.keeps F.keep
  have T' := T.keeps F.keep
  have B₁ := pushX B F hf hke
  refine codeAny_call_def (fd := fnOf name qual params body scope dV kV doc pm an cdv ct) (body := body) (binds := binds) hroom (X _ _ ho) rfl T'.nolimit (codeRec_of X hcd) rfl hbind hcell hloc (fun h₁ hns hk₁ => ?_) hco hgen hk
  exact h s.heap.objs.size h₁ ⟨hns, hk₁, Nat.le_refl _⟩ News.nil ⟨hA, B₁.stays, B₁.frames⟩ X T'
end
end Mine
end

section
open PySem
namespace Mine
theorem exE6 {A0 : Sort u0} {A1 : Sort u1} {A2 : Sort u2} {A3 : Sort u3} {A4 : Sort u4} {A5 : Sort u5} {P : A0 → A1 → A2 → A3 → A4 → A5 → Prop} {G : Prop} (h : ∃ a0 a1 a2 a3 a4 a5, P a0 a1 a2 a3 a4 a5) (k : ∀ a0 a1 a2 a3 a4 a5, P a0 a1 a2 a3 a4 a5 → G) : G := by
  obtain ⟨a0, a1, a2, a3, a4, a5, h⟩ := h
  exact k _ _ _ _ _ _ h
theorem exI6 {A0 : Sort u0} {A1 : Sort u1} {A2 : Sort u2} {A3 : Sort u3} {A4 : Sort u4} {A5 : Sort u5} {P : A0 → A1 → A2 → A3 → A4 → A5 → Prop} (a0 : A0) (a1 : A1) (a2 : A2) (a3 : A3) (a4 : A4) (a5 : A5) (h : P a0 a1 a2 a3 a4 a5) : ∃ a0 a1 a2 a3 a4 a5, P a0 a1 a2 a3 a4 a5 := ⟨a0, a1, a2, a3, a4, a5, h⟩
theorem exE8 {A0 : Sort u0} {A1 : Sort u1} {A2 : Sort u2} {A3 : Sort u3} {A4 : Sort u4} {A5 : Sort u5} {A6 : Sort u6} {A7 : Sort u7} {P : A0 → A1 → A2 → A3 → A4 → A5 → A6 → A7 → Prop} {G : Prop} (h : ∃ a0 a1 a2 a3 a4 a5 a6 a7, P a0 a1 a2 a3 a4 a5 a6 a7) (k : ∀ a0 a1 a2 a3 a4 a5 a6 a7, P a0 a1 a2 a3 a4 a5 a6 a7 → G) : G := by
  obtain ⟨a0, a1, a2, a3, a4, a5, a6, a7, h⟩ := h
  exact k _ _ _ _ _ _ _ _ h
theorem exI8 {A0 : Sort u0} {A1 : Sort u1} {A2 : Sort u2} {A3 : Sort u3} {A4 : Sort u4} {A5 : Sort u5} {A6 : Sort u6} {A7 : Sort u7} {P : A0 → A1 → A2 → A3 → A4 → A5 → A6 → A7 → Prop} (a0 : A0) (a1 : A1) (a2 : A2) (a3 : A3) (a4 : A4) (a5 : A5) (a6 : A6) (a7 : A7) (h : P a0 a1 a2 a3 a4 a5 a6 a7) : ∃ a0 a1 a2 a3 a4 a5 a6 a7, P a0 a1 a2 a3 a4 a5 a6 a7 := ⟨a0, a1, a2, a3, a4, a5, a6, a7, h⟩
theorem exE9 {A0 : Sort u0} {A1 : Sort u1} {A2 : Sort u2} {A3 : Sort u3} {A4 : Sort u4} {A5 : Sort u5} {A6 : Sort u6} {A7 : Sort u7} {A8 : Sort u8} {P : A0 → A1 → A2 → A3 → A4 → A5 → A6 → A7 → A8 → Prop} {G : Prop} (h : ∃ a0 a1 a2 a3 a4 a5 a6 a7 a8, P a0 a1 a2 a3 a4 a5 a6 a7 a8) (k : ∀ a0 a1 a2 a3 a4 a5 a6 a7 a8, P a0 a1 a2 a3 a4 a5 a6 a7 a8 → G) : G := by
  obtain ⟨a0, a1, a2, a3, a4, a5, a6, a7, a8, h⟩ := h
  exact k _ _ _ _ _ _ _ _ _ h
theorem exI9 {A0 : Sort u0} {A1 : Sort u1} {A2 : Sort u2} {A3 : Sort u3} {A4 : Sort u4} {A5 : Sort u5} {A6 : Sort u6} {A7 : Sort u7} {A8 : Sort u8} {P : A0 → A1 → A2 → A3 → A4 → A5 → A6 → A7 → A8 → Prop} (a0 : A0) (a1 : A1) (a2 : A2) (a3 : A3) (a4 : A4) (a5 : A5) (a6 : A6) (a7 : A7) (a8 : A8) (h : P a0 a1 a2 a3 a4 a5 a6 a7 a8) : ∃ a0 a1 a2 a3 a4 a5 a6 a7 a8, P a0 a1 a2 a3 a4 a5 a6 a7 a8 := ⟨a0, a1, a2, a3, a4, a5, a6, a7, a8, h⟩
theorem anE9 {c0 c1 c2 c3 c4 c5 c6 c7 c8 G : Prop} (h : c0 ∧ c1 ∧ c2 ∧ c3 ∧ c4 ∧ c5 ∧ c6 ∧ c7 ∧ c8) (k : c0 → c1 → c2 → c3 → c4 → c5 → c6 → c7 → c8 → G) : G := by
  obtain ⟨h0, h1, h2, h3, h4, h5, h6, h7, h8⟩ := h
  exact k h0 h1 h2 h3 h4 h5 h6 h7 h8
theorem anI9 {c0 c1 c2 c3 c4 c5 c6 c7 c8 : Prop} (h0 : c0) (h1 : c1) (h2 : c2) (h3 : c3) (h4 : c4) (h5 : c5) (h6 : c6) (h7 : c7) (h8 : c8) : c0 ∧ c1 ∧ c2 ∧ c3 ∧ c4 ∧ c5 ∧ c6 ∧ c7 ∧ c8 := ⟨h0, h1, h2, h3, h4, h5, h6, h7, h8⟩
theorem anE11 {c0 c1 c2 c3 c4 c5 c6 c7 c8 c9 c10 G : Prop} (h : c0 ∧ c1 ∧ c2 ∧ c3 ∧ c4 ∧ c5 ∧ c6 ∧ c7 ∧ c8 ∧ c9 ∧ c10) (k : c0 → c1 → c2 → c3 → c4 → c5 → c6 → c7 → c8 → c9 → c10 → G) : G := by
  obtain ⟨h0, h1, h2, h3, h4, h5, h6, h7, h8, h9, h10⟩ := h
  exact k h0 h1 h2 h3 h4 h5 h6 h7 h8 h9 h10
theorem anI11 {c0 c1 c2 c3 c4 c5 c6 c7 c8 c9 c10 : Prop} (h0 : c0) (h1 : c1) (h2 : c2) (h3 : c3) (h4 : c4) (h5 : c5) (h6 : c6) (h7 : c7) (h8 : c8) (h9 : c9) (h10 : c10) : c0 ∧ c1 ∧ c2 ∧ c3 ∧ c4 ∧ c5 ∧ c6 ∧ c7 ∧ c8 ∧ c9 ∧ c10 := ⟨h0, h1, h2, h3, h4, h5, h6, h7, h8, h9, h10⟩
theorem anE15 {c0 c1 c2 c3 c4 c5 c6 c7 c8 c9 c10 c11 c12 c13 c14 G : Prop} (h : c0 ∧ c1 ∧ c2 ∧ c3 ∧ c4 ∧ c5 ∧ c6 ∧ c7 ∧ c8 ∧ c9 ∧ c10 ∧ c11 ∧ c12 ∧ c13 ∧ c14) (k : c0 → c1 → c2 → c3 → c4 → c5 → c6 → c7 → c8 → c9 → c10 → c11 → c12 → c13 → c14 → G) : G := by
  obtain ⟨h0, h1, h2, h3, h4, h5, h6, h7, h8, h9, h10, h11, h12, h13, h14⟩ := h
  exact k h0 h1 h2 h3 h4 h5 h6 h7 h8 h9 h10 h11 h12 h13 h14
theorem anI15 {c0 c1 c2 c3 c4 c5 c6 c7 c8 c9 c10 c11 c12 c13 c14 : Prop} (h0 : c0) (h1 : c1) (h2 : c2) (h3 : c3) (h4 : c4) (h5 : c5) (h6 : c6) (h7 : c7) (h8 : c8) (h9 : c9) (h10 : c10) (h11 : c11) (h12 : c12) (h13 : c13) (h14 : c14) : c0 ∧ c1 ∧ c2 ∧ c3 ∧ c4 ∧ c5 ∧ c6 ∧ c7 ∧ c8 ∧ c9 ∧ c10 ∧ c11 ∧ c12 ∧ c13 ∧ c14 := ⟨h0, h1, h2, h3, h4, h5, h6, h7, h8, h9, h10, h11, h12, h13, h14⟩
end Mine
end

section
open PySem PySem.W PyProof.Rows PySem.Calls PySem.Spec
set_option linter.unusedVariables false
set_option maxRecDepth 100000
namespace Mine
open Sem (wp)
section
variable {M : Model} {A : Around} {R : GenEnd} {Y : Protocol} {n : Nat} {s₀ : Shared} {c : Code} {fs : List Frame} {s : Shared} {env : Env}
  {K : Flow → Sem PySem.Fin} {H : Value → Sem PySem.Fin} {gd : Bool → Bool} {lv : List Value → List Value}
/-- a piece without a yield or a raise -/
theorem sg_piece {α : Type} {m : Sem α} {K : α → Sem PySem.Fin} (h : wpAny M (A.over c fs) m (fun a s' => Seg M A R Y n s₀ c (K a) fs s') (fun _ _ => False) s) :
    Seg M A R Y n s₀ c (m.wrap K H gd lv) fs s := seg_wrap (wpAny_mono h (fun _ _ x => x) fun _ _ x => x.elim)
theorem sg_bind {α β : Type} {m : Sem α} {f : α → Sem β} {K : β → Sem PySem.Fin} (h : wpAny M (A.over c fs) m (fun a s' => Seg M A R Y n s₀ c ((f a).wrap K H gd lv) fs s') (fun _ _ => False) s) :
    Seg M A R Y n s₀ c ((m >>= f).wrap K H gd lv) fs s := seg_bind_wrap (wpAny_mono h (fun _ _ x => x) fun _ _ x => x.elim)
theorem sg_runOwn {c' : Code} (hgd : gd false = false)
    (h : ∀ (p : Pos) (k : Result → Sem PySem.Fin) (l : List Value), (∀ fl, k (.ok fl) = K fl) → Seg M A R Y n s₀ c' (M.den c') (.ret k none false l c p [] :: fs) s) :
    Seg M A R Y n s₀ c ((runOwn c' env).wrap K H gd lv) fs s := by
  refine seg_call fun p => ?_
  rw [hgd]
  exact h p _ _ fun fl => rfl
theorem sg_For {target iter body pos} (hgd : gd false = false)
    (h : wpAny M (A.over c fs) (eval iter env) (fun xv s₁ => wpAny M (A.over c fs) (pyIter xv) (fun it s₂ =>
      ∀ (p : Pos) (k : Result → Sem PySem.Fin) (l : List Value), (∀ fl, k (.ok fl) = K fl) → Seg M A R Y n s₀ (.forLoop target it body [] env) (M.den (.forLoop target it body [] env)) (.ret k none false l c p [] :: fs) s₂) (fun _ _ => False) s₁) (fun _ _ => False) s)
    (hs : ∀ x, foldedSetIterable iter env x = pure x := by intro _; rfl) :
    Seg M A R Y n s₀ c ((exec (.For target iter body [] pos) env).wrap K H gd lv) fs s := by
  rw [exec_For]
  refine sg_bind (wpAny_standAt (sg_bind (wpAny_mono h (fun xv s₁ h₁ => sg_bind (wpAny_of_eq (hs xv) (sg_bind (wpAny_standAt (sg_bind (wpAny_holding (wpAny_mono h₁ (fun it s₂ h₂ => ?_) fun _ _ x => x))))))) fun _ _ x => x)))
  exact sg_runOwn hgd h₂
theorem sg_If {test body orelse pos}
    (h : wpAny M (A.over c fs) (isTrue test env (eval test env)) (fun b s₁ => if b = true then Seg M A R Y n s₀ c ((execs body env).wrap K H gd lv) fs s₁ else Seg M A R Y n s₀ c ((execs orelse env).wrap K H gd lv) fs s₁) (fun _ _ => False) s) :
    Seg M A R Y n s₀ c ((exec (.If test body orelse pos) env).wrap K H gd lv) fs s := by
  rw [exec_If]
  refine sg_bind (wpAny_standAt (sg_bind (wpAny_mono h (fun b s₁ h₁ => ?_) fun _ _ x => x)))
  cases b
  · simpa using h₁
  · simpa using h₁
end
section
variable {prog : Program} {w : World} {A : Around} {R : GenEnd} {Y : Protocol} {n : Nat} {s₀ : Shared} {fs : List Frame} {s : Shared} {env : Env}
abbrev forK (target : Expr) (it : Value) (body : List Stmt) (env : Env) : Flow → Sem PySem.Fin := fun f => match f with
  | .next | .cont => .pure (.again (.forLoop target it body [] env))
  | .brk => .pure (.done .next)
  | .ret v => .pure (.done (.ret v))
theorem sg_forLoop {target it body} (ht : ∀ v, letOwnedTupleGo target it v = pure ())
    (h : wpAny (model prog w) (A.over (.forLoop target it body [] env) fs) (pyNext it) (fun r s₁ => match r with
      | none => Seg (model prog w) A R Y n s₀ (.block [] env) ((model prog w).den (.block [] env)) fs s₁
      | some v => wpAny (model prog w) (A.over (.forLoop target it body [] env) fs) (assign target env v) (fun _ s₂ =>
          ∀ H, Seg (model prog w) A R Y n s₀ (.forLoop target it body [] env) ((execs body env).wrap (forK target it body env) H id id) fs s₂) (fun _ _ => False) s₁) (fun _ _ => False) s) :
    Seg (model prog w) A R Y n s₀ (.forLoop target it body [] env) ((model prog w).den (.forLoop target it body [] env)) fs s := by
  show Seg _ A R Y n s₀ _ ((forTurn target it body [] env).onRaise (fun x => do noteFrame x env; theTreesLotGoes x)) fs s
  unfold forTurn
  rw [Sem.onRaise_eq_wrap]
  refine sg_bind (wpAny_standAt (sg_bind (wpAny_onRaise (wpAny_mono h (fun r s₁ h₁ => ?_) fun _ _ x => x.elim))))
  cases r with
  | none => exact seg_again rfl h₁
  | some v =>
    refine sg_bind (wpAny_of_eq (ht v) (sg_bind (wpAny_mono h₁ (fun _ s₂ h₂ => ?_) fun _ _ x => x)))
    rw [Sem.bind_eq_wrap', Sem.wrap_wrap]
    rw [Sem.wrap_congr (execs body env) _ _ (K' := forK target it body env) (fun f => by cases f <;> rfl) (fun e => rfl)]
    exact h₂ _
theorem sg_block (h : ∀ (r : Result), r = .ok .next → Seg (model prog w) A R Y n s₀ (.block [] env) (leafOf r) fs s) : Seg (model prog w) A R Y n s₀ (.block [] env) ((model prog w).den (.block [] env)) fs s := h _ rfl
end
end Mine
end

section
open PySem PySem.W PyProof.Rows PySem.Calls PySem.Spec
set_option linter.unusedVariables false
set_option maxRecDepth 100000
namespace Mine
open Sem (wp)
/-- what the pieces of the generator's body do, whatever stands around -/
structure Pcs (prog : Program) (w : World) (env : Env) (mg : Str → Option Value) (x y g : Str) (S0 : Stmt) (itE : Expr) (t1 t2 t3 tw ey e1 : Expr) (b1 : List Stmt) (S4 : Stmt) : Prop where
  loc : env.locals ≠ mainGlobals
  ht1 : ∀ (A : Around) (s : Shared) (m : Str → Option Value) (i : Int) (t : Tok) (Q : Bool → Shared → Prop), s.heap.Ns env.locals m → s.heap.Ns mainGlobals mg → m x = some (.int i t) → Q (i == 127) s → wpAny (model prog w) A (isTrue t1 env (eval t1 env)) Q (fun _ _ => False) s
  hb1 : ∀ (A : Around) (s : Shared) (Q : Flow → Shared → Prop), Q (.ret .none) s → wpAny (model prog w) A (execs b1 env) Q (fun _ _ => False) s
  ht2 : ∀ (A : Around) (s : Shared) (m : Str → Option Value) (i : Int) (t : Tok) (Q : Bool → Shared → Prop), s.heap.Ns env.locals m → m x = some (.int i t) → (∀ tk, Q (i == 0) { s with toks := tk }) → wpAny (model prog w) A (isTrue t2 env (eval t2 env)) Q (fun _ _ => False) s
  he1 : ∀ (A : Around) (s : Shared) (m : Str → Option Value) (v : Value) (Q : Value → Shared → Prop), s.heap.Ns env.locals m → m x = some v → Q v s → wpAny (model prog w) A (eval e1 env) Q (fun _ _ => False) s
  hS4 : ∀ (A : Around) (s : Shared) (m : Str → Option Value) (v : Value) (Q : Flow → Shared → Prop), s.heap.Ns env.locals m → m x = some v →
    (∀ h', h'.Ns env.locals (fun z => if z = y then some v else m z) → Heap.SameBut env.locals s.heap h' → Q .next { s with heap := h', toks := s.toks + 1 }) → wpAny (model prog w) A (exec S4 env) Q (fun _ _ => False) s
  hS0 : ∀ (A : Around) (s : Shared) (m : Str → Option Value) (Q : Flow → Shared → Prop), s.heap.Ns env.locals m →
    (∀ h', h'.Ns env.locals (fun z => if z = y then some .none else m z) → Heap.SameBut env.locals s.heap h' → Q .next { s with heap := h', toks := s.toks + 1 }) → wpAny (model prog w) A (exec S0 env) Q (fun _ _ => False) s
  hit : ∀ (A : Around) (s : Shared) (m : Str → Option Value) (v : Value) (Q : Value → Shared → Prop), s.heap.Ns env.locals m → m g = some v → Q v s → wpAny (model prog w) A (eval itE env) Q (fun _ _ => False) s
  hset : ∀ xv, foldedSetIterable itE env xv = pure xv
  hgy : g ≠ y
  ht3 : ∀ (A : Around) (s : Shared) (m : Str → Option Value) (i : Int) (t : Tok) (Q : Bool → Shared → Prop), s.heap.Ns env.locals m → m y = some (.int i t) → Q false s → wpAny (model prog w) A (isTrue t3 env (eval t3 env)) Q (fun _ _ => False) s
  htw : ∀ (A : Around) (s : Shared) (Q : Bool → Shared → Prop), Q true s → wpAny (model prog w) A (isTrue tw env (eval tw env)) Q (fun _ _ => False) s
  hey : ∀ (A : Around) (s : Shared) (m : Str → Option Value) (v : Value) (Q : Value → Shared → Prop), s.heap.Ns env.locals m → m y = some v → Q v s → wpAny (model prog w) A (eval ey env) Q (fun _ _ => False) s
  hx : env.kindOf x = some .local
  hp : (env.scope.kind == .class || (env.scope.kind == .module && env.locals != env.globals)) = false
  hco : env.scope.isCoroutine = false
  hin : interactive env = false
  hxy : x ≠ y
/-- what a run of the generator leaves as it was: all below its frame, and the generator itself -/
def Since (Lg a : Addr) (s₀ s : Shared) : Prop := ∃ h' tk, s = { s₀ with heap := h', toks := tk } ∧ ∀ b o, b < Lg ∨ b = a → s₀.heap.get? b = some o → h'.get? b = some o
theorem Since.refl (Lg a : Addr) (s : Shared) : Since Lg a s s := ⟨s.heap, s.toks, rfl, fun _ _ _ e => e⟩
theorem Since.step {Lg a : Addr} {s₀ s : Shared} (x : Since Lg a s₀ s) {h' : Heap} {tk : Nat} (hk : ∀ b o, b < Lg ∨ b = a → s.heap.get? b = some o → h'.get? b = some o) : Since Lg a s₀ { s with heap := h', toks := tk } := by
  obtain ⟨h₁, tk₁, rfl, hk₁⟩ := x
  exact ⟨h', tk, rfl, fun b o hb e => hk b o hb (hk₁ b o hb e)⟩
/-- what the taker may touch between two items -/
def Kept (Mut : Addr → Prop) (s s' : Shared) : Prop := ∀ b o, ¬ Mut b → s.heap.get? b = some o → s'.heap.get? b = some o
def Yp (f : Nat → Int) (Lg a : Addr) (Mut : Addr → Prop) (D : Nat → Prop) : Protocol := fun n s₀ v s₁ kap =>
  (∃ t, v = .int (f n) t) ∧ Since Lg a s₀ s₁ ∧ (D n → ∀ s'', Kept Mut s₁ s'' → kap (.send .none) s'')
def Rp (Lg a : Addr) : GenEnd := fun n s₀ r s₁ => r = .ok (.ret .none) ∧ n = 0 ∧ Since Lg a s₀ s₁
/-- the generator's own objects at the for loop's head -/
structure HeadAt (env : Env) (mg : Str → Option Value) (It rr : Addr) (vs : Array Value) (i : Nat) (h : Heap) (y : Str) (lv : Value) : Prop where
  ns : ∃ m, h.Ns env.locals m ∧ m y = some lv
  glob : h.Ns mainGlobals mg
  iter : h.IsListIter It rr i
  list : h.IsList rr vs
theorem HeadAt.keeps {env : Env} {mg : Str → Option Value} {It rr : Addr} {vs : Array Value} {i : Nat} {h h' : Heap} {y : Str} {lv : Value} (x : HeadAt env mg It rr vs i h y lv)
    (k : ∀ b, (b = env.locals ∨ b = mainGlobals ∨ b = It ∨ b = rr) → ∀ o, h.get? b = some o → h'.get? b = some o) : HeadAt env mg It rr vs i h' y lv :=
  ⟨let ⟨m, hn, hm⟩ := x.ns; ⟨m, hn.at' fun o e => k _ (.inl rfl) o e, hm⟩, x.glob.at' fun o e => k _ (.inr (.inl rfl)) o e, x.iter.at fun o e => k _ (.inr (.inr (.inl rfl))) o e, x.list.at fun o e => k _ (.inr (.inr (.inr rfl))) o e⟩
section
variable {prog : Program} {w : World} {A : Around} {env : Env} {mg : Str → Option Value} {x y g : Str} {S0 : Stmt} {itE : Expr} {t1 t2 t3 tw ey e1 : Expr} {b1 b2 b3 : List Stmt} {S4 : Stmt} {px p1 p2 py pe p3 py2 pe2 pw : Pos} {It rr a : Addr} {vs : List Value} {ns : List Int}
  {f : Nat → Int} {Mut : Addr → Prop} {D : Nat → Prop} {K₀ : Flow → Sem PySem.Fin} {c₀ : Code}
/-- one turn's pieces of the for loop -/
abbrev gBody (t1 t2 e1 : Expr) (b1 b2 : List Stmt) (S4 : Stmt) (p1 p2 py pe : Pos) : List Stmt := [.If t1 b1 [] p1, .If t2 b2 [] p2, .Expr (.Yield (some e1) py) pe, S4]
theorem over_handled {c : Code} {k : Result → Sem PySem.Fin} {l : List Value} {p : Pos} (hA : A.handled = none) : (A.over c [.ret k none false l c₀ p []]).handled = none := hA
/-- the head of the for loop, a list of ints (none of them nought) before it: so many items, then the end -/
theorem head_fin (P : Pcs prog w env mg x y g S0 itE t1 t2 t3 tw ey e1 b1 S4) (hA : A.handled = none) (hi : IntsAre vs ns) (hIL : It ≠ env.locals) (hIg : It ≠ mainGlobals) (hIr : It ≠ rr) (hrL : rr ≠ env.locals)
    (hIt : ¬ It < env.locals) (hIa : It ≠ a) (haL : a ≠ env.locals) (hMut : ∀ b, Mut b → b ≠ env.locals ∧ b ≠ mainGlobals ∧ b ≠ It ∧ b ≠ rr)
    (hend : ∀ (n : Nat) (s₀ s : Shared) (fl : Flow), (fl = .next ∨ fl = .ret .none) → Since env.locals a s₀ s → n = 0 → Seg (model prog w) A (Rp env.locals a) (Yp f env.locals a Mut D) n s₀ c₀ (K₀ fl) [] s)
    (k : Result → Sem PySem.Fin) (hk : ∀ fl, k (.ok fl) = K₀ fl) (l : List Value) (p : Pos) :
    ∀ (r : List Int) (i n : Nat) (s₀ s : Shared) (lv : Value), ns.drop i = r → (∀ z ∈ r.takeWhile (· != 127), z ≠ 0) → n = (r.takeWhile (· != 127)).length → (∀ j < n, f (n - 1 - j) = (r.takeWhile (· != 127)).getD j 0) →
      Since env.locals a s₀ s → HeadAt env mg It rr vs.toArray i s.heap y lv →
      Seg (model prog w) A (Rp env.locals a) (Yp f env.locals a Mut D) n s₀ (.forLoop (.Name x px) (.ref It) (gBody t1 t2 e1 b1 b2 S4 p1 p2 py pe) [] env) ((model prog w).den (.forLoop (.Name x px) (.ref It) (gBody t1 t2 e1 b1 b2 S4 p1 p2 py pe) [] env)) [.ret k none false l c₀ p []] s := by
  intro r
  induction r with
  | nil =>
    intro i n s₀ s lv hr hz hn hf hs hd
    subst hn
    refine sg_forLoop (fun _ => rfl) ?_
    have hnone : vs.toArray[i]? = none := by
      have : ns.length ≤ i := List.drop_eq_nil_iff.mp hr
      simp [hi.length]; omega
    refine wpAny_pyNext_list_end hA hd.iter hd.list hnone fun h' he => ?_
    refine sg_block fun r er => ?_
    refine seg_leaf r ?_
    rw [er, hk]
    refine hend 0 _ _ .next (.inl rfl) (hs.step fun b o hb e => he b o ?_ e) rfl
    rcases hb with hb | hb
    · exact fun q => hIt (q ▸ hb)
    · exact fun q => hIa (q ▸ hb)
  | cons z r ih =>
    intro i n s₀ s lv hr hz hn hf hs hd
    have hlt : i < ns.length := by
      rcases Nat.lt_or_ge i ns.length with h | h
      · exact h
      · rw [List.drop_eq_nil_iff.mpr h] at hr; cases hr
    rw [List.drop_eq_getElem_cons hlt] at hr
    obtain ⟨rfl, hr'⟩ := List.cons.inj hr
    obtain ⟨tz, hget⟩ := hi.get i ns[i] (List.getElem?_eq_getElem hlt)
    refine sg_forLoop (fun _ => rfl) ?_
    refine wpAny_pyNext_list_item hd.iter hd.list (x := .int ns[i] tz) (by simpa using hget) fun h₁ hit₁ hs₁ => ?_
    obtain ⟨m, hns, hm⟩ := hd.ns
    have hns₁ : h₁.Ns env.locals m := hns.at' fun o e => (hs₁.2 _ (Ne.symm hIL)).trans e
    refine wpAny_assign_Name (wpAny_storeName_local P.hx hns₁ (fun h₂ hns₂ hs₂ => ?_) P.hp)
    intro H
    have hg₂ : h₂.Ns mainGlobals mg := hd.glob.at' fun o e => (hs₂.2 _ (Ne.symm P.loc)).trans ((hs₁.2 _ (Ne.symm hIg)).trans e)
    have hx₂ : (fun z => if z = x then some (Value.int ns[i] tz) else m z) x = some (Value.int ns[i] tz) := if_pos rfl
    have since₂ : ∀ tk, Since env.locals a s₀ { s with heap := h₂, toks := tk } := fun tk => hs.step fun b o hb e => by
      have n1 : b ≠ It := by rcases hb with hb | hb; exact fun q => hIt (q ▸ hb); exact fun q => hIa (q.symm.trans hb)
      have n2 : b ≠ env.locals := by rcases hb with hb | hb; exact Nat.ne_of_lt hb; exact fun q => haL (hb.symm.trans q)
      exact (hs₂.2 _ n2).trans ((hs₁.2 _ n1).trans e)
    refine seg_execs_cons (sg_If (P.ht1 _ _ _ _ _ _ hns₂ hg₂ hx₂ ?_))
    by_cases h127 : ns[i] = 127
    · rw [h127]
      have hn0 : n = 0 := by rw [hn, List.takeWhile_cons_of_neg (by simp [h127])]; rfl
      subst hn0
      refine sg_piece (P.hb1 _ _ _ ?_)
      refine seg_leaf (.ok (.ret .none)) ?_
      rw [hk]
      exact hend 0 _ _ (.ret .none) (.inr rfl) (since₂ _) rfl
    · have hne : (ns[i] == 127) = false := by simpa using h127
      rw [hne]
      have htw : (ns[i] :: r).takeWhile (· != 127) = ns[i] :: r.takeWhile (· != 127) := List.takeWhile_cons_of_pos (by simpa using h127)
      rw [htw] at hz hn hf
      subst hn
      have h0 : ns[i] ≠ 0 := hz _ (.head _)
      refine seg_execs_nil (seg_execs_cons (sg_If (P.ht2 _ _ _ _ _ _ hns₂ hx₂ fun tk₂ => ?_)))
      have hne0 : (ns[i] == 0) = false := by simpa using h0
      rw [hne0]
      refine seg_execs_nil (seg_execs_cons ?_)
      refine seg_Expr_Yield (n := (r.takeWhile (· != 127)).length) rfl rfl rfl (wpAny_mono (P.he1 _ _ _ _ (fun v s' => v = .int ns[i] tz ∧ s' = _) hns₂ hx₂ ⟨rfl, rfl⟩) (fun v s' hv => ?_) fun _ _ q => q.elim) P.hco P.hin
      obtain ⟨rfl, rfl⟩ := hv
      intro kap hkap
      refine ⟨⟨tz, ?_⟩, since₂ _, fun _ s'' hkept => hkap _ _ ?_⟩
      · have := hf 0 (Nat.succ_pos _)
        simpa using this.symm
      show Seg _ _ _ _ _ _ _ _ _ _
      have nM : ∀ b, (b = env.locals ∨ b = mainGlobals ∨ b = It ∨ b = rr) → ¬ Mut b := fun b hb hm => by
        obtain ⟨q1, q2, q3, q4⟩ := hMut b hm
        rcases hb with h | h | h | h
        · exact q1 h
        · exact q2 h
        · exact q3 h
        · exact q4 h
      have hns₃ := hns₂.at' fun o e => hkept _ o (nM _ (.inl rfl)) e
      refine seg_execs_cons (sg_piece (P.hS4 _ _ _ _ _ hns₃ hx₂ fun h₄ hns₄ hs₄ => ?_))
      refine seg_execs_nil (seg_again rfl ?_)
      refine ih (i + 1) _ _ _ (.int ns[i] tz) hr' (fun q hq => hz q (.tail _ hq)) rfl (fun j hj => ?_) ⟨h₄, _, rfl, fun b o hb e => (hs₄.2 b ?_).trans e⟩ ?_
      · have := hf (j + 1) (Nat.succ_lt_succ hj)
        simp only [List.length_cons, List.getD_cons_succ] at this
        rw [← this]
        congr 1
        omega
      · rcases hb with hb | hb
        · exact Nat.ne_of_lt hb
        · exact fun q => haL (hb.symm.trans q)
      · have keep₃ : ∀ b, (b = mainGlobals ∨ b = It ∨ b = rr) → b ≠ env.locals → ∀ o, h₁.get? b = some o → h₄.get? b = some o := fun b hb hbL o e =>
          (hs₄.2 b hbL).trans (hkept b o (nM b (.inr hb)) ((hs₂.2 b hbL).trans e))
        refine ⟨⟨_, hns₄, if_pos rfl⟩, ?_, ?_, ?_⟩
        · exact (hd.glob.at' fun o e => (hs₁.2 _ (Ne.symm hIg)).trans e).at' fun o e => keep₃ _ (.inl rfl) (Ne.symm P.loc) o e
        · exact hit₁.at fun o e => keep₃ _ (.inr (.inl rfl)) hIL o e
        · exact (hd.list.at fun o e => (hs₁.2 _ (Ne.symm hIr)).trans e).at fun o e => keep₃ _ (.inr (.inr rfl)) hrL o e
/-- the endless loop: it yields the last one, as often as it is asked -/
theorem while_inf (P : Pcs prog w env mg x y g S0 itE t1 t2 t3 tw ey e1 b1 S4) (haL : a ≠ env.locals) (hMut : ∀ b, Mut b → b ≠ env.locals) (hD : ¬ D 0) {v : Int} {F₁ F₂ : Frame} (hfs : splitAtGen [F₁, F₂] = none) (hfg : [F₁, F₂].any Frame.guarded = false) :
    ∀ (n : Nat) (s₀ s : Shared) (m : Str → Option Value) (t : Tok), s.heap.Ns env.locals m → m y = some (.int v t) → (∀ j ≤ n, f j = v) → Since env.locals a s₀ s →
      Seg (model prog w) A (Rp env.locals a) (Yp f env.locals a Mut D) (n + 1) s₀ (.whileLoop tw [.Expr (.Yield (some ey) py2) pe2] [] env) ((model prog w).den (.whileLoop tw [.Expr (.Yield (some ey) py2) pe2] [] env)) [F₁, F₂] s := by
  intro n
  induction n with
  | zero =>
    intro s₀ s m t hns hm hf hs
    refine seg_whileLoop (wpAny_mono (P.htw _ _ (fun b s' => b = true ∧ s' = s) ⟨rfl, rfl⟩) (fun b s' hb => ?_) fun _ _ q => q.elim)
    obtain ⟨rfl, rfl⟩ := hb
    rw [if_pos rfl]
    refine seg_execs_cons (seg_Expr_Yield (n := 0) hfs rfl hfg (wpAny_mono (P.hey _ _ _ _ (fun u s' => u = .int v t ∧ s' = _) hns hm ⟨rfl, rfl⟩) (fun u s' hu => ?_) fun _ _ q => q.elim) P.hco P.hin)
    obtain ⟨rfl, rfl⟩ := hu
    intro kap hkap
    exact ⟨⟨t, by rw [hf 0 (Nat.le_refl _)]⟩, hs, fun hd => absurd hd hD⟩
  | succ n ih =>
    intro s₀ s m t hns hm hf hs
    refine seg_whileLoop (wpAny_mono (P.htw _ _ (fun b s' => b = true ∧ s' = s) ⟨rfl, rfl⟩) (fun b s' hb => ?_) fun _ _ q => q.elim)
    obtain ⟨rfl, rfl⟩ := hb
    rw [if_pos rfl]
    refine seg_execs_cons (seg_Expr_Yield (n := n + 1) hfs rfl hfg (wpAny_mono (P.hey _ _ _ _ (fun u s' => u = .int v t ∧ s' = _) hns hm ⟨rfl, rfl⟩) (fun u s' hu => ?_) fun _ _ q => q.elim) P.hco P.hin)
    obtain ⟨rfl, rfl⟩ := hu
    intro kap hkap
    refine ⟨⟨t, by rw [hf (n + 1) (Nat.le_refl _)]⟩, hs, fun _ s'' hkept => hkap _ _ ?_⟩
    show Seg _ _ _ _ _ _ _ _ _ _
    refine seg_execs_nil (seg_again rfl ?_)
    exact ih _ _ m t (hns.at' fun o e => hkept _ o (fun hm => hMut _ hm rfl) e) hm (fun j hj => hf j (Nat.le_succ_of_le hj)) (Since.refl _ _ _)
/-- the head of the for loop before a nought -/
theorem head_nought (P : Pcs prog w env mg x y g S0 itE t1 t2 t3 tw ey e1 b1 S4) (hi : IntsAre vs ns) (hIL : It ≠ env.locals) (hIg : It ≠ mainGlobals)
    (hIt : ¬ It < env.locals) (hIa : It ≠ a) (haL : a ≠ env.locals) (hMut : ∀ b, Mut b → b ≠ env.locals) (hD : ¬ D 0)
    (k : Result → Sem PySem.Fin) (l : List Value) (p : Pos) (i n : Nat) (s₀ s : Shared) (v : Int) (tv : Tok) (hz : ns[i]? = some 0) (hf : ∀ j ≤ n, f j = v) (hs : Since env.locals a s₀ s) (hd : HeadAt env mg It rr vs.toArray i s.heap y (.int v tv)) :
      Seg (model prog w) A (Rp env.locals a) (Yp f env.locals a Mut D) (n + 1) s₀ (.forLoop (.Name x px) (.ref It) (gBody t1 t2 e1 b1 [.If t3 b3 [] p3, .While tw [.Expr (.Yield (some ey) py2) pe2] [] pw] S4 p1 p2 py pe) [] env) ((model prog w).den (.forLoop (.Name x px) (.ref It) (gBody t1 t2 e1 b1 [.If t3 b3 [] p3, .While tw [.Expr (.Yield (some ey) py2) pe2] [] pw] S4 p1 p2 py pe) [] env)) [.ret k none false l c₀ p []] s := by
  obtain ⟨tz, hget⟩ := hi.get i 0 hz
  refine sg_forLoop (fun _ => rfl) ?_
  refine wpAny_pyNext_list_item hd.iter hd.list (x := .int 0 tz) (by simpa using hget) fun h₁ hit₁ hs₁ => ?_
  obtain ⟨m, hns, hm⟩ := hd.ns
  have hns₁ : h₁.Ns env.locals m := hns.at' fun o e => (hs₁.2 _ (Ne.symm hIL)).trans e
  refine wpAny_assign_Name (wpAny_storeName_local P.hx hns₁ (fun h₂ hns₂ hs₂ => ?_) P.hp)
  intro H
  have hg₂ : h₂.Ns mainGlobals mg := hd.glob.at' fun o e => (hs₂.2 _ (Ne.symm P.loc)).trans ((hs₁.2 _ (Ne.symm hIg)).trans e)
  have hx₂ : (fun z => if z = x then some (Value.int 0 tz) else m z) x = some (Value.int 0 tz) := if_pos rfl
  have hy₂ : (fun z => if z = x then some (Value.int 0 tz) else m z) y = some (Value.int v tv) := by
    show (if y = x then _ else m y) = _
    rw [if_neg (Ne.symm P.hxy), hm]
  have since₂ : ∀ tk, Since env.locals a s₀ { s with heap := h₂, toks := tk } := fun tk => hs.step fun b o hb e => by
    have n1 : b ≠ It := by rcases hb with hb | hb; exact fun q => hIt (q ▸ hb); exact fun q => hIa (q.symm.trans hb)
    have n2 : b ≠ env.locals := by rcases hb with hb | hb; exact Nat.ne_of_lt hb; exact fun q => haL (hb.symm.trans q)
    exact (hs₂.2 _ n2).trans ((hs₁.2 _ n1).trans e)
  refine seg_execs_cons (sg_If (P.ht1 _ _ _ _ _ _ hns₂ hg₂ hx₂ ?_))
  refine seg_execs_nil (seg_execs_cons (sg_If (P.ht2 _ _ _ _ _ _ hns₂ hx₂ fun tk₂ => ?_)))
  refine seg_execs_cons (sg_If (P.ht3 _ _ _ _ _ _ hns₂ hy₂ ?_))
  refine seg_execs_nil (seg_execs_cons (seg_While fun p' => ?_))
  exact while_inf P haL hMut hD rfl rfl n _ _ _ tv hns₂ hy₂ hf (since₂ _)
/-- an item that is neither the mark nor a nought: it is yielded, and the head stands before the next -/
theorem head_item (P : Pcs prog w env mg x y g S0 itE t1 t2 t3 tw ey e1 b1 S4) (hi : IntsAre vs ns) (hIL : It ≠ env.locals) (hIg : It ≠ mainGlobals) (hIr : It ≠ rr) (hrL : rr ≠ env.locals)
    (hIt : ¬ It < env.locals) (hIa : It ≠ a) (haL : a ≠ env.locals) (hMut : ∀ b, Mut b → b ≠ env.locals ∧ b ≠ mainGlobals ∧ b ≠ It ∧ b ≠ rr)
    (k : Result → Sem PySem.Fin) (l : List Value) (p : Pos) (i n : Nat) (s₀ s : Shared) (lv : Value) (v : Int) (hv : ns[i]? = some v) (h127 : v ≠ 127) (h0 : v ≠ 0) (hf : f n = v) (hs : Since env.locals a s₀ s) (hd : HeadAt env mg It rr vs.toArray i s.heap y lv)
    (next : ∀ s₀ s tv, Since env.locals a s₀ s → HeadAt env mg It rr vs.toArray (i + 1) s.heap y (.int v tv) → D n →
      Seg (model prog w) A (Rp env.locals a) (Yp f env.locals a Mut D) n s₀ (.forLoop (.Name x px) (.ref It) (gBody t1 t2 e1 b1 b2 S4 p1 p2 py pe) [] env) ((model prog w).den (.forLoop (.Name x px) (.ref It) (gBody t1 t2 e1 b1 b2 S4 p1 p2 py pe) [] env)) [.ret k none false l c₀ p []] s) :
    Seg (model prog w) A (Rp env.locals a) (Yp f env.locals a Mut D) (n + 1) s₀ (.forLoop (.Name x px) (.ref It) (gBody t1 t2 e1 b1 b2 S4 p1 p2 py pe) [] env) ((model prog w).den (.forLoop (.Name x px) (.ref It) (gBody t1 t2 e1 b1 b2 S4 p1 p2 py pe) [] env)) [.ret k none false l c₀ p []] s := by
  obtain ⟨tz, hget⟩ := hi.get i v hv
  refine sg_forLoop (fun _ => rfl) ?_
  refine wpAny_pyNext_list_item hd.iter hd.list (x := .int v tz) (by simpa using hget) fun h₁ hit₁ hs₁ => ?_
  obtain ⟨m, hns, hm⟩ := hd.ns
  have hns₁ : h₁.Ns env.locals m := hns.at' fun o e => (hs₁.2 _ (Ne.symm hIL)).trans e
  refine wpAny_assign_Name (wpAny_storeName_local P.hx hns₁ (fun h₂ hns₂ hs₂ => ?_) P.hp)
  intro H
  have hg₂ : h₂.Ns mainGlobals mg := hd.glob.at' fun o e => (hs₂.2 _ (Ne.symm P.loc)).trans ((hs₁.2 _ (Ne.symm hIg)).trans e)
  have hx₂ : (fun z => if z = x then some (Value.int v tz) else m z) x = some (Value.int v tz) := if_pos rfl
  have since₂ : ∀ tk, Since env.locals a s₀ { s with heap := h₂, toks := tk } := fun tk => hs.step fun b o hb e => by
    have n1 : b ≠ It := by rcases hb with hb | hb; exact fun q => hIt (q ▸ hb); exact fun q => hIa (q.symm.trans hb)
    have n2 : b ≠ env.locals := by rcases hb with hb | hb; exact Nat.ne_of_lt hb; exact fun q => haL (hb.symm.trans q)
    exact (hs₂.2 _ n2).trans ((hs₁.2 _ n1).trans e)
  refine seg_execs_cons (sg_If (P.ht1 _ _ _ _ _ _ hns₂ hg₂ hx₂ ?_))
  rw [show (v == 127) = false by simpa using h127]
  refine seg_execs_nil (seg_execs_cons (sg_If (P.ht2 _ _ _ _ _ _ hns₂ hx₂ fun tk₂ => ?_)))
  rw [show (v == 0) = false by simpa using h0]
  refine seg_execs_nil (seg_execs_cons ?_)
  refine seg_Expr_Yield (n := n) rfl rfl rfl (wpAny_mono (P.he1 _ _ _ _ (fun u s' => u = .int v tz ∧ s' = _) hns₂ hx₂ ⟨rfl, rfl⟩) (fun u s' hu => ?_) fun _ _ q => q.elim) P.hco P.hin
  obtain ⟨rfl, rfl⟩ := hu
  intro kap hkap
  refine ⟨⟨tz, by rw [hf]⟩, since₂ _, fun hD s'' hkept => hkap _ _ ?_⟩
  show Seg _ _ _ _ _ _ _ _ _ _
  have nM : ∀ b, (b = env.locals ∨ b = mainGlobals ∨ b = It ∨ b = rr) → ¬ Mut b := fun b hb hm => by
    obtain ⟨q1, q2, q3, q4⟩ := hMut b hm
    rcases hb with h | h | h | h
    · exact q1 h
    · exact q2 h
    · exact q3 h
    · exact q4 h
  have hns₃ := hns₂.at' fun o e => hkept _ o (nM _ (.inl rfl)) e
  refine seg_execs_cons (sg_piece (P.hS4 _ _ _ _ _ hns₃ hx₂ fun h₄ hns₄ hs₄ => ?_))
  refine seg_execs_nil (seg_again rfl ?_)
  have keep₃ : ∀ b, (b = mainGlobals ∨ b = It ∨ b = rr) → b ≠ env.locals → ∀ o, h₁.get? b = some o → h₄.get? b = some o := fun b hb hbL o e =>
    (hs₄.2 b hbL).trans (hkept b o (nM b (.inr hb)) ((hs₂.2 b hbL).trans e))
  refine next _ _ tz ⟨h₄, _, rfl, fun b o hb e => (hs₄.2 b ?_).trans e⟩ ⟨⟨_, hns₄, if_pos rfl⟩, ?_, ?_, ?_⟩ hD
  · rcases hb with hb | hb
    · exact Nat.ne_of_lt hb
    · exact fun q => haL (hb.symm.trans q)
  · exact (hd.glob.at' fun o e => (hs₁.2 _ (Ne.symm hIg)).trans e).at' fun o e => keep₃ _ (.inl rfl) (Ne.symm P.loc) o e
  · exact hit₁.at fun o e => keep₃ _ (.inr (.inl rfl)) hIL o e
  · exact (hd.list.at fun o e => (hs₁.2 _ (Ne.symm hIr)).trans e).at fun o e => keep₃ _ (.inr (.inr rfl)) hrL o e
/-- from the start to the for loop's head -/
theorem gen_start {n : Nat} {s : Shared} {m : Str → Option Value} {pf : Pos} (P : Pcs prog w env mg x y g S0 itE t1 t2 t3 tw ey e1 b1 S4) (hns : s.heap.Ns env.locals m) (hg : m g = some (.ref rr)) (hmg : s.heap.Ns mainGlobals mg) (hl : s.heap.IsList rr vs.toArray)
    (hrL : rr ≠ env.locals) (haL : a ≠ env.locals) (hal : a < s.heap.objs.size)
    (h : ∀ (c₀ : Code) (K₀ : Flow → Sem PySem.Fin) (k : Result → Sem PySem.Fin) (l : List Value) (p : Pos) (It : Addr) (s' : Shared), (∀ fl, k (.ok fl) = K₀ fl) →
      (∀ (n : Nat) (s₀ s : Shared) (fl : Flow), (fl = .next ∨ fl = .ret .none) → Since env.locals a s₀ s → n = 0 → Seg (model prog w) A (Rp env.locals a) (Yp f env.locals a Mut D) n s₀ c₀ (K₀ fl) [] s) →
      It = s.heap.objs.size → Since env.locals a s s' → HeadAt env mg It rr vs.toArray 0 s'.heap y .none →
      Seg (model prog w) A (Rp env.locals a) (Yp f env.locals a Mut D) n s (.forLoop (.Name x px) (.ref It) (gBody t1 t2 e1 b1 b2 S4 p1 p2 py pe) [] env) ((model prog w).den (.forLoop (.Name x px) (.ref It) (gBody t1 t2 e1 b1 b2 S4 p1 p2 py pe) [] env)) [.ret k none false l c₀ p []] s') :
    GenState.Goes (model prog w) A (Rp env.locals a) (Yp f env.locals a Mut D) n (.fresh (.func [S0, .For (.Name x px) itE (gBody t1 t2 e1 b1 b2 S4 p1 p2 py pe) [] pf] env)) (.send .none) s := by
  refine ⟨rfl, seg_func (seg_execs_cons (sg_piece (P.hS0 _ _ _ _ hns fun h₁ hns₁ hs₁ => ?_)))⟩
  have hg₁ : (fun z => if z = y then some Value.none else m z) g = some (.ref rr) := by
    show (if g = y then _ else m g) = _
    rw [if_neg P.hgy, hg]
  refine seg_execs_cons (sg_For rfl (P.hit _ _ _ _ _ hns₁ hg₁ ?_) P.hset)
  have hl₁ : h₁.IsList rr vs.toArray := hl.at fun o e => (hs₁.2 _ hrL).trans e
  refine wpAny_pyIter_list hl₁ fun p k l hk => ?_
  have hsz : h₁.objs.size = s.heap.objs.size := hs₁.1
  refine h _ _ k l p h₁.objs.size _ hk ?_ hsz ⟨_, _, rfl, fun b o hb e => ?_⟩ ⟨⟨_, hns₁.push _, if_pos rfl⟩, ?_, ⟨_, Heap.get?_push_size _ rfl, rfl, rfl⟩, hl₁.at fun o e => Heap.get?_push_of_some _ e⟩
  · intro n s₀ s fl hfl hs hn
    rcases hfl with rfl | rfl
    · exact seg_end (.ok (.ret .none)) ⟨rfl, hn, hs⟩
    · exact seg_end (.ok (.ret .none)) ⟨rfl, hn, hs⟩
  · have n2 : b ≠ env.locals := by
      rcases hb with hb | hb
      · exact Nat.ne_of_lt hb
      · exact fun q => haL (hb.symm.trans q)
    exact Heap.get?_push_of_some _ ((hs₁.2 _ n2).trans e)
  · exact (hmg.at' fun o e => (hs₁.2 _ (Ne.symm P.loc)).trans e).at' fun o e => Heap.get?_push_of_some _ e
/-- the whole generator over a list without noughts ahead of its end -/
theorem gen_fin {s : Shared} {m : Str → Option Value} {pf : Pos} (P : Pcs prog w env mg x y g S0 itE t1 t2 t3 tw ey e1 b1 S4) (hA : A.handled = none) (hns : s.heap.Ns env.locals m) (hg : m g = some (.ref rr)) (hmg : s.heap.Ns mainGlobals mg) (hl : s.heap.IsList rr vs.toArray) (hi : IntsAre vs ns)
    (hrL : rr ≠ env.locals) (haL : a ≠ env.locals) (hal : a < s.heap.objs.size) (hMut : ∀ b, Mut b → b < env.locals ∧ b ≠ mainGlobals ∧ b ≠ rr)
    (hz : ∀ z ∈ ns.takeWhile (· != 127), z ≠ 0) (hf : ∀ j < (ns.takeWhile (· != 127)).length, f ((ns.takeWhile (· != 127)).length - 1 - j) = (ns.takeWhile (· != 127)).getD j 0) :
    GenState.Goes (model prog w) A (Rp env.locals a) (Yp f env.locals a Mut D) (ns.takeWhile (· != 127)).length (.fresh (.func [S0, .For (.Name x px) itE (gBody t1 t2 e1 b1 [.If t3 b3 [] p3, .While tw [.Expr (.Yield (some ey) py2) pe2] [] pw] S4 p1 p2 py pe) [] pf] env)) (.send .none) s := by
  refine gen_start P hns hg hmg hl hrL haL hal fun c₀ K₀ k l p It s' hk hend hIt hs hd => ?_
  have hL := hns.lt
  have hgl := hmg.lt
  obtain ⟨o, ho, _⟩ := id hl
  have hr := Heap.lt_size ho
  have k1 : It ≠ env.locals := hIt ▸ Nat.ne_of_gt hL
  have k2 : It ≠ mainGlobals := hIt ▸ Nat.ne_of_gt hgl
  have k3 : It ≠ rr := hIt ▸ Nat.ne_of_gt hr
  have k4 : ¬ It < env.locals := hIt ▸ Nat.not_lt.mpr (Nat.le_of_lt hL)
  have k5 : It ≠ a := hIt ▸ Nat.ne_of_gt hal
  refine head_fin P hA hi k1 k2 k3 hrL k4 k5 haL (fun b hb => ?_) hend k hk l p ns 0 _ s s' .none rfl hz rfl hf hs hd
  obtain ⟨q1, q2, q3⟩ := hMut b hb
  exact ⟨Nat.ne_of_lt q1, q2, fun q => k4 (q ▸ q1), q3⟩
/-- the whole generator over a first one, a step and a nought -/
theorem gen_inf {s : Shared} {m : Str → Option Value} {pf : Pos} {u v : Int} {n : Nat} (P : Pcs prog w env mg x y g S0 itE t1 t2 t3 tw ey e1 b1 S4) (hns : s.heap.Ns env.locals m) (hg : m g = some (.ref rr)) (hmg : s.heap.Ns mainGlobals mg) (hl : s.heap.IsList rr vs.toArray) (hi : IntsAre vs [u, v, 0])
    (hrL : rr ≠ env.locals) (haL : a ≠ env.locals) (hal : a < s.heap.objs.size) (hMut : ∀ b, Mut b → b < env.locals ∧ b ≠ mainGlobals ∧ b ≠ rr) (hD : ¬ D 0)
    (hu : u ≠ 127 ∧ u ≠ 0) (hv : v ≠ 127 ∧ v ≠ 0) (hf0 : f (n + 2) = u) (hf : ∀ j ≤ n + 1, f j = v) :
    GenState.Goes (model prog w) A (Rp env.locals a) (Yp f env.locals a Mut D) (n + 3) (.fresh (.func [S0, .For (.Name x px) itE (gBody t1 t2 e1 b1 [.If t3 b3 [] p3, .While tw [.Expr (.Yield (some ey) py2) pe2] [] pw] S4 p1 p2 py pe) [] pf] env)) (.send .none) s := by
  refine gen_start P hns hg hmg hl hrL haL hal fun c₀ K₀ k l p It s' hk hend hIt hs hd => ?_
  have hL := hns.lt
  have hgl := hmg.lt
  obtain ⟨o, ho, _⟩ := id hl
  have hr := Heap.lt_size ho
  have k1 : It ≠ env.locals := hIt ▸ Nat.ne_of_gt hL
  have k2 : It ≠ mainGlobals := hIt ▸ Nat.ne_of_gt hgl
  have k3 : It ≠ rr := hIt ▸ Nat.ne_of_gt hr
  have k4 : ¬ It < env.locals := hIt ▸ Nat.not_lt.mpr (Nat.le_of_lt hL)
  have k5 : It ≠ a := hIt ▸ Nat.ne_of_gt hal
  have hM : ∀ b, Mut b → b ≠ env.locals ∧ b ≠ mainGlobals ∧ b ≠ It ∧ b ≠ rr := fun b hb => by
    obtain ⟨q1, q2, q3⟩ := hMut b hb
    exact ⟨Nat.ne_of_lt q1, q2, fun q => k4 (q ▸ q1), q3⟩
  refine head_item P hi k1 k2 k3 hrL k4 k5 haL hM k l p 0 (n + 2) s s' .none u rfl hu.1 hu.2 hf0 hs hd fun s₀ s₁ t₁ hs₁ hd₁ _ => ?_
  refine head_item P hi k1 k2 k3 hrL k4 k5 haL hM k l p 1 (n + 1) s₀ s₁ _ v rfl hv.1 hv.2 (hf _ (Nat.le_refl _)) hs₁ hd₁ fun s₂ s₃ t₃ hs₃ hd₃ _ => ?_
  exact head_nought P hi k1 k2 k4 k5 haL (fun b hb => (hM b hb).1) hD k l p 2 n s₂ s₃ v t₃ rfl (fun j hj => hf j (Nat.le_succ_of_le hj)) hs₃ hd₃
theorem gen_finL {L : Addr} {s : Shared} {m : Str → Option Value} {pf : Pos} (hL : env.locals = L) (P : Pcs prog w env mg x y g S0 itE t1 t2 t3 tw ey e1 b1 S4) (hA : A.handled = none) (hns : s.heap.Ns L m) (hg : m g = some (.ref rr)) (hmg : s.heap.Ns mainGlobals mg) (hl : s.heap.IsList rr vs.toArray) (hi : IntsAre vs ns)
    (hrL : rr ≠ L) (haL : a ≠ L) (hal : a < s.heap.objs.size) (hMut : ∀ b, Mut b → b < L ∧ b ≠ mainGlobals ∧ b ≠ rr)
    (hz : ∀ z ∈ ns.takeWhile (· != 127), z ≠ 0) (hf : ∀ j < (ns.takeWhile (· != 127)).length, f ((ns.takeWhile (· != 127)).length - 1 - j) = (ns.takeWhile (· != 127)).getD j 0) :
    GenState.Goes (model prog w) A (Rp L a) (Yp f L a Mut D) (ns.takeWhile (· != 127)).length (.fresh (.func [S0, .For (.Name x px) itE (gBody t1 t2 e1 b1 [.If t3 b3 [] p3, .While tw [.Expr (.Yield (some ey) py2) pe2] [] pw] S4 p1 p2 py pe) [] pf] env)) (.send .none) s := by
  subst hL
  exact gen_fin P hA hns hg hmg hl hi hrL haL hal hMut hz hf
theorem gen_infL {L : Addr} {s : Shared} {m : Str → Option Value} {pf : Pos} {u v : Int} {n : Nat} (hL : env.locals = L) (P : Pcs prog w env mg x y g S0 itE t1 t2 t3 tw ey e1 b1 S4) (hns : s.heap.Ns L m) (hg : m g = some (.ref rr)) (hmg : s.heap.Ns mainGlobals mg) (hl : s.heap.IsList rr vs.toArray) (hi : IntsAre vs [u, v, 0])
    (hrL : rr ≠ L) (haL : a ≠ L) (hal : a < s.heap.objs.size) (hMut : ∀ b, Mut b → b < L ∧ b ≠ mainGlobals ∧ b ≠ rr) (hD : ¬ D 0)
    (hu : u ≠ 127 ∧ u ≠ 0) (hv : v ≠ 127 ∧ v ≠ 0) (hf0 : f (n + 2) = u) (hf : ∀ j ≤ n + 1, f j = v) :
    GenState.Goes (model prog w) A (Rp L a) (Yp f L a Mut D) (n + 3) (.fresh (.func [S0, .For (.Name x px) itE (gBody t1 t2 e1 b1 [.If t3 b3 [] p3, .While tw [.Expr (.Yield (some ey) py2) pe2] [] pw] S4 p1 p2 py pe) [] pf] env)) (.send .none) s := by
  subst hL
  exact gen_inf P hns hg hmg hl hi hrL haL hal hMut hD hu hv hf0 hf
end
end Mine
end

section
open PySem PySem.W PyProof.Rows PySem.Calls PySem.Spec
set_option linter.unusedVariables false
set_option maxRecDepth 100000
namespace Mine
open Sem (wp)
section
variable {prog : Program} {w : World} {A : Around} {E : Value → Shared → Prop} {s : Shared} {a Lg : Addr} {g : Nat} {f : Nat → Int} {Mut : Addr → Prop} {D : Nat → Prop}
/-- the generator at hand, so many yields before it -/
structure GA (prog : Program) (w : World) (A : Around) (a Lg : Addr) (g : Nat) (f : Nat → Int) (Mut : Addr → Prop) (D : Nat → Prop) (n : Nat) (s : Shared) : Prop where
  gen : s.heap.IsGen a g
  lim : s.heap.NoLimit
  goes : ∃ gs, s.gens[g]? = some gs ∧ (D n → ∀ s'', Kept Mut s s'' → gs.Goes (model prog w) A (Rp Lg a) (Yp f Lg a Mut D) n (.send .none) s'')
theorem GA.kept {n : Nat} {s' : Shared} (x : GA prog w A a Lg g f Mut D n s) (k : Kept Mut s s') (hg : s'.gens = s.gens) (ha : ¬ Mut a) (hc : ¬ Mut cStatics) : GA prog w A a Lg g f Mut D n s' := by
  obtain ⟨⟨o, nm, qn, ho, r⟩, ⟨mc, hns, hnn⟩, gs, hgs, hgo⟩ := x
  exact ⟨⟨o, nm, qn, k _ _ ha ho, r⟩, ⟨mc, hns.at' fun o e => k _ o hc e, hnn⟩, gs, hg ▸ hgs, fun hD s'' k' => hgo hD s'' fun b o hb e => k' b o hb (k b o hb e)⟩
theorem wp_next {n : Nat} {Q : Option Value → Shared → Prop} (hh : A.handled = none) (hroom : A.depth < recursionLimit) (hD : D n) (hcs : cStatics < Lg) (x : GA prog w A.in1 a Lg g f Mut D n s)
    (item : ∀ m t h' tk G, n = m + 1 → (AllBare s.gens → AllBare G) → (∀ b o, b < Lg ∨ b = a → s.heap.get? b = some o → h'.get? b = some o) → GA prog w A.in1 a Lg g f Mut D m { s with heap := h', toks := tk, gens := G } → Q (some (.int (f m) t)) { s with heap := h', toks := tk, gens := G })
    (done : ∀ h' tk G, n = 0 → (AllBare s.gens → AllBare G) → (∀ b o, b < Lg ∨ b = a → s.heap.get? b = some o → h'.get? b = some o) → Q none { s with heap := h', toks := tk, gens := G }) :
    wpAny (model prog w) A (pyNext (.ref a)) Q E s := by
  obtain ⟨hg, hl, gs, hgs, hgo⟩ := x
  have hgo' := hgo hD (s.setGen g .running) fun b o _ e => e
  unfold pyNext
  refine wpAny_bind (wpAny_attempt (wpAny_callSpecial?_slot (name := Str.ofString "__next__") hg.typeIs slot_gen_next
    (wpAny_call_entry slot_gen_next hg.typeIs entry_gen_next ?_ (args_gen_next _))))
  show wpAny _ A.in1 (Builtin.Generator.genWake (.ref a) (.send .none)) _ _ s
  unfold Builtin.Generator.genWake
  refine wpAny_bind (wpAny_holding (wpAny_genNumber hg (wpAny_bind (wpAny_genState hgs ?_))))
  cases gs with
  | running => exact hgo'.elim
  | finished => exact hgo'.elim
  | _ =>
    refine wpAny_bind (wpAny_roomToWake hl hroom ?_)
    show wpAny _ A.in1 (.resume g (.send .none) [] _) _ _ s
    refine wpAny_resumeQ hgs hgo' (fun x s₁ hx => ?_) (fun v s₁ gs' hb hv => ?_)
    · obtain ⟨rfl, hn, h₁, tk₁, rfl, hk₁⟩ := hx
      show wpAny _ A.in1 (newExc (.type "StopIteration") [] >>= _) _ _ _
      refine wpAny_bind ?_
      simp only [newExc, newTuple]
      refine wpAny_bind (wpAny_newObj_type ?_ (by size_fits))
      refine wpAny_bind (m := firstArgMember _ _) (wpAny_of_eq (a := Value.none) (by first | rfl | (simp only [firstArgMember]; rfl)) ?_)
      refine wpAny_newObj_type ?_ (by size_fits)
      simp only [raiseNew]
      refine wpAny_bind (wpAny_bind (wpAny_handled ?_))
      first | rw [show A.in1.handled = none from hh] | rw [hh]
      refine wpAny_throw ?_
      refine wpAny_bind (wpAny_isInstance (T := "StopIteration") (b := true) ⟨_, Heap.get?_push_size _ rfl, rfl⟩ isSubtype_stop ?_)
      refine wpAny_pure (done _ _ _ hn (fun hA => ?_) fun b o hb e => Heap.get?_push_of_some _ (Heap.get?_push_of_some _ (hk₁ b o hb e)))
      exact (GenOnlyQ.of ((GenOnly.setGen s g .running).trans (GenOnly.setGen _ g .finished)) (setGen_self (gs := .running) (setGen_self hgs)) rfl).bare hA
    · obtain ⟨⟨t, rfl⟩, ⟨h₁, tk₁, rfl, hk₁⟩, hkap⟩ := hv
      refine wpAny_pure ⟨_, rfl, wpAny_pure ?_⟩
      cases n with
      | zero => exact (hkap hD _ fun b o _ e => e).elim
      | succ m =>
        have hgs' : ((({ s.setGen g .running with heap := h₁, toks := tk₁ } : Shared)).setGen g gs').gens[g]? = some gs' := setGen_self (gs := .running) (setGen_self hgs)
        refine item m t _ _ _ rfl (fun hA => ?_) (fun b o hb e => hk₁ b o hb e) ⟨let ⟨o, nm, qn, ho, r⟩ := hg; ⟨o, nm, qn, hk₁ a o (.inr rfl) ho, r⟩, (let ⟨mc, hns, hnn⟩ := hl; ⟨mc, hns.at' fun o e => hk₁ cStatics o (.inl hcs) e, hnn⟩), gs', hgs', fun hDm s'' hk => hkap hDm s'' hk⟩
        exact (GenOnlyQ.of ((GenOnly.setGen s g .running).trans (GenOnly.setGen _ g gs')) hgs' hb).bare hA
/-- what the frame's taker knows between the items, and how a for loop over the generator runs -/
theorem gen_forLoop {env : Env} {x : Str} {px : Pos} {body : List Stmt} {R : Result → Shared → Prop} {N : Nat} (St : Nat → Heap → Prop) (hx : env.kindOf x = some .local) (hp : (env.scope.kind == .class || (env.scope.kind == .module && env.locals != env.globals)) = false)
    (hh : A.handled = none) (hroom : A.depth < recursionLimit) (hcs : cStatics < Lg) (hDs : ∀ n, D (n + 1)) (hMa : ¬ Mut a) (hMc : ¬ Mut cStatics)
    (hstab : ∀ n h h', St n h → (∀ b o, b < Lg → h.get? b = some o → h'.get? b = some o) → St n h')
    (turn : ∀ n t s₁, n < N → (∃ h tk G, s₁ = { s with heap := h, toks := tk, gens := G } ∧ AllBare G) → St (n + 1) s₁.heap →
      wpAny (model prog w) A (storeName env x (.int (f n) t)) (fun _ s₂ => wpAny (model prog w) A (execs body env) (fun fl s₃ => match fl with
        | .next | .cont => StopAt ((∃ h tk, s₃ = { s₁ with heap := h, toks := tk }) ∧ Kept Mut s₁ s₃ ∧ St n s₃.heap ∧ D n)
        | .brk => R (.ok .next) s₃
        | .ret _ => False) (fun _ _ => False) s₂) (fun _ _ => False) s₁)
    (done : D 0 → ∀ s₁, (∃ h tk G, s₁ = { s with heap := h, toks := tk, gens := G } ∧ AllBare G) → St 0 s₁.heap → R (.ok .next) s₁)
    (hG : AllBare s.gens) (h0 : GA prog w A.in1 a Lg g f Mut D N s) (hD : D N) (hst : St N s.heap) : codeAny (model prog w) A (.forLoop (.Name x px) (.ref a) body [] env) R s := by
  refine codeAny_forLoop (fun k s' => k ≤ N ∧ D k ∧ GA prog w A.in1 a Lg g f Mut D k s' ∧ (∃ h tk G, s' = { s with heap := h, toks := tk, gens := G } ∧ AllBare G) ∧ St k s'.heap) ?_ N ⟨Nat.le_refl _, hD, h0, ⟨s.heap, s.toks, s.gens, rfl, hG⟩, hst⟩
  rintro k s' ⟨hk, hDk, hga, ⟨h, tk, G, rfl, hGb⟩, hS⟩
  refine wp_next hh hroom hDk hcs hga (fun m t h' tk' G' hm hGi hkeep hga' => ?_) fun h' tk' G' hm hGi hkeep => ?_
  · subst hm
    refine wpAny_assign_Name (wpAny_mono (turn m t { s with heap := h', toks := tk', gens := G' } (by omega) ⟨h', tk', G', rfl, hGi hGb⟩ (hstab _ _ _ hS fun b o hb e => hkeep b o (.inl hb) e)) (fun _ s₂ h₂ => ?_) fun _ _ q => q.elim)
    refine wpAny_mono h₂ (fun fl s₃ h₃ => ?_) fun _ _ q => q.elim
    have key : ((∃ h tk, s₃ = { ({ s with heap := h', toks := tk', gens := G' } : Shared) with heap := h, toks := tk }) ∧ Kept Mut { s with heap := h', toks := tk', gens := G' } s₃ ∧ St m s₃.heap ∧ D m) →
        ∃ q, q < m + 1 ∧ q ≤ N ∧ D q ∧ GA prog w A.in1 a Lg g f Mut D q s₃ ∧ (∃ h tk G, s₃ = { s with heap := h, toks := tk, gens := G } ∧ AllBare G) ∧ St q s₃.heap := by
      rintro ⟨⟨h₄, tk₄, rfl⟩, hkp, hS', hD'⟩
      exact ⟨m, Nat.lt_succ_self _, by omega, hD', hga'.kept hkp rfl hMa hMc, ⟨h₄, tk₄, G', rfl, hGi hGb⟩, hS'⟩
    cases fl with
    | next => exact key h₃
    | cont => exact key h₃
    | brk => exact h₃
    | ret v => exact h₃.elim
  · subst hm
    refine wpAny_execs_nil ?_
    exact done hDk _ ⟨h', tk', G', rfl, hGi hGb⟩ (hstab _ _ _ hS fun b o hb e => hkeep b o (.inl hb) e)
end
end Mine
end

section
open PySem PySem.W PyProof.Rows PySem.Calls PySem.Spec
set_option linter.unusedVariables false
set_option maxRecDepth 100000
namespace Mine
section
variable {prog : Program} {w : World} {A : Around} {s : Shared} {K : Frag} {p : Program} {loose : List Str} {mean : ExcName → Option Value} {mg mb : Str → Option Value}
  {R : Result → Shared → Prop} {name qual : Str} {params : Arguments} {body : List Stmt} {scope : Scope} {dV kV doc pm cdv ct oc : Value} {an od : Option Addr} {osl : Array (Option Value)} {f : Addr} {args : Args} {binds : List (Str × Value)}
theorem enter_gen (X : K.In s.heap) (T : Top p loose mean mg mb s.heap)
    (ho : K.lookup f = some ⟨oc, od, .func (fnOf name qual params body scope dV kV doc pm an cdv ct), osl⟩) (hcd : codeIn K cdv qual = true) (hroom : A.depth < recursionLimit)
    (hbind : bindArgs (fnOf name qual params body scope dV kV doc pm an cdv ct) args = pure binds) (hloc : ∀ y ∈ binds, scope.names.lookup y.1 = some .local)
    (h : ∀ h₁ tk nm qn, (∀ b o, s.heap.get? b = some o → h₁.get? b = some o) → h₁.Ns s.heap.objs.size (fun y => binds.reverse.lookup y) →
      h₁.get? (s.heap.objs.size + 1) = some { cls := .type "generator", data := .fields #[.int s.gens.size 0, nm, qn] } → s.heap.objs.size + 1 < h₁.objs.size →
      R (.ok (.ret (.ref (s.heap.objs.size + 1)))) { s with heap := h₁, toks := tk, gens := s.gens.push (.fresh (.func body (envOf qual scope s.heap.objs.size f cdv))) })
    (hco : scope.isCoroutine = false) (hgen : scope.isGenerator = true) (hk : scope.kind = .function) (hcell : ∀ x ∈ scope.names, x.2 ≠ .cell) : codeAny (model prog w) A (.call (.ref f) args) R s := by
  refine codeAny_call_generator hroom (X _ _ ho) rfl hco hgen rfl (codeRec_of X hcd) (wpAny_of_eq hbind ?_)
  refine wpAny_newFunctionEnv hcell hloc (fun h₀ hns hsb => ⟨T.nolimit.fresh _ hsb, ?_⟩) hk
  have hsz : h₀.objs.size = s.heap.objs.size + 1 := by rw [hsb.1, Heap.size_push]
  have e := h (h₀.push { cls := .type "generator", data := .fields #[.int s.gens.size 0, .str name (s.toks + binds.length), .str qual (s.toks + binds.length + 1)] }) (s.toks + binds.length + 1 + 1) _ _ (fun b o e => Heap.get?_push_of_some _ (hsb.extBut b o (Nat.ne_of_lt (Heap.lt_size e)) (Heap.get?_push_of_some _ e)))
    (hns.push _) (by rw [← hsz]; exact Heap.get?_push_size _ rfl) (by rw [Heap.size_push, hsz]; exact Nat.lt_succ_self _)
  rw [← hsz] at e
  exact e
end
end Mine
end

section
open PySem PySem.W PyProof.Rows PySem.Calls PySem.Spec
set_option linter.unusedVariables false
set_option maxRecDepth 100000
namespace Mine
theorem kf5 (w : World) : hd.heap_39 w.params = hd.heap_39 w.params ∧ PySem.Challenge.rw_wk0002_01.row.prog = PySem.Challenge.rw_wk0002_01.row.prog := by w_top off; k_fill; exact ⟨rfl, rfl⟩
theorem wpAny_Constant_int {M : Model} {A : Around} {E : Value → Shared → Prop} {s : Shared} {env : Env} {i : Int} {k : Nat} {pos : Pos} {Q : Value → Shared → Prop} (h : ∀ tk, Q (.int i s.toks) { s with toks := tk }) : wpAny M A (eval (.Constant (.int i) k pos) env) Q E s := fun _ _ _ => h _
theorem grp_fin (w : World) (mean : ExcName → Option Value) (mg mb : Str → Option Value) {A : Around} {s : Shared} {rr : Addr} {vs : List Value} {ns : List Int} {f : Nat → Int} {Mut : Addr → Prop} {D : Nat → Prop} {Q E : Value → Shared → Prop}
    (X : (hd.heap_39 w.params).In s.heap) (T : Top hd.view_39 (looseW hd.view_39 [Str.ofString "_twin_re_1", Str.ofString "_twin_re_2"]) mean mg mb s.heap) (hh : A.handled = none) (hroom : A.depth < recursionLimit)
    (hl : s.heap.IsList rr vs.toArray) (hi : IntsAre vs ns) (hz : ∀ z ∈ ns.takeWhile (· != 127), z ≠ 0) (hf : ∀ j < (ns.takeWhile (· != 127)).length, f ((ns.takeWhile (· != 127)).length - 1 - j) = (ns.takeWhile (· != 127)).getD j 0)
    (hMut : ∀ b, Mut b → b < s.heap.objs.size ∧ b ≠ mainGlobals ∧ b ≠ rr)
    (h : ∀ h' tk G, (∀ b o, s.heap.get? b = some o → h'.get? b = some o) → (AllBare s.gens → AllBare G) →
      GA PySem.Challenge.rw_wk0002_01.row.prog w A.in1 (s.heap.objs.size + 1) s.heap.objs.size s.gens.size f Mut D (ns.takeWhile (· != 127)).length { s with heap := h', toks := tk, gens := G } → Q (.ref (s.heap.objs.size + 1)) { s with heap := h', toks := tk, gens := G }) :
    wpAny (model PySem.Challenge.rw_wk0002_01.row.prog w) A (call (.ref 38) [.ref rr]) Q E s := by
  refine wpAny_call ?_
  have hcm : mg "CHAR_MAX" = some (.int 127 284) := by
    refine mg_of (v := .int 127 284) X T.g ?_
    k_is
  k_dflt (refine' enter_gen X T ?k6 ?k7 hroom ?k9 ?kB ?_ ?c2 ?c3 ?c4 ?c5)
  case k6 => k_is
  case k7 => k_is
  case k9 => exact rfl
  case c5 => decide
  case kB => exact locs rfl
  case c2 => exact rfl
  case c3 => exact rfl
  case c4 => exact rfl
  intro h₁ tk nm qn hkeep hns hgen hsz
  refine h h₁ tk _ hkeep (fun hb => hb.push rfl) ⟨⟨_, nm, qn, hgen, rfl, rfl, rfl⟩, T.nolimit.keeps hkeep, _, Array.getElem?_push_size .., fun _ s'' hk => ?_⟩
  have nL : ¬ Mut s.heap.objs.size := fun hm => Nat.lt_irrefl _ (hMut _ hm).1
  have nG : ¬ Mut mainGlobals := fun hm => (hMut _ hm).2.1 rfl
  have nR : ¬ Mut rr := fun hm => (hMut _ hm).2.2 rfl
  have hgl := T.g.lt
  obtain ⟨orr, horr, _⟩ := id hl
  have hr := Heap.lt_size horr
  have hns'' := hns.at' fun o e => hk _ o nL e
  have hmg'' := (T.g.keeps hkeep).at' fun o e => hk _ o nG e
  have hl'' := hl.at fun o e => hk _ o nR (hkeep _ _ e)
  have hsz'' : s.heap.objs.size + 1 < s''.heap.objs.size := Heap.lt_size (hk _ _ (fun hm => absurd (hMut _ hm).1 (Nat.not_lt.mpr (Nat.le_succ _))) hgen)
  refine' gen_finL (A := A.in1) (f := f) (g := "grouping") (x := "interval") (y := "last_interval") (mg := mg) ?hL ?P hh ?hns ?hg ?hmg ?hl hi ?h1 ?h2 ?h3 ?hM hz hf
  case hL => rfl
  case hns => exact hns''
  case hmg => exact hmg''
  case hl => exact hl''
  case hg => rfl
  case hM => exact hMut
  case h1 => exact Nat.ne_of_lt hr
  case h2 => exact Nat.succ_ne_self _
  case h3 => exact hsz''
  case P =>
    refine { loc := Ne.symm (Nat.ne_of_lt hgl), ht1 := ?_, hb1 := ?_, ht2 := ?_, he1 := ?_, hS4 := ?_, hS0 := ?_, hit := ?_, hset := fun _ => rfl, hgy := by decide, ht3 := ?_, htw := ?_, hey := ?_, hx := rfl, hp := rfl, hco := rfl, hin := rfl, hxy := by decide }
    · intro A s m i t Q hn hg hx hq
      exact wpAny_isTrue_Compare1 (wpAny_Name (wpAny_loadName_local rfl rfl hn hx (Name_function_global rfl rfl (loadGlobal_global hg hcm (eq_int (wpAny_truthy_bool hq))))))
    · intro A s Q hq
      exact wpAny_execs_cons (wpAny_Return_none hq)
    · intro A s m i t Q hn hx hq
      exact wpAny_isTrue_Compare1 (wpAny_Name (wpAny_loadName_local rfl rfl hn hx (wpAny_Constant_int fun tk => eq_int (wpAny_truthy_bool (hq tk)))))
    · intro A s m v Q hn hx hq
      exact wpAny_Name (wpAny_loadName_local rfl rfl hn hx hq)
    · intro A s m v Q hn hx hq
      exact wpAny_Assign_Name (wpAny_Name (wpAny_loadName_local rfl rfl hn hx (wpAny_storeName_local rfl hn hq)))
    · intro A s m Q hn hq
      exact wpAny_Assign_Name (Constant_none (wpAny_storeName_local rfl hn hq))
    · intro A s m v Q hn hx hq
      exact wpAny_Name (wpAny_loadName_local rfl rfl hn hx hq)
    · intro A s m i t Q hn hx hq
      refine wpAny_isTrue_Compare1 (wpAny_Name (wpAny_loadName_local rfl rfl hn hx (Constant_none ?_)))
      exact is_int_none (wpAny_truthy_bool hq)
    · intro A s Q hq
      exact fun _ _ _ => hq
    · intro A s m v Q hn hx hq
      exact wpAny_Name (wpAny_loadName_local rfl rfl hn hx hq)
theorem grp_inf (w : World) (mean : ExcName → Option Value) (mg mb : Str → Option Value) {A : Around} {s : Shared} {rr : Addr} {vs : List Value} {u v : Int} {n : Nat} {f : Nat → Int} {Mut : Addr → Prop} {D : Nat → Prop} {Q E : Value → Shared → Prop}
    (X : (hd.heap_39 w.params).In s.heap) (T : Top hd.view_39 (looseW hd.view_39 [Str.ofString "_twin_re_1", Str.ofString "_twin_re_2"]) mean mg mb s.heap) (hh : A.handled = none) (hroom : A.depth < recursionLimit)
    (hl : s.heap.IsList rr vs.toArray) (hi : IntsAre vs [u, v, 0]) (hD : ¬ D 0) (hu : u ≠ 127 ∧ u ≠ 0) (hv : v ≠ 127 ∧ v ≠ 0) (hf0 : f (n + 2) = u) (hf : ∀ j ≤ n + 1, f j = v)
    (hMut : ∀ b, Mut b → b < s.heap.objs.size ∧ b ≠ mainGlobals ∧ b ≠ rr)
    (h : ∀ h' tk G, (∀ b o, s.heap.get? b = some o → h'.get? b = some o) → (AllBare s.gens → AllBare G) →
      GA PySem.Challenge.rw_wk0002_01.row.prog w A.in1 (s.heap.objs.size + 1) s.heap.objs.size s.gens.size f Mut D (n + 3) { s with heap := h', toks := tk, gens := G } → Q (.ref (s.heap.objs.size + 1)) { s with heap := h', toks := tk, gens := G }) :
    wpAny (model PySem.Challenge.rw_wk0002_01.row.prog w) A (call (.ref 38) [.ref rr]) Q E s := by
  refine wpAny_call ?_
  have hcm : mg "CHAR_MAX" = some (.int 127 284) := by
    refine mg_of (v := .int 127 284) X T.g ?_
    k_is
  k_dflt (refine' enter_gen X T ?k6 ?k7 hroom ?k9 ?kB ?_ ?c2 ?c3 ?c4 ?c5)
  case k6 => k_is
  case k7 => k_is
  case k9 => exact rfl
  case c5 => decide
  case kB => exact locs rfl
  case c2 => exact rfl
  case c3 => exact rfl
  case c4 => exact rfl
  intro h₁ tk nm qn hkeep hns hgen hsz
  refine h h₁ tk _ hkeep (fun hb => hb.push rfl) ⟨⟨_, nm, qn, hgen, rfl, rfl, rfl⟩, T.nolimit.keeps hkeep, _, Array.getElem?_push_size .., fun _ s'' hk => ?_⟩
  have nL : ¬ Mut s.heap.objs.size := fun hm => Nat.lt_irrefl _ (hMut _ hm).1
  have nG : ¬ Mut mainGlobals := fun hm => (hMut _ hm).2.1 rfl
  have nR : ¬ Mut rr := fun hm => (hMut _ hm).2.2 rfl
  have hgl := T.g.lt
  obtain ⟨orr, horr, _⟩ := id hl
  have hr := Heap.lt_size horr
  have hns'' := hns.at' fun o e => hk _ o nL e
  have hmg'' := (T.g.keeps hkeep).at' fun o e => hk _ o nG e
  have hl'' := hl.at fun o e => hk _ o nR (hkeep _ _ e)
  have hsz'' : s.heap.objs.size + 1 < s''.heap.objs.size := Heap.lt_size (hk _ _ (fun hm => absurd (hMut _ hm).1 (Nat.not_lt.mpr (Nat.le_succ _))) hgen)
  refine' gen_infL (A := A.in1) (f := f) (g := "grouping") (x := "interval") (y := "last_interval") (mg := mg) ?hL ?P ?hns ?hg ?hmg ?hl hi ?h1 ?h2 ?h3 ?hM hD hu hv hf0 hf
  case hL => rfl
  case hns => exact hns''
  case hmg => exact hmg''
  case hl => exact hl''
  case hg => rfl
  case hM => exact hMut
  case h1 => exact Nat.ne_of_lt hr
  case h2 => exact Nat.succ_ne_self _
  case h3 => exact hsz''
  case P =>
    refine { loc := Ne.symm (Nat.ne_of_lt hgl), ht1 := ?_, hb1 := ?_, ht2 := ?_, he1 := ?_, hS4 := ?_, hS0 := ?_, hit := ?_, hset := fun _ => rfl, hgy := by decide, ht3 := ?_, htw := ?_, hey := ?_, hx := rfl, hp := rfl, hco := rfl, hin := rfl, hxy := by decide }
    · intro A s m i t Q hn hg hx hq
      exact wpAny_isTrue_Compare1 (wpAny_Name (wpAny_loadName_local rfl rfl hn hx (Name_function_global rfl rfl (loadGlobal_global hg hcm (eq_int (wpAny_truthy_bool hq))))))
    · intro A s Q hq
      exact wpAny_execs_cons (wpAny_Return_none hq)
    · intro A s m i t Q hn hx hq
      exact wpAny_isTrue_Compare1 (wpAny_Name (wpAny_loadName_local rfl rfl hn hx (wpAny_Constant_int fun tk => eq_int (wpAny_truthy_bool (hq tk)))))
    · intro A s m v Q hn hx hq
      exact wpAny_Name (wpAny_loadName_local rfl rfl hn hx hq)
    · intro A s m v Q hn hx hq
      exact wpAny_Assign_Name (wpAny_Name (wpAny_loadName_local rfl rfl hn hx (wpAny_storeName_local rfl hn hq)))
    · intro A s m Q hn hq
      exact wpAny_Assign_Name (Constant_none (wpAny_storeName_local rfl hn hq))
    · intro A s m v Q hn hx hq
      exact wpAny_Name (wpAny_loadName_local rfl rfl hn hx hq)
    · intro A s m i t Q hn hx hq
      refine wpAny_isTrue_Compare1 (wpAny_Name (wpAny_loadName_local rfl rfl hn hx (Constant_none ?_)))
      exact is_int_none (wpAny_truthy_bool hq)
    · intro A s Q hq
      exact fun _ _ _ => hq
    · intro A s m v Q hn hx hq
      exact wpAny_Name (wpAny_loadName_local rfl rfl hn hx hq)
end Mine
end

section
open PySem PySem.W PyProof.Rows PySem.Calls PySem.Spec
set_option linter.unusedVariables false
set_option maxRecDepth 100000
namespace Mine
/-- all that stands beside the frame and one object of ours, as a ledger -/
theorem own_ledger {h₀ h : Heap} {L l : Addr} {m : Str → Option Value} {o : Obj} (F : Fr h₀ L h m) (hl : h.get? l = some o) (hn : h₀.get? l = none) (hne : l ≠ L) :
    ∃ own, News h₀ L h ((l, o) :: own) ∧ OwnOff own [l] ∧ ∀ b ob, b ≠ L → b ≠ l → h₀.get? b = none → h.get? b = some ob → (b, ob) ∈ own := by
  refine ⟨ownOf h₀ ((List.range h.objs.size).filter fun b => b != L && b != l) h, ?_, ?_, ?_⟩
  · intro p hp
    rcases List.mem_cons.mp hp with rfl | hp
    · exact ⟨hl, hne, hn⟩
    · exact news_ownOf (L := L) (fun hm => by simpa using (List.mem_filter.mp hm).2) p hp
  · intro p hp b hb
    rw [List.mem_singleton.mp hb]
    have := ownOf_sub p hp
    have := (List.mem_filter.mp this).2
    simp at this
    exact this.2
  · intro b ob h1 h2 h3 h4
    refine mem_ownOf (List.mem_filter.mpr ⟨List.mem_range.mpr (Heap.lt_size h4), ?_⟩) h3 h4
    simp [h1, h2]
theorem kept_of {h₀ : Heap} {L l : Addr} {m m' : Str → Option Value} {own news : List (Addr × Obj)} {s s' : Shared} (F : Fr h₀ L s.heap m) (F' : Fr h₀ L s'.heap m') (N' : News h₀ L s'.heap news) (hs : ∀ p ∈ own, p ∈ news)
    (ho : ∀ b ob, b ≠ L → b ≠ l → h₀.get? b = none → s.heap.get? b = some ob → (b, ob) ∈ own) : Kept (fun b => b = L ∨ b = l) s s' := by
  intro b o hb e
  cases hq : h₀.get? b with
  | some o' =>
    have : o' = o := by have := F.keep b o' hq; rw [e] at this; exact (Option.some.inj this).symm
    exact this ▸ F'.keep b o' hq
  | none => exact N'.get (hs _ (ho b o (fun q => hb (.inl q)) (fun q => hb (.inr q)) hq e))
end Mine
end

section
open PySem PySem.W PyProof.Rows PySem.Calls PySem.Spec
set_option linter.unusedVariables false
set_option maxRecDepth 100000
namespace Mine
theorem keep1 {h₀ h : Heap} {L : Addr} {m : Str → Option Value} {a : Str} {v : Value} (F : Fr h₀ L h m) (hm : m a = some v) : Fr h₀ L h (fun y => if y = a then some v else m y) := by
  have : m = (fun y => if y = a then some v else m y) := by
    funext y; by_cases h : y = a
    · subst h; simp [hm]
    · simp [h]
  exact this ▸ F
section
variable {prog : Program} {w : World} {A : Around} {E : Value → Shared → Prop} {s : Shared}
/-- a while loop with what holds ahead of each turn -/
theorem wh_loop {test : Expr} {body : List Stmt} {pos : Pos} {env : Env} {Q : Flow → Shared → Prop} (I : Nat → Shared → Prop)
    (turn : ∀ n s, I n s → wpAny (model prog w) A (isTrue test env (eval test env)) (fun b s₂ =>
        if b then wpAny (model prog w) A (execs body env) (fun f s₃ => match f with
            | .next | .cont => StopAt (∃ m, m < n ∧ I m s₃)
            | .brk => Q .next s₃
            | .ret v => Q (.ret v) s₃) (fun _ _ => False) s₂
        else Q .next s₂) (fun _ _ => False) s) (n : Nat) (h : I n s) : wpAny (model prog w) A (exec (.While test body [] pos) env) Q E s := by
  refine wpAny_While (codeAny_whileLoop I (fun n s hI => ?_) n h)
  refine wpAny_mono (turn n s hI) (fun b s₂ h₂ => ?_) fun _ _ q => q.elim
  cases b with
  | false => exact wpAny_execs_nil h₂
  | true =>
    refine wpAny_mono h₂ (fun f s₃ h₃ => ?_) fun _ _ q => q.elim
    cases f <;> exact h₃
theorem item_neg {value slice : Expr} {l : Addr} {items : Array Value} {k : Int} {u : Tok} {x : Value} {Q : Value → Shared → Prop} (hl : s.heap.IsList l items)
    (h0 : k < 0) (h1 : 0 ≤ k + items.size) (hfit : -(2 ^ 63) ≤ k) (hx : items[(k + items.size).toNat]? = some x) (h : Q x s)
    (hs : subscripted slice false (.ref l) (.int k u) = operate [.ref l, .int k u] (getItem (.ref l) (.int k u)) := by with_unfolding_all rfl) (hg : ∀ r, letTemporaryGo value (.ref l) r = pure () := by intro _; with_unfolding_all rfl) :
    wpAny (model prog w) A (subscriptTail value slice (.ref l) (.int k u)) Q E s :=
  subscriptTail_builtin hl.typeIs slot_list_getitem.lookup (wpAny_getItem_list_neg hl h0 (by omega) hfit hx h) hs hg
end
end Mine
end

section
open PySem PySem.W PyProof.Rows PySem.Calls PySem.Spec
set_option linter.unusedVariables false
set_option maxRecDepth 100000
namespace Mine
section
variable {prog : Program} {w : World} {A : Around} {s : Shared} {env : Env} {h₀ : Heap}
/-- a for loop over enumerate of a list that ends by a return at the item k -/
theorem enum_find {R : Result → Shared → Prop} {xi xc : Str} {pk pv pt : Pos} {x1 : Nat} {body orelse : List Stmt} {e it l : Addr} {items : Array Value} {k : Nat} (mm : (Str → Option Value) → Str → Option Value)
    (hh : A.handled = none) (hxi : env.kindOf xi = some .local) (hxc : env.kindOf xc = some .local)
    (hp : (env.scope.kind == .class || (env.scope.kind == .module && env.locals != env.globals)) = false)
    (hei : e ≠ it) (hle : l ≠ e) (hli : l ≠ it) (hL : env.locals ∉ [e, it, l]) (hne : h₀.get? e = none) (hni : h₀.get? it = none)
    (he : IsEnum s.heap e it 0 .none) (hit : s.heap.IsListIter it l 0) (hl : s.heap.IsList l items) (hk : k < items.size)
    (step : ∀ i v tk m₁ s₁ own, (∃ h t, s₁ = { s with heap := h, toks := t }) → items[i]? = some v → i ≤ k →
      Fr h₀ env.locals s₁.heap (fun y => if y = xc then some v else if y = xi then some (.int i tk) else mm m₁ y) → News h₀ env.locals s₁.heap own →
      wpAny (model prog w) A (execs body env) (fun f s₂ => match f with
        | .next | .cont => StopAt (i < k ∧ ∃ h t m₂, s₂ = { s₁ with heap := h, toks := t } ∧ Fr h₀ env.locals h (mm m₂) ∧ News h₀ env.locals h own)
        | .brk => False
        | .ret v => R (.ok (.ret v)) s₂) (fun _ _ => False) s₁)
    (h0 : ∃ m, Fr h₀ env.locals s.heap (mm m)) : codeAny (model prog w) A (.forLoop (.Tuple [.Name xi pk, .Name xc pv] x1 pt) (.ref e) body orelse env) R s := by
  have W := WalksT.enumerate (prog := prog) (w := w) (A := A) hh e it l hei hle hli items
  have hLe : env.locals ≠ e := fun q => hL (q ▸ .head _)
  have hLi : env.locals ≠ it := fun q => hL (q ▸ .tail _ (.head _))
  have hLw : env.locals ∉ [e, it] := fun q => hL (W.sub _ q)
  have old : ∀ b o, h₀.get? b = some o → b ∉ [e, it] := by
    intro b o x hb
    rcases List.mem_cons.mp hb with q | hb
    · rw [q, hne] at x; cases x
    · rw [List.mem_singleton.mp hb, hni] at x; cases x
  refine codeAny_forLoop_any (fun n s' => ∃ i h t m, s' = { s with heap := h, toks := t } ∧ i ≤ k ∧ n = k - i ∧ ((∃ o, IsEnum h e it i o) ∧ h.IsListIter it l i ∧ h.IsList l items) ∧ Fr h₀ env.locals h (mm m)) ?_ (k - 0)
    (let ⟨m, F⟩ := h0; ⟨0, s.heap, s.toks, m, rfl, Nat.zero_le _, rfl, ⟨⟨_, he⟩, hit, hl⟩, F⟩)
  rintro n s' ⟨i, h, t, m, rfl, hi, rfl, hst, F⟩
  refine W.item i _ _ _ (Nat.lt_of_le_of_lt hi hk) hst fun T vals h₁ tk₁ hPt _ hT hMid hk₁ => ?_
  obtain ⟨ti, v, hv, rfl⟩ := hPt
  refine W.go _ x1 pt i T _ _ _ hMid fun h₂ hst₂ hk₂ => ?_
  refine wpAny_assign_Tuple hh (hT.at fun o x => hk₂ T o (W.apart i T h₁ hMid) x) rfl rfl fun h₃ hx₃ => ?_
  have up : ∀ b o, b ∉ [e, it] → h.get? b = some o → h₃.get? b = some o := fun b o hb x => (show Heap.ExtBut h₂.objs.size h₂ h₃ from hx₃) b o (Nat.ne_of_lt (Heap.lt_size (hk₂ b o hb (hk₁ b o hb x)))) (hk₂ b o hb (hk₁ b o hb x))
  have F₃ : Fr h₀ env.locals h₃ (mm m) := ⟨F.ns.at' fun o x => up _ o hLw x, fun b o x => up b o (old b o x) (F.keep b o x), F.above⟩
  show wpAny _ A (do holding [v] (assign (.Name xi pk) env (.int i ti)); do holding [] (assign (.Name xc pv) env v); pure ()) _ _ _
  refine wpAny_bind (wpAny_holding (wpAny_assign_Name (wpAny_storeName_local hxi F₃.ns (fun h₄ hn₄ hs₄ => ?_) hp)))
  have F₄ := F₃.set hn₄ hs₄
  refine wpAny_bind (wpAny_holding (wpAny_assign_Name (wpAny_storeName_local hxc F₄.ns (fun h₅ hn₅ hs₅ => wpAny_pure ?_) hp)))
  have F₅ := F₄.set hn₅ hs₅
  have hst₅ : ((∃ o, IsEnum h₅ e it (i + 1 : Nat) o) ∧ h₅.IsListIter it l (i + 1) ∧ h₅.IsList l items) := W.frame (i + 1) _ _ hst₂ fun b hb o x => (show Heap.SameBut env.locals h₄ h₅ from hs₅).extBut b o (fun q => hL (q ▸ hb)) ((show Heap.SameBut env.locals h₃ h₄ from hs₄).extBut b o (fun q => hL (q ▸ hb)) ((show Heap.ExtBut h₂.objs.size h₂ h₃ from hx₃) b o (Nat.ne_of_lt (Heap.lt_size x)) x))
  refine wpAny_mono (step i v ti m _ (ownOf h₀ [e, it, l] h₅) ⟨_, _, rfl⟩ hv hi F₅ (news_ownOf hL)) (fun f s₃ h₆ => ?_) fun _ _ q => q.elim
  cases f with
  | brk => exact h₆.elim
  | ret v => exact h₆
  | _ =>
    obtain ⟨hik, h', t', m₂, rfl, F₆, N₆⟩ := (show _ ∧ _ from h₆)
    refine ⟨k - (i + 1), by omega, i + 1, h', t', m₂, rfl, hik, rfl, W.frame (i + 1) _ _ hst₅ fun b hb o x => ?_, F₆⟩
    cases hn : h₀.get? b with
    | some o₀ =>
      have : o₀ = o := by have q := F₅.keep b o₀ hn; rw [x] at q; exact (Option.some.inj q).symm
      exact this ▸ F₆.keep b o₀ hn
    | none => exact (N₆ _ (mem_ownOf hb hn x)).1
end
end Mine
end

section
open PySem PySem.W PyProof.Rows PySem.Calls PySem.Spec
set_option linter.unusedVariables false
set_option maxRecDepth 100000
namespace Mine
section
variable {prog : Program} {w : World} {A : Around} {s : Shared} {env : Env} {h₀ : Heap}
/-- a for loop over anything that walks; the frame's map may grow, the ledger `news` stays -/
theorem walk_loop {R : Result → Shared → Prop} {x : Str} {px : Pos} {body : List Stmt} {I : Addr} {fp wr : List Addr} {n : Nat} {P : Nat → Value → Prop} {St : Nat → Heap → Prop} {α : Type} (mm : α → Str → Option Value) (nn : α → List (Addr × Obj)) (J : Nat → α → Heap → Prop)
    (W : Walks prog w A I fp wr n P St) (hx : env.kindOf x = some .local) (hp : (env.scope.kind == .class || (env.scope.kind == .module && env.locals != env.globals)) = false)
    (hL : env.locals ∉ fp) (hwr : ∀ b ∈ wr, h₀.get? b = none) (hnw : ∀ a, ∀ p ∈ nn a, p.1 ∉ wr) (hJ : ∀ i a h h', J i a h → (∀ b o, b ∉ wr → b ≠ env.locals → h.get? b = some o → h'.get? b = some o) → J i a h')
    (step : ∀ i v m₁ s₁ own, (∃ h t, s₁ = { s with heap := h, toks := t }) → s.toks ≤ s₁.toks → i < n → P i v → J i m₁ s₁.heap →
      Fr h₀ env.locals s₁.heap (fun y => if y = x then some v else mm m₁ y) → News h₀ env.locals s₁.heap (own ++ nn m₁) → (∀ p ∈ own, p.1 ∈ fp) →
      wpAny (model prog w) A (execs body env) (fun f s₂ => match f with
        | .next | .cont => StopAt (∃ h t m₂, s₂ = { s₁ with heap := h, toks := t } ∧ Fr h₀ env.locals h (mm m₂) ∧ News h₀ env.locals h (own ++ nn m₂) ∧ J (i + 1) m₂ h)
        | .brk => False
        | .ret v => R (.ok (.ret v)) s₂) (fun _ _ => False) s₁)
    (done : ∀ h t m₁, Fr h₀ env.locals h (mm m₁) → News h₀ env.locals h (nn m₁) → J n m₁ h → s.toks ≤ t → R (.ok .next) { s with heap := h, toks := t })
    (hst : St 0 s.heap) (h0 : ∃ m, Fr h₀ env.locals s.heap (mm m) ∧ News h₀ env.locals s.heap (nn m) ∧ J 0 m s.heap) : codeAny (model prog w) A (.forLoop (.Name x px) (.ref I) body [] env) R s := by
  have hLw : env.locals ∉ wr := fun h => hL (W.sub _ h)
  have old : ∀ b o, h₀.get? b = some o → b ∉ wr := fun b o e hb => by rw [hwr b hb] at e; cases e
  refine codeAny_forLoop (fun k s' => ∃ i h t m, s' = { s with heap := h, toks := t } ∧ i ≤ n ∧ k = n - i ∧ s.toks ≤ t ∧ St i h ∧ Fr h₀ env.locals h (mm m) ∧ News h₀ env.locals h (nn m) ∧ J i m h) ?_ (n - 0)
    (let ⟨m, F, N, hj⟩ := h0; ⟨0, s.heap, s.toks, m, rfl, Nat.zero_le _, rfl, Nat.le_refl _, hst, F, N, hj⟩)
  rintro k s' ⟨i, h, t, m, rfl, hi, rfl, htk, hS, F, N', hJi⟩
  have next : ∀ h₁ : Heap, (∀ b o, b ∉ wr → h.get? b = some o → h₁.get? b = some o) → Fr h₀ env.locals h₁ (mm m) ∧ News h₀ env.locals h₁ (nn m) := fun h₁ hk₁ =>
    ⟨⟨F.ns.at' fun o e => hk₁ _ o hLw e, fun b o e => hk₁ b o (old b o e) (F.keep b o e), F.above⟩, fun p hp => ⟨hk₁ _ _ (hnw m p hp) (N' p hp).1, (N' p hp).2⟩⟩
  by_cases hlt : i < n
  · refine wpAny_with_toks (n := s.toks) htk (W.item i _ _ _ hlt hS fun v h₁ tk₁ hP hS₁ hk₁ htk₁ => ?_)
    obtain ⟨F₁, N₁⟩ := next h₁ hk₁
    refine wpAny_assign_Name (wpAny_storeName_local hx F₁.ns (fun h₂ hn₂ hs₂ => ?_) hp)
    have F₂ := F₁.set hn₂ hs₂
    have hs₂' : Heap.SameBut env.locals h₁ h₂ := hs₂
    have hS₂ : St (i + 1) h₂ := W.frame _ _ _ hS₁ fun b hb o e => hs₂'.extBut b o (fun q => hL (q ▸ hb)) e
    have N₂ : News h₀ env.locals h₂ (nn m) := N₁.set hs₂
    refine wpAny_with_toks (n := s.toks) (Nat.le_succ_of_le htk₁) (wpAny_mono (step i v m _ (ownOf h₀ fp h₂) ⟨_, _, rfl⟩ (Nat.le_succ_of_le htk₁) hlt hP (hJ _ _ _ _ hJi fun b o hb hbL e => hs₂'.extBut b o hbL (hk₁ b o hb e)) F₂ ((news_ownOf hL).append N₂) ownOf_sub) (fun f s₃ h₆ htk₃ => ?_) fun _ _ q => q.elim)
    cases f with
    | brk => exact h₆.elim
    | ret v => exact h₆
    | _ =>
      obtain ⟨h', t', m₂, rfl, F₆, N₆, hJ₆⟩ := (show Exists _ from h₆)
      refine ⟨n - (i + 1), by omega, i + 1, h', t', m₂, rfl, hlt, rfl, htk₃, W.frame (i + 1) _ _ hS₂ fun b hb o x => ?_, F₆, fun p hp => N₆ p (List.mem_append_right _ hp), hJ₆⟩
      cases hn : h₀.get? b with
      | some o₀ =>
        have : o₀ = o := by have q := F₂.keep b o₀ hn; rw [x] at q; exact (Option.some.inj q).symm
        exact this ▸ F₆.keep b o₀ hn
      | none => exact (N₆ _ (List.mem_append_left _ (mem_ownOf hb hn x))).1
  · have hin : i = n := by omega
    subst hin
    refine wpAny_with_toks (n := s.toks) htk (W.done _ _ _ hS fun h₁ tk₁ hk₁ htk₁ => wpAny_execs_nil ?_)
    obtain ⟨F₁, N₁⟩ := next h₁ hk₁
    exact done h₁ tk₁ m F₁ N₁ (hJ _ _ _ _ hJi fun b o hb hbL e => hk₁ b o hb e) htk₁
/-- the same over range(lo, hi), from the iterator just made -/
theorem range_loop {R : Result → Shared → Prop} {x : Str} {px : Pos} {body : List Stmt} {I : Addr} {lo : Int} {n : Nat} {α : Type} (mm : α → Str → Option Value) (nn : α → List (Addr × Obj)) (J : Nat → α → Heap → Prop) (hh : A.handled = none)
    (hx : env.kindOf x = some .local) (hp : (env.scope.kind == .class || (env.scope.kind == .module && env.locals != env.globals)) = false)
    (hst : IsRangeIter s.heap I lo n 1) (hL : env.locals < I) (hwr : h₀.get? I = none) (hnw : ∀ a, ∀ p ∈ nn a, p.1 ≠ I) (hJ : ∀ i a h h', J i a h → (∀ b o, b ≠ I → b ≠ env.locals → h.get? b = some o → h'.get? b = some o) → J i a h')
    (step : ∀ (i : Nat) tv m₁ s₁ own, (∃ h t, s₁ = { s with heap := h, toks := t }) → s.toks ≤ s₁.toks → i < n → J i m₁ s₁.heap →
      Fr h₀ env.locals s₁.heap (fun y => if y = x then some (.int (lo + i) tv) else mm m₁ y) → News h₀ env.locals s₁.heap (own ++ nn m₁) → (∀ p ∈ own, p.1 = I) →
      wpAny (model prog w) A (execs body env) (fun f s₂ => match f with
        | .next | .cont => StopAt (∃ h t m₂, s₂ = { s₁ with heap := h, toks := t } ∧ Fr h₀ env.locals h (mm m₂) ∧ News h₀ env.locals h (own ++ nn m₂) ∧ J (i + 1) m₂ h)
        | .brk => False
        | .ret v => R (.ok (.ret v)) s₂) (fun _ _ => False) s₁)
    (done : ∀ h t m₁, Fr h₀ env.locals h (mm m₁) → News h₀ env.locals h (nn m₁) → J n m₁ h → s.toks ≤ t → R (.ok .next) { s with heap := h, toks := t })
    (h0 : ∃ m, Fr h₀ env.locals s.heap (mm m) ∧ News h₀ env.locals s.heap (nn m) ∧ J 0 m s.heap) : codeAny (model prog w) A (.forLoop (.Name x px) (.ref I) body [] env) R s := by
  refine walk_loop mm nn J (Walks.range hh I lo 1 n) hx hp (fun q => Nat.ne_of_lt hL (List.mem_singleton.mp q)) (fun b hb => List.mem_singleton.mp hb ▸ hwr) (fun a p hp q => hnw a p hp (List.mem_singleton.mp q))
    (fun i a h h' hj hk => hJ i a h h' hj fun b o hb hbL e => hk b o (fun q => hb (List.mem_singleton.mp q)) hbL e) (fun i v m₁ s₁ own hs ht hi hP hj F N ho => ?_) done ?_ h0
  · obtain ⟨tv, rfl⟩ := hP
    rw [Int.mul_one] at F
    exact step i tv m₁ s₁ own hs ht hi hj F N fun p hp => List.mem_singleton.mp (ho p hp)
  · have e1 : lo + ((0 : Nat) : Int) * 1 = lo := by simp
    have e2 : (n : Int) - ((0 : Nat) : Int) = n := by simp
    show IsRangeIter s.heap I (lo + ((0 : Nat) : Int) * 1) ((n : Int) - ((0 : Nat) : Int)) 1
    rw [e1, e2]; exact hst
/-- a for loop over range(lo, hi), from the range object -/
theorem range_for_ {E : Value → Shared → Prop} {R : Result → Shared → Prop} {x : Str} {px : Pos} {body : List Stmt} {r : Addr} {lo hi : Int} {t u v : Tok} {n : Nat} {α : Type} (mm : α → Str → Option Value) (nn : α → List (Addr × Obj)) (J : Nat → α → Heap → Prop) (hh : A.handled = none)
    (hx : env.kindOf x = some .local) (hp : (env.scope.kind == .class || (env.scope.kind == .module && env.locals != env.globals)) = false) (hr : IsRange s.heap r lo hi 1 t u v) (hn : (hi - lo).toNat = n) (hs : Builtin.Range.small lo hi 1 = true)
    (hL : env.locals < s.heap.objs.size) (hab : h₀.objs.size ≤ env.locals) (hnw : ∀ a, ∀ p ∈ nn a, p.1 < s.heap.objs.size) (hJ : ∀ i a h h', J i a h → (∀ b o, b < s.heap.objs.size → b ≠ env.locals → h.get? b = some o → h'.get? b = some o) → J i a h')
    (step : ∀ (i : Nat) tv m₁ s₁ own, (∃ h t, s₁ = { s with heap := h, toks := t }) → s.toks ≤ s₁.toks → i < n → J i m₁ s₁.heap →
      Fr h₀ env.locals s₁.heap (fun y => if y = x then some (.int (lo + i) tv) else mm m₁ y) → News h₀ env.locals s₁.heap (own ++ nn m₁) → (∀ p ∈ own, s.heap.objs.size ≤ p.1) →
      wpAny (model prog w) A (execs body env) (fun f s₂ => match f with
        | .next | .cont => StopAt (∃ h t m₂, s₂ = { s₁ with heap := h, toks := t } ∧ Fr h₀ env.locals h (mm m₂) ∧ News h₀ env.locals h (own ++ nn m₂) ∧ J (i + 1) m₂ h)
        | .brk => False
        | .ret v => R (.ok (.ret v)) s₂) (fun _ _ => False) s₁)
    (done : ∀ h t m₁, Fr h₀ env.locals h (mm m₁) → News h₀ env.locals h (nn m₁) → J n m₁ h → s.toks ≤ t → R (.ok .next) { s with heap := h, toks := t })
    (h0 : ∃ m, Fr h₀ env.locals s.heap (mm m) ∧ News h₀ env.locals s.heap (nn m) ∧ J 0 m s.heap) : wpAny (model prog w) A (pyIter (.ref r)) (fun it s₂ => codeAny (model prog w) A (.forLoop (.Name x px) it body [] env) R s₂) E s := by
  refine wpAny_pyIter_range hr hs ?_
  have hz : Builtin.Range.rangeSize lo hi 1 = (n : Int) := by rw [rangeSize_one]; split <;> omega
  have hk : ∀ b o, s.heap.get? b = some o → (s.heap.push { cls := .type "range_iterator", data := .fields #[rawInt lo, rawInt (Builtin.Range.rangeSize lo hi 1), rawInt 1] }).get? b = some o := fun b o e => Heap.get?_push_of_some _ e
  obtain ⟨m, F, N, hj⟩ := h0
  refine range_loop (h₀ := h₀) (I := s.heap.objs.size) mm nn J hh hx hp ?_ hL (Heap.get?_none_of_le (Nat.le_trans hab (Nat.le_of_lt hL))) (fun a p hp => Nat.ne_of_lt (hnw a p hp)) (fun i a h h' hj hk => hJ i a h h' hj fun b o hb hbL e => hk b o (Nat.ne_of_lt hb) hbL e)
    (fun i tv m₁ s₁ own hs ht hi hj F N ho => step i tv m₁ s₁ own hs ht hi hj F N fun p hp => Nat.le_of_eq (ho p hp).symm) done ⟨m, F.after hk, fun p hp => ⟨hk _ _ (N p hp).1, (N p hp).2⟩, hJ _ _ _ _ hj fun b o _ _ e => hk b o e⟩
  rw [hz]
  exact Heap.get?_push_size _ rfl
theorem range_for1 {E : Value → Shared → Prop} {R : Result → Shared → Prop} {x : Str} {px : Pos} {body : List Stmt} {hi : Int} {t : Tok} {α : Type} (mm : α → Str → Option Value) (nn : α → List (Addr × Obj)) (J : Nat → α → Heap → Prop) (n : Nat) (hh : A.handled = none)
    (hx : env.kindOf x = some .local) (hp : (env.scope.kind == .class || (env.scope.kind == .module && env.locals != env.globals)) = false) (hn : hi.toNat = n) (hs : -(2 ^ 62) ≤ hi ∧ hi < 2 ^ 62)
    (hL : env.locals < s.heap.objs.size) (hab : h₀.objs.size ≤ env.locals) (hnw : ∀ a, ∀ p ∈ nn a, p.1 < s.heap.objs.size) (hJ : ∀ i a h h', J i a h → (∀ b o, b < s.heap.objs.size + 1 → b ≠ env.locals → h.get? b = some o → h'.get? b = some o) → J i a h')
    (step : ∀ (i : Nat) tv m₁ s₁ own, (∃ h t, s₁ = { s with heap := h, toks := t }) → s.toks ≤ s₁.toks → i < n → J i m₁ s₁.heap →
      Fr h₀ env.locals s₁.heap (fun y => if y = x then some (.int i tv) else mm m₁ y) → News h₀ env.locals s₁.heap (own ++ nn m₁) → (∀ p ∈ own, s.heap.objs.size ≤ p.1) →
      wpAny (model prog w) A (execs body env) (fun f s₂ => match f with
        | .next | .cont => StopAt (∃ h t m₂, s₂ = { s₁ with heap := h, toks := t } ∧ Fr h₀ env.locals h (mm m₂) ∧ News h₀ env.locals h (own ++ nn m₂) ∧ J (i + 1) m₂ h)
        | .brk => False
        | .ret v => R (.ok (.ret v)) s₂) (fun _ _ => False) s₁)
    (done : ∀ h t m₁, Fr h₀ env.locals h (mm m₁) → News h₀ env.locals h (nn m₁) → J n m₁ h → s.toks ≤ t → R (.ok .next) { s with heap := h, toks := t })
    (h0 : ∃ m, Fr h₀ env.locals s.heap (mm m) ∧ News h₀ env.locals s.heap (nn m) ∧ J 0 m s.heap) : wpAny (model prog w) A (call (.type "range") [.int hi t]) (fun xv s₁ => wpAny (model prog w) A (pyIter xv) (fun it s₂ => codeAny (model prog w) A (.forLoop (.Name x px) it body [] env) R s₂) E s₁) E s := by
  refine call_range_1 ?_
  have hk : ∀ b o, s.heap.get? b = some o → (s.heap.push { cls := .type "range", data := .fields #[.int 0 s.toks, .int hi t, .int 1 (s.toks + 1)] }).get? b = some o := fun b o e => Heap.get?_push_of_some _ e
  have hsz : (s.heap.push { cls := .type "range", data := .fields #[.int 0 s.toks, .int hi t, .int 1 (s.toks + 1)] }).objs.size = s.heap.objs.size + 1 := Heap.size_push ..
  obtain ⟨m, F, N, hj⟩ := h0
  refine range_for_ (h₀ := h₀) mm nn J hh hx hp (IsRange.new ..) (n := n) (by omega) (small_one (by decide) (by decide) hs.1 hs.2) (by rw [hsz]; exact Nat.lt_succ_of_lt hL) hab (fun a p hp => by rw [hsz]; exact Nat.lt_succ_of_lt (hnw a p hp)) (fun i a h h' hj hk => hJ i a h h' hj fun b o hb hbL e => hk b o (by rw [hsz]; exact hb) hbL e)
    (fun i tv m₁ s₁ own hs ht hi hj F N ho => step i tv m₁ s₁ own hs (by dsimp only at ht; omega) hi hj (by rw [Int.zero_add] at F; exact F) N fun p hp => by have := ho p hp; rw [hsz] at this; exact Nat.le_of_succ_le this) (fun h t m₁ F N hj ht => done h t m₁ F N hj (by dsimp only at ht; omega)) ⟨m, F.after hk, fun p hp => ⟨hk _ _ (N p hp).1, (N p hp).2⟩, hJ _ _ _ _ hj fun b o _ _ e => hk b o e⟩
theorem range_for2 {E : Value → Shared → Prop} {R : Result → Shared → Prop} {x : Str} {px : Pos} {body : List Stmt} {lo hi : Int} {t u : Tok} {α : Type} (mm : α → Str → Option Value) (nn : α → List (Addr × Obj)) (J : Nat → α → Heap → Prop) (n : Nat) (hh : A.handled = none)
    (hx : env.kindOf x = some .local) (hp : (env.scope.kind == .class || (env.scope.kind == .module && env.locals != env.globals)) = false) (hn : (hi - lo).toNat = n) (hs : -(2 ^ 62) ≤ hi ∧ hi < 2 ^ 62) (hl : -(2 ^ 62) ≤ lo ∧ lo < 2 ^ 62)
    (hL : env.locals < s.heap.objs.size) (hab : h₀.objs.size ≤ env.locals) (hnw : ∀ a, ∀ p ∈ nn a, p.1 < s.heap.objs.size) (hJ : ∀ i a h h', J i a h → (∀ b o, b < s.heap.objs.size + 1 → b ≠ env.locals → h.get? b = some o → h'.get? b = some o) → J i a h')
    (step : ∀ (i : Nat) tv m₁ s₁ own, (∃ h t, s₁ = { s with heap := h, toks := t }) → s.toks ≤ s₁.toks → i < n → J i m₁ s₁.heap →
      Fr h₀ env.locals s₁.heap (fun y => if y = x then some (.int (lo + i) tv) else mm m₁ y) → News h₀ env.locals s₁.heap (own ++ nn m₁) → (∀ p ∈ own, s.heap.objs.size ≤ p.1) →
      wpAny (model prog w) A (execs body env) (fun f s₂ => match f with
        | .next | .cont => StopAt (∃ h t m₂, s₂ = { s₁ with heap := h, toks := t } ∧ Fr h₀ env.locals h (mm m₂) ∧ News h₀ env.locals h (own ++ nn m₂) ∧ J (i + 1) m₂ h)
        | .brk => False
        | .ret v => R (.ok (.ret v)) s₂) (fun _ _ => False) s₁)
    (done : ∀ h t m₁, Fr h₀ env.locals h (mm m₁) → News h₀ env.locals h (nn m₁) → J n m₁ h → s.toks ≤ t → R (.ok .next) { s with heap := h, toks := t })
    (h0 : ∃ m, Fr h₀ env.locals s.heap (mm m) ∧ News h₀ env.locals s.heap (nn m) ∧ J 0 m s.heap) : wpAny (model prog w) A (call (.type "range") [.int lo u, .int hi t]) (fun xv s₁ => wpAny (model prog w) A (pyIter xv) (fun it s₂ => codeAny (model prog w) A (.forLoop (.Name x px) it body [] env) R s₂) E s₁) E s := by
  refine call_range_2 ?_
  have hk : ∀ b o, s.heap.get? b = some o → (s.heap.push { cls := .type "range", data := .fields #[.int lo u, .int hi t, .int 1 s.toks] }).get? b = some o := fun b o e => Heap.get?_push_of_some _ e
  have hsz : (s.heap.push { cls := .type "range", data := .fields #[.int lo u, .int hi t, .int 1 s.toks] }).objs.size = s.heap.objs.size + 1 := Heap.size_push ..
  obtain ⟨m, F, N, hj⟩ := h0
  refine range_for_ (h₀ := h₀) mm nn J hh hx hp (IsRange.new ..) (n := n) hn (small_one hl.1 hl.2 hs.1 hs.2) (by rw [hsz]; exact Nat.lt_succ_of_lt hL) hab (fun a p hp => by rw [hsz]; exact Nat.lt_succ_of_lt (hnw a p hp)) (fun i a h h' hj hk => hJ i a h h' hj fun b o hb hbL e => hk b o (by rw [hsz]; exact hb) hbL e)
    (fun i tv m₁ s₁ own hs ht hi hj F N ho => step i tv m₁ s₁ own hs (by dsimp only at ht; omega) hi hj F N fun p hp => by have := ho p hp; rw [hsz] at this; exact Nat.le_of_succ_le this) (fun h t m₁ F N hj ht => done h t m₁ F N hj (by dsimp only at ht; omega)) ⟨m, F.after hk, fun p hp => ⟨hk _ _ (N p hp).1, (N p hp).2⟩, hJ _ _ _ _ hj fun b o _ _ e => hk b o e⟩
end
section
variable {prog : Program} {w : World} {A₀ A : Around} {s : Shared} {base h₀ : Heap} {outer : List Env} {L : Addr} {m : Str → Option Value} {env : Env} {K : Frag} {p : Program} {loose : List Str} {mean : ExcName → Option Value} {mg mb : Str → Option Value}
  {R : Result → Shared → Prop} {name qual : Str} {params : Arguments} {body : List Stmt} {scope : Scope} {dV kV doc pm cdv ct oc : Value} {an od : Option Addr} {osl : Array (Option Value)} {f : Addr} {args : Args} {binds : List (Str × Value)}
/-- entry of a def with cells -/
theorem enter_cells (B : Below A₀ base outer h₀) (F : Fr h₀ L s.heap m) (X₀ : K.In h₀) (T : Top p loose mean mg mb h₀) (hA : A.frames = some (env :: outer)) (hf : env.frame = some L) (hke : env.scope.kind = .function)
    (ho : K.lookup f = some ⟨oc, od, .func (fnOf name qual params body scope dV kV doc pm an cdv ct), osl⟩) (hcd : codeIn K cdv qual = true) (hroom : A.depth < recursionLimit)
    (hbind : BindsTo s (fnOf name qual params body scope dV kV doc pm an cdv ct) args binds) (hkind : (binds.all fun y => scope.names.lookup y.1 == some .local || scope.names.lookup y.1 == some .cell) = true)
    (hnd : ((cellsFrom 0 scope.names []).map (·.1)).Nodup)
    (h : ∀ L' h₁ tk cells, Fr s.heap L' h₁ (bindL (envOfC qual scope L' f cdv).kindOf binds fun _ => none) → News s.heap L' h₁ cells →
      CellsAre (bindC (envOfC qual scope L' f cdv).kindOf binds fun _ => none) (cellsFrom (L' + 1) scope.names []) cells → Below A base (env :: outer) s.heap → K.In s.heap → Top p loose mean mg mb s.heap →
      wpAny (model prog w) (A.deeper (envOfC qual scope L' f cdv)) (execs body (envOfC qual scope L' f cdv))
        (fun fl s' => R (.ok (.ret (match fl with | .ret v => v | _ => .none))) s')
        (fun e s' => wpAny (model prog w) (A.deeper (envOfC qual scope L' f cdv)) (leaving (envOfC qual scope L' f cdv) e) (fun _ s'' => R (.error e) s'') (fun e' s'' => R (.error e') s'') s')
        { s with heap := h₁, toks := tk })
    (hco : scope.isCoroutine = false) (hgen : scope.isGenerator = false) (hk : scope.kind = .function) : codeAny (model prog w) A (.call (.ref f) args) R s := by
  have X := X₀.keeps F.keep
  have T' := T.keeps F.keep
  have B₁ := pushX B F hf hke
  refine codeAny_call_function hroom (X _ _ ho) rfl hco hgen rfl (codeRec_of X hcd) (hbind _ _ _ _ ?_)
  refine wpAny_newFunctionEnv_cells hk (kindsX hkind _) fun env' he s' x => ?_
  subst he
  refine ⟨T'.nolimit.keeps x.toInCall.keep, codeAny_func ?_⟩
  obtain ⟨h₁, tk, rfl, htk⟩ := x.done
  obtain ⟨cells, NC, Y⟩ := Cl.news (h₀ := s.heap) (Nat.le_refl _) fun n c hm => ⟨x.cell n c (lookup_of_mem_nodup (cellsFrom_names scope.names 0 (s.heap.objs.size + 1) [] [] rfl ▸ hnd) hm), x.above n c hm⟩
  exact h s.heap.objs.size h₁ tk cells ⟨x.toInCall.ns, x.toInCall.keep, Nat.le_refl _⟩ NC Y ⟨hA, B₁.stays, B₁.frames⟩ X T'
end
end Mine
end

section
open PySem PySem.W PyProof.Rows PySem.Calls PySem.Spec
set_option linter.unusedVariables false
set_option maxRecDepth 100000
namespace Mine
/-- what stood beside the frame stays, the frame says the same; the generators stay bare -/
def KeepsG (h₀ : Heap) (L : Addr) (m : Str → Option Value) (s s' : Shared) : Prop := ∃ h' tk G, s' = { s with heap := h', toks := tk, gens := G } ∧ (AllBare s.gens → AllBare G) ∧ Fr h₀ L h' m ∧ ∀ b o, b ≠ L → s.heap.get? b = some o → h'.get? b = some o
theorem KeepsG.after {h₀ : Heap} {L : Addr} {m : Str → Option Value} {s : Shared} {h' : Heap} {tk : Nat} {G : Array GenState} (F : Fr h₀ L s.heap m) (hG : AllBare s.gens → AllBare G) (hk : ∀ b o, s.heap.get? b = some o → h'.get? b = some o) : KeepsG h₀ L m s { s with heap := h', toks := tk, gens := G } := ⟨h', tk, G, rfl, hG, F.after hk, fun b o _ e => hk b o e⟩
/-- all that stands beside the frame, as a ledger -/
theorem own_every {h₀ h : Heap} {L : Addr} {m : Str → Option Value} (F : Fr h₀ L h m) :
    ∃ own, News h₀ L h own ∧ ∀ b ob, b ≠ L → h₀.get? b = none → h.get? b = some ob → (b, ob) ∈ own := by
  refine ⟨ownOf h₀ ((List.range h.objs.size).filter fun b => b != L) h, ?_, ?_⟩
  · exact news_ownOf (L := L) (fun hm => by simpa using (List.mem_filter.mp hm).2)
  · intro b ob h1 h3 h4
    refine mem_ownOf (List.mem_filter.mpr ⟨List.mem_range.mpr (Heap.lt_size h4), ?_⟩) h3 h4
    simp [h1]
theorem KeepsG.walked {h₀ : Heap} {L : Addr} {m : Str → Option Value} {s : Shared} {h' : Heap} {tk : Nat} {G : Array GenState} {own news : List (Addr × Obj)} (F : Fr h₀ L s.heap m) (hall : ∀ b ob, b ≠ L → h₀.get? b = none → s.heap.get? b = some ob → (b, ob) ∈ own) (hG : AllBare s.gens → AllBare G)
    (F' : Fr h₀ L h' m) (N' : News h₀ L h' news) (hs : ∀ p ∈ own, p ∈ news) : KeepsG h₀ L m s { s with heap := h', toks := tk, gens := G } :=
  ⟨h', tk, G, rfl, hG, F', fun b o hb e => by
    cases hq : h₀.get? b with
    | some o' =>
      have : o' = o := by have := F.keep b o' hq; rw [e] at this; exact (Option.some.inj this).symm
      exact this ▸ F'.keep b o' hq
    | none => exact (N' _ (hs _ (hall b o hb hq e))).1⟩
theorem elt_ledger {h₀ hz h : Heap} {L C : Addr} {m m₃ : Str → Option Value} {news own : List (Addr × Obj)} (F : Fr h₀ L hz m) (hC : hz.get? C = none) (hns : h.Ns C m₃) (N : News h₀ L h news) (NE : News h₀ L h own) :
    ∃ oC, LCg.NsObj oC m₃ ∧ News h₀ L h ((C, oC) :: (news ++ own)) := by
  obtain ⟨oC, heC, hoC⟩ := LCg.ns_obj hns
  refine ⟨oC, hoC, fun p hp => ?_⟩
  rcases List.mem_cons.mp hp with rfl | hp
  · refine ⟨heC, fun q => ?_, ?_⟩
    · obtain ⟨oL, _, _, e, _⟩ := F.ns
      rw [← show C = L from q, hC] at e; cases e
    · cases q : h₀.get? C with
      | none => rfl
      | some o' => have := F.keep C o' q; rw [hC] at this; cases this
  · rcases List.mem_append.mp hp with hp | hp
    · exact N p hp
    · exact NE p hp
theorem news_put {h₀ hz h : Heap} {L r : Addr} {o : Obj} {m : Str → Option Value} {A own : List (Addr × Obj)} (F : Fr h₀ L hz m) (hr : hz.get? r = none) (N : News h₀ L h (A ++ own)) (ho : h.get? r = some o) : News h₀ L h (A ++ (r, o) :: own) := fun p hp => by
  have key : p = (r, o) ∨ p ∈ A ++ own := by
    simp only [List.mem_append, List.mem_cons] at hp ⊢
    rcases hp with h | h | h
    · exact .inr (.inl h)
    · exact .inl h
    · exact .inr (.inr h)
  rcases key with rfl | hp
  · refine ⟨ho, fun q => ?_, ?_⟩
    · obtain ⟨oL, _, _, e, _⟩ := F.ns
      subst q; rw [hr] at e; cases e
    · cases q : h₀.get? r with
      | none => rfl
      | some o' => have := F.keep r o' q; rw [hr] at this; cases this
  · exact N p hp
theorem name_all {h₀ h : Heap} {L : Addr} {m : Str → Option Value} {a1 a2 a3 a4 a5 a6 a7 a8 a9 a10 a11 a12 : Addr × Obj} {own : List (Addr × Obj)} (F : Fr h₀ L h m) (N : News h₀ L h (a1 :: a2 :: a3 :: a4 :: a5 :: a6 :: a7 :: a8 :: a9 :: a10 :: a11 :: a12 :: own)) :
    ∃ hz mz A, hz = h ∧ mz = m ∧ A = [a1, a2, a3, a4, a5, a6, a7, a8, a9, a10, a11, a12] := ⟨_, _, _, rfl, rfl, rfl⟩
theorem name_heap {h₀ h : Heap} {L : Addr} {m : Str → Option Value} (F : Fr h₀ L h m) : ∃ hz, hz = h := ⟨h, rfl⟩
inductive Each (Fv : Int → Value → Prop) : List Int → List Value → Prop
  | nil : Each Fv [] []
  | cons {a : Int} {y : Value} {as : List Int} {ys : List Value} : Fv a y → Each Fv as ys → Each Fv (a :: as) (y :: ys)
theorem Each.snoc {Fv : Int → Value → Prop} {a : Int} {y : Value} {as : List Int} {ys : List Value} (x : Each Fv as ys) (h : Fv a y) : Each Fv (as ++ [a]) (ys ++ [y]) := by
  induction x with
  | nil => exact .cons h .nil
  | cons h' _ ih => exact .cons h' ih
theorem Each.length {Fv : Int → Value → Prop} {as : List Int} {ys : List Value} (x : Each Fv as ys) : ys.length = as.length := by
  induction x with
  | nil => rfl
  | cons _ _ ih => exact congrArg (· + 1) ih
theorem Each.ints {g : Int → Int} {as : List Int} {ys : List Value} (x : Each (fun a y => ∃ t, y = Value.int (g a) t) as ys) : IntsAre ys (as.map g) := by
  induction x with
  | nil => exact .nil
  | cons h _ ih => obtain ⟨t, rfl⟩ := h; exact .cons _ _ ih
theorem Each.strs {g : Int → PySem.Str} {as : List Int} {ys : List Value} (x : Each (fun a y => ∃ t, y = Value.str (g a) t) as ys) : StrsAre ys (as.map g) := by
  induction x with
  | nil => exact .nil
  | cons h _ ih => obtain ⟨t, rfl⟩ := h; exact .cons _ _ ih
theorem ints_get {vs : List Value} {ns : List Int} (x : IntsAre vs ns) : ∀ {k : Nat}, k < ns.length → ∃ t, vs[k]? = some (.int (ns.getD k 0) t) := by
  induction x with
  | nil => intro _ h; exact absurd h (Nat.not_lt_zero _)
  | cons n t r ih =>
    intro k h
    cases k with
    | zero => exact ⟨t, rfl⟩
    | succ k =>
      obtain ⟨u, e⟩ := ih (k := k) (Nat.lt_of_succ_lt_succ h)
      exact ⟨u, by simpa using e⟩
theorem take_snoc {as : List Int} {i : Nat} (h : i < as.length) : as.take (i + 1) = as.take i ++ [as.getD i 0] := by
  rw [List.take_add_one, List.getElem?_eq_getElem h, List.getD_eq_getElem?_getD, List.getElem?_eq_getElem h]; rfl
section
variable {prog : Program} {w : World} {A : Around} {E : Value → Shared → Prop} {env : Env} {h₀ : Heap} {m : Str → Option Value} {news : List (Addr × Obj)}
/-- what walks, and at which count of tokens an item came -/
structure WalksT (prog : Program) (w : World) (A : Around) (I : Addr) (fp : List Addr) (n : Nat) (P : Nat → Nat → Value → Prop) (St : Nat → Heap → Prop) : Prop where
  sub : I ∈ fp
  frame : ∀ i h h', St i h → (∀ b ∈ fp, ∀ o, h.get? b = some o → h'.get? b = some o) → St i h'
  item : ∀ i (s : Shared) (Q : Option Value → Shared → Prop) (E : Value → Shared → Prop), i < n → St i s.heap →
    (∀ v h' tk, P s.toks i v → St (i + 1) h' → (∀ b o, b ≠ I → s.heap.get? b = some o → h'.get? b = some o) → Q (some v) { s with heap := h', toks := tk }) → wpAny (model prog w) A (pyNext (.ref I)) Q E s
  done : ∀ (s : Shared) (Q : Option Value → Shared → Prop) (E : Value → Shared → Prop), St n s.heap →
    (∀ h' tk, (∀ b o, b ≠ I → s.heap.get? b = some o → h'.get? b = some o) → Q none { s with heap := h', toks := tk }) → wpAny (model prog w) A (pyNext (.ref I)) Q E s
  self : ∀ i (s : Shared) (Q : Value → Shared → Prop) (E : Value → Shared → Prop), St i s.heap → Q (.ref I) s → wpAny (model prog w) A (pyIter (.ref I)) Q E s
theorem WalksT.of {I : Addr} {fp : List Addr} {n : Nat} {P : Nat → Value → Prop} {St : Nat → Heap → Prop} (W : Walks prog w A I fp [I] n P St) : WalksT prog w A I fp n (fun _ => P) St where
  sub := W.sub I (List.mem_singleton.mpr rfl)
  frame := W.frame
  item := fun i s Q E hi st hQ => W.item i s Q E hi st fun v h' tk hP hS hk => hQ v h' tk hP hS fun b o hb e => hk b o (by simpa using hb) e
  done := fun s Q E st hQ => W.done s Q E st fun h' tk hk => hQ h' tk fun b o hb e => hk b o (by simpa using hb) e
  self := W.self
theorem WalksT.range (hh : A.handled = none) (I : Addr) (n : Nat) : WalksT prog w A I [I] n (fun k i v => i < n ∧ ∃ t, v = .int i t ∧ k ≤ t) (fun i h => IsRangeIter h I (i : Nat) ((n : Int) - (i : Nat)) 1) where
  sub := .head _
  frame := fun _ _ _ st hk => hk I (by simp) _ st
  item := fun i s Q E hi st hQ => by
    refine wpAny_pyNext_range_item st (by omega) fun h' hit' hs' => ?_
    refine hQ _ h' _ ⟨hi, _, rfl, Nat.le_refl _⟩ ?_ fun b o hb e => hs'.extBut b o hb e
    have e1 : ((i + 1 : Nat) : Int) = (i : Int) + 1 := by push_cast; rfl
    have e2 : (n : Int) - ((i + 1 : Nat) : Int) = (n : Int) - (i : Int) - 1 := by push_cast; omega
    rw [e1, ← e1, e2, e1]; exact hit'
  done := fun s Q E st hQ => wpAny_pyNext_range_end hh st (by omega) fun h' he' => hQ h' s.toks fun b o hb e => he' b o hb e
  self := fun i s Q E st hQ => wpAny_pyIter_rangeiter st hQ
theorem comp_go {elt iter : Expr} {x : Str} {px : Pos} {scope : Scope} {cl : List (Str × Addr)} {pos : Pos} {s₂ : Shared} {I : Addr} {fp : List Addr} {n : Nat} {P : Nat → Nat → Value → Prop} {St : Nat → Heap → Prop} {as : List Int} {Fv : Int → Value → Prop} {Bd : Prop}
    {RR : Value → Addr → Result → Shared → Prop}
    (W : WalksT prog w A I fp n P St) (hsz : n ≤ sizeLine) (hP : ∀ k i v, P k i v → ∃ t, v = .int (as.getD i 0) t ∧ (Bd → k ≤ t)) (hn : as.length = n)
    (hcell : ∀ y ∈ scope.names, y.2 ≠ .cell) (hkind : scope.kind = .function) (hx : scope.names.lookup x = some .local) (hst : St 0 s₂.heap) (hfp : ∀ b ∈ fp, b < s₂.heap.objs.size) (hfL : ∀ b ∈ fp, b ≠ env.locals)
    (F : Fr h₀ env.locals s₂.heap m) (N : News h₀ env.locals s₂.heap news) (hI₀ : h₀.get? I = none) (hIL : I ≠ env.locals) (hIn : ∀ p ∈ news, p.1 ≠ I)
    (helt : ∀ C i tv s₃ m₃ E', i < n → (Bd → s₂.toks ≤ tv) → s₂.heap.get? C = none → (∃ h tk G, s₃ = { s₂ with heap := h, toks := tk, gens := G } ∧ (AllBare s₂.gens → AllBare G)) → s₃.heap.Ns C m₃ → m₃ x = some (.int (as.getD i 0) tv) → Fr h₀ env.locals s₃.heap m → News h₀ env.locals s₃.heap news → s₂.toks ≤ s₃.toks →
      wpAny (model prog w) A (eval elt (compEnvC scope cl C env)) (fun y s₄ => Fv (as.getD i 0) y ∧ KeepsG h₀ env.locals m s₃ s₄) E' s₃)
    (hRR : ∀ D C h' tk G m' ys, s₂.heap.get? D = none → s₂.heap.get? C = none → D ≠ C → h'.Ns C m' → h'.PlainList D ys → Each Fv as ys.toList → (AllBare s₂.gens → AllBare G) → Fr h₀ env.locals h' m → News h₀ env.locals h' news → s₂.toks ≤ tk →
      RR (.ref D) C (.ok .next) { s₂ with heap := h', toks := tk, gens := G }) :
    wpAny (model prog w) A (newList []) (fun acc s₃ => wpAny (model prog w) A (newFunctionEnv scope env.globals cl [] env.qual none .none (some env)) (fun cenv s₄ =>
      codeAny (model prog w) A (.compStart (.ListComp elt [⟨.Name x px, iter, [], 0⟩] scope pos) 0 (.ref I) acc { cenv with scope := relabel scope env }) (RR acc cenv.locals) s₄) E s₃) E s₂ := by
  refine wpAny_newObj_type (wpAny_newFunctionEnv hcell (by intro y hy; simp at hy) (fun h₁ hns₁ hsb₁ => ?_) hkind)
  dsimp only at hns₁ hsb₁ ⊢
  generalize hH2 : s₂.heap.push { cls := .type "list", dict := none, data := .seq ([] : List Value).toArray } = H2 at hns₁ hsb₁ ⊢
  have hC : H2.objs.size = s₂.heap.objs.size + 1 := by rw [← hH2, Heap.size_push]
  have hDC : s₂.heap.objs.size ≠ H2.objs.size := by rw [hC]; exact Nat.ne_of_lt (Nat.lt_succ_self _)
  have below : ∀ b, b < s₂.heap.objs.size → b ≠ H2.objs.size ∧ b ≠ s₂.heap.objs.size := fun b hb => ⟨by rw [hC]; exact Nat.ne_of_lt (Nat.lt_succ_of_lt hb), Nat.ne_of_lt hb⟩
  have hDf : s₂.heap.objs.size ∉ fp := fun hm => Nat.lt_irrefl _ (hfp _ hm)
  have hCf : H2.objs.size ∉ fp := fun hm => by have := hfp _ hm; rw [hC] at this; exact Nat.lt_irrefl _ (Nat.lt_of_succ_lt this)
  have hIf : I ∈ fp := W.sub
  have hIlt : I < s₂.heap.objs.size := hfp I hIf
  have old : ∀ b o, s₂.heap.get? b = some o → h₁.get? b = some o := fun b o e => hsb₁.extBut b o (below b (Heap.lt_size e)).1 (Heap.get?_push_of_some _ (hH2 ▸ Heap.get?_push_of_some _ e))
  have hacc : h₁.PlainList s₂.heap.objs.size #[] := ⟨_, hsb₁.extBut _ _ hDC (Heap.get?_push_of_some _ (hH2 ▸ Heap.get?_push_size _ rfl))⟩
  have hst₁ : St 0 h₁ := W.frame _ _ _ hst fun b _ o e => old b o e
  have fresh : ∀ a, s₂.heap.objs.size ≤ a → s₂.heap.get? a = none := fun a ha => Heap.get?_none_of_le ha
  have fresh₀ : ∀ a, s₂.heap.objs.size ≤ a → h₀.get? a = none := fun a ha => by
    cases e : h₀.get? a with
    | none => rfl
    | some o' => have := F.keep a o' e; rw [fresh a ha] at this; cases this
  have hD₀ : h₀.get? s₂.heap.objs.size = none := fresh₀ _ (Nat.le_refl _)
  have hC₀ : h₀.get? H2.objs.size = none := fresh₀ _ (by rw [hC]; exact Nat.le_succ _)
  have hLlt : env.locals < s₂.heap.objs.size := F.ns.lt
  have hDL : s₂.heap.objs.size ≠ env.locals := Ne.symm (below _ hLlt).2
  have hCL : H2.objs.size ≠ env.locals := Ne.symm (below _ hLlt).1
  have hCI : I ≠ H2.objs.size := (below I hIlt).1
  have hDI : I ≠ s₂.heap.objs.size := (below I hIlt).2
  have nC : ∀ p ∈ news, p.1 ≠ H2.objs.size := fun p hp => (below _ (Heap.lt_size (N p hp).1)).1
  have nD : ∀ p ∈ news, p.1 ≠ s₂.heap.objs.size := fun p hp => (below _ (Heap.lt_size (N p hp).1)).2
  have loop : ∀ s₃ : Shared, s₃ = { s₂ with heap := h₁, toks := s₂.toks + ([] : List (Str × Value)).length } →
      codeAny (model prog w) A (.compLoop (.ListComp elt [⟨.Name x px, iter, [], 0⟩] scope pos) 0 (.ref I) (.ref s₂.heap.objs.size) (compEnvC scope cl H2.objs.size env))
        (RR (.ref s₂.heap.objs.size) H2.objs.size) s₃ := by
    rintro s₃ rfl
    refine codeAny_compLoop_tests
      (fun k s' => ∃ h' tk G i ys m', s' = { s₂ with heap := h', toks := tk, gens := G } ∧ (AllBare s₂.gens → AllBare G) ∧ i ≤ n ∧ k = n + 1 - i ∧ s₂.toks ≤ tk ∧ St i h' ∧ Fr h₀ env.locals h' m ∧ h'.Ns H2.objs.size m' ∧ News h₀ env.locals h' news ∧
        h'.PlainList s₂.heap.objs.size ys ∧ Each Fv (as.take i) ys.toList) ?_ (n + 1)
      (exI6 h₁ _ s₂.gens 0 #[] _ (anI11 rfl id (Nat.zero_le _) rfl (Nat.le_add_right _ _) hst₁ (F.keeps old) hns₁ (fun p hp => ⟨old _ _ (N p hp).1, (N p hp).2⟩) hacc .nil))
    intro k s' hx
    refine exE6 hx ?_
    clear hx
    intro h' tk G i ys m' hx
    refine anE11 hx ?_
    clear hx
    intro hx hG hi hk htk hst' F' hn' N' hD' hE
    subst hx
    subst hk
    by_cases hlt : i < n
    · refine wpAny_with_toks (n := s₂.toks) htk (W.item i _ _ _ hlt hst' fun v h₂ tk₂ hPv hst₂ hk₂ htk₂ => ?_)
      obtain ⟨tv, rfl, hBd⟩ := hP _ i v hPv
      have F₂ : Fr h₀ env.locals h₂ m := ⟨F'.ns.at' fun o e => hk₂ _ o (Ne.symm hIL) e, fun b o e => hk₂ b o (fun hm => by rw [hm, hI₀] at e; cases e) (F'.keep b o e), F'.above⟩
      have N₂ : News h₀ env.locals h₂ news := fun p hp => ⟨hk₂ _ _ (hIn p hp) (N' p hp).1, (N' p hp).2⟩
      refine wpAny_assign_Name (wpAny_storeName_local (lookup_relabel_local hx) (hn'.at' fun o e => hk₂ _ o (Ne.symm hCI) e) (fun h₃ hn₃ hs₃ => ?_) (by simp [compEnvC, relabel, hkind]))
      refine wpAny_tests_nil ?_
      simp only [if_true]
      have hst₃ : St (i + 1) h₃ := W.frame _ _ _ hst₂ fun b hb o e => hs₃.extBut b o (fun q => hCf (by have q' : b = H2.objs.size := q; rw [← q']; exact hb)) e
      have F₃ : Fr h₀ env.locals h₃ m := F₂.change hs₃ hCL hC₀
      have N₃ : News h₀ env.locals h₃ news := fun p hp => ⟨hs₃.extBut _ _ (nC p hp) (N₂ p hp).1, (N₂ p hp).2⟩
      have hD₃ : h₃.PlainList s₂.heap.objs.size ys := (hD'.at fun o e => hk₂ _ o (Ne.symm hDI) e).extBut hs₃.extBut hDC
      have htk₃ : s₂.toks ≤ tk₂ + 1 := Nat.le_succ_of_le htk₂
      refine wpAny_mono (wpAny_toks_of (n := s₂.toks) htk₃ (helt H2.objs.size i tv _ _ _ hlt (fun hb => Nat.le_trans htk (hBd hb)) (fresh _ (by rw [hC]; exact Nat.le_succ _)) ⟨h₃, _, G, rfl, hG⟩ hn₃ (by simp) F₃ N₃ htk₃)) (fun y s₄ h₄ => ?_) fun _ _ e => e.2
      obtain ⟨htk₄, hFy, h₄, tk₄, G₄, rfl, hG₄, F₄, hk₄⟩ := h₄
      have hst₄ : St (i + 1) h₄ := W.frame _ _ _ hst₃ fun b hb o e => hk₄ b o (hfL b hb) e
      have hD₄ : h₄.PlainList s₂.heap.objs.size ys := hD₃.at fun o e => hk₄ _ o hDL e
      have hys : ys.size ≤ sizeLine := by
        have e1 := hE.length
        have e2 : ys.toList.length = ys.size := by simp
        have e3 := List.length_take_le i as
        omega
      refine wpAny_list_append_plain (hsz := hys) hD₄ fun h₅ hl₅ hs₅ => ?_
      refine ⟨n + 1 - (i + 1), by omega, exI6 h₅ tk₄ G₄ (i + 1) (ys.push y) _ (anI11 rfl (fun hb => hG₄ (hG hb)) hlt rfl htk₄ (W.frame _ _ _ hst₄ fun b hb o e => hs₅.extBut b o (fun q => hDf (q ▸ hb)) e) (F₄.change hs₅ hDL hD₀) ((hn₃.at' fun o e => hk₄ _ o hCL e).sameBut hs₅ (Ne.symm hDC)) (fun p hp => ⟨hs₅.extBut _ _ (nD p hp) (hk₄ _ _ (N₃ p hp).2.1 (N₃ p hp).1), (N₃ p hp).2⟩) hl₅ ?_)⟩
      rw [take_snoc (by omega), Array.toList_push]
      exact hE.snoc hFy
    · obtain rfl : i = n := Nat.le_antisymm hi (Nat.not_lt.mp hlt)
      refine wpAny_with_toks (n := s₂.toks) htk (W.done _ _ _ hst' fun h₂ tk₂ hk₂ htk₂ => ?_)
      refine hRR _ _ h₂ tk₂ G _ ys (fresh _ (Nat.le_refl _)) (fresh _ (by rw [hC]; exact Nat.le_succ _)) hDC (hn'.at' fun o e => hk₂ _ o (Ne.symm hCI) e) (hD'.at fun o e => hk₂ _ o (Ne.symm hDI) e) ?_ hG
        ⟨F'.ns.at' fun o e => hk₂ _ o (Ne.symm hIL) e, fun b o e => hk₂ b o (fun hm => by rw [hm, hI₀] at e; cases e) (F'.keep b o e), F'.above⟩ (fun p hp => ⟨hk₂ _ _ (hIn p hp) (N' p hp).1, (N' p hp).2⟩) htk₂
      rw [← hn, List.take_length] at hE
      exact hE
  exact codeAny_compStart_list (loop _ rfl) (W.self 0 _ _ _ hst₁ (loop _ rfl))
/-- a source of whole numbers is at hand, and what the elements give -/
def CompG (prog : Program) (w : World) (A : Around) (env : Env) (elt : Expr) (x : Str) (scope : Scope) (cl : List (Str × Addr)) (Use : Heap → (Str → Option Value) → List (Addr × Obj) → Addr → Array Value → Shared → Prop) (Fv : Int → Value → Prop) (as : List Int) (Bd : Prop) (it : Value) (s₂ : Shared) : Prop :=
  ∃ I fp n P St h₀ m news, it = .ref I ∧ WalksT prog w A I fp n P St ∧ n ≤ sizeLine ∧ (∀ k i v, P k i v → ∃ t, v = .int (as.getD i 0) t ∧ (Bd → k ≤ t)) ∧ as.length = n ∧ St 0 s₂.heap ∧ (∀ b ∈ fp, b < s₂.heap.objs.size) ∧ (∀ b ∈ fp, b ≠ env.locals) ∧
    Fr h₀ env.locals s₂.heap m ∧ News h₀ env.locals s₂.heap news ∧ h₀.get? I = none ∧ I ≠ env.locals ∧ (∀ p ∈ news, p.1 ≠ I) ∧
    (∀ C i tv s₃ m₃ E', i < n → (Bd → s₂.toks ≤ tv) → s₂.heap.get? C = none → (∃ h tk G, s₃ = { s₂ with heap := h, toks := tk, gens := G } ∧ (AllBare s₂.gens → AllBare G)) → s₃.heap.Ns C m₃ → m₃ x = some (.int (as.getD i 0) tv) → Fr h₀ env.locals s₃.heap m → News h₀ env.locals s₃.heap news → s₂.toks ≤ s₃.toks →
      wpAny (model prog w) A (eval elt (compEnvC scope cl C env)) (fun y s₄ => Fv (as.getD i 0) y ∧ KeepsG h₀ env.locals m s₃ s₄) E' s₃) ∧
    (∀ D h' tk G ys, s₂.heap.get? D = none → h'.PlainList D ys → Each Fv as ys.toList → (AllBare s₂.gens → AllBare G) → Fr h₀ env.locals h' m → News h₀ env.locals h' news → s₂.toks ≤ tk → Use h₀ m news D ys { s₂ with heap := h', toks := tk, gens := G })
theorem ListComp_G {s : Shared} {elt iter : Expr} {x : Str} {px : Pos} {scope : Scope} {cl : List (Str × Addr)} {pos : Pos} {Q : Value → Shared → Prop} (Fv : Int → Value → Prop) (as : List Int) (Bd : Prop)
    (hclos : closureFor scope env = pure cl) (hcell : ∀ y ∈ scope.names, y.2 ≠ .cell) (hkind : scope.kind = .function)
    (hnames : ∀ y ∈ scope.names, y.2 = .local → scope.names.lookup y.1 = some .local) (hx : scope.names.lookup x = some .local)
    (h : wpAny (model prog w) A (eval iter env) (fun xv s₁ => wpAny (model prog w) A (pyIter xv) (fun it s₂ => CompG prog w A env elt x scope cl (fun h₀ m news D ys s' => Q (.ref D) s') Fv as Bd it s₂) E s₁) E s)
    (hs : ∀ x, foldedSetIterable iter env x = pure x := by intro _; rfl) :
    wpAny (model prog w) A (eval (.ListComp elt [⟨.Name x px, iter, [], 0⟩] scope pos) env) Q E s := by
  rw [eval_ListComp]
  refine wpAny_comprehension_free (use := none) rfl hs hclos hkind hnames (wpAny_mono h (fun xv s₁ h₁ => wpAny_mono h₁ (fun it s₂ h₂ => ?_) fun _ _ e => e) fun _ _ e => e)
  refine exE8 h₂ ?_
  clear h₂
  intro I fp n P St h₀ m news hx
  refine anE15 hx ?_
  clear hx
  intro hx W hsz hP hn hst hfp hfL F N hI₀ hIL hIn helt hQ
  subst hx
  refine comp_go (RR := fun acc C => compPost (model prog w) A E none Q acc C) W hsz hP hn hcell hkind hx hst hfp hfL F N hI₀ hIL hIn helt ?_
  intro D C h' tk G m' ys hD hC hDC hnC hl hE hG F' N' htk
  have hC₀ : h₀.get? C = none := by
    cases e : h₀.get? C with
    | none => rfl
    | some o' => have := F.keep C o' e; rw [hC] at this; cases this
  have hCL : C ≠ env.locals := by rintro rfl; obtain ⟨o, _, _, ho, _⟩ := F.ns; rw [hC] at ho; cases ho
  have nC : ∀ p ∈ news, p.1 ≠ C := fun p hp q => by have := (N p hp).1; rw [q, hC] at this; cases this
  exact ⟨m', hnC, fun h'' hs'' => hQ D h'' tk G ys hD (hl.extBut hs''.extBut hDC) hE hG (F'.change hs'' hCL hC₀) (fun p hp => ⟨hs''.extBut _ _ (nC p hp) (N' p hp).1, (N' p hp).2⟩) htk⟩
theorem Assign_ListComp_G {s : Shared} {elt iter : Expr} {x y : Str} {px py : Pos} {scope : Scope} {cl : List (Str × Addr)} {pos spos : Pos} {Q : Flow → Shared → Prop} (Fv : Int → Value → Prop) (as : List Int) (Bd : Prop)
    (hsw : swapsWith (.ListComp elt [⟨.Name x px, iter, [], 0⟩] scope pos) (some (.Name y py)) spos.line env = pure true)
    (hclos : closureFor scope env = pure cl) (hcell : ∀ z ∈ scope.names, z.2 ≠ .cell) (hkind : scope.kind = .function)
    (hnames : ∀ z ∈ scope.names, z.2 = .local → scope.names.lookup z.1 = some .local) (hx : scope.names.lookup x = some .local)
    (hy : env.kindOf y = some .local) (hp : (env.scope.kind == .class || (env.scope.kind == .module && env.locals != env.globals)) = false)
    (h : wpAny (model prog w) A (eval iter env) (fun xv s₁ => wpAny (model prog w) A (pyIter xv) (fun it s₂ => CompG prog w A env elt x scope cl (fun h₀ m news D ys s' => ∀ h'' tk'', Fr h₀ env.locals h'' (fun z => if z = y then some (.ref D) else m z) → News h₀ env.locals h'' news → h''.PlainList D ys → Q .next { s' with heap := h'', toks := tk'' }) Fv as Bd it s₂) E s₁) E s)
    (hs : ∀ x, foldedSetIterable iter env x = pure x := by intro _; rfl) :
    wpAny (model prog w) A (exec (.Assign [.Name y py] (.ListComp elt [⟨.Name x px, iter, [], 0⟩] scope pos) spos) env) Q E s := by
  rw [exec_Assign_Name_used _ _ _ _ hsw]
  refine wpAny_bind (wpAny_standAt (wpAny_bind ?_))
  show wpAny _ A (do let _ ← comprehension (.ListComp elt [⟨.Name x px, iter, [], 0⟩] scope pos) scope env _ (newList []) false (eval iter env) (some (assign (.Name y py) env))) _ _ s
  refine wpAny_bind (wpAny_mono (wpAny_comprehension_free (use := some (assign (.Name y py) env)) (Q := fun _ s' => Q .next s') rfl hs hclos hkind hnames
    (wpAny_mono h (fun xv s₁ h₁ => wpAny_mono h₁ (fun it s₂ h₂ => ?_) fun _ _ e => e) fun _ _ e => e)) (fun _ s' hq => wpAny_pure (wpAny_pure hq)) fun _ _ e => e)
  refine exE8 h₂ ?_
  clear h₂
  intro I fp n P St h₀ m news hx
  refine anE15 hx ?_
  clear hx
  intro hx W hsz hP hn hst hfp hfL F N hI₀ hIL hIn helt hQ
  subst hx
  refine comp_go (RR := fun acc C => compPost (model prog w) A E (some (assign (.Name y py) env)) (fun _ s' => Q .next s') acc C) W hsz hP hn hcell hkind hx hst hfp hfL F N hI₀ hIL hIn helt ?_
  intro D C h' tk G m' ys hD hC hDC hnC hl hE hG F' N' htk
  have hC₀ : h₀.get? C = none := by
    cases e : h₀.get? C with
    | none => rfl
    | some o' => have := F.keep C o' e; rw [hC] at this; cases this
  have hCL : C ≠ env.locals := by rintro rfl; obtain ⟨o, _, _, ho, _⟩ := F.ns; rw [hC] at ho; cases ho
  have hDL : D ≠ env.locals := by rintro rfl; obtain ⟨o, _, _, ho, _⟩ := F.ns; rw [hD] at ho; cases ho
  have nC : ∀ p ∈ news, p.1 ≠ C := fun p hp q => by have := (N p hp).1; rw [q, hC] at this; cases this
  show wpAny _ A (assign (.Name y py) env (.ref D)) _ _ _
  refine wpAny_assign_Name (wpAny_storeName_local hy F'.ns (fun h₂ hn₂ hs₂ => ?_) hp)
  refine ⟨m', hnC.sameBut hs₂ hCL, fun h₃ hs₃ => ?_⟩
  have N₂ : News h₀ env.locals h₂ news := N'.set hs₂
  have F₂ := F'.set hn₂ hs₂
  exact hQ D _ _ G ys hD hl hE hG F' N' htk h₃ _ (F₂.change hs₃ hCL hC₀) (fun p hp => ⟨hs₃.extBut _ _ (nC p hp) (N₂ p hp).1, (N₂ p hp).2⟩) ((hl.extBut hs₂.extBut hDL).extBut hs₃.extBut hDC)
/-- the source is a list of whole numbers -/
theorem src_list {s₁ : Shared} {elt : Expr} {x : Str} {scope : Scope} {cl : List (Str × Addr)} {Use : Heap → (Str → Option Value) → List (Addr × Obj) → Addr → Array Value → Shared → Prop} {Fv : Int → Value → Prop} {as : List Int} {l : Addr} {vs : List Value}
    (hh : A.handled = none) (hl : s₁.heap.IsList l vs.toArray) (hi : IntsAre vs as) (hsz : as.length ≤ 1000) (F : Fr h₀ env.locals s₁.heap m) (N : News h₀ env.locals s₁.heap news)
    (helt : ∀ C i tv s₃ m₃ E', i < as.length → s₁.heap.get? C = none → (∃ h tk G, s₃ = { s₁ with heap := h, toks := tk, gens := G } ∧ (AllBare s₁.gens → AllBare G)) → s₃.heap.Ns C m₃ → m₃ x = some (.int (as.getD i 0) tv) → Fr h₀ env.locals s₃.heap m → News h₀ env.locals s₃.heap news → s₁.toks ≤ s₃.toks →
      wpAny (model prog w) A (eval elt (compEnvC scope cl C env)) (fun y s₄ => Fv (as.getD i 0) y ∧ KeepsG h₀ env.locals m s₃ s₄) E' s₃)
    (use : ∀ D h' tk G ys, s₁.heap.get? D = none → h'.PlainList D ys → Each Fv as ys.toList → (AllBare s₁.gens → AllBare G) → Fr h₀ env.locals h' m → News h₀ env.locals h' news → s₁.toks ≤ tk → Use h₀ m news D ys { s₁ with heap := h', toks := tk, gens := G }) :
    wpAny (model prog w) A (pyIter (.ref l)) (fun it s₂ => CompG prog w A env elt x scope cl Use Fv as False it s₂) E s₁ := by
  obtain ⟨ol, hol, _⟩ := id hl
  have hlt := Heap.lt_size hol
  refine wpAny_pyIter_list hl ?_
  have up : ∀ b o, s₁.heap.get? b = some o → (s₁.heap.push { cls := .type "list_iterator", data := .fields #[.ref l, .int 0 0] }).get? b = some o := fun b o e => Heap.get?_push_of_some _ e
  have hsL : vs.toArray.size = as.length := by rw [List.size_toArray, hi.length]
  refine ⟨s₁.heap.objs.size, [s₁.heap.objs.size, l], vs.toArray.size, _, _, h₀, m, news, rfl, WalksT.of (Walks.list hh s₁.heap.objs.size l (Nat.ne_of_lt hlt) vs.toArray), by rw [hsL, sizeLine_eq]; omega, ?_, hsL.symm, ⟨⟨_, Heap.get?_push_size _ rfl, rfl, rfl⟩, hl.push _⟩, ?_, ?_, F.after up, fun p hp => ⟨up _ _ (N p hp).1, (N p hp).2⟩, ?_, Ne.symm (Nat.ne_of_lt F.ns.lt), fun p hp => Nat.ne_of_lt (Heap.lt_size (N p hp).1), ?_, ?_⟩
  · intro k i v e
    have e' : vs[i]? = some v := by simpa using e
    have hlen : i < as.length := by rw [← hi.length]; exact (List.getElem?_eq_some_iff.mp e').1
    obtain ⟨t, e2⟩ := ints_get hi hlen
    rw [e'] at e2
    exact ⟨t, Option.some.inj e2, fun h => h.elim⟩
  · intro b hb
    show b < (s₁.heap.push _).objs.size
    rw [Heap.size_push]
    rcases List.mem_cons.mp hb with rfl | hb
    · exact Nat.lt_succ_self _
    · rw [List.mem_singleton.mp hb]; exact Nat.lt_succ_of_lt hlt
  · intro b hb
    rcases List.mem_cons.mp hb with rfl | hb
    · exact Ne.symm (Nat.ne_of_lt F.ns.lt)
    · rw [List.mem_singleton.mp hb]; rintro rfl
      obtain ⟨o, ho, hc, k, hd⟩ := hl
      obtain ⟨o', _, _, ho', hd', _⟩ := F.ns
      rw [ho] at ho'; cases ho'
      rw [hd] at hd'; cases hd'
  · cases e : h₀.get? s₁.heap.objs.size with
    | none => rfl
    | some o' => have := F.keep _ o' e; rw [Heap.get?_none_of_le (Nat.le_refl _)] at this; cases this
  · intro C i tv s₃ m₃ E' hi' _ hC hs
    rw [hsL] at hi'
    obtain ⟨h, tk, G, rfl, hG⟩ := hs
    refine helt C i tv _ m₃ E' hi' ?_ ⟨h, tk, G, rfl, hG⟩
    cases e : s₁.heap.get? C with
    | none => rfl
    | some o => have := up C o e; rw [hC] at this; cases this
  · intro D h' tk G ys hD
    refine use D h' tk G ys ?_
    cases e : s₁.heap.get? D with
    | none => rfl
    | some o => have := up D o e; rw [hD] at this; cases this
/-- the source is range(hi) -/
theorem src_range {s₁ : Shared} {elt : Expr} {x : Str} {scope : Scope} {cl : List (Str × Addr)} {Use : Heap → (Str → Option Value) → List (Addr × Obj) → Addr → Array Value → Shared → Prop} {Fv : Int → Value → Prop} {n : Nat} {hi : Int} {t : Tok}
    (hh : A.handled = none) (hn : hi = n) (hsz : n ≤ 1000) (F : Fr h₀ env.locals s₁.heap m) (N : News h₀ env.locals s₁.heap news)
    (helt : ∀ C (i : Nat) tv s₃ m₃ E', i < n → s₁.toks ≤ tv → s₁.heap.get? C = none → (∃ h tk G, s₃ = { s₁ with heap := h, toks := tk, gens := G } ∧ (AllBare s₁.gens → AllBare G)) → s₃.heap.Ns C m₃ → m₃ x = some (.int i tv) → Fr h₀ env.locals s₃.heap m → News h₀ env.locals s₃.heap news → s₁.toks ≤ s₃.toks →
      wpAny (model prog w) A (eval elt (compEnvC scope cl C env)) (fun y s₄ => Fv i y ∧ KeepsG h₀ env.locals m s₃ s₄) E' s₃)
    (use : ∀ D h' tk G ys, s₁.heap.get? D = none → h'.PlainList D ys → Each Fv ((List.range n).map Int.ofNat) ys.toList → (AllBare s₁.gens → AllBare G) → Fr h₀ env.locals h' m → News h₀ env.locals h' news → s₁.toks ≤ tk → Use h₀ m news D ys { s₁ with heap := h', toks := tk, gens := G }) :
    wpAny (model prog w) A (call (.type "range") [.int hi t]) (fun xv s => wpAny (model prog w) A (pyIter xv) (fun it s₂ => CompG prog w A env elt x scope cl Use Fv ((List.range n).map Int.ofNat) True it s₂) E s) E s₁ := by
  subst hn
  have hgd : ∀ i, i < n → ((List.range n).map Int.ofNat).getD i 0 = (i : Int) := fun i hi => by
    rw [List.getD_eq_getElem?_getD, List.getElem?_map, List.getElem?_range hi]; rfl
  refine call_range_1 ?_
  refine wpAny_pyIter_range (IsRange.new ..) (small_one (by decide) (by decide) (by omega) (by omega)) ?_
  have hz9 : Builtin.Range.rangeSize 0 (n : Int) 1 = (n : Int) := by rw [rangeSize_one]; split <;> omega
  have up : ∀ b o, s₁.heap.get? b = some o → ((s₁.heap.push { cls := .type "range", data := .fields #[.int 0 s₁.toks, .int n t, .int 1 (s₁.toks + 1)] }).push { cls := .type "range_iterator", data := .fields #[rawInt 0, rawInt (Builtin.Range.rangeSize 0 (n : Int) 1), rawInt 1] }).get? b = some o := fun b o e => Heap.get?_push_of_some _ (Heap.get?_push_of_some _ e)
  have hsz2 : (s₁.heap.push { cls := .type "range", data := .fields #[.int 0 s₁.toks, .int n t, .int 1 (s₁.toks + 1)] }).objs.size = s₁.heap.objs.size + 1 := Heap.size_push ..
  have low : ∀ b o, s₁.heap.get? b = some o → b ≠ s₁.heap.objs.size + 1 := fun b o e => Nat.ne_of_lt (Nat.lt_succ_of_lt (Heap.lt_size e))
  refine ⟨(s₁.heap.push { cls := .type "range", data := .fields #[.int 0 s₁.toks, .int n t, .int 1 (s₁.toks + 1)] }).objs.size, [_], n, _, _, h₀, m, news, rfl, WalksT.range hh _ n, by rw [sizeLine_eq]; omega, ?_, by simp, ?_, ?_, ?_, F.after up, fun p hp => ⟨up _ _ (N p hp).1, (N p hp).2⟩, ?_, ?_, ?_, ?_, ?_⟩
  · rintro k i v ⟨hi, t, rfl, ht⟩
    exact ⟨t, by rw [hgd i hi], fun _ => ht⟩
  · have e2 : ((n : Int) - ((0 : Nat) : Int)) = Builtin.Range.rangeSize 0 (n : Int) 1 := by rw [hz9]; simp
    show IsRangeIter _ _ ((0 : Nat) : Int) ((n : Int) - ((0 : Nat) : Int)) 1
    rw [e2]
    exact Heap.get?_push_size _ rfl
  · intro b hb
    rw [List.mem_singleton.mp hb]
    simp [Heap.size_push]
  · intro b hb
    rw [List.mem_singleton.mp hb, hsz2]
    exact Ne.symm (Nat.ne_of_lt (Nat.lt_succ_of_lt F.ns.lt))
  · rw [hsz2]
    cases e : h₀.get? (s₁.heap.objs.size + 1) with
    | none => rfl
    | some o' => have := F.keep _ o' e; rw [Heap.get?_none_of_le (Nat.le_succ _)] at this; cases this
  · rw [hsz2]
    exact Ne.symm (Nat.ne_of_lt (Nat.lt_succ_of_lt F.ns.lt))
  · intro p hp
    rw [hsz2]
    exact low _ _ (N p hp).1
  · intro C i tv s₃ m₃ E' hi hBd hC hs hns hm hF hN htk
    rw [hgd i hi] at hm ⊢
    obtain ⟨h, tk, G, rfl, hG⟩ := hs
    refine helt C i tv _ m₃ E' hi (by have := hBd trivial; dsimp only at this; omega) ?_ ⟨h, tk, G, rfl, hG⟩ hns hm hF hN (by dsimp only at htk ⊢; omega)
    cases e : s₁.heap.get? C with
    | none => rfl
    | some o => have := up C o e; rw [hC] at this; cases this
  · intro D h' tk G ys hD hpl hE hG hF hN htk
    refine use D h' tk G ys ?_ hpl hE hG hF hN (by dsimp only at htk ⊢; omega)
    cases e : s₁.heap.get? D with
    | none => rfl
    | some o => have := up D o e; rw [hD] at this; cases this
end
end Mine
end

section
open PySem PySem.W PyProof.Rows
set_option maxRecDepth 100000
namespace Mine
open PySem.Sre
theorem runFor_done {m : M} (h : m.outcome.isSome = true) : ∀ n, M.runFor n m = m
  | 0 => rfl
  | n + 1 => by unfold M.runFor; rw [if_pos h]
theorem runFor_succ {m : M} (h : m.outcome.isSome = false) (n : Nat) : M.runFor (n + 1) m = M.runFor n m.step := by
  show (if m.outcome.isSome = true then m else M.runFor n m.step) = _
  rw [if_neg (by rw [h]; exact Bool.false_ne_true)]
theorem runFor_add (a b : Nat) : ∀ m : M, M.runFor (a + b) m = M.runFor b (M.runFor a m) := by
  induction a with
  | zero => intro m; rw [Nat.zero_add]; rfl
  | succ a ih =>
    intro m
    cases h : m.outcome.isSome with
    | true => rw [runFor_done h, runFor_done h, runFor_done h]
    | false => rw [Nat.succ_add, runFor_succ h, runFor_succ h, ih]

def code1 : Array Nat := #[14, 4, 0, 1, 1, 6, 1, 16, 46, 1]
/-- pattern 1, just set at place s -/
def A1 (text : Array Nat) (lim s : Nat) (first : Bool) (seen : Sre.Seen) : M :=
  { code := code1, text, lim, start := s, lastStart := lim, pc := 5, pos := s, handed := s, outermost := first, marks := #[], frames := [{ wait := .nextStart, pc := 5, pos := s, outermost := first }], weight := 1, seen }
def P1 (text : Array Nat) (lim s : Nat) (first : Bool) (pc pos handed : Nat) (seen : Sre.Seen) (ans : Option Bool) : M :=
  { code := code1, text, lim, start := s, lastStart := lim, pc, pos, handed, outermost := first, marks := #[], frames := [{ wait := .nextStart, pc := 5, pos := s, outermost := first }], weight := 1, seen, answer := ans }
variable {text : Array Nat} {lim s : Nat} {first : Bool} {seen : Sre.Seen}
theorem s1_at : (A1 text lim s first seen).step = if (s == 0 || text.getD (s - 1) 0 == 10) = true then P1 text lim s first 7 s s ((seen.add 6).add 44) none else P1 text lim s first 5 s s ((seen.add 6).add 44) (some false) := rfl
theorem s1_end {sn : Sre.Seen} (h : lim ≤ s) : (P1 text lim s first 7 s s sn none).step = P1 text lim s first 7 s s (sn.add 16) (some false) := by
  show (if s ≥ lim then P1 text lim s first 7 s s (sn.add 16) (some false) else _) = _
  rw [if_pos h]
theorem s1_lit {sn : Sre.Seen} (h : s < lim) : (P1 text lim s first 7 s s sn none).step = if (text.getD s 0 == 46) = true then P1 text lim s first 9 (s + 1) s (sn.add 16) none else P1 text lim s first 7 s s (sn.add 16) (some false) := by
  show (if s ≥ lim then P1 text lim s first 7 s s (sn.add 16) (some false) else match (Except.ok (text.getD s 0 == 46, sn.add 16) : Except String (Bool × Sre.Seen)) with
    | .error why => M.stick (P1 text lim s first 7 s s (sn.add 16) none) why
    | .ok (false, seen) => P1 text lim s first 7 s s seen (some false)
    | .ok (true, seen) => P1 text lim s first 9 (s + 1) s seen none) = _
  rw [if_neg (Nat.not_le.mpr h)]
  cases (text.getD s 0 == 46) <;> rfl
theorem s1_succ {sn : Sre.Seen} : (P1 text lim s first 9 (s + 1) s sn none).step = P1 text lim s first 9 (s + 1) (s + 1) (sn.add 1) (some true) := by
  cases first <;> rfl
/-- the answer on the way out -/
def E1 (text : Array Nat) (lim s : Nat) (first : Bool) (handed : Nat) (seen : Sre.Seen) (ans : Bool) (out : Option Sre.Outcome) : M :=
  { code := code1, text, lim, start := s, lastStart := lim, pc := 5, pos := s, handed, outermost := first, marks := #[], frames := [], weight := 0, seen, answer := some ans, outcome := out }
theorem s1_yes {sn : Sre.Seen} {pc pos hd : Nat} : (P1 text lim s first pc pos hd sn (some true)).step = E1 text lim s first hd sn true none := rfl
theorem s1_out {sn : Sre.Seen} {hd : Nat} {b : Bool} : (E1 text lim s first hd sn b none).step = E1 text lim s first hd sn b (some (if b then .matched else .failed)) := rfl
theorem s1_no {sn : Sre.Seen} {pc pos hd : Nat} (h : s < lim) : (P1 text lim s first pc pos hd sn (some false)).step = A1 text lim (s + 1) false sn := by
  show (if s < lim then A1 text lim (s + 1) false sn else _) = _
  rw [if_pos h]
theorem s1_last {sn : Sre.Seen} {pc pos hd : Nat} (h : lim ≤ s) : (P1 text lim s first pc pos hd sn (some false)).step = E1 text lim s first hd sn false none := by
  show (if s < lim then _ else E1 text lim s first hd sn false none) = _
  rw [if_neg (Nat.not_lt.mpr h)]

/-- does pattern 1 stand at q? -/
def hit1 (text : Array Nat) (q : Nat) : Bool := (q == 0 || text.getD (q - 1) 0 == 10) && text.getD q 0 == 46
def find1 (text : Array Nat) (lim : Nat) : Nat → Nat → Option Nat
  | 0, _ => none
  | n + 1, q => if hit1 text q then some q else find1 text lim n (q + 1)
theorem run1 : ∀ (n s : Nat) (first : Bool) (seen : Sre.Seen), s + n = lim → ∃ k, k ≤ 3 * n + 5 ∧ match find1 text lim n s with
    | some q => ∃ f sn, M.runFor k (A1 text lim s first seen) = E1 text lim q f (q + 1) sn true (some .matched)
    | none => ∃ q f hd sn, M.runFor k (A1 text lim s first seen) = E1 text lim q f hd sn false (some .failed)
  | 0, s, first, seen, e => by
    have hs : lim ≤ s := by omega
    cases h : (s == 0 || text.getD (s - 1) 0 == 10) with
    | true => exact ⟨4, by omega, s, first, s, _, by rw [runFor_succ rfl, s1_at, if_pos h, runFor_succ rfl, s1_end hs, runFor_succ rfl, s1_last hs, runFor_succ rfl, s1_out]; rfl⟩
    | false => exact ⟨3, by omega, s, first, s, _, by rw [runFor_succ rfl, s1_at, if_neg (by rw [h]; exact Bool.false_ne_true), runFor_succ rfl, s1_last hs, runFor_succ rfl, s1_out]; rfl⟩
  | n + 1, s, first, seen, e => by
    have hs : s < lim := by omega
    cases h : (s == 0 || text.getD (s - 1) 0 == 10) with
    | true =>
      cases h2 : (text.getD s 0 == 46) with
      | true =>
        have hh : hit1 text s = true := by unfold hit1; rw [h, h2]; rfl
        refine ⟨5, by omega, ?_⟩
        unfold find1
        rw [if_pos hh]
        exact ⟨first, _, by rw [runFor_succ rfl, s1_at, if_pos h, runFor_succ rfl, s1_lit hs, if_pos h2, runFor_succ rfl, s1_succ, runFor_succ rfl, s1_yes, runFor_succ rfl, s1_out]; rfl⟩
      | false =>
        have hh : hit1 text s = false := by unfold hit1; rw [h, h2]; rfl
        obtain ⟨k, hk, hm⟩ := run1 n (s + 1) false (((seen.add 6).add 44).add 16) (by omega)
        refine ⟨3 + k, by omega, ?_⟩
        unfold find1
        rw [if_neg (by rw [hh]; exact Bool.false_ne_true)]
        have step : M.runFor 3 (A1 text lim s first seen) = A1 text lim (s + 1) false (((seen.add 6).add 44).add 16) := by
          rw [runFor_succ rfl, s1_at, if_pos h, runFor_succ rfl, s1_lit hs, if_neg (by rw [h2]; exact Bool.false_ne_true), runFor_succ rfl, s1_no hs]; rfl
        rw [runFor_add, step]
        exact hm
    | false =>
      have hh : hit1 text s = false := by unfold hit1; rw [h]; rfl
      obtain ⟨k, hk, hm⟩ := run1 n (s + 1) false ((seen.add 6).add 44) (by omega)
      refine ⟨2 + k, by omega, ?_⟩
      unfold find1
      rw [if_neg (by rw [hh]; exact Bool.false_ne_true)]
      have step : M.runFor 2 (A1 text lim s first seen) = A1 text lim (s + 1) false ((seen.add 6).add 44) := by
        rw [runFor_succ rfl, s1_at, if_neg (by rw [h]; exact Bool.false_ne_true), runFor_succ rfl, s1_no hs]; rfl
      rw [runFor_add, step]
      exact hm
theorem search1 (h : s < lim) : Sre.forSearch code1 text 0 s lim false = A1 text lim s true (({} : Sre.Seen).add 14) := by
  have h1 : (decide (s > lim) || decide (lim - s < 1)) = false := by simp; omega
  show (if (decide (s > lim) || decide (lim - s < 1)) = true then _ else A1 text lim s true (({} : Sre.Seen).add 14)) = _
  rw [if_neg (by rw [h1]; exact Bool.false_ne_true)]
/-- at the text's end the search says no at once -/
theorem search1_end (h : lim ≤ s) : ((Sre.forSearch code1 text 0 s lim false).step).outcome = some .failed ∧ (Sre.forSearch code1 text 0 s lim false).outcome = none := by
  have h1 : (decide (s > lim) || decide (lim - s < 1)) = true := by simp; omega
  have e : Sre.forSearch code1 text 0 s lim false = M.say { code := code1, text, lim, start := s, pc := 5, pos := s, handed := s, marks := #[], seen := ({} : Sre.Seen).add 14 } false := by
    show (if (decide (s > lim) || decide (lim - s < 1)) = true then M.say { code := code1, text, lim, start := s, pc := 5, pos := s, handed := s, marks := #[], seen := ({} : Sre.Seen).add 14 } false else _) = _
    rw [if_pos h1]
  rw [e]
  exact ⟨rfl, rfl⟩

/-! pattern 2 -/
def code2 : Array Nat := #[14, 9, 4, 1, 2, 16, 10, 16, 13, 0, 7, 7, 16, 13, 16, 10, 15, 18, 5, 16, 10, 15, 13, 11, 16, 13, 5, 5, 0, 16, 10, 1, 15, 2, 0, 1]
def F0 (s : Nat) (first : Bool) : Sre.Frame := { wait := .nextStart, pc := 10, pos := s, outermost := first }
def FB (alt s : Nat) (first : Bool) : Sre.Frame := { wait := .nextBranch, pc := alt, pos := s, outermost := first }
def FL (pos : Nat) (first : Bool) : Sre.Frame := { wait := .lookNot, pc := 26, pos, outermost := first }
def Z2 (text : Array Nat) (lim s : Nat) (first : Bool) (fs : List Sre.Frame) (wt pc pos handed : Nat) (seen : Sre.Seen) (ans : Option Bool) (out : Option Sre.Outcome) : M :=
  { code := code2, text, lim, start := s, lastStart := lim, pc, pos, handed, outermost := first, marks := #[], frames := fs, weight := wt, seen, answer := ans, outcome := out }
abbrev A2 (text : Array Nat) (lim s : Nat) (first : Bool) (seen : Sre.Seen) : M := Z2 text lim s first [F0 s first] 1 10 s s seen none none
abbrev B2 (text : Array Nat) (lim s : Nat) (first : Bool) (alt pc pos hd : Nat) (seen : Sre.Seen) (ans : Option Bool) : M := Z2 text lim s first [FB alt s first, F0 s first] 2 pc pos hd seen ans none
theorem s2_branch : (A2 text lim s first seen).step = B2 text lim s first 11 12 s s (seen.add 7) none := rfl
theorem s2_alt1 {sn : Sre.Seen} {pc pos hd : Nat} : (B2 text lim s first 11 pc pos hd sn (some false)).step = B2 text lim s first 18 19 s s sn none := rfl
theorem s2_alt2 {sn : Sre.Seen} {pc pos hd : Nat} : (B2 text lim s first 18 pc pos hd sn (some false)).step = B2 text lim s first 23 24 s s sn none := rfl
/-- a literal of pattern 2 -/
theorem s2_lit {fs : List Sre.Frame} {wt pc pos hd c : Nat} {sn : Sre.Seen} (hc : pc = 12 ∧ c = 13 ∨ pc = 14 ∧ c = 10 ∨ pc = 19 ∧ c = 10 ∨ pc = 24 ∧ c = 13 ∨ pc = 29 ∧ c = 10) :
    (Z2 text lim s first fs wt pc pos hd sn none none).step = if pos < lim ∧ text.getD pos 0 = c then Z2 text lim s first fs wt (pc + 2) (pos + 1) hd (sn.add 16) none none else Z2 text lim s first fs wt pc pos hd (sn.add 16) (some false) none := by
  have key : (Z2 text lim s first fs wt pc pos hd sn none none).step = (if pos ≥ lim then Z2 text lim s first fs wt pc pos hd (sn.add 16) (some false) none else match (Except.ok (text.getD pos 0 == c, sn.add 16) : Except String (Bool × Sre.Seen)) with
    | .error why => M.stick (Z2 text lim s first fs wt pc pos hd (sn.add 16) none none) why
    | .ok (false, seen) => Z2 text lim s first fs wt pc pos hd seen (some false) none
    | .ok (true, seen) => Z2 text lim s first fs wt (pc + 2) (pos + 1) hd seen none none) := by
    rcases hc with ⟨rfl, rfl⟩ | ⟨rfl, rfl⟩ | ⟨rfl, rfl⟩ | ⟨rfl, rfl⟩ | ⟨rfl, rfl⟩ <;> rfl
  rw [key]
  by_cases h : pos < lim
  · rw [if_neg (Nat.not_le.mpr h)]
    by_cases h2 : text.getD pos 0 = c
    · rw [if_pos ⟨h, h2⟩, beq_iff_eq.mpr h2]
    · rw [if_neg (fun z => h2 z.2), beq_eq_false_iff_ne.mpr h2]
  · rw [if_pos (Nat.le_of_not_lt h), if_neg (fun z => h z.1)]
theorem s2_jump {fs : List Sre.Frame} {wt pc pos hd : Nat} {sn : Sre.Seen} (hc : pc = 16 ∨ pc = 21 ∨ pc = 32) :
    (Z2 text lim s first fs wt pc pos hd sn none none).step = Z2 text lim s first fs wt 35 pos hd (sn.add 15) none none := by
  rcases hc with rfl | rfl | rfl <;> rfl
theorem s2_succ {fs : List Sre.Frame} {wt pos hd : Nat} {sn : Sre.Seen} : (Z2 text lim s first fs wt 35 pos hd sn none none).step = Z2 text lim s first fs wt 35 pos pos (sn.add 1) (some true) none := by
  cases first <;> rfl
theorem s2_yesB {pc pos hd alt : Nat} {sn : Sre.Seen} : (B2 text lim s first alt pc pos hd sn (some true)).step = Z2 text lim s first [F0 s first] 1 alt s hd sn (some true) none := rfl
theorem s2_yes0 {pc pos hd : Nat} {sn : Sre.Seen} : (Z2 text lim s first [F0 s first] 1 pc pos hd sn (some true) none).step = Z2 text lim s first [] 0 10 s hd sn (some true) none := rfl
theorem s2_out {pc pos hd : Nat} {sn : Sre.Seen} {b : Bool} : (Z2 text lim s first [] 0 pc pos hd sn (some b) none).step = Z2 text lim s first [] 0 pc pos hd sn (some b) (some (if b then .matched else .failed)) := rfl
theorem s2_look {sn : Sre.Seen} {alt : Nat} {pos hd : Nat} : (B2 text lim s first alt 26 pos hd sn none).step = Z2 text lim s false [FL pos first, FB alt s first, F0 s first] 3 29 pos pos (sn.add 5) none none := rfl
theorem s2_lookNo {sn : Sre.Seen} {alt : Nat} {pc pos p hd : Nat} : (Z2 text lim s false [FL p first, FB alt s first, F0 s first] 3 pc pos hd sn (some false) none).step = B2 text lim s first alt 32 p hd sn none := rfl

def len2 (text : Array Nat) (lim s : Nat) : Nat := if text.getD s 0 = 13 ∧ s + 1 < lim ∧ text.getD (s + 1) 0 = 10 then 2 else 1
theorem fin2 {pc pos hd alt : Nat} {sn : Sre.Seen} : M.runFor 3 (B2 text lim s first alt pc pos hd sn (some true)) = Z2 text lim s first [] 0 10 s hd sn (some true) (some .matched) := by
  rw [runFor_succ rfl, s2_yesB, runFor_succ rfl, s2_yes0, runFor_succ rfl, s2_out]; rfl
theorem run2 (h : s < lim) (hc : text.getD s 0 = 10 ∨ text.getD s 0 = 13) : ∃ k sn, k ≤ 20 ∧ M.runFor k (A2 text lim s first seen) = Z2 text lim s first [] 0 10 s (s + len2 text lim s) sn (some true) (some .matched) := by
  by_cases h13 : text.getD s 0 = 13
  · by_cases h2 : s + 1 < lim ∧ text.getD (s + 1) 0 = 10
    · have e : len2 text lim s = 2 := if_pos ⟨h13, h2⟩
      rw [e]
      exact ⟨8, _, by omega, by
        rw [runFor_succ rfl, s2_branch, runFor_succ rfl, s2_lit (c := 13) (by simp), if_pos ⟨h, h13⟩, runFor_succ rfl, s2_lit (c := 10) (by simp), if_pos h2, runFor_succ rfl, s2_jump (by simp), runFor_succ rfl, s2_succ, fin2]⟩
    · have e : len2 text lim s = 1 := if_neg (fun z => h2 z.2)
      rw [e]
      exact ⟨15, _, by omega, by
        rw [runFor_succ rfl, s2_branch, runFor_succ rfl, s2_lit (c := 13) (by simp), if_pos ⟨h, h13⟩, runFor_succ rfl, s2_lit (c := 10) (by simp), if_neg h2, runFor_succ rfl, s2_alt1, runFor_succ rfl, s2_lit (c := 10) (by simp), if_neg (fun z => by rw [h13] at z; exact absurd z.2 (by decide)),
          runFor_succ rfl, s2_alt2, runFor_succ rfl, s2_lit (c := 13) (by simp), if_pos ⟨h, h13⟩, runFor_succ rfl, s2_look, runFor_succ rfl, s2_lit (c := 10) (by simp), if_neg h2, runFor_succ rfl, s2_lookNo, runFor_succ rfl, s2_jump (by simp), runFor_succ rfl, s2_succ, fin2]⟩
  · have h10 : text.getD s 0 = 10 := hc.resolve_right h13
    have e : len2 text lim s = 1 := if_neg (fun z => h13 z.1)
    rw [e]
    exact ⟨9, _, by omega, by
      rw [runFor_succ rfl, s2_branch, runFor_succ rfl, s2_lit (c := 13) (by simp), if_neg (fun z => h13 z.2), runFor_succ rfl, s2_alt1, runFor_succ rfl, s2_lit (c := 10) (by simp), if_pos ⟨h, h10⟩, runFor_succ rfl, s2_jump (by simp), runFor_succ rfl, s2_succ, fin2]⟩
def hit2 (text : Array Nat) (q : Nat) : Bool := text.getD q 0 == 10 || text.getD q 0 == 13
def find2 (text : Array Nat) : Nat → Nat → Option Nat
  | 0, _ => none
  | n + 1, q => if hit2 text q then some q else find2 text n (q + 1)
theorem inSet2 (c : Nat) (sn : Sre.Seen) : ∃ sn', Sre.inSet code2 c 36 5 true sn = .ok (c == 10 || c == 13, sn') := by
  have key : Sre.inSet code2 c 36 5 true sn = if (c == 10) = true then .ok (true, sn.add 16) else if (c == 13) = true then .ok (true, (sn.add 16).add 16) else .ok (false, ((sn.add 16).add 16).add 0) := rfl
  rw [key]
  cases h : (c == 10) with
  | true => exact ⟨_, rfl⟩
  | false =>
    cases h2 : (c == 13) with
    | true => exact ⟨_, rfl⟩
    | false => exact ⟨_, rfl⟩
theorem admitted2 {m : M} (hc : m.code = code2) (ht : m.text = text) (hl : m.lim = lim) : ∀ (n s : Nat) (sn : Sre.Seen), s + n = lim → ∃ sn', M.admitted m (n + 1) s sn = .ok (find2 text n s, sn')
  | 0, s, sn, e => by
    refine ⟨sn, ?_⟩
    show (if s ≥ m.lim then _ else _) = _
    rw [if_pos (by omega)]; rfl
  | n + 1, s, sn, e => by
    obtain ⟨sn₁, e₁⟩ := inSet2 (text.getD s 0) sn
    have step : M.admitted m (n + 1 + 1) s sn = if s ≥ m.lim then .ok (none, sn) else match Sre.inSet m.code (m.text.getD s 0) m.code.size 5 true sn with
      | .ok (true, seen) => .ok (some s, seen)
      | .ok (false, seen) => M.admitted m (n + 1) (s + 1) seen
      | .error why => .error why := rfl
    rw [step, if_neg (by omega), hc, ht, show code2.size = 36 from rfl, e₁]
    cases h : hit2 text s with
    | true =>
      have h' : (text.getD s 0 == 10 || text.getD s 0 == 13) = true := h
      rw [h']
      refine ⟨sn₁, ?_⟩
      show _ = Except.ok (if hit2 text s = true then some s else find2 text n (s + 1), sn₁)
      rw [if_pos h]
    | false =>
      have h' : (text.getD s 0 == 10 || text.getD s 0 == 13) = false := h
      rw [h']
      obtain ⟨sn₂, e₂⟩ := admitted2 hc ht hl n (s + 1) sn₁ (by omega)
      refine ⟨sn₂, ?_⟩
      show M.admitted m (n + 1) (s + 1) sn₁ = Except.ok (if hit2 text s = true then some s else find2 text n (s + 1), sn₂)
      rw [if_neg (by rw [h]; exact Bool.false_ne_true), e₂]
theorem find2_spec : ∀ (n s q : Nat), find2 text n s = some q → s ≤ q ∧ q < s + n ∧ hit2 text q = true
  | 0, _, _, e => by cases e
  | n + 1, s, q, e => by
    unfold find2 at e
    by_cases h : hit2 text s = true
    · rw [if_pos h] at e; cases e; exact ⟨Nat.le_refl _, by omega, h⟩
    · rw [if_neg h] at e
      have := find2_spec n (s + 1) q e
      exact ⟨by omega, by omega, this.2.2⟩
/-- the search of pattern 2 from s: a number of steps settles it -/
theorem search2 (n : Nat) (e : s + n = lim) : ∃ k, k ≤ 20 ∧ match find2 text n s with
    | some q => ∃ f sn, M.runFor k (Sre.forSearch code2 text 0 s lim false) = Z2 text lim q f [] 0 10 q (q + len2 text lim q) sn (some true) (some .matched)
    | none => (M.runFor k (Sre.forSearch code2 text 0 s lim false)).outcome = some .failed := by
  cases n with
  | zero =>
    have h1 : (decide (s > lim) || decide (lim - s < 1)) = true := by simp; omega
    refine ⟨1, by omega, ?_⟩
    have e : Sre.forSearch code2 text 0 s lim false = M.say { code := code2, text, lim, start := s, pc := 10, pos := s, handed := s, marks := #[], seen := ({} : Sre.Seen).add 14 } false := by
      show (if (decide (s > lim) || decide (lim - s < 1)) = true then M.say { code := code2, text, lim, start := s, pc := 10, pos := s, handed := s, marks := #[], seen := ({} : Sre.Seen).add 14 } false else _) = _
      rw [if_pos h1]
    rw [e]
    rfl
  | succ n =>
    have h1 : (decide (s > lim) || decide (lim - s < 1)) = false := by simp; omega
    let m : M := { code := code2, text, lim, start := s, lastStart := lim, pc := 10, pos := s, handed := s, marks := #[], seen := ({} : Sre.Seen).add 14 }
    obtain ⟨sn, e₁⟩ := admitted2 (m := m) (text := text) (lim := lim) rfl rfl rfl (n + 1) s (({} : Sre.Seen).add 14) e
    have e₂ : Sre.forSearch code2 text 0 s lim false = match M.admitted m (lim + 1 - s) s (({} : Sre.Seen).add 14) with
        | .ok (some q, seen) => A2 text lim q true seen
        | .ok (none, seen) => M.say { m with seen } false
        | .error why => M.stick m why := by
      show (if (decide (s > lim) || decide (lim - s < 1)) = true then _ else match M.admitted m (lim + 1 - s) s (({} : Sre.Seen).add 14) with
        | .ok (some q, seen) => A2 text lim q true seen
        | .ok (none, seen) => M.say { m with seen } false
        | .error why => M.stick m why) = _
      rw [if_neg (by rw [h1]; exact Bool.false_ne_true)]
    rw [e₂, show lim + 1 - s = n + 1 + 1 by omega, e₁]
    cases hf : find2 text (n + 1) s with
    | none => exact ⟨1, by omega, rfl⟩
    | some q =>
      obtain ⟨q1, q2, q3⟩ := find2_spec _ _ _ hf
      have hc : text.getD q 0 = 10 ∨ text.getD q 0 = 13 := by
        unfold hit2 at q3
        rcases Bool.or_eq_true_iff.mp q3 with z | z
        · exact .inl (beq_iff_eq.mp z)
        · exact .inr (beq_iff_eq.mp z)
      obtain ⟨k, sn', hk, hr⟩ := run2 (first := true) (seen := sn) (by omega : q < lim) hc
      exact ⟨k, hk, true, sn', hr⟩
theorem search1_all (n : Nat) (e : s + n = lim) : ∃ k, k ≤ 3 * n + 5 ∧ match find1 text lim n s with
    | some q => ∃ f sn, M.runFor k (Sre.forSearch code1 text 0 s lim false) = E1 text lim q f (q + 1) sn true (some .matched)
    | none => (M.runFor k (Sre.forSearch code1 text 0 s lim false)).outcome = some .failed := by
  cases n with
  | zero =>
    obtain ⟨h1, h2⟩ := search1_end (text := text) (by omega : lim ≤ s)
    exact ⟨1, by omega, by rw [runFor_succ (by rw [h2]; rfl)]; exact h1⟩
  | succ n =>
    rw [search1 (by omega)]
    obtain ⟨k, hk, hr⟩ := run1 (text := text) (lim := lim) (n + 1) s true (({} : Sre.Seen).add 14) e
    refine ⟨k, hk, ?_⟩
    cases hf : find1 text lim (n + 1) s with
    | some q => rw [hf] at hr; exact hr
    | none =>
      rw [hf] at hr
      obtain ⟨q, f, hd, sn, hr⟩ := hr
      rw [hr]; rfl
end Mine
end

section
open PySem PySem.W PyProof.Rows PySem.Calls
set_option maxRecDepth 100000
namespace Mine
open PySem.Sre PySem.Builtin PySem.Builtin.Re
section
variable {M₀ : Model} {A : Around} {E : Value → Shared → Prop} {s : Shared}
theorem wp_forIn {ι β : Type} {f : ι → β → Sem (ForInStep β)} (g : ι → β → β) (Inv : β → Prop) (hg : ∀ i b, Inv b → Inv (g i b)) : ∀ (l : List ι) (b : β) {Q : β → Shared → Prop},
    (∀ i ∈ l, ∀ b (Q : ForInStep β → Shared → Prop), Inv b → Q (.yield (g i b)) s → wpAny M₀ A (f i b) Q E s) → Inv b → Q (l.foldl (fun b i => g i b) b) s → wpAny M₀ A (forIn l b f) Q E s
  | [], b, Q, _, _, h => by rw [List.forIn_nil]; exact wpAny_pure h
  | i :: l, b, Q, hf, hb, h => by
    rw [List.forIn_cons]
    refine wpAny_bind (hf i (.head _) b _ hb ?_)
    exact wp_forIn g Inv hg l (g i b) (fun j hj => hf j (.tail _ hj)) (hg i b hb) h

theorem wp_reDrive : ∀ (n k : Nat) (m : M) {Q : M → Shared → Prop}, k ≤ 4 * (n + 1) → (M.runFor k m).outcome.isSome = true → Q (M.runFor k m) s → wpAny M₀ A (reDrive (n + 1) m) Q E s := by
  intro n
  induction n with
  | zero =>
    intro k m Q hk ho hq
    show wpAny M₀ A (if (M.runFor 4 m).outcome.isSome = true then pure (M.runFor 4 m) else _) Q E s
    have e : M.runFor 4 m = M.runFor k m := by
      rw [show (4 : Nat) = k + (4 - k) by omega, runFor_add, runFor_done ho]
    rw [e, if_pos ho]
    exact wpAny_pure hq
  | succ n ih =>
    intro k m Q hk ho hq
    show wpAny M₀ A (if (M.runFor 4 m).outcome.isSome = true then pure (M.runFor 4 m) else (do rule "sre.turn"; reDrive (n + 1) (M.runFor 4 m))) Q E s
    by_cases h4 : (M.runFor 4 m).outcome.isSome = true
    · rw [if_pos h4]
      have e : M.runFor 4 m = M.runFor k m := by
        by_cases hle : k ≤ 4
        · rw [show (4 : Nat) = k + (4 - k) by omega, runFor_add, runFor_done ho]
        · rw [show k = 4 + (k - 4) by omega, runFor_add 4 (k - 4) m, runFor_done h4]
      rw [e]
      exact wpAny_pure hq
    · rw [if_neg h4]
      have hle : ¬ k ≤ 4 := fun hle => h4 (by rw [show (4 : Nat) = k + (4 - k) by omega, runFor_add, runFor_done ho]; exact ho)
      have e : M.runFor k m = M.runFor (k - 4) (M.runFor 4 m) := by rw [← runFor_add, show 4 + (k - 4) = k by omega]
      rw [e] at ho hq
      exact wpAny_bind (wpAny_rule (ih (k - 4) _ (by omega) ho hq))
theorem wp_reRunToEnd {k : Nat} {m : M} {Q : Option M → Shared → Prop} (hk : k ≤ 67108864)
    (h : (M.runFor k m).outcome = some .matched ∧ Q (some (M.runFor k m)) s ∨ (M.runFor k m).outcome = some .failed ∧ Q none s) : wpAny M₀ A (reRunToEnd m) Q E s := by
  unfold reRunToEnd
  rw [show (2 : Nat) ^ 64 = (2 ^ 64 - 1) + 1 by decide]
  refine wpAny_bind (wp_reDrive (2 ^ 64 - 1) k m (by omega) (by rcases h with h | h <;> rw [h.1] <;> rfl) ?_)
  refine wpAny_bind (wp_forIn (fun _ _ => PUnit.unit) (fun _ => True) (fun _ _ _ => trivial) _ _ (fun i _ b Q _ hq => ?_) trivial ?_)
  · split
    · exact wpAny_bind (wpAny_rule (wpAny_pure hq))
    · exact wpAny_pure hq
  · rcases h with ⟨e, hq⟩ | ⟨e, hq⟩ <;> rw [e] <;> exact wpAny_pure hq

theorem wp_next1 {t : ReTarget} {start n : Nat} {Q : Option M → Shared → Prop} (hc : t.code = code1) (hg : t.groups = 0) (e : start + n = t.lim) (hn : n ≤ 16777216)
    (h : match find1 t.text t.lim n start with | some q => ∀ m : M, m.start = q → m.handed = q + 1 → Q (some m) s | none => Q none s) : wpAny M₀ A (reNextFound t start false) Q E s := by
  unfold reNextFound
  rw [hc, hg]
  obtain ⟨k, hk, hr⟩ := search1_all (text := t.text) (lim := t.lim) (s := start) n e
  refine wp_reRunToEnd (k := k) (by omega) ?_
  cases hf : find1 t.text t.lim n start with
  | some q =>
    rw [hf] at hr h
    obtain ⟨f, sn, hr⟩ := hr
    rw [hr]
    exact .inl ⟨rfl, h _ rfl rfl⟩
  | none =>
    rw [hf] at hr h
    exact .inr ⟨hr, h⟩
theorem wp_next2 {t : ReTarget} {start n : Nat} {Q : Option M → Shared → Prop} (hc : t.code = code2) (hg : t.groups = 0) (e : start + n = t.lim)
    (h : match find2 t.text n start with | some q => ∀ m : M, m.start = q → m.handed = q + len2 t.text t.lim q → Q (some m) s | none => Q none s) : wpAny M₀ A (reNextFound t start false) Q E s := by
  unfold reNextFound
  rw [hc, hg]
  obtain ⟨k, hk, hr⟩ := search2 (text := t.text) (lim := t.lim) (s := start) n e
  refine wp_reRunToEnd (k := k) (by omega) ?_
  cases hf : find2 t.text n start with
  | some q =>
    rw [hf] at hr h
    obtain ⟨f, sn, hr⟩ := hr
    rw [hr]
    exact .inl ⟨rfl, h _ rfl rfl⟩
  | none =>
    rw [hf] at hr h
    exact .inr ⟨hr, h⟩
/-- a pattern's object and its code -/
structure PatAt (h : Heap) (pa : Addr) (code : Array Nat) (kind : Nat) : Prop where
  at_ : ∃ (o oc : Obj) (ca : Addr) (its : Array Value) (n : Nat) (p fl : Value), h.get? pa = some o ∧ o.data = .fields #[p, fl, .int 0 0, .none, .none, .ref ca, .int kind 0] ∧ h.get? ca = some oc ∧ oc.data = .seq its n ∧ oc.cls = .type "tuple" ∧ (its.map reRawOf).map (·.toNat) = code
theorem PatAt.keeps {h h' : Heap} {pa : Addr} {code : Array Nat} {kind : Nat} (x : PatAt h pa code kind) (k : ∀ b o, h.get? b = some o → h'.get? b = some o) : PatAt h' pa code kind := by
  obtain ⟨o, oc, ca, its, n, p, fl, h1, h2, h3, r⟩ := x.at_
  exact ⟨o, oc, ca, its, n, p, fl, k _ _ h1, h2, k _ _ h3, r⟩
theorem wp_target_str {pa : Addr} {code : Array Nat} {x : PySem.Str} {t : Tok} {Q : ReTarget → Shared → Prop} (hp : PatAt s.heap pa code 0)
    (h : Q { pattern := .ref pa, string := .str x t, code, text := x.cps, kind := 0, groups := 0, pos := 0, lim := x.cps.size } s) : wpAny M₀ A (reWholeTarget (.ref pa) (.str x t)) Q E s := by
  obtain ⟨o, oc, ca, its, n, p, fl, h1, h2, h3, h4, hcl, h5⟩ := hp.at_
  unfold reWholeTarget
  refine wpAny_bind (wpAny_fieldsOf h1 h2 ?_)
  show wpAny M₀ A (reRawItems (.ref ca) >>= fun r => _) Q E s
  unfold reRawItems
  refine wpAny_bind (wpAny_bind (wpAny_seqItems h3 h4 (wpAny_pure ?_)))
  have e : (Array.map reRawOf ((some its).getD #[])).map (·.toNat) = code := h5
  show wpAny M₀ A (pure { pattern := .ref pa, string := .str x t, code := (Array.map reRawOf ((some its).getD #[])).map (·.toNat), text := x.cps, kind := 0, groups := 0, pos := 0, lim := x.cps.size }) Q E s
  rw [e]
  exact wpAny_pure h
theorem wp_target_bytes {pa : Addr} {code : Array Nat} {b : Array UInt8} {t : Tok} {Q : ReTarget → Shared → Prop} (hp : PatAt s.heap pa code 1)
    (h : Q { pattern := .ref pa, string := .bytes b t, code, text := b.map (·.toNat), kind := 1, groups := 0, pos := 0, lim := (b.map (·.toNat)).size } s) : wpAny M₀ A (reWholeTarget (.ref pa) (.bytes b t)) Q E s := by
  obtain ⟨o, oc, ca, its, n, p, fl, h1, h2, h3, h4, hcl, h5⟩ := hp.at_
  unfold reWholeTarget
  refine wpAny_bind (wpAny_fieldsOf h1 h2 ?_)
  have e0 : reTextOf (.bytes b t) = pure (b.map (·.toNat), 1) := by
    show (Bytes.bufferQuiet? "_sre" (.bytes b t) >>= fun r => _) = _
    rw [KBy.quiet_eq]; rfl
  refine wpAny_bind (wpAny_of_eq e0 ?_)
  show wpAny M₀ A (reNoCollectionInside (.bytes b t) 1 >>= fun r => _) Q E s
  have e1 : reNoCollectionInside (.bytes b t) 1 = pure () := by
    show (isInstance (.bytes b t) (.type "bytes") >>= fun r => _) = _
    rw [KBy.isInstance_eq]; rfl
  refine wpAny_bind (wpAny_of_eq e1 ?_)
  show wpAny M₀ A (reRawItems (.ref ca) >>= fun r => _) Q E s
  unfold reRawItems
  refine wpAny_bind (wpAny_bind (wpAny_seqItems h3 h4 (wpAny_pure ?_)))
  have e : (Array.map reRawOf ((some its).getD #[])).map (·.toNat) = code := h5
  show wpAny M₀ A (pure { pattern := .ref pa, string := .bytes b t, code := (Array.map reRawOf ((some its).getD #[])).map (·.toNat), text := b.map (·.toNat), kind := 1, groups := 0, pos := 0, lim := (b.map (·.toNat)).size }) Q E s
  rw [e]
  exact wpAny_pure h
end
end Mine
end

section
open PySem PySem.W PyProof.Rows PySem.Calls
set_option maxRecDepth 100000
namespace Mine
open PySem.Builtin PySem.Builtin.Re
theorem slot_bytes_join : Slot "bytes" "join" "bytes.join" :=
  .of (owner := "bytes") (n := "join") (by rw [typeLookup_type, builtinLookup_eq_fast]; kernel_rfl) (by decide +kernel) (by decide +kernel) (by decide +kernel)
    (by first | exact .inl (by decide +kernel) | exact .inr (by decide +kernel)) (by rw [isSubtype_type]; kernel_rfl)
theorem entry_bytes_join : entryFor table "bytes.join" = some Builtin.«bytes.join» := entryFor_of_tree (by kernel_rfl)
theorem args_bytes_join (a b : Value) : argsOk "bytes.join" ⟨[a, b], []⟩ := by unfold argsOk; kernel_rfl
inductive BytesAre : List Value → List (Array UInt8) → Prop where
  | nil : BytesAre [] []
  | cons (b : Array UInt8) (t : Tok) {vs : List Value} {bs : List (Array UInt8)} : BytesAre vs bs → BytesAre (.bytes b t :: vs) (b :: bs)
theorem BytesAre.length {vs bs} (x : BytesAre vs bs) : vs.length = bs.length := by
  induction x with
  | nil => rfl
  | cons _ _ _ ih => exact congrArg (· + 1) ih
theorem BytesAre.get {vs bs} (x : BytesAre vs bs) : ∀ (i : Nat) b, bs[i]? = some b → ∃ t, vs[i]? = some (.bytes b t) := by
  induction x with
  | nil => intro i b e; simp at e
  | cons b t h ih =>
    intro i b' e
    cases i with
    | zero => cases e; exact ⟨t, rfl⟩
    | succ i => exact ih i b' e
theorem BytesAre.append {vs bs ws cs} (x : BytesAre vs bs) (g : BytesAre ws cs) : BytesAre (vs ++ ws) (bs ++ cs) := by
  induction x with
  | nil => exact g
  | cons b t h ih => exact .cons b t ih
section
variable {M₀ : Model} {A : Around} {E : Value → Shared → Prop} {s : Shared}
theorem take_bytes {id : String} {b : Array UInt8} {t : Tok} : Bytes.takeBufferQuiet? id (.bytes b t) 0 = pure (some (b, none)) := by
  have e : Bytes.takeBuffer? id (.bytes b t) 0 = pure (some (b, none)) := by
    unfold Bytes.takeBuffer?
    rw [KBy.special_eq KBy.look_buffer, KBy.own_buffer]
    show (Bytes.buffer? id (.bytes b t) _ >>= fun r => _) = _
    have e2 : Bytes.buffer? id (.bytes b t) ((0 : Int) == Bytes.fullReadOnly) = pure (some b) := by
      unfold Bytes.buffer?
      rw [KBy.special_eq KBy.look_buffer, KBy.own_buffer, KBy.own_release]
      kernel_rfl
    rw [e2]
    rfl
  unfold Bytes.takeBufferQuiet?
  rw [e]
  rfl
theorem wp_joinLetGo : ∀ (taken : List (Value × Option Value)) (keep : List Value) {Q : Unit → Shared → Prop}, (∀ p ∈ taken, p.2 = none) → Q () s → wpAny M₀ A (Bytes.joinLetGo taken keep) Q E s
  | [], _, Q, _, h => wpAny_pure h
  | (x, w) :: rest, keep, Q, hn, h => by
    have hw : w = none := hn (x, w) (.head _)
    subst hw
    unfold Bytes.joinLetGo
    exact wpAny_bind (wpAny_letGo (wp_joinLetGo rest keep (fun p hp => hn p (.tail _ hp)) h))
theorem joined_nil (parts : List (Array UInt8)) : (Bytes.joined #[] parts).toList = (parts.map (·.toList)).flatten := by
  unfold Bytes.joined
  have key : ∀ (l : List (Array UInt8 × Nat)) (a : Array UInt8), (l.foldl (fun out (x : Array UInt8 × Nat) => (if x.2 > 0 then out ++ #[] else out) ++ x.1) a).toList = a.toList ++ (l.map (fun x => x.1.toList)).flatten := by
    intro l
    induction l with
    | nil => intro a; simp
    | cons x r ih => intro a; rw [List.foldl_cons, ih]; simp
  have := key parts.zipIdx #[]
  rw [show (fun out (x : Array UInt8 × Nat) => (if x.2 > 0 then out ++ #[] else out) ++ x.1) = (fun out (p, i) => (if i > 0 then out ++ #[] else out) ++ p) from rfl] at this
  rw [this]
  simp only [List.nil_append]
  congr 1
  rw [show (fun x : Array UInt8 × Nat => x.1.toList) = (fun b : Array UInt8 => b.toList) ∘ Prod.fst from rfl, ← List.map_map, List.zipIdx_map_fst]
end
theorem wp_bytes_join {M₀ : Model} {A : Around} {E : Value → Shared → Prop} {s : Shared} {a : Addr} {t : Tok} {vs : List Value} {bs : List (Array UInt8)} {Q : PySem.Fin → Shared → Prop} (hl : s.heap.IsList a vs.toArray) (hb : BytesAre vs bs)
    (hz : (bs.map (·.size)).sum ≤ 16777216) (h : ∀ c tk k, c.toList = (bs.map (·.toList)).flatten → Q (.done (.ret (.bytes c tk))) { s with toks := k }) :
    wpAny M₀ A (Builtin.«bytes.join» ⟨[.bytes #[] t, .ref a], []⟩) Q E s := by
  obtain ⟨o, ho, hc, n, hd⟩ := id hl
  unfold Builtin.«bytes.join» Bytes.joinM
  refine wpAny_bind (wpAny_of_eq (a := (Value.bytes #[] t, Value.ref a)) rfl ?_)
  have hj : ∀ {Q : Value → Shared → Prop}, Q (.ref a) s → wpAny M₀ A (Bytes.joinItems (.ref a)) Q E s := by
    intro Q hq
    unfold Bytes.joinItems
    refine wpAny_bind (wpAny_typeOf hl.typeIs ?_)
    exact wpAny_pure hq
  show wpAny M₀ A (Bytes.joinItems (.ref a) >>= fun seq => _) Q E s
  refine wpAny_bind (hj ?_)
  refine wpAny_bind (wpAny_seqItems ho hd ?_)
  obtain ⟨L, hL⟩ : ∃ L, L = vs := ⟨vs, rfl⟩
  have hoff : ∀ i, (L.getD i .none).onHeap = false := by
    intro i
    subst hL
    cases e : bs[i]? with
    | none =>
      have : L[i]? = none := List.getElem?_eq_none (by rw [hb.length]; exact List.getElem?_eq_none_iff.mp e)
      rw [List.getD_eq_getElem?_getD, this]; rfl
    | some b =>
      obtain ⟨t, e'⟩ := hb.get i b e
      rw [List.getD_eq_getElem?_getD, e']; rfl
  have hget : ∀ i ∈ List.range' 0 L.length, ∃ t, L.getD i .none = .bytes (bs.getD i #[]) t := by
    intro i hi
    subst hL
    have hi' : i < bs.length := by rw [← hb.length]; simpa using hi
    obtain ⟨t, e'⟩ := hb.get i bs[i] (List.getElem?_eq_getElem hi')
    exact ⟨t, by rw [List.getD_eq_getElem?_getD, e', List.getD_eq_getElem?_getD, List.getElem?_eq_getElem hi']; rfl⟩
  have hLb : L.length = bs.length := by rw [hL, hb.length]
  have hfold : ∀ (l : List Nat) (st : Array (Array UInt8) × List (Value × Option Value)), (l.foldl (fun st i => (st.1.push (bs.getD i #[]), st.2 ++ [(L.getD i .none, none)])) st).1.toList = st.1.toList ++ l.map (fun i => bs.getD i #[]) := by
    intro l
    induction l with
    | nil => intro st; simp
    | cons i r ih => intro st; rw [List.foldl_cons, ih]; simp
  have hnone : ∀ (l : List Nat) (st : Array (Array UInt8) × List (Value × Option Value)), (∀ p ∈ st.2, p.2 = none) → ∀ p ∈ (l.foldl (fun st i => (st.1.push (bs.getD i #[]), st.2 ++ [(L.getD i .none, none)])) st).2, p.2 = none := by
    intro l
    induction l with
    | nil => intro st hst; exact hst
    | cons i r ih => intro st hst; rw [List.foldl_cons]; exact ih _ fun p hp => by
                      rcases List.mem_append.mp hp with hp | hp
                      · exact hst p hp
                      · rw [List.mem_singleton.mp hp]
  have hall : (List.range' 0 L.length).map (fun i => bs.getD i #[]) = bs := by
    rw [hLb]
    apply List.ext_getElem
    · simp
    · intro i h1 h2
      simp only [List.getElem_map, List.getElem_range', Nat.zero_add, Nat.one_mul]
      rw [List.getD_eq_getElem?_getD, List.getElem?_eq_getElem h2]; rfl
  rcases vs with _ | ⟨x, _ | ⟨y, r⟩⟩
  case cons.nil =>
    cases hb with
    | cons b tb hr =>
      cases hr
      refine wpAny_bind (wpAny_typeOf (T := "bytes") rfl ?_)
      refine wpAny_bind (wpAny_rule (wpAny_pure ?_))
      exact h b tb s.toks (by simp)
  all_goals
    (show wpAny M₀ A (forIn [:Array.size _] _ _ >>= fun st => _) Q E s)
    rw [Std.Legacy.Range.forIn_eq_forIn_range']
    refine wpAny_bind (wp_forIn (fun i st => (st.1.push (bs.getD i #[]), st.2 ++ [(L.getD i .none, none)])) (fun st => ∀ p ∈ st.2, p.2 = none ∧ p.1.onHeap = false) ?_ _ _ ?_ ?_ ?_)
    · intro i st hst p hp
      rcases List.mem_append.mp hp with hp | hp
      · exact hst p hp
      · rw [List.mem_singleton.mp hp]; exact ⟨rfl, hoff i⟩
    · intro i hi st Q' hst hq
      obtain ⟨tx, hx⟩ := hget i (by rw [hL]; simpa using hi)
      have hx' : ∀ (ws : List Value), L = ws → ws.toArray.getD i .none = .bytes (bs.getD i #[]) tx := by
        intro ws e
        rw [← hx, e]; simp [Array.getD_eq_getD_getElem?, List.getD_eq_getElem?_getD]
      have hany : (st.2.any fun x => x.1.onHeap) = false := by
        rw [List.any_eq_false]
        exact fun p hp => by rw [(hst p hp).2]; exact Bool.false_ne_true
      refine wpAny_bind (wpAny_seqItems ho hd ?_)
      show wpAny M₀ A (if (Bytes.Kind.bytes == Bytes.Kind.bytearray || st.2.any fun x => x.1.onHeap) = true then _ else _) _ E s
      rw [if_neg (by rw [hany]; exact Bool.false_ne_true)]
      refine wpAny_bind (wpAny_holding (wpAny_of_eq (a := some (bs.getD i #[], none)) ((congrArg (fun v => Bytes.takeBufferQuiet? _ v 0) (hx' _ hL)).trans take_bytes) ?_))
      refine wpAny_bind (wpAny_seqItems ho hd ?_)
      show wpAny M₀ A (if _ = true then _ else pure _) _ E s
      rw [if_neg (by simp)]
      rw [← hx' _ hL] at hx
      rw [hx] at hq
      exact wpAny_pure hq
    · exact fun _ hp => nomatch hp
    · generalize hst : List.foldl _ _ _ = st
      have h1 : st.1.toList = bs := by
        rw [← hst, hfold]
        refine Eq.trans ?_ hall
        subst hL
        simp [Std.Legacy.Range.size]
      have h2 : ∀ p ∈ st.2, p.2 = none := by
        rw [← hst]
        exact hnone _ _ fun _ hp => nomatch hp
      have h3 : st.1 = bs.toArray := by rw [← h1]
      refine wpAny_bind (wpAny_of_eq (a := (#[] : Array UInt8)) rfl ?_)
      have hlong : Bytes.tooLong (st.1.foldl (fun x1 x2 => x1 + x2.size) ((#[] : Array UInt8).size * (st.1.size - 1))) = false := by
        refine KBy.tooLong_not ?_
        rw [h3, List.foldl_toArray]
        have : ∀ (l : List (Array UInt8)) (k : Nat), l.foldl (fun x1 x2 => x1 + x2.size) k = k + (l.map (·.size)).sum := by
          intro l
          induction l with
          | nil => intro k; simp
          | cons b r ih => intro k; rw [List.foldl_cons, ih]; simp; omega
        rw [this]
        simpa using hz
      show wpAny M₀ A (if Bytes.tooLong (st.1.foldl (fun x1 x2 => x1 + x2.size) ((#[] : Array UInt8).size * (st.1.size - 1))) = true then _ else _) Q E s
      rw [if_neg (by rw [hlong]; exact Bool.false_ne_true)]
      have hj2 := joined_nil st.1.toList
      rw [h1] at hj2
      have hjs : (Bytes.joined #[] bs).size ≤ sizeLine := by
        rw [sizeLine_eq, ← Array.length_toList, hj2]
        refine Nat.le_trans (Nat.le_of_eq ?_) hz
        rw [List.length_flatten, List.map_map]
        rfl
      rw [h1]
      refine wpAny_bind (wpAny_mkBytes ?_ hjs)
      refine wpAny_bind (wpAny_holding (wpAny_point ?_))
      refine wpAny_bind (wp_joinLetGo _ _ h2 ?_)
      exact wpAny_pure (h _ _ _ hj2)

theorem meets_bytes_join {a : Addr} {t : Tok} {vs : List Value} {bs : List (Array UInt8)} (hb : BytesAre vs bs) (hz : (bs.map (·.size)).sum ≤ 16777216) :
    Meets (Builtin.«bytes.join» ⟨[.bytes #[] t, .ref a], []⟩) (fun _ R s => s.heap.IsList a vs.toArray ∧ ∀ c tk k, c.toList = (bs.map (·.toList)).flatten → R (.ok (.ret (.bytes c tk))) { s with toks := k }) :=
  fun prog w A R s h => wp_bytes_join h.1 hb hz fun c tk k e => h.2 c tk k e
theorem bytes_join {prog : Program} {w : World} {A : Around} {E : Value → Shared → Prop} {s : Shared} {a : Addr} {t : Tok} {vs : List Value} {bs : List (Array UInt8)} {Q : Value → Shared → Prop} (hl : s.heap.IsList a vs.toArray) (hb : BytesAre vs bs)
    (hz : (bs.map (·.size)).sum ≤ 16777216) (h : ∀ c tk k, c.toList = (bs.map (·.toList)).flatten → Q (.bytes c tk) { s with toks := k }) :
    wpAny (model prog w) A (call (.builtin "bytes.join") [.bytes #[] t, .ref a]) Q E s :=
  call_meets slot_bytes_join (typeIs_bytes _ _ _) entry_bytes_join (args_bytes_join _ _) (meets_bytes_join hb hz) ⟨hl, h⟩
end Mine
end

section
open PySem PySem.W PyProof.Rows PySem.Calls
set_option linter.unusedVariables false
set_option maxRecDepth 100000
namespace Mine
open PySem.Builtin PySem.Builtin.Re
theorem entry_sub_loop : entryFor table "re.Pattern.sub.loop" = some Builtin.«re.Pattern.sub.loop» := entryFor_of_tree (by kernel_rfl)
theorem plain_sub_loop : plainId "re.Pattern.sub.loop" = true := by decide +kernel
def cut (text : Array Nat) (b e : Nat) : List Nat := (text.extract b e).toList
/-- what a substitution writes from place q on -/
def restL (text : Array Nat) (find : Nat → Nat → Option Nat) (len : Nat → Nat) (repl : List Nat) (lim : Nat) : Nat → Nat → List Nat
  | 0, q => cut text q lim
  | f + 1, q => match find (lim - q) q with
    | none => cut text q lim
    | some r => cut text q r ++ repl ++ restL text find len repl lim f (r + len r)
theorem cut_nil (text : Array Nat) (q : Nat) : cut text q q = [] := by unfold cut; simp
def flatS (xs : List PySem.Str) : List Nat := (xs.map (·.cps.toList)).flatten
theorem join_empty : ∀ xs : List PySem.Str, (PySem.Str.join ⟨#[]⟩ xs).cps.toList = flatS xs
  | [] => rfl
  | [x] => by simp [PySem.Str.join, flatS]
  | x :: y :: r => by
    have ih := join_empty (y :: r)
    show ((x ++ (⟨#[]⟩ : PySem.Str)) ++ PySem.Str.join ⟨#[]⟩ (y :: r)).cps.toList = _
    rw [Str.cps_append, Str.cps_append, Array.toList_append, Array.toList_append, ih]
    simp [flatS]
theorem txt_join_empty (xs : List PySem.Str) : Txt.join ⟨#[]⟩ xs = ⟨(flatS xs).toArray⟩ := by
  apply Str.ext'
  apply Array.ext'
  show (Builtin.Str.glued ⟨#[]⟩ xs).cps.toList = _
  rw [StrLaws.glued_eq_join, join_empty]
theorem StrsAre.snoc {vs xs} (x : StrsAre vs xs) (y : PySem.Str) (t : Tok) : StrsAre (vs ++ [.str y t]) (xs ++ [y]) := by
  induction x with
  | nil => exact .cons y t .nil
  | cons z u _ ih => exact .cons z u ih
theorem flatS_snoc (xs : List PySem.Str) (y : PySem.Str) : flatS (xs ++ [y]) = flatS xs ++ y.cps.toList := by simp [flatS]
theorem lens_flatS (xs : List PySem.Str) : (xs.map (·.length)).sum = (flatS xs).length := by
  unfold flatS
  rw [List.length_flatten, List.map_map]
  rfl
theorem PatAt.ne {h : Heap} {pa : Addr} {code : Array Nat} {kind : Nat} {D : Addr} {n : Nat} {vs : Array Value} (x : PatAt h pa code kind) (hD : h.get? D = some { cls := .type "list", data := .seq vs n }) (f : Obj → Obj) : PatAt (h.update D f) pa code kind := by
  obtain ⟨o, oc, ca, its, m, p, fl, h1, h2, h3, h4, hcl, h5⟩ := x.at_
  have hs : Heap.SameBut D h (h.update D f) := Heap.SameBut.update ..
  have n1 : pa ≠ D := by
    intro e
    rw [e, hD] at h1
    cases h1
    cases h2
  have n2 : ca ≠ D := by
    intro e
    rw [e, hD] at h3
    have := congrArg Obj.cls (Option.some.inj h3)
    rw [hcl] at this
    exact absurd (Value.type.inj this) (by decide)
  exact ⟨o, oc, ca, its, m, p, fl, (hs.2 _ n1).trans h1, h2, (hs.2 _ n2).trans h3, h4, hcl, h5⟩
/-- one item more on the pieces' list -/
theorem push_at {h : Heap} {D : Addr} {n : Nat} {vs : Array Value} (hD : h.get? D = some { cls := .type "list", data := .seq vs n }) (v : Value) : ∃ n', (h.update D (Obj.mapSeq (·.push v))).get? D = some { cls := .type "list", data := .seq (vs.push v) n' } := by
  have e : Obj.mapSeq (·.push v) ({ cls := .type "list", data := .seq vs n } : Obj) = { cls := .type "list", data := .seq (vs.push v) (if (vs.push v).size == vs.size then n else n + 1) } := rfl
  exact ⟨_, by rw [← e]; exact Heap.get?_update_self _ hD rfl⟩
section
variable {prog : Program} {w : World}
abbrev loopArgs (pa : Addr) (string repl : Value) (n : Int) (q : Nat) (D : Addr) : Args := ⟨[.ref pa, string, repl, rawInt 0, rawInt 0, rawInt n, rawInt q, rawInt q, .bool false, .ref D, .bool false], []⟩
/-- the pieces so far, on the heap -/
structure Pieces (h₀ h : Heap) (pa D : Addr) (vs : List Value) : Prop where
  at_ : ∃ m, h.get? D = some { cls := .type "list", data := .seq vs.toArray m }
  keep : ∀ b o, b ≠ D → h₀.get? b = some o → h.get? b = some o
theorem Pieces.push {h₀ h : Heap} {pa D : Addr} {vs : List Value} (x : Pieces h₀ h pa D vs) (v : Value) : Pieces h₀ (h.update D (Obj.mapSeq (·.push v))) pa D (vs ++ [v]) := by
  obtain ⟨m, hm⟩ := x.at_
  obtain ⟨m', hm'⟩ := push_at hm v
  have hs : Heap.SameBut D h (h.update D (Obj.mapSeq (·.push v))) := Heap.SameBut.update ..
  exact ⟨⟨m', by rw [hm']; simp⟩, fun b o hb e => (hs.2 b hb).trans (x.keep b o hb e)⟩
theorem push_wp {M₀ : Model} {A : Around} {E : Value → Shared → Prop} {s : Shared} {h₀ : Heap} {pa D : Addr} {vs : List Value} {v : Value} {Q : Unit → Shared → Prop} (x : Pieces h₀ s.heap pa D vs) (hz : vs.length ≤ 1000000)
    (h : ∀ h', Pieces h₀ h' pa D (vs ++ [v]) → (∀ code kind, PatAt s.heap pa code kind → PatAt h' pa code kind) → Q () { s with heap := h' }) : wpAny M₀ A (updateSeq D (fun xs => xs.push v)) Q E s := by
  obtain ⟨m, hm⟩ := x.at_
  refine wpAny_updateSeq hm rfl (h _ (x.push v) fun code kind hp => hp.ne hm _) ?_ ?_
  · rw [sizeLine_eq, List.size_toArray]; omega
  · rw [sizeLine_eq, Array.size_push, List.size_toArray]; omega
theorem optpush_str {M₀ : Model} {A : Around} {E : Value → Shared → Prop} {s : Shared} {h₀ : Heap} {pa D : Addr} {vs : List Value} {xs : List PySem.Str} {text : Array Nat} {b e : Nat} {J : Unit → Sem PySem.Fin} {Q : PySem.Fin → Shared → Prop}
    (x : Pieces h₀ s.heap pa D vs) (hs : StrsAre vs xs) (hz : vs.length ≤ 1000000) (ht : text.size ≤ 100000) (hbe : b ≤ e)
    (h : ∀ h' k vs' xs', Pieces h₀ h' pa D vs' → (∀ code kind, PatAt s.heap pa code kind → PatAt h' pa code kind) → StrsAre vs' xs' → flatS xs' = flatS xs ++ cut text b e → vs'.length ≤ vs.length + 1 → wpAny M₀ A (J ()) Q E { s with heap := h', toks := k }) :
    wpAny M₀ A (if b < e then (do let v ← reSlice text 0 b e; let r ← updateSeq D (fun xs => xs.push v); J r) else J ()) Q E s := by
  by_cases hlt : b < e
  · rw [if_pos hlt]
    show wpAny M₀ A (mkStr ⟨text.extract b e⟩ >>= fun v => _) Q E s
    refine wpAny_bind (wpAny_mkStr ?_ ?_)
    · refine wpAny_bind (push_wp (s := { s with toks := s.toks + 1 }) x hz fun h' x' hp' => ?_)
      exact h h' _ _ _ x' hp' (StrsAre.snoc hs _ _) (flatS_snoc _ _) (by simp)
    · rw [sizeLine_eq]
      show (text.extract b e).size ≤ _
      rw [Array.size_extract]; omega
  · rw [if_neg hlt]
    have : b = e := by omega
    subst this
    exact h s.heap s.toks vs xs x (fun _ _ hp => hp) hs (by rw [cut_nil, List.append_nil]) (Nat.le_succ _)
theorem loop_str {pa D : Addr} {x repl : PySem.Str} {tx tr : Tok} {h₀ : Heap} : ∀ (f q : Nat) (n : Int) (A : Around) (R : Result → Shared → Prop) (s : Shared) (vs : List Value) (xs : List PySem.Str),
    PatAt s.heap pa code2 0 → Pieces h₀ s.heap pa D vs → StrsAre vs xs → vs.length ≤ 2 * q → q ≤ x.cps.size → x.cps.size < f + q → x.cps.size ≤ 100000 →
    (flatS xs ++ restL x.cps (find2 x.cps) (len2 x.cps x.cps.size) repl.cps.toList x.cps.size f q).length ≤ 1000000 →
    (∀ h' tk k, (∀ b o, b ≠ D → h₀.get? b = some o → h'.get? b = some o) → R (.ok (.ret (.str ⟨(flatS xs ++ restL x.cps (find2 x.cps) (len2 x.cps x.cps.size) repl.cps.toList x.cps.size f q).toArray⟩ tk))) { s with heap := h', toks := k }) →
    codeAny (model prog w) A (.builtin "re.Pattern.sub.loop" (loopArgs pa (.str x tx) (.str repl tr) n q D)) R s := by
  intro f
  induction f with
  | zero => intro q n A R s vs xs _ _ _ _ hq hf; omega
  | succ f ih =>
    intro q n A R s vs xs hp hD hs hv hq hf hx hlen hR
    refine codeAny_builtin entry_sub_loop ?_
    rw [Around.under_plainId plain_sub_loop]
    show wpAny (model prog w) A.in1 (reWholeTarget (.ref pa) (.str x tx) >>= fun t => _) _ _ s
    refine wpAny_bind (wp_target_str hp ?_)
    show wpAny (model prog w) A.in1 (reLiteralCannotBeTurned (.str repl tr) >>= fun _ => _) _ _ s
    refine wpAny_bind (wpAny_of_eq (a := ()) rfl ?_)
    show wpAny (model prog w) A.in1 (reNextFound _ q false >>= fun r => _) _ _ s
    refine wpAny_bind (wp_next2 (n := x.cps.size - q) rfl rfl (by show q + (x.cps.size - q) = x.cps.size; omega) ?_)
    show match find2 x.cps (x.cps.size - q) q with | some r => _ | none => _
    cases hfind : find2 x.cps (x.cps.size - q) q with
    | none =>
      have e : restL x.cps (find2 x.cps) (len2 x.cps x.cps.size) repl.cps.toList x.cps.size (f + 1) q = cut x.cps q x.cps.size := by
        show (match find2 x.cps (x.cps.size - q) q with | none => _ | some r => _) = _
        rw [hfind]
      rw [e] at hlen hR
      refine optpush_str (b := q) (e := x.cps.size) hD hs (by omega) hx hq fun h' k vs' xs' hD' hp' hs' hf' hv' => ?_
      rw [← hf'] at hlen hR
      have e0 : (⟨x.cps.extract 0 0⟩ : PySem.Str) = ⟨#[]⟩ := by simp
      show wpAny (model prog w) A.in1 (mkStr ⟨x.cps.extract 0 0⟩ >>= fun joiner => _) _ _ _
      rw [e0]
      refine wpAny_bind (wpAny_mkStr ?_ (Nat.zero_le _))
      obtain ⟨m, hm⟩ := hD'.at_
      refine wpAny_bind (wpAny_seqItems hm rfl ?_)
      cases hs' with
      | nil =>
        refine wpAny_bind (wpAny_pure ?_)
        refine wpAny_pure ?_
        have := hR h' k (k + 1) hD'.keep
        simpa [flatS] using this
      | cons y t hr =>
        rename_i vs2 ys2
        have hz : ((y :: ys2).map PySem.Str.length).sum ≤ 16777216 := by
          rw [lens_flatS]
          exact Nat.le_trans hlen (by omega)
        refine wpAny_bind (join_list (items := _) ⟨_, hm, rfl, _, rfl⟩ (StrsAre.cons y t hr) (by show _ + _ * 0 ≤ _; omega) fun t' k' => ?_)
        refine wpAny_pure ?_
        rw [txt_join_empty]
        exact hR h' t' k' hD'.keep
    | some r =>
      obtain ⟨r1, r2, _⟩ := find2_spec _ _ _ hfind
      intro mm h1 h2
      have e : restL x.cps (find2 x.cps) (len2 x.cps x.cps.size) repl.cps.toList x.cps.size (f + 1) q = cut x.cps q r ++ repl.cps.toList ++ restL x.cps (find2 x.cps) (len2 x.cps x.cps.size) repl.cps.toList x.cps.size f (r + len2 x.cps x.cps.size r) := by
        show (match find2 x.cps (x.cps.size - q) q with | none => _ | some r => _) = _
        rw [hfind]
      rw [e] at hlen hR
      have hl2 : 1 ≤ len2 x.cps x.cps.size r ∧ r + len2 x.cps x.cps.size r ≤ x.cps.size := by
        unfold len2
        split <;> omega
      have h2' : mm.handed = r + len2 x.cps x.cps.size r := h2
      have hne : (mm.handed == mm.start) = false := by rw [h1, h2']; exact beq_eq_false_iff_ne.mpr (by omega)
      subst h1
      refine optpush_str (b := q) (e := mm.start) hD hs (by omega) hx r1 fun h' k vs' xs' hD' hp' hs' hf' hv' => ?_
      refine wpAny_bind (wpAny_pure ?_)
      show wpAny (model prog w) A.in1 (updateSeq D (fun xs => xs.push (.str repl tr)) >>= fun _ => _) _ _ _
      refine wpAny_bind (push_wp hD' (by omega) fun h'' hD'' hp'' => ?_)
      rw [hne, h2']
      refine wpAny_pure ⟨plainId_quiet plain_sub_loop _, ?_⟩
      refine ih (mm.start + len2 x.cps x.cps.size mm.start) (n + 1) A R _ _ _ (hp'' _ _ (hp' _ _ hp)) hD'' (StrsAre.snoc hs' repl tr) (by simp; omega) hl2.2 (by omega) hx ?_ ?_
      · rw [flatS_snoc, hf']; simpa [List.append_assoc] using hlen
      · intro h' tk k hk
        have := hR h' tk k hk
        rw [flatS_snoc, hf']
        simpa [List.append_assoc] using this
theorem find1_spec {text : Array Nat} {lim : Nat} : ∀ (n s q : Nat), find1 text lim n s = some q → s ≤ q ∧ q < s + n
  | 0, _, _, e => by cases e
  | n + 1, s, q, e => by
    unfold find1 at e
    by_cases h : hit1 text s = true
    · rw [if_pos h] at e; cases e; exact ⟨Nat.le_refl _, by omega⟩
    · rw [if_neg h] at e
      have := find1_spec n (s + 1) q e
      exact ⟨by omega, by omega⟩
def natsOf (b : Array UInt8) : List Nat := b.toList.map (·.toNat)
def flatB (xs : List (Array UInt8)) : List Nat := (xs.map natsOf).flatten
theorem flatB_snoc (xs : List (Array UInt8)) (y : Array UInt8) : flatB (xs ++ [y]) = flatB xs ++ natsOf y := by simp [flatB]
theorem lens_flatB (xs : List (Array UInt8)) : (xs.map (·.size)).sum = (flatB xs).length := by
  unfold flatB
  rw [List.length_flatten, List.map_map]
  congr 1
  apply List.map_congr_left
  intro b _
  simp [natsOf]
theorem natsOf_cut (x : Array UInt8) (b e : Nat) : natsOf (((x.map (·.toNat)).extract b e).map (·.toUInt8)) = cut (x.map (·.toNat)) b e := by
  unfold natsOf cut
  rw [Array.toList_map, List.map_map]
  have : ∀ l : List UInt8, List.map ((fun u : UInt8 => u.toNat) ∘ fun n : Nat => n.toUInt8) (l.map (·.toNat)) = l.map (·.toNat) := by
    intro l
    induction l with
    | nil => rfl
    | cons u r ih => simp
  rw [show ((x.map (·.toNat)).extract b e).toList = (x.extract b e).toList.map (·.toNat) by simp, this]
theorem flat_cat (xs : List (Array UInt8)) (c : Array UInt8) (h : c.toList = (xs.map (·.toList)).flatten) : natsOf c = flatB xs := by
  unfold natsOf flatB
  rw [h, List.map_flatten, List.map_map]
  rfl
theorem optpush_bytes {M₀ : Model} {A : Around} {E : Value → Shared → Prop} {s : Shared} {h₀ : Heap} {pa D : Addr} {vs : List Value} {xs : List (Array UInt8)} {bt : Array UInt8} {b e : Nat} {J : Unit → Sem PySem.Fin} {Q : PySem.Fin → Shared → Prop}
    (x : Pieces h₀ s.heap pa D vs) (hs : BytesAre vs xs) (hz : vs.length ≤ 1000000) (ht : bt.size ≤ 100000) (hbe : b ≤ e)
    (h : ∀ h' k vs' xs', Pieces h₀ h' pa D vs' → (∀ code kind, PatAt s.heap pa code kind → PatAt h' pa code kind) → BytesAre vs' xs' → flatB xs' = flatB xs ++ cut (bt.map (·.toNat)) b e → vs'.length ≤ vs.length + 1 → wpAny M₀ A (J ()) Q E { s with heap := h', toks := k }) :
    wpAny M₀ A (if b < e then (do let v ← reSlice (bt.map (·.toNat)) 1 b e; let r ← updateSeq D (fun xs => xs.push v); J r) else J ()) Q E s := by
  by_cases hlt : b < e
  · rw [if_pos hlt]
    show wpAny M₀ A (mkBytes (((bt.map (·.toNat)).extract b e).map (·.toUInt8)) >>= fun v => _) Q E s
    refine wpAny_bind (wpAny_mkBytes ?_ ?_)
    · refine wpAny_bind (push_wp (s := { s with toks := s.toks + 1 }) x hz fun h' x' hp' => ?_)
      exact h h' _ _ _ x' hp' (BytesAre.append hs (.cons _ _ .nil)) (by rw [flatB_snoc, natsOf_cut]) (by simp)
    · rw [sizeLine_eq, Array.size_map, Array.size_extract, Array.size_map]; omega
  · rw [if_neg hlt]
    have : b = e := by omega
    subst this
    exact h s.heap s.toks vs xs x (fun _ _ hp => hp) hs (by rw [cut_nil, List.append_nil]) (Nat.le_succ _)
theorem loop_bytes {pa D : Addr} {x repl : Array UInt8} {tx tr : Tok} {h₀ : Heap} : ∀ (f q : Nat) (n : Int) (A : Around) (R : Result → Shared → Prop) (s : Shared) (vs : List Value) (xs : List (Array UInt8)),
    PatAt s.heap pa code1 1 → Pieces h₀ s.heap pa D vs → BytesAre vs xs → vs.length ≤ 2 * q → q ≤ x.size → x.size < f + q → x.size ≤ 100000 →
    (flatB xs ++ restL (x.map (·.toNat)) (find1 (x.map (·.toNat)) x.size) (fun _ => 1) (natsOf repl) x.size f q).length ≤ 1000000 →
    (∀ h' c tk k, (∀ b o, b ≠ D → h₀.get? b = some o → h'.get? b = some o) → natsOf c = flatB xs ++ restL (x.map (·.toNat)) (find1 (x.map (·.toNat)) x.size) (fun _ => 1) (natsOf repl) x.size f q → R (.ok (.ret (.bytes c tk))) { s with heap := h', toks := k }) →
    codeAny (model prog w) A (.builtin "re.Pattern.sub.loop" (loopArgs pa (.bytes x tx) (.bytes repl tr) n q D)) R s := by
  intro f
  induction f with
  | zero => intro q n A R s vs xs _ _ _ _ hq hf; omega
  | succ f ih =>
    intro q n A R s vs xs hp hD hs hv hq hf hx hlen hR
    refine codeAny_builtin entry_sub_loop ?_
    rw [Around.under_plainId plain_sub_loop]
    show wpAny (model prog w) A.in1 (reWholeTarget (.ref pa) (.bytes x tx) >>= fun t => _) _ _ s
    refine wpAny_bind (wp_target_bytes hp ?_)
    show wpAny (model prog w) A.in1 (reLiteralCannotBeTurned (.bytes repl tr) >>= fun _ => _) _ _ s
    have e1 : reLiteralCannotBeTurned (.bytes repl tr) = pure () := by
      show (isInstance (.bytes repl tr) (.type "bytes") >>= fun r => _) = _
      rw [KBy.isInstance_eq]; rfl
    refine wpAny_bind (wpAny_of_eq e1 ?_)
    show wpAny (model prog w) A.in1 (reNextFound _ q false >>= fun r => _) _ _ s
    have hsz : (x.map (·.toNat)).size = x.size := by simp
    refine wpAny_bind (wp_next1 (n := x.size - q) rfl rfl (by show q + (x.size - q) = (x.map (·.toNat)).size; rw [hsz]; omega) (by omega) ?_)
    show match find1 (x.map (·.toNat)) (x.map (·.toNat)).size (x.size - q) q with | some r => _ | none => _
    rw [hsz]
    cases hfind : find1 (x.map (·.toNat)) x.size (x.size - q) q with
    | none =>
      have e : restL (x.map (·.toNat)) (find1 (x.map (·.toNat)) x.size) (fun _ => 1) (natsOf repl) x.size (f + 1) q = cut (x.map (·.toNat)) q x.size := by
        show (match find1 (x.map (·.toNat)) x.size (x.size - q) q with | none => _ | some r => _) = _
        rw [hfind]
      rw [e] at hlen hR
      refine optpush_bytes (b := q) (e := x.size) hD hs (by omega) hx hq fun h' k vs' xs' hD' hp' hs' hf' hv' => ?_
      rw [← hf'] at hlen hR
      have e0 : (((x.map (·.toNat)).extract 0 0).map (·.toUInt8) : Array UInt8) = #[] := by simp
      show wpAny (model prog w) A.in1 (mkBytes (((x.map (·.toNat)).extract 0 0).map (·.toUInt8)) >>= fun joiner => _) _ _ _
      rw [e0]
      refine wpAny_bind (wpAny_mkBytes ?_ (Nat.zero_le _))
      obtain ⟨m, hm⟩ := hD'.at_
      refine wpAny_bind (wpAny_seqItems hm rfl ?_)
      cases hs' with
      | nil =>
        refine wpAny_bind (wpAny_pure ?_)
        refine wpAny_pure ?_
        exact hR h' #[] k (k + 1) hD'.keep (by simp [flatB, natsOf])
      | cons y t hr =>
        rename_i vs2 ys2
        have hz : ((y :: ys2).map Array.size).sum ≤ 16777216 := by
          rw [lens_flatB]
          exact Nat.le_trans hlen (by omega)
        refine wpAny_bind (bytes_join ⟨_, hm, rfl, _, rfl⟩ (BytesAre.cons y t hr) hz fun c t' k' hc => ?_)
        refine wpAny_pure ?_
        exact hR h' c t' k' hD'.keep (flat_cat _ _ hc)
    | some r =>
      obtain ⟨r1, r2⟩ := find1_spec _ _ _ hfind
      intro mm h1 h2
      have e : restL (x.map (·.toNat)) (find1 (x.map (·.toNat)) x.size) (fun _ => 1) (natsOf repl) x.size (f + 1) q = cut (x.map (·.toNat)) q r ++ natsOf repl ++ restL (x.map (·.toNat)) (find1 (x.map (·.toNat)) x.size) (fun _ => 1) (natsOf repl) x.size f (r + 1) := by
        show (match find1 (x.map (·.toNat)) x.size (x.size - q) q with | none => _ | some r => _) = _
        rw [hfind]
      rw [e] at hlen hR
      have hne : (mm.handed == mm.start) = false := by rw [h1, h2]; exact beq_eq_false_iff_ne.mpr (by omega)
      subst h1
      refine optpush_bytes (b := q) (e := mm.start) hD hs (by omega) hx r1 fun h' k vs' xs' hD' hp' hs' hf' hv' => ?_
      refine wpAny_bind (wpAny_pure ?_)
      show wpAny (model prog w) A.in1 (updateSeq D (fun xs => xs.push (.bytes repl tr)) >>= fun _ => _) _ _ _
      refine wpAny_bind (push_wp hD' (by omega) fun h'' hD'' hp'' => ?_)
      rw [hne, h2]
      refine wpAny_pure ⟨plainId_quiet plain_sub_loop _, ?_⟩
      refine ih (mm.start + 1) (n + 1) A R _ _ _ (hp'' _ _ (hp' _ _ hp)) hD'' (BytesAre.append hs' (.cons repl tr .nil)) (by simp; omega) (by omega) (by omega) hx ?_ ?_
      · rw [flatB_snoc, hf']; simpa [List.append_assoc] using hlen
      · intro h' c tk k hk hc
        refine hR h' c tk k hk ?_
        rw [hc, flatB_snoc, hf']
        simp [List.append_assoc]
end
end Mine
end

section
open PySem PySem.W PyProof.Rows PySem.Calls
set_option linter.unusedVariables false
set_option maxRecDepth 100000
namespace Mine
open PySem.Builtin PySem.Builtin.Re
theorem slot_pat_sub : Slot "re.Pattern" "sub" "re.Pattern.sub" :=
  .of (owner := "re.Pattern") (n := "sub") (by rw [typeLookup_type, builtinLookup_eq_fast]; kernel_rfl) (by decide +kernel) (by decide +kernel) (by decide +kernel)
    (by first | exact .inl (by decide +kernel) | exact .inr (by decide +kernel)) (by rw [isSubtype_type]; kernel_rfl)
theorem type_pat_sub : typeOf (.builtin "re.Pattern.sub") = pure (.type "method_descriptor") := by show builtinType _ = _; rw [builtinType_eq_fast]; kernel_rfl
theorem entry_pat_sub : entryFor table "re.Pattern.sub" = some Builtin.«re.Pattern.sub» := entryFor_of_tree (by kernel_rfl)
theorem args_pat_sub (a b c : Value) : argsOk "re.Pattern.sub" ⟨[a, b, c], []⟩ := by unfold argsOk; kernel_rfl
theorem named_sub (a b : Value) : reNamed "re.Pattern.sub" "sub" ["repl", "string", "count"] 2 [a, b] [] = pure [some a, some b, none] := by rfl
theorem nocall_str : typeLookup (.type "str") "__call__" = pure none := by rw [typeLookup_type, builtinLookup_eq_fast]; kernel_rfl
theorem nocall_bytes : typeLookup (.type "bytes") "__call__" = pure none := by rw [typeLookup_type, builtinLookup_eq_fast]; kernel_rfl
theorem plainAttrs_pat : PlainAttrs "re.Pattern" :=
  ⟨⟨"object.__getattribute__", by rw [typeLookup_type, builtinLookup_eq_fast]; kernel_rfl, by decide +kernel⟩, by rw [typeLookup_type, builtinLookup_eq_fast]; kernel_rfl⟩
theorem no92s : (#[13, 10] : Array Nat).contains 92 = false := by decide +kernel
theorem no92b : (#[46, 46] : Array UInt8).contains 92 = false := by decide +kernel
theorem meets_sub_str {pa : Addr} {x : PySem.Str} {tx tr : Tok} (hx : x.cps.size ≤ 100000)
    (hlen : (restL x.cps (find2 x.cps) (len2 x.cps x.cps.size) [13, 10] x.cps.size (x.cps.size + 1) 0).length ≤ 1000000) :
    Meets (Builtin.«re.Pattern.sub» ⟨[.ref pa, .str ⟨#[13, 10]⟩ tr, .str x tx], []⟩) (fun _ R s => PatAt s.heap pa code2 0 ∧
      ∀ h' tk k, (∀ b o, s.heap.get? b = some o → h'.get? b = some o) → R (.ok (.ret (.str ⟨(restL x.cps (find2 x.cps) (len2 x.cps x.cps.size) [13, 10] x.cps.size (x.cps.size + 1) 0).toArray⟩ tk))) { s with heap := h', toks := k }) := by
  intro prog w A R s ⟨hp, hR⟩
  show wpAny _ _ (reNamed "re.Pattern.sub" "sub" ["repl", "string", "count"] 2 [.str ⟨#[13, 10]⟩ tr, .str x tx] [] >>= fun r => _) _ _ s
  refine wpAny_bind (wpAny_of_eq (named_sub _ _) ?_)
  refine wpAny_bind (wpAny_pure ?_)
  refine wpAny_bind (wpAny_of_eq (a := none) (show specialOf (.str ⟨#[13, 10]⟩ tr) "__call__" = pure none from nocall_str) ?_)
  refine wpAny_bind (wpAny_pure ?_)
  refine wpAny_bind (wpAny_of_eq (a := true) (congrArg (fun b => (pure (!b) : Sem Bool)) no92s) ?_)
  refine wpAny_bind (wpAny_pure ?_)
  refine wpAny_bind (wpAny_holding (wp_target_str hp ?_))
  refine wpAny_bind (wpAny_newObj_type ?_ (Nat.zero_le _))
  refine wpAny_pure ⟨plainId_quiet plain_sub_loop _, ?_⟩
  refine loop_str (h₀ := s.heap) (xs := []) (x.cps.size + 1) 0 0 A R _ [] ?_ ⟨⟨0, Heap.get?_push_size _ rfl⟩, fun b o hb e => Heap.get?_push_of_some _ e⟩ .nil (Nat.zero_le _) (Nat.zero_le _) (by omega) hx (by simpa [flatS] using hlen) ?_
  · exact hp.keeps fun b o e => Heap.get?_push_of_some _ e
  · intro h' tk k hk
    have := hR h' tk k fun b o e => hk b o (Nat.ne_of_lt (Heap.lt_size e)) e
    simpa [flatS] using this
theorem meets_sub_bytes {pa : Addr} {x : Array UInt8} {tx tr : Tok} (hx : x.size ≤ 100000)
    (hlen : (restL (x.map (·.toNat)) (find1 (x.map (·.toNat)) x.size) (fun _ => 1) [46, 46] x.size (x.size + 1) 0).length ≤ 1000000) :
    Meets (Builtin.«re.Pattern.sub» ⟨[.ref pa, .bytes #[46, 46] tr, .bytes x tx], []⟩) (fun _ R s => PatAt s.heap pa code1 1 ∧
      ∀ h' c tk k, (∀ b o, s.heap.get? b = some o → h'.get? b = some o) → natsOf c = restL (x.map (·.toNat)) (find1 (x.map (·.toNat)) x.size) (fun _ => 1) [46, 46] x.size (x.size + 1) 0 → R (.ok (.ret (.bytes c tk))) { s with heap := h', toks := k }) := by
  intro prog w A R s ⟨hp, hR⟩
  show wpAny _ _ (reNamed "re.Pattern.sub" "sub" ["repl", "string", "count"] 2 [.bytes #[46, 46] tr, .bytes x tx] [] >>= fun r => _) _ _ s
  refine wpAny_bind (wpAny_of_eq (named_sub _ _) ?_)
  refine wpAny_bind (wpAny_pure ?_)
  refine wpAny_bind (wpAny_of_eq (a := none) (show specialOf (.bytes #[46, 46] tr) "__call__" = pure none from nocall_bytes) ?_)
  refine wpAny_bind (wpAny_of_eq (a := none) rfl ?_)
  refine wpAny_bind (wpAny_of_eq KBy.quiet_eq ?_)
  refine wpAny_bind (wpAny_of_eq (a := true) (congrArg (fun b => (pure (!b) : Sem Bool)) no92b) ?_)
  refine wpAny_bind (wpAny_pure ?_)
  refine wpAny_bind (wpAny_holding (wp_target_bytes hp ?_))
  refine wpAny_bind (wpAny_newObj_type ?_ (Nat.zero_le _))
  refine wpAny_pure ⟨plainId_quiet plain_sub_loop _, ?_⟩
  refine loop_bytes (h₀ := s.heap) (xs := []) (x.size + 1) 0 0 A R _ [] ?_ ⟨⟨0, Heap.get?_push_size _ rfl⟩, fun b o hb e => Heap.get?_push_of_some _ e⟩ .nil (Nat.zero_le _) (Nat.zero_le _) (by omega) hx (by simpa [flatB, natsOf] using hlen) ?_
  · exact hp.keeps fun b o e => Heap.get?_push_of_some _ e
  · intro h' c tk k hk hc
    refine hR h' c tk k (fun b o e => hk b o (Nat.ne_of_lt (Heap.lt_size e)) e) ?_
    simpa [flatB, natsOf] using hc
end Mine
end

section
open PySem PySem.W PyProof.Rows PySem.Calls PySem.Spec
set_option linter.unusedVariables false
namespace Mine
theorem ints_of_get : ∀ (vs : List Value) (ns : List Int), vs.length = ns.length → (∀ (j : Nat) v, vs[j]? = some v → ∃ t, v = Value.int (ns.getD j 0) t) → IntsAre vs ns
  | [], [], _, _ => .nil
  | v :: vs, n :: ns, hl, h => by
    obtain ⟨t, rfl⟩ := h 0 v rfl
    exact .cons _ _ (ints_of_get vs ns (by simpa using hl) fun j u e => by simpa using h (j + 1) u (by simpa using e))
theorem ints_range {vs : List Value} {n : Nat} (hl : vs.length = n) (h : ∀ (j : Nat) v, vs[j]? = some v → ∃ t, v = Value.int (0 + (j : Int) * 1) t) : IntsAre vs ((List.range n).map Int.ofNat) := by
  refine ints_of_get _ _ (by simp [hl]) fun j v e => ?_
  obtain ⟨t, rfl⟩ := h j v e
  have hj : j < n := hl ▸ (List.getElem?_eq_some_iff.mp e).1
  refine ⟨t, ?_⟩
  rw [List.getD_eq_getElem?_getD, List.getElem?_map, List.getElem?_range hj]
  simp
theorem ints_filter {p : Value → Bool} {pz : Int → Bool} (hp : ∀ x t, p (.int x t) = pz x) {vs : List Value} {ns : List Int} (x : IntsAre vs ns) : IntsAre (vs.filter p) (ns.filter pz) := by
  induction x with
  | nil => exact .nil
  | cons n t h ih =>
    simp only [List.filter_cons, hp]
    split
    · exact .cons _ _ ih
    · exact ih
theorem paired_eq {α : Type} {a b : List α} (x : Paired (fun v y => v = y) a b) : a = b := by
  induction x with
  | nil => rfl
  | cons h _ ih => rw [h, ih]
theorem ints_one {vs : List Value} {a : Int} (h : IntsAre vs [a]) : ∃ t, vs = [Value.int a t] := by
  cases h with | cons _ t r => cases r; exact ⟨t, rfl⟩
theorem ints_two {vs : List Value} {a b : Int} (h : IntsAre vs [a, b]) : ∃ t u, vs = [Value.int a t, Value.int b u] := by
  cases h with | cons _ t r => obtain ⟨u, rfl⟩ := ints_one r; exact ⟨t, u, rfl⟩
theorem range_walk {prog : Program} {w : World} {A : Around} (hh : A.handled = none) (I : Addr) (n : Nat) :
    Walks prog w A I [I] [I] n (fun i v => i < n ∧ ∃ t, v = Value.int (0 + (i : Int) * 1) t) (fun i h => IsRangeIter h I (0 + (i : Nat) * 1) ((n : Int) - (i : Nat)) 1) :=
  let W := Walks.range (prog := prog) (w := w) (A := A) hh I 0 1 n
  { sub := W.sub, frame := W.frame, done := W.done, self := W.self, item := fun i s Q E hi st hQ => W.item i s Q E hi st fun v h' tk hP => hQ v h' tk ⟨hi, hP⟩ }
end Mine
end

section
open PySem
set_option linter.unusedVariables false
namespace Mine
/-- the text from a place on -/
theorem drop_cons {x : Array Nat} {q : Nat} (h : q < x.size) : x.toList.drop q = x.getD q 0 :: x.toList.drop (q + 1) := by
  rw [List.drop_eq_getElem_cons (by simpa using h)]
  simp [Array.getD, h]
theorem drop_end {x : Array Nat} : x.toList.drop x.size = [] := by simp
theorem cut_eq (x : Array Nat) (b e : Nat) : cut x b e = (x.toList.drop b).take (e - b) := by
  unfold cut
  rw [Array.toList_extract, List.extract_eq_take_drop]
theorem cut_cons {x : Array Nat} {q r : Nat} (h : q < x.size) (hr : q + 1 ≤ r) : cut x q r = x.getD q 0 :: cut x (q + 1) r := by
  rw [cut_eq, cut_eq, drop_cons h, show r - q = (r - (q + 1)) + 1 by omega, List.take_succ_cons]
section
variable {x : Array Nat} {len : Nat → Nat} {repl : List Nat}
theorem find1_ge : ∀ (n q r : Nat), find1 x x.size n q = some r → q ≤ r
  | 0, q, r, h => by cases h
  | n + 1, q, r, h => by
    unfold find1 at h
    split at h
    · cases h; exact Nat.le_refl _
    · have := find1_ge n (q + 1) r h; omega
theorem find2_ge : ∀ (n q r : Nat), find2 x n q = some r → q ≤ r
  | 0, q, r, h => by cases h
  | n + 1, q, r, h => by
    unfold find2 at h
    split at h
    · cases h; exact Nat.le_refl _
    · have := find2_ge n (q + 1) r h; omega
theorem rest1_no {f q : Nat} (h : q < x.size) (hn : hit1 x q = false) : restL x (find1 x x.size) len repl x.size (f + 1) q = x.getD q 0 :: restL x (find1 x x.size) len repl x.size (f + 1) (q + 1) := by
  have e : find1 x x.size (x.size - q) q = find1 x x.size (x.size - (q + 1)) (q + 1) := by
    rw [show x.size - q = (x.size - (q + 1)) + 1 by omega]
    show (if hit1 x q = true then _ else _) = _
    rw [if_neg (by simp [hn])]
  rw [restL, restL, e]
  cases hc : find1 x x.size (x.size - (q + 1)) (q + 1) with
  | none => exact cut_cons h (by omega)
  | some r =>
    have := find1_ge _ _ _ hc
    show cut x q r ++ _ ++ _ = _
    rw [cut_cons h this]; rfl
theorem rest1_yes {f q : Nat} (h : q < x.size) (hn : hit1 x q = true) : restL x (find1 x x.size) len repl x.size (f + 1) q = repl ++ restL x (find1 x x.size) len repl x.size f (q + len q) := by
  have e : find1 x x.size (x.size - q) q = some q := by
    rw [show x.size - q = (x.size - (q + 1)) + 1 by omega]
    show (if hit1 x q = true then _ else _) = _
    rw [if_pos hn]
  rw [restL, e]
  show cut x q q ++ _ ++ _ = _
  rw [cut_nil]; rfl
theorem rest2_no {f q : Nat} (h : q < x.size) (hn : hit2 x q = false) : restL x (find2 x) len repl x.size (f + 1) q = x.getD q 0 :: restL x (find2 x) len repl x.size (f + 1) (q + 1) := by
  have e : find2 x (x.size - q) q = find2 x (x.size - (q + 1)) (q + 1) := by
    rw [show x.size - q = (x.size - (q + 1)) + 1 by omega]
    show (if hit2 x q = true then _ else _) = _
    rw [if_neg (by simp [hn])]
  rw [restL, restL, e]
  cases hc : find2 x (x.size - (q + 1)) (q + 1) with
  | none => exact cut_cons h (by omega)
  | some r =>
    have := find2_ge _ _ _ hc
    show cut x q r ++ _ ++ _ = _
    rw [cut_cons h this]; rfl
theorem rest2_yes {f q : Nat} (h : q < x.size) (hn : hit2 x q = true) : restL x (find2 x) len repl x.size (f + 1) q = repl ++ restL x (find2 x) len repl x.size f (q + len q) := by
  have e : find2 x (x.size - q) q = some q := by
    rw [show x.size - q = (x.size - (q + 1)) + 1 by omega]
    show (if hit2 x q = true then _ else _) = _
    rw [if_pos hn]
  rw [restL, e]
  show cut x q q ++ _ ++ _ = _
  rw [cut_nil]; rfl
theorem rest_end {find : Nat → Nat → Option Nat} {f : Nat} (hf : ∀ q, find 0 q = none) : restL x find len repl x.size (f + 1) x.size = [] := by
  rw [restL, Nat.sub_self, hf]; exact cut_nil _ _
/-- a dot at the start of a line is doubled -/
def qd (b : Bool) : List Nat → List Nat
  | [] => []
  | c :: t => (if b && c == 46 then [46, 46] else [c]) ++ qd (c == 10) t
theorem quo_eq : ∀ (n q f : Nat), x.size - q = n → q ≤ x.size → n < f → restL x (find1 x x.size) (fun _ => 1) [46, 46] x.size f q = qd (q == 0 || x.getD (q - 1) 0 == 10) (x.toList.drop q)
  | 0, q, f + 1, hn, hq, hf => by
    have : q = x.size := by omega
    subst this
    rw [rest_end (fun _ => rfl), drop_end]; rfl
  | n + 1, q, f + 1, hn, hq, hf => by
    have h : q < x.size := by omega
    rw [drop_cons h, qd]
    cases hh : hit1 x q with
    | true =>
      have hh' : ((q == 0 || x.getD (q - 1) 0 == 10) && x.getD q 0 == 46) = true := hh
      rw [rest1_yes h hh, quo_eq n (q + 1) f (by omega) (by omega) (by omega), if_pos hh']
      congr 2
    | false =>
      have hh' : ((q == 0 || x.getD (q - 1) 0 == 10) && x.getD q 0 == 46) = false := hh
      rw [rest1_no h hh, quo_eq n (q + 1) (f + 1) (by omega) (by omega) (by omega), if_neg (by rw [hh']; exact Bool.false_ne_true)]
      simp
/-- each line end becomes CR LF; b: a CR stands just ahead -/
def fx (b : Bool) : List Nat → List Nat
  | [] => []
  | c :: t => if c = 13 then 13 :: 10 :: fx true t else if c = 10 then (if b then fx false t else 13 :: 10 :: fx false t) else c :: fx false t
theorem fx_any (b : Bool) {c : Nat} (h : c ≠ 10) (t : List Nat) : fx b (c :: t) = fx false (c :: t) := by
  rw [fx, fx, if_neg h, if_neg h]
theorem st0 {n f : Nat} (h : n < f) : ∃ f', f = f' + 1 := ⟨f - 1, by omega⟩
theorem st1 {s q n : Nat} (a : s - q = n) (h : q < s) : n - 1 < n ∧ s - (q + 1) = n - 1 ∧ q + 1 ≤ s := by omega
theorem st2 {s q n : Nat} (a : s - q = n) (h : q + 1 < s) : n - 2 < n ∧ s - (q + 2) = n - 2 ∧ q + 2 ≤ s := by omega
theorem st3 {s q n f : Nat} (a : s - q = n) (h : q < s) (hf : n < f + 1) : n - 1 < f ∧ n - 2 < f ∧ n - 1 < f + 1 := by omega
theorem st4 {s q : Nat} (h : q < s) (h3 : ¬ q + 1 < s) : q + 1 = s := by omega
theorem st5 {s q n : Nat} (a : s - q = n) (h : q ≤ s) (hz : n = 0) : q = s := by omega
theorem st6 {s q n : Nat} (a : s - q = n) (hz : ¬ n = 0) : q < s := by omega
theorem fix_eq : ∀ (n q f : Nat), x.size - q = n → q ≤ x.size → n < f → restL x (find2 x) (len2 x x.size) [13, 10] x.size f q = fx false (x.toList.drop q) := by
  intro n
  induction n using Nat.strongRecOn with
  | ind n ih =>
    intro q f hn hq hf
    obtain ⟨f, rfl⟩ := st0 hf
    by_cases hz : n = 0
    · have : q = x.size := st5 hn hq hz
      subst this
      rw [rest_end (fun _ => rfl), drop_end]; rfl
    have h : q < x.size := st6 hn hz
    have s1 := st1 hn h
    have s3 := st3 hn h hf
    rw [drop_cons h, fx]
    cases hh : hit2 x q with
    | false =>
      have hh' : (x.getD q 0 == 10 || x.getD q 0 == 13) = false := hh
      simp only [Bool.or_eq_false_iff, beq_eq_false_iff_ne] at hh'
      rw [rest2_no h hh, if_neg hh'.2, if_neg hh'.1, ih (n - 1) s1.1 (q + 1) (f + 1) s1.2.1 s1.2.2 s3.2.2]
    | true =>
      have hh' : (x.getD q 0 == 10 || x.getD q 0 == 13) = true := hh
      simp only [Bool.or_eq_true, beq_iff_eq] at hh'
      rw [rest2_yes h hh]
      by_cases h13 : x.getD q 0 = 13
      · rw [if_pos h13]
        by_cases h2 : q + 1 < x.size ∧ x.getD (q + 1) 0 = 10
        · have e : len2 x x.size q = 2 := if_pos ⟨h13, h2⟩
          rw [e, ih (n - 2) (st2 hn h2.1).1 (q + 2) f (st2 hn h2.1).2.1 (st2 hn h2.1).2.2 s3.2.1, drop_cons h2.1, h2.2]
          rfl
        · have e : len2 x x.size q = 1 := if_neg fun z => h2 z.2
          rw [e, ih (n - 1) s1.1 (q + 1) f s1.2.1 s1.2.2 s3.1]
          by_cases h3 : q + 1 < x.size
          · rw [drop_cons h3, fx_any true fun z => h2 ⟨h3, z⟩]; rfl
          · rw [st4 h h3, drop_end]; rfl
      · have h10 : x.getD q 0 = 10 := hh'.resolve_right h13
        have e : len2 x x.size q = 1 := if_neg fun z => h13 z.1
        rw [if_neg h13, if_pos h10, e, ih (n - 1) s1.1 (q + 1) f s1.2.1 s1.2.2 s3.1]
        rfl
/-- rows with something between them -/
def joinA (sep : List Nat) : List (List Nat) → List Nat
  | [] => []
  | [r] => r
  | r :: rs => r ++ sep ++ joinA sep rs
theorem fx_row : ∀ (r t : List Nat), (∀ c ∈ r, c ≠ 10 ∧ c ≠ 13) → fx false (r ++ t) = r ++ fx false t
  | [], t, _ => rfl
  | c :: r, t, h => by
    have hc := h c (.head _)
    rw [List.cons_append, fx, if_neg hc.2, if_neg hc.1, fx_row r t fun d hd => h d (.tail _ hd)]; rfl
theorem fx_joinA {e : List Nat} (he : e = [10] ∨ e = [13] ∨ e = [13, 10]) : ∀ rows : List (List Nat), (∀ r ∈ rows, r ≠ [] ∧ ∀ c ∈ r, c ≠ 10 ∧ c ≠ 13) → fx false (joinA e rows) = joinA [13, 10] rows
  | [], _ => rfl
  | [r], h => by
    have := fx_row r [] (h r (.head _)).2
    simpa [joinA, fx] using this
  | r :: r' :: rs, h => by
    have ih := fx_joinA he (r' :: rs) fun q hq => h q (.tail _ hq)
    show fx false (r ++ e ++ joinA e (r' :: rs)) = r ++ [13, 10] ++ joinA [13, 10] (r' :: rs)
    rw [List.append_assoc, fx_row r _ (h r (.head _)).2, List.append_assoc, ← ih]
    congr 1
    rcases he with rfl | rfl | rfl
    · rw [List.singleton_append, fx, if_neg (by decide), if_pos rfl]; rfl
    · obtain ⟨c, t, hct, hc⟩ : ∃ c t, joinA [13] (r' :: rs) = c :: t ∧ c ≠ 10 := by
        have hr' := h r' (.tail _ (.head _))
        cases r' with
        | nil => exact absurd rfl hr'.1
        | cons c r'' =>
          cases rs with
          | nil => exact ⟨c, r'', rfl, (hr'.2 c (.head _)).1⟩
          | cons q qs => exact ⟨c, r'' ++ [13] ++ joinA [13] (q :: qs), rfl, (hr'.2 c (.head _)).1⟩
      rw [List.singleton_append, fx, if_pos rfl, hct, fx_any true hc]; rfl
    · rfl
/-- a row with its first dot doubled -/
def dotted : List Nat → List Nat
  | 46 :: t => 46 :: 46 :: t
  | t => t
theorem qd_row : ∀ (r t : List Nat), (∀ c ∈ r, c ≠ 10) → r ≠ [] → qd false (r ++ t) = r ++ qd false t
  | [c], t, h, _ => by
    have : (c == 10) = false := by simpa using h c (.head _)
    rw [List.singleton_append, qd, this]; rfl
  | c :: d :: r, t, h, _ => by
    have : (c == 10) = false := by simpa using h c (.head _)
    rw [List.cons_append, qd, this, qd_row (d :: r) t (fun e he => h e (.tail _ he)) (by simp)]; rfl
theorem qd_row1 (r t : List Nat) (h : ∀ c ∈ r, c ≠ 10) (hr : r ≠ []) : qd true (r ++ t) = dotted r ++ qd false t := by
  cases r with
  | nil => exact absurd rfl hr
  | cons c r =>
    have hc : (c == 10) = false := by simpa using h c (.head _)
    rw [List.cons_append, qd, hc]
    have e : qd false (r ++ t) = r ++ qd false t := by
      cases r with
      | nil => rfl
      | cons d r => exact qd_row (d :: r) t (fun e he => h e (.tail _ he)) (by simp)
    rw [e]
    by_cases h46 : c = 46
    · subst h46; rfl
    · have h46' : (c == 46) = false := by simpa using h46
      simp only [h46', Bool.and_false, Bool.false_eq_true, if_false]
      have : dotted (c :: r) = c :: r := by
        unfold dotted; split
        · rename_i heq; cases heq; exact absurd rfl h46
        · rfl
      rw [this]; rfl
theorem qd_joinA : ∀ rows : List (List Nat), (∀ r ∈ rows, r ≠ [] ∧ ∀ c ∈ r, c ≠ 10) → qd true (joinA [13, 10] rows) = joinA [13, 10] (rows.map dotted)
  | [], _ => rfl
  | [r], h => by
    have := qd_row1 r [] (h r (.head _)).2 (h r (.head _)).1
    simpa [joinA, qd] using this
  | r :: r' :: rs, h => by
    have ih := qd_joinA (r' :: rs) fun q hq => h q (.tail _ hq)
    show qd true (r ++ [13, 10] ++ joinA [13, 10] (r' :: rs)) = dotted r ++ [13, 10] ++ joinA [13, 10] ((r' :: rs).map dotted)
    rw [List.append_assoc, qd_row1 r _ (h r (.head _)).2 (h r (.head _)).1, ← ih, List.append_assoc]
    rfl
end
end Mine
end

section
open PySem PySem.W PyProof.Rows PySem.Calls PySem.Spec
set_option linter.unusedVariables false
set_option maxRecDepth 100000
namespace Mine
open PySem.Builtin PySem.Builtin._codecs
section
variable {M₀ : Model} {A : Around} {E : Value → Shared → Prop} {s : Shared}
theorem fold_ascii : ∀ (l : List Nat) (acc : Array UInt8), l.foldl (fun acc y => acc ++ (asciiCodec.bytesOf y).toArray) acc = acc ++ (l.map (·.toUInt8)).toArray
  | [], acc => by simp
  | a :: l, acc => by
    rw [List.foldl_cons, fold_ascii l]
    apply Array.toList_inj.mp
    simp [asciiCodec]
theorem wp_encode (x : PySem.Str) (self : Value) {Q : Array UInt8 → Shared → Prop} (hx : ∀ c ∈ x.cps, c < 128) (hsz : x.cps.size ≤ 100000) (h : Q (x.cps.map (·.toUInt8)) s) : wpAny M₀ A (encodeNarrow "str.encode" asciiCodec none self x) Q E s := by
  unfold encodeNarrow
  simp only [Std.Legacy.Range.forIn_eq_forIn_range']
  refine wpAny_bind ?_
  have hlen : (List.range' 0 [:x.length].size).length = x.cps.size := by simp [Std.Legacy.Range.size, PySem.Str.length]
  have hbad : ∀ y ∈ x.cps, asciiCodec.bad y = false := fun y hy => by simpa [asciiCodec] using hx y hy
  have hfind : ∀ (i : Nat), Array.findIdx? asciiCodec.bad (x.cps.extract i) = none := fun i => by
    rw [Array.findIdx?_eq_none_iff]
    intro y hy
    have hy' := Array.mem_toList_iff.mpr hy
    rw [Array.toList_extract] at hy'
    simp only [List.extract_eq_take_drop] at hy'
    exact hbad y (Array.mem_toList_iff.mp (List.mem_of_mem_drop (List.mem_of_mem_take hy')))
  have hall : (Array.foldl (fun acc y => acc ++ (asciiCodec.bytesOf y).toArray) #[] ((x.cps.extract 0).extract 0 (x.cps.extract 0).size)) = x.cps.map (·.toUInt8) := by
    rw [← Array.foldl_toList, fold_ascii]
    apply Array.toList_inj.mp
    simp
  rcases hl : List.range' 0 [:x.length].size with _ | ⟨a, l⟩
  · rw [hl] at hlen
    have h0 : x.cps.size = 0 := by simpa using hlen.symm
    rw [List.forIn_nil]
    refine wpAny_pure (wpAny_pure ?_)
    have : x.cps.map (·.toUInt8) = #[] := by
      have : x.cps = #[] := Array.size_eq_zero_iff.mp h0
      rw [this]; simp
    rw [this] at h; exact h
  · rw [hl] at hlen
    have h0 : 0 < x.cps.size := by rw [← hlen]; exact Nat.succ_pos _
    rw [List.forIn_cons]
    refine wpAny_bind ?_
    dsimp only
    rw [if_neg (by simp [sizeLine_eq])]
    have e0 : x.cps[0]? = some x.cps[0] := Array.getElem?_eq_getElem h0
    rw [e0]
    dsimp only
    rw [if_pos (by rw [hbad _ (Array.getElem_mem h0)]; rfl), hfind 0]
    refine wpAny_pure ?_
    dsimp only [Option.getD_none]
    rw [hall]
    cases l with
    | nil =>
      rw [List.forIn_nil]
      exact wpAny_pure (wpAny_pure h)
    | cons b l =>
      rw [List.forIn_cons]
      refine wpAny_bind ?_
      dsimp only
      rw [if_neg (by simp [sizeLine_eq]; omega)]
      have e1 : x.cps[0 + (x.cps.extract 0).size]? = none := by simp
      rw [e1]
      dsimp only
      exact wpAny_pure (wpAny_pure (wpAny_pure h))
theorem encode_ascii_tree (x : PySem.Str) (t u : Tok) : «str.encode» ⟨[.str x t, .str (Str.ofString "ascii") u], []⟩ = (do ret (← encodeRoad "str.encode" (.str x t) x (Str.ofString "ascii") none)) := by first | kernel_rfl | (with_unfolding_all rfl)
theorem road_ascii (self : Value) (x : PySem.Str) : encodeRoad "str.encode" self x (Str.ofString "ascii") none = (do mkBytes (← encodeNarrow "str.encode" asciiCodec none self x)) := by
  first | rfl | (unfold encodeRoad; rfl)
theorem meets_encode {x : PySem.Str} {t u : Tok} (hx : ∀ c ∈ x.cps, c < 128) (hsz : x.cps.size ≤ 100000) :
    Meets («str.encode» ⟨[.str x t, .str (Str.ofString "ascii") u], []⟩) (fun _ R s => R (.ok (.ret (.bytes (x.cps.map (·.toUInt8)) s.toks))) { s with toks := s.toks + 1 }) := by
  intro prog w A R s hR
  rw [encode_ascii_tree, road_ascii]
  refine wpAny_bind (wpAny_bind (wp_encode x _ hx hsz ?_))
  unfold mkBytes
  rw [if_neg (by simp [sizeLine_eq]; omega)]
  refine wpAny_bind (wpAny_fresh ?_)
  exact wpAny_pure (wpAny_pure hR)
end
end Mine
end

section
open PySem PySem.W PyProof.Rows PySem.Calls PySem.Spec
set_option linter.unusedVariables false
set_option maxRecDepth 100000
namespace Mine
theorem entry_is : entryFor table "proto.is" = some Builtin.«proto.is» := entryFor_of_fast (by kernel_rfl)
section
variable {prog : Program} {w : World} {A : Around} {E : Value → Shared → Prop} {s : Shared}
theorem isSame_ints {a b : Int} {t u : Nat} {R : Bool → Shared → Prop} (ha : -5 ≤ a ∧ a ≤ 256) (ht : t ≠ 0) (hu : u ≠ 0) (hd : a ≠ b → t ≠ u) (h : R (a == b) s) : wpAny (model prog w) A (isSame (.int a t) (.int b u)) R E s := by
  show wpAny _ A (if (a == b && smallInt a) = true then _ else _) R E s
  by_cases hab : a = b
  · subst hab
    have e : (a == a && smallInt a) = true := by simp [smallInt, ha.1, ha.2]
    rw [if_pos e]
    unfold isSame.cachedInt
    rw [if_neg (by simp [ht, hu])]
    exact wpAny_bind (wpAny_rule (wpAny_pure (by simpa using h)))
  · have e : (a == b && smallInt a) = false := by simp [hab]
    rw [e]
    have e1 : (a == b) = false := by simp [hab]
    have e2 : (t == u) = false := by simp [hd hab]
    show wpAny _ A (isSame.created (a == b) t u) _ _ _
    rw [e1] at h ⊢
    unfold isSame.created
    have e0 : (t == 0 || u == 0) = false := by simp [ht, hu]
    rw [e0, e2]
    exact wpAny_pure h
theorem is_ints {a b : Int} {t u : Nat} {Q : Value → Shared → Prop} (ha : -5 ≤ a ∧ a ≤ 256) (ht : t ≠ 0) (hu : u ≠ 0) (hd : a ≠ b → t ≠ u) (h : Q (.bool (a == b)) s) : wpAny (model prog w) A (runValue (.builtin "proto.is" ⟨[.int a t, .int b u], []⟩)) Q E s := by
  refine wpAny_runValue (codeAny_builtin entry_is ?_)
  show wpAny _ _ (do ret (.bool (← isSame (.int a t) (.int b u)))) _ _ s
  exact wpAny_bind (isSame_ints ha ht hu hd (wpAny_pure h))
theorem sameItems_two {a b c d : Int} {t u v z : Nat} {R : Bool → Shared → Prop} (ha : -5 ≤ a ∧ a ≤ 256) (hc : -5 ≤ c ∧ c ≤ 256) (ht : t ≠ 0) (hu : u ≠ 0) (hv : v ≠ 0) (hz : z ≠ 0) (hd1 : a ≠ b → t ≠ u) (hd2 : c ≠ d → v ≠ z)
    (h : ∀ r : Bool, (r = true → a = b ∧ c = d) → R r s) : wpAny (model prog w) A (sameItems #[.int a t, .int c v] #[.int b u, .int d z]) R E s := by
  unfold sameItems
  show wpAny _ A (if (2 != 2) = true then _ else _) R E s
  rw [if_neg (by decide)]
  show wpAny _ A (forIn [((.int a t : Value), (.int b u : Value)), (.int c v, .int d z)] _ _ >>= _) R E s
  refine wpAny_bind ?_
  rw [List.forIn_cons]
  refine wpAny_bind (wpAny_bind (is_ints ha ht hu hd1 ?_))
  have hno : ∀ {R' : Bool → Shared → Prop}, R' false s → R' false s := fun h => h
  by_cases hab : a = b
  · have e1 : (a == b) = true := by simp [hab]
    rw [e1]
    refine wpAny_bind (wpAny_askSetting ?_)
    dsimp only
    refine wpAny_ite_split (fun _ => wpAny_pure (wpAny_pure (wpAny_pure (h _ (by simp))))) (fun _ => ?_)
    refine wpAny_bind ?_
    show wpAny _ A (pure true) _ _ s
    refine wpAny_pure ?_
    show wpAny _ A (pure (ForInStep.yield (none, ()))) _ _ s
    refine wpAny_pure ?_
    dsimp only
    rw [List.forIn_cons]
    refine wpAny_bind (wpAny_bind (is_ints hc hv hz hd2 ?_))
    by_cases hcd : c = d
    · have e2 : (c == d) = true := by simp [hcd]
      rw [e2]
      refine wpAny_bind (wpAny_askSetting ?_)
      dsimp only
      refine wpAny_ite_split (fun _ => wpAny_pure (wpAny_pure (wpAny_pure (h _ (by simp))))) (fun _ => ?_)
      refine wpAny_bind ?_
      show wpAny _ A (pure true) _ _ s
      refine wpAny_pure ?_
      show wpAny _ A (pure (ForInStep.yield (none, ()))) _ _ s
      refine wpAny_pure ?_
      dsimp only
      rw [List.forIn_nil]
      exact wpAny_pure (wpAny_pure (h _ fun _ => ⟨hab, hcd⟩))
    · have e2 : (c == d) = false := by simp [hcd]
      rw [e2]
      exact wpAny_pure (wpAny_pure (wpAny_pure (h _ (by simp))))
  · have e1 : (a == b) = false := by simp [hab]
    rw [e1]
    exact wpAny_pure (wpAny_pure (wpAny_pure (h _ (by simp))))
theorem is_tups {p q : Addr} {a b c d : Int} {t u v z : Nat} {Q : Value → Shared → Prop} (hp : IsTup s.heap p #[.int a t, .int c v]) (hq : IsTup s.heap q #[.int b u, .int d z]) (ha : -5 ≤ a ∧ a ≤ 256) (hc : -5 ≤ c ∧ c ≤ 256) (ht : t ≠ 0) (hu : u ≠ 0) (hv : v ≠ 0) (hz : z ≠ 0)
    (hd1 : a ≠ b → t ≠ u) (hd2 : c ≠ d → v ≠ z) (h : ∀ r : Bool, (r = true → a = b ∧ c = d) → Q (.bool r) s) : wpAny (model prog w) A (compareOp .Is (.ref p) (.ref q)) Q E s := by
  show wpAny _ A (do return .bool (← isSame (.ref p) (.ref q))) Q E s
  refine wpAny_bind ?_
  by_cases hpq : p = q
  · subst hpq
    refine wpAny_isSame_ref_self (wpAny_pure (h _ fun _ => ?_))
    obtain ⟨o, ho, _, n, hd⟩ := hp
    obtain ⟨o', ho', _, n', hd'⟩ := hq
    rw [ho] at ho'; cases ho'
    rw [hd] at hd'
    injection hd' with e1 e2
    simp at e1
    exact ⟨e1.1.1, e1.2.1⟩
  show wpAny _ A (if (p == q) = true then pure true else _) _ _ s
  rw [if_neg (by simpa using hpq)]
  obtain ⟨⟨cls, dd, data, sl⟩, ho, hcl, n, hd⟩ := hp
  obtain ⟨⟨cls', dd', data', sl'⟩, ho', hcl', n', hd'⟩ := hq
  simp only at hcl hd hcl' hd'
  subst hcl hd hcl' hd'
  refine wpAny_bind (wpAny_load ho (wpAny_bind (wpAny_load ho' ?_)))
  show wpAny _ A (if (false && false) = true then _ else sameTuple p q _ _) _ _ s
  rw [if_neg (by decide)]
  unfold sameTuple
  refine wpAny_bind (wpAny_askSetting ?_)
  dsimp only
  refine wpAny_ite_split (fun _ => wpAny_pure (wpAny_pure (h _ (by simp)))) (fun _ => ?_)
  refine wpAny_ite_split (fun _ => wpAny_pure (wpAny_pure (h _ (by simp)))) (fun _ => ?_)
  refine wpAny_bind (wpAny_holding (sameItems_two ha hc ht hu hv hz hd1 hd2 fun r hr => ?_))
  cases r with
  | false => exact wpAny_pure (wpAny_pure (h _ (by simp)))
  | true => exact wpAny_bind (wpAny_rule (wpAny_pure (wpAny_pure (h _ hr))))
end
end Mine
end

section
open PySem PySem.W PyProof.Rows PySem.Calls PySem.Spec
namespace Mine
local macro_rules | `(tactic| walk_at "ct_enter") => `(tactic| (refine' enter_def ?k1 ?k2 ?k3 ?k5 ?kA ?kF ?kK ?k6 ?k7 ?k8 ?k9 ?kB ?_ ?c2 ?c3 ?c4 ?c5; (case kA => exact rfl); (case kF => exact rfl); (case kK => assumption); (case k1 => k_asm); (case k2 => k_asm); (case k3 => k_asm); (case k5 => k_asm); (case k6 => k_is); (case k7 => k_is); (case k8 => ktr_room); (case k9 => exact BindsTo.of_eq rfl); (case c5 => decide); (case kB => exact locs rfl); (case c2 => exact rfl); (case c3 => exact rfl); (case c4 => exact rfl); k_whole; intro L' h' F' N' B' X' T'; (try dsimp only); (try k_fold)))
local macro_rules | `(tactic| k_room) => `(tactic| ((try simp only [depth_mark, depth_under_make, depth_under_kw, depth_in1, depth_deeper, depth_caller]); (try dsimp only [ktrTop]); omega))
local macro_rules | `(tactic| k_units) => `(tactic| ((try simp only [units_in1, units_deeper, Around.mark_units, units_caller]); (try dsimp only [ktrTop]); omega))

section
open PySem PySem.W PyProof.Rows PySem.Calls PySem.Spec
set_option linter.unusedVariables false
set_option maxRecDepth 100000
set_option maxHeartbeats 4000000
local macro_rules | `(tactic| walk_at "exec While BoolOp") => `(tactic| (refine stop_out ?_))
theorem kf1 (w : World) : hd.heap_39 w.params = hd.heap_39 w.params ∧ PySem.Challenge.rw_wk0002_01.row.prog = PySem.Challenge.rw_wk0002_01.row.prog := by w_top off; k_fill; exact ⟨rfl, rfl⟩
theorem six {r : Int} (a : 0 ≤ r) (b : r < 6) : r = 0 ∨ r = 1 ∨ r = 2 ∨ r = 3 ∨ r = 4 ∨ r = 5 := by omega
theorem unit_near {y : Int} (hy : y ≤ 50) : ∃ k : Nat, y + k ≤ 60 ∧ ((y + k) % 6 = 1 ∨ (y + k) % 6 = 5) := by
  have key : ∀ k : Nat, k ≤ 3 → ((y % 6 + k) % 6 = 1 ∨ (y % 6 + k) % 6 = 5) → ∃ k : Nat, y + k ≤ 60 ∧ ((y + k) % 6 = 1 ∨ (y + k) % 6 = 5) := fun k hk h => ⟨k, by omega, by rwa [Int.emod_add_emod] at h⟩
  rcases six (Int.emod_nonneg y (b := 6) (by decide)) (Int.emod_lt_of_pos y (b := 6) (by decide)) with h | h | h | h | h | h
  · exact key 1 (by decide) (by rw [h]; decide)
  · exact key 0 (by decide) (by rw [h]; decide)
  · exact key 3 (by decide) (by rw [h]; decide)
  · exact key 2 (by decide) (by rw [h]; decide)
  · exact key 1 (by decide) (by rw [h]; decide)
  · exact key 0 (by decide) (by rw [h]; decide)
theorem un2 {n : Int} {k : Nat} (h : (n + k) % 6 = 1 ∨ (n + k) % 6 = 5) (e : n % 2 = 0) : k ≠ 0 := by
  rintro rfl; rw [show n + ((0 : Nat) : Int) = n from Int.add_zero n] at h; omega
theorem un3 {n : Int} {k : Nat} (h : (n + k) % 6 = 1 ∨ (n + k) % 6 = 5) (e : n % 3 = 0) : k ≠ 0 := by
  rintro rfl; rw [show n + ((0 : Nat) : Int) = n from Int.add_zero n] at h; omega
theorem unS {n : Int} {k : Nat} (hk : k ≠ 0) : n + 1 + ((k - 1 : Nat) : Int) = n + k := by omega
theorem unP {n : Int} (h : 0 < n) : 0 < n + 1 := by omega
theorem unL {n : Int} {k : Nat} (h : n + k ≤ 60) : n ≤ 60 := by omega
theorem c_unit (w mean mg mb) (x : Int) (tx : Tok) : Ct w mean mg mb 116 [.int x tx] 1 8 (fun _ => 0 ≤ x ∧ x < 1000) (fun v _ => ∃ n t, v = .int n t ∧ 0 < n ∧ n ≤ 60 ∧ n % 2 = 1 ∧ n % 3 ≠ 0) := by
  intro dp un gd cn cs a ccd cl outer A₀ base h₀ L m s Q E B F X T hk hpre hdp hun hret
  refine wpAny_call ?_
  k_dflt walk_at "ct_enter"
  k_steps
  with_reducible rename Fr _ _ _ _ => F₁
  with_reducible rename News _ _ _ _ => N₁
  rename_i L₁ _ B₁ X₁ T₁ h₁
  unfold StopAt
  have hx := Int.fmod_eq_emod_of_nonneg x (b := 48) (by decide)
  obtain ⟨k, hk1, hk2⟩ : ∃ k : Nat, (1 + x.fmod 48) + k ≤ 60 ∧ (((1 + x.fmod 48) + k) % 6 = 1 ∨ ((1 + x.fmod 48) + k) % 6 = 5) := by
    rw [hx]; exact unit_near (by omega)
  refine wh_loop (fun k s' => ∃ (n : Int) (t : Tok) (h : Heap) (tk : Nat) (m0 : Str → Option Value), s' = { s with heap := h, toks := tk } ∧ Fr s.heap L₁ h (fun y => if y = Str.ofString "number" then some (.int n t) else m0 y) ∧ News s.heap L₁ h [] ∧ 0 < n ∧ n + k ≤ 60 ∧ ((n + k) % 6 = 1 ∨ (n + k) % 6 = 5)) ?_ k ?_
  · rintro k s₂ ⟨n, t, h₂, tk₂, m0, rfl, F₂, N₂, hn0, hn1, hn2⟩
    have q2 := Int.fmod_eq_emod_of_nonneg n (b := 2) (by decide)
    have q3 := Int.fmod_eq_emod_of_nonneg n (b := 3) (by decide)
    k_steps
    · with_reducible rename Fr _ _ _ _ => F₄
      with_reducible rename News _ _ _ _ => N₄
      have e2 : n % 2 = 0 := by clear hn2 hn1 hn0; omega
      have hk0 := un2 hn2 e2
      exact ⟨k - 1, Nat.sub_lt (Nat.pos_of_ne_zero hk0) Nat.one_pos, n + 1, _, _, _, _, rfl, keep1 (a := Str.ofString "number") F₄ rfl, N₄, unP hn0, by rw [unS hk0]; exact hn1, by rw [unS hk0]; exact hn2⟩
    · with_reducible rename Fr _ _ _ _ => F₄
      with_reducible rename News _ _ _ _ => N₄
      have e3 : n % 3 = 0 := by clear hn2 hn1 hn0; omega
      have hk0 := un3 hn2 e3
      exact ⟨k - 1, Nat.sub_lt (Nat.pos_of_ne_zero hk0) Nat.one_pos, n + 1, _, _, _, _, rfl, keep1 (a := Str.ofString "number") F₄ rfl, N₄, unP hn0, by rw [unS hk0]; exact hn1, by rw [unS hk0]; exact hn2⟩
    · exact hret _ _ _ (fun b o e => F₂.keep b o e) ⟨n, _, rfl, hn0, unL hn1, by (clear hn2 hn1 hn0; omega), by (clear hn2 hn1 hn0; omega)⟩
  · exact ⟨_, _, _, _, _, rfl, keep1 (a := Str.ofString "number") F₁ rfl, N₁, by (clear hk1 hk2; omega), hk1, hk2⟩
end

section
open PySem PySem.W PyProof.Rows PySem.Calls PySem.Spec
set_option linter.unusedVariables false
set_option maxRecDepth 100000
set_option maxHeartbeats 4000000
theorem hideG_M2 {P : Prop} (h : ∀ G : Prop, (P → G) → G) : P := h P id
local macro_rules | `(tactic| size_fits) => `(tactic| (simp only [List.size_toArray, PySem.sizeLine_eq]; omega))
local macro_rules | `(tactic| walk_at "exec For Name Call cons nil") => `(tactic| (refine stop_out ?_))
local macro_rules | `(tactic| walk_at "call ref") => `(tactic| ((with_reducible show wpAny _ _ (call (Value.ref 38) _) _ _ _); refine stop_out ?_))
theorem kf6 (w : World) : hd.heap_39 w.params = hd.heap_39 w.params ∧ PySem.Challenge.rw_wk0002_01.row.prog = PySem.Challenge.rw_wk0002_01.row.prog := by w_top off; k_fill; exact ⟨rfl, rfl⟩
/-- the turn after so many steps -/
def trn (u v size : Int) : Nat → Int
  | 0 => 0
  | j + 1 => (trn u v size j + if j = 0 then u else v).fmod size
def trns (u v size : Int) (k : Nat) : List Int := (List.range k).map fun j => trn u v size (j + 1)
theorem trn_step {u v size : Int} {n : Nat} (hn : n < 8) : (trn u v size (8 - (n + 1)) + if n = 7 then u else v).fmod size = trn u v size (8 - n) := by
  obtain ⟨j, hj⟩ : ∃ j, 8 - n = j + 1 := ⟨7 - n, by omega⟩
  rw [hj, show 8 - (n + 1) = j by omega, trn]
  by_cases h : n = 7
  · rw [if_pos h, if_pos (by omega)]
  · rw [if_neg h, if_neg (by omega)]
theorem trns_step {u v size : Int} {n : Nat} (hn : n < 8) : trns u v size (8 - n) = trns u v size (8 - (n + 1)) ++ [trn u v size (8 - n)] := by
  obtain ⟨j, hj⟩ : ∃ j, 8 - n = j + 1 := ⟨7 - n, by omega⟩
  rw [hj, show 8 - (n + 1) = j by omega]
  simp [trns, List.range_succ]
theorem c_turns (w mean mg mb) (rr : Addr) (vs : List Value) (u v size : Int) (tn : Tok) (hz : Heap) : CtG w mean mg mb 130 [.ref rr, .int size tn] 4 40 (fun h => h = hz ∧ h.IsList rr vs.toArray ∧ IntsAre vs [u, v, 0] ∧ 0 < size ∧ size < 49 ∧ 0 < u ∧ u < 100 ∧ 0 < v ∧ v < 100 ∧ u ≠ 127)
    (fun r h => ∃ a vs' c, r = .ref a ∧ hz.get? a = none ∧ h.get? a = some (W.listOf vs'.toArray c) ∧ IntsAre vs' (trns u v size 8)) := by
  intro dp un gd cn cs a ccd cl outer A₀ base h₀ L m s Q E B F X T hk hpre hdp hun hb hret
  refine hideG_M2 fun gG gk => ?_
  obtain ⟨rfl, hl, hi, hn0, hn1, hu0, hu1, hv0, hv1, hu⟩ := hpre
  refine gk ?_
  clear gk gG
  refine wpAny_call ?_
  k_dflt walk_at "ct_enter"
  k_steps
  with_reducible rename Fr _ _ _ _ => F₁
  with_reducible rename News _ _ _ _ => N₁
  rename_i L₁ _ B₁ X₁ T₁ _ l₁ _ _ _ h₁
  unfold StopAt
  refine wpAny_For ?_
  k_steps
  unfold StopAt
  have hL : s.heap.objs.size ≤ L₁ := F₁.above
  have nl : s.heap.get? l₁ = none := (N₁ _ (.head _)).2.2
  have hll : l₁ ≠ L₁ := (N₁ _ (.head _)).2.1
  have hlo := (N₁ _ (.head _)).1
  refine hideG_M2 fun gG gk => ?_
  obtain ⟨orr, horr, _⟩ := id hl
  refine gk ?_
  clear gk gG
  have hM : ∀ b, (b = L₁ ∨ b = l₁) → b < h₁.objs.size ∧ b ≠ mainGlobals ∧ b ≠ rr := by
    rintro b (rfl | rfl)
    · exact ⟨F₁.ns.lt, Nat.ne_of_gt (Nat.lt_of_lt_of_le T₁.g.lt hL), Nat.ne_of_gt (Nat.lt_of_lt_of_le (Heap.lt_size horr) hL)⟩
    · refine ⟨Heap.lt_size hlo, fun q => ?_, fun q => by rw [q, horr] at nl; cases nl⟩
      refine hideG_M2 fun gG gk => ?_
      obtain ⟨og, _, _, hg, _⟩ := T₁.g
      refine gk ?_
      clear gk gG
      rw [q, hg] at nl; cases nl
  refine grp_inf (f := fun j => if j = 7 then u else v) (n := 5) (Mut := fun b => b = L₁ ∨ b = l₁) (D := fun n => n ≠ 0) w mean mg mb (X₁.keeps F₁.keep) (T₁.keeps F₁.keep) rfl (by k_room) (hl.at fun o e => F₁.keep _ o e) hi (by simp) ⟨hu, by omega⟩ ⟨by omega, by omega⟩ rfl (fun j hj => if_neg (by omega)) hM fun h₂ tk₂ G hkeep hG hga => ?_
  have hns : h₂.Ns L₁ _ := F₁.ns.at' fun o e => hkeep _ o e
  refine wpAny_pyIter_gen hga.gen ?_
  have hsz : h₁.objs.size ≤ h₁.objs.size := Nat.le_refl _
  have F₂ := F₁.after hkeep
  refine hideG_M2 fun gG gk => ?_
  obtain ⟨_, hcn, _⟩ := id T₁.nolimit
  refine gk ?_
  clear gk gG
  have hc := hcn.lt
  refine gen_forLoop (N := 8) (St := fun k h => ∃ (t : Tok) (m0 : Str → Option Value) (vs' : List Value) (c : Nat), Fr s.heap L₁ h (fun y => if y = Str.ofString "turn" then some (.int (trn u v size (8 - k)) t) else if y = Str.ofString "found" then some (.ref l₁) else if y = Str.ofString "size" then some (.int size tn) else m0 y) ∧ h.get? l₁ = some (W.listOf vs'.toArray c) ∧ IntsAre vs' (trns u v size (8 - k)))
    rfl rfl rfl (by k_room) ?hcs (fun n => Nat.succ_ne_zero n) ?hMa ?hMc ?hstab ?turn ?done (hG hb) hga (by decide) ?hst
  case hcs => exact Nat.lt_trans (Nat.lt_of_lt_of_le hc hL) F₁.ns.lt
  case hMa => rintro (h | h); exact Nat.lt_irrefl _ (Nat.lt_of_lt_of_le (h ▸ F₁.ns.lt) (Nat.le_succ _)); exact Nat.lt_irrefl _ (Nat.lt_of_lt_of_le (h ▸ Heap.lt_size hlo) (Nat.le_succ _))
  case hMc =>
    rintro (q | q)
    · exact Nat.lt_irrefl _ (Nat.lt_of_lt_of_le (q ▸ hc) hL)
    · obtain ⟨og, _, _, hg, _⟩ := hcn
      rw [← q, hg] at nl; cases nl
  case hstab =>
    intro n h h' hh1 hk'
    refine hideG_M2 fun gG gk => ?_
    obtain ⟨t, m0, vs', c', Fh, hv, hi'⟩ := hh1
    refine gk ?_
    clear gk gG
    have hl₁ := Heap.lt_size hlo
    exact ⟨t, m0, vs', c', ⟨Fh.ns.at' fun o e => hk' _ o F₁.ns.lt e, fun b o e => hk' b o (Nat.lt_of_lt_of_le (Heap.lt_size e) (Nat.le_trans hL (Nat.le_of_lt F₁.ns.lt))) (Fh.keep b o e), Fh.above⟩, hk' _ _ hl₁ hv, hi'⟩
  case hst =>
    exact ⟨_, _, [], 0, keep1 (a := Str.ofString "turn") (keep1 (a := Str.ofString "found") (keep1 (a := Str.ofString "size") F₂ rfl) rfl) rfl, hkeep _ _ hlo, .nil⟩
  case done => exact fun q => absurd rfl q
  case turn =>
    intro n t₀ s₁ hn hh2 hh3
    refine hideG_M2 fun gG gk => ?_
    obtain ⟨h₃, tk₃, G₃, rfl, hGb⟩ := hh2
    obtain ⟨t, m0, vs', c', F₃, hv', hi'⟩ := hh3
    have hlen := hi'.length
    simp only [trns, List.length_map, List.length_range] at hlen
    obtain ⟨own, N₃, ho₃, hsub⟩ := own_ledger F₃ hv' nl hll
    refine gk ?_
    clear gk gG
    have KO : ∀ (s' : Shared) (m' : Str → Option Value) (news : List (Addr × Obj)), Fr s.heap L₁ s'.heap m' → News s.heap L₁ s'.heap news → (∀ p ∈ own, p ∈ news) → Kept (fun b => b = L₁ ∨ b = l₁) { s with heap := h₃, toks := tk₃, gens := G₃ } s' := fun s' m' news F' N' hs => kept_of (s := { s with heap := h₃, toks := tk₃, gens := G₃ }) F₃ F' N' hs hsub
    show wpAny _ _ _ _ _ _
    k_fold
    k_steps
    refine call_len_list (News.isList (by k_asm) (by k_mem)) ?_ ?_
    · simp only [List.size_toArray, List.length_append, List.length_cons, List.length_nil]; omega
    k_steps
    · with_reducible rename Fr _ _ _ _ => F₄
      with_reducible rename News _ _ _ _ => N₄
      have hn0 : n = 0 := by simp only [List.size_toArray, List.length_append, List.length_cons, List.length_nil] at *; omega
      subst hn0
      rw [trn_step hn] at *
      refine hret _ _ _ _ hGb (fun b o e => F₄.keep b o e) ⟨l₁, vs' ++ [_], _, rfl, nl, (N₄ _ (.head _)).1, ?_⟩
      rw [trns_step (n := 0) (by omega)]
      exact hi'.append (.cons _ _ .nil)
    · with_reducible rename Fr _ _ _ _ => F₄
      with_reducible rename News _ _ _ _ => N₄
      rw [trn_step hn] at *
      refine ⟨⟨_, _, rfl⟩, KO _ _ _ F₄ N₄ (fun p hp => .tail _ hp), ⟨_, _, _, _, keep1 (a := Str.ofString "turn") (keep1 (a := Str.ofString "found") (keep1 (a := Str.ofString "size") F₄ rfl) rfl) rfl, (N₄ _ (.head _)).1, ?_⟩, ?_⟩
      · rw [trns_step (n := n) (by omega)]
        exact hi'.append (.cons _ _ .nil)
      · rintro rfl
        simp only [List.size_toArray, List.length_append, List.length_cons, List.length_nil] at *; omega
end

section
open PySem PySem.W PyProof.Rows PySem.Calls PySem.Spec
set_option linter.unusedVariables false
set_option maxRecDepth 100000
set_option maxHeartbeats 4000000
local macro_rules | `(tactic| walk_at "execs cons") => `(tactic| (refine wpAny_execs_cons ?_))
local macro_rules | `(tactic| walk_at "execs nil") => `(tactic| (refine wpAny_execs_nil ?_))
local macro_rules | `(tactic| walk_at "exec While Compare") => `(tactic| (refine stop_out ?_))
theorem kf3 (w : World) : hd.heap_39 w.params = hd.heap_39 w.params ∧ PySem.Challenge.rw_wk0002_01.row.prog = PySem.Challenge.rw_wk0002_01.row.prog := by w_top off; k_fill; exact ⟨rfl, rfl⟩
/-- a list of pairs: each a tuple of two numbers whose tokens lie in a span -/
inductive Pairs (lo hi : Nat) (h : Heap) : List Value → List (Int × Int) → Prop
  | nil : Pairs lo hi h [] []
  | cons {t : Addr} {a b : Int} {ta tb : Nat} {vs ps} : IsTup h t #[.int a ta, .int b tb] → (lo ≤ ta ∧ ta < hi ∧ lo ≤ tb ∧ tb < hi) → Pairs lo hi h vs ps → Pairs lo hi h (.ref t :: vs) ((a, b) :: ps)
theorem Pairs.at {lo hi hi' : Nat} {h h' : Heap} {vs ps} (x : Pairs lo hi h vs ps) (hh : hi ≤ hi') (hk : ∀ t i, IsTup h t i → IsTup h' t i) : Pairs lo hi' h' vs ps := by
  induction x with
  | nil => exact .nil
  | cons a b _ ih => exact .cons (hk _ _ a) ⟨b.1, Nat.lt_of_lt_of_le b.2.1 hh, b.2.2.1, Nat.lt_of_lt_of_le b.2.2.2 hh⟩ ih
theorem Pairs.length {lo hi : Nat} {h : Heap} {vs ps} (x : Pairs lo hi h vs ps) : vs.length = ps.length := by
  induction x with
  | nil => rfl
  | cons a _ _ ih => simp [ih]
theorem Pairs.append {lo hi : Nat} {h : Heap} {vs ps ws qs} (x : Pairs lo hi h vs ps) (y : Pairs lo hi h ws qs) : Pairs lo hi h (vs ++ ws) (ps ++ qs) := by
  induction x with
  | nil => exact y
  | cons a b _ ih => exact .cons a b ih
def pw (p m : Int) : Nat → Int × Int
  | 0 => (1, 0)
  | k + 1 => ((m * (pw p m k).2).fmod p, ((pw p m k).1 + (pw p m k).2).fmod p)
def pws (p m : Int) (n : Nat) : List (Int × Int) := (List.range n).map (pw p m)
theorem pws_step (p m : Int) (n : Nat) : pws p m (n + 1) = pws p m n ++ [pw p m n] := by simp [pws, List.range_succ]
theorem pws_length (p m : Int) (n : Nat) : (pws p m n).length = n := by simp [pws]
theorem tup_kept {h₀ : Heap} {L l : Addr} {m : Str → Option Value} {its : Array Value} {c : Nat} {s s' : Shared} (K : Kept (fun b => b = L ∨ b = l) s s') (F : Fr h₀ L s.heap m) (hv : s.heap.get? l = some (W.listOf its c)) {t : Addr} {i : Array Value} (x : IsTup s.heap t i) : IsTup s'.heap t i := by
  have hne := F.tup_ne x
  obtain ⟨o, ho, hc, r⟩ := x
  refine ⟨o, K t o ?_ ho, hc, r⟩
  rintro (q | q)
  · exact hne q
  · subst q
    rw [hv] at ho; cases ho
    have hc' : (Value.type "list" : Value) = .type "tuple" := hc
    exact absurd (Value.type.inj hc') (by decide)
theorem pw_bound {p m : Int} (hp : 2 < p) (k : Nat) : 0 ≤ (pw p m k).1 ∧ (pw p m k).1 < p ∧ 0 ≤ (pw p m k).2 ∧ (pw p m k).2 < p := by
  cases k with
  | zero => exact ⟨Int.one_nonneg, by show (1 : Int) < p; omega, Int.le_refl 0, by show (0 : Int) < p; omega⟩
  | succ k => exact ⟨Int.fmod_nonneg_of_pos _ (by omega), Int.fmod_lt_of_pos _ (by omega), Int.fmod_nonneg_of_pos _ (by omega), Int.fmod_lt_of_pos _ (by omega)⟩
/-- a contract that also speaks of the counter of tokens -/
abbrev CtS (w : World) (mean : ExcName → Option Value) (mg mb : Str → Option Value) (f : Addr) (vs : List Value) (dn u : Nat) (pre : Shared → Prop) (post : Shared → Value → Heap → Nat → Prop) : Prop :=
  ∀ (dp un : Nat) (gd : Option (List Code)) (cn : Str) (cs : Scope) (a : Addr) (ccd : Value) (cl : List (Str × Addr)) (outer : List Env) (A₀ : Around) (base h₀ : Heap) (L : Addr) (m : Str → Option Value) (s : Shared) (Q E : Value → Shared → Prop),
    Below A₀ base outer h₀ → Fr h₀ L s.heap m → (hd.heap_39 w.params).In h₀ → Top hd.view_39 (looseW hd.view_39 [Str.ofString "_twin_re_1", Str.ofString "_twin_re_2"]) mean mg mb h₀ → cs.kind = .function →
    pre s → dp + dn < recursionLimit → un + u < cLine → (∀ v h' tk', (∀ b o, s.heap.get? b = some o → h'.get? b = some o) → post s v h' tk' → Q v { s with heap := h', toks := tk' }) →
      wpAny (model PySem.Challenge.rw_wk0002_01.row.prog w) (ktrTop dp un gd cn cs L a ccd cl outer) (call (.ref f) vs) Q E s
theorem c_powers (w mean mg mb) (p more : Int) (tp tm : Tok) : CtS w mean mg mb 123 [.int p tp, .int more tm] 3 24 (fun _ => 2 < p ∧ p < 8 ∧ 0 < more ∧ more < 8) (fun s v h tk => s.toks ≤ tk ∧ ∃ a vs c, v = .ref a ∧ s.heap.get? a = none ∧ h.get? a = some (W.listOf vs.toArray c) ∧ Pairs s.toks tk h vs (pws p more (p * p - 1).toNat)) := by
  intro dp un gd cn cs a ccd cl outer A₀ base h₀ L m s Q E B F X T hk hpre hdp hun hret
  refine wpAny_call ?_
  k_dflt walk_at "ct_enter"
  k_steps
  with_reducible rename Fr _ _ _ _ => F₁
  with_reducible rename News _ _ _ _ => N₁
  rename_i L₁ _ B₁ X₁ T₁ t₁ _ _ l₁ _ hlt h₁
  unfold StopAt
  have hL : s.heap.objs.size ≤ L₁ := F₁.above
  have nl : s.heap.get? l₁ = none := (N₁ _ (.head _)).2.2
  have hll : l₁ ≠ L₁ := (N₁ _ (.head _)).2.1
  refine wh_loop (fun n s' => ∃ (k : Nat) (h : Heap) (tk : Nat) (m0 : Str → Option Value) (vs₀ : List Value) (t : Addr) (ta tb : Nat) (c : Nat), k + n = (p * p - 2).toNat ∧ s' = { s with heap := h, toks := tk } ∧
    Fr s.heap L₁ h (fun y => if y = Str.ofString "powers" then some (.ref l₁) else if y = Str.ofString "prime" then some (.int p tp) else if y = Str.ofString "more" then some (.int more tm) else m0 y) ∧
    h.get? l₁ = some (W.listOf (vs₀ ++ [Value.ref t]).toArray c) ∧ s.toks ≤ tk ∧ Pairs s.toks tk h vs₀ (pws p more k) ∧ (s.toks ≤ ta ∧ ta < tk ∧ s.toks ≤ tb ∧ tb < tk) ∧ s.heap.get? t = none ∧ IsTup h t #[.int (pw p more k).1 ta, .int (pw p more k).2 tb]) ?_ (p * p - 2).toNat ?_
  · intro n s₂ hx
    refine exE9 hx ?_
    clear hx
    intro k h₂ tk₂ m0 vs₀ t ta tb c hx
    refine anE9 hx ?_
    clear hx
    intro hkn hx F₂ hv₂ hlo₂ hp₂ htt₂ ht₂ hi₂
    subst hx
    have hlen := hp₂.length
    rw [pws_length] at hlen
    obtain ⟨own, N₂, ho₂, hsub⟩ := own_ledger F₂ hv₂ nl hll
    have hpp : p * p ≤ 49 ∧ 2 ≤ p * p := by
      have : p = 3 ∨ p = 4 ∨ p = 5 ∨ p = 6 ∨ p = 7 := by omega
      rcases this with rfl | rfl | rfl | rfl | rfl <;> decide
    have hwb := pw_bound (m := more) (show (2 : Int) < p by omega) k
    obtain ⟨xa, hxa⟩ : ∃ x, x = (pw p more k).1 := ⟨_, rfl⟩
    obtain ⟨xb, hxb⟩ : ∃ x, x = (pw p more k).2 := ⟨_, rfl⟩
    rw [← hxa, ← hxb] at hwb
    rw [← hxa, ← hxb] at hi₂
    obtain ⟨hwa0, hwa1, hwb0, hwb1⟩ := hwb
    have hxb8 : xb < 8 := by omega
    have hxa8 : xa < 8 := by omega
    have KO : ∀ (s' : Shared) (m' : Str → Option Value) (news : List (Addr × Obj)), Fr s.heap L₁ s'.heap m' → News s.heap L₁ s'.heap news → (∀ p ∈ own, p ∈ news) → ∀ t i, IsTup h₂ t i → IsTup s'.heap t i := fun s' m' news F' N' hs t i x => tup_kept (s := { s with heap := h₂, toks := tk₂ }) (kept_of (s := { s with heap := h₂, toks := tk₂ }) F₂ F' N' hs hsub) F₂ hv₂ x
    show wpAny _ _ _ _ _ _
    k_fold
    k_steps
    refine call_len_list (News.isList (by k_asm) (by k_mem)) ?_ ?_
    · simp only [List.size_toArray, List.length_append, List.length_cons, List.length_nil]; omega
    k_steps
    · refine item_neg (x := .ref t) (News.isList (by k_asm) (by k_mem)) (by decide) ?_ (by decide) ?_ ?_
      · simp only [List.size_toArray, List.length_append, List.length_cons, List.length_nil]; omega
      · simp only [List.size_toArray, List.length_append, List.length_cons, List.length_nil, List.getElem?_toArray]
        rw [show (-1 + ((vs₀.length + (0 + 1) : Nat) : Int)).toNat = vs₀.length by omega]
        simp
      k_steps
      with_reducible rename Fr _ _ _ _ => F₄
      with_reducible rename News _ _ _ _ => N₄
      have hq : (((vs₀ ++ [Value.ref t]).toArray.size : Nat) : Int) < p * p - 1 := by assumption
      simp only [List.size_toArray, List.length_append, List.length_cons, List.length_nil] at hq
      have KP := KO { s with heap := _, toks := 0 } _ _ F₄ N₄ (fun p hp => .tail _ (.tail _ hp))
      have KT := N₄.isTup (.head _)
      rw [hxa, hxb] at KT
      refine ⟨n - 1, by omega, exI9 (k + 1) _ _ _ (vs₀ ++ [Value.ref t]) _ _ _ _ (anI9 (by omega) rfl (keep1 (a := Str.ofString "powers") (keep1 (a := Str.ofString "prime") (keep1 (a := Str.ofString "more") F₄ rfl) rfl) rfl) ((N₄ _ (.tail _ (.head _))).1.trans (congrArg (fun z => some (W.listOf z _)) (by simp))) ?_ ?_ ?_ ((N₄ _ (.head _)).2.2) KT)⟩
      · first | (((try dsimp only); (try simp only [← hxa, ← hxb]); (obtain ⟨z1, z2, z3, z4⟩ := htt₂); (repeat' (first | (with_reducible assumption) | (with_reducible exact Nat.le_refl _) | (with_reducible exact Nat.lt_add_one _) | (with_reducible apply Nat.le_add_right_of_le) | (with_reducible apply Nat.lt_add_right) | (with_reducible refine ⟨?_, ?_⟩)))); done) | ((try dsimp only); (try simp only [← hxa, ← hxb]); omega)
      · rw [pws_step, show pw p more k = (xa, xb) by rw [hxa, hxb]]
        exact (hp₂.at (by (first | (((try dsimp only); (try simp only [← hxa, ← hxb]); (obtain ⟨z1, z2, z3, z4⟩ := htt₂); (repeat' (first | (with_reducible assumption) | (with_reducible exact Nat.le_refl _) | (with_reducible exact Nat.lt_add_one _) | (with_reducible apply Nat.le_add_right_of_le) | (with_reducible apply Nat.lt_add_right) | (with_reducible refine ⟨?_, ?_⟩)))); done) | ((try dsimp only); (try simp only [← hxa, ← hxb]); omega))) KP).append (.cons (KP _ _ hi₂) (by (first | (((try dsimp only); (try simp only [← hxa, ← hxb]); (obtain ⟨z1, z2, z3, z4⟩ := htt₂); (repeat' (first | (with_reducible assumption) | (with_reducible exact Nat.le_refl _) | (with_reducible exact Nat.lt_add_one _) | (with_reducible apply Nat.le_add_right_of_le) | (with_reducible apply Nat.lt_add_right) | (with_reducible refine ⟨?_, ?_⟩)))); done) | ((try dsimp only); (try simp only [← hxa, ← hxb]); omega))) .nil)
      · first | (((try dsimp only); (try simp only [← hxa, ← hxb]); (obtain ⟨z1, z2, z3, z4⟩ := htt₂); (repeat' (first | (with_reducible assumption) | (with_reducible exact Nat.le_refl _) | (with_reducible exact Nat.lt_add_one _) | (with_reducible apply Nat.le_add_right_of_le) | (with_reducible apply Nat.lt_add_right) | (with_reducible refine ⟨?_, ?_⟩)))); done) | ((try dsimp only); (try simp only [← hxa, ← hxb]); omega)
    · have hn0 : n = 0 := by simp only [List.size_toArray, List.length_append, List.length_cons, List.length_nil] at *; omega
      subst hn0
      have hk1 : (p * p - 1).toNat = k + 1 := by omega
      refine hret _ _ _ (fun b o e => F₂.keep b o e) ⟨by (first | (((try dsimp only); (try simp only [← hxa, ← hxb]); (obtain ⟨z1, z2, z3, z4⟩ := htt₂); (repeat' (first | (with_reducible assumption) | (with_reducible exact Nat.le_refl _) | (with_reducible exact Nat.lt_add_one _) | (with_reducible apply Nat.le_add_right_of_le) | (with_reducible apply Nat.lt_add_right) | (with_reducible refine ⟨?_, ?_⟩)))); done) | ((try dsimp only); (try simp only [← hxa, ← hxb]); omega)), l₁, _, _, rfl, nl, hv₂, ?_⟩
      rw [hk1, pws_step]
      refine (hp₂.at (by (first | (((try dsimp only); (try simp only [← hxa, ← hxb]); (obtain ⟨z1, z2, z3, z4⟩ := htt₂); (repeat' (first | (with_reducible assumption) | (with_reducible exact Nat.le_refl _) | (with_reducible exact Nat.lt_add_one _) | (with_reducible apply Nat.le_add_right_of_le) | (with_reducible apply Nat.lt_add_right) | (with_reducible refine ⟨?_, ?_⟩)))); done) | ((try dsimp only); (try simp only [← hxa, ← hxb]); omega))) fun _ _ x => x).append ?_
      rw [show pw p more k = (xa, xb) by rw [hxa, hxb]]
      exact .cons hi₂ (by (first | (((try dsimp only); (try simp only [← hxa, ← hxb]); (obtain ⟨z1, z2, z3, z4⟩ := htt₂); (repeat' (first | (with_reducible assumption) | (with_reducible exact Nat.le_refl _) | (with_reducible exact Nat.lt_add_one _) | (with_reducible apply Nat.le_add_right_of_le) | (with_reducible apply Nat.lt_add_right) | (with_reducible refine ⟨?_, ?_⟩)))); done) | ((try dsimp only); (try simp only [← hxa, ← hxb]); omega))) .nil
  · exact exI9 0 _ _ _ ([] : List Value) t₁ _ _ _ (anI9 (by omega) rfl (keep1 (a := Str.ofString "powers") (keep1 (a := Str.ofString "prime") (keep1 (a := Str.ofString "more") F₁ rfl) rfl) rfl) ((N₁ _ (.head _)).1) (by (first | (((try dsimp only); (repeat' (first | (with_reducible assumption) | (with_reducible exact Nat.le_refl _) | (with_reducible exact Nat.lt_add_one _) | (with_reducible apply Nat.le_add_right_of_le) | (with_reducible apply Nat.lt_add_right) | (with_reducible refine ⟨?_, ?_⟩)))); done) | ((try dsimp only); omega))) Mine.Pairs.nil (by (first | (((try dsimp only); (repeat' (first | (with_reducible assumption) | (with_reducible exact Nat.le_refl _) | (with_reducible exact Nat.lt_add_one _) | (with_reducible apply Nat.le_add_right_of_le) | (with_reducible apply Nat.lt_add_right) | (with_reducible refine ⟨?_, ?_⟩)))); done) | ((try dsimp only); omega))) ((N₁ _ (.tail _ (.head _))).2.2) (N₁.isTup (.tail _ (.head _))))
end

section
open PySem PySem.W PyProof.Rows PySem.Calls PySem.Spec
set_option linter.unusedVariables false
set_option maxRecDepth 100000
set_option maxHeartbeats 4000000
local macro_rules | `(tactic| walk_at "subscriptTail Name Slice ref ref") => `(tactic| (refine stop_out ?_))
local macro_rules | `(tactic| walk_at "subscriptTail List Slice ref ref") => `(tactic| (refine stop_out ?_))
theorem kf4 (w : World) : hd.heap_39 w.params = hd.heap_39 w.params ∧ PySem.Challenge.rw_wk0002_01.row.prog = PySem.Challenge.rw_wk0002_01.row.prog := by w_top off; k_fill; exact ⟨rfl, rfl⟩
def drw (ns : List Int) : List Int := (ns.take 6).map (·.fmod 1000) ++ ([1, 6, 3, 5, 10, 4] : List Int).drop (ns.take 6).length
theorem flt (l : List Int) : l.filter (fun _ => true) = l := List.filter_eq_self.mpr fun _ _ => rfl
theorem c_draws (w mean mg mb) (l : Addr) (vs : List Value) (ns : List Int) (hz : Heap) : Ct w mean mg mb 109 [.ref l] 3 24 (fun h => h = hz ∧ h.IsList l vs.toArray ∧ IntsAre vs ns ∧ ns.length < 64)
    (fun v h => ∃ r ws c, v = .ref r ∧ hz.get? r = none ∧ h.get? r = some (W.listOf ws.toArray c) ∧ IntsAre ws (drw ns)) := by
  intro dp un gd cn cs a ccd cl outer A₀ base h₀ L m s Q E B F X T hk hpre hdp hun hret
  obtain ⟨rfl, hl, hi, hlen⟩ := hpre
  refine wpAny_call ?_
  k_dflt walk_at "ct_enter"
  k_steps
  unfold StopAt
  refine kmk_slice_ints (by k_asm) (by k_asm) (Fr.lst (by k_asm) hl) IsPart.none (IsPart.int _ _) hi (kmk_upto hi (by decide)) rfl ?_ (by with_unfolding_all rfl) (by intro _; with_unfolding_all rfl) ?_
  rotate_left
  · simp only [List.size_toArray, hi.length, sizeLine_eq]; omega
  intro D' ws' h' F' N' l1 hI' hC' hL'
  (try k_sweep)
  k_steps
  unfold StopAt
  refine kmk_slice_ints (ns := [1, 6, 3, 5, 10, 4]) (by k_asm) (by k_asm) (News.isList (by k_asm) (by k_mem)) (IsPart.int _ _) IsPart.none (by repeat constructor) (kmk_from (by repeat constructor) ?_) rfl ?_ (by with_unfolding_all rfl) (by intro _; with_unfolding_all rfl) ?_
  rotate_left
  · intro D' ws' h' F' N' l1 hI' hC' hL'
    (try k_sweep)
    k_steps
    have iX := ‹IntsAre _ (List.map (fun a => a.fmod 1000) (List.filter (fun a' => true) (List.take (Int.toNat 6) ns)))›
    refine kmk_add_ints (by k_asm) (by k_asm) (News.isList (by k_asm) (by k_mem)) (News.isList (by k_asm) (by k_mem)) iX hI' ?_ ?_
    · intro D₂ ws₂ h₂ F₂ N₂ l2 hI₂
      k_steps
      refine hret _ _ _ (fun b o e => F₂.keep b o e) ⟨D₂, ws₂, _, rfl, (N₂ _ (.head _)).2.2, (N₂ _ (.head _)).1, ?_⟩
      have e : drw ns = (List.map (fun a => a.fmod 1000) (List.filter (fun a' => true) (List.take (Int.toNat 6) ns))) ++ List.drop ((List.take (Int.toNat 6) ns).length : Int).toNat [1, 6, 3, 5, 10, 4] := by
        rw [flt]; rfl
      rw [e]; exact hI₂
    · rw [flt]
      have h1 := List.length_take (i := Int.toNat 6) (l := ns)
      simp only [List.length_map, List.length_drop, List.length_cons, List.length_nil, sizeLine_eq]
      omega
  · show 6 ≤ sizeLine
    rw [sizeLine_eq]; decide
  · exact Int.natCast_nonneg _
end

section
open PySem PySem.W PyProof.Rows PySem.Calls PySem.Spec
set_option linter.unusedVariables false
set_option maxRecDepth 100000
set_option maxHeartbeats 4000000
theorem hideG_M5 {P : Prop} (h : ∀ G : Prop, (P → G) → G) : P := h P id
local macro_rules | `(tactic| walk_at "call type:enumerate") => `(tactic| (refine stop_out ?_))
theorem kf5i (w : World) : hd.heap_39 w.params = hd.heap_39 w.params ∧ PySem.Challenge.rw_wk0002_01.row.prog = PySem.Challenge.rw_wk0002_01.row.prog := by w_top off; k_fill; exact ⟨rfl, rfl⟩
theorem Pairs.get {lo hi : Nat} {h : Heap} {vs ps} (x : Pairs lo hi h vs ps) : ∀ {i : Nat} {v : Value}, vs.toArray[i]? = some v → ∃ (t : Addr) (a b : Int) (ta tb : Nat), v = .ref t ∧ ps[i]? = some (a, b) ∧ IsTup h t #[.int a ta, .int b tb] ∧ (lo ≤ ta ∧ ta < hi ∧ lo ≤ tb ∧ tb < hi) := by
  induction x with
  | nil => intro i v e; simp at e
  | cons hx hb _ ih =>
    intro i v e
    cases i with
    | zero => simp at e; subst e; exact ⟨_, _, _, _, _, rfl, rfl, hx, hb⟩
    | succ i => obtain ⟨t, a, b, ta, tb, h1, h2, h3⟩ := ih (i := i) (v := v) (by simpa using e); exact ⟨t, a, b, ta, tb, h1, by simpa using h2, h3⟩
theorem c_index (w mean mg mb) (l b : Addr) (vs : List Value) (ps : List (Int × Int)) (k lo hi : Nat) (x y : Int) (tx ty : Nat) : CtS w mean mg mb 80 [.ref l, .ref b] 3 24 (fun s => s.heap.IsList l vs.toArray ∧ Pairs lo hi s.heap vs ps ∧ IsTup s.heap b #[.int x tx, .int y ty] ∧ 0 < lo ∧ hi ≤ tx ∧ hi ≤ ty ∧ 0 < tx ∧ 0 < ty ∧ ps[k]? = some (x, y) ∧ (∀ j < k, ps[j]? ≠ some (x, y)) ∧ ps.length < 64 ∧ (∀ q ∈ ps, 0 ≤ q.1 ∧ q.1 < 64 ∧ 0 ≤ q.2 ∧ q.2 < 64))
    (fun s v h tk => ∃ t, v = .int k t) := by
  intro dp un gd cn cs a ccd cl outer A₀ base h₀ L m s Q E B F X T hk hpre hdp hun hret
  refine hideG_M5 fun gG gk => ?_
  obtain ⟨hl, hp, hb, hlo, hx0, hy0, hx1, hy1, hk1, hk2, hlen, hsm⟩ := hpre
  refine gk ?_
  clear gk gG
  refine wpAny_call ?_
  k_dflt walk_at "ct_enter"
  k_steps
  refine wpAny_For ?_
  k_steps
  with_reducible rename Fr _ _ _ _ => F₁
  with_reducible rename News _ _ _ _ => N₁
  rename_i L₁ h₁ B₁ X₁ T₁
  unfold StopAt
  have hL : s.heap.objs.size ≤ L₁ := F₁.above
  have hLt := F₁.ns.lt
  refine hideG_M5 fun gG gk => ?_
  obtain ⟨ol, hol, _⟩ := id hl
  refine gk ?_
  clear gk gG
  have hlt := Heap.lt_size hol
  have hlz : l < h₁.objs.size := Nat.lt_of_lt_of_le hlt (Nat.le_trans hL (Nat.le_of_lt hLt))
  have hsz0 : s.heap.objs.size ≤ h₁.objs.size := Nat.le_trans hL (Nat.le_of_lt hLt)
  refine call_enumerate_list (hl.at fun o e => F₁.keep _ o e) fun h₂ he hit hsz hkeep => ?_
  refine wpAny_pyIter_enum he ?_
  have hkl : k < vs.toArray.size := by
    rw [List.size_toArray, hp.length]
    exact (List.getElem?_eq_some_iff.mp hk1).1
  refine enum_find (h₀ := s.heap) (l := l) (items := vs.toArray) (k := k) (fun m0 y => if y = Str.ofString "b" then some (.ref b) else m0 y) rfl rfl rfl rfl (Nat.succ_ne_self _) (Nat.ne_of_lt (Nat.lt_succ_of_lt hlz)) (Nat.ne_of_lt hlz) ?hLn (Heap.get?_none_of_le (Nat.le_succ_of_le hsz0)) (Heap.get?_none_of_le hsz0) he hit (hl.at fun o e => hkeep _ _ (F₁.keep _ o e)) hkl ?step ⟨_, keep1 (a := Str.ofString "b") (F₁.after hkeep) rfl⟩
  case hLn =>
    intro hm
    rcases List.mem_cons.mp hm with q | hm
    · exact Nat.ne_of_lt (Nat.lt_succ_of_lt hLt) q
    · rcases List.mem_cons.mp hm with q | hm
      · exact Nat.ne_of_lt hLt q
      · exact Nat.ne_of_gt (Nat.lt_of_lt_of_le hlt hL) (List.mem_singleton.mp hm)
  case step =>
    intro i v tk m₁ s₁ own hh1 hv hik F₃ N₃
    refine hideG_M5 fun gG gk => ?_
    obtain ⟨h₃, t₃, rfl⟩ := hh1
    obtain ⟨t, pa, pb, ta, tb, rfl, hpi, hti, htk⟩ := hp.get hv
    refine gk ?_
    clear gk gG
    have ht₃ : IsTup h₃ t #[.int pa ta, .int pb tb] := hti.keeps F₃.keep
    have hb₃ : IsTup h₃ b #[.int x tx, .int y ty] := hb.keeps F₃.keep
    have hq := hsm _ (List.mem_of_getElem? hpi)
    have hfin : pa = x ∧ pb = y → i = k := by
      intro hh2
      refine hideG_M5 fun gG gk => ?_
      obtain ⟨rfl, rfl⟩ := hh2
      refine gk ?_
      clear gk gG
      by_cases hik' : i < k
      · exact absurd hpi (hk2 i hik')
      · omega
    have hfin2 : ¬ (pa = x ∧ pb = y) → i < k := by
      intro hn
      by_cases hik' : i < k
      · exact hik'
      · have : i = k := by omega
        subst this
        rw [hpi] at hk1
        injection hk1 with e
        injection e with e1 e2
        exact absurd ⟨e1, e2⟩ hn
    have KK : ∀ b o, s.heap.get? b = some o → h₃.get? b = some o := fun b o e => F₃.keep b o e
    k_steps
    dsimp only at hq
    refine is_tups ht₃ hb₃ ⟨by omega, by omega⟩ ⟨by omega, by omega⟩ (by omega) (by omega) (by omega) (by omega) (fun _ => by omega) (fun _ => by omega) fun r hr => ?_
    cases r with
    | true =>
      have hik2 := hfin (hr rfl)
      subst hik2
      k_steps
      exact hret _ _ _ KK ⟨_, rfl⟩
    | false =>
      k_steps
      refine SeqAt.eq_tupleAt (e := fun j => if j = 0 then pa == x else pb == y) ht₃ hb₃ (by k_units) (fun j h1 h2 => ?_) ?_
      · match j, h1, h2 with
        | 0, _, _ => exact SeqAt.EqAt.int_int pa ta x tx
        | 1, _, _ => exact SeqAt.EqAt.int_int pb tb y ty
      · have he : ((List.range (min (#[Value.int pa ta, Value.int pb tb] : Array Value).size (#[Value.int x tx, Value.int y ty] : Array Value).size)).all (fun j => if j = 0 then pa == x else pb == y) && (#[Value.int pa ta, Value.int pb tb] : Array Value).size == (#[Value.int x tx, Value.int y ty] : Array Value).size) = (pa == x && pb == y) := by
          show ((List.range 2).all _ && true) = _
          simp [List.range_succ]
        rw [he]
        by_cases hxy : pa = x ∧ pb = y
        · have hik2 := hfin hxy
          subst hik2
          have e1 : (pa == x && pb == y) = true := by simp [hxy]
          rw [e1]
          k_steps
          exact hret _ _ _ KK ⟨_, rfl⟩
        · have hik2 := hfin2 hxy
          have e1 : (pa == x && pb == y) = false := by simpa using fun h1 h2 => hxy ⟨h1, h2⟩
          rw [e1]
          k_steps
          with_reducible rename Fr _ _ _ _ => F₄
          with_reducible rename News _ _ _ _ => N₄
          exact ⟨hik2, _, _, _, rfl, keep1 (a := Str.ofString "b") F₄ rfl, N₄⟩
end

section
open PySem PySem.W PyProof.Rows PySem.Calls PySem.Spec
set_option linter.unusedVariables false
set_option maxRecDepth 100000
set_option maxHeartbeats 4000000
local macro_rules | `(tactic| walk_at "subscriptTail Name") => `(tactic| (refine stop_out ?_))
local macro_rules | `(tactic| walk_at "nothing here") => `(tactic| skip)
theorem kf6a (w : World) : hd.heap_39 w.params = hd.heap_39 w.params ∧ PySem.Challenge.rw_wk0002_01.row.prog = PySem.Challenge.rw_wk0002_01.row.prog := by w_top off; k_fill; exact ⟨rfl, rfl⟩
theorem c_item (w mean mg mb) (l : Addr) (ws : List Value) (ms : List Int) (i : Int) (ti : Tok) : Ct w mean mg mb 73 [.ref l, .int i ti] 1 8 (fun h => h.IsList l ws.toArray ∧ IntsAre ws ms ∧ 0 ≤ i ∧ i < ms.length ∧ i < 1000) (fun v h => ∃ t, v = .int (ms.getD i.toNat 0) t) := by
  intro dp un gd cn cs a ccd cl outer A₀ base h₀ L m s Q E B F X T hk hpre hdp hun hret
  obtain ⟨hl, hi', hi0, hi1, hi2⟩ := hpre
  refine wpAny_call ?_
  k_dflt walk_at "ct_enter"
  k_steps
  with_reducible rename Fr _ _ _ _ => F₂
  exact hret _ _ _ (fun b o e => F₂.keep b o e) ⟨_, rfl⟩
theorem c_itemP (w mean mg mb) (l : Addr) (vs : List Value) (ps : List (Int × Int)) (lo hi : Nat) (i : Int) (ti : Tok) : Ct w mean mg mb 73 [.ref l, .int i ti] 1 8 (fun h => h.IsList l vs.toArray ∧ Pairs lo hi h vs ps ∧ 0 ≤ i ∧ i < ps.length ∧ i < 1000)
    (fun v h => ∃ (t : Addr) (ta tb : Tok), v = .ref t ∧ IsTup h t #[.int (ps.getD i.toNat (0, 0)).1 ta, .int (ps.getD i.toNat (0, 0)).2 tb]) := by
  intro dp un gd cn cs a ccd cl outer A₀ base h₀ L m s Q E B F X T hk hpre hdp hun hret
  obtain ⟨hl, hp, hi0, hi1, hi2⟩ := hpre
  refine wpAny_call ?_
  k_dflt walk_at "ct_enter"
  k_steps
  with_reducible rename Fr _ _ _ _ => F₂
  refine stop_in ?_
  have hlt : i.toNat < vs.toArray.size := by rw [List.size_toArray, hp.length]; omega
  obtain ⟨t, a', b', ta, tb, hv, hq, ht, _⟩ := hp.get (i := i.toNat) (v := vs.toArray[i.toNat]) (by simp [hlt])
  refine item_list (x := .ref t) (hl.at fun o e => F₂.keep _ o e) hi0 (by omega) (by rw [← hv]; simp [hlt]) ?_
  refine hret _ _ _ (fun b o e => F₂.keep b o e) ⟨t, ta, tb, rfl, ?_⟩
  have e : ps.getD i.toNat (0, 0) = (a', b') := by rw [List.getD_eq_getElem?_getD, hq]; rfl
  rw [e]
  exact ht.keeps F₂.keep
end

section
open PySem PySem.W PyProof.Rows PySem.Calls PySem.Spec
set_option linter.unusedVariables false
set_option maxRecDepth 100000
set_option maxHeartbeats 4000000
theorem hideG_M6 {P : Prop} (h : ∀ G : Prop, (P → G) → G) : P := h P id
local macro_rules | `(tactic| walk_at "ct_enterC") => `(tactic| (refine' enter_cells ?k1 ?k2 ?k3 ?k5 ?kA ?kF ?kK ?k6 ?k7 ?k8 ?k9 ?kB ?kD ?_ ?c2 ?c3 ?c4; (case kA => exact rfl); (case kF => exact rfl); (case kK => assumption); (case k1 => k_asm); (case k2 => k_asm); (case k3 => k_asm); (case k5 => k_asm); (case k6 => k_is); (case k7 => k_is); (case k8 => ktr_room); (case k9 => exact BindsTo.of_eq rfl); (case kB => exact rfl); (case kD => decide +kernel); (case c2 => exact rfl); (case c3 => exact rfl); (case c4 => exact rfl); k_whole; intro L' h' tk' cells' F' N' Y' B' X' T'; (try dsimp only)))
local macro_rules | `(tactic| walk_at "exec For Name Call cons nil") => `(tactic| (refine stop_out ?_))
local macro_rules | `(tactic| walk_at "call ref") => `(tactic| ((with_reducible show wpAny _ _ (call (Value.ref 73) _) _ _ _); refine stop_out ?_))
local macro_rules | `(tactic| walk_at "call builtin:len") => `(tactic| (refine stop_out ?_))
local macro_rules | `(tactic| walk_at "exec Assign cons ListComp") => `(tactic| (refine stop_out ?_))
local macro_rules | `(tactic| walk_at "compareOp NotEq ref ref") => `(tactic| (refine stop_out ?_))
local macro_rules | `(tactic| walk_at "call type:range") => `(tactic| (refine stop_out ?_))
theorem kf6t (w : World) : hd.heap_39 w.params = hd.heap_39 w.params ∧ PySem.Challenge.rw_wk0002_01.row.prog = PySem.Challenge.rw_wk0002_01.row.prog := by w_top off; k_fill; exact ⟨rfl, rfl⟩
def rootsOf (p more : Int) (q : Int × Int) : List Int := ((List.range p.toNat).map Int.ofNat).filter fun x => (x * x - (q.2 - 1) * x + (q.1 - more)).fmod p == 0
def toldOK (ps : List (Int × Int)) (ms : List Int) (p more f sh : Int) : Prop :=
  ∀ i j : Nat, i < p → i + j < p → rootsOf p more (ps.getD ((f * (f * f) * ((ms.getD i 0 + ms.getD (i + j) 0).fmod ps.length - 2 * sh)).fmod ps.length).toNat (0, 0)) = if j = 0 then [(i : Int)] else [(i : Int), i + j]
theorem newsLt {h₀ h : Heap} {L : Addr} {news : List (Addr × Obj)} (N : News h₀ L h news) : ∀ q ∈ news, q.1 < h.objs.size := fun q hq => Heap.lt_size (N q hq).1
theorem newsKeep {h₀ h h' : Heap} {L : Addr} {news : List (Addr × Obj)} (N : News h₀ L h news) (hk : ∀ b o, h.get? b = some o → h'.get? b = some o) : News h₀ L h' news := fun q hq => ⟨hk _ _ (N q hq).1, (N q hq).2⟩
theorem freshOf {h h' : Heap} {D : Addr} (hD : h'.get? D = none) (hk : ∀ b o, h.get? b = some o → h'.get? b = some o) : ∀ b o, h.get? b = some o → b ≠ D := fun b o e q => by
  subst q; rw [hk _ _ e] at hD; cases hD
theorem eqAt_same (A : Around) (s : Shared) (a : Int) (t u : Tok) : SeqAt.EqAt A s (.int a t) (.int a u) true := by
  have := SeqAt.EqAt.int_int (A := A) (s := s) a t a u
  rwa [beq_self_eq_true] at this
theorem ex7 {A : Sort u1} {B : Sort u2} {C : Sort u3} {D : Sort u4} {E : Sort u5} {F : Sort u6} {G : Sort u7} {P : A → B → C → D → E → F → G → Prop} (a : A) (b : B) (c : C) (d : D) (e : E) (f : F) (g : G) (h : P a b c d e f g) : ∃ a b c d e f g, P a b c d e f g := ⟨a, b, c, d, e, f, g, h⟩
theorem and9 {a b c d e f g h i : Prop} (x1 : a) (x2 : b) (x3 : c) (x4 : d) (x5 : e) (x6 : f) (x7 : g) (x8 : h) (x9 : i) : a ∧ b ∧ c ∧ d ∧ e ∧ f ∧ g ∧ h ∧ i := ⟨x1, x2, x3, x4, x5, x6, x7, x8, x9⟩
theorem c_told (w mean mg mb) (l lm : Addr) (vs ws : List Value) (ps : List (Int × Int)) (ms : List Int) (lo hi : Nat) (p more f sh : Int) (tp tm tf ts : Tok) : CtS w mean mg mb 142 [.ref l, .ref lm, .int p tp, .int more tm, .int f tf, .int sh ts] 5 60
    (fun s => s.heap.IsList l vs.toArray ∧ Pairs lo hi s.heap vs ps ∧ s.heap.IsList lm ws.toArray ∧ IntsAre ws ms ∧ toldOK ps ms p more f sh ∧ (ms.length : Int) = p ∧ 2 < p ∧ p < 8 ∧ 0 < more ∧ more < 8 ∧ 0 < f ∧ f < 64 ∧ 0 ≤ sh ∧ sh < 64 ∧ (∀ x ∈ ms, 0 ≤ x ∧ x < 64) ∧ (∀ q ∈ ps, 0 ≤ q.1 ∧ q.1 < 64 ∧ 0 ≤ q.2 ∧ q.2 < 64) ∧ 0 < ps.length ∧ ps.length < 64)
    (fun s v h tk => v = .bool true) := by
  intro dp un gd cn cs a ccd cl outer A₀ base h₀ L m s Q E B F X T hk hpre hdp hun hret
  refine hideG_M6 fun gG gk => ?_
  obtain ⟨hl, hp, hlm, hi', hok, hml, hp0, hp1, hm0, hm1, hf0, hf1, hs0, hs1, hms, hps, hz0, hz1⟩ := hpre
  refine gk ?_
  clear gk gG
  refine wpAny_call ?_
  k_dflt walk_at "ct_enterC"
  rename_i Y₁ _ _ _
  k_cells Y₁
  rename_i L₁ h₁ t₁ F₁ B₁ X₁ T₁ oc ob oa dc db da N₁
  have da' : oa.data = .cell (some (.int p tp)) := da.trans rfl
  have db' : ∃ v, ob.data = .cell v := ⟨_, db⟩
  have dc' : ∃ v, oc.data = .cell v := ⟨_, dc⟩
  clear da db dc
  have hL₁ := F₁.above
  show wpAny _ _ _ _ _ _
  k_fold
  k_steps
  refine stop_in ?_
  refine wpAny_For ?_
  k_steps
  refine stop_in ?_
  with_reducible rename Fr _ _ _ _ => F₂
  with_reducible rename News _ _ _ _ => N₂
  have hz := newsLt N₂
  have hz3 := hz _ (.head _)
  have hz2 := hz _ (.tail _ (.head _))
  have hz1' := hz _ (.tail _ (.tail _ (.head _)))
  dsimp only at hz3 hz2 hz1'
  clear hz
  refine range_for1 (h₀ := s.heap) (α := Tok × (Str → Option Value) × Obj × Obj)
    (fun m y => if y = Str.ofString "inverse" then some (.int (f * (f * f)) m.1) else if y = Str.ofString "powers" then some (.ref l) else if y = Str.ofString "marks" then some (.ref lm) else if y = Str.ofString "more" then some (.int more tm) else if y = Str.ofString "shift" then some (.int sh ts) else m.2.1 y)
    (fun m => [(L₁ + 1 + 1 + 1, m.2.2.1), (L₁ + 1 + 1, m.2.2.2), (L₁ + 1, oa)]) (fun i m h => (∃ v, m.2.2.1.data = .cell v) ∧ (∃ v, m.2.2.2.data = .cell v)) p.toNat rfl rfl rfl rfl ⟨by omega, by omega⟩ F₂.ns.lt F₂.above ?hnw (fun _ _ _ _ hj _ => hj) ?step ?done ?h0
  case h0 =>
    exact ⟨(_, _, oc, ob), keep1 (a := Str.ofString "inverse") (keep1 (a := Str.ofString "powers") (keep1 (a := Str.ofString "marks") (keep1 (a := Str.ofString "more") (keep1 (a := Str.ofString "shift") F₂ rfl) rfl) rfl) rfl) rfl, N₂, dc', db'⟩
  case hnw =>
    intro m q hq
    rcases List.mem_cons.mp hq with rfl | hq
    · exact hz3
    · rcases List.mem_cons.mp hq with rfl | hq
      · exact hz2
      · rw [List.mem_singleton.mp hq]; exact hz1'
  case done =>
    intro h t m₁ F₃ N₃ hj ht
    k_steps
    exact hret _ _ _ (fun b o e => F₃.keep b o e) rfl
  case step =>
    intro i tv hh1 s₁ own hh2 ht hi hh3 F₃ N₃ ho
    refine hideG_M6 fun gG gk => ?_
    obtain ⟨ti, m0, oc₃, ob₃⟩ := hh1
    obtain ⟨h₃, t₃, rfl⟩ := hh2
    obtain ⟨dc₃, db₃⟩ := hh3
    refine gk ?_
    clear gk gG
    have NN : News s.heap L₁ h₃ ((L₁ + 1 + 1 + 1, oc₃) :: (L₁ + 1 + 1, ob₃) :: (L₁ + 1, oa) :: own) := fun q hq => N₃ q (by
      simp only [List.mem_cons, List.mem_append, List.not_mem_nil, or_false] at hq ⊢
      rcases hq with h | h | h | h
      · exact .inr (.inl h)
      · exact .inr (.inr (.inl h))
      · exact .inr (.inr (.inr h))
      · exact .inl h)
    clear N₃
    have hoff : OwnOff own [L₁ + 1 + 1 + 1, L₁ + 1 + 1, L₁ + 1] := fun q hq b hb => by
      have := ho q hq
      simp only [List.mem_cons, List.not_mem_nil, or_false] at hb
      rcases hb with rfl | rfl | rfl <;> exact Nat.ne_of_gt (Nat.lt_of_lt_of_le (by assumption) this)
    show wpAny _ _ _ _ _ _
    k_fold
    k_steps
    refine stop_in ?_
    refine wpAny_For ?_
    k_steps
    refine stop_in ?_
    with_reducible rename Fr _ _ _ _ => F₄
    with_reducible rename News _ _ _ _ => N₄
    have hz' := newsLt N₄
    have hs₄ : ∀ q ∈ own, q.1 < h₃.objs.size := fun q hq => hz' q (.tail _ (.tail _ (.tail _ hq)))
    have hy3 := hz' _ (.head _)
    have hy2 := hz' _ (.tail _ (.head _))
    have hy1 := hz' _ (.tail _ (.tail _ (.head _)))
    dsimp only at hy3 hy2 hy1
    clear hz'
    refine range_for2 (h₀ := s.heap) (α := Tok × Tok × (Str → Option Value) × Obj × Obj)
      (fun m y => if y = Str.ofString "w" then some (.int i m.1) else if y = Str.ofString "inverse" then some (.int (f * (f * f)) m.2.1) else if y = Str.ofString "powers" then some (.ref l) else if y = Str.ofString "marks" then some (.ref lm) else if y = Str.ofString "more" then some (.int more tm) else if y = Str.ofString "shift" then some (.int sh ts) else m.2.2.1 y)
      (fun m => (L₁ + 1 + 1 + 1, m.2.2.2.1) :: (L₁ + 1 + 1, m.2.2.2.2) :: (L₁ + 1, oa) :: own) (fun i m h => (∃ v, m.2.2.2.1.data = .cell v) ∧ (∃ v, m.2.2.2.2.data = .cell v)) (p - i).toNat rfl rfl rfl rfl ⟨by omega, by omega⟩ ⟨by omega, by omega⟩ F₄.ns.lt F₄.above ?hnw (fun _ _ _ _ hj _ => hj) ?step ?done ?h0
    case h0 =>
      exact ⟨(_, _, _, oc₃, ob₃), keep1 (a := Str.ofString "w") (keep1 (a := Str.ofString "inverse") (keep1 (a := Str.ofString "powers") (keep1 (a := Str.ofString "marks") (keep1 (a := Str.ofString "more") (keep1 (a := Str.ofString "shift") F₄ rfl) rfl) rfl) rfl) rfl) rfl, N₄, dc₃, db₃⟩
    case hnw =>
      intro m q hq
      rcases List.mem_cons.mp hq with rfl | hq
      · exact hy3
      · rcases List.mem_cons.mp hq with rfl | hq
        · exact hy2
        · rcases List.mem_cons.mp hq with rfl | hq
          · exact hy1
          · exact hs₄ q hq
    case done =>
      intro h t hh4 F₅ N₅ hh5 ht₅
      refine hideG_M6 fun gG gk => ?_
      obtain ⟨t5, t6, m₅, oc₅, ob₅⟩ := hh4
      obtain ⟨dc₅, db₅⟩ := hh5
      refine gk ?_
      clear gk gG
      k_steps
      exact ⟨_, _, (_, _, oc₅, ob₅), rfl, keep1 (a := Str.ofString "inverse") (keep1 (a := Str.ofString "powers") (keep1 (a := Str.ofString "marks") (keep1 (a := Str.ofString "more") (keep1 (a := Str.ofString "shift") F₅ rfl) rfl) rfl) rfl) rfl, fun q hq => N₅ q (by
        simp only [List.mem_cons, List.mem_append, List.not_mem_nil, or_false] at hq ⊢
        rcases hq with h | h | h | h
        · exact .inr (.inr (.inr h))
        · exact .inl h
        · exact .inr (.inl h)
        · exact .inr (.inr (.inl h))), dc₅, db₅⟩
    case step =>
      intro j tw hh6 s₁ own₆ hh7 ht₆ hj hh8 F₆ N₆ ho₆
      refine hideG_M6 fun gG gk => ?_
      obtain ⟨ti₆, t₆, m₆, oc₆, ob₆⟩ := hh6
      obtain ⟨h₆, t₇, rfl⟩ := hh7
      obtain ⟨⟨vc₆, dc₆⟩, ⟨vb₆, db₆⟩⟩ := hh8
      refine gk ?_
      clear gk gG
      have NN₆ : News s.heap L₁ h₆ ((L₁ + 1 + 1 + 1, oc₆) :: (L₁ + 1 + 1, ob₆) :: (L₁ + 1, oa) :: (own ++ own₆)) := fun q hq => N₆ q (by
        simp only [List.mem_cons, List.mem_append, List.not_mem_nil, or_false] at hq ⊢
        rcases hq with h | h | h | h | h
        · exact .inr (.inl h)
        · exact .inr (.inr (.inl h))
        · exact .inr (.inr (.inr (.inl h)))
        · exact .inr (.inr (.inr (.inr h)))
        · exact .inl h)
      clear N₆
      have hoff₆ : OwnOff (own ++ own₆) [L₁ + 1 + 1 + 1, L₁ + 1 + 1, L₁ + 1] := fun q hq b hb => by
        rcases List.mem_append.mp hq with hq | hq
        · exact hoff q hq b hb
        · have := ho₆ q hq
          simp only [List.mem_cons, List.not_mem_nil, or_false] at hb
          rcases hb with rfl | rfl | rfl <;> exact Nat.ne_of_gt (Nat.lt_of_lt_of_le (by assumption) this)
      generalize hwn : own ++ own₆ = own₇ at NN₆ hoff₆
      show wpAny _ _ _ _ _ _
      k_fold
      k_steps
      with_reducible rename Fr _ _ _ _ => F₇
      with_reducible rename News _ _ _ _ => N₇
      refine stop_in ?_
      refine c_item w mean mg mb lm ws ms i _ _ _ _ _ _ _ _ _ _ _ _ _ _ _ _ _ _ B₁ F₇ X₁ T₁ rfl ⟨hlm.at fun o e => F₇.keep _ o e, hi', by omega, by omega, by omega⟩ (by k_room) (by k_units) fun v h₈ tk₈ hk₈ hv₈ => ?_
      refine hideG_M6 fun gG gk => ?_
      obtain ⟨t₈, rfl⟩ := hv₈
      refine gk ?_
      clear gk gG
      have F₈ := F₇.after hk₈
      have N₈ := newsKeep N₇ hk₈
      clear F₇ N₇
      show wpAny _ _ _ _ _ _
      k_fold
      k_steps
      with_reducible rename Fr _ _ _ _ => F₉
      with_reducible rename News _ _ _ _ => N₉
      refine stop_in ?_
      refine c_item w mean mg mb lm ws ms (i + j) _ _ _ _ _ _ _ _ _ _ _ _ _ _ _ _ _ _ B₁ F₉ X₁ T₁ rfl ⟨hlm.at fun o e => F₉.keep _ o e, hi', by omega, by omega, by omega⟩ (by k_room) (by k_units) fun v ha tka hka hva => ?_
      refine hideG_M6 fun gG gk => ?_
      obtain ⟨ta, rfl⟩ := hva
      refine gk ?_
      clear gk gG
      have Fa := F₉.after hka
      have Na := newsKeep N₉ hka
      clear F₉ N₉
      show wpAny _ _ _ _ _ _
      k_fold
      k_steps
      with_reducible rename Fr _ _ _ _ => Fb
      refine stop_in ?_
      refine call_len_list (hl.at fun o e => Fb.keep _ o e) ?_ ?_
      · rw [List.size_toArray, hp.length]; omega
      rw [List.size_toArray, hp.length]
      k_steps
      with_reducible rename Fr _ _ _ _ => Fc
      refine stop_in ?_
      refine call_len_list (hl.at fun o e => Fc.keep _ o e) ?_ ?_
      · rw [List.size_toArray, hp.length]; omega
      rw [List.size_toArray, hp.length]
      have hzp : 0 < (ps.length : Int) := by omega
      k_steps
      with_reducible rename Fr _ _ _ _ => Fd
      with_reducible rename News _ _ _ _ => Nd
      refine stop_in ?_
      refine c_itemP w mean mg mb l vs ps lo _ _ _ _ _ _ _ _ _ _ _ _ _ _ _ _ _ _ _ _ B₁ Fd X₁ T₁ rfl ⟨hl.at fun o e => Fd.keep _ o e, hp.at (Nat.le_refl _) fun t x y => y.keeps Fd.keep, Int.fmod_nonneg_of_pos _ hzp, Int.fmod_lt_of_pos _ hzp, Int.lt_trans (Int.fmod_lt_of_pos _ hzp) (by omega)⟩ (by k_room) (by k_units) fun v he tke hke hve => ?_
      refine hideG_M6 fun gG gk => ?_
      obtain ⟨tp', te1, te2, rfl, htp⟩ := hve
      refine gk ?_
      clear gk gG
      have Fe := Fd.after hke
      have Ne := newsKeep Nd hke
      clear Fd Nd
      show wpAny _ _ _ _ _ _
      k_fold
      k_steps
      refine hideG_M6 fun gG gk => ?_
      obtain ⟨q, hqe⟩ : ∃ q, q = ps.getD ((f * (f * f) * ((ms.getD i 0 + ms.getD (i + j) 0).fmod ps.length - 2 * sh)).fmod ps.length).toNat (0, 0) := ⟨_, rfl⟩
      refine gk ?_
      clear gk gG
      refine stop_in ?_
      show wpAny _ _ _ _ _ _
      k_fold
      refine wpAny_Assign_ListComp_free (fun v => match v with | .int x _ => (x * x - (q.2 - 1) * x + (q.1 - more)).fmod p == 0 | _ => false) (fun v y => v = y) (by with_unfolding_all rfl) (by with_unfolding_all rfl) (by decide) rfl (by decide) (by with_unfolding_all rfl) rfl rfl ?_
      k_steps
      with_reducible rename Fr _ _ _ _ => Fg
      with_reducible rename News _ _ _ _ => Ng
      refine stop_in ?_
      refine call_range_1 ?_
      refine wpAny_pyIter_range (IsRange.new ..) (small_one (by decide) (by decide) (by omega) (by omega)) ?_
      have he2 : ((i : Int) + (j : Int)).toNat = i + j := by omega
      have dRest := ‹_ = Data.cell (some (Value.int ((ps.getD _ _).1 - more) _))›
      have dBoth := ‹_ = Data.cell (some (Value.int ((ps.getD _ _).2 - 1) _))›
      have cR := (Ng _ (.head _)).1
      have cB := (Ng _ (.tail _ (.head _))).1
      have cP := (Ng _ (.tail _ (.tail _ (.head _)))).1
      dsimp only at cR cB cP
      refine ex7 _ [_] [_] p.toNat _ _ _ (and9 rfl (range_walk rfl _ p.toNat) ?sz ?st ?fp ?nl ((Fg.ns.push _).push _) ⟨?tests, ?elt⟩ ?use)
      case sz => rw [sizeLine_eq]; omega
      case st =>
        have hz9 : Builtin.Range.rangeSize 0 p 1 = (p.toNat : Int) := by rw [rangeSize_one]; split <;> omega
        have e1 : (0 + ((0 : Nat) : Int) * 1) = 0 := by simp
        have e2 : ((p.toNat : Int) - ((0 : Nat) : Int)) = Builtin.Range.rangeSize 0 p 1 := by rw [hz9]; simp
        rw [e1, e2]
        exact Heap.get?_push_size _ rfl
      case fp =>
        intro b hb
        rw [List.mem_singleton.mp hb]
        simp [Heap.size_push]
      case nl =>
        intro hb
        have := List.mem_singleton.mp hb
        have h1 := Fg.ns.lt
        exact absurd this (Nat.ne_of_lt (Nat.lt_of_lt_of_le h1 (by simp [Heap.size_push])))
      case elt =>
        intro C i' v s₃ m₃ E' hC hP hpv hns hm hk9 htk
        refine wpAny_Name (wpAny_loadName_local rfl (by with_unfolding_all rfl) hns hm ?_) (by decide)
        exact ⟨rfl, _, _, rfl, fun _ _ e => e⟩
      case tests =>
        intro C i' v s₃ m₃ E' hC hh9 hns hm hk9 htk
        refine hideG_M6 fun gG gk => ?_
        obtain ⟨hi9, t9, rfl⟩ := hh9
        refine gk ?_
        clear gk gG
        have up9 : ∀ b o, _ → s₃.heap.get? b = some o := fun b o (e : _ = some o) => hk9 b o (fun hm => absurd (List.mem_singleton.mp hm) (Nat.ne_of_lt (Nat.lt_of_lt_of_le (Heap.lt_size e) (by simp [Heap.size_push])))) (Heap.get?_push_of_some _ (Heap.get?_push_of_some _ e))
        have kR := up9 _ _ cR
        have kB := up9 _ _ cB
        have kP := up9 _ _ cP
        rw [List.forIn_cons]
        refine wpAny_bind ?_
        rw [if_pos rfl]
        refine wpAny_bind (wpAny_isTrue_Compare1 ?_)
        refine wpAny_BinOp (wpAny_BinOp (wpAny_BinOp (wpAny_BinOp ?_)))
        refine wpAny_Name (wpAny_loadName_local rfl (by with_unfolding_all rfl) hns hm ?_) (by decide)
        refine wpAny_Name (wpAny_loadName_local rfl (by with_unfolding_all rfl) hns hm ?_) (by decide)
        refine mul_int ?_ (IntMulOk.of_left (intBits_le_64 (by omega) (by omega)))
        refine wpAny_BinOp ?_
        refine wpAny_Name (wpAny_loadName_cell rfl (by with_unfolding_all rfl) (by with_unfolding_all rfl) ⟨_, kB, dBoth⟩ ?_) (by decide)
        refine wpAny_Name (wpAny_loadName_local rfl (by with_unfolding_all rfl) hns hm ?_) (by decide)
        refine mul_int ?_ (IntMulOk.of_right (intBits_le_64 (by omega) (by omega)))
        refine sub_int ?_
        refine wpAny_Name (wpAny_loadName_cell rfl (by with_unfolding_all rfl) (by with_unfolding_all rfl) ⟨_, kR, dRest⟩ ?_) (by decide)
        refine add_int ?_
        refine wpAny_Name (wpAny_loadName_cell rfl (by with_unfolding_all rfl) (by with_unfolding_all rfl) ⟨_, kP, da'⟩ ?_) (by decide)
        refine mod_int (by omega) ?_
        refine wpAny_Constant_int fun tk => ?_
        refine eq_int (wpAny_truthy_bool (wpAny_pure ?_))
        show wpAny _ _ (forIn [] _ _) _ _ _
        rw [List.forIn_nil]
        refine wpAny_pure ⟨?_, _, _, rfl, fun _ _ e => e⟩
        dsimp only
        simp only [Int.toNat_natCast, he2, ← hqe]
      case use =>
        intro D h9 tk9 ys vs9 hD hlD hpl hlen9 hP9 hpair hns9 hk9
        have hrr : IntsAre ys.toList (if j = 0 then [(i : Int)] else [(i : Int), i + j]) := by
          rw [← hok i j (by omega) (by omega), ← hqe, ← paired_eq hpair]
          exact ints_filter (pz := fun x => (x * x - (q.2 - 1) * x + (q.1 - more)).fmod p == 0) (fun _ _ => rfl) (ints_range hlen9 fun j v e => (hP9 j v e).2)
        have up9 : ∀ b o, b ≠ L₁ → _ → h9.get? b = some o := fun b o hbL (e : _ = some o) => hk9 b o hbL (fun hm => absurd (List.mem_singleton.mp hm) (Nat.ne_of_lt (Nat.lt_of_lt_of_le (Heap.lt_size e) (by simp [Heap.size_push])))) (Heap.get?_push_of_some _ (Heap.get?_push_of_some _ e))
        have F9 : Fr s.heap L₁ h9 _ := ⟨hns9, fun b o e => up9 b o (Nat.ne_of_lt (Nat.lt_of_lt_of_le (Heap.lt_size e) hL₁)) (Fg.keep b o e), hL₁⟩
        refine hideG_M6 fun gG gk => ?_
        obtain ⟨oD, hoD, hcD, nD, hdD⟩ := id hlD
        refine gk ?_
        clear gk gG
        have hDs := freshOf hD (fun b o e => Heap.get?_push_of_some _ (Heap.get?_push_of_some _ e))
        have hD0 : s.heap.get? D = none := by
          cases hq : s.heap.get? D with
          | none => rfl
          | some o => exact absurd rfl (hDs D o (Fg.keep D o hq))
        have hDL : D ≠ L₁ := fun q => by
          refine hideG_M6 fun gG gk => ?_
          obtain ⟨o, _, _, e, _⟩ := Fg.ns
          refine gk ?_
          clear gk gG
          exact hDs _ _ e q.symm
        have N9 : News s.heap L₁ h9 ((D, oD) :: _) := fun p hp => by
          rcases List.mem_cons.mp hp with rfl | hp
          · exact ⟨hoD, hDL, hD0⟩
          · exact ⟨up9 _ _ (Ng p hp).2.1 (Ng p hp).1, (Ng p hp).2⟩
        have dD : oD = { cls := .type "list", dict := oD.dict, data := .seq ys nD, slots := oD.slots } := by
          cases oD; simp only at hcD hdD; rw [hcD, hdD]
        rw [dD] at N9
        clear Fg Ng
        k_steps
        · rw [if_neg (show j ≠ 0 by omega)] at hrr
          refine hideG_M6 fun gG gk => ?_
          obtain ⟨tA, tB, hys⟩ := ints_two hrr
          refine gk ?_
          clear gk gG
          have hys' : ys = #[Value.int i tA, Value.int (i + j) tB] := by rw [← Array.toList_inj, hys]
          with_reducible rename News _ _ _ _ => Nz
          have hDz := Nz.isList (.tail _ (.head _))
          refine stop_in ?_
          refine PySem.EqBoolInt.of_rcne (SeqAt.RcNeAt.lists (e := fun _ => true) hDz (Nz.isList (.head _)) (by rw [hys']; rfl) (by k_units) fun k h1 h2 => ?_) ?_
          · subst hys'
            match k, h1, h2 with
            | 0, _, _ => exact eqAt_same _ _ _ _ _
            | 1, _, _ => exact eqAt_same _ _ _ _ _
          have eF : (!(List.range ys.size).all fun _ => true) = false := by simp
          rw [eF]
          clear hDz
          k_steps
          with_reducible rename Fr _ _ _ _ => Fz
          with_reducible rename News _ _ _ _ => Nz
          refine ⟨_, _, (_, _, _, _, _), rfl, keep1 (a := Str.ofString "w") (keep1 (a := Str.ofString "inverse") (keep1 (a := Str.ofString "powers") (keep1 (a := Str.ofString "marks") (keep1 (a := Str.ofString "more") (keep1 (a := Str.ofString "shift") Fz rfl) rfl) rfl) rfl) rfl) rfl, fun q hq => Nz q ?_, ⟨_, dRest⟩, ⟨_, dBoth⟩⟩
          rw [← hwn]
          simp only [List.mem_cons, List.mem_append] at hq ⊢
          rcases hq with h | h | h | h | h
          · exact .inr (.inr (.inr (.inr (.inr (.inr h)))))
          · exact .inr (.inr (.inl h))
          · exact .inr (.inr (.inr (.inl h)))
          · exact .inr (.inr (.inr (.inr (.inl h))))
          · exact .inr (.inr (.inr (.inr (.inr (.inl h)))))
        · rw [if_pos (show j = 0 by omega)] at hrr
          refine hideG_M6 fun gG gk => ?_
          obtain ⟨tA, hys⟩ := ints_one hrr
          refine gk ?_
          clear gk gG
          have hys' : ys = #[Value.int i tA] := by rw [← Array.toList_inj, hys]
          with_reducible rename News _ _ _ _ => Nz
          have hDz := Nz.isList (.tail _ (.head _))
          refine stop_in ?_
          refine PySem.EqBoolInt.of_rcne (SeqAt.RcNeAt.lists (e := fun _ => true) hDz (Nz.isList (.head _)) (by rw [hys']; rfl) (by k_units) fun k h1 h2 => ?_) ?_
          · subst hys'
            match k, h1, h2 with
            | 0, _, _ => exact eqAt_same _ _ _ _ _
          have eF : (!(List.range ys.size).all fun _ => true) = false := by simp
          rw [eF]
          clear hDz
          k_steps
          with_reducible rename Fr _ _ _ _ => Fz
          with_reducible rename News _ _ _ _ => Nz
          refine ⟨_, _, (_, _, _, _, _), rfl, keep1 (a := Str.ofString "w") (keep1 (a := Str.ofString "inverse") (keep1 (a := Str.ofString "powers") (keep1 (a := Str.ofString "marks") (keep1 (a := Str.ofString "more") (keep1 (a := Str.ofString "shift") Fz rfl) rfl) rfl) rfl) rfl) rfl, fun q hq => Nz q ?_, ⟨_, dRest⟩, ⟨_, dBoth⟩⟩
          rw [← hwn]
          simp only [List.mem_cons, List.mem_append] at hq ⊢
          rcases hq with h | h | h | h | h
          · exact .inr (.inr (.inr (.inr (.inr (.inr h)))))
          · exact .inr (.inr (.inl h))
          · exact .inr (.inr (.inr (.inl h)))
          · exact .inr (.inr (.inr (.inr (.inl h))))
          · exact .inr (.inr (.inr (.inr (.inr (.inl h)))))
end

section
open PySem PySem.W PyProof.Rows PySem.Calls PySem.Spec
set_option linter.unusedVariables false
set_option maxRecDepth 100000
set_option maxHeartbeats 4000000
local macro_rules | `(tactic| walk_at "getMethod ref") => `(tactic| (refine stop_out ?_))
theorem kf7a (w : World) : hd.heap_39 w.params = hd.heap_39 w.params ∧ PySem.Challenge.rw_wk0002_01.row.prog = PySem.Challenge.rw_wk0002_01.row.prog := by w_top off; k_fill; exact ⟨rfl, rfl⟩
def fixL (x : Array Nat) : List Nat := restL x (find2 x) (len2 x x.size) [13, 10] x.size (x.size + 1) 0
theorem c_fix (w mean mg mb) (x : Str) (tx : Tok) : Ct w mean mg mb 104 [.str x tx] 2 40 (fun h => x.cps.size ≤ 100000 ∧ (fixL x.cps).length ≤ 1000000) (fun v h => ∃ t, v = .str ⟨(fixL x.cps).toArray⟩ t) := by
  intro dp un gd cn cs a ccd cl outer A₀ base h₀ L m s Q E B F X T hk hpre hdp hun hret
  obtain ⟨hx, hlen⟩ := hpre
  refine wpAny_call ?_
  k_dflt walk_at "ct_enter"
  k_steps
  with_reducible rename Fr _ _ _ _ => F₂
  with_reducible rename (hd.heap_39 _).In _ => X₁
  have hp : PatAt s.heap 90 code2 0 := ⟨_, _, 89, _, _, _, _, X₁ _ _ (by k_is), rfl, X₁ _ _ (by k_is), rfl, rfl, by decide +kernel⟩
  refine stop_in ?_
  have hT : ∀ tk, Shared.TypeIs { s with heap := _, toks := tk } (.ref 90) "re.Pattern" := fun tk => ⟨_, F₂.keep _ _ (X₁ _ _ (by k_is)), rfl⟩
  refine getMethod_builtin (T := "re.Pattern") (id := "re.Pattern.sub") (hT _) plainAttrs_pat slot_pat_sub type_pat_sub (fun a e => by cases e; exact ⟨_, F₂.keep _ _ (X₁ _ _ (by k_is)), rfl⟩) ?_
  k_steps
  refine call_meets slot_pat_sub (hT _) entry_pat_sub (args_pat_sub _ _ _) (meets_sub_str hx hlen) ⟨hp.keeps F₂.keep, fun h₃ t₃ k₃ hk₃ => ?_⟩
  exact hret _ _ _ (fun b o e => hk₃ b o (F₂.keep b o e)) ⟨t₃, rfl⟩
def quoL (x : Array Nat) : List Nat := restL x (find1 x x.size) (fun _ => 1) [46, 46] x.size (x.size + 1) 0
theorem c_quote (w mean mg mb) (x : Array UInt8) (tx : Tok) : Ct w mean mg mb 97 [.bytes x tx] 2 40 (fun h => x.size ≤ 100000 ∧ (quoL (x.map (·.toNat))).length ≤ 1000000) (fun v h => ∃ c t, v = .bytes c t ∧ natsOf c = quoL (x.map (·.toNat))) := by
  intro dp un gd cn cs a ccd cl outer A₀ base h₀ L m s Q E B F X T hk hpre hdp hun hret
  obtain ⟨hx, hlen⟩ := hpre
  refine wpAny_call ?_
  k_dflt walk_at "ct_enter"
  k_steps
  with_reducible rename Fr _ _ _ _ => F₂
  with_reducible rename (hd.heap_39 _).In _ => X₁
  have hp : PatAt s.heap 85 code1 1 := ⟨_, _, 84, _, _, _, _, X₁ _ _ (by k_is), rfl, X₁ _ _ (by k_is), rfl, rfl, by decide +kernel⟩
  refine stop_in ?_
  have hT : ∀ tk, Shared.TypeIs { s with heap := _, toks := tk } (.ref 85) "re.Pattern" := fun tk => ⟨_, F₂.keep _ _ (X₁ _ _ (by k_is)), rfl⟩
  refine getMethod_builtin (T := "re.Pattern") (id := "re.Pattern.sub") (hT _) plainAttrs_pat slot_pat_sub type_pat_sub (fun a e => by cases e; exact ⟨_, F₂.keep _ _ (X₁ _ _ (by k_is)), rfl⟩) ?_
  k_steps
  have hsz : (x.map (·.toNat)).size = x.size := Array.size_map ..
  have hlen' : (restL (x.map (·.toNat)) (find1 (x.map (·.toNat)) x.size) (fun _ => 1) [46, 46] x.size (x.size + 1) 0).length ≤ 1000000 := by
    unfold quoL at hlen; rw [hsz] at hlen; exact hlen
  refine call_meets slot_pat_sub (hT _) entry_pat_sub (args_pat_sub _ _ _) (meets_sub_bytes hx hlen') ⟨hp.keeps F₂.keep, fun h₃ c t₃ k₃ hk₃ hc => ?_⟩
  exact hret _ _ _ (fun b o e => hk₃ b o (F₂.keep b o e)) ⟨c, t₃, rfl, by unfold quoL; rw [hsz]; exact hc⟩
end

section
open PySem PySem.W PyProof.Rows PySem.Calls PySem.Spec
set_option linter.unusedVariables false
set_option maxRecDepth 100000
set_option maxHeartbeats 4000000
theorem hideG_M7 {P : Prop} (h : ∀ G : Prop, (P → G) → G) : P := h P id
local macro_rules | `(tactic| walk_at $k:str) => if ["exec For Name Call cons nil", "call builtin:len", "subscriptTail Name Slice str ref", "call type:range", "call builtin:str.join", "call builtin:str.encode"].contains k.getString then `(tactic| (refine stop_out ?_)) else Lean.Macro.throwUnsupported
local macro_rules | `(tactic| walk_at "call ref") => `(tactic| ((with_reducible show wpAny _ _ (call (Value.ref 38) _) _ _ _); refine stop_out ?_))
local macro_rules | `(tactic| walk_at "call ref") => `(tactic| ((with_reducible show wpAny _ _ (call (Value.ref 97) _) _ _ _); refine stop_out ?_))
local macro_rules | `(tactic| walk_at "call ref") => `(tactic| ((with_reducible show wpAny _ _ (call (Value.ref 104) _) _ _ _); refine stop_out ?_))
theorem kf7 (w : World) : hd.heap_39 w.params = hd.heap_39 w.params ∧ PySem.Challenge.rw_wk0002_01.row.prog = PySem.Challenge.rw_wk0002_01.row.prog := by w_top off; k_fill; exact ⟨rfl, rfl⟩
/-- a part of the ring -/
def cutL (R : List Nat) (a b : Nat) : List Nat := (R.drop a).take (b - a)
/-- where a row ends -/
def untl (os : List Nat) (size k : Nat) : Nat := if k + 1 < os.length then os.getD (k + 1) 0 else os.getD 0 0 + size
def rowAt (R os : List Nat) (size turn k : Nat) : List Nat := cutL R (os.getD k 0 + turn) (untl os size k + turn)
def rowsOf (R os : List Nat) (size turn : Nat) (n : Nat) : List (List Nat) := (List.range n).map (rowAt R os size turn)
def dotted? : List Nat → Bool
  | 46 :: _ => true
  | _ => false
def dotsOf (rows : List (List Nat)) : Nat := (rows.filter dotted?).length
structure MetOK (R os : List Nat) (rs : List Int) (size turn : Nat) (e : List Nat) : Prop where
  len : R.length = 3 * size
  chars : ∀ c ∈ R, c = 45 ∨ c = 46
  size0 : 0 < size
  size1 : size < 49
  os0 : 0 < os.length
  os1 : os.length < 8
  inc : ∀ k, k + 1 < os.length → os.getD k 0 < os.getD (k + 1) 0
  top : ∀ x ∈ os, x < size
  ruler : rs.takeWhile (· != 127) = (List.range (os.length - 1)).map fun k => ((os.getD (k + 1) 0 : Int) - os.getD k 0)
  turn1 : turn < size
  ends : e = [10] ∨ e = [13] ∨ e = [13, 10]
section
variable {prog : Program} {w : World} {A : Around} {E : Value → Shared → Prop} {s : Shared} {value slice : Expr} {R : List Nat} {t : Tok} {h₀ : Heap} {L : Addr} {m : Str → Option Value} {news : List (Addr × Obj)} {Q : Value → Shared → Prop}
theorem slice_cut {i j : Int} {ui uj : Tok} (a b : Nat) (hF : Fr h₀ L s.heap m) (hN : News h₀ L s.heap news) (hi : i = a) (hj : j = b) (hab : a ≤ b) (hb : b ≤ R.length) (hz : R.length ≤ 1000) (h : ∀ h' t' k, Fr h₀ L h' m → News h₀ L h' news → Q (.str ⟨(cutL R a b).toArray⟩ t') { s with heap := h', toks := k })
    (hs : subscripted slice false (.str ⟨R.toArray⟩ t) (.ref s.heap.objs.size) = operate [.ref s.heap.objs.size, .str ⟨R.toArray⟩ t] (getItem (.str ⟨R.toArray⟩ t) (.ref s.heap.objs.size)) := by with_unfolding_all rfl)
    (ht : ∀ r, letTemporaryGo value (.str ⟨R.toArray⟩ t) r = pure () := by intro _; with_unfolding_all rfl) :
    wpAny (model prog w) A (subscriptTail value slice (.str ⟨R.toArray⟩ t) (.ref s.heap.objs.size)) Q E { s with heap := s.heap.push { cls := .type "slice", data := .fields #[.int i ui, .int j uj, .none] } } := by
  refine slice_strN_ss hF hN (fun h' t' k a1 a2 => ?_) hs ht (by simp only [PySem.Str.length, List.size_toArray, sizeLine_eq]; omega)
  have e : Txt.slice ⟨R.toArray⟩ (some i) (some j) = ⟨(cutL R a b).toArray⟩ := by
    subst hi hj
    exact StrLaws.sliceText_nat ⟨R.toArray⟩ hab (by simpa [PySem.Str.length] using hb)
  rw [e]
  exact h h' t' k a1 a2
theorem slice_to {j : Int} {uj : Tok} (b : Nat) (hF : Fr h₀ L s.heap m) (hN : News h₀ L s.heap news) (hj : j = b) (hb : b ≤ R.length) (hz : R.length ≤ 1000) (h : ∀ h' t' k, Fr h₀ L h' m → News h₀ L h' news → Q (.str ⟨(R.take b).toArray⟩ t') { s with heap := h', toks := k })
    (hs : subscripted slice false (.str ⟨R.toArray⟩ t) (.ref s.heap.objs.size) = operate [.ref s.heap.objs.size, .str ⟨R.toArray⟩ t] (getItem (.str ⟨R.toArray⟩ t) (.ref s.heap.objs.size)) := by with_unfolding_all rfl)
    (ht : ∀ r, letTemporaryGo value (.str ⟨R.toArray⟩ t) r = pure () := by intro _; with_unfolding_all rfl) :
    wpAny (model prog w) A (subscriptTail value slice (.str ⟨R.toArray⟩ t) (.ref s.heap.objs.size)) Q E { s with heap := s.heap.push { cls := .type "slice", data := .fields #[.none, .int j uj, .none] } } := by
  refine slice_strN_ns hF hN (fun h' t' k a1 a2 => ?_) hs ht (by simp only [PySem.Str.length, List.size_toArray, sizeLine_eq]; omega)
  have e : Txt.slice ⟨R.toArray⟩ none (some j) = ⟨(R.take b).toArray⟩ := by
    subst hj
    exact (StrLaws.sliceText_to (x := ⟨R.toArray⟩) (j := (b : Int)) ⟨by omega, by simpa using hb⟩).trans (by simp)
  rw [e]
  exact h h' t' k a1 a2
theorem slice_from {i : Int} {ui : Tok} (a : Nat) (hF : Fr h₀ L s.heap m) (hN : News h₀ L s.heap news) (hi : i = a) (hb : a ≤ R.length) (hz : R.length ≤ 1000) (h : ∀ h' t' k, Fr h₀ L h' m → News h₀ L h' news → Q (.str ⟨(R.drop a).toArray⟩ t') { s with heap := h', toks := k })
    (hs : subscripted slice false (.str ⟨R.toArray⟩ t) (.ref s.heap.objs.size) = operate [.ref s.heap.objs.size, .str ⟨R.toArray⟩ t] (getItem (.str ⟨R.toArray⟩ t) (.ref s.heap.objs.size)) := by with_unfolding_all rfl)
    (ht : ∀ r, letTemporaryGo value (.str ⟨R.toArray⟩ t) r = pure () := by intro _; with_unfolding_all rfl) :
    wpAny (model prog w) A (subscriptTail value slice (.str ⟨R.toArray⟩ t) (.ref s.heap.objs.size)) Q E { s with heap := s.heap.push { cls := .type "slice", data := .fields #[.int i ui, .none, .none] } } := by
  refine slice_strN_sn hF hN (fun h' t' k a1 a2 => ?_) hs ht (by simp only [PySem.Str.length, List.size_toArray, sizeLine_eq]; omega)
  have e : Txt.slice ⟨R.toArray⟩ (some i) none = ⟨(R.drop a).toArray⟩ := by
    subst hi
    refine (StrLaws.sliceText_from (x := ⟨R.toArray⟩) (i := (a : Int)) ⟨by omega, by simpa using hb⟩).trans ?_
    have : ((R.toArray.toList.length : Int) - (a : Int)).toNat = R.length - a := by simp
    rw [this]
    simp [List.take_of_length_le]
  rw [e]
  exact h h' t' k a1 a2
end
theorem IntsNat.get {vs : List Value} {os : List Nat} (h : IntsAre vs (os.map Int.ofNat)) : (os.map Int.ofNat).getD k 0 = (os.getD k 0 : Int) := by
  simp only [List.getD_eq_getElem?_getD, List.getElem?_map]
  cases os[k]? <;> rfl
def lineAt (R os : List Nat) (size turn j : Nat) : List Nat := cutL R (os.getD j 0 + turn) (os.getD 0 0 + turn + size)
def rowsS (R os : List Nat) (size turn n : Nat) : List PySem.Str := (rowsOf R os size turn n).map fun r => ⟨r.toArray⟩
theorem rowsOf_succ (R os : List Nat) (size turn n : Nat) : rowsOf R os size turn (n + 1) = rowsOf R os size turn n ++ [rowAt R os size turn n] := by simp [rowsOf, List.range_succ]
theorem cutL_take (R : List Nat) {a b c : Nat} (h : b ≤ c) : (cutL R a c).take (b - a) = cutL R a b := by
  unfold cutL; rw [List.take_take]; congr 1; omega
theorem cutL_drop (R : List Nat) {a b c : Nat} (h : a ≤ b) : (cutL R a c).drop (b - a) = cutL R b c := by
  unfold cutL; rw [List.drop_take, List.drop_drop, show a + (b - a) = b by omega, show c - a - (b - a) = c - b by omega]
theorem cutL_length {R : List Nat} {a b : Nat} (h : b ≤ R.length) : (cutL R a b).length = b - a := by
  unfold cutL; rw [List.length_take, List.length_drop]; omega
theorem line_take (R : List Nat) {os : List Nat} {size turn j : Nat} (hj : j + 1 < os.length) (h : os.getD (j + 1) 0 < size) : (lineAt R os size turn j).take (os.getD (j + 1) 0 - os.getD j 0) = rowAt R os size turn j := by
  have e : untl os size j = os.getD (j + 1) 0 := if_pos hj
  have e2 : os.getD (j + 1) 0 - os.getD j 0 = (os.getD (j + 1) 0 + turn) - (os.getD j 0 + turn) := by omega
  unfold lineAt rowAt
  rw [e, e2, cutL_take R (by omega)]
theorem line_drop (R : List Nat) {os : List Nat} {size turn j : Nat} (h : os.getD j 0 ≤ os.getD (j + 1) 0) : (lineAt R os size turn j).drop (os.getD (j + 1) 0 - os.getD j 0) = lineAt R os size turn (j + 1) := by
  have e2 : os.getD (j + 1) 0 - os.getD j 0 = (os.getD (j + 1) 0 + turn) - (os.getD j 0 + turn) := by omega
  unfold lineAt
  rw [e2, cutL_drop R (by omega)]
theorem line_last (R : List Nat) {os : List Nat} {size turn : Nat} (h : 0 < os.length) : lineAt R os size turn (os.length - 1) = rowAt R os size turn (os.length - 1) := by
  have e : untl os size (os.length - 1) = os.getD 0 0 + size := if_neg (by omega)
  unfold lineAt rowAt
  rw [e]
  congr 1; omega
theorem getD_top {os : List Nat} {size : Nat} (h : ∀ x ∈ os, x < size) (hz : 0 < size) (k : Nat) : os.getD k 0 < size := by
  rw [List.getD_eq_getElem?_getD]
  cases e : os[k]? with
  | none => exact hz
  | some x => exact h x (List.mem_of_getElem? e)
def asS (rows : List (List Nat)) : List PySem.Str := rows.map fun r => ⟨r.toArray⟩
theorem glue_join (e : List Nat) : ∀ rows : List (List Nat), (PySem.Str.join ⟨e.toArray⟩ (asS rows)).cps.toList = joinA e rows
  | [] => rfl
  | [r] => by simp [asS, PySem.Str.join, joinA]
  | r :: r' :: rs => by
    have ih := glue_join e (r' :: rs)
    show (((⟨r.toArray⟩ : PySem.Str) ++ (⟨e.toArray⟩ : PySem.Str)) ++ PySem.Str.join ⟨e.toArray⟩ (asS (r' :: rs))).cps.toList = _
    rw [Str.cps_append, Str.cps_append, Array.toList_append, Array.toList_append, ih]
    rfl
theorem txt_join (e : List Nat) (rows : List (List Nat)) : Txt.join ⟨e.toArray⟩ (asS rows) = ⟨(joinA e rows).toArray⟩ := by
  apply Str.ext'
  apply Array.ext'
  show (Builtin.Str.glued ⟨e.toArray⟩ (asS rows)).cps.toList = _
  rw [StrLaws.glued_eq_join, glue_join]
theorem asS_sum {rows : List (List Nat)} {b : Nat} (h : ∀ r ∈ rows, r.length ≤ b) : ((asS rows).map (·.length)).sum ≤ rows.length * b := by
  induction rows with
  | nil => exact Nat.zero_le _
  | cons r rs ih =>
    have h1 := h r (.head _)
    have h2 := ih fun q hq => h q (.tail _ hq)
    show (r.toArray.size + ((asS rs).map (·.length)).sum) ≤ (rs.length + 1) * b
    rw [List.size_toArray, Nat.succ_mul]; omega
theorem joinA_length {e : List Nat} {b : Nat} : ∀ {rows : List (List Nat)}, (∀ r ∈ rows, r.length ≤ b) → (joinA e rows).length ≤ rows.length * (b + e.length)
  | [], _ => Nat.zero_le _
  | [r], h => by
    have h1 := h r (.head _)
    show r.length ≤ 1 * _
    omega
  | r :: r' :: rs, h => by
    have h1 := h r (.head _)
    have h2 := joinA_length (e := e) (rows := r' :: rs) fun q hq => h q (.tail _ hq)
    show (r ++ e ++ joinA e (r' :: rs)).length ≤ (rs.length + 1 + 1) * _
    rw [List.length_append, List.length_append, Nat.succ_mul]
    have h3 : (r' :: rs).length = rs.length + 1 := rfl
    rw [h3] at h2
    omega
theorem joinA_mem {e : List Nat} {c : Nat} : ∀ {rows : List (List Nat)}, c ∈ joinA e rows → c ∈ e ∨ ∃ r ∈ rows, c ∈ r
  | [], h => nomatch h
  | [r], h => .inr ⟨r, .head _, h⟩
  | r :: r' :: rs, h => by
    have h : c ∈ r ++ e ++ joinA e (r' :: rs) := h
    rcases List.mem_append.mp h with h | h
    · rcases List.mem_append.mp h with h | h
      · exact .inr ⟨r, .head _, h⟩
      · exact .inl h
    · rcases joinA_mem (rows := r' :: rs) h with h | ⟨q, hq, h⟩
      · exact .inl h
      · exact .inr ⟨q, .tail _ hq, h⟩
theorem fixL_joinA {e : List Nat} (he : e = [10] ∨ e = [13] ∨ e = [13, 10]) (rows : List (List Nat)) (h : ∀ r ∈ rows, r ≠ [] ∧ ∀ c ∈ r, c ≠ 10 ∧ c ≠ 13) : fixL (joinA e rows).toArray = joinA [13, 10] rows := by
  rw [← fx_joinA he rows h]
  exact fix_eq _ 0 _ rfl (Nat.zero_le _) (by simp)
theorem quoL_joinA (x : Array Nat) (rows : List (List Nat)) (hx : x.toList = joinA [13, 10] rows) (h : ∀ r ∈ rows, r ≠ [] ∧ ∀ c ∈ r, c ≠ 10) : quoL x = joinA [13, 10] (rows.map dotted) := by
  rw [← qd_joinA rows h, ← hx]
  exact quo_eq (x := x) _ 0 _ rfl (Nat.zero_le _) (by simp)
theorem untl_gt {os : List Nat} {size k : Nat} (hk : k < os.length) (hinc : ∀ k, k + 1 < os.length → os.getD k 0 < os.getD (k + 1) 0) (htop : ∀ x ∈ os, x < size) (hz : 0 < size) : os.getD k 0 < untl os size k ∧ untl os size k < 2 * size := by
  unfold untl
  have h1 := getD_top htop hz (k + 1)
  have h2 := getD_top htop hz k
  have h3 := getD_top htop hz 0
  split
  · have := hinc k (by assumption); omega
  · omega
theorem row_facts {R os : List Nat} {size turn : Nat} (hR : R.length = 3 * size) (hch : ∀ c ∈ R, c = 45 ∨ c = 46) (hz : 0 < size) (hinc : ∀ k, k + 1 < os.length → os.getD k 0 < os.getD (k + 1) 0) (htop : ∀ x ∈ os, x < size) (ht : turn < size) :
    ∀ r ∈ rowsOf R os size turn os.length, r ≠ [] ∧ r.length ≤ 2 * size ∧ ∀ c ∈ r, c = 45 ∨ c = 46 := by
  intro r hr
  obtain ⟨k, hk, rfl⟩ := List.mem_map.mp hr
  have hk := List.mem_range.mp hk
  have := untl_gt hk hinc htop hz
  have hl : (rowAt R os size turn k).length = untl os size k + turn - (os.getD k 0 + turn) := cutL_length (by omega)
  refine ⟨fun q => ?_, by omega, fun c hc => hch c (List.mem_of_mem_drop (List.mem_of_mem_take hc))⟩
  rw [q] at hl
  simp only [List.length_nil] at hl
  omega
theorem bytes_back (l : List Nat) (h : ∀ c ∈ l, c < 128) : ((l.toArray.map (·.toUInt8)).map (·.toNat)).toList = l := by
  simp only [Array.toList_map, List.map_map]
  conv => rhs; rw [← List.map_id l]
  refine List.map_congr_left fun c hc => ?_
  have := h c hc
  simp [Nat.mod_eq_of_lt (show c < 256 by omega)]
theorem dotted_length (r : List Nat) : (dotted r).length ≤ r.length + 1 := by
  unfold dotted; split <;> simp
theorem item_head (c : Nat) (tl : List Nat) : Txt.item ⟨(c :: tl).toArray⟩ 0 = ⟨#[c]⟩ := item_meets (Int.le_refl 0) (by simp)
theorem item_dot (c : Nat) (tl : List Nat) : (Txt.item ⟨(c :: tl).toArray⟩ 0 == Str.ofString ".") = (c == 46) := by
  rw [item_head]
  by_cases h : c = 46
  · subst h; rfl
  · rw [show (c == 46) = false by simpa using h]
    have : (⟨#[c]⟩ : PySem.Str) ≠ Str.ofString "." := fun q => by
      have e : (Str.ofString ".").cps = #[46] := by decide +kernel
      have := congrArg PySem.Str.cps q
      rw [e] at this
      simp at this
      exact h this
    simpa using this
theorem dot_row (tl : List Nat) : (Str.ofString "." ++ ⟨(46 :: tl).toArray⟩ : PySem.Str) = ⟨(dotted (46 :: tl)).toArray⟩ := by
  apply Str.ext'
  apply Array.ext'
  rw [Str.cps_append, Array.toList_append]
  rfl
theorem dotted_no {c : Nat} (h : c ≠ 46) (tl : List Nat) : dotted (c :: tl) = c :: tl := by
  unfold dotted; split
  · rename_i heq; cases heq; exact absurd rfl h
  · rfl
theorem bytes_of {b : Array UInt8} {l : List Nat} (h : natsOf b = l) : b = l.toArray.map (·.toUInt8) := by
  subst h
  apply Array.ext'
  simp only [Array.toList_map, natsOf, List.map_map]
  conv => lhs; rw [← List.map_id b.toList]
  exact List.map_congr_left fun c hc => by simp
theorem dots_length : ∀ rows : List (List Nat), (joinA [13, 10] (rows.map dotted)).length = (joinA [13, 10] rows).length + dotsOf rows := by
  have one : ∀ r : List Nat, (dotted r).length = r.length + dotsOf [r] := fun r => by
    unfold dotted dotsOf dotted?
    split <;> rename_i h
    · simp [List.filter]
    · cases r with
      | nil => simp [List.filter]
      | cons c t =>
        by_cases hc : c = 46
        · subst hc; exact absurd rfl (h t)
        · simp [List.filter]
          try (split <;> rename_i q <;> first | rfl | (cases q; done) | (cases q; exact absurd rfl hc))
  have two : ∀ (r : List Nat) rs, dotsOf (r :: rs) = dotsOf [r] + dotsOf rs := fun r rs => by
    unfold dotsOf
    rw [← List.length_append, ← List.filter_append]; rfl
  intro rows
  induction rows with
  | nil => rfl
  | cons r rs ih =>
    cases rs with
    | nil => exact one r
    | cons r' rs =>
      show (dotted r ++ [13, 10] ++ joinA [13, 10] ((r' :: rs).map dotted)).length = (r ++ [13, 10] ++ joinA [13, 10] (r' :: rs)).length + _
      rw [two]
      simp only [List.length_append]
      have := one r
      omega
theorem duePerm {h₀ h : Heap} {L : Addr} {own : List (Addr × Obj)} {p : Addr × Obj} (N : News h₀ L h (p :: own)) : News h₀ L h (own ++ [p]) := fun q hq => N q (by
  rcases List.mem_append.mp hq with h | h
  · exact .tail _ h
  · rw [List.mem_singleton.mp h]; exact .head _)
theorem dueSnoc {R os : List Nat} {size turn i : Nat} {vs : List Value} {r : List Nat} {t : Tok} (h : StrsAre vs (asS ((rowsOf R os size turn i).map dotted))) (hr : rowAt R os size turn i = r) : StrsAre (vs ++ [.str ⟨(dotted r).toArray⟩ t]) (asS ((rowsOf R os size turn (i + 1)).map dotted)) := by
  rw [rowsOf_succ, List.map_append, hr]
  have e : asS ((rowsOf R os size turn i).map dotted ++ [r].map dotted) = asS ((rowsOf R os size turn i).map dotted) ++ [⟨(dotted r).toArray⟩] := by simp [asS]
  rw [e]
  exact StrsAre.snoc h _ _
theorem c_met (w mean mg mb) (R os : List Nat) (rs : List Int) (vs ws : List Value) (size turn : Nat) (e : List Nat) (lo lr : Addr) (tr tt te : Tok) : CtG w mean mg mb 137 [.str ⟨R.toArray⟩ tr, .ref lo, .ref lr, .int turn tt, .str ⟨e.toArray⟩ te] 5 100
    (fun h => h.IsList lo vs.toArray ∧ IntsAre vs (os.map Int.ofNat) ∧ h.IsList lr ws.toArray ∧ IntsAre ws rs ∧ MetOK R os rs size turn e)
    (fun v h => ∃ t, v = .int (dotsOf (rowsOf R os size turn os.length)) t) := by
  intro dp un gd cn cs a ccd cl outer A₀ base h₀ L m s Q E B F X T hk hpre hdp hun hb hret
  refine hideG_M7 fun gG gk => ?_
  obtain ⟨hlo, hio, hlr, hir, hok⟩ := hpre
  refine gk ?_
  clear gk gG
  refine wpAny_call ?_
  k_dflt walk_at "ct_enter"
  rename_i L₁ hA FA NA B₁ X₁ T₁
  k_steps
  refine stop_in ?_
  refine hideG_M7 fun gG gk => ?_
  obtain ⟨hRl, hch, hz0, hz1, ho0, ho1, hinc, htop, hrul, ht1, hend⟩ := hok
  refine gk ?_
  clear gk gG
  have hvl := hio.length
  simp only [List.length_map] at hvl
  replace hvl : id (vs.length = os.length) := hvl
  refine P.len_str ?_ ?_
  · simp only [PySem.Str.length, List.size_toArray]; omega
  have eL : ((PySem.Str.length ⟨R.toArray⟩ : Nat) : Int) = 3 * (size : Int) := by simp only [PySem.Str.length, List.size_toArray]; omega
  rw [eL]
  k_steps
  with_reducible rename Fr _ _ _ _ => F₁
  with_reducible rename News _ _ _ _ => N₁
  refine stop_in ?_
  have e0 : (List.map Int.ofNat os).getD (Int.toNat 0) 0 = (os.getD 0 0 : Int) := by
    cases os with
    | nil => rfl
    | cons a r => rfl
  have e3 : (3 * (size : Int)).fdiv 3 = size := by
    rw [Int.fdiv_eq_ediv_of_nonneg _ (by decide)]; omega
  replace e3 : id ((3 * (size : Int)).fdiv 3 = size) := e3
  have ho : os.getD 0 0 < size := by
    cases os with
    | nil => simpa using hz0
    | cons a r => exact htop _ (.head _)
  refine slice_cut (os.getD 0 0 + turn) (os.getD 0 0 + turn + size) F₁ N₁ (by rw [e0]; omega) (by rw [e0, show (3 * (size : Int)).fdiv 3 = size from e3]; omega) (by omega) (by omega) (by omega) fun h₂ t₂ k₂ F₂ N₂ => ?_
  clear F₁ N₁
  k_steps
  refine stop_in ?_
  refine wpAny_For ?_
  k_steps
  with_reducible rename Fr _ _ _ _ => F₃
  with_reducible rename News _ _ _ _ => N₃
  rename_i l₁ _ _ h₃
  refine stop_in ?_
  have hL : s.heap.objs.size ≤ L₁ := F₃.above
  have nl : s.heap.get? l₁ = none := (N₃ _ (.head _)).2.2
  have hll : l₁ ≠ L₁ := (N₃ _ (.head _)).2.1
  have hlo₁ := (N₃ _ (.head _)).1
  refine hideG_M7 fun gG gk => ?_
  obtain ⟨orr, horr, _⟩ := id hlr
  refine gk ?_
  clear gk gG
  have hM : ∀ b, (b = L₁ ∨ b = l₁) → b < h₃.objs.size ∧ b ≠ mainGlobals ∧ b ≠ lr := by
    rintro b (rfl | rfl)
    · exact ⟨F₃.ns.lt, Nat.ne_of_gt (Nat.lt_of_lt_of_le T₁.g.lt hL), Nat.ne_of_gt (Nat.lt_of_lt_of_le (Heap.lt_size horr) hL)⟩
    · refine ⟨Heap.lt_size hlo₁, fun q => ?_, fun q => by rw [q, horr] at nl; cases nl⟩
      refine hideG_M7 fun gG gk => ?_
      obtain ⟨og, _, _, hg, _⟩ := T₁.g
      refine gk ?_
      clear gk gG
      rw [q, hg] at nl; cases nl
  have hNl : (rs.takeWhile (· != 127)).length = os.length - 1 := by rw [hrul]; simp
  refine grp_fin (f := fun n => (os.getD (os.length - 1 - 1 - n + 1) 0 : Int) - os.getD (os.length - 1 - 1 - n) 0) (Mut := fun b => b = L₁ ∨ b = l₁) (D := fun n => True) w mean mg mb (X₁.keeps F₃.keep) (T₁.keeps F₃.keep) rfl (by k_room) (hlr.at fun o e => F₃.keep _ o e) hir ?hz ?hf hM fun h₄ tk₄ G hkeep hG hga => ?_
  case hz =>
    intro z hz
    rw [hrul] at hz
    refine hideG_M7 fun gG gk => ?_
    obtain ⟨k, hk, rfl⟩ := List.mem_map.mp hz
    refine gk ?_
    clear gk gG
    have := hinc k (by have := List.mem_range.mp hk; omega)
    omega
  case hf =>
    intro j hj
    rw [hNl] at hj ⊢
    have : os.length - 1 - 1 - (os.length - 1 - 1 - j) = j := by omega
    rw [hrul, this, List.getD_eq_getElem?_getD (l := List.map _ _), List.getElem?_map, List.getElem?_range hj]
    rfl
  rw [hNl] at hga
  refine wpAny_pyIter_gen hga.gen ?_
  have F₄ := F₃.after hkeep
  refine hideG_M7 fun gG gk => ?_
  obtain ⟨_, hcn, _⟩ := id T₁.nolimit
  refine gk ?_
  clear gk gG
  have hc := hcn.lt
  refine gen_forLoop (N := os.length - 1) (St := fun k h => ∃ (t tz : Tok) (m0 : Str → Option Value) (vs' : List Value) (c : Nat), Fr s.heap L₁ h (fun y => if y = Str.ofString "line" then some (.str ⟨(lineAt R os size turn (os.length - 1 - k)).toArray⟩ t) else if y = Str.ofString "rows" then some (.ref l₁) else if y = Str.ofString "ring" then some (.str ⟨R.toArray⟩ tr) else if y = Str.ofString "order" then some (.ref lo) else if y = Str.ofString "turn" then some (.int turn tt) else if y = Str.ofString "end" then some (.str ⟨e.toArray⟩ te) else if y = Str.ofString "size" then some (.int size tz) else m0 y) ∧ h.get? l₁ = some (W.listOf vs'.toArray c) ∧ StrsAre vs' (rowsS R os size turn (os.length - 1 - k)))
    rfl rfl rfl (by k_room) ?hcs (fun n => trivial) ?hMa ?hMc ?hstab ?turn ?done (hG hb) hga (by trivial) ?hst
  case hcs => exact Nat.lt_trans (Nat.lt_of_lt_of_le hc hL) F₃.ns.lt
  case hMa => rintro (h | h); exact Nat.lt_irrefl _ (Nat.lt_of_lt_of_le (h ▸ F₃.ns.lt) (Nat.le_succ _)); exact Nat.lt_irrefl _ (Nat.lt_of_lt_of_le (h ▸ Heap.lt_size hlo₁) (Nat.le_succ _))
  case hMc =>
    rintro (q | q)
    · exact Nat.lt_irrefl _ (Nat.lt_of_lt_of_le (q ▸ hc) hL)
    · obtain ⟨og, _, _, hg, _⟩ := hcn
      rw [← q, hg] at nl; cases nl
  case hstab =>
    intro n h h' hh1 hk'
    refine hideG_M7 fun gG gk => ?_
    obtain ⟨t, tz, m0, vs', c', Fh, hv, hi'⟩ := hh1
    refine gk ?_
    clear gk gG
    have hl₁ := Heap.lt_size hlo₁
    exact ⟨t, tz, m0, vs', c', ⟨Fh.ns.at' fun o e => hk' _ o F₃.ns.lt e, fun b o e => hk' b o (Nat.lt_of_lt_of_le (Heap.lt_size e) (Nat.le_trans hL (Nat.le_of_lt F₃.ns.lt))) (Fh.keep b o e), Fh.above⟩, hk' _ _ hl₁ hv, hi'⟩
  case hst =>
    rw [show (3 * (size : Int)).fdiv 3 = size from e3] at F₄
    dsimp only
    rw [Nat.sub_self]
    exact ⟨_, _, _, [], 0, keep1 (a := Str.ofString "line") (keep1 (a := Str.ofString "rows") (keep1 (a := Str.ofString "ring") (keep1 (a := Str.ofString "order") (keep1 (a := Str.ofString "turn") (keep1 (a := Str.ofString "end") (keep1 (a := Str.ofString "size") F₄ rfl) rfl) rfl) rfl) rfl) rfl) rfl, hkeep _ _ hlo₁, .nil⟩
  case turn =>
    intro n t₀ s₁ hn hh2 hh3
    refine hideG_M7 fun gG gk => ?_
    obtain ⟨h₅, tk₅, G₅, rfl, hGb⟩ := hh2
    obtain ⟨t, tz, m0, vs', c', F₅, hv', hi'⟩ := hh3
    have hlen := hi'.length
    simp only [rowsS, rowsOf, List.length_map, List.length_range] at hlen
    obtain ⟨own, N₅, ho₅, hsub⟩ := own_ledger F₅ hv' nl hll
    have KO : ∀ (s' : Shared) (m' : Str → Option Value) (news : List (Addr × Obj)), Fr s.heap L₁ s'.heap m' → News s.heap L₁ s'.heap news → (∀ p ∈ own, p ∈ news) → Kept (fun b => b = L₁ ∨ b = l₁) { s with heap := h₅, toks := tk₅, gens := G₅ } s' := fun s' m' news F' N' hs => kept_of (s := { s with heap := h₅, toks := tk₅, gens := G₅ }) F₅ F' N' hs hsub
    obtain ⟨j, hj⟩ : ∃ j, j = os.length - 1 - (n + 1) := ⟨_, rfl⟩
    refine gk ?_
    clear gk gG
    have hjn : os.length - 1 - 1 - n = j := by omega
    have hjn' : os.length - 1 - n = j + 1 := by omega
    have hj2 : j + 1 < os.length := by omega
    have hgap := hinc j hj2
    rw [hjn]
    rw [← hj] at F₅ hi' hlen
    have htj := getD_top htop hz0 (j + 1)
    have hll5 : (lineAt R os size turn j).length = os.getD 0 0 + turn + size - (os.getD j 0 + turn) := cutL_length (by omega)
    show wpAny _ _ _ _ _ _
    k_fold
    k_steps
    with_reducible rename Fr _ _ _ _ => F₆
    with_reducible rename News _ _ _ _ => N₆
    refine stop_in ?_
    refine slice_to (os.getD (j + 1) 0 - os.getD j 0) F₆ N₆ (by omega) (by omega) (by omega) fun h₇ t₇ k₇ F₇ N₇ => ?_
    rw [line_take R hj2 htj]
    clear F₆ N₆
    k_steps
    with_reducible rename Fr _ _ _ _ => F₈
    with_reducible rename News _ _ _ _ => N₈
    refine stop_in ?_
    refine slice_from (os.getD (j + 1) 0 - os.getD j 0) F₈ N₈ (by omega) (by omega) (by omega) fun h₉ t₉ k₉ F₉ N₉ => ?_
    rw [line_drop R (by omega)]
    clear F₈ N₈
    k_steps
    with_reducible rename Fr _ _ _ _ => Fa
    with_reducible rename News _ _ _ _ => Na
    refine stop_in ?_
    dsimp only
    rw [hjn']
    exact ⟨⟨_, _, rfl⟩, KO _ _ _ Fa Na (fun p hp => .tail _ hp), ⟨_, _, _, vs' ++ [.str ⟨(rowAt R os size turn j).toArray⟩ t₇], _, keep1 (a := Str.ofString "line") (keep1 (a := Str.ofString "rows") (keep1 (a := Str.ofString "ring") (keep1 (a := Str.ofString "order") (keep1 (a := Str.ofString "turn") (keep1 (a := Str.ofString "end") (keep1 (a := Str.ofString "size") Fa rfl) rfl) rfl) rfl) rfl) rfl) rfl, (Na _ (.head _)).1.trans (congrArg (fun z => some (W.listOf z _)) (by simp)), by rw [rowsS, rowsOf_succ, List.map_append]; exact StrsAre.snoc hi' _ _⟩, trivial⟩
  case done =>
    intro hh4 s₁ hh5 hh6
    refine hideG_M7 fun gG gk => ?_
    clear hh4
    obtain ⟨h₅, tk₅, G₅, rfl, hGb⟩ := hh5
    obtain ⟨t, tz, m0, vs', c', F₅, hv', hi'⟩ := hh6
    rw [Nat.sub_zero] at F₅ hi'
    rw [line_last R ho0] at F₅
    have hlen := hi'.length
    simp only [rowsS, rowsOf, List.length_map, List.length_range] at hlen
    obtain ⟨own, N₅, ho₅, hsub⟩ := own_ledger F₅ hv' nl hll
    refine gk ?_
    clear gk gG
    dsimp only
    k_steps
    with_reducible rename Fr _ _ _ _ => F₆
    with_reducible rename News _ _ _ _ => N₆
    refine stop_in ?_
    have hrf := row_facts hRl hch hz0 hinc htop ht1
    refine hideG_M7 fun gG gk => ?_
    obtain ⟨rows, hrows⟩ : ∃ rows, rows = rowsOf R os size turn os.length := ⟨_, rfl⟩
    refine gk ?_
    clear gk gG
    rw [← hrows] at hrf
    have hrl : rows.length = os.length := by rw [hrows]; simp [rowsOf]
    have hi₆ : StrsAre (vs' ++ [Value.str ⟨(rowAt R os size turn (os.length - 1)).toArray⟩ t]) (asS rows) := by
      have e1 : asS rows = rowsS R os size turn (os.length - 1) ++ [⟨(rowAt R os size turn (os.length - 1)).toArray⟩] := by
        rw [hrows, show os.length = os.length - 1 + 1 by omega, rowsOf_succ]
        simp [asS, rowsS]
      rw [e1]
      exact StrsAre.snoc hi' _ _
    have hsum := asS_sum (b := 2 * size) (rows := rows) fun r hr => (hrf r hr).2.1
    have hle : e.length ≤ 2 := by rcases hend with rfl | rfl | rfl <;> decide
    have hjl : ∀ e', e'.length ≤ 2 → (joinA e' rows).length ≤ 1000 := fun e' he' => by
      have h1 := joinA_length (e := e') (b := 2 * size) (rows := rows) fun r hr => (hrf r hr).2.1
      have h2 : rows.length * (2 * size + e'.length) ≤ 7 * 98 := Nat.mul_le_mul (by omega) (by omega)
      omega
    have h2 : rows.length * (2 * size) ≤ 7 * 98 := Nat.mul_le_mul (by omega) (by omega)
    have h3 : (asS rows).length = rows.length := by simp [asS]
    refine join_listW (x := ⟨e.toArray⟩) (ys := asS rows) (News.isList N₆ (.head _)) (by simpa using hi₆) (by show e.toArray.size ≤ 16; rw [List.size_toArray]; omega) (by omega) fun t₇ k₇ => ?_
    rw [txt_join]
    have hr7 : rows.length ≤ 7 := by omega
    replace hrl : id (rows.length = os.length) := hrl
    replace h3 : id ((asS rows).length = rows.length) := h3
    k_steps
    with_reducible rename Fr _ _ _ _ => F₇
    with_reducible rename News _ _ _ _ => N₇
    refine stop_in ?_
    have hfx := fixL_joinA hend rows fun r hr => ⟨(hrf r hr).1, fun c hc => by have := (hrf r hr).2.2 c hc; omega⟩
    have hja := hjl e hle
    have hjb := hjl [13, 10] (by decide)
    refine c_fix w mean mg mb ⟨(joinA e rows).toArray⟩ _ _ _ _ _ _ _ _ _ _ _ _ _ _ _ _ _ _ B₁ F₇ X₁ T₁ rfl ⟨by rw [List.size_toArray]; omega, by rw [hfx]; omega⟩ (by k_room) (by k_units) fun v h₈ tk₈ hk₈ hv₈ => ?_
    refine hideG_M7 fun gG gk => ?_
    obtain ⟨t₈, rfl⟩ := hv₈
    refine gk ?_
    clear gk gG
    have F₈ := F₇.after hk₈
    have N₈ := newsKeep N₇ hk₈
    clear F₇ N₇
    dsimp only
    rw [hfx]
    k_steps
    refine GM.of (.str _ _) (typeIs_str _ _ _) PySem.F.slot_str_encode PySem.F.type_str_encode GM.noRef ?_
    k_steps
    with_reducible rename Fr _ _ _ _ => F₉
    with_reducible rename News _ _ _ _ => N₉
    refine stop_in ?_
    have hasc : ∀ c ∈ (joinA [13, 10] rows).toArray, c < 128 := fun c hc => by
      rcases joinA_mem (List.mem_toArray.mp hc) with h | ⟨r, hr, h⟩
      · simp at h; omega
      · have := (hrf r hr).2.2 c h; omega
    refine call_meets PySem.F.slot_str_encode (typeIs_str _ _ _) PySem.F.entry_str_encode (PySem.F.args_str_encode_2 _ _) (meets_encode hasc (by rw [List.size_toArray]; omega)) ?_
    k_steps
    with_reducible rename Fr _ _ _ _ => Fa
    with_reducible rename News _ _ _ _ => Na
    refine stop_in ?_
    have hbk := bytes_back (joinA [13, 10] rows) fun c hc => hasc c (List.mem_toArray.mpr hc)
    have hqu := quoL_joinA _ rows hbk fun r hr => ⟨(hrf r hr).1, fun c hc => by have := (hrf r hr).2.2 c hc; omega⟩
    have hqd : (joinA [13, 10] (rows.map dotted)).length ≤ 1000 := by
      have h1 := joinA_length (e := [13, 10]) (b := 2 * size + 1) (rows := rows.map dotted) fun r hr => by
        refine hideG_M7 fun gG gk => ?_
        obtain ⟨q, hq, rfl⟩ := List.mem_map.mp hr
        refine gk ?_
        clear gk gG
        have := (hrf q hq).2.1
        have := dotted_length q
        omega
      rw [List.length_map] at h1
      have h2 : rows.length * (2 * size + 1 + [13, 10].length) ≤ 7 * 99 := Nat.mul_le_mul (by omega) (by simp; omega)
      omega
    refine' c_quote w mean mg mb ((joinA [13, 10] rows).toArray.map (·.toUInt8)) _ _ _ _ _ _ _ _ _ _ _ _ _ _ _ _ _ _ B₁ ?cqF X₁ T₁ ?cqk ?cqp ?cq1 ?cq2 ?cq3
    case cqF => exact Fa
    case cqk => rfl
    case cqp => exact ⟨by rw [Array.size_map, List.size_toArray]; omega, by rw [hqu]; omega⟩
    case cq1 => k_room
    case cq2 => k_units
    intro v hB tkb hkb hvb
    refine hideG_M7 fun gG gk => ?_
    obtain ⟨snt, tb, rfl, hsnt⟩ := hvb
    refine gk ?_
    clear gk gG
    rw [hqu] at hsnt
    have Fb := Fa.after hkb
    have Nb := newsKeep Na hkb
    clear Fa Na
    dsimp only
    k_steps
    refine stop_in ?_
    refine wpAny_For ?_
    k_steps
    refine stop_in ?_
    with_reducible rename Fr _ _ _ _ => Fc
    refine call_len_list (hlo.at fun o e => Fc.keep _ o e) ?_ ?_
    · rw [List.size_toArray, show vs.length = os.length from hvl]; omega
    rw [List.size_toArray, show vs.length = os.length from hvl]
    k_steps
    with_reducible rename Fr _ _ _ _ => Fd
    with_reducible rename News _ _ _ _ => Nd
    rename_i l₂ _ _ hd₂
    refine stop_in ?_
    have hl2 := (Nd _ (.head _)).1
    have hl2L := (Nd _ (.head _)).2.1
    have Nd2 : News s.heap L₁ hd₂ [(l₂, W.listOf #[] 0)] := fun q hq => Nd q (by rw [List.mem_singleton.mp hq]; exact .head _)
    refine range_for1 (h₀ := s.heap) (α := Tok × Tok × (Str → Option Value) × List Value × Nat)
      (fun m y => if y = Str.ofString "due" then some (.ref l₂) else if y = Str.ofString "sent" then some (.bytes snt tb) else if y = Str.ofString "text" then some (.str ⟨(joinA [13, 10] rows).toArray⟩ m.1) else if y = Str.ofString "ring" then some (.str ⟨R.toArray⟩ tr) else if y = Str.ofString "order" then some (.ref lo) else if y = Str.ofString "turn" then some (.int turn tt) else if y = Str.ofString "size" then some (.int size m.2.1) else m.2.2.1 y)
      (fun m => [(l₂, W.listOf m.2.2.2.1.toArray m.2.2.2.2)]) (fun i m h => StrsAre m.2.2.2.1 (asS ((rowsOf R os size turn i).map dotted))) os.length rfl rfl rfl (by omega) ⟨by omega, by omega⟩ Fd.ns.lt Fd.above ?hnw (fun _ _ _ _ hj _ => hj) ?step ?done ?h0
    case h0 =>
      exact ⟨(_, _, _, [], 0), keep1 (a := Str.ofString "due") (keep1 (a := Str.ofString "sent") (keep1 (a := Str.ofString "text") (keep1 (a := Str.ofString "ring") (keep1 (a := Str.ofString "order") (keep1 (a := Str.ofString "turn") (keep1 (a := Str.ofString "size") Fd rfl) rfl) rfl) rfl) rfl) rfl) rfl, Nd2, .nil⟩
    case hnw =>
      intro m q hq
      rw [List.mem_singleton.mp hq]
      exact Heap.lt_size hl2
    case done =>
      intro h t hh7 F₃ N₃ hj ht
      refine hideG_M7 fun gG gk => ?_
      obtain ⟨te1, te2, m₁, vs₂, c₂⟩ := hh7
      refine gk ?_
      clear gk gG
      rw [← hrows] at hj
      dsimp only at hj N₃
      have hsn := bytes_of hsnt
      have hsum2 := asS_sum (b := 2 * size + 1) (rows := rows.map dotted) fun r hr => by
        refine hideG_M7 fun gG gk => ?_
        obtain ⟨q, hq, rfl⟩ := List.mem_map.mp hr
        refine gk ?_
        clear gk gG
        have := (hrf q hq).2.1
        have := dotted_length q
        omega
      rw [List.length_map] at hsum2
      have h4 : (asS (rows.map dotted)).length = rows.length := by simp [asS]
      have h5 : rows.length * (2 * size + 1) ≤ 7 * 98 := Nat.mul_le_mul (by omega) (by omega)
      k_steps
      refine stop_in ?_
      with_reducible rename Fr _ _ _ _ => F₄
      with_reducible rename News _ _ _ _ => N₄
      refine join_listW (x := ⟨([13, 10] : List Nat).toArray⟩) (ys := asS (rows.map dotted)) (News.isList N₄ (.head _)) (by simpa using hj) (by decide) (by omega) fun t₇ k₇ => ?_
      rw [txt_join]
      k_steps
      refine GM.of (.str _ _) (typeIs_str _ _ _) PySem.F.slot_str_encode PySem.F.type_str_encode GM.noRef ?_
      k_steps
      refine stop_in ?_
      have hasd : ∀ c ∈ (joinA [13, 10] (rows.map dotted)).toArray, c < 128 := fun c hc => by
        rcases joinA_mem (List.mem_toArray.mp hc) with h | ⟨r, hr, h⟩
        · simp at h; omega
        · obtain ⟨q, hq, rfl⟩ := List.mem_map.mp hr
          have := (hrf q hq).2.2
          have : c = 46 ∨ c ∈ q := by
            unfold dotted at h; split at h
            · rcases List.mem_cons.mp h with h | h
              · exact .inl h
              · exact .inr h
            · exact .inr h
          rcases this with h | h
          · omega
          · have := (hrf q hq).2.2 c h; omega
      refine call_meets PySem.F.slot_str_encode (typeIs_str _ _ _) PySem.F.entry_str_encode (PySem.F.args_str_encode_2 _ _) (meets_encode hasd (by rw [List.size_toArray]; omega)) ?_
      dsimp only
      rw [← hsn]
      k_steps
      · exact absurd ‹(snt.toList != snt.toList) = true› (by simp)
      refine stop_in ?_
      have hsz : snt.size = (joinA [13, 10] (rows.map dotted)).length := by rw [hsn, Array.size_map, List.size_toArray]
      have hdl := dots_length rows
      refine len_bytes (by omega) ?_
      k_steps
      refine stop_in ?_
      refine P.len_str ?_ ?_
      · simp only [PySem.Str.length, List.size_toArray]; omega
      k_steps
      with_reducible rename Fr _ _ _ _ => F₅
      have e9 : (snt.size : Int) - ((PySem.Str.length ⟨(joinA [13, 10] rows).toArray⟩ : Nat) : Int) = (dotsOf (rowsOf R os size turn os.length) : Int) := by
        rw [← hrows]
        simp only [PySem.Str.length, List.size_toArray]; omega
      exact hret _ _ _ _ hGb (fun b o e => F₅.keep b o e) ⟨_, congrArg (fun z => Value.int z _) e9⟩
    case step =>
      intro i tv hh8 s₁ own₁ hh9 ht hi hj F₃ N₃ ho
      refine hideG_M7 fun gG gk => ?_
      obtain ⟨te1, te2, m₁, vs₂, c₂⟩ := hh8
      obtain ⟨h₃, t₃, rfl⟩ := hh9
      refine gk ?_
      clear gk gG
      have NN : News s.heap L₁ h₃ ((l₂, W.listOf vs₂.toArray c₂) :: own₁) := fun q hq => N₃ q (by
        rcases List.mem_cons.mp hq with h | h
        · exact List.mem_append_right _ (List.mem_singleton.mpr h)
        · exact List.mem_append_left _ h)
      clear N₃
      have hoff : OwnOff own₁ [l₂] := fun q hq b hb => by
        rw [List.mem_singleton.mp hb]
        exact Nat.ne_of_gt (Nat.lt_of_lt_of_le (Heap.lt_size hl2) (ho q hq))
      have hoi : ∀ j : Nat, (List.map Int.ofNat os).getD j 0 = (os.getD j 0 : Int) := fun j => by
        simp only [List.getD_eq_getElem?_getD, List.getElem?_map]
        cases os[j]? <;> rfl
      have hug := untl_gt hi hinc htop hz0
      show wpAny _ _ _ _ _ _
      k_fold
      k_steps
      refine stop_in ?_
      with_reducible rename Fr _ _ _ _ => F₄
      refine call_len_list (hlo.at fun o e => F₄.keep _ o e) ?_ ?_
      · rw [List.size_toArray, show vs.length = os.length from hvl]; omega
      rw [List.size_toArray, show vs.length = os.length from hvl]
      have hlen₂ := hj.length
      simp only [asS, rowsOf, List.length_map, List.length_range] at hlen₂
      have e1i : ((i : Int) + 1).toNat = i + 1 := by omega
      replace e1i : id (((i : Int) + 1).toNat = i + 1) := e1i
      have hrm : rowAt R os size turn i ∈ rows := by rw [hrows]; exact List.mem_map.mpr ⟨i, List.mem_range.mpr hi, rfl⟩
      have hrfi := hrf _ hrm
      refine hideG_M7 fun gG gk => ?_
      obtain ⟨c, tl, hrow⟩ : ∃ c tl, rowAt R os size turn i = c :: tl := by
        cases hq : rowAt R os size turn i with
        | nil => exact absurd hq hrfi.1
        | cons c tl => exact ⟨c, tl, rfl⟩
      refine gk ?_
      clear gk gG
      have hcut : cutL R (os.getD i 0 + turn) (untl os size i + turn) = c :: tl := hrow
      rw [hrow] at hrfi
      have hc46 := hrfi.2.2 c (.head _)
      have hl46 := hrfi.2.1
      k_steps
      · with_reducible rename Fr _ _ _ _ => F₅
        with_reducible rename News _ _ _ _ => N₅
        refine stop_in ?_
        have hu : untl os size i = os.getD (i + 1) 0 := if_pos (by omega)
        refine slice_cut (os.getD i 0 + turn) (untl os size i + turn) F₅ N₅ (by simp only [show ((i : Int) + 1).toNat = i + 1 from e1i, Int.toNat_natCast, hoi]; omega) (by rw [hu]; simp only [show ((i : Int) + 1).toNat = i + 1 from e1i, Int.toNat_natCast, hoi]; omega) (by omega) (by omega) (by omega) fun h₆ t₆ k₆ F₆ N₆ => ?_
        rw [hcut]
        clear F₅ N₅
        k_steps
        · with_reducible rename Fr _ _ _ _ => F₇
          with_reducible rename News _ _ _ _ => N₇
          have hc : c = 46 := by
            have h := ‹(Txt.item _ 0 == Str.ofString ".") = true›
            rw [item_dot] at h; simpa using h
          subst hc
          rw [dot_row, List.push_toArray] at N₇
          refine stop_in ?_
          exact ⟨_, _, (_, _, _, vs₂ ++ [_], _), rfl, keep1 (a := Str.ofString "due") (keep1 (a := Str.ofString "sent") (keep1 (a := Str.ofString "text") (keep1 (a := Str.ofString "ring") (keep1 (a := Str.ofString "order") (keep1 (a := Str.ofString "turn") (keep1 (a := Str.ofString "size") F₇ rfl) rfl) rfl) rfl) rfl) rfl) rfl, duePerm N₇, dueSnoc hj hrow⟩
        · with_reducible rename Fr _ _ _ _ => F₇
          with_reducible rename News _ _ _ _ => N₇
          have hc : c ≠ 46 := by
            have h := ‹(Txt.item _ 0 == Str.ofString ".") = false›
            rw [item_dot] at h; simpa using h
          rw [List.push_toArray, ← dotted_no hc tl] at N₇
          refine stop_in ?_
          exact ⟨_, _, (_, _, _, vs₂ ++ [_], _), rfl, keep1 (a := Str.ofString "due") (keep1 (a := Str.ofString "sent") (keep1 (a := Str.ofString "text") (keep1 (a := Str.ofString "ring") (keep1 (a := Str.ofString "order") (keep1 (a := Str.ofString "turn") (keep1 (a := Str.ofString "size") F₇ rfl) rfl) rfl) rfl) rfl) rfl) rfl, duePerm N₇, dueSnoc hj hrow⟩
      · with_reducible rename Fr _ _ _ _ => F₅
        with_reducible rename News _ _ _ _ => N₅
        refine stop_in ?_
        have hu : untl os size i = os.getD 0 0 + size := if_neg (by omega)
        refine slice_cut (os.getD i 0 + turn) (untl os size i + turn) F₅ N₅ (by simp only [show ((i : Int) + 1).toNat = i + 1 from e1i, Int.toNat_natCast, hoi]; omega) (by rw [hu]; simp only [e0, show (3 * (size : Int)).fdiv 3 = size from e3]; omega) (by omega) (by omega) (by omega) fun h₆ t₆ k₆ F₆ N₆ => ?_
        rw [hcut]
        clear F₅ N₅
        k_steps
        · with_reducible rename Fr _ _ _ _ => F₇
          with_reducible rename News _ _ _ _ => N₇
          have hc : c = 46 := by
            have h := ‹(Txt.item _ 0 == Str.ofString ".") = true›
            rw [item_dot] at h; simpa using h
          subst hc
          rw [dot_row, List.push_toArray] at N₇
          refine stop_in ?_
          exact ⟨_, _, (_, _, _, vs₂ ++ [_], _), rfl, keep1 (a := Str.ofString "due") (keep1 (a := Str.ofString "sent") (keep1 (a := Str.ofString "text") (keep1 (a := Str.ofString "ring") (keep1 (a := Str.ofString "order") (keep1 (a := Str.ofString "turn") (keep1 (a := Str.ofString "size") F₇ rfl) rfl) rfl) rfl) rfl) rfl) rfl, duePerm N₇, dueSnoc hj hrow⟩
        · with_reducible rename Fr _ _ _ _ => F₇
          with_reducible rename News _ _ _ _ => N₇
          have hc : c ≠ 46 := by
            have h := ‹(Txt.item _ 0 == Str.ofString ".") = false›
            rw [item_dot] at h; simpa using h
          rw [List.push_toArray, ← dotted_no hc tl] at N₇
          refine stop_in ?_
          exact ⟨_, _, (_, _, _, vs₂ ++ [_], _), rfl, keep1 (a := Str.ofString "due") (keep1 (a := Str.ofString "sent") (keep1 (a := Str.ofString "text") (keep1 (a := Str.ofString "ring") (keep1 (a := Str.ofString "order") (keep1 (a := Str.ofString "turn") (keep1 (a := Str.ofString "size") F₇ rfl) rfl) rfl) rfl) rfl) rfl) rfl, duePerm N₇, dueSnoc hj hrow⟩
end

section
open PySem PySem.W PyProof.Rows PySem.Calls PySem.Spec
set_option linter.unusedVariables false
set_option maxRecDepth 100000
set_option maxHeartbeats 4000000
theorem kfma (w : World) : hd.heap_39 w.params = hd.heap_39 w.params ∧ PySem.Challenge.rw_wk0002_01.row.prog = PySem.Challenge.rw_wk0002_01.row.prog := by w_top off; k_fill; exact ⟨rfl, rfl⟩
theorem c_add (w mean mg mb) (x y : Int) (tx ty : Tok) : Ct w mean mg mb 45 [.int x tx, .int y ty] 1 8 (fun _ => True) (fun v h => ∃ t, v = .int (x + y) t) := by
  intro dp un gd cn cs a ccd cl outer A₀ base h₀ L m s Q E B F X T hk hpre hdp hun hret
  refine wpAny_call ?_
  k_dflt walk_at "ct_enter"
  k_steps
  with_reducible rename Fr _ _ _ _ => F₂
  exact hret _ _ _ (fun b o e => F₂.keep b o e) ⟨_, rfl⟩
theorem c_mul (w mean mg mb) (x y : Int) (tx ty : Tok) : Ct w mean mg mb 59 [.int x tx, .int y ty] 1 8 (fun _ => 0 ≤ x ∧ x < 1000 ∧ 0 ≤ y ∧ y < 1000) (fun v h => ∃ t, v = .int (x * y) t) := by
  intro dp un gd cn cs a ccd cl outer A₀ base h₀ L m s Q E B F X T hk hpre hdp hun hret
  obtain ⟨h1, h2, h3, h4⟩ := hpre
  refine wpAny_call ?_
  k_dflt walk_at "ct_enter"
  k_steps
  with_reducible rename Fr _ _ _ _ => F₂
  exact hret _ _ _ (fun b o e => F₂.keep b o e) ⟨_, rfl⟩
theorem c_mod (w mean mg mb) (x y : Int) (tx ty : Tok) : Ct w mean mg mb 52 [.int x tx, .int y ty] 1 8 (fun _ => 0 < y) (fun v h => ∃ t, v = .int (x.fmod y) t) := by
  intro dp un gd cn cs a ccd cl outer A₀ base h₀ L m s Q E B F X T hk hpre hdp hun hret
  refine wpAny_call ?_
  k_dflt walk_at "ct_enter"
  k_steps
  with_reducible rename Fr _ _ _ _ => F₂
  exact hret _ _ _ (fun b o e => F₂.keep b o e) ⟨_, rfl⟩
end

end Mine
end

section
open PySem PySem.W PyProof.Rows PySem.Calls PySem.Spec
set_option linter.unusedVariables false
namespace Mine
/-- the place of (w, 1) among the powers -/
def idxN (p mo : Int) (n : Nat) (w : Int) : Nat := ((List.range n).findIdx? fun k => pw p mo k == (w, 1)).getD 0
def PM (p mo : Int) (n : Nat) : Prop := (p = 3 ∧ mo = 1 ∧ n = 8) ∨ (p = 5 ∧ mo = 3 ∧ n = 24) ∨ (p = 7 ∧ mo = 4 ∧ n = 48)
def idxOK (p mo : Int) (n : Nat) : Bool := (List.range p.toNat).all fun w => (pws p mo n)[idxN p mo n w]? == some ((w : Int), 1) && (List.range (idxN p mo n w)).all fun j => (pws p mo n)[j]? != some ((w : Int), 1)
theorem idxOK_all {p mo : Int} {n : Nat} (h : PM p mo n) : idxOK p mo n = true := by
  rcases h with ⟨rfl, rfl, rfl⟩ | ⟨rfl, rfl, rfl⟩ | ⟨rfl, rfl, rfl⟩ <;> decide +kernel
theorem idx_spec {p mo : Int} {n : Nat} (h : PM p mo n) {w : Nat} (hw : w < p.toNat) : (pws p mo n)[idxN p mo n w]? = some ((w : Int), 1) ∧ ∀ j < idxN p mo n w, (pws p mo n)[j]? ≠ some ((w : Int), 1) := by
  have := List.all_eq_true.mp (idxOK_all h) w (List.mem_range.mpr hw)
  rw [Bool.and_eq_true] at this
  refine ⟨eq_of_beq this.1, fun j hj => ?_⟩
  have := List.all_eq_true.mp this.2 j (List.mem_range.mpr hj)
  simpa using this
theorem idx_lt {p mo : Int} {n : Nat} (h : PM p mo n) {w : Nat} (hw : w < p.toNat) : idxN p mo n w < n := by
  have := (List.getElem?_eq_some_iff.mp (idx_spec h hw).1).1
  rwa [pws_length] at this
theorem pws_bound {p mo : Int} {n : Nat} (h : PM p mo n) : ∀ q ∈ pws p mo n, 0 ≤ q.1 ∧ q.1 < 64 ∧ 0 ≤ q.2 ∧ q.2 < 64 := by
  intro q hq
  obtain ⟨k, _, rfl⟩ := List.mem_map.mp hq
  have hp : 2 < p ∧ p < 8 := by rcases h with ⟨rfl, _, _⟩ | ⟨rfl, _, _⟩ | ⟨rfl, _, _⟩ <;> decide
  have := pw_bound (m := mo) hp.1 k
  omega
/-- the marks -/
def marksOf (p mo f sh : Int) (n : Nat) : List Int := ((List.range p.toNat).map Int.ofNat).map fun a => (f * (idxN p mo n a : Int) + sh).fmod n
/-- the ring: a dot at each mark -/
def ringL (ms : List Int) (n : Nat) : List Nat := (List.range n).map fun (k : Nat) => if ((k : Nat) : Int) ∈ ms then 46 else 45
/-- the gaps between neighbours -/
def gapsOf (qs : List Int) (p : Int) : List Int := ((List.range (p.toNat - 1)).map Int.ofNat).map fun a => qs.getD (a.toNat + 1) 0 - qs.getD a.toNat 0
end Mine
end

section
open PySem PySem.W PyProof.Rows PySem.Calls PySem.Spec
set_option linter.unusedVariables false
namespace Mine
theorem trn_eq {u v size : Int} (h : 0 < size) : ∀ j : Nat, trn u v size (j + 1) = (u + j * v).fmod size
  | 0 => by simp [trn]
  | j + 1 => by
    rw [trn, if_neg (Nat.succ_ne_zero j), trn_eq h j, Int.fmod_eq_emod_of_nonneg _ (Int.le_of_lt h), Int.fmod_eq_emod_of_nonneg _ (Int.le_of_lt h), Int.fmod_eq_emod_of_nonneg _ (Int.le_of_lt h), Int.emod_add_emod]
    congr 1
    push_cast
    rw [Int.add_mul, Int.one_mul, Int.add_assoc]
theorem trns_eq {u v size : Int} (h : 0 < size) (k : Nat) : trns u v size k = ((List.range k).map Int.ofNat).map fun j => (u + j * v).fmod size := by
  unfold trns
  rw [List.map_map]
  exact List.map_congr_left fun j _ => trn_eq h j
end Mine
end

section
open PySem PySem.W PyProof.Rows PySem.Calls PySem.Spec
set_option linter.unusedVariables false
namespace Mine
def FOK (f : Int) : Prop := 0 < f ∧ f ≤ 60 ∧ f % 2 = 1 ∧ f % 3 ≠ 0
def ring3 (ms : List Int) (n : Nat) : List Nat := ringL ms n ++ ringL ms n ++ ringL ms n
/-- the places of the (w, 1), written out -/
def tabOf (p : Int) : List Nat := if p = 3 then [1, 2, 7] else if p = 5 then [1, 22, 15, 2, 17] else [1, 5, 38, 36, 2, 11, 31]
theorem tab_all {p mo : Int} {n : Nat} (hP : PM p mo n) : (List.range p.toNat).map (fun w : Nat => idxN p mo n (w : Int)) = tabOf p := by
  rcases hP with ⟨rfl, rfl, rfl⟩ | ⟨rfl, rfl, rfl⟩ | ⟨rfl, rfl, rfl⟩ <;> decide +kernel
theorem marks_tab {p mo : Int} {n : Nat} (hP : PM p mo n) {fN sN : Nat} : marksOf p mo fN sN n = (tabOf p).map fun k => (((fN * k + sN) % n : Nat) : Int) := by
  rw [← tab_all hP, List.map_map]
  unfold marksOf
  rw [List.map_map]
  refine List.map_congr_left fun w _ => ?_
  show ((fN : Int) * (idxN p mo n (w : Int) : Int) + (sN : Int)).fmod n = (((fN * idxN p mo n (w : Int) + sN) % n : Nat) : Int)
  rw [Int.fmod_eq_emod_of_nonneg _ (by omega)]
  push_cast
  rfl
def unitsL : List Nat := (List.range 61).filter fun f => f % 2 == 1 && f % 3 != 0
theorem unit_mem {f : Int} (h : FOK f) : ∃ fN : Nat, f = fN ∧ fN ∈ unitsL := by
  obtain ⟨h0, h1, h2, h3⟩ := h
  refine ⟨f.toNat, by omega, List.mem_filter.mpr ⟨List.mem_range.mpr (by omega), ?_⟩⟩
  have e2 : f.toNat % 2 = 1 := by omega
  have e3 : f.toNat % 3 ≠ 0 := by omega
  simp [e2, e3]
theorem nodup3 : ∀ f ∈ unitsL, (tabOf 3).Pairwise fun a b => (f * a) % 8 ≠ (f * b) % 8 := by decide +kernel
theorem nodup5 : ∀ f ∈ unitsL, (tabOf 5).Pairwise fun a b => (f * a) % 24 ≠ (f * b) % 24 := by decide +kernel
theorem nodup7 : ∀ f ∈ unitsL, (tabOf 7).Pairwise fun a b => (f * a) % 48 ≠ (f * b) % 48 := by decide +kernel
theorem mod_can {a b s n : Nat} (e : (a + s) % n = (b + s) % n) : a % n = b % n := by
  have h := Int.emod_add_cancel_right (m := (a : Int)) (n := n) (k := (b : Int)) (s : Int)
  have := h.mp (by exact_mod_cast e)
  exact_mod_cast this
theorem marks_nodup {p mo f sh : Int} {n : Nat} (hP : PM p mo n) (hf : FOK f) (h0 : 0 ≤ sh) : (marksOf p mo f sh n).Pairwise (· ≠ ·) := by
  obtain ⟨fN, rfl, hfm⟩ := unit_mem hf
  obtain ⟨sN, rfl⟩ : ∃ sN : Nat, sh = sN := ⟨sh.toNat, by omega⟩
  rw [marks_tab hP, List.pairwise_map]
  rcases hP with ⟨rfl, rfl, rfl⟩ | ⟨rfl, rfl, rfl⟩ | ⟨rfl, rfl, rfl⟩
  · exact (nodup3 fN hfm).imp fun h e => h (mod_can (Int.ofNat_inj.mp e))
  · exact (nodup5 fN hfm).imp fun h e => h (mod_can (Int.ofNat_inj.mp e))
  · exact (nodup7 fN hfm).imp fun h e => h (mod_can (Int.ofNat_inj.mp e))
def cntOf (tab : List Nat) (n f turn : Nat) : Nat := (tab.filter fun k => tab.any fun k' => (f * k + turn) % n == (f * k') % n).length
def cntOK (tab : List Nat) (p n : Nat) : Bool := unitsL.all fun f => (List.range n).all fun t => cntOf tab n f t == if t == 0 then p else if t % (p + 1) == 0 then 0 else 1
theorem cnt3 : cntOK (tabOf 3) 3 8 = true := by decide +kernel
theorem cnt5 : cntOK (tabOf 5) 5 24 = true := by decide +kernel
theorem cnt7 : cntOK (tabOf 7) 7 48 = true := by decide +kernel
theorem mov3 : (tabOf 3).map (fun k => (3 * k) % 8) = (tabOf 3).reverse.map fun k => (k + 4) % 8 := by decide +kernel
theorem mov5 : (tabOf 5).map (fun k => (5 * k) % 24) = (tabOf 5).reverse.map fun k => (k + 12) % 24 := by decide +kernel
theorem mov7 : (tabOf 7).map (fun k => (7 * k) % 48) = (tabOf 7).reverse.map fun k => (k + 24) % 48 := by decide +kernel
def tldOK (p mo : Int) (n : Nat) : Bool := (List.range p.toNat).all fun i => (List.range p.toNat).all fun j => !(decide (i + j < p.toNat)) || rootsOf p mo ((pws p mo n).getD (((tabOf p).getD i 0 + (tabOf p).getD (i + j) 0) % n) (0, 0)) == if j = 0 then [(i : Int)] else [(i : Int), ((i : Int) + (j : Int))]
theorem tld_all {p mo : Int} {n : Nat} (hP : PM p mo n) : tldOK p mo n = true := by
  rcases hP with ⟨rfl, rfl, rfl⟩ | ⟨rfl, rfl, rfl⟩ | ⟨rfl, rfl, rfl⟩ <;> decide +kernel
theorem four48 : ∀ f ∈ unitsL, (f * (f * f) * f) % 48 = 1 := by decide +kernel
end Mine
end

section
open PySem PySem.W PyProof.Rows PySem.Calls PySem.Spec
set_option linter.unusedVariables false
namespace Mine
theorem ringL_length (ms : List Int) (n : Nat) : (ringL ms n).length = n := by simp [ringL]
theorem ringL_getD {ms : List Int} {n j : Nat} (h : j < n) : (ringL ms n).getD j 0 = if (j : Int) ∈ ms then 46 else 45 := by
  unfold ringL
  rw [List.getD_eq_getElem?_getD, List.getElem?_map, List.getElem?_range h]; rfl
theorem ring3_length (ms : List Int) (n : Nat) : (ring3 ms n).length = 3 * n := by
  simp only [ring3, List.length_append, ringL_length]; omega
theorem ring3_getD {ms : List Int} {n j : Nat} (h : j < 3 * n) : (ring3 ms n).getD j 0 = if ((j % n : Nat) : Int) ∈ ms then 46 else 45 := by
  have hl := ringL_length ms n
  have key : (ring3 ms n).getD j 0 = (ringL ms n).getD (j % n) 0 := by
    unfold ring3
    rw [List.getD_eq_getElem?_getD, List.getD_eq_getElem?_getD]
    by_cases h1 : j < n
    · rw [Nat.mod_eq_of_lt h1, List.append_assoc, List.getElem?_append_left (by omega)]
    · by_cases h2 : j < 2 * n
      · have e : j % n = j - n := by rw [Nat.mod_eq_sub_mod (by omega), Nat.mod_eq_of_lt (by omega)]
        rw [e, List.append_assoc, List.getElem?_append_right (by omega), List.getElem?_append_left (by omega), hl]
      · have e : j % n = j - n - n := by rw [Nat.mod_eq_sub_mod (by omega), Nat.mod_eq_sub_mod (by omega), Nat.mod_eq_of_lt (by omega)]
        rw [e, List.append_assoc, List.getElem?_append_right (by omega), List.getElem?_append_right (by omega), hl]
  rw [key, ringL_getD (Nat.mod_lt _ (by omega))]
theorem dotted_cons (c : Nat) (t : List Nat) : dotted? (c :: t) = (c == 46) := by
  unfold dotted?
  split
  · rename_i h; cases h; rfl
  · rename_i h
    by_cases hc : c = 46
    · subst hc; exact absurd rfl (h t)
    · simp [hc]
theorem dotted_row {R : List Nat} {a b : Nat} (hab : a < b) (ha : a < R.length) : dotted? (cutL R a b) = (R.getD a 0 == 46) := by
  unfold cutL
  rw [List.drop_eq_getElem_cons ha]
  obtain ⟨k, hk⟩ : ∃ k, b - a = k + 1 := ⟨b - a - 1, by omega⟩
  rw [hk, List.take_succ_cons, dotted_cons, List.getD_eq_getElem?_getD, List.getElem?_eq_getElem ha]; rfl
theorem range_getD (os : List Nat) : (List.range os.length).map (fun k => os.getD k 0) = os := by
  apply List.ext_getElem
  · simp
  · intro i h1 h2
    simp only [List.getElem_map, List.getElem_range, List.getD_eq_getElem?_getD, List.getElem?_eq_getElem h2]; rfl
theorem dots_count {R os : List Nat} {n turn : Nat} (hR : R.length = 3 * n) (hz : 0 < n) (hinc : ∀ k, k + 1 < os.length → os.getD k 0 < os.getD (k + 1) 0) (htop : ∀ x ∈ os, x < n) (ht : turn < n) :
    dotsOf (rowsOf R os n turn os.length) = (os.filter fun o => R.getD (o + turn) 0 == 46).length := by
  unfold dotsOf rowsOf
  rw [List.filter_map, List.length_map]
  conv => rhs; rw [← range_getD os, List.filter_map, List.length_map]
  congr 1
  refine List.filter_congr fun k hk => ?_
  have hk := List.mem_range.mp hk
  have hu := untl_gt hk hinc htop hz
  have htk := getD_top htop hz k
  show dotted? (rowAt R os n turn k) = (R.getD (os.getD k 0 + turn) 0 == 46)
  exact dotted_row (by omega) (by omega)
section
variable {p mo f sh : Int} {n : Nat} {qs rs : List Int} {en : List Nat} {turn : Nat}
theorem PM.size (hP : PM p mo n) : (n : Int) = p * p - 1 ∧ 8 ≤ n ∧ n < 49 ∧ 2 < p ∧ p < 8 := by
  rcases hP with ⟨rfl, rfl, rfl⟩ | ⟨rfl, rfl, rfl⟩ | ⟨rfl, rfl, rfl⟩ <;> decide
theorem marks_bound (hP : PM p mo n) : ∀ x ∈ marksOf p mo f sh n, 0 ≤ x ∧ x < n := fun x hx => by
  have := hP.size
  obtain ⟨y, _, rfl⟩ := List.mem_map.mp hx
  exact ⟨Int.fmod_nonneg_of_pos _ (by omega), Int.fmod_lt_of_pos _ (by omega)⟩
theorem marks_len (hP : PM p mo n) : (marksOf p mo f sh n).length = p.toNat := by simp [marksOf]
theorem qs_inc (hP : PM p mo n) (hf : FOK f) (h0 : 0 ≤ sh) (hpm : qs.Perm (marksOf p mo f sh n)) (hpw : qs.Pairwise (· ≤ ·)) : ∀ k, k + 1 < qs.length → qs.getD k 0 < qs.getD (k + 1) 0 := by
  intro k hk
  have hne : qs.Pairwise (· ≠ ·) := hpm.symm.pairwise (marks_nodup hP hf h0) fun h => h.symm
  have h1 := List.pairwise_iff_getElem.mp hpw k (k + 1) (by omega) hk (by omega)
  have h2 := List.pairwise_iff_getElem.mp hne k (k + 1) (by omega) hk (by omega)
  rw [List.getD_eq_getElem?_getD, List.getD_eq_getElem?_getD, List.getElem?_eq_getElem hk, List.getElem?_eq_getElem (by omega : k < qs.length)]
  show qs[k] < qs[k + 1]
  omega
theorem os_getD {qs : List Int} (h : ∀ x ∈ qs, 0 ≤ x) (k : Nat) : ((qs.map Int.toNat).getD k 0 : Int) = qs.getD k 0 := by
  rw [List.getD_eq_getElem?_getD, List.getD_eq_getElem?_getD, List.getElem?_map]
  cases e : qs[k]? with
  | none => rfl
  | some x => exact Int.toNat_of_nonneg (h x (List.mem_of_getElem? e))
theorem met_ok (hP : PM p mo n) (hf : FOK f) (h0 : 0 ≤ sh) (h1 : sh < n) (hpm : qs.Perm (marksOf p mo f sh n)) (hpw : qs.Pairwise (· ≤ ·)) (hrs : rs = gapsOf qs p ∨ rs = gapsOf qs p ++ [127, 1])
    (he : en = [10] ∨ en = [13] ∨ en = [13, 10]) (ht : turn < n) : MetOK (ring3 (marksOf p mo f sh n) n) (qs.map Int.toNat) rs n turn en := by
  obtain ⟨hs1, hs2, hs3, hs4, hs5⟩ := hP.size
  have hqb : ∀ x ∈ qs, 0 ≤ x ∧ x < n := fun x hx => marks_bound hP x (hpm.mem_iff.mp hx)
  have hql : qs.length = p.toNat := by rw [hpm.length_eq, marks_len hP]
  have hog := os_getD (qs := qs) fun x hx => (hqb x hx).1
  have hinc := qs_inc hP hf h0 hpm hpw
  have htop : ∀ x ∈ qs.map Int.toNat, x < n := fun x hx => by
    obtain ⟨y, hy, rfl⟩ := List.mem_map.mp hx
    have := hqb y hy; omega
  have hgap : gapsOf qs p = (List.range (p.toNat - 1)).map fun k => qs.getD (k + 1) 0 - qs.getD k 0 := by
    unfold gapsOf
    rw [List.map_map]; rfl
  have hgt : ∀ z ∈ gapsOf qs p, (z != 127) = true := fun z hz => by
    rw [hgap] at hz
    obtain ⟨k, hk, rfl⟩ := List.mem_map.mp hz
    have hk := List.mem_range.mp hk
    have e1 := hog (k + 1)
    have e2 := hog k
    have e3 := getD_top htop (by omega) (k + 1)
    have e4 : ¬ (qs.getD (k + 1) 0 - qs.getD k 0 = 127) := by omega
    simpa using e4
  refine ⟨ring3_length _ _, fun c hc => ?_, by omega, hs3, by rw [List.length_map]; omega, by rw [List.length_map]; omega, fun k hk => ?_, htop, ?_, ht, he⟩
  · unfold ring3 at hc
    have : c ∈ ringL (marksOf p mo f sh n) n := by
      rcases List.mem_append.mp hc with h | h
      · rcases List.mem_append.mp h with h | h <;> exact h
      · exact h
    obtain ⟨k, _, rfl⟩ := List.mem_map.mp this
    split
    · exact .inr rfl
    · exact .inl rfl
  · rw [List.length_map] at hk
    have := hinc k hk
    have e1 := hog (k + 1)
    have e2 := hog k
    omega
  · have e : rs.takeWhile (· != 127) = gapsOf qs p := by
      rcases hrs with rfl | rfl
      · have := List.takeWhile_append_of_pos (p := (· != (127 : Int))) (l₁ := gapsOf qs p) (l₂ := []) hgt
        simpa using this
      · rw [List.takeWhile_append_of_pos hgt]
        simp
    rw [e, hgap, List.length_map, hql]
    refine List.map_congr_left fun k _ => ?_
    rw [hog, hog]
theorem mod_shift {a b s t n : Nat} : (b + s) % n = ((a + s) % n + t) % n ↔ (a + t) % n = b % n := by
  rw [Nat.mod_add_mod, show a + s + t = a + t + s by omega]
  have h := Int.emod_add_cancel_right (m := (b : Int)) (n := n) (k := ((a + t : Nat) : Int)) (s : Int)
  constructor
  · intro e
    have := h.mp (by exact_mod_cast e)
    exact_mod_cast this.symm
  · intro e
    have := h.mpr (by exact_mod_cast e.symm)
    exact_mod_cast this
theorem met_dots (hP : PM p mo n) (hf : FOK f) (h0 : 0 ≤ sh) (h1 : sh < n) (hpm : qs.Perm (marksOf p mo f sh n)) (hpw : qs.Pairwise (· ≤ ·)) (ht : turn < n) :
    (dotsOf (rowsOf (ring3 (marksOf p mo f sh n) n) (qs.map Int.toNat) n turn (qs.map Int.toNat).length) : Int) = if (turn : Int) = 0 then p else if (turn : Int).fmod (p + 1) = 0 then 0 else 1 := by
  have hM := met_ok (turn := turn) (en := [10]) hP hf h0 h1 hpm hpw (.inl rfl) (.inl rfl) ht
  rw [dots_count hM.len hM.size0 hM.inc hM.top ht]
  obtain ⟨fN, rfl, hfm⟩ := unit_mem hf
  obtain ⟨sN, rfl⟩ : ∃ sN : Nat, sh = sN := ⟨sh.toNat, by omega⟩
  have hsz := hP.size
  have hperm : (qs.map Int.toNat).Perm ((tabOf p).map fun k => (fN * k + sN) % n) := by
    have := hpm.map Int.toNat
    rw [marks_tab hP, List.map_map] at this
    exact this
  have hcnt : ((qs.map Int.toNat).filter fun o => (ring3 (marksOf p mo fN sN n) n).getD (o + turn) 0 == 46).length = cntOf (tabOf p) n fN turn := by
    rw [(hperm.filter _).length_eq, List.filter_map, List.length_map]
    unfold cntOf
    congr 1
    refine List.filter_congr fun k _ => ?_
    have hlt : (fN * k + sN) % n < n := Nat.mod_lt _ (by omega)
    show ((ring3 (marksOf p mo fN sN n) n).getD ((fN * k + sN) % n + turn) 0 == 46) = _
    rw [ring3_getD (by omega), marks_tab hP]
    have hmem : ((((fN * k + sN) % n + turn) % n : Nat) : Int) ∈ ((tabOf p).map fun k => (((fN * k + sN) % n : Nat) : Int)) ↔ ((tabOf p).any fun k' => (fN * k + turn) % n == (fN * k') % n) = true := by
      rw [List.mem_map, List.any_eq_true]
      constructor
      · rintro ⟨k', hk', e⟩
        refine ⟨k', hk', ?_⟩
        have e : (fN * k' + sN) % n = ((fN * k + sN) % n + turn) % n := by exact_mod_cast e
        rw [beq_iff_eq]; exact mod_shift.mp e
      · rintro ⟨k', hk', e⟩
        refine ⟨k', hk', ?_⟩
        rw [beq_iff_eq] at e
        have e : (fN * k' + sN) % n = ((fN * k + sN) % n + turn) % n := mod_shift.mpr e
        exact_mod_cast e
    by_cases hm : ((((fN * k + sN) % n + turn) % n : Nat) : Int) ∈ ((tabOf p).map fun k => (((fN * k + sN) % n : Nat) : Int))
    · rw [if_pos hm, hmem.mp hm]; rfl
    · rw [if_neg hm]
      have : ((tabOf p).any fun k' => (fN * k + turn) % n == (fN * k') % n) = false := by
        rw [← Bool.not_eq_true]; exact fun h => hm (hmem.mpr h)
      rw [this]; rfl
  rw [hcnt]
  have fin : ∀ (P N : Nat), cntOK (tabOf P) P N = true → turn < N → (cntOf (tabOf P) N fN turn : Int) = if (turn : Int) = 0 then (P : Int) else if (turn : Int).fmod ((P : Int) + 1) = 0 then 0 else 1 := by
    intro P N hc hN
    have := eq_of_beq (List.all_eq_true.mp (List.all_eq_true.mp hc fN hfm) turn (List.mem_range.mpr hN))
    rw [this]
    have e : (turn : Int).fmod ((P : Int) + 1) = ((turn % (P + 1) : Nat) : Int) := by
      rw [Int.fmod_eq_emod_of_nonneg _ (by omega)]; push_cast; rfl
    rw [e]
    by_cases h1 : turn = 0
    · subst h1; simp
    · have h1' : ¬ ((turn : Int) = 0) := by omega
      rw [if_neg h1', if_neg (by simpa using h1)]
      by_cases h2 : turn % (P + 1) = 0
      · rw [if_pos (by simpa using h2), if_pos (by rw [h2]; rfl)]; rfl
      · rw [if_neg (by simpa using h2), if_neg (by omega)]; rfl
  rcases hP with ⟨rfl, rfl, rfl⟩ | ⟨rfl, rfl, rfl⟩ | ⟨rfl, rfl, rfl⟩
  · exact fin 3 8 cnt3 ht
  · exact fin 5 24 cnt5 ht
  · exact fin 7 48 cnt7 ht
end
end Mine
end

section
open PySem PySem.W PyProof.Rows PySem.Calls PySem.Spec
set_option linter.unusedVariables false
namespace Mine
theorem moved_gen {tab : List Nat} {Q N H fN sN : Nat} (hN : 0 < N) (hH : ∀ k, (fN * ((k + H) % N)) % N = (fN * k + H) % N) (hmov : tab.map (fun k => ((Q + 1) * k) % N) = tab.reverse.map fun k => (k + H) % N) :
    ((tab.map fun k => (((fN * k + sN) % N : Nat) : Int)).map fun m => (((Q + 1 : Nat) : Int) * m).fmod N).Perm ((tab.map fun k => (((fN * k + sN) % N : Nat) : Int)).map fun m => (m + (H : Int) + (((Q + 1 : Nat) : Int) - 1) * sN).fmod N) := by
  have e1 : ((tab.map fun k => (((fN * k + sN) % N : Nat) : Int)).map fun m => (((Q + 1 : Nat) : Int) * m).fmod N) = (tab.map fun k => ((Q + 1) * k) % N).map fun x => (((fN * x + (Q + 1) * sN) % N : Nat) : Int) := by
    rw [List.map_map, List.map_map]
    refine List.map_congr_left fun k _ => ?_
    show (((Q + 1 : Nat) : Int) * (((fN * k + sN) % N : Nat) : Int)).fmod N = (((fN * (((Q + 1) * k) % N) + (Q + 1) * sN) % N : Nat) : Int)
    rw [Int.fmod_eq_emod_of_nonneg _ (by omega)]
    have e : ((Q + 1) * ((fN * k + sN) % N)) % N = (fN * (((Q + 1) * k) % N) + (Q + 1) * sN) % N := by
      rw [Nat.mul_mod_mod, Nat.mul_add, Nat.mul_left_comm, Nat.add_mod, Nat.add_mod (fN * (((Q + 1) * k) % N)), Nat.mul_mod_mod]
    rw [← e]; push_cast; rfl
  have e2 : ((tab.map fun k => (((fN * k + sN) % N : Nat) : Int)).map fun m => (m + (H : Int) + (((Q + 1 : Nat) : Int) - 1) * sN).fmod N) = (tab.map fun k => (k + H) % N).map fun x => (((fN * x + (Q + 1) * sN) % N : Nat) : Int) := by
    rw [List.map_map, List.map_map]
    refine List.map_congr_left fun k _ => ?_
    show ((((fN * k + sN) % N : Nat) : Int) + (H : Int) + (((Q + 1 : Nat) : Int) - 1) * sN).fmod N = (((fN * ((k + H) % N) + (Q + 1) * sN) % N : Nat) : Int)
    rw [Int.fmod_eq_emod_of_nonneg _ (by omega)]
    have e : ((fN * k + sN) % N + (H + Q * sN)) % N = (fN * ((k + H) % N) + (Q + 1) * sN) % N := by
      rw [Nat.mod_add_mod, Nat.add_mod (fN * ((k + H) % N)), hH, ← Nat.add_mod]
      congr 1
      rw [Nat.add_mul, Nat.one_mul]; omega
    have e3 : (((Q + 1 : Nat) : Int) - 1) * (sN : Int) = ((Q * sN : Nat) : Int) := by push_cast; congr 1; omega
    rw [← e, e3, Int.add_assoc]; push_cast; rfl
  rw [e1, e2, hmov]
  exact ((List.reverse_perm tab).map _).map _
theorem unit_odd {f : Nat} (h : f ∈ unitsL) : f % 2 = 1 := by
  have := (List.mem_filter.mp h).2
  rw [Bool.and_eq_true] at this
  simpa using this.1
section
variable {p mo f sh : Int} {n : Nat}
theorem odd_half {f H x : Nat} (ho : f % 2 = 1) : (x + f * H) % (2 * H) = (x + H) % (2 * H) := by
  obtain ⟨c, rfl⟩ : ∃ c, f = 2 * c + 1 := ⟨f / 2, by omega⟩
  rw [show x + (2 * c + 1) * H = x + H + 2 * H * c by rw [Nat.add_mul, Nat.one_mul, Nat.mul_right_comm, Nat.add_comm (2 * H * c), Nat.add_assoc], Nat.add_mul_mod_self_left]
theorem moved_perm (hP : PM p mo n) (hf : FOK f) (h0 : 0 ≤ sh) (h1 : sh < n) :
    ((marksOf p mo f sh n).map fun m => (p * m).fmod n).Perm ((marksOf p mo f sh n).map fun m => (m + (n : Int).fdiv 2 + (p - 1) * sh).fmod n) := by
  obtain ⟨fN, rfl, hfm⟩ := unit_mem hf
  obtain ⟨sN, rfl⟩ : ∃ sN : Nat, sh = sN := ⟨sh.toNat, by omega⟩
  have hodd := unit_odd hfm
  rw [marks_tab hP]
  rcases hP with ⟨rfl, rfl, rfl⟩ | ⟨rfl, rfl, rfl⟩ | ⟨rfl, rfl, rfl⟩
  · exact moved_gen (Q := 2) (N := 8) (H := 4) (by decide) (fun k => by rw [Nat.mul_mod_mod, Nat.mul_add]; exact odd_half (H := 4) hodd) mov3
  · exact moved_gen (Q := 4) (N := 24) (H := 12) (by decide) (fun k => by rw [Nat.mul_mod_mod, Nat.mul_add]; exact odd_half (H := 12) hodd) mov5
  · exact moved_gen (Q := 6) (N := 48) (H := 24) (by decide) (fun k => by rw [Nat.mul_mod_mod, Nat.mul_add]; exact odd_half (H := 24) hodd) mov7
theorem tld_index {N F K1 K2 s : Int} (hN : 0 < N) (hF : (F * (F * F) * F) % N = 1 % N) : (F * (F * F) * (((F * K1 + s) % N + (F * K2 + s) % N) % N - 2 * s)) % N = (K1 + K2) % N := by
  obtain ⟨a, ha⟩ : ∃ a, F * K1 + s = (F * K1 + s) % N + N * a := ⟨_, (Int.emod_add_mul_ediv _ _).symm⟩
  obtain ⟨b, hb⟩ : ∃ b, F * K2 + s = (F * K2 + s) % N + N * b := ⟨_, (Int.emod_add_mul_ediv _ _).symm⟩
  obtain ⟨c, hc⟩ : ∃ c, (F * K1 + s) % N + (F * K2 + s) % N = ((F * K1 + s) % N + (F * K2 + s) % N) % N + N * c := ⟨_, (Int.emod_add_mul_ediv _ _).symm⟩
  obtain ⟨d, hd⟩ : ∃ d, F * (F * F) * F = 1 + N * d := by
    have h2 : (F * (F * F) * F - 1) % N = 0 := Int.emod_eq_emod_iff_emod_sub_eq_zero.mp hF
    obtain ⟨d, hd⟩ := Int.dvd_of_emod_eq_zero h2
    exact ⟨d, by omega⟩
  generalize (F * K1 + s) % N = A at *
  generalize (F * K2 + s) % N = B at *
  generalize (A + B) % N = C at *
  have key : F * (F * F) * (C - 2 * s) = (K1 + K2) + N * (d * (K1 + K2) - F * (F * F) * (a + b + c)) := by
    have hC : C - 2 * s = F * (K1 + K2) - N * (a + b + c) := by
      rw [Int.mul_add, Int.mul_add, Int.mul_add]; omega
    rw [hC, Int.mul_sub, ← Int.mul_assoc (F * (F * F)) F (K1 + K2), hd, Int.add_mul, Int.one_mul, Int.mul_sub N, Int.mul_assoc N d, Int.mul_left_comm (F * (F * F)) N, Int.add_sub_assoc]
  rw [key, Int.add_mul_emod_self_left]
theorem told_ok (hP : PM p mo n) (hf : FOK f) (h0 : 0 ≤ sh) (h1 : sh < n) : toldOK (pws p mo n) (marksOf p mo f sh n) p mo f sh := by
  intro i j hi hj
  obtain ⟨fN, rfl, hfm⟩ := unit_mem hf
  obtain ⟨sN, rfl⟩ : ∃ sN : Nat, sh = sN := ⟨sh.toNat, by omega⟩
  have hsz := hP.size
  have hi' : i < p.toNat := by omega
  have hj' : i + j < p.toNat := by omega
  have htl : (tabOf p).length = p.toNat := by rw [← tab_all hP]; simp
  have hget : ∀ k, k < p.toNat → (marksOf p mo fN sN n).getD k 0 = ((fN : Int) * ((tabOf p).getD k 0 : Nat) + sN) % n := fun k hk => by
    rw [marks_tab hP, List.getD_eq_getElem?_getD, List.getElem?_map, List.getD_eq_getElem?_getD, List.getElem?_eq_getElem (by omega)]
    show ((((fN * (tabOf p)[k] + sN) % n : Nat)) : Int) = _
    push_cast; rfl
  have h4 : ((fN : Int) * ((fN : Int) * fN) * fN) % (n : Int) = 1 % (n : Int) := by
    have h48 := four48 fN hfm
    have : (fN * (fN * fN) * fN) % n = 1 % n := by
      have hd : n ∣ 48 := by rcases hP with ⟨_, _, rfl⟩ | ⟨_, _, rfl⟩ | ⟨_, _, rfl⟩ <;> decide
      rw [← Nat.mod_mod_of_dvd _ hd, h48]
    exact_mod_cast this
  have hix := tld_index (K1 := ((tabOf p).getD i 0 : Nat)) (K2 := ((tabOf p).getD (i + j) 0 : Nat)) (s := sN) (show (0 : Int) < n by omega) h4
  rw [pws_length, hget i hi', hget (i + j) hj', Int.fmod_eq_emod_of_nonneg _ (by omega), Int.fmod_eq_emod_of_nonneg _ (by omega), hix]
  have eN : (((((tabOf p).getD i 0 : Nat) : Int) + (((tabOf p).getD (i + j) 0 : Nat) : Int)) % (n : Int)).toNat = ((tabOf p).getD i 0 + (tabOf p).getD (i + j) 0) % n := by
    rw [← Int.natCast_add, ← Int.natCast_emod, Int.toNat_natCast]
  rw [eN]
  have hall := List.all_eq_true.mp (List.all_eq_true.mp (tld_all hP) i (List.mem_range.mpr hi')) j (List.mem_range.mpr (by omega))
  rw [Bool.or_eq_true] at hall
  rcases hall with h | h
  · simp at h; omega
  · exact eq_of_beq h
end
end Mine
end

section
open PySem PySem.W PyProof.Rows PySem.Calls PySem.Spec
set_option linter.unusedVariables false
set_option maxRecDepth 100000
set_option maxHeartbeats 8000000
namespace Mine

section
variable {prog : Program} {w : World} {A : Around} {s : Shared} {K : Frag} {p : Program} {loose : List Str} {mean : ExcName → Option Value} {mg mb : Str → Option Value}
  {R : Result → Shared → Prop} {name qual : Str} {params : Arguments} {body : List Stmt} {scope : Scope} {dV kV doc pm cdv ct oc : Value} {an od : Option Addr} {osl : Array (Option Value)} {f : Addr} {args : Args} {binds : List (Str × Value)}
/-- entry of a def with cells from the outermost caller -/
theorem enter_top (X : K.In s.heap) (T : Top p loose mean mg mb s.heap) (hA : A.frames = some [])
    (ho : K.lookup f = some ⟨oc, od, .func (fnOf name qual params body scope dV kV doc pm an cdv ct), osl⟩) (hcd : codeIn K cdv qual = true) (hroom : A.depth < recursionLimit)
    (hbind : BindsTo s (fnOf name qual params body scope dV kV doc pm an cdv ct) args binds) (hkind : (binds.all fun y => scope.names.lookup y.1 == some .local || scope.names.lookup y.1 == some .cell) = true)
    (hnd : ((cellsFrom 0 scope.names []).map (·.1)).Nodup)
    (h : ∀ L' h₁ tk cells, Fr s.heap L' h₁ (bindL (envOfC qual scope L' f cdv).kindOf binds fun _ => none) → News s.heap L' h₁ cells →
      CellsAre (bindC (envOfC qual scope L' f cdv).kindOf binds fun _ => none) (cellsFrom (L' + 1) scope.names []) cells → Below A s.heap [] s.heap →
      wpAny (model prog w) (A.deeper (envOfC qual scope L' f cdv)) (execs body (envOfC qual scope L' f cdv))
        (fun fl s' => R (.ok (.ret (match fl with | .ret v => v | _ => .none))) s')
        (fun e s' => wpAny (model prog w) (A.deeper (envOfC qual scope L' f cdv)) (leaving (envOfC qual scope L' f cdv) e) (fun _ s'' => R (.error e) s'') (fun e' s'' => R (.error e') s'') s')
        { s with heap := h₁, toks := tk })
    (hco : scope.isCoroutine = false) (hgen : scope.isGenerator = false) (hk : scope.kind = .function) : codeAny (model prog w) A (.call (.ref f) args) R s := by
  refine codeAny_call_function hroom (X _ _ ho) rfl hco hgen rfl (codeRec_of X hcd) (hbind _ _ _ _ ?_)
  refine wpAny_newFunctionEnv_cells hk (kindsX hkind _) fun env' he s' x => ?_
  subst he
  refine ⟨T.nolimit.keeps x.toInCall.keep, codeAny_func ?_⟩
  obtain ⟨h₁, tk, rfl, htk⟩ := x.done
  obtain ⟨cells, NC, Y⟩ := Cl.news (h₀ := s.heap) (Nat.le_refl _) fun n c hm => ⟨x.cell n c (lookup_of_mem_nodup (cellsFrom_names scope.names 0 (s.heap.objs.size + 1) [] [] rfl ▸ hnd) hm), x.above n c hm⟩
  exact h s.heap.objs.size h₁ tk cells ⟨x.toInCall.ns, x.toInCall.keep, Nat.le_refl _⟩ NC Y ⟨hA, fun _ _ e => e, trivial⟩
end
theorem cells_cons {cm : Str → Option Value} {n : Str} {c : Addr} {cs : List (Str × Addr)} {cells : List (Addr × Obj)} (x : CellsAre cm ((n, c) :: cs) cells) : ∃ o cells', cells = (c, o) :: cells' ∧ o.data = .cell (cm n) ∧ CellsAre cm cs cells' := by
  cases x with | cons h r => exact ⟨_, _, rfl, h, r⟩
theorem cells_nil {cm : Str → Option Value} {cells : List (Addr × Obj)} (x : CellsAre cm [] cells) : cells = [] := by cases x; rfl
theorem news_new {h₀ hz h : Heap} {L r : Addr} {o : Obj} {m : Str → Option Value} {A own : List (Addr × Obj)} (F : Fr h₀ L hz m) (N : News h₀ L hz (A ++ own)) (hk : ∀ b o, hz.get? b = some o → h.get? b = some o) (hr : hz.get? r = none) (ho : h.get? r = some o) :
    News h₀ L h (A ++ (r, o) :: own) := fun p hp => by
  have key : p = (r, o) ∨ p ∈ A ++ own := by
    simp only [List.mem_append, List.mem_cons] at hp ⊢
    rcases hp with h | h | h
    · exact .inr (.inl h)
    · exact .inl h
    · exact .inr (.inr h)
  rcases key with rfl | hp
  · refine ⟨ho, fun q => ?_, ?_⟩
    · obtain ⟨oL, _, _, e, _⟩ := F.ns
      subst q; rw [hr] at e; cases e
    · cases q : h₀.get? r with
      | none => rfl
      | some o' => have := F.keep r o' q; rw [hr] at this; cases this
  · exact ⟨hk _ _ (N p hp).1, (N p hp).2⟩
theorem off_new {h₀ hz : Heap} {L r : Addr} {o : Obj} {A own : List (Addr × Obj)} {ids : List Addr} (h : OwnOff own ids) (hr : hz.get? r = none) (N : News h₀ L hz (A ++ own)) (hA : A.map (·.1) = ids) : OwnOff ((r, o) :: own) ids := fun p hp b hb => by
  rcases List.mem_cons.mp hp with rfl | hp
  · subst hA
    obtain ⟨q, hq, rfl⟩ := List.mem_map.mp hb
    intro e
    have := (N q (List.mem_append_left _ hq)).1
    rw [← show r = q.1 from e, hr] at this
    cases this
  · exact h p hp b hb
abbrev ids12 (L : Addr) : List Addr := [L + 1 + 1 + 1 + 1 + 1 + 1 + 1 + 1 + 1 + 1 + 1 + 1, L + 1 + 1 + 1 + 1 + 1 + 1 + 1 + 1 + 1 + 1 + 1, L + 1 + 1 + 1 + 1 + 1 + 1 + 1 + 1 + 1 + 1, L + 1 + 1 + 1 + 1 + 1 + 1 + 1 + 1 + 1, L + 1 + 1 + 1 + 1 + 1 + 1 + 1 + 1, L + 1 + 1 + 1 + 1 + 1 + 1 + 1, L + 1 + 1 + 1 + 1 + 1 + 1, L + 1 + 1 + 1 + 1 + 1, L + 1 + 1 + 1 + 1, L + 1 + 1 + 1, L + 1 + 1, L + 1]
/-- all that stands beside the frame and some cells, as a ledger -/
theorem own_all {h₀ h : Heap} {L : Addr} {m : Str → Option Value} (F : Fr h₀ L h m) (ids : List Addr) :
    ∃ own, News h₀ L h own ∧ OwnOff own ids ∧ ∀ b ob, b ≠ L → b ∉ ids → h₀.get? b = none → h.get? b = some ob → (b, ob) ∈ own := by
  refine ⟨ownOf h₀ ((List.range h.objs.size).filter fun b => b != L && !ids.contains b) h, ?_, ?_, ?_⟩
  · exact news_ownOf (L := L) (fun hm => by simpa using (List.mem_filter.mp hm).2)
  · intro p hp b hb
    have := (List.mem_filter.mp (ownOf_sub p hp)).2
    simp at this
    intro e
    exact this.2 (e ▸ hb)
  · intro b ob h1 h2 h3 h4
    refine mem_ownOf (List.mem_filter.mpr ⟨List.mem_range.mpr (Heap.lt_size h4), ?_⟩) h3 h4
    simp [h1, h2]
theorem tups_keep {h₀ h₅ h' : Heap} {L : Addr} {m m' : Str → Option Value} {A own news : List (Addr × Obj)} {ids : List Addr} (F₅ : Fr h₀ L h₅ m) (N₅ : News h₀ L h₅ A) (hA : A.map (·.1) = ids) (hc : ∀ p ∈ A, ∃ v, p.2.data = .cell v)
    (hall : ∀ b ob, b ≠ L → b ∉ ids → h₀.get? b = none → h₅.get? b = some ob → (b, ob) ∈ own) (F' : Fr h₀ L h' m') (N' : News h₀ L h' news) (hs : ∀ p ∈ own, p ∈ news) : ∀ t i, IsTup h₅ t i → IsTup h' t i := by
  intro t i x
  have hne := F₅.tup_ne x
  obtain ⟨o, ho, hcl, n, hd⟩ := x
  refine ⟨o, ?_, hcl, n, hd⟩
  cases hq : h₀.get? t with
  | some o' =>
    have : o' = o := by have := F₅.keep t o' hq; rw [ho] at this; exact (Option.some.inj this).symm
    exact this ▸ F'.keep t o' hq
  | none =>
    refine (N' _ (hs _ (hall t o hne ?_ hq ho))).1
    intro hm
    subst hA
    obtain ⟨p, hp, rfl⟩ := List.mem_map.mp hm
    have e := (N₅ p hp).1
    rw [ho] at e
    cases Option.some.inj e
    obtain ⟨v, hv⟩ := hc p hp
    rw [hd] at hv; cases hv
theorem fresh_off {h₀ hz : Heap} {L r : Addr} {m : Str → Option Value} {A own : List (Addr × Obj)} {ids : List Addr} (F : Fr h₀ L hz m) (N : News h₀ L hz (A ++ own)) (hA : A.map (·.1) = ids) (hr : hz.get? r = none) : r ≠ L ∧ r ∉ ids ∧ h₀.get? r = none := by
  refine ⟨?_, ?_, ?_⟩
  · rintro rfl; obtain ⟨oL, _, _, e, _⟩ := F.ns; rw [hr] at e; cases e
  · intro hm
    subst hA
    obtain ⟨p, hp, rfl⟩ := List.mem_map.mp hm
    have := (N p (List.mem_append_left _ hp)).1
    rw [hr] at this; cases this
  · cases q : h₀.get? r with
    | none => rfl
    | some o' => have := F.keep r o' q; rw [hr] at this; cases this
theorem news_cat {h₀ h : Heap} {L : Addr} {A own : List (Addr × Obj)} (N : News h₀ L h A) (No : News h₀ L h own) : News h₀ L h (A ++ own) := fun p hp => by
  rcases List.mem_append.mp hp with h | h
  · exact N p h
  · exact No p h
theorem news_left {h₀ h : Heap} {L : Addr} {A own : List (Addr × Obj)} (N : News h₀ L h (A ++ own)) : News h₀ L h A := fun p hp => N p (List.mem_append_left _ hp)
theorem eqAt_ints {vs ws : List Value} {ns : List Int} (x : IntsAre vs ns) : IntsAre ws ns → ∀ (A : Around) (s : Shared) (j : Nat) (h1 : j < vs.length) (h2 : j < ws.length), SeqAt.EqAt A s vs[j] ws[j] true := by
  induction x generalizing ws with
  | nil => intro _ _ _ j h; exact absurd h (Nat.not_lt_zero j)
  | cons n t r ih =>
    intro y A s j h1 h2
    cases y with
    | cons _ u r' =>
      cases j with
      | zero => exact eqAt_same A s n t u
      | succ j => exact ih r' A s j (Nat.lt_of_succ_lt_succ h1) (Nat.lt_of_succ_lt_succ h2)
theorem ne_same {prog : Program} {w : World} {A : Around} {E : Value → Shared → Prop} {s : Shared} {l b : Addr} {vs ws : List Value} {ns : List Int} {Q : Value → Shared → Prop} (hl : s.heap.IsList l vs.toArray) (hb : s.heap.IsList b ws.toArray) (hi : IntsAre vs ns) (hj : IntsAre ws ns) (hu : A.units < cLine)
    (h : Q (.bool false) s) : wpAny (model prog w) A (compareOp .NotEq (.ref l) (.ref b)) Q E s := by
  refine PySem.EqBoolInt.of_rcne (SeqAt.RcNeAt.lists (e := fun _ => true) hl hb (by rw [List.size_toArray, List.size_toArray, hi.length, hj.length]) hu fun j h1 h2 => ?_) ?_
  · simpa using eqAt_ints hi hj A.in1 s j (by simpa using h1) (by simpa using h2)
  · have e : (!(List.range vs.toArray.size).all fun _ => true) = false := by simp
    rw [e]; exact h
theorem sorted_G {prog : Program} {w : World} {A : Around} {E : Value → Shared → Prop} {s : Shared} {h₀ : Heap} {L : Addr} {m : Str → Option Value} {B own : List (Addr × Obj)} {ids : List Addr} {l : Addr} {vs : List Value} {ns : List Int} {Q : Value → Shared → Prop}
    (F : Fr h₀ L s.heap m) (N : News h₀ L s.heap (B ++ own)) (hB : B.map (·.1) = ids) (off : OwnOff own ids) (hl : s.heap.IsList l vs.toArray) (hI : IntsAre vs ns) (h64 : vs.length < 64)
    (h : ∀ (r : Addr) (h' : Heap) (vs' : List Value) (ns' : List Int) (e : Nat), Fr h₀ L h' m → News h₀ L h' (B ++ (r, W.listOf vs'.toArray e) :: own) → OwnOff ((r, W.listOf vs'.toArray e) :: own) ids →
      IntsAre vs' ns' → ns'.Perm ns → ns'.Pairwise (· ≤ ·) → Q (.ref r) { s with heap := h' }) :
    wpAny (model prog w) A (call (.builtin "sorted") [.ref l]) Q E s := by
  have hn : s.heap.get? (s.heap.objs.size + 1) = none := Heap.get?_none_of_le (Nat.le_succ _)
  exact sorted_N F N hl hI h64 fun h' vs' ns' e F' N' hi hp hw => h _ h' vs' ns' e F' (news_put F hn (fun p hp => N' p (.tail _ hp)) (N' _ (.head _)).1) (off_new off hn N hB) hi hp hw
theorem item_own {prog : Program} {w : World} {A : Around} {E : Value → Shared → Prop} {s : Shared} {value slice : Expr} {h₀ : Heap} {L r : Addr} {news : List (Addr × Obj)} {ws : List Value} {ns : List Int} {c : Nat} {k : Int} {u : Tok} {Q : Value → Shared → Prop}
    (N : News h₀ L s.heap news) (hm : (r, W.listOf ws.toArray c) ∈ news) (hi : IntsAre ws ns) (h0 : 0 ≤ k) (h1 : k < ns.length) (h2 : k < 1000) (h : ∀ t, Q (.int (ns.getD k.toNat 0) t) s)
    (hs : subscripted slice false (.ref r) (.int k u) = operate [.ref r, .int k u] (getItem (.ref r) (.int k u)) := by with_unfolding_all rfl) (hg : ∀ r', letTemporaryGo value (.ref r) r' = pure () := by intro _; with_unfolding_all rfl) :
    wpAny (model prog w) A (subscriptTail value slice (.ref r) (.int k u)) Q E s := by
  obtain ⟨t, e⟩ := ints_get hi (k := k.toNat) (by omega)
  exact PyProof.Rows.item_list (x := .int (ns.getD k.toNat 0) t) (News.isList N hm) h0 (by omega) (by simpa using e) (h t) hs hg
theorem drw_length (ns : List Int) : (drw ns).length = 6 := by
  simp only [drw, List.length_append, List.length_map, List.length_drop, List.length_cons, List.length_nil, List.length_take]; omega
theorem drw_bound (ns : List Int) : ∀ x ∈ drw ns, 0 ≤ x ∧ x < 1000 := by
  intro x hx
  rcases List.mem_append.mp hx with h | h
  · obtain ⟨y, _, rfl⟩ := List.mem_map.mp h
    exact ⟨Int.fmod_nonneg_of_pos _ (by decide), Int.fmod_lt_of_pos _ (by decide)⟩
  · have := List.mem_of_mem_drop h
    simp only [List.mem_cons, List.not_mem_nil, or_false] at this
    omega
theorem getD_draws (ns : List Int) (k : Nat) : 0 ≤ (drw ns).getD k 0 ∧ (drw ns).getD k 0 < 1000 := by
  rw [List.getD_eq_getElem?_getD]
  cases e : (drw ns)[k]? with
  | none => exact ⟨by decide, by decide⟩
  | some x => exact drw_bound ns x (List.mem_of_getElem? e)
/-- the size, by a draw -/
def prm (d : Int) : Int := [3, 5, 7].getD (d.fmod 3).toNat 0
def mor (d : Int) : Int := [1, 3, 4].getD (d.fmod 3).toNat 0
theorem prm_mor {d : Int} (h : 0 ≤ d) : (prm d = 3 ∧ mor d = 1) ∨ (prm d = 5 ∧ mor d = 3) ∨ (prm d = 7 ∧ mor d = 4) := by
  have h3 := Int.fmod_nonneg_of_pos d (b := 3) (by decide)
  have h4 := Int.fmod_lt_of_pos d (b := 3) (by decide)
  have : (d.fmod 3).toNat = 0 ∨ (d.fmod 3).toNat = 1 ∨ (d.fmod 3).toNat = 2 := by omega
  unfold prm mor
  rcases this with h | h | h <;> rw [h] <;> decide

theorem joinA_single {α : Type} (g : α → Nat) : ∀ l : List α, joinA [] (l.map fun k => [g k]) = l.map g
  | [] => rfl
  | [a] => rfl
  | a :: b :: r => by
    show [g a] ++ [] ++ joinA [] ((b :: r).map fun k => [g k]) = _
    rw [joinA_single g (b :: r)]; rfl
theorem mul3 {prog : Program} {w : World} {A : Around} {E : Value → Shared → Prop} {s : Shared} {r : List Nat} {t u : Tok} {Q : Value → Shared → Prop} (hr : 0 < r.length) (hz : r.length ≤ 1000) (h : ∀ t' k, Q (.str ⟨(r ++ r ++ r).toArray⟩ t') { s with toks := k }) :
    wpAny (model prog w) A (binaryOp .Mult (.str ⟨r.toArray⟩ t) (.int 3 u)) Q E s := by
  have hx : (⟨r.toArray⟩ : PySem.Str).length = r.length := by simp [PySem.Str.length]
  refine SB.mul ⟨by decide, ?_, ?_⟩ fun t' k => ?_
  · intro _ _; rw [hx]; omega
  · intro _ _
    rw [hx]
    have : r.length * Int.toNat 3 ≤ 3000 := by show r.length * 3 ≤ 3000; omega
    simp [Builtin.Str.tooLong, sizeLine_eq]; omega
  · have e : Txt.mul ⟨r.toArray⟩ 3 = ⟨(r ++ r ++ r).toArray⟩ := by
      unfold Txt.mul
      rw [if_neg (by decide), if_neg (by rw [hx]; simp; intro h; simp [h] at hr)]
      apply Str.ext'
      apply Array.ext'
      simp [List.replicate]
    rw [e]; exact h t' k
theorem three_list {h : Heap} {l : Addr} {a b c : Int} {ta tb tc : Tok} (x : h.IsList l #[.int a ta, .int b tb, .int c tc]) : ∃ vs : List Value, h.IsList l vs.toArray ∧ IntsAre vs [a, b, c] :=
  ⟨[.int a ta, .int b tb, .int c tc], x, .cons _ _ (.cons _ _ (.cons _ _ .nil))⟩

theorem off_lt {D : Addr} {o : Obj} {A own : List (Addr × Obj)} {ids : List Addr} (h : OwnOff own ids) (hA : A.map (·.1) = ids) (hl : ∀ p ∈ A, p.1 < D) : OwnOff ((D, o) :: own) ids := fun p hp b hb => by
  rcases List.mem_cons.mp hp with rfl | hp
  · subst hA
    obtain ⟨q, hq, rfl⟩ := List.mem_map.mp hb
    exact Nat.ne_of_gt (hl q hq)
  · exact h p hp b hb
theorem three_strs {h : Heap} {l : Addr} {a b c : PySem.Str} {ta tb tc : Tok} (x : IsTup h l #[.str a ta, .str b tb, .str c tc]) : ∃ vs : List Value, IsTup h l vs.toArray ∧ StrsAre vs [a, b, c] :=
  ⟨[.str a ta, .str b tb, .str c tc], x, .cons _ _ (.cons _ _ (.cons _ _ .nil))⟩
theorem end_is {k : Int} (h0 : 0 ≤ k) (h1 : k < 3) : ∃ e : List Nat, ([Str.ofString "\n", Str.ofString "\r", Str.ofString "\r\n"].getD k.toNat PySem.Str.empty) = ⟨e.toArray⟩ ∧ (e = [10] ∨ e = [13] ∨ e = [13, 10]) := by
  have : k.toNat = 0 ∨ k.toNat = 1 ∨ k.toNat = 2 := by omega
  rcases this with h | h | h <;> rw [h]
  · exact ⟨[10], by decide +kernel, .inl rfl⟩
  · exact ⟨[13], by decide +kernel, .inr (.inl rfl)⟩
  · exact ⟨[13, 10], by decide +kernel, .inr (.inr rfl)⟩
theorem two_list {h : Heap} {l : Addr} {a b : Int} {ta tb : Tok} (x : h.IsList l #[.int a ta, .int b tb]) : ∃ vs : List Value, h.IsList l vs.toArray ∧ IntsAre vs [a, b] :=
  ⟨[.int a ta, .int b tb], x, .cons _ _ (.cons _ _ .nil)⟩

end Mine
end

section
open PySem PySem.W PyProof.Rows PySem.Calls PySem.Spec
set_option linter.unusedVariables false
set_option maxRecDepth 100000
set_option maxHeartbeats 200000000
namespace Mine
theorem hideG_MJ {P : Prop} (h : ∀ G : Prop, (P → G) → G) : P := h P id
local macro_rules | `(tactic| k_room) => `(tactic| ((try simp only [depth_mark, depth_under_make, depth_under_kw, depth_in1, depth_deeper, depth_caller]); (try dsimp only [ktrTop]); first | decide | omega))
local macro_rules | `(tactic| k_units) => `(tactic| ((try simp only [units_in1, units_deeper, Around.mark_units, units_caller]); (try dsimp only [ktrTop]); first | decide | omega))
local macro_rules | `(tactic| walk_at "call ref") => `(tactic| (refine stop_out ?_))
local macro_rules | `(tactic| walk_at "exec Assign cons ListComp") => `(tactic| (refine stop_out ?_))
local macro_rules | `(tactic| walk_at "eval ListComp") => `(tactic| (refine stop_out ?_))
local macro_rules | `(tactic| walk_at "call builtin:len") => `(tactic| (refine stop_out ?_))
local macro_rules | `(tactic| walk_at "subscriptTail Name Constant ref int") => `(tactic| (refine stop_out ?_))
local macro_rules | `(tactic| walk_at "call type:range") => `(tactic| (refine stop_out ?_))
local macro_rules | `(tactic| walk_at "call builtin:str.join") => `(tactic| (refine stop_out ?_))
local macro_rules | `(tactic| walk_at "compareOp NotEq ref ref") => `(tactic| (refine stop_out ?_))
local macro_rules | `(tactic| walk_at "Exists") => `(tactic| (refine stop_out ?_))
local macro_rules | `(tactic| walk_at "binaryOp Add ref ref") => `(tactic| (refine stop_out ?_))
local macro_rules | `(tactic| walk_at "call builtin:sorted") => `(tactic| (refine stop_out ?_))
local macro_rules | `(tactic| walk_at "eval IfExp") => `(tactic| ((with_reducible show wpAny _ _ (eval (Expr.IfExp _ (Expr.BinOp _ _ _ _) _ _) _) _ _ _); refine stop_out ?_))
local macro_rules | `(tactic| walk_at "execs cons") => `(tactic| (refine wpAny_execs_cons ?_))
theorem kf8 (w : World) : hd.heap_39 w.params = hd.heap_39 w.params ∧ PySem.Challenge.rw_wk0002_01.row.prog = PySem.Challenge.rw_wk0002_01.row.prog := by w_top off; k_fill; exact ⟨rfl, rfl⟩
theorem c_law (w : World) (mean : ExcName → Option Value) (mg mb : Str → Option Value) (l : Addr) (vs : List Value) (ns : List Int) {s : Shared} {R : Result → Shared → Prop}
    (X : (hd.heap_39 w.params).In s.heap) (T : Top hd.view_39 (looseW hd.view_39 [Str.ofString "_twin_re_1", Str.ofString "_twin_re_2"]) mean mg mb s.heap) (hl : s.heap.IsList l vs.toArray) (hi : IntsAre vs ns) (hlen : ns.length < 64) (hb : AllBare s.gens)
    (hret : ∀ h' tk' G, AllBare G → (∀ b o, s.heap.get? b = some o → h'.get? b = some o) → R (.ok (.ret (.bool true))) { s with heap := h', toks := tk', gens := G }) :
    codeAny (model PySem.Challenge.rw_wk0002_01.row.prog w) callerA (.call (.ref 147) ⟨[.ref l], []⟩) R s := by
  k_dflt (refine' enter_top X T rfl ?k6 ?k7 ?k8 ?k9 ?kB ?kD ?_ ?c2 ?c3 ?c4)
  case k6 => k_is
  case k7 => k_is
  case k8 => decide
  case k9 => exact BindsTo.of_eq rfl
  case kB => exact rfl
  case kD => decide +kernel
  case c2 => exact rfl
  case c3 => exact rfl
  case c4 => exact rfl
  k_whole
  intro L₁ h₁ tk cells F₁ N₁ Y B₁
  refine hideG_MJ fun gG gk => ?_
  obtain ⟨oEn, c1, e1, dEn, Y1⟩ := cells_cons Y
  obtain ⟨oRu, c2, e2, dRu, Y2⟩ := cells_cons Y1
  obtain ⟨oSt, c3, e3, dSt, Y3⟩ := cells_cons Y2
  obtain ⟨oFi, c4, e4, dFi, Y4⟩ := cells_cons Y3
  obtain ⟨oRi, c5, e5, dRi, Y5⟩ := cells_cons Y4
  obtain ⟨oOr, c6, e6, dOr, Y6⟩ := cells_cons Y5
  obtain ⟨oMa, c7, e7, dMa, Y7⟩ := cells_cons Y6
  obtain ⟨oSh, c8, e8, dSh, Y8⟩ := cells_cons Y7
  obtain ⟨oFa, c9, e9, dFa, Y9⟩ := cells_cons Y8
  obtain ⟨oSi, c10, e10, dSi, Y10⟩ := cells_cons Y9
  obtain ⟨oPo, c11, e11, dPo, Y11⟩ := cells_cons Y10
  obtain ⟨oPr, c12, e12, dPr, Y12⟩ := cells_cons Y11
  refine gk ?_
  clear gk gG
  have e13 := cells_nil Y12
  replace dEn : oEn.data = .cell none := dEn.trans rfl
  replace dRu : oRu.data = .cell none := dRu.trans rfl
  replace dSt : oSt.data = .cell none := dSt.trans rfl
  replace dFi : oFi.data = .cell none := dFi.trans rfl
  replace dRi : oRi.data = .cell none := dRi.trans rfl
  replace dOr : oOr.data = .cell none := dOr.trans rfl
  replace dMa : oMa.data = .cell none := dMa.trans rfl
  replace dSh : oSh.data = .cell none := dSh.trans rfl
  replace dFa : oFa.data = .cell none := dFa.trans rfl
  replace dSi : oSi.data = .cell none := dSi.trans rfl
  replace dPo : oPo.data = .cell none := dPo.trans rfl
  replace dPr : oPr.data = .cell none := dPr.trans rfl
  clear Y Y1 Y2 Y3 Y4 Y5 Y6 Y7 Y8 Y9 Y10 Y11 Y12
  subst e13
  subst e12
  subst e11
  subst e10
  subst e9
  subst e8
  subst e7
  subst e6
  subst e5
  subst e4
  subst e3
  subst e2
  subst e1
  refine hideG_MJ fun gG gk => ?_
  obtain ⟨m0, F₁'⟩ : ∃ m0 : Str → Option Value, Fr s.heap L₁ h₁ (fun y => if y = Str.ofString "script" then some (.ref l) else m0 y) := ⟨_, keep1 (a := Str.ofString "script") (v := .ref l) F₁ rfl⟩
  refine gk ?_
  clear gk gG
  clear F₁
  have own₀ : OwnOff [] [L₁ + 1 + 1 + 1 + 1 + 1 + 1 + 1 + 1 + 1 + 1 + 1 + 1, L₁ + 1 + 1 + 1 + 1 + 1 + 1 + 1 + 1 + 1 + 1 + 1, L₁ + 1 + 1 + 1 + 1 + 1 + 1 + 1 + 1 + 1 + 1, L₁ + 1 + 1 + 1 + 1 + 1 + 1 + 1 + 1 + 1, L₁ + 1 + 1 + 1 + 1 + 1 + 1 + 1 + 1, L₁ + 1 + 1 + 1 + 1 + 1 + 1 + 1, L₁ + 1 + 1 + 1 + 1 + 1 + 1, L₁ + 1 + 1 + 1 + 1 + 1, L₁ + 1 + 1 + 1 + 1, L₁ + 1 + 1 + 1, L₁ + 1 + 1, L₁ + 1] := fun p hp => nomatch hp
  show wpAny _ _ _ _ _ _
  k_fold
  k_steps
  with_reducible rename Fr _ _ _ _ => F₂
  with_reducible rename News _ _ _ _ => N₂
  refine stop_in ?_
  refine' c_draws w mean mg mb l vs ns h₁ _ _ _ _ _ _ _ _ _ _ _ _ _ _ _ _ _ B₁ ?FD1 X T ?kD1 ?preD1 ?r1D1 ?r2D1 ?finD1
  case FD1 => exact F₂
  case kD1 => rfl
  case preD1 => exact ⟨rfl, hl.at fun o e => F₂.keep _ o e, hi, hlen⟩
  case r1D1 => k_room
  case r2D1 => k_units
  intro v h₃ tk₃ hk₃ hh1
  refine hideG_MJ fun gG gk => ?_
  obtain ⟨lD, wsD, cD, rfl, hnD, hoD, hiD⟩ := hh1
  have F₃ := F₂.after hk₃
  have N₃ := news_new (A := [_, _, _, _, _, _, _, _, _, _, _, _]) (own := []) F₂ N₂ hk₃ hnD hoD
  have off₃ := off_new (A := [_, _, _, _, _, _, _, _, _, _, _, _]) (o := W.listOf wsD.toArray cD) own₀ hnD N₂ rfl
  clear F₂ N₂ own₀
  obtain ⟨own, hown⟩ : ∃ own, own = [(lD, W.listOf wsD.toArray cD)] := ⟨_, rfl⟩
  refine gk ?_
  clear gk gG
  have mD : (lD, W.listOf wsD.toArray cD) ∈ own := by rw [hown]; exact .head _
  rw [← hown] at N₃ off₃
  dsimp only [List.cons_append, List.nil_append] at N₃
  k_steps
  refine hideG_MJ fun gG gk => ?_
  obtain ⟨d0, hd0⟩ : ∃ d0, d0 = (drw ns).getD 0 0 := ⟨_, rfl⟩
  refine gk ?_
  clear gk gG
  have bd0 := getD_draws ns 0
  rw [← hd0] at bd0
  have ld := drw_length ns
  refine stop_in ?_
  refine item_own (by k_asm) (.tail _ (by repeat (first | exact mD | refine .tail _ ?_))) hiD (by decide) (by rw [ld]; decide) (by decide) fun t₄ => ?_
  rw [show Int.toNat 0 = 0 from rfl, ← hd0]
  k_steps
  refine stop_in ?_
  refine item_own (by k_asm) (by repeat (first | exact mD | refine .tail _ ?_)) hiD (by decide) (by rw [ld]; decide) (by decide) fun t₅ => ?_
  rw [show Int.toNat 0 = 0 from rfl, ← hd0]
  k_steps
  with_reducible rename Fr _ _ _ _ => F₄
  with_reducible rename News _ _ _ _ => N₄
  have dPr' := ‹_ = Data.cell (some (Value.int ([3, 5, 7].getD (d0.fmod 3).toNat 0) _))›
  refine stop_in ?_
  have epm := prm_mor bd0.1
  refine hideG_MJ fun gG gk => ?_
  obtain ⟨p, hp⟩ : ∃ p, p = prm d0 := ⟨_, rfl⟩
  obtain ⟨mo, hmo⟩ : ∃ mo, mo = mor d0 := ⟨_, rfl⟩
  refine gk ?_
  clear gk gG
  change _ = Data.cell (some (Value.int (prm d0) _)) at dPr'
  change wpAny _ _ (call (.ref 123) [.int (prm d0) _, .int (mor d0) _]) _ _ _
  rw [← hp] at dPr' epm ⊢
  rw [← hmo] at epm ⊢
  have N₅ : News s.heap L₁ _ ([_, _, _, _, _, _, _, _, _, _, _, _] ++ own) := fun q hq => N₄ q (.tail _ (.tail _ hq))
  clear N₄ hown
  refine' c_powers w mean mg mb p mo _ _ _ _ _ _ _ _ _ _ _ _ _ _ _ _ _ _ _ B₁ ?FP1 X T ?kP1 ?preP1 ?r1P1 ?r2P1 ?finP1
  case FP1 => exact F₄
  case kP1 => rfl
  case preP1 => exact ⟨by omega, by omega, by omega, by omega⟩
  case r1P1 => k_room
  case r2P1 => k_units
  intro v h₆ tk₆ hk₆ hh2
  refine hideG_MJ fun gG gk => ?_
  obtain ⟨htk₆, lP, vsP, cP, rfl, hnP, hoP, hPP⟩ := hh2
  dsimp only at hnP hPP htk₆ hk₆
  obtain ⟨lo, hlo0, hPQ⟩ : ∃ lo, 0 < lo ∧ Pairs lo tk₆ h₆ vsP (pws p mo (p * p - 1).toNat) := ⟨_, Nat.succ_pos _, hPP⟩
  clear hPP
  have F₆ := F₄.after hk₆
  have A₆ := newsKeep (news_left N₅) hk₆
  obtain ⟨own₆, No₆, off₆, hall₆⟩ := own_all F₆ (ids12 L₁)
  have hids : ∀ r, (r ≠ L₁ ∧ r ∉ ids12 L₁ ∧ s.heap.get? r = none) → ∀ o, h₆.get? r = some o → (r, o) ∈ own₆ := fun r h o e => hall₆ r o h.1 h.2.1 h.2.2 e
  have mP₆ := hids _ (fresh_off F₄ N₅ rfl hnP) _ hoP
  have mD₆ := hids lD ⟨(N₅ _ (List.mem_append_right _ mD)).2.1, fun hm => off₃ _ mD _ hm rfl, (N₅ _ (List.mem_append_right _ mD)).2.2⟩ _ (hk₆ _ _ (N₅ _ (List.mem_append_right _ mD)).1)
  have N₆ := news_cat A₆ No₆
  have KT : ∀ (h' : Heap) (m' : Str → Option Value) (news : List (Addr × Obj)), Fr s.heap L₁ h' m' → News s.heap L₁ h' news → (∀ q ∈ own₆, q ∈ news) → ∀ t i, IsTup h₆ t i → IsTup h' t i := fun h' m' news F' N' hs => tups_keep F₆ A₆ rfl (List.forall_mem_cons.mpr ⟨⟨_, dEn⟩, List.forall_mem_cons.mpr ⟨⟨_, dRu⟩, List.forall_mem_cons.mpr ⟨⟨_, dSt⟩, List.forall_mem_cons.mpr ⟨⟨_, dFi⟩, List.forall_mem_cons.mpr ⟨⟨_, dRi⟩, List.forall_mem_cons.mpr ⟨⟨_, dOr⟩, List.forall_mem_cons.mpr ⟨⟨_, dMa⟩, List.forall_mem_cons.mpr ⟨⟨_, dSh⟩, List.forall_mem_cons.mpr ⟨⟨_, dFa⟩, List.forall_mem_cons.mpr ⟨⟨_, dSi⟩, List.forall_mem_cons.mpr ⟨⟨_, dPo⟩, List.forall_mem_cons.mpr ⟨⟨_, dPr'⟩, List.forall_mem_nil _⟩⟩⟩⟩⟩⟩⟩⟩⟩⟩⟩⟩) hall₆ F' N' hs
  clear F₄ N₅ A₆ No₆ hids hall₆
  dsimp only [List.cons_append, List.nil_append] at N₆
  obtain ⟨n, hn⟩ : ∃ n : Nat, n = (p * p - 1).toNat := ⟨_, rfl⟩
  rw [← hn] at hPQ
  have hnb : (n : Int) = p * p - 1 ∧ 8 ≤ n ∧ n < 49 := by
    rcases epm with h | h | h <;> (obtain ⟨rfl, _⟩ := h; omega)
  have hvP : vsP.length = n := by rw [hPQ.length, pws_length]
  dsimp only [ids12] at off₆
  obtain ⟨hnb1, hnb2, hnb3⟩ := hnb
  refine gk ?_
  clear gk gG
  k_steps
  with_reducible rename Fr _ _ _ _ => F₇
  with_reducible rename News _ _ _ _ => N₇
  refine stop_in ?_
  have dPo' := ‹_ = Data.cell (some (Value.ref lP))›
  refine call_len_list (News.isList N₇ (by repeat (first | exact mP₆ | refine .tail _ ?_))) ?_ ?_
  · rw [List.size_toArray, hvP]; omega
  rw [List.size_toArray, hvP]
  k_steps
  refine stop_in ?_
  refine item_own (by k_asm) (by repeat (first | exact mD₆ | refine .tail _ ?_)) hiD (by decide) (by rw [ld]; decide) (by decide) fun t₈ => ?_
  refine hideG_MJ fun gG gk => ?_
  obtain ⟨d1, hd1⟩ : ∃ d1, d1 = (drw ns).getD 1 0 := ⟨_, rfl⟩
  refine gk ?_
  clear gk gG
  have bd1 := getD_draws ns 1
  rw [← hd1] at bd1
  rw [show Int.toNat 1 = 1 from rfl, ← hd1]
  k_steps
  with_reducible rename Fr _ _ _ _ => F₉
  with_reducible rename News _ _ _ _ => N₉
  refine stop_in ?_
  refine wpAny_with_toks (n := tk₆) (by dsimp only; omega) ?_
  refine' c_unit w mean mg mb d1 _ _ _ _ _ _ _ _ _ _ _ _ _ _ _ _ _ _ B₁ ?FU1 X T ?kU1 ?preU1 ?r1U1 ?r2U1 ?finU1
  case FU1 => exact F₉
  case kU1 => rfl
  case preU1 => exact bd1
  case r1U1 => k_room
  case r2U1 => k_units
  intro v ha tka hka hh3 htka
  refine hideG_MJ fun gG gk => ?_
  obtain ⟨f, tf, rfl, hf0, hf1, hf2, hf3⟩ := hh3
  refine gk ?_
  clear gk gG
  have Fa := F₉.after hka
  have Na := newsKeep N₉ hka
  clear F₉ N₉
  dsimp only at htka
  k_steps
  refine stop_in ?_
  refine item_own (by k_asm) (by repeat (first | exact mD₆ | refine .tail _ ?_)) hiD (by decide) (by rw [ld]; decide) (by decide) fun tb => ?_
  refine hideG_MJ fun gG gk => ?_
  obtain ⟨d2, hd2⟩ : ∃ d2, d2 = (drw ns).getD 2 0 := ⟨_, rfl⟩
  refine gk ?_
  clear gk gG
  have bd2 := getD_draws ns 2
  rw [← hd2] at bd2
  rw [show Int.toNat 2 = 2 from rfl, ← hd2]
  k_steps
  with_reducible rename Fr _ _ _ _ => Fb
  with_reducible rename News _ _ _ _ => Nb
  refine stop_in ?_
  have dSi' := ‹_ = Data.cell (some (Value.int (n : Int) _))›
  have dFa' := ‹_ = Data.cell (some (Value.int f _))›
  have dSh' := ‹_ = Data.cell (some (Value.int (d2.fmod n) _))›
  refine hideG_MJ fun gG gk => ?_
  obtain ⟨sh, hsh⟩ : ∃ sh, sh = d2.fmod n := ⟨_, rfl⟩
  have hsh0 : 0 ≤ sh := by rw [hsh]; exact Int.fmod_nonneg_of_pos _ (by omega)
  have hsh1 : sh < n := by rw [hsh]; exact Int.fmod_lt_of_pos _ (by omega)
  rw [← hsh] at dSh'
  have hPM : PM p mo n := by
    rcases epm with ⟨rfl, rfl⟩ | ⟨rfl, rfl⟩ | ⟨rfl, rfl⟩
    · exact .inl ⟨rfl, rfl, by omega⟩
    · exact .inr (.inl ⟨rfl, rfl, by omega⟩)
    · exact .inr (.inr ⟨rfl, rfl, by omega⟩)
  have hpb : 2 < p ∧ p < 8 ∧ 0 < mo ∧ mo < 8 ∧ p < n ∧ p.toNat < 8 ∧ (p.toNat : Int) = p := by
    rcases hPM with ⟨h1, h2, h3⟩ | ⟨h1, h2, h3⟩ | ⟨h1, h2, h3⟩ <;> (rw [h1, h2, h3]; decide)
  obtain ⟨hpb1, hpb2, hpb3, hpb4, hpb5, hpb6, hpb7⟩ := hpb
  refine gk ?_
  clear gk gG
  clear epm hn hnb1
  replace hp : id (p = prm d0) := hp
  replace hmo : id (mo = mor d0) := hmo
  replace hf2 : id (f % 2 = 1) := hf2
  replace hf3 : id (f % 3 ≠ 0) := hf3
  refine wpAny_Assign_Name ?_ (by with_unfolding_all rfl)
  refine ListComp_G (fun a y => ∃ t, y = Value.int ((f * (idxN p mo n a : Int) + sh).fmod n) t) ((List.range p.toNat).map Int.ofNat) True (by with_unfolding_all rfl) (by decide) rfl (by decide) (by with_unfolding_all rfl) ?_
  k_steps
  with_reducible rename Fr _ _ _ _ => Fc
  with_reducible rename News _ _ _ _ => Nc
  refine stop_in ?_
  refine src_range rfl (by omega) (by omega) Fc Nc ?mkElt ?mkUse
  case mkElt =>
    intro C i tv s₃ m₃ E' hi9 htv hC hh4 hns hm hF hN htk
    refine hideG_MJ fun gG gk => ?_
    obtain ⟨h₃', tk₃', G₃, rfl, hG₃⟩ := hh4
    obtain ⟨ownE, NE, hallE⟩ := own_every hF
    obtain ⟨oC, hoC, NN⟩ := elt_ledger Fc hC hns hN NE
    dsimp only [List.cons_append] at NN
    obtain ⟨tl, htl⟩ : ∃ tl, tl = own₆ ++ ownE := ⟨_, rfl⟩
    refine gk ?_
    clear gk gG
    rw [← htl] at NN
    have mPt : (lP, W.listOf vsP.toArray cP) ∈ tl := by rw [htl]; exact List.mem_append_left _ mP₆
    have KG := fun (h' : Heap) (tk' : Nat) (news : List (Addr × Obj)) (F' : Fr s.heap L₁ h' _) (N' : News s.heap L₁ h' news) (hs : ∀ q ∈ ownE, q ∈ news) => KeepsG.walked (s := { s with heap := h₃', toks := tk₃', gens := G₃ }) (tk := tk') (G := G₃) hF hallE id F' N' hs
    have mte : ∀ q ∈ ownE, q ∈ tl := fun q hq => by rw [htl]; exact List.mem_append_right _ hq
    clear hN NE
    k_steps
    with_reducible rename Fr _ _ _ _ => Fd
    with_reducible rename News _ _ _ _ => Nd
    refine stop_in ?_
    have mtl : ∀ q ∈ own₆, q ∈ tl := fun q hq => by rw [htl]; exact List.mem_append_left _ hq
    have hPd := hPQ.at (Nat.le_refl _) (KT _ _ _ Fd Nd (fun q hq => by
      have := mtl q hq
      repeat (first | exact this | refine .tail _ ?_)))
    dsimp only at htv htk
    have hsp := idx_spec hPM hi9
    have hTu := Nd.isTup (.head _)
    refine' c_index w mean mg mb lP _ vsP (pws p mo n) (idxN p mo n i) lo tk₆ (i : Int) 1 tv tk₃' _ _ _ _ _ _ _ _ _ _ _ _ _ _ _ _ _ B₁ ?FI1 X T ?kI1 ?preI1 ?r1I1 ?r2I1 ?finI1
    case FI1 => exact Fd
    case kI1 => rfl
    case preI1 => exact ⟨News.isList Nd (by repeat (first | exact mPt | refine .tail _ ?_)), hPd, hTu, hlo0, by omega, by omega, by omega, by omega, hsp.1, hsp.2, by rw [pws_length]; omega, pws_bound hPM⟩
    case r1I1 => k_room
    case r2I1 => k_units
    intro v hI tkI hkI hh5
    refine hideG_MJ fun gG gk => ?_
    obtain ⟨tI, rfl⟩ := hh5
    refine gk ?_
    clear gk gG
    have FI := Fd.after hkI
    have NI := newsKeep Nd hkI
    clear Fd Nd
    k_steps
    with_reducible rename Fr _ _ _ _ => FI
    with_reducible rename News _ _ _ _ => NI
    refine stop_in ?_
    refine' c_mul w mean mg mb f (idxN p mo n i) _ _ _ _ _ _ _ _ _ _ _ _ _ _ _ _ _ _ _ B₁ ?FI2 X T ?kI2 ?preI2 ?r1I2 ?r2I2 ?finI2
    case FI2 => exact FI
    case kI2 => rfl
    case preI2 => have := idx_lt hPM hi9; exact ⟨by omega, by omega, by omega, by omega⟩
    case r1I2 => k_room
    case r2I2 => k_units
    intro v hJ tkJ hkJ hh6
    refine hideG_MJ fun gG gk => ?_
    obtain ⟨tJ, rfl⟩ := hh6
    refine gk ?_
    clear gk gG
    have FJ := FI.after hkJ
    have NJ := newsKeep NI hkJ
    clear FI NI
    k_steps
    with_reducible rename Fr _ _ _ _ => FJ
    with_reducible rename News _ _ _ _ => NJ
    refine stop_in ?_
    refine' c_add w mean mg mb (f * (idxN p mo n i : Int)) sh _ _ _ _ _ _ _ _ _ _ _ _ _ _ _ _ _ _ _ B₁ ?FI3 X T ?kI3 ?preI3 ?r1I3 ?r2I3 ?finI3
    case FI3 => exact FJ
    case kI3 => rfl
    case preI3 => exact trivial
    case r1I3 => k_room
    case r2I3 => k_units
    intro v hI3 tkI3 hkI3 hh7
    refine hideG_MJ fun gG gk => ?_
    obtain ⟨tI3, rfl⟩ := hh7
    refine gk ?_
    clear gk gG
    have FI3 := FJ.after hkI3
    have NI3 := newsKeep NJ hkI3
    clear FJ NJ
    k_steps
    with_reducible rename Fr _ _ _ _ => FK
    with_reducible rename News _ _ _ _ => NK
    refine stop_in ?_
    refine' c_mod w mean mg mb (f * (idxN p mo n i : Int) + sh) n _ _ _ _ _ _ _ _ _ _ _ _ _ _ _ _ _ _ _ B₁ ?FI4 X T ?kI4 ?preI4 ?r1I4 ?r2I4 ?finI4
    case FI4 => exact FK
    case kI4 => rfl
    case preI4 => show (0 : Int) < n; omega
    case r1I4 => k_room
    case r2I4 => k_units
    intro v hI4 tkI4 hkI4 hh8
    refine hideG_MJ fun gG gk => ?_
    obtain ⟨tI4, rfl⟩ := hh8
    refine gk ?_
    clear gk gG
    have FI4 := FK.after hkI4
    have NI4 := newsKeep NK hkI4
    clear FK NK
    k_steps
    · refine stop_in ?_
      exact ⟨_, rfl⟩
    · with_reducible rename Fr _ _ _ _ => FL
      with_reducible rename News _ _ _ _ => NL
      exact KG _ _ _ FL NL (fun q hq => by
        have := mte q hq
        repeat (first | exact this | refine .tail _ ?_))
  case mkUse =>
    intro lM hM tkM GM ysM hMn hh9 hEM hGM FM NM htkM
    refine hideG_MJ fun gG gk => ?_
    obtain ⟨cM, hoM⟩ := hh9
    have hiM := hEM.ints
    have NM' := news_put (A := [_, _, _, _, _, _, _, _, _, _, _, _]) (own := own₆) Fc hMn NM hoM
    have offM := off_new (o := W.listOf ysM.toList.toArray cM) (A := [_, _, _, _, _, _, _, _, _, _, _, _]) off₆ hMn Nc rfl
    clear NM Fc Nc
    obtain ⟨msM, hmsM⟩ : ∃ ms, ms = ysM.toList := ⟨_, rfl⟩
    refine gk ?_
    clear gk gG
    have eM : ysM = msM.toArray := by rw [hmsM]
    subst eM
    rw [List.toList_toArray] at offM
    rw [List.toList_toArray] at hiM
    change IntsAre msM (marksOf p mo f sh n) at hiM
    change Fr s.heap L₁ hM _ at FM
    change News s.heap L₁ hM ([_, _, _, _, _, _, _, _, _, _, _, _] ++ (lM, W.listOf msM.toArray cM) :: own₆) at NM'
    clear hmsM hEM
    refine hideG_MJ fun gG gk => ?_
    obtain ⟨own₇, hown₇⟩ : ∃ own, own = (lM, W.listOf msM.toArray cM) :: own₆ := ⟨_, rfl⟩
    refine gk ?_
    clear gk gG
    have mM₇ : (lM, W.listOf msM.toArray cM) ∈ own₇ := by rw [hown₇]; exact .head _
    have m67 : ∀ q ∈ own₆, q ∈ own₇ := fun q hq => by rw [hown₇]; exact .tail _ hq
    have mP₇ := m67 _ mP₆
    have mD₇ := m67 _ mD₆
    have hGM' : AllBare GM := hGM hb
    rw [← hown₇] at NM' offM
    dsimp only at htkM mD₇
    clear hown₇ hGM off₆
    dsimp only [List.cons_append, List.nil_append] at NM'
    have mlen := hiM.length
    simp only [marksOf, List.length_map, List.length_range] at mlen
    have hmb : ∀ x ∈ marksOf p mo f sh n, 0 ≤ x ∧ x < n := fun x hx => by
      refine hideG_MJ fun gG gk => ?_
      obtain ⟨y, _, rfl⟩ := List.mem_map.mp hx
      refine gk ?_
      clear gk gG
      exact ⟨Int.fmod_nonneg_of_pos _ (by omega), Int.fmod_lt_of_pos _ (by omega)⟩
    k_steps
    with_reducible rename Fr _ _ _ _ => F₁₀
    with_reducible rename News _ _ _ _ => N₁₀
    have dMa' := ‹_ = Data.cell (some (Value.ref lM))›
    refine stop_in ?_
    refine sorted_G (B := [_, _, _, _, _, _, _, _, _, _, _, _]) (own := own₇) F₁₀ N₁₀ rfl offM (News.isList N₁₀ (by repeat (first | exact mM₇ | refine .tail _ ?_))) hiM (by omega) fun lO h₁₁ vsO qs cO F₁₁ N₁₁ off₁₁ hiO hpm hpw => ?_
    clear F₁₀ N₁₀
    refine hideG_MJ fun gG gk => ?_
    obtain ⟨own₈, hown₈⟩ : ∃ own, own = (lO, W.listOf vsO.toArray cO) :: own₇ := ⟨_, rfl⟩
    refine gk ?_
    clear gk gG
    have mO₈ : (lO, W.listOf vsO.toArray cO) ∈ own₈ := by rw [hown₈]; exact .head _
    have m78 : ∀ q ∈ own₇, q ∈ own₈ := fun q hq => by rw [hown₈]; exact .tail _ hq
    have mP₈ := m78 _ mP₇
    have mD₈ := m78 _ mD₇
    have mM₈ := m78 _ mM₇
    rw [← hown₈] at N₁₁ off₁₁
    clear hown₈
    dsimp only [List.cons_append, List.nil_append] at N₁₁
    have hqlen : qs.length = p.toNat := by rw [hpm.length_eq]; simp only [marksOf, List.length_map, List.length_range]
    have hqlen2 := hiO.length
    have hqb : ∀ x ∈ qs, 0 ≤ x ∧ x < n := fun x hx => hmb x (hpm.mem_iff.mp hx)
    k_steps
    with_reducible rename Fr _ _ _ _ => F₁₂
    with_reducible rename News _ _ _ _ => N₁₂
    have dOr' := ‹_ = Data.cell (some (Value.ref lO))›
    refine stop_in ?_
    refine ListComp_G (fun a y => ∃ t, y = Value.str ⟨[if a ∈ marksOf p mo f sh n then 46 else 45].toArray⟩ t) ((List.range n).map Int.ofNat) True (by with_unfolding_all rfl) (by decide) rfl (by decide) (by with_unfolding_all rfl) ?_
    k_steps
    with_reducible rename Fr _ _ _ _ => F₁₃
    with_reducible rename News _ _ _ _ => N₁₃
    refine stop_in ?_
    refine src_range rfl rfl (by omega) F₁₃ N₁₃ ?riElt ?riUse
    case riElt =>
      intro C i tv s₃ m₃ E' hi9 htv hC hh10 hns hm hF hN htk
      refine hideG_MJ fun gG gk => ?_
      obtain ⟨h₃', tk₃', G₃, rfl, hG₃⟩ := hh10
      obtain ⟨ownE, NE, hallE⟩ := own_every hF
      obtain ⟨oC, hoC, NN⟩ := elt_ledger F₁₃ hC hns hN NE
      dsimp only [List.cons_append] at NN
      obtain ⟨tl, htl⟩ : ∃ tl, tl = own₈ ++ ownE := ⟨_, rfl⟩
      refine gk ?_
      clear gk gG
      rw [← htl] at NN
      have mtl : ∀ q ∈ own₈, q ∈ tl := fun q hq => by rw [htl]; exact List.mem_append_left _ hq
      have mte : ∀ q ∈ ownE, q ∈ tl := fun q hq => by rw [htl]; exact List.mem_append_right _ hq
      have KG := fun (h' : Heap) (tk' : Nat) (news : List (Addr × Obj)) (F' : Fr s.heap L₁ h' _) (N' : News s.heap L₁ h' news) (hs : ∀ q ∈ ownE, q ∈ news) => KeepsG.walked (s := { s with heap := h₃', toks := tk₃', gens := G₃ }) (tk := tk') (G := G₃) hF hallE id F' N' hs
      clear hN NE htl
      have mMt := mtl _ mM₈
      k_steps
      with_reducible rename Fr _ _ _ _ => F₁₄
      with_reducible rename News _ _ _ _ => N₁₄
      refine in_list_ints (News.isList N₁₄ (by repeat (first | exact mMt | refine .tail _ ?_))) hiM ?_
      by_cases hin : (i : Int) ∈ marksOf p mo f sh n
      · have e : (marksOf p mo f sh n).any (· == (i : Int)) = true := by simpa using hin
        rw [e]
        k_steps
        · refine stop_in ?_
          rw [if_pos hin]
          exact ⟨_, rfl⟩
        · with_reducible rename Fr _ _ _ _ => FL
          with_reducible rename News _ _ _ _ => NL
          exact KG _ _ _ FL NL (fun q hq => by
            have := mte q hq
            repeat (first | exact this | refine .tail _ ?_))
      · have e : (marksOf p mo f sh n).any (· == (i : Int)) = false := by
          rw [← Bool.not_eq_true, List.any_eq_true]
          intro hh11
          refine hideG_MJ fun gG gk => ?_
          obtain ⟨x, hx, hq⟩ := hh11
          refine gk ?_
          clear gk gG
          exact hin (by rw [← eq_of_beq hq]; exact hx)
        rw [e]
        k_steps
        · refine stop_in ?_
          rw [if_neg hin]
          exact ⟨_, rfl⟩
        · with_reducible rename Fr _ _ _ _ => FL
          with_reducible rename News _ _ _ _ => NL
          exact KG _ _ _ FL NL (fun q hq => by
            have := mte q hq
            repeat (first | exact this | refine .tail _ ?_))
    case riUse =>
      intro lR hR tkR GR ysR hRn hh12 hER hGR FR NR htkR
      refine hideG_MJ fun gG gk => ?_
      obtain ⟨cR, hoR⟩ := hh12
      refine gk ?_
      clear gk gG
      have hiR := hER.strs (g := fun a => ⟨[if a ∈ marksOf p mo f sh n then 46 else 45].toArray⟩)
      change News s.heap L₁ hR _ at NR
      change Fr s.heap L₁ hR _ at FR
      have hGR' : AllBare GR := hGR hGM'
      clear F₁₃ N₁₃ hER hGR
      have eR : List.map (fun a => (⟨[if a ∈ marksOf p mo f sh n then 46 else 45].toArray⟩ : PySem.Str)) (List.map Int.ofNat (List.range n)) = asS ((List.range n).map fun (k : Nat) => [if ((k : Nat) : Int) ∈ marksOf p mo f sh n then 46 else 45]) := by
        simp only [asS, List.map_map]; rfl
      rw [eR] at hiR
      have hsumR := asS_sum (b := 1) (rows := (List.range n).map fun (k : Nat) => [if ((k : Nat) : Int) ∈ marksOf p mo f sh n then 46 else 45]) fun r hr => by
        refine hideG_MJ fun gG gk => ?_
        obtain ⟨k, _, rfl⟩ := List.mem_map.mp hr
        refine gk ?_
        clear gk gG
        exact Nat.le_refl _
      rw [List.length_map, List.length_range] at hsumR
      have hlenR : (asS ((List.range n).map fun (k : Nat) => [if ((k : Nat) : Int) ∈ marksOf p mo f sh n then 46 else 45])).length = n := by simp [asS]
      k_steps
      with_reducible rename Fr _ _ _ _ => F₁₅
      refine stop_in ?_
      refine join_listW (x := ⟨([] : List Nat).toArray⟩) (ys := asS ((List.range n).map fun (k : Nat) => [if ((k : Nat) : Int) ∈ marksOf p mo f sh n then 46 else 45])) ⟨_, hoR, rfl, _, rfl⟩ hiR (by decide) (by omega) fun t₁₅ k₁₅ => ?_
      rw [txt_join, joinA_single]
      change wpAny _ _ (eval _ _) _ _ _
      k_steps
      change wpAny _ _ (binaryOp .Mult (.str ⟨(ringL (marksOf p mo f sh n) n).toArray⟩ t₁₅) _) _ _ _
      have hrl : (ringL (marksOf p mo f sh n) n).length = n := by simp [ringL]
      refine mul3 (by omega) (by omega) fun t₁₆ k₁₆ => ?_
      k_steps
      refine stop_in ?_
      have dRi' := ‹_ = Data.cell (some (Value.str ⟨(ringL (marksOf p mo f sh n) n ++ ringL (marksOf p mo f sh n) n ++ ringL (marksOf p mo f sh n) n).toArray⟩ _))›
      refine item_own (by k_asm) (by repeat (first | exact mD₈ | refine .tail _ ?_)) hiD (by decide) (by rw [ld]; decide) (by decide) fun t₁₇ => ?_
      refine hideG_MJ fun gG gk => ?_
      obtain ⟨d3, hd3⟩ : ∃ d3, d3 = (drw ns).getD 3 0 := ⟨_, rfl⟩
      refine gk ?_
      clear gk gG
      have bd3 := getD_draws ns 3
      rw [← hd3] at bd3
      rw [show Int.toNat 3 = 3 from rfl, ← hd3]
      k_steps
      have dFi' := ‹_ = Data.cell (some (Value.int (1 + d3.fmod 48) _))›
      refine stop_in ?_
      refine item_own (by k_asm) (by repeat (first | exact mD₈ | refine .tail _ ?_)) hiD (by decide) (by rw [ld]; decide) (by decide) fun t₁₈ => ?_
      refine hideG_MJ fun gG gk => ?_
      obtain ⟨d4, hd4⟩ : ∃ d4, d4 = (drw ns).getD 4 0 := ⟨_, rfl⟩
      refine gk ?_
      clear gk gG
      have bd4 := getD_draws ns 4
      rw [← hd4] at bd4
      rw [show Int.toNat 4 = 4 from rfl, ← hd4]
      k_steps
      with_reducible rename Fr _ _ _ _ => F₁₉
      with_reducible rename News _ _ _ _ => N₁₉
      refine stop_in ?_
      refine' c_unit w mean mg mb d4 _ _ _ _ _ _ _ _ _ _ _ _ _ _ _ _ _ _ B₁ ?FU2 X T ?kU2 ?preU2 ?r1U2 ?r2U2 ?finU2
      case FU2 => exact F₁₉
      case kU2 => rfl
      case preU2 => exact bd4
      case r1U2 => k_room
      case r2U2 => k_units
      intro v h₂₀ tk₂₀ hk₂₀ hh13
      refine hideG_MJ fun gG gk => ?_
      obtain ⟨st, tst, rfl, hst0, hst1, -, -⟩ := hh13
      refine gk ?_
      clear gk gG
      have F₂₀ := F₁₉.after hk₂₀
      have N₂₀ := newsKeep N₁₉ hk₂₀
      clear F₁₉ N₁₉
      k_steps
      with_reducible rename Fr _ _ _ _ => F₂₁
      with_reducible rename News _ _ _ _ => N₂₁
      have dSt' := ‹_ = Data.cell (some (Value.int st _))›
      have iT₂₁ := N₂₁.isList (.head _)
      refine stop_in ?_
      have N₂₁' : News s.heap L₁ _ ([_, _, _, _, _, _, _, _, _, _, _, _] ++ own₈) := fun q hq => N₂₁ q (.tail _ hq)
      clear N₂₁
      have h48 := Int.fmod_nonneg_of_pos d3 (b := 48) (by decide)
      have h49 := Int.fmod_lt_of_pos d3 (b := 48) (by decide)
      refine hideG_MJ fun gG gk => ?_
      obtain ⟨u, hu⟩ : ∃ u, u = 1 + d3.fmod 48 := ⟨_, rfl⟩
      rw [← hu] at dFi' iT₂₁
      obtain ⟨vsF, iTF, iF⟩ := three_list iT₂₁
      obtain ⟨h₂₁, eh₂₁⟩ := name_heap F₂₁
      refine gk ?_
      clear gk gG
      subst eh₂₁
      refine' c_turns w mean mg mb _ vsF u st n _ h₂₁ _ _ _ _ _ _ _ _ _ _ _ _ _ _ _ _ _ B₁ ?FT1 X T ?kT1 ?preT1 ?r1T1 ?r2T1 ?gT1 ?finT1
      case FT1 => exact F₂₁
      case kT1 => rfl
      case preT1 => exact ⟨rfl, iTF, iF, by omega, by omega, by omega, by omega, by omega, by omega, by omega⟩
      case r1T1 => k_room
      case r2T1 => k_units
      case gT1 => exact hGR'
      intro v h₂₂ tk₂₂ G₂₂ hG₂₂ hk₂₂ hh14
      refine hideG_MJ fun gG gk => ?_
      obtain ⟨lT, vsT, cT, rfl, hnT, hoT, hiT⟩ := hh14
      have F₂₂ := F₂₁.after hk₂₂
      have N₂₂ := news_new (A := [_, _, _, _, _, _, _, _, _, _, _, _]) (own := own₈) F₂₁ N₂₁' hk₂₂ hnT hoT
      have off₂₂ := off_new (A := [_, _, _, _, _, _, _, _, _, _, _, _]) (o := W.listOf vsT.toArray cT) off₁₁ hnT N₂₁' rfl
      clear F₂₁ N₂₁'
      obtain ⟨own₉, hown₉⟩ : ∃ own, own = (lT, W.listOf vsT.toArray cT) :: own₈ := ⟨_, rfl⟩
      refine gk ?_
      clear gk gG
      have mlT₉ : (lT, W.listOf vsT.toArray cT) ∈ own₉ := by rw [hown₉]; exact .head _
      have m₈₉ : ∀ q ∈ own₈, q ∈ own₉ := fun q hq => by rw [hown₉]; exact .tail _ hq
      have mP₉ := m₈₉ _ mP₈
      have mD₉ := m₈₉ _ mD₈
      have mM₉ := m₈₉ _ mM₈
      have mO₉ := m₈₉ _ mO₈
      rw [← hown₉] at N₂₂ off₂₂
      clear hown₉
      dsimp only [List.cons_append, List.nil_append] at N₂₂
      rw [trns_eq (by omega)] at hiT
      have hTl := hiT.length
      simp only [List.length_map, List.length_range] at hTl
      k_steps
      with_reducible rename Fr _ _ _ _ => F₂₃
      with_reducible rename News _ _ _ _ => N₂₃
      refine stop_in ?_
      refine ListComp_G (fun a y => ∃ t, y = Value.int ((u + a * st).fmod n) t) ((List.range 8).map Int.ofNat) True (by with_unfolding_all rfl) (by decide) rfl (by decide) (by with_unfolding_all rfl) ?_
      k_steps
      with_reducible rename Fr _ _ _ _ => F₂₄
      with_reducible rename News _ _ _ _ => N₂₄
      refine stop_in ?_
      refine src_range rfl rfl (by omega) F₂₄ N₂₄ ?tuElt ?tuUse
      case tuElt =>
        intro C i tv s₃ m₃ E' hi9 htv hC hh15 hns hm hF hN htk
        refine hideG_MJ fun gG gk => ?_
        obtain ⟨h₃', tk₃', G₃, rfl, hG₃⟩ := hh15
        obtain ⟨ownE, NE, hallE⟩ := own_every hF
        obtain ⟨oC, hoC, NN⟩ := elt_ledger F₂₄ hC hns hN NE
        dsimp only [List.cons_append] at NN
        obtain ⟨tl, htl⟩ : ∃ tl, tl = own₉ ++ ownE := ⟨_, rfl⟩
        refine gk ?_
        clear gk gG
        rw [← htl] at NN
        have mtl : ∀ q ∈ own₉, q ∈ tl := fun q hq => by rw [htl]; exact List.mem_append_left _ hq
        have mte : ∀ q ∈ ownE, q ∈ tl := fun q hq => by rw [htl]; exact List.mem_append_right _ hq
        have KG := fun (h' : Heap) (tk' : Nat) (news : List (Addr × Obj)) (F' : Fr s.heap L₁ h' _) (N' : News s.heap L₁ h' news) (hs : ∀ q ∈ ownE, q ∈ news) => KeepsG.walked (s := { s with heap := h₃', toks := tk₃', gens := G₃ }) (tk := tk') (G := G₃) hF hallE id F' N' hs
        clear hN NE htl
        k_steps
        · refine stop_in ?_
          exact ⟨_, rfl⟩
        · with_reducible rename Fr _ _ _ _ => FL
          with_reducible rename News _ _ _ _ => NL
          exact KG _ _ _ FL NL (fun q hq => by
            have := mte q hq
            repeat (first | exact this | refine .tail _ ?_))
      case tuUse =>
        intro lU hU tkU GU ysU hUn hh16 hEU hGU FU NU htkU
        refine hideG_MJ fun gG gk => ?_
        obtain ⟨cU, hoU⟩ := hh16
        refine gk ?_
        clear gk gG
        have hiU := hEU.ints (g := fun a => (u + a * st).fmod n)
        change News s.heap L₁ hU _ at NU
        change Fr s.heap L₁ hU _ at FU
        have hGU' : AllBare GU := hGU hG₂₂
        clear F₂₄ N₂₄ hEU hGU
        k_steps
        with_reducible rename Fr _ _ _ _ => F₂₅
        with_reducible rename News _ _ _ _ => N₂₅
        refine stop_in ?_
        refine ne_same (vs := vsT) (ws := ysU.toList) (News.isList N₂₅ (by repeat (first | exact mlT₉ | refine .tail _ ?_))) ⟨_, hoU, rfl, _, rfl⟩ hiT hiU (by k_units) ?_
        k_steps
        with_reducible rename Fr _ _ _ _ => F₂₆
        with_reducible rename News _ _ _ _ => N₂₆
        refine stop_in ?_
        refine Assign_ListComp_G (fun a y => ∃ t, y = Value.int (qs.getD (a.toNat + 1) 0 - qs.getD a.toNat 0) t) ((List.range (p.toNat - 1)).map Int.ofNat) True (by with_unfolding_all rfl) (by with_unfolding_all rfl) (by decide) rfl (by decide) (by with_unfolding_all rfl) rfl rfl ?_
        k_steps
        with_reducible rename Fr _ _ _ _ => F₂₇
        with_reducible rename News _ _ _ _ => N₂₇
        refine stop_in ?_
        refine src_range rfl (by omega) (by omega) F₂₇ N₂₇ ?gaElt ?gaUse
        case gaElt =>
          intro C i tv s₃ m₃ E' hi9 htv hC hh17 hns hm hF hN htk
          refine hideG_MJ fun gG gk => ?_
          obtain ⟨h₃', tk₃', G₃, rfl, hG₃⟩ := hh17
          obtain ⟨ownE, NE, hallE⟩ := own_every hF
          obtain ⟨oC, hoC, NN⟩ := elt_ledger F₂₇ hC hns hN NE
          dsimp only [List.cons_append] at NN
          obtain ⟨tl, htl⟩ : ∃ tl, tl = own₉ ++ ownE := ⟨_, rfl⟩
          refine gk ?_
          clear gk gG
          rw [← htl] at NN
          have mtl : ∀ q ∈ own₉, q ∈ tl := fun q hq => by rw [htl]; exact List.mem_append_left _ hq
          have mte : ∀ q ∈ ownE, q ∈ tl := fun q hq => by rw [htl]; exact List.mem_append_right _ hq
          have KG := fun (h' : Heap) (tk' : Nat) (news : List (Addr × Obj)) (F' : Fr s.heap L₁ h' _) (N' : News s.heap L₁ h' news) (hs : ∀ q ∈ ownE, q ∈ news) => KeepsG.walked (s := { s with heap := h₃', toks := tk₃', gens := G₃ }) (tk := tk') (G := G₃) hF hallE id F' N' hs
          clear hN NE htl
          have mOt := mtl _ mO₉
          have hiq : i + 1 < qs.length := by omega
          k_steps
          refine item_own (by k_asm) (by repeat (first | exact mOt | refine .tail _ ?_)) hiO (by omega) (by omega) (by omega) fun t₂₈ => ?_
          k_steps
          refine item_own (by k_asm) (by repeat (first | exact mOt | refine .tail _ ?_)) hiO (by omega) (by omega) (by omega) fun t₂₉ => ?_
          rw [show ((i : Int) + 1).toNat = (i : Int).toNat + 1 by omega]
          k_steps
          · refine stop_in ?_
            exact ⟨_, rfl⟩
          · with_reducible rename Fr _ _ _ _ => FL
            with_reducible rename News _ _ _ _ => NL
            exact KG _ _ _ FL NL (fun q hq => by
              have := mte q hq
              repeat (first | exact this | refine .tail _ ?_))
        case gaUse =>
          intro lG hG₀ tkG GG ysG hGn hplG hEG hGG FG₀ NG₀ htkG hG tkG' FG NG hh18
          refine hideG_MJ fun gG gk => ?_
          obtain ⟨cG, hoG⟩ := hh18
          have hiG := hEG.ints (g := fun a => qs.getD (a.toNat + 1) 0 - qs.getD a.toNat 0)
          change News s.heap L₁ hG _ at NG
          change Fr s.heap L₁ hG _ at FG
          have hGG' : AllBare GG := hGG hGU'
          obtain ⟨gsG, hgsG⟩ : ∃ gs, gs = ysG.toList := ⟨_, rfl⟩
          refine gk ?_
          clear gk gG
          have eG : ysG = gsG.toArray := by rw [hgsG]
          subst eG
          rw [List.toList_toArray] at hiG
          clear hgsG hEG hGG NG₀ FG₀ hplG
          have NG' := news_put (A := [_, _, _, _, _, _, _, _, _, _, _, _]) (own := own₉) F₂₇ hGn NG hoG
          have offG := off_new (o := W.listOf gsG.toArray cG) (A := [_, _, _, _, _, _, _, _, _, _, _, _]) off₂₂ hGn N₂₇ rfl
          change News s.heap L₁ hG ([_, _, _, _, _, _, _, _, _, _, _, _] ++ (lG, W.listOf gsG.toArray cG) :: own₉) at NG'
          clear NG F₂₇ N₂₇
          refine hideG_MJ fun gG gk => ?_
          obtain ⟨ownB, hownB⟩ : ∃ own, own = (lG, W.listOf gsG.toArray cG) :: own₉ := ⟨_, rfl⟩
          refine gk ?_
          clear gk gG
          have mlGB : (lG, W.listOf gsG.toArray cG) ∈ ownB := by rw [hownB]; exact .head _
          have m₉B : ∀ q ∈ own₉, q ∈ ownB := fun q hq => by rw [hownB]; exact .tail _ hq
          have mPB := m₉B _ mP₉
          have mDB := m₉B _ mD₉
          have mMB := m₉B _ mM₉
          have mOB := m₉B _ mO₉
          have mTB := m₉B _ mlT₉
          rw [← hownB] at NG' offG
          clear hownB
          change IntsAre gsG (gapsOf qs p) at hiG
          k_steps
          with_reducible rename Fr _ _ _ _ => F₃₀
          with_reducible rename News _ _ _ _ => N₃₀
          refine hideG_MJ fun gG gk => ?_
          obtain ⟨h₃₀, m₃₀, A₃₀, eh₃₀, em₃₀, eA₃₀⟩ := name_all F₃₀ N₃₀
          refine gk ?_
          clear gk gG
          subst eh₃₀
          refine stop_in ?_
          have hglen := hiG.length
          simp only [gapsOf, List.length_map, List.length_range] at hglen
          have bd5 := getD_draws ns 5
          refine hideG_MJ fun gG gk => ?_
          obtain ⟨d5, hd5⟩ : ∃ d5, d5 = (drw ns).getD 5 0 := ⟨_, rfl⟩
          refine gk ?_
          clear gk gG
          rw [← hd5] at bd5
          refine wpAny_mono (Q := fun v s' => ∃ (lV : Addr) (vsV : List Value) (cV : Nat) (rs : List Int) (own' : List (Addr × Obj)) (h' : Heap) (tk' : Nat), v = .ref lV ∧ s' = { s with heap := h', toks := tk', gens := GG } ∧ Fr s.heap L₁ h' m₃₀ ∧ News s.heap L₁ h' (A₃₀ ++ own') ∧ OwnOff own' (ids12 L₁) ∧ (∀ q ∈ ownB, q ∈ own') ∧
            (lV, W.listOf vsV.toArray cV) ∈ own' ∧ IntsAre vsV rs ∧ (rs = gapsOf qs p ∨ rs = gapsOf qs p ++ [127, 1])) ?ruEval ?ruUse (fun _ _ e => e)
          case ruEval =>
            refine wpAny_IfExp ?_
            k_steps
            refine stop_in ?_
            refine item_own (by k_asm) (by repeat (first | exact mDB | refine .tail _ ?_)) hiD (by decide) (by rw [ld]; decide) (by decide) fun t₃₁ => ?_
            rw [show Int.toNat 5 = 5 from rfl, ← hd5]
            k_steps
            · with_reducible rename Fr _ _ _ _ => F₃₂
              with_reducible rename News _ _ _ _ => N₃₂
              refine hideG_MJ fun gG gk => ?_
              obtain ⟨vs₃₂, iL₃₂, iI₃₂⟩ := two_list (N₃₂.isList (.head _))
              refine gk ?_
              clear gk gG
              refine stop_in ?_
              refine kmk_add_ints (ms := [127, 1]) F₃₂ N₃₂ (News.isList N₃₂ (by repeat (first | exact mlGB | refine .tail _ ?_))) iL₃₂ hiG iI₃₂ ?_ (by simp only [gapsOf, List.length_map, List.length_range, List.length_cons, List.length_nil, sizeLine_eq]; omega)
              intro D₃₃ us₃₃ h₃₃ F₃₃ N₃₃ l₃₃ hI₃₃
              refine ⟨D₃₃, us₃₃, 0, _, (D₃₃, W.listOf us₃₃.toArray 0) :: ownB, h₃₃, _, rfl, rfl, by rw [em₃₀]; exact F₃₃, ?_, off_lt (A := A₃₀) offG (by rw [eA₃₀]; rfl) (fun q hq => l₃₃ q (.tail _ (by rw [eA₃₀] at hq; exact List.mem_append_left _ hq))), fun q hq => .tail _ hq, .head _, hI₃₃, .inr rfl⟩
              rw [eA₃₀]
              intro q hq
              refine N₃₃ q ?_
              rcases List.mem_append.mp hq with hq | hq
              · exact .tail _ (.tail _ (List.mem_append_left _ hq))
              · rcases List.mem_cons.mp hq with rfl | hq
                · exact .head _
                · exact .tail _ (.tail _ (List.mem_append_right _ hq))
            · refine stop_in ?_
              exact ⟨lG, gsG, cG, _, ownB, h₃₀, _, rfl, rfl, by rw [em₃₀]; exact F₃₀, by rw [eA₃₀]; exact N₃₀, offG, fun q hq => hq, mlGB, hiG, .inl rfl⟩
          case ruUse =>
            intro v s' hh19
            refine hideG_MJ fun gG gk => ?_
            obtain ⟨lV, vsV, cV, rs, ownC, h₃₄, tk₃₄, rfl, rfl, F₃₄, N₃₄, offC, mBC, mVC, hiV, hrs⟩ := hh19
            refine gk ?_
            clear gk gG
            rw [em₃₀] at F₃₄
            rw [eA₃₀] at N₃₄
            clear em₃₀ eA₃₀ F₃₀ N₃₀
            dsimp only [ids12] at offC
            dsimp only [List.cons_append, List.nil_append] at N₃₄
            have mPC := mBC _ mPB
            have mDC := mBC _ mDB
            have mMC := mBC _ mMB
            have mOC := mBC _ mOB
            have mTC := mBC _ mTB
            k_steps
            refine stop_in ?_
            refine item_own (by k_asm) (by repeat (first | exact mDC | refine .tail _ ?_)) hiD (by decide) (by rw [ld]; decide) (by decide) fun t₃₅ => ?_
            rw [show Int.toNat 5 = 5 from rfl, ← hd5]
            k_steps
            with_reducible rename Fr _ _ _ _ => F₃₆
            with_reducible rename News _ _ _ _ => N₃₆
            refine hideG_MJ fun gG gk => ?_
            obtain ⟨vs₃₆, iT₃₆, iS₃₆⟩ := three_strs (N₃₆.isTup (.head _))
            have h530 := Int.fmod_nonneg_of_pos d5 (b := 3) (by decide)
            have h531 := Int.fmod_lt_of_pos d5 (b := 3) (by decide)
            obtain ⟨en, hen, hend⟩ := end_is h530 h531
            refine gk ?_
            clear gk gG
            refine KTb.item_tup iT₃₆ iS₃₆ h530 (by simpa using h531) (by omega) fun tE _ => ?_
            rw [hen]
            have N₃₇ : News s.heap L₁ _ ([_, _, _, _, _, _, _, _, _, _, _, _] ++ ownC) := fun q hq => N₃₆ q (.tail _ hq)
            clear N₃₆
            dsimp only [List.cons_append, List.nil_append] at N₃₇
            k_steps
            with_reducible rename Fr _ _ _ _ => F₃₈
            with_reducible rename News _ _ _ _ => N₃₈
            have dEn' := ‹_ = Data.cell (some (Value.str ⟨en.toArray⟩ _))›
            have dRu' := ‹_ = Data.cell (some (Value.ref lV))›
            refine stop_in ?_
            have hFO : FOK f := ⟨hf0, hf1, hf2, hf3⟩
            refine hideG_MJ fun gG gk => ?_
            obtain ⟨ts, hts⟩ : ∃ ts, ts = ((List.range 8).map Int.ofNat).map fun j => (u + j * st).fmod (n : Int) := ⟨_, rfl⟩
            refine gk ?_
            clear gk gG
            rw [← hts] at hiT
            have htb : ∀ x ∈ ts, 0 ≤ x ∧ x < n := fun x hx => by
              rw [hts] at hx
              refine hideG_MJ fun gG gk => ?_
              obtain ⟨y, _, rfl⟩ := List.mem_map.mp hx
              refine gk ?_
              clear gk gG
              exact ⟨Int.fmod_nonneg_of_pos _ (by omega), Int.fmod_lt_of_pos _ (by omega)⟩
            have htl8 : ts.length = 8 := by rw [hts]; simp
            refine Assign_ListComp_G (fun a y => ∃ t, y = Value.int (dotsOf (rowsOf (ring3 (marksOf p mo f sh n) n) (qs.map Int.toNat) n a.toNat (qs.map Int.toNat).length)) t) ts False (by with_unfolding_all rfl) (by with_unfolding_all rfl) (by decide) rfl (by decide) (by with_unfolding_all rfl) rfl rfl ?_
            k_steps
            with_reducible rename Fr _ _ _ _ => F₄₀
            with_reducible rename News _ _ _ _ => N₄₀
            refine src_list rfl (News.isList N₄₀ (by repeat (first | exact mTC | refine .tail _ ?_))) hiT (by omega) F₄₀ N₄₀ ?meElt ?meUse
            case meElt =>
              intro C i tv s₃ m₃ E' hi9 hC hh20 hns hm hF hN htk
              refine hideG_MJ fun gG gk => ?_
              obtain ⟨h₃', tk₃', G₃, rfl, hG₃⟩ := hh20
              obtain ⟨ownE, NE, hallE⟩ := own_every hF
              obtain ⟨oC, hoC, NN⟩ := elt_ledger F₄₀ hC hns hN NE
              dsimp only [List.cons_append] at NN
              obtain ⟨tl, htl⟩ : ∃ tl, tl = ownC ++ ownE := ⟨_, rfl⟩
              rw [← htl] at NN
              have mtl : ∀ q ∈ ownC, q ∈ tl := fun q hq => by rw [htl]; exact List.mem_append_left _ hq
              have mte : ∀ q ∈ ownE, q ∈ tl := fun q hq => by rw [htl]; exact List.mem_append_right _ hq
              have KG := fun (h' : Heap) (tk' : Nat) (news : List (Addr × Obj)) (F' : Fr s.heap L₁ h' _) (N' : News s.heap L₁ h' news) (hs : ∀ q ∈ ownE, q ∈ news) => KeepsG.walked (s := { s with heap := h₃', toks := tk₃', gens := G₃ }) (tk := tk') (G := G₃) hF hallE id F' N' hs
              clear hN NE htl
              have KG2 := fun (h' : Heap) (tk' : Nat) (G : Array GenState) (hG : AllBare G₃ → AllBare G) (news : List (Addr × Obj)) (F' : Fr s.heap L₁ h' _) (N' : News s.heap L₁ h' news) (hs : ∀ q ∈ ownE, q ∈ news) => KeepsG.walked (s := { s with heap := h₃', toks := tk₃', gens := G₃ }) (tk := tk') (G := G) hF hallE hG F' N' hs
              have mVt := mtl _ mVC
              have mOt := mtl _ mOC
              have hti := htb (ts.getD i 0) (by rw [List.getD_eq_getElem?_getD, List.getElem?_eq_getElem hi9]; exact List.getElem_mem hi9)
              obtain ⟨tn, htn⟩ : ∃ tn : Nat, ts.getD i 0 = (tn : Int) := ⟨(ts.getD i 0).toNat, by omega⟩
              refine gk ?_
              clear gk gG
              rw [htn] at hm hti ⊢
              have hqe : (qs.map Int.toNat).map Int.ofNat = qs := by
                rw [List.map_map]
                conv => rhs; rw [← List.map_id qs]
                exact List.map_congr_left fun x hx => by
                  have := hqb x hx
                  show ((x.toNat : Nat) : Int) = x
                  omega
              have hG₃' : AllBare G₃ := hG₃ hGG'
              k_steps
              with_reducible rename Fr _ _ _ _ => F₄₁
              with_reducible rename News _ _ _ _ => N₄₁
              refine stop_in ?_
              refine' c_met w mean mg mb (ring3 (marksOf p mo f sh n) n) (qs.map Int.toNat) rs vsO vsV n tn en lO lV _ _ _ _ _ _ _ _ _ _ _ _ _ _ _ _ _ _ _ _ B₁ ?FME1 X T ?kME1 ?preME1 ?r1ME1 ?r2ME1 ?gME1 ?finME1
              case FME1 => exact F₄₁
              case kME1 => rfl
              case preME1 => exact ⟨News.isList N₄₁ (by repeat (first | exact mOt | refine .tail _ ?_)), by rw [hqe]; exact hiO, News.isList N₄₁ (by repeat (first | exact mVt | refine .tail _ ?_)), hiV, met_ok hPM hFO hsh0 hsh1 hpm hpw hrs hend (by omega)⟩
              case r1ME1 => k_room
              case r2ME1 => k_units
              case gME1 => exact hG₃'
              intro v h₄₂ tk₄₂ G₄₂ hG₄₂ hk₄₂ hh21
              refine hideG_MJ fun gG gk => ?_
              obtain ⟨t₄₂, rfl⟩ := hh21
              refine gk ?_
              clear gk gG
              have F₄₂ := F₄₁.after hk₄₂
              have N₄₂ := newsKeep N₄₁ hk₄₂
              clear F₄₁ N₄₁
              k_steps
              · refine stop_in ?_
                exact ⟨_, rfl⟩
              · with_reducible rename Fr _ _ _ _ => FL
                with_reducible rename News _ _ _ _ => NL
                exact KG2 _ _ _ (fun _ => hG₄₂) _ FL NL (fun q hq => by
                  have := mte q hq
                  repeat (first | exact this | refine .tail _ ?_))
            case meUse =>
              intro lE hE₀ tkE GE ysE hEn hplE hEE hGE FE₀ NE₀ htkE hE tkE' FE NE hh22
              refine hideG_MJ fun gG gk => ?_
              obtain ⟨cE, hoE⟩ := hh22
              have hiE := hEE.ints (g := fun a => (dotsOf (rowsOf (ring3 (marksOf p mo f sh n) n) (qs.map Int.toNat) n a.toNat (qs.map Int.toNat).length) : Int))
              change News s.heap L₁ hE _ at NE
              change Fr s.heap L₁ hE _ at FE
              have hGE' : AllBare GE := hGE hGG'
              obtain ⟨esE, hesE⟩ : ∃ es, es = ysE.toList := ⟨_, rfl⟩
              refine gk ?_
              clear gk gG
              have eE : ysE = esE.toArray := by rw [hesE]
              subst eE
              rw [List.toList_toArray] at hiE
              clear hesE hEE hGE NE₀ FE₀ hplE
              have NE' := news_put (A := [_, _, _, _, _, _, _, _, _, _, _, _]) (own := ownC) F₄₀ hEn NE hoE
              have offE := off_new (o := W.listOf esE.toArray cE) (A := [_, _, _, _, _, _, _, _, _, _, _, _]) offC hEn N₄₀ rfl
              change News s.heap L₁ hE ([_, _, _, _, _, _, _, _, _, _, _, _] ++ (lE, W.listOf esE.toArray cE) :: ownC) at NE'
              clear NE F₄₀ N₄₀
              refine hideG_MJ fun gG gk => ?_
              obtain ⟨ownF, hownF⟩ : ∃ own, own = (lE, W.listOf esE.toArray cE) :: ownC := ⟨_, rfl⟩
              refine gk ?_
              clear gk gG
              have mlEF : (lE, W.listOf esE.toArray cE) ∈ ownF := by rw [hownF]; exact .head _
              have mCF : ∀ q ∈ ownC, q ∈ ownF := fun q hq => by rw [hownF]; exact .tail _ hq
              have mPF := mCF _ mPC
              have mDF := mCF _ mDC
              have mMF := mCF _ mMC
              have mOF := mCF _ mOC
              have mTF := mCF _ mTC
              rw [← hownF] at NE' offE
              clear hownF
              dsimp only [List.cons_append, List.nil_append] at NE'
              k_steps
              with_reducible rename Fr _ _ _ _ => F₄₃
              with_reducible rename News _ _ _ _ => N₄₃
              refine stop_in ?_
              refine ListComp_G (fun a y => ∃ t, y = Value.int (if a = 0 then p else if a.fmod (p + 1) = 0 then 0 else 1) t) ts False (by with_unfolding_all rfl) (by decide) rfl (by decide) (by with_unfolding_all rfl) ?_
              k_steps
              with_reducible rename Fr _ _ _ _ => F₄₄
              with_reducible rename News _ _ _ _ => N₄₄
              refine src_list rfl (News.isList N₄₄ (by repeat (first | exact mTF | refine .tail _ ?_))) hiT (by omega) F₄₄ N₄₄ ?cmElt ?cmUse
              case cmElt =>
                intro C i tv s₃ m₃ E' hi9 hC hh23 hns hm hF hN htk
                refine hideG_MJ fun gG gk => ?_
                obtain ⟨h₃', tk₃', G₃, rfl, hG₃⟩ := hh23
                obtain ⟨ownE, NE, hallE⟩ := own_every hF
                obtain ⟨oC, hoC, NN⟩ := elt_ledger F₄₄ hC hns hN NE
                dsimp only [List.cons_append] at NN
                obtain ⟨tl, htl⟩ : ∃ tl, tl = ownF ++ ownE := ⟨_, rfl⟩
                rw [← htl] at NN
                have mtl : ∀ q ∈ ownF, q ∈ tl := fun q hq => by rw [htl]; exact List.mem_append_left _ hq
                have mte : ∀ q ∈ ownE, q ∈ tl := fun q hq => by rw [htl]; exact List.mem_append_right _ hq
                have KG := fun (h' : Heap) (tk' : Nat) (news : List (Addr × Obj)) (F' : Fr s.heap L₁ h' _) (N' : News s.heap L₁ h' news) (hs : ∀ q ∈ ownE, q ∈ news) => KeepsG.walked (s := { s with heap := h₃', toks := tk₃', gens := G₃ }) (tk := tk') (G := G₃) hF hallE id F' N' hs
                clear hN NE htl
                have hti := htb (ts.getD i 0) (by rw [List.getD_eq_getElem?_getD, List.getElem?_eq_getElem hi9]; exact List.getElem_mem hi9)
                obtain ⟨tn, htn⟩ : ∃ tn, ts.getD i 0 = tn := ⟨_, rfl⟩
                refine gk ?_
                clear gk gG
                rw [htn] at hm hti ⊢
                refine wpAny_IfExp ?_
                k_steps
                · rename_i q1
                  refine stop_in ?_
                  have e2 : (if tn = 0 then p else if tn.fmod (p + 1) = 0 then 0 else 1) = p := by rw [if_pos q1]
                  exact ⟨_, (congrArg (fun z => Value.int z _) e2).symm⟩
                · with_reducible rename Fr _ _ _ _ => FL
                  with_reducible rename News _ _ _ _ => NL
                  exact KG _ _ _ FL NL (fun q hq => by
                    have := mte q hq
                    repeat (first | exact this | refine .tail _ ?_))
                · rename_i q1 q2
                  refine stop_in ?_
                  have e2 : (if tn = 0 then p else if tn.fmod (p + 1) = 0 then 0 else 1) = 0 := by rw [if_neg q1, if_pos q2]
                  exact ⟨_, (congrArg (fun z => Value.int z _) e2).symm⟩
                · with_reducible rename Fr _ _ _ _ => FL
                  with_reducible rename News _ _ _ _ => NL
                  exact KG _ _ _ FL NL (fun q hq => by
                    have := mte q hq
                    repeat (first | exact this | refine .tail _ ?_))
                · rename_i q1 q2
                  refine stop_in ?_
                  have e2 : (if tn = 0 then p else if tn.fmod (p + 1) = 0 then 0 else 1) = 1 := by rw [if_neg q1, if_neg q2]
                  exact ⟨_, (congrArg (fun z => Value.int z _) e2).symm⟩
                · with_reducible rename Fr _ _ _ _ => FL
                  with_reducible rename News _ _ _ _ => NL
                  exact KG _ _ _ FL NL (fun q hq => by
                    have := mte q hq
                    repeat (first | exact this | refine .tail _ ?_))
              case cmUse =>
                intro lH hH tkH GH ysH hHn hh24 hEH hGH FH NH htkH
                refine hideG_MJ fun gG gk => ?_
                obtain ⟨cH, hoH⟩ := hh24
                refine gk ?_
                clear gk gG
                have hiH := hEH.ints (g := fun a => if a = 0 then p else if a.fmod (p + 1) = 0 then 0 else 1)
                change News s.heap L₁ hH _ at NH
                change Fr s.heap L₁ hH _ at FH
                have hGH' : AllBare GH := hGH hGE'
                clear F₄₄ N₄₄ hEH hGH
                have eqm : (ts.map fun a => (dotsOf (rowsOf (ring3 (marksOf p mo f sh n) n) (qs.map Int.toNat) n a.toNat (qs.map Int.toNat).length) : Int)) = ts.map fun a => if a = 0 then p else if a.fmod (p + 1) = 0 then 0 else 1 := by
                  refine List.map_congr_left fun a ha => ?_
                  have hab := htb a ha
                  have := met_dots (turn := a.toNat) hPM hFO hsh0 hsh1 hpm hpw (by omega)
                  rw [Int.toNat_of_nonneg hab.1] at this
                  exact this
                rw [eqm] at hiE
                k_steps
                with_reducible rename Fr _ _ _ _ => F₄₅
                with_reducible rename News _ _ _ _ => N₄₅
                refine stop_in ?_
                refine ne_same (vs := esE) (ws := ysH.toList) (News.isList N₄₅ (by repeat (first | exact mlEF | refine .tail _ ?_))) ⟨_, hoH, rfl, _, rfl⟩ hiE hiH (by k_units) ?_
                k_steps
                with_reducible rename Fr _ _ _ _ => F₄₆
                with_reducible rename News _ _ _ _ => N₄₆
                refine stop_in ?_
                refine ListComp_G (fun a y => ∃ t, y = Value.int ((a + (n : Int).fdiv 2 + (p - 1) * sh).fmod n) t) (marksOf p mo f sh n) False (by with_unfolding_all rfl) (by decide) rfl (by decide) (by with_unfolding_all rfl) ?_
                k_steps
                with_reducible rename Fr _ _ _ _ => F₅₀
                with_reducible rename News _ _ _ _ => N₅₀
                have hml2 := hiM.length
                refine src_list rfl (News.isList N₅₀ (by repeat (first | exact mMF | refine .tail _ ?_))) hiM (by omega) F₅₀ N₅₀ ?mvElt ?mvUse
                case mvElt =>
                  intro C i tv s₃ m₃ E' hi9 hC hh25 hns hm hF hN htk
                  refine hideG_MJ fun gG gk => ?_
                  obtain ⟨h₃', tk₃', G₃, rfl, hG₃⟩ := hh25
                  obtain ⟨ownE, NE, hallE⟩ := own_every hF
                  obtain ⟨oC, hoC, NN⟩ := elt_ledger F₅₀ hC hns hN NE
                  dsimp only [List.cons_append] at NN
                  obtain ⟨tl, htl⟩ : ∃ tl, tl = ownF ++ ownE := ⟨_, rfl⟩
                  rw [← htl] at NN
                  have mtl : ∀ q ∈ ownF, q ∈ tl := fun q hq => by rw [htl]; exact List.mem_append_left _ hq
                  have mte : ∀ q ∈ ownE, q ∈ tl := fun q hq => by rw [htl]; exact List.mem_append_right _ hq
                  have KG := fun (h' : Heap) (tk' : Nat) (news : List (Addr × Obj)) (F' : Fr s.heap L₁ h' _) (N' : News s.heap L₁ h' news) (hs : ∀ q ∈ ownE, q ∈ news) => KeepsG.walked (s := { s with heap := h₃', toks := tk₃', gens := G₃ }) (tk := tk') (G := G₃) hF hallE id F' N' hs
                  clear hN NE htl
                  have hti := hmb ((marksOf p mo f sh n).getD i 0) (by rw [List.getD_eq_getElem?_getD, List.getElem?_eq_getElem hi9]; exact List.getElem_mem hi9)
                  obtain ⟨tn, htn⟩ : ∃ tn, (marksOf p mo f sh n).getD i 0 = tn := ⟨_, rfl⟩
                  refine gk ?_
                  clear gk gG
                  rw [htn] at hm hti ⊢
                  have hp8 : p < 8 := by omega
                  k_steps
                  · refine stop_in ?_
                    exact ⟨_, rfl⟩
                  · with_reducible rename Fr _ _ _ _ => FL
                    with_reducible rename News _ _ _ _ => NL
                    exact KG _ _ _ FL NL (fun q hq => by
                      have := mte q hq
                      repeat (first | exact this | refine .tail _ ?_))
                case mvUse =>
                  intro lK hK tkK GK ysK hKn hh26 hEK hGK FK NK htkK
                  refine hideG_MJ fun gG gk => ?_
                  obtain ⟨cK, hoK⟩ := hh26
                  have hiK := hEK.ints (g := fun a => (a + (n : Int).fdiv 2 + (p - 1) * sh).fmod n)
                  change News s.heap L₁ hK _ at NK
                  change Fr s.heap L₁ hK _ at FK
                  have hGK' : AllBare GK := hGK hGH'
                  obtain ⟨esK, hesK⟩ : ∃ es, es = ysK.toList := ⟨_, rfl⟩
                  refine gk ?_
                  clear gk gG
                  have eK : ysK = esK.toArray := by rw [hesK]
                  subst eK
                  rw [List.toList_toArray] at hiK
                  clear hesK hEK hGK
                  have NK' := news_put (A := [_, _, _, _, _, _, _, _, _, _, _, _]) (own := ownF) F₅₀ hKn NK hoK
                  have offK := off_new (o := W.listOf esK.toArray cK) (A := [_, _, _, _, _, _, _, _, _, _, _, _]) offE hKn N₅₀ rfl
                  change News s.heap L₁ hK ([_, _, _, _, _, _, _, _, _, _, _, _] ++ (lK, W.listOf esK.toArray cK) :: ownF) at NK'
                  clear NK F₅₀ N₅₀
                  refine hideG_MJ fun gG gk => ?_
                  obtain ⟨ownK, hownK⟩ : ∃ own, own = (lK, W.listOf esK.toArray cK) :: ownF := ⟨_, rfl⟩
                  refine gk ?_
                  clear gk gG
                  have mlKK : (lK, W.listOf esK.toArray cK) ∈ ownK := by rw [hownK]; exact .head _
                  have mFK : ∀ q ∈ ownF, q ∈ ownK := fun q hq => by rw [hownK]; exact .tail _ hq
                  have mPK := mFK _ mPF
                  have mDK := mFK _ mDF
                  have mMK := mFK _ mMF
                  have mOK := mFK _ mOF
                  have mTK := mFK _ mTF
                  rw [← hownK] at NK' offK
                  clear hownK
                  dsimp only [List.cons_append, List.nil_append] at NK'
                  have hKl := hiK.length
                  rw [List.length_map] at hKl
                  k_steps
                  with_reducible rename Fr _ _ _ _ => F₅₁
                  with_reducible rename News _ _ _ _ => N₅₁
                  refine stop_in ?_
                  refine sorted_G (B := [_, _, _, _, _, _, _, _, _, _, _, _]) (own := ownK) F₅₁ N₅₁ rfl offK (News.isList N₅₁ (by repeat (first | exact mlKK | refine .tail _ ?_))) hiK (by omega) fun lS h₅₂ vsS qsS cS F₅₂ N₅₂ offS hiS hpmS hpwS => ?_
                  clear F₅₁ N₅₁
                  refine hideG_MJ fun gG gk => ?_
                  obtain ⟨ownS, hownS⟩ : ∃ own, own = (lS, W.listOf vsS.toArray cS) :: ownK := ⟨_, rfl⟩
                  refine gk ?_
                  clear gk gG
                  have mlSS : (lS, W.listOf vsS.toArray cS) ∈ ownS := by rw [hownS]; exact .head _
                  have mKS : ∀ q ∈ ownK, q ∈ ownS := fun q hq => by rw [hownS]; exact .tail _ hq
                  have mPS := mKS _ mPK
                  have mDS := mKS _ mDK
                  have mMS := mKS _ mMK
                  have mOS := mKS _ mOK
                  have mTS := mKS _ mTK
                  rw [← hownS] at N₅₂ offS
                  clear hownS
                  dsimp only [List.cons_append, List.nil_append] at N₅₂
                  k_steps
                  with_reducible rename Fr _ _ _ _ => F₅₃
                  with_reducible rename News _ _ _ _ => N₅₃
                  refine stop_in ?_
                  refine ListComp_G (fun a y => ∃ t, y = Value.int ((p * a).fmod n) t) (marksOf p mo f sh n) False (by with_unfolding_all rfl) (by decide) rfl (by decide) (by with_unfolding_all rfl) ?_
                  k_steps
                  with_reducible rename Fr _ _ _ _ => F₅₄
                  with_reducible rename News _ _ _ _ => N₅₄
                  refine src_list rfl (News.isList N₅₄ (by repeat (first | exact mMS | refine .tail _ ?_))) hiM (by omega) F₅₄ N₅₄ ?pmElt ?pmUse
                  case pmElt =>
                    intro C i tv s₃ m₃ E' hi9 hC hh27 hns hm hF hN htk
                    refine hideG_MJ fun gG gk => ?_
                    obtain ⟨h₃', tk₃', G₃, rfl, hG₃⟩ := hh27
                    obtain ⟨ownE, NE, hallE⟩ := own_every hF
                    obtain ⟨oC, hoC, NN⟩ := elt_ledger F₅₄ hC hns hN NE
                    dsimp only [List.cons_append] at NN
                    obtain ⟨tl, htl⟩ : ∃ tl, tl = ownS ++ ownE := ⟨_, rfl⟩
                    rw [← htl] at NN
                    have mtl : ∀ q ∈ ownS, q ∈ tl := fun q hq => by rw [htl]; exact List.mem_append_left _ hq
                    have mte : ∀ q ∈ ownE, q ∈ tl := fun q hq => by rw [htl]; exact List.mem_append_right _ hq
                    have KG := fun (h' : Heap) (tk' : Nat) (news : List (Addr × Obj)) (F' : Fr s.heap L₁ h' _) (N' : News s.heap L₁ h' news) (hs : ∀ q ∈ ownE, q ∈ news) => KeepsG.walked (s := { s with heap := h₃', toks := tk₃', gens := G₃ }) (tk := tk') (G := G₃) hF hallE id F' N' hs
                    clear hN NE htl
                    have hti := hmb ((marksOf p mo f sh n).getD i 0) (by rw [List.getD_eq_getElem?_getD, List.getElem?_eq_getElem hi9]; exact List.getElem_mem hi9)
                    obtain ⟨tn, htn⟩ : ∃ tn, (marksOf p mo f sh n).getD i 0 = tn := ⟨_, rfl⟩
                    refine gk ?_
                    clear gk gG
                    rw [htn] at hm hti ⊢
                    have hp8 : p < 8 := by omega
                    k_steps
                    with_reducible rename Fr _ _ _ _ => F₅₅
                    with_reducible rename News _ _ _ _ => N₅₅
                    refine stop_in ?_
                    refine' c_mul w mean mg mb p tn _ _ _ _ _ _ _ _ _ _ _ _ _ _ _ _ _ _ _ B₁ ?FPM1 X T ?kPM1 ?prePM1 ?r1PM1 ?r2PM1 ?finPM1
                    case FPM1 => exact F₅₅
                    case kPM1 => rfl
                    case prePM1 => exact ⟨by omega, by omega, by omega, by omega⟩
                    case r1PM1 => k_room
                    case r2PM1 => k_units
                    intro v h₅₆ tk₅₆ hk₅₆ hh28
                    refine hideG_MJ fun gG gk => ?_
                    obtain ⟨t₅₆, rfl⟩ := hh28
                    refine gk ?_
                    clear gk gG
                    have F₅₆ := F₅₅.after hk₅₆
                    have N₅₆ := newsKeep N₅₅ hk₅₆
                    clear F₅₅ N₅₅
                    k_steps
                    with_reducible rename Fr _ _ _ _ => F₅₇
                    with_reducible rename News _ _ _ _ => N₅₇
                    refine stop_in ?_
                    refine' c_mod w mean mg mb (p * tn) n _ _ _ _ _ _ _ _ _ _ _ _ _ _ _ _ _ _ _ B₁ ?FPM2 X T ?kPM2 ?prePM2 ?r1PM2 ?r2PM2 ?finPM2
                    case FPM2 => exact F₅₇
                    case kPM2 => rfl
                    case prePM2 => show (0 : Int) < n; omega
                    case r1PM2 => k_room
                    case r2PM2 => k_units
                    intro v h₅₈ tk₅₈ hk₅₈ hh29
                    refine hideG_MJ fun gG gk => ?_
                    obtain ⟨t₅₈, rfl⟩ := hh29
                    refine gk ?_
                    clear gk gG
                    have F₅₈ := F₅₇.after hk₅₈
                    have N₅₈ := newsKeep N₅₇ hk₅₈
                    clear F₅₇ N₅₇
                    k_steps
                    · refine stop_in ?_
                      exact ⟨_, rfl⟩
                    · with_reducible rename Fr _ _ _ _ => FL
                      with_reducible rename News _ _ _ _ => NL
                      exact KG _ _ _ FL NL (fun q hq => by
                        have := mte q hq
                        repeat (first | exact this | refine .tail _ ?_))
                  case pmUse =>
                    intro lY hY tkY GY ysY hYn hh30 hEY hGY FY NY htkV
                    refine hideG_MJ fun gG gk => ?_
                    obtain ⟨cY, hoY⟩ := hh30
                    have hiY := hEY.ints (g := fun a => (p * a).fmod n)
                    change News s.heap L₁ hY _ at NY
                    change Fr s.heap L₁ hY _ at FY
                    have hGY' : AllBare GY := hGY hGK'
                    obtain ⟨esY, hesY⟩ : ∃ es, es = ysY.toList := ⟨_, rfl⟩
                    refine gk ?_
                    clear gk gG
                    have eY : ysY = esY.toArray := by rw [hesY]
                    subst eY
                    rw [List.toList_toArray] at hiY
                    clear hesY hEY hGY
                    have NY' := news_put (A := [_, _, _, _, _, _, _, _, _, _, _, _]) (own := ownS) F₅₄ hYn NY hoY
                    have offY := off_new (o := W.listOf esY.toArray cY) (A := [_, _, _, _, _, _, _, _, _, _, _, _]) offS hYn N₅₄ rfl
                    change News s.heap L₁ hY ([_, _, _, _, _, _, _, _, _, _, _, _] ++ (lY, W.listOf esY.toArray cY) :: ownS) at NY'
                    clear NY F₅₄ N₅₄
                    refine hideG_MJ fun gG gk => ?_
                    obtain ⟨ownV, hownV⟩ : ∃ own, own = (lY, W.listOf esY.toArray cY) :: ownS := ⟨_, rfl⟩
                    refine gk ?_
                    clear gk gG
                    have mlYV : (lY, W.listOf esY.toArray cY) ∈ ownV := by rw [hownV]; exact .head _
                    have mSV : ∀ q ∈ ownS, q ∈ ownV := fun q hq => by rw [hownV]; exact .tail _ hq
                    have mPV := mSV _ mPS
                    have mDV := mSV _ mDS
                    have mMV := mSV _ mMS
                    have mOV := mSV _ mOS
                    have mTV := mSV _ mTS
                    have mlSV := mSV _ mlSS
                    rw [← hownV] at NY' offY
                    clear hownV
                    dsimp only [List.cons_append, List.nil_append] at NY'
                    have hVl := hiY.length
                    rw [List.length_map] at hVl
                    k_steps
                    with_reducible rename Fr _ _ _ _ => F₅₉
                    with_reducible rename News _ _ _ _ => N₅₉
                    refine stop_in ?_
                    refine sorted_G (B := [_, _, _, _, _, _, _, _, _, _, _, _]) (own := ownV) F₅₉ N₅₉ rfl offY (News.isList N₅₉ (by repeat (first | exact mlYV | refine .tail _ ?_))) hiY (by omega) fun lZ h₆₀ vsZ qsZ cZ F₆₀ N₆₀ offZ hiZ hpmZ hpwZ => ?_
                    clear F₅₉ N₅₉
                    refine hideG_MJ fun gG gk => ?_
                    obtain ⟨ownZ, hownZ⟩ : ∃ own, own = (lZ, W.listOf vsZ.toArray cZ) :: ownV := ⟨_, rfl⟩
                    refine gk ?_
                    clear gk gG
                    have mlZZ : (lZ, W.listOf vsZ.toArray cZ) ∈ ownZ := by rw [hownZ]; exact .head _
                    have mVZ : ∀ q ∈ ownV, q ∈ ownZ := fun q hq => by rw [hownZ]; exact .tail _ hq
                    have mPZ := mVZ _ mPV
                    have mDZ := mVZ _ mDV
                    have mMZ := mVZ _ mMV
                    have mOZ := mVZ _ mOV
                    have mTZ := mVZ _ mTV
                    have mlSZ := mVZ _ mlSV
                    rw [← hownZ] at N₆₀ offZ
                    clear hownZ
                    dsimp only [List.cons_append, List.nil_append] at N₆₀
                    have eqZ : qsZ = qsS := List.Perm.eq_of_pairwise (fun a b _ _ h1 h2 => Int.le_antisymm h1 h2) hpwZ hpwS ((hpmZ.trans (moved_perm hPM hFO hsh0 hsh1)).trans hpmS.symm)
                    k_steps
                    with_reducible rename Fr _ _ _ _ => F₆₁
                    with_reducible rename News _ _ _ _ => N₆₁
                    refine stop_in ?_
                    refine ne_same (vs := vsZ) (ws := vsS) (News.isList N₆₁ (by repeat (first | exact mlZZ | refine .tail _ ?_))) (News.isList N₆₁ (by repeat (first | exact mlSZ | refine .tail _ ?_))) (eqZ ▸ hiZ) hiS (by k_units) ?_
                    k_steps
                    with_reducible rename Fr _ _ _ _ => F₆₂
                    with_reducible rename News _ _ _ _ => N₆₂
                    refine stop_in ?_
                    change wpAny _ _ (call (.ref 142) [.ref lP, .ref lM, .int p _, .int (mor d0) _, .int f _, .int sh _]) _ _ _
                    rw [show mor d0 = mo from (Eq.symm hmo)]
                    have sub6 : ∀ q ∈ own₆, q ∈ ownZ := fun q hq => mVZ _ (mSV _ (mKS _ (mFK _ (mCF _ (mBC _ (m₉B _ (m₈₉ _ (m78 _ (m67 _ hq)))))))))
                    have hPz := hPQ.at (Nat.le_refl _) (KT _ _ _ F₆₂ N₆₂ (fun q hq => by
                      have := sub6 q hq
                      repeat (first | exact this | refine .tail _ ?_)))
                    refine' c_told w mean mg mb lP lM vsP msM (pws p mo n) (marksOf p mo f sh n) lo tk₆ p mo f sh _ _ _ _ _ _ _ _ _ _ _ _ _ _ _ _ _ _ _ _ _ B₁ ?FTO X T ?kTO ?preTO ?r1TO ?r2TO ?finTO
                    case FTO => exact F₆₂
                    case kTO => rfl
                    case preTO => exact ⟨News.isList N₆₂ (by repeat (first | exact mPZ | refine .tail _ ?_)), hPz, News.isList N₆₂ (by repeat (first | exact mMZ | refine .tail _ ?_)), hiM, told_ok hPM hFO hsh0 hsh1, by omega, by omega, by omega, by omega, by omega, by omega, by omega, by omega, by omega, fun x hx => by have := hmb x hx; omega, pws_bound hPM, by rw [pws_length]; omega, by rw [pws_length]; omega⟩
                    case r1TO => k_room
                    case r2TO => k_units
                    rintro v h₆₃ tk₆₃ hk₆₃ rfl
                    have F₆₃ := F₆₂.after hk₆₃
                    exact hret _ _ _ hGY' (fun b o e => F₆₃.keep b o e)
end Mine
end

open PySem PySem.W PyProof.Rows PySem.Calls PySem.Spec
namespace Mine
theorem kft (w : World) : hd.heap_39 w.params = hd.heap_39 w.params ∧ PySem.Challenge.rw_wk0002_01.row.prog = PySem.Challenge.rw_wk0002_01.row.prog := by w_top off; k_fill; exact ⟨rfl, rfl⟩
end Mine
open Mine
set_option linter.unusedVariables false
set_option maxRecDepth 100000 in
set_option maxHeartbeats 8000000 in
theorem PySem.Challenge.cw_wk0002_01_holds : PySem.Challenge.rw_wk0002_01.Holds := by
  refine hd ?_
  intro w s₀ s₁ mg mb G Y fa o pm cd doc dV kV ho hd' hcd hD hmg hg args vals as hpre hlay hrd hwl hlo
  have KX := kIn_of Y
  have X := (Ground.X G).1
  have V := (Ground.X G).2
  refine Ground.open G ?_
  intro T B D TE TW
  have hmg' := hmg
  obtain ⟨_, _, M⟩ := bmod_of_top T
  have TA := at_of_top T
  try (obtain ⟨_, _, he, B0⟩ := based_of_top T rfl hmg ho hd'; have he' : cd = _ := he; subst he'; clear he)
  clear hmg
  wrow_args hpre hlay hrd hwl hlo
  have e147 : mg (Str.ofString "law") = some (.ref 147) := mg_of KX T.g (by k_is)
  have hfa : fa = 147 := by
    have e : some (Value.ref fa) = some (Value.ref 147) := hmg'.symm.trans e147
    injection e with e
    injection e
  subst hfa
  with_reducible rename Heap.IsList _ _ _ => hL
  with_reducible rename IntsAre _ _ => hI
  have hlen9 := ‹¬ (63 : Int) < _›
  refine enter_call ?_
  refine c_law w _ mg mb _ _ _ KX T hL hI (by omega) (AllBare.of_eq hg) fun h' tk' G' hG' hk' => ?_
  refine ⟨.inl ⟨.bool true, .bool true, [], rfl, raisesW_false ?hn, .bool true, ?hp, unshared_nil⟩, .of_keep hk', rfl, hG'⟩
  case hn => wrow_none_raised
  case hp => wrow_post
