import PyProof.Rows.All
import Wide.All
import OpenK.AllK
import Wide.FinOn
import PySem.Challenge.RW_nb0062_01
set_option Elab.async false

section
open PySem PySem.W PyProof.Rows
set_option maxRecDepth 100000
set_option maxHeartbeats 8000000
namespace Mine
open_top hd for PySem.Challenge.rw_nb0062_01
end Mine
end

section
open PySem PySem.W PyProof.Rows PySem.Calls PySem.Spec
set_option maxRecDepth 100000
set_option maxHeartbeats 8000000
namespace Mine
abbrev prog : Program := PySem.Challenge.rw_nb0062_01.row.prog

/-- what is known of the heap at the law's call -/
structure Ground (w : World) (mean : ExcName → Option Value) (mg mb : Str → Option Value) (h : Heap) : Prop where
  K : (hd.heap_39 w.params).In h
  T : Top hd.view_39 (looseW hd.view_39 [Str.ofString "_fail_neg"]) mean mg mb h

theorem Ground.keeps {w mean mg mb h h'} (G : Ground w mean mg mb h) (k : ∀ b o, h.get? b = some o → h'.get? b = some o) : Ground w mean mg mb h' :=
  ⟨G.K.keeps k, G.T.keeps k⟩

theorem fill : PySem.Challenge.rw_nb0062_01.foot = 10 ∨ (∀ P, hd.heap_39 P = []) := by
  w_top off
  k_fill
  left; rfl

theorem enterS {w : World} {A : Around} {mean mg mb} {s : Shared} {R : Result → Shared → Prop} {name qual : Str} {params : Arguments} {body : List Stmt} {scope : Scope} {dV kV doc pm cdv ct oc : Value} {an od : Option Addr} {osl : Array (Option Value)} {f : Addr} {args : Args} {binds : List (Str × Value)}
    (G : Ground w mean mg mb s.heap)
    (ho : (hd.heap_39 w.params).lookup f = some ⟨oc, od, .func (fnOf name qual params body scope dV kV doc pm an cdv ct), osl⟩) (hcd : codeIn (hd.heap_39 w.params) cdv qual = true) (hroom : A.depth < recursionLimit)
    (hbind : BindsTo s (fnOf name qual params body scope dV kV doc pm an cdv ct) args binds) (hloc : ∀ y ∈ binds, scope.names.lookup y.1 = some .local)
    (h : ∀ h₁, Fr s.heap s.heap.objs.size h₁ (fun y => binds.reverse.lookup y) → News s.heap s.heap.objs.size h₁ [] →
      wpAny (model prog w) (A.deeper (envOf qual scope s.heap.objs.size f cdv)) (execs body (envOf qual scope s.heap.objs.size f cdv))
        (fun fl s' => R (.ok (.ret (match fl with | .ret v => v | _ => .none))) s')
        (fun e s' => wpAny (model prog w) (A.deeper (envOf qual scope s.heap.objs.size f cdv)) (leaving (envOf qual scope s.heap.objs.size f cdv) e) (fun _ s'' => R (.error e) s'') (fun e' s'' => R (.error e') s'') s')
        { s with heap := h₁, toks := s.toks + binds.length })
    (hco : scope.isCoroutine = false) (hgen : scope.isGenerator = false) (hk : scope.kind = .function)
    (hcell : ∀ x ∈ scope.names, x.2 ≠ .cell) : codeAny (model prog w) A (.call (.ref f) args) R s := by
  refine codeAny_call_def (fd := fnOf name qual params body scope dV kV doc pm an cdv ct) (body := body) (binds := binds) hroom (G.K _ _ ho) rfl G.T.nolimit (codeRec_of G.K hcd) rfl hbind hcell hloc (fun h₁ hns hk₁ => ?_) hco hgen hk
  exact h h₁ ⟨hns, hk₁, Nat.le_refl _⟩ News.nil

end Mine
end

section
open PySem PySem.W PyProof.Rows PySem.Calls PySem.Spec
open PySem.W.X (SegX)
set_option maxRecDepth 100000
set_option maxHeartbeats 4000000
namespace Mine

section
variable {w : World} {A : Around} {c : Code} {fs : List Frame} {s : Shared} {P : End → Shared → Prop} {env : Env}
  {K : Flow → Sem Fin} {H : Value → Sem Fin} {gd : Bool → Bool} {lv : List Value → List Value}

theorem sx_wrap {α : Type} {M : Model} {m : Sem α} {K : α → Sem Fin} {H : Value → Sem Fin} {gd lv}
    (h : wpAny M (A.over c fs) m (fun a s' => SegX M A c (K a) fs s' P) (fun x s' => SegX M A c (H x) fs s' P) s) :
    SegX M A c (m.wrap K H gd lv) fs s P := by
  rintro Γ p rfl hΓ
  obtain ⟨e, s', hr, hq⟩ := runs_wrap_of_wp (Φ := fun e s' => e.quiet = true ∧ P e s') K H gd lv m (h (Γ.over fs) p (hΓ.over fs)) (fun a p' s' h' => h' Γ p' rfl hΓ) (fun x p' s' h' => h' Γ p' rfl hΓ)
  exact ⟨e, s', hr, hq⟩

theorem sx_congr {α : Type} {M : Model} {m : Sem α} {K K' : α → Sem Fin} {H H' : Value → Sem Fin} {gd gd' lv lv'} (hK : ∀ a, K a = K' a) (hH : ∀ e, H e = H' e) (hg : gd = gd') (hl : lv = lv')
    (h : SegX M A c (m.wrap K' H' gd' lv') fs s P) : SegX M A c (m.wrap K H gd lv) fs s P := by
  have e1 := funext hK
  have e2 := funext hH
  subst e1 e2 hg hl
  exact h

theorem sx_execs_nil {M : Model} (h : SegX M A c (K .next) fs s P) : SegX M A c ((execs [] env).wrap K H gd lv) fs s P := h

theorem sx_execs_cons {M : Model} {st : Stmt} {rest : List Stmt}
    (h : SegX M A c ((exec st env).wrap (fun f => match f with | .next => (execs rest env).wrap K H gd lv | f => K f) H gd lv) fs s P) :
    SegX M A c ((execs (st :: rest) env).wrap K H gd lv) fs s P := by rw [execs_cons_wrap]; exact h

theorem sx_at {M : Model} {p' : Pos} {k : Unit → Sem Fin} (h : SegX M A c (k ()) fs s P) : SegX M A c (.at p' k) fs s P :=
  sx_wrap (m := standAt p') (K := k) (H := .raise) (gd := id) (lv := id) (wpAny_standAt h)

theorem sx_point {M : Model} {l : List Value} {k : Unit → Sem Fin} (h : SegX M A c (k ()) fs s P) : SegX M A c (.point l k) fs s P :=
  sx_wrap (m := point) (K := k) (H := .raise) (gd := id) (lv := fun _ => l) (wpAny_point h)

theorem sx_call {M : Model} {c' : Code} {h g l} {k : Result → Sem Fin} (hc : ∀ p, SegX M A c' (M.den c') (.ret k h g l c p [] :: fs) s P) :
    SegX M A c (.call c' h g l k) fs s P := by
  rintro Γ p rfl hΓ
  obtain ⟨e, s', hr, hq⟩ := hc p (Γ.goto c') p rfl (hΓ.goto c')
  exact ⟨e, s', runs_call_seg hr, hq⟩

theorem sx_again {M : Model} {c' : Code} (hq : c'.quiet = true) (x : SegX M A c' (M.den c') fs s P) : SegX M A c (.pure (.again c')) fs s P := by
  rintro Γ p rfl hΓ
  obtain ⟨e, s', hr, hq'⟩ := x (Γ.goto c') p rfl (hΓ.goto c')
  exact ⟨e, s', Runs.head (c₁ := c') (fun _ _ y => .again hq y) hr, hq'⟩

theorem sx_pop {M : Model} (r : Result) {k : Result → Sem Fin} {hd g l c₁ p₁ kp} (x : SegX M A c₁ (k r) fs s P) : SegX M A c (leafOf r) (.ret k hd g l c₁ p₁ kp :: fs) s P := by
  rintro Γ p rfl hΓ
  obtain ⟨e, s', hr, hq⟩ := x (Γ.goto c₁) p₁ rfl (hΓ.goto c₁)
  exact ⟨e, s', Runs.pop r hr, hq⟩

theorem sx_end {M : Model} (r : Result) (x : P (.ret r) s) : SegX M A c (leafOf r) [] s P := by
  rintro Γ p rfl _
  exact ⟨.ret r, s, Runs.leaf r, rfl, x⟩

theorem sx_yield {M : Model} {v : Value} {g : Bool} {l : List Value} {k : Resume → Sem Fin} (hfs : splitAtGen fs = none) (hg : g = false) (hfg : fs.any Frame.guarded = false)
    (x : ∀ p, P (.susp v g l k c p fs) s) : SegX M A c (.yield v g l k) fs s P := by
  rintro Γ p rfl _
  exact ⟨_, s, Runs.yield' fs hfs, by simp [End.quiet, hfg, hg], x p⟩

theorem sx_If {M : Model} {test : Expr} {body orelse : List Stmt} {pos : Pos}
    (h : wpAny M (A.over c fs) (isTrue test env (eval test env)) (fun b s' => if b = true then SegX M A c ((execs body env).wrap K H gd lv) fs s' P else SegX M A c ((execs orelse env).wrap K H gd lv) fs s' P)
      (fun x s' => SegX M A c (H x) fs s' P) s) :
    SegX M A c ((exec (.If test body orelse pos) env).wrap K H gd lv) fs s P := by
  rw [exec_If, Sem.bind_eq_wrap', Sem.wrap_wrap]
  refine sx_wrap (wpAny_standAt ?_)
  rw [Sem.bind_eq_wrap', Sem.wrap_wrap]
  refine sx_wrap (wpAny_mono h (fun b s' hb => ?_) fun _ _ x => x)
  cases b <;> exact hb

theorem sx_Expr_Yield {M : Model} {e : Expr} {ypos pos : Pos} (hfs : splitAtGen fs = none) (hgd : gd false = false) (hfg : fs.any Frame.guarded = false)
    (h : wpAny M (A.over c fs) (eval e env) (fun v s' => ∀ p l (k : Resume → Sem Fin), k (.send .none) = K .next → P (.susp v false l k c p fs) s')
      (fun x s' => SegX M A c (H x) fs s' P) s) (hco : env.scope.isCoroutine = false := by rfl) (hi : interactive env = false := by rfl) :
    SegX M A c ((exec (.Expr (.Yield (some e) ypos) pos) env).wrap K H gd lv) fs s P := by
  rw [exec_Expr env _ pos hi rfl]
  show SegX M A c (.at pos fun _ => ((eval e env >>= fun v => (standAt ypos >>= fun _ => yieldOut env v)) >>= fun x =>
    dropValue (.Yield (some e) ypos) pos x).wrap K H gd lv) fs s P
  have hy : ∀ v, yieldOut env v = yieldValue v := fun v => by simp only [yieldOut, hco, Bool.false_eq_true, if_false]
  simp only [hy]
  refine sx_at ?_
  rw [Sem.bind_eq_wrap', Sem.bind_eq_wrap', Sem.wrap_wrap, Sem.wrap_wrap]
  refine sx_wrap (wpAny_mono h (fun v s' h' => ?_) fun _ _ x => x)
  refine sx_at (sx_yield hfs hgd hfg fun p => ?_)
  have hg2 : (fun g => gd (id g)) false = false := hgd
  rw [hg2]
  exact h' p _ _ rfl

/-- what a for's frame does with the loop's end -/
def backK (env : Env) (K : Flow → Sem Fin) (H : Value → Sem Fin) (gd : Bool → Bool) (lv : List Value → List Value) : Result → Sem Fin := fun r =>
  ((match r with | .ok f => (.pure f : Sem Flow) | .error e => .raise e).onRaise fun (x : Value) => do
    if (← field x 1) == Value.none then unsupported "frame.own-activation:exception-without-traceback"
    setFlight x env.frame).wrap K H gd lv

theorem sx_For {M : Model} {target iter : Expr} {body orelse : List Stmt} {pos : Pos}
    (h : wpAny M (A.over c fs) (eval iter env) (fun x s₁ => wpAny M (A.over c fs) (pyIter x) (fun it s₂ =>
        ∀ l p, SegX M A (.forLoop target it body orelse env) (M.den (.forLoop target it body orelse env)) (.ret (backK env K H gd lv) none (gd false) l c p [] :: fs) s₂ P)
        (fun x s' => SegX M A c (H x) fs s' P) s₁) (fun x s' => SegX M A c (H x) fs s' P) s)
    (hs : ∀ x, foldedSetIterable iter env x = pure x := by intro _; rfl) :
    SegX M A c ((exec (.For target iter body orelse pos) env).wrap K H gd lv) fs s P := by
  rw [exec_For]
  rw [Sem.bind_eq_wrap', Sem.wrap_wrap]
  refine sx_wrap (wpAny_standAt ?_)
  rw [Sem.bind_eq_wrap', Sem.wrap_wrap]
  refine sx_wrap (wpAny_mono h (fun x s₁ h₁ => ?_) fun _ _ x => x)
  rw [hs x]
  show SegX M A c (Sem.wrap _ _ _ _ (standAt iter.pos >>= _)) fs s₁ P
  rw [Sem.bind_eq_wrap', Sem.wrap_wrap]
  refine sx_wrap (wpAny_standAt ?_)
  rw [Sem.bind_eq_wrap', Sem.wrap_wrap]
  refine sx_wrap (wpAny_holding (wpAny_mono h₁ (fun it s₂ h₂ => ?_) fun _ _ x => x))
  exact sx_call fun p => h₂ _ p

/-- what a loop's turn does with its body's end -/
def turnK (target : Expr) (it : Value) (body orelse : List Stmt) (env : Env) : Flow → Sem Fin := fun f => match f with
  | .next | .cont => .pure (.again (.forLoop target it body orelse env))
  | .brk => .pure (.done .next)
  | .ret v => .pure (.done (.ret v))
def turnH (env : Env) : Value → Sem Fin := fun e => (do noteFrame e env; theTreesLotGoes e : Sem Unit).bind (fun _ => .raise e)

theorem sx_forLoop {M : Model} {target : Expr} {it : Value} {body orelse : List Stmt} (hM : M.den = denote table)
    (h : wpAny M (A.over (.forLoop target it body orelse env) fs) (pyNext it) (fun r s₁ => match r with
        | none => SegX M A (.forLoop target it body orelse env) (.pure (.again (.block orelse env))) fs s₁ P
        | some v => wpAny M (A.over (.forLoop target it body orelse env) fs) (letOwnedTupleGo target it v) (fun _ s₂ =>
            wpAny M (A.over (.forLoop target it body orelse env) fs) (assign target env v) (fun _ s₃ =>
              SegX M A (.forLoop target it body orelse env) ((execs body env).wrap (turnK target it body orelse env) (turnH env) id id) fs s₃ P)
              (fun x s' => SegX M A (.forLoop target it body orelse env) (turnH env x) fs s' P) s₂)
              (fun x s' => SegX M A (.forLoop target it body orelse env) (turnH env x) fs s' P) s₁)
      (fun x s' => SegX M A (.forLoop target it body orelse env) (turnH env x) fs s' P) s) :
    SegX M A (.forLoop target it body orelse env) (M.den (.forLoop target it body orelse env)) fs s P := by
  rw [hM]
  show SegX M A _ ((forTurn target it body orelse env).onRaise (fun x => do noteFrame x env; theTreesLotGoes x)) fs s P
  unfold forTurn
  rw [Sem.onRaise_eq_wrap, Sem.bind_eq_wrap', Sem.wrap_wrap]
  refine sx_wrap (wpAny_standAt ?_)
  rw [Sem.bind_eq_wrap', Sem.wrap_wrap]
  refine sx_wrap (wpAny_onRaise (wpAny_mono h (fun r s₁ h₁ => ?_) fun x s' hx => wpAny_standAt hx))
  cases r with
  | none => exact h₁
  | some v =>
    show SegX M A _ (Sem.wrap _ _ _ _ (letOwnedTupleGo target it v >>= _)) fs s₁ P
    rw [Sem.bind_eq_wrap', Sem.wrap_wrap]
    refine sx_wrap (wpAny_mono h₁ (fun _ s₂ h₂ => ?_) fun x s' hx => hx)
    rw [Sem.bind_eq_wrap', Sem.wrap_wrap]
    refine sx_wrap (wpAny_mono h₂ (fun _ s₃ h₃ => ?_) fun x s' hx => hx)
    rw [Sem.bind_eq_wrap', Sem.wrap_wrap]
    exact sx_congr (fun f => by cases f <;> rfl) (fun e => rfl) rfl rfl h₃

/-- a def's own activation: what its body's end does -/
def funK : Flow → Sem Fin := fun f => .pure (.done (.ret (match f with | .ret v => v | _ => .none)))
def funH (env : Env) : Value → Sem Fin := fun e => (leaving env e).bind (fun _ => .raise e)

theorem sx_func {M : Model} {body : List Stmt} (hM : M.den = denote table)
    (h : SegX M A (.func body env) ((execs body env).wrap funK (funH env) id id) fs s P) :
    SegX M A (.func body env) (M.den (.func body env)) fs s P := by
  rw [hM]
  show SegX M A _ (.point [] fun _ => ((execs body env).onRaise (leaving env)) >>= _) fs s P
  refine sx_point ?_
  rw [Sem.onRaise_eq_wrap, Sem.bind_eq_wrap', Sem.wrap_wrap]
  refine sx_congr (fun f => by cases f <;> rfl) (fun e => ?_) rfl rfl h
  rw [Sem.bind_eq_wrap, Sem.wrap_wrap]; unfold funH; rw [Sem.bind_eq_wrap]; rfl

theorem sx_block_nil {M : Model} (hM : M.den = denote table) (h : SegX M A (.block [] env) (.pure (.done .next)) fs s P) :
    SegX M A c (.pure (.again (.block [] env))) fs s P := by
  refine sx_again rfl ?_
  rw [hM]; exact h

theorem over_func (A : Around) (body : List Stmt) (env : Env) : A.over (.func body env) [] = A.deeper env := by
  obtain ⟨hd, d, fr, gs, u⟩ := A
  cases fr <;> cases gs <;> rfl
theorem over_loop (A : Around) (target : Expr) (it : Value) (b o : List Stmt) (env : Env) (k : Result → Sem Fin) (g : Bool) (l : List Value) (body : List Stmt) (p : Pos) :
    A.over (.forLoop target it b o env) [.ret k none g l (.func body env) p []] = A.deeper env := by
  obtain ⟨hd, d, fr, gs, u⟩ := A
  cases fr <;> cases gs <;> rfl
end
end Mine
end

section
open PySem PySem.W PyProof.Rows PySem.Calls PySem.Spec
open PySem.W.X (SegX)
set_option maxRecDepth 100000
set_option maxHeartbeats 4000000
set_option linter.unusedVariables false
namespace Mine

/-- the pairs that _iter_escaped_chars hands out: i signs are taken, the flag -/
def escFrom : Nat → Bool → List Nat → List (Nat × List Nat)
  | _, false, [] => []
  | i, true, [] => [(i - 1, [92])]
  | i, true, c :: r => (i, [92, c]) :: escFrom (i + 1) false r
  | i, false, c :: r => if c = 92 then escFrom (i + 1) true r else (i, [c]) :: escFrom (i + 1) false r

/-- all that is live in a heap but some places -/
def allBut (h : Heap) (pv : List Addr) : List (Addr × Obj) :=
  (List.range h.objs.size).filterMap fun b => if b ∈ pv then none else (h.get? b).map fun o => (b, o)
theorem mem_allBut {h : Heap} {pv : List Addr} {b : Addr} {o : Obj} : (b, o) ∈ allBut h pv ↔ b ∉ pv ∧ h.get? b = some o := by
  unfold allBut
  rw [List.mem_filterMap]
  constructor
  · rintro ⟨a, _, ha⟩
    by_cases hp : a ∈ pv
    · rw [if_pos hp] at ha; cases ha
    · rw [if_neg hp] at ha
      cases hg : h.get? a with
      | none => rw [hg] at ha; cases ha
      | some o' => rw [hg] at ha; cases ha; exact ⟨hp, hg⟩
  · rintro ⟨hp, hg⟩
    exact ⟨b, List.mem_range.mpr (Heap.lt_size hg), by rw [if_neg hp, hg]; rfl⟩

def Since (pv : List Addr) (s₀ s : Shared) : Prop :=
  ∃ h' tk, s = { s₀ with heap := h', toks := tk } ∧ ∀ b o, b ∉ pv → s₀.heap.get? b = some o → h'.get? b = some o
theorem Since.refl (pv : List Addr) (s : Shared) : Since pv s s := ⟨s.heap, s.toks, rfl, fun _ _ _ e => e⟩
theorem Since.step {pv : List Addr} {s₀ s : Shared} (x : Since pv s₀ s) {h' : Heap} {tk : Nat} (hk : ∀ b o, b ∉ pv → s.heap.get? b = some o → h'.get? b = some o) :
    Since pv s₀ { s with heap := h', toks := tk } := by
  obtain ⟨h₁, tk₁, rfl, hk₁⟩ := x
  exact ⟨h', tk, rfl, fun b o hp e => hk b o hp (hk₁ b o hp e)⟩

/-- what a woken generator of pairs does: hands out the next pair, or ends -/
def GoodEnd (M : Model) (A : Around) : List (Nat × List Nat) → List Addr → Shared → End → Shared → Prop
  | [], pv, s₀, en, s' => en = .ret (.ok (.ret .none)) ∧ Since pv s₀ s'
  | (p, ch) :: r, pv, s₀, en, s' => ∃ T tk₁ tk₂ l k c pp fs pv', en = .susp (.ref T) false l k c pp fs ∧ Since pv s₀ s' ∧
      s'.heap.IsTuple T #[.int (p : Nat) tk₁, .str ⟨ch.toArray⟩ tk₂] ∧ (∀ b o, s₀.heap.get? b = some o → b ∉ pv → b < T) ∧ T ∉ pv' ∧
      (∀ b ∈ pv', b ∈ pv ∨ s₀.heap.get? b = none) ∧
      ∀ s'' : Shared, (∀ b ∈ pv', ∀ o, s'.heap.get? b = some o → s''.heap.get? b = some o) → SegX M A c (k (.send .none)) fs s'' (GoodEnd M A r pv' s'')

noncomputable def fdAt (w : World) (a : Addr) : FuncData := match (hd.heap_39 w.params).lookup a with
  | some ⟨_, _, .func f, _⟩ => f
  | _ => default
noncomputable def bodyAt (w : World) (a : Addr) : List Stmt := match (fdAt w a).body with | .stmts b => b | _ => []
noncomputable def envAt (w : World) (a L : Addr) : Env := envOf (fdAt w a).qualname (fdAt w a).scope L a (fdAt w a).code
def forT : Stmt → Expr | .For t _ _ _ _ => t | _ => default
def forI : Stmt → Expr | .For _ i _ _ _ => i | _ => default
def forB : Stmt → List Stmt | .For _ _ b _ _ => b | _ => default


theorem fillG1 : PySem.Challenge.rw_nb0062_01.foot = 10 ∨ (∀ P, hd.heap_39 P = []) := by
  w_top off
  k_fill
  left; rfl

theorem with_lookup {K : Frag} {a : Addr} {o : Obj} {P : Prop} (h : K.lookup a = some o) (k : K.lookup a = some o → P) : P := k h
theorem body42 (w : World) : ∃ a b, bodyAt w 42 = a :: b := by
  refine' with_lookup (a := 42) (K := hd.heap_39 w.params) ?h ?_
  case h => k_is
  intro e
  unfold bodyAt fdAt
  rw [e]
  exact ⟨_, _, rfl⟩


noncomputable def escFor (w : World) : Stmt := (bodyAt w 42).getD 2 default
noncomputable def escTail (w : World) : List Stmt := (bodyAt w 42).drop 3

theorem frNil {C : Addr} {h : Heap} {m : Str → Option Value} (n : h.Ns C m) : Fr {} C h m := ⟨n, fun b o e => by simp [Heap.get?] at e, Nat.zero_le _⟩
theorem newsNil {C : Addr} {h : Heap} {news : List (Addr × Obj)} (n : ∀ p ∈ news, h.get? p.1 = some p.2 ∧ p.1 ≠ C) : News {} C h news := fun p hp => ⟨(n p hp).1, (n p hp).2, by simp [Heap.get?]⟩



theorem sign_eq {a : Nat} (h : (({ cps := #[a] } : Str) == Str.ofString "\\") = true) : a = 92 := by
  have e := eq_of_beq h
  have e2 : (Str.ofString "\\") = { cps := #[92] } := by decide +kernel
  rw [e2] at e
  simpa using congrArg Str.cps e

theorem esc_body_true {w : World} {dp un : Nat} {gd : Option (List Code)} {outer : List Env} {Hx : Heap} {C : Addr} {s : Shared} {P : End → Shared → Prop} {c : Code} {fs : List Frame} {K : Flow → Sem Fin} {H : Value → Sem Fin}
    {m : Str → Option Value} {own : List (Addr × Obj)} {i : Int} {ti tc : Tok} {cc : Nat}
    (X : (hd.heap_39 w.params).In Hx)
    (hover : Around.over { handled := none, depth := dp, frames := some outer, guards := gd, units := un } c fs = Around.deeper { handled := none, depth := dp, frames := some outer, guards := gd, units := un } (envAt w 42 C))
    (hfs : splitAtGen fs = none) (hfg : fs.any Frame.guarded = false)
    (F : Fr {} C s.heap (fun y => if y = Str.ofString "ch" then some (.str ⟨#[cc]⟩ tc) else if y = Str.ofString "pos" then some (.int i ti) else if y = Str.ofString "escape" then some (.bool true) else m y))
    (N : News {} C s.heap own)
    (hP : ∀ T tk₁ tk₂ h' tk l k p, Fr {} C h' (fun y => if y = Str.ofString "ch" then some (.str ⟨#[cc]⟩ tc) else if y = Str.ofString "pos" then some (.int i ti) else if y = Str.ofString "escape" then some (.bool true) else m y) → News {} C h' ((T, { cls := .type "tuple", data := .seq #[.int i tk₁, .str ⟨#[92, cc]⟩ tk₂] }) :: own) → (∀ q ∈ own, q.1 < T) →
      (∀ (s'' : Shared) P'' m₂ own₂, Fr {} C s''.heap m₂ → News {} C s''.heap own₂ →
        (∀ h₃ tk₃, Fr {} C h₃ (fun y => if y = Str.ofString "escape" then some (.bool false) else m₂ y) → News {} C h₃ own₂ → SegX (model prog w) { handled := none, depth := dp, frames := some outer, guards := gd, units := un } c (K .next) fs { s'' with heap := h₃, toks := tk₃ } P'') →
        SegX (model prog w) { handled := none, depth := dp, frames := some outer, guards := gd, units := un } c (k (.send .none)) fs s'' P'') →
      P (.susp (.ref T) false l k c p fs) { s with heap := h', toks := tk }) :
    SegX (model prog w) { handled := none, depth := dp, frames := some outer, guards := gd, units := un } c ((execs (forB (escFor w)) (envAt w 42 C)).wrap K H id id) fs s P := by
  refine' with_lookup (a := 42) (K := hd.heap_39 w.params) ?h ?_
  case h => k_is
  intro e
  unfold escFor bodyAt envAt fdAt at *
  rw [e] at hover ⊢
  clear e
  dsimp only [List.getD_cons_succ, List.getD_cons_zero, List.drop_succ_cons, List.drop_zero, forB] at hover ⊢
  refine sx_execs_cons (sx_If ?_)
  rw [hover]
  k_steps
  refine sx_execs_cons (sx_Expr_Yield hfs rfl hfg ?_)
  rw [hover]
  k_steps
  all_goals (
    rename_i hk
    refine hP _ _ _ _ _ _ _ _ (by assumption) (by assumption) (by assumption) ?_
    intro s'' P'' m₂ own₂ F₂ N₂ hK
    rw [hk]
    refine sx_execs_cons (sx_wrap ?_)
    rw [hover]
    clear hP
    k_steps
    exact hK _ _ (by assumption) (by assumption))


theorem esc_body_slash {w : World} {dp un : Nat} {gd : Option (List Code)} {outer : List Env} {Hx : Heap} {C : Addr} {s : Shared} {P : End → Shared → Prop} {c : Code} {fs : List Frame} {K : Flow → Sem Fin} {H : Value → Sem Fin}
    {m : Str → Option Value} {own : List (Addr × Obj)} {i : Int} {ti tc : Tok} {cc : Nat}
    (X : (hd.heap_39 w.params).In Hx)
    (hover : Around.over { handled := none, depth := dp, frames := some outer, guards := gd, units := un } c fs = Around.deeper { handled := none, depth := dp, frames := some outer, guards := gd, units := un } (envAt w 42 C))
    (F : Fr {} C s.heap (fun y => if y = Str.ofString "ch" then some (.str ⟨#[cc]⟩ tc) else if y = Str.ofString "pos" then some (.int i ti) else if y = Str.ofString "escape" then some (.bool false) else m y))
    (N : News {} C s.heap own) (hcc : cc = 92)
    (hK : ∀ h₃ tk₃, Fr {} C h₃ (fun y => if y = Str.ofString "escape" then some (.bool true) else (fun y => if y = Str.ofString "ch" then some (.str ⟨#[cc]⟩ tc) else if y = Str.ofString "pos" then some (.int i ti) else if y = Str.ofString "escape" then some (.bool false) else m y) y) → News {} C h₃ own → SegX (model prog w) { handled := none, depth := dp, frames := some outer, guards := gd, units := un } c (K .next) fs { s with heap := h₃, toks := tk₃ } P) :
    SegX (model prog w) { handled := none, depth := dp, frames := some outer, guards := gd, units := un } c ((execs (forB (escFor w)) (envAt w 42 C)).wrap K H id id) fs s P := by
  refine' with_lookup (a := 42) (K := hd.heap_39 w.params) ?h ?_
  case h => k_is
  intro e
  unfold escFor bodyAt envAt fdAt at *
  rw [e] at hover ⊢
  clear e
  dsimp only [List.getD_cons_succ, List.getD_cons_zero, List.drop_succ_cons, List.drop_zero, forB] at hover ⊢
  subst hcc
  refine sx_execs_cons (sx_If ?_)
  rw [hover]
  k_steps
  refine sx_execs_cons (sx_If ?_)
  rw [hover]
  k_steps
  refine sx_execs_cons (sx_wrap ?_)
  rw [hover]
  k_steps
  exact hK _ _ (by assumption) (by assumption)
theorem esc_body_plain {w : World} {dp un : Nat} {gd : Option (List Code)} {outer : List Env} {Hx : Heap} {C : Addr} {s : Shared} {P : End → Shared → Prop} {c : Code} {fs : List Frame} {K : Flow → Sem Fin} {H : Value → Sem Fin}
    {m : Str → Option Value} {own : List (Addr × Obj)} {i : Int} {ti tc : Tok} {cc : Nat}
    (X : (hd.heap_39 w.params).In Hx)
    (hover : Around.over { handled := none, depth := dp, frames := some outer, guards := gd, units := un } c fs = Around.deeper { handled := none, depth := dp, frames := some outer, guards := gd, units := un } (envAt w 42 C))
    (hfs : splitAtGen fs = none) (hfg : fs.any Frame.guarded = false)
    (F : Fr {} C s.heap (fun y => if y = Str.ofString "ch" then some (.str ⟨#[cc]⟩ tc) else if y = Str.ofString "pos" then some (.int i ti) else if y = Str.ofString "escape" then some (.bool false) else m y))
    (N : News {} C s.heap own) (hcc : cc ≠ 92)
    (hP : ∀ T tk₁ tk₂ h' tk l k p, Fr {} C h' (fun y => if y = Str.ofString "ch" then some (.str ⟨#[cc]⟩ tc) else if y = Str.ofString "pos" then some (.int i ti) else if y = Str.ofString "escape" then some (.bool false) else m y) → News {} C h' ((T, { cls := .type "tuple", data := .seq #[.int i tk₁, .str ⟨#[cc]⟩ tk₂] }) :: own) → (∀ q ∈ own, q.1 < T) →
      (∀ (s'' : Shared) P'' m₂ own₂, Fr {} C s''.heap m₂ → News {} C s''.heap own₂ →
        SegX (model prog w) { handled := none, depth := dp, frames := some outer, guards := gd, units := un } c (K .next) fs s'' P'' → 
        SegX (model prog w) { handled := none, depth := dp, frames := some outer, guards := gd, units := un } c (k (.send .none)) fs s'' P'') →
      P (.susp (.ref T) false l k c p fs) { s with heap := h', toks := tk }) :
    SegX (model prog w) { handled := none, depth := dp, frames := some outer, guards := gd, units := un } c ((execs (forB (escFor w)) (envAt w 42 C)).wrap K H id id) fs s P := by
  refine' with_lookup (a := 42) (K := hd.heap_39 w.params) ?h ?_
  case h => k_is
  intro e
  unfold escFor bodyAt envAt fdAt at *
  rw [e] at hover ⊢
  clear e
  dsimp only [List.getD_cons_succ, List.getD_cons_zero, List.drop_succ_cons, List.drop_zero, forB] at hover ⊢
  refine sx_execs_cons (sx_If ?_)
  rw [hover]
  k_steps
  refine sx_execs_cons (sx_If ?_)
  rw [hover]
  k_steps
  · rename_i hq
    exact absurd (sign_eq hq) hcc
  refine sx_execs_cons (sx_Expr_Yield hfs rfl hfg ?_)
  rw [hover]
  k_steps
  all_goals (
    rename_i hk
    refine hP _ _ _ _ _ _ _ _ (by assumption) (by assumption) (by assumption) ?_
    intro s'' P'' m₂ own₂ F₂ N₂ hK
    rw [hk]
    exact hK)
theorem esc_tail_false {w : World} {dp un : Nat} {gd : Option (List Code)} {outer : List Env} {Hx : Heap} {C : Addr} {s : Shared} {P : End → Shared → Prop} {c : Code} {fs : List Frame} {K : Flow → Sem Fin} {H : Value → Sem Fin}
    {m : Str → Option Value} {own : List (Addr × Obj)} {i : Int} {ti tc : Tok} {cc : Nat}
    (X : (hd.heap_39 w.params).In Hx)
    (hover : Around.over { handled := none, depth := dp, frames := some outer, guards := gd, units := un } c fs = Around.deeper { handled := none, depth := dp, frames := some outer, guards := gd, units := un } (envAt w 42 C))
    (F : Fr {} C s.heap (fun y => if y = Str.ofString "pos" then some (.int i ti) else if y = Str.ofString "escape" then some (.bool false) else m y))
    (N : News {} C s.heap own)
    (hK : SegX (model prog w) { handled := none, depth := dp, frames := some outer, guards := gd, units := un } c (K .next) fs s P) :
    SegX (model prog w) { handled := none, depth := dp, frames := some outer, guards := gd, units := un } c ((execs (escTail w) (envAt w 42 C)).wrap K H id id) fs s P := by
  refine' with_lookup (a := 42) (K := hd.heap_39 w.params) ?h ?_
  case h => k_is
  intro e
  unfold escTail bodyAt envAt fdAt at *
  rw [e] at hover ⊢
  clear e
  dsimp only [List.getD_cons_succ, List.getD_cons_zero, List.drop_succ_cons, List.drop_zero, forB] at hover ⊢
  refine sx_execs_cons (sx_If ?_)
  rw [hover]
  k_steps
  exact hK
theorem esc_tail_true {w : World} {dp un : Nat} {gd : Option (List Code)} {outer : List Env} {Hx : Heap} {C : Addr} {s : Shared} {P : End → Shared → Prop} {c : Code} {fs : List Frame} {K : Flow → Sem Fin} {H : Value → Sem Fin}
    {m : Str → Option Value} {own : List (Addr × Obj)} {i : Int} {ti tc : Tok} {cc : Nat}
    (X : (hd.heap_39 w.params).In Hx)
    (hover : Around.over { handled := none, depth := dp, frames := some outer, guards := gd, units := un } c fs = Around.deeper { handled := none, depth := dp, frames := some outer, guards := gd, units := un } (envAt w 42 C))
    (hfs : splitAtGen fs = none) (hfg : fs.any Frame.guarded = false)
    (F : Fr {} C s.heap (fun y => if y = Str.ofString "pos" then some (.int i ti) else if y = Str.ofString "escape" then some (.bool true) else m y))
    (N : News {} C s.heap own)
    (hP : ∀ T tk₁ tk₂ h' tk l k p, Fr {} C h' (fun y => if y = Str.ofString "pos" then some (.int i ti) else if y = Str.ofString "escape" then some (.bool true) else m y) → News {} C h' ((T, { cls := .type "tuple", data := .seq #[.int i tk₁, .str ⟨#[92]⟩ tk₂] }) :: own) → (∀ q ∈ own, q.1 < T) →
      (∀ (s'' : Shared) P'' m₂ own₂, Fr {} C s''.heap m₂ → News {} C s''.heap own₂ →
        SegX (model prog w) { handled := none, depth := dp, frames := some outer, guards := gd, units := un } c (K .next) fs s'' P'' → 
        SegX (model prog w) { handled := none, depth := dp, frames := some outer, guards := gd, units := un } c (k (.send .none)) fs s'' P'') →
      P (.susp (.ref T) false l k c p fs) { s with heap := h', toks := tk }) :
    SegX (model prog w) { handled := none, depth := dp, frames := some outer, guards := gd, units := un } c ((execs (escTail w) (envAt w 42 C)).wrap K H id id) fs s P := by
  refine' with_lookup (a := 42) (K := hd.heap_39 w.params) ?h ?_
  case h => k_is
  intro e
  unfold escTail bodyAt envAt fdAt at *
  rw [e] at hover ⊢
  clear e
  dsimp only [List.getD_cons_succ, List.getD_cons_zero, List.drop_succ_cons, List.drop_zero, forB] at hover ⊢
  refine sx_execs_cons (sx_If ?_)
  rw [hover]
  k_steps
  refine sx_execs_cons (sx_Expr_Yield hfs rfl hfg ?_)
  rw [hover]
  k_steps
  all_goals (
    rename_i hk
    refine hP _ _ _ _ _ _ _ _ (by assumption) (by assumption) (by assumption) ?_
    intro s'' P'' m₂ own₂ F₂ N₂ hK
    rw [hk]
    exact hK)

end Mine
end

section
open PySem PySem.W PyProof.Rows PySem.Calls PySem.Spec
open PySem.W.X (SegX)
set_option maxRecDepth 100000
set_option maxHeartbeats 4000000
set_option linter.unusedVariables false
namespace Mine
theorem fillG2 : PySem.Challenge.rw_nb0062_01.foot = 10 ∨ (∀ P, hd.heap_39 P = []) := by
  w_top off
  k_fill
  left; rfl

abbrev Ar (dp un : Nat) (gd : Option (List Code)) (outer : List Env) : Around := { handled := none, depth := dp, frames := some outer, guards := gd, units := un }

theorem drawsStr {w : World} {A : Around} (hh : A.handled = none) (it : Addr) (x : Str) (t : Tok) :
    Draws prog w A it [it] x.cps.size (fun i v => ∃ c u, x.cps[i]? = some c ∧ v = .str ⟨#[c]⟩ u) (fun i h => h.IsStrIter it (strIterType x) x t i) := by
  cases ha : x.cps.all (· < 128)
  · have e : strIterType x = "str_iterator" := by simp [strIterType, ha]
    rw [e]; exact Draws.strWide hh it x t
  · have e : strIterType x = "str_ascii_iterator" := by simp [strIterType, ha]
    rw [e]; exact Draws.strAscii hh it x t

theorem allOld {C : Addr} {h h' : Heap} (N : News {} C h' (allBut h [C])) {b : Addr} {o : Obj} (hb : b ≠ C) (e : h.get? b = some o) : h'.get? b = some o :=
  (N _ (mem_allBut.mpr ⟨by simpa using hb, e⟩)).1
theorem allNews {C : Addr} {h : Heap} : News {} C h (allBut h [C]) := newsNil fun p hp => by
  obtain ⟨h1, h2⟩ := mem_allBut.mp (show (p.1, p.2) ∈ _ from hp)
  exact ⟨h2, by simpa using h1⟩

/-- the state at the head of the loop of _iter_escaped_chars -/
structure EscAt (x : Str) (t : Tok) (C e it : Addr) (i : Nat) (esc : Bool) (h : Heap) : Prop where
  enum : ∃ old, IsEnum h e it i old
  iter : h.IsStrIter it (strIterType x) x t i
  ns : ∃ m tp, h.Ns C m ∧ m (Str.ofString "escape") = some (.bool esc) ∧ m (Str.ofString "pos") = some (.int ((i - 1 : Nat) : Int) tp)

theorem two_maps {m : Str → Option Value} {v1 v2 : Value} {b : Bool} (h : m (Str.ofString "escape") = some (.bool b)) :
    (fun y => if y = Str.ofString "ch" then some v1 else if y = Str.ofString "pos" then some v2 else m y) =
    (fun y => if y = Str.ofString "ch" then some v1 else if y = Str.ofString "pos" then some v2 else if y = Str.ofString "escape" then some (.bool b) else m y) := by
  funext y
  by_cases h1 : y = Str.ofString "ch"
  · simp [h1]
  · by_cases h2 : y = Str.ofString "pos"
    · simp [h1, h2]
    · by_cases h3 : y = Str.ofString "escape"
      · subst h3; simp [h1, h2, h]
      · simp [h1, h2, h3]
theorem two_maps2 {m : Str → Option Value} {v2 : Value} {b : Bool} (h : m (Str.ofString "escape") = some (.bool b)) (h2 : m (Str.ofString "pos") = some v2) :
    m = (fun y => if y = Str.ofString "pos" then some v2 else if y = Str.ofString "escape" then some (.bool b) else m y) := by
  funext y
  by_cases h1 : y = Str.ofString "pos"
  · subst h1; simp [h2]
  · by_cases h3 : y = Str.ofString "escape"
    · subst h3; simp [h1, h]
    · simp [h1, h3]

theorem env42 (w : World) (C : Addr) : ∀ P : Env → Prop, (∀ q sc cd, sc.kind = .function → (∀ y ∈ [Str.ofString "addr", Str.ofString "pos", Str.ofString "escape", Str.ofString "ch"], (envOf q sc C 42 cd).kindOf y = some .local) → sc.isCoroutine = false → sc.isGenerator = true → P (envOf q sc C 42 cd)) → P (envAt w 42 C) := by
  intro P h
  refine' with_lookup (a := 42) (K := hd.heap_39 w.params) ?h ?_
  case h => k_is
  intro e
  unfold envAt fdAt
  rw [e]
  dsimp only
  refine h _ _ _ rfl (fun y hy => ?_) rfl rfl
  simp only [List.mem_cons, List.not_mem_nil, or_false] at hy
  rcases hy with rfl | rfl | rfl | rfl <;> rfl
theorem kind_pos (w : World) (C : Addr) : (envAt w 42 C).kindOf (Str.ofString "pos") = some .local := env42 w C (fun env => env.kindOf (Str.ofString "pos") = some .local) fun _ _ _ _ h _ _ => h _ (by simp)
theorem kind_ch (w : World) (C : Addr) : (envAt w 42 C).kindOf (Str.ofString "ch") = some .local := env42 w C (fun env => env.kindOf (Str.ofString "ch") = some .local) fun _ _ _ _ h _ _ => h _ (by simp)
theorem kind_fn (w : World) (C : Addr) : ((envAt w 42 C).scope.kind == .class || ((envAt w 42 C).scope.kind == .module && (envAt w 42 C).locals != (envAt w 42 C).globals)) = false :=
  env42 w C (fun env => (env.scope.kind == .class || (env.scope.kind == .module && env.locals != env.globals)) = false) fun _ _ _ h _ _ _ => by
    show (_ == _ || _) = false
    simp only [envOf, h]; rfl

section
variable {w : World} {dp un : Nat} {gd : Option (List Code)} {outer : List Env} {Hx : Heap} {x : Str} {t : Tok} {C e it : Addr} {b : List Stmt} {p1 p2 p3 : Pos} {k1 : Nat} {l : List Value} {pf : Pos}

/-- the loop's code and the frame below it -/
noncomputable abbrev escL (w : World) (C e : Addr) (p1 p2 p3 : Pos) (k1 : Nat) : Code := .forLoop (.Tuple [.Name (Str.ofString "pos") p1, .Name (Str.ofString "ch") p2] k1 p3) (.ref e) (forB (escFor w)) [] (envAt w 42 C)
noncomputable abbrev escK (w : World) (C : Addr) : Flow → Sem Fin := fun f => match f with | .next => (execs (escTail w) (envAt w 42 C)).wrap funK (funH (envAt w 42 C)) id id | f => funK f
noncomputable abbrev escFs (w : World) (C : Addr) (b : List Stmt) (l : List Value) (pf : Pos) : List Frame := [.ret (backK (envAt w 42 C) (escK w C) (funH (envAt w 42 C)) id id) none (id false) l (.func b (envAt w 42 C)) pf []]

theorem esc_loop (X : (hd.heap_39 w.params).In Hx) (hce : C ≠ e) (hci : C ≠ it) (hei : e ≠ it) :
    ∀ (cs : List Nat) (i : Nat) (esc : Bool) (s₀ s : Shared), x.cps.toList.drop i = cs → i ≤ x.cps.size → EscAt x t C e it i esc s.heap → Since [C, e, it] s₀ s →
    SegX (model prog w) (Ar dp un gd outer) (escL w C e p1 p2 p3 k1) ((model prog w).den (escL w C e p1 p2 p3 k1)) (escFs w C b l pf) s
      (GoodEnd (model prog w) (Ar dp un gd outer) (escFrom i esc cs) [C, e, it] s₀) := by
  have hover : Around.over (Ar dp un gd outer) (escL w C e p1 p2 p3 k1) (escFs w C b l pf) = (Ar dp un gd outer).deeper (envAt w 42 C) := over_loop ..
  have W := WalksT.enumerateD (drawsStr (w := w) (A := ((Ar dp un gd outer).deeper (envAt w 42 C)).in1) rfl it x t) e hei (by simpa using hei) (by simp)
  have hL : (envAt w 42 C).locals = C := rfl
  intro cs
  induction cs with
  | nil =>
    intro i esc s₀ s hcs hi st hs
    have hin : i = x.cps.size := by
      have := List.drop_eq_nil_iff.mp hcs
      simp at this; omega
    subst hin
    obtain ⟨m, tp, hn, he, hp⟩ := st.ns
    refine sx_forLoop rfl ?_
    rw [hover]
    refine W.done s _ _ ⟨st.enum, st.iter⟩ fun h' tk hk => ?_
    have hn' : h'.Ns C m := hn.at fun o e' => hk C o (by simp [hce, hci]) e'
    refine sx_block_nil rfl (sx_pop (.ok .next) ?_)
    have hover' : Around.over (Ar dp un gd outer) (.func b (envAt w 42 C)) [] = (Ar dp un gd outer).deeper (envAt w 42 C) := over_func ..
    show SegX _ _ _ ((execs (escTail w) (envAt w 42 C)).wrap funK (funH (envAt w 42 C)) id id) [] _ _
    have hs' : Since [C, e, it] s₀ { s with heap := h', toks := tk } := hs.step fun b' o hb e' => hk b' o (fun hm => hb (List.mem_cons_of_mem _ hm)) e'
    rw [two_maps2 he hp] at hn'
    cases esc with
    | false => exact esc_tail_false (m := m) (tc := 0) (cc := 0) X hover' (frNil hn') allNews (sx_end (.ok (.ret .none)) ⟨rfl, hs'⟩)
    | true =>
      refine esc_tail_true (m := m) (tc := 0) (cc := 0) X hover' rfl rfl (frNil hn') allNews fun T tk₁ tk₂ h₂ tk' l' k' p' F₂ N₂ hlt hres => ?_
      have hk₂ : ∀ b' o, b' ≠ C → h'.get? b' = some o → h₂.get? b' = some o := fun b' o hb e' => allOld (fun p hp => N₂ p (.tail _ hp)) hb e'
      refine ⟨T, tk₁, tk₂, l', k', _, p', _, [C], rfl, hs'.step fun b' o hb e' => hk₂ b' o (fun z => hb (by simp [z])) e', ⟨_, (N₂ _ (.head _)).1, rfl, _, rfl⟩, ?_, by simpa using (N₂ _ (.head _)).2.1, fun b' hb => .inl (by simp at hb; simp [hb]), fun s'' hal => ?_⟩
      · intro b' o e' hb
        obtain ⟨h₁, tk₁', e1, hk₁⟩ := hs'
        obtain rfl : h' = h₁ := congrArg Shared.heap e1
        exact hlt _ (mem_allBut.mpr ⟨fun z => hb (by simp at z; simp [z]), hk₁ b' o hb e'⟩)
      · refine hres s'' _ _ _ (frNil (F₂.ns.at fun o e' => hal C (by simp) o e')) allNews ?_
        exact sx_end (.ok (.ret .none)) ⟨rfl, Since.refl _ _⟩
  | cons c r ih =>
    intro i esc s₀ s hcs hi st hs
    have hlt : i < x.cps.size := by
      have h1 : (x.cps.toList.drop i).length = (c :: r).length := by rw [hcs]
      simp at h1; omega
    have hc : x.cps[i]? = some c := by
      have h1 : (x.cps.toList.drop i)[0]? = some c := by rw [hcs]; rfl
      simpa using h1
    have hr : x.cps.toList.drop (i + 1) = r := by
      rw [← List.drop_drop, hcs]; rfl
    obtain ⟨m, tp, hn, he, hp⟩ := st.ns
    refine sx_forLoop rfl ?_
    rw [hover]
    refine W.item i s _ _ hlt ⟨st.enum, st.iter⟩ fun T vals h₁ tk₁ hPt hT hTup hMid hk₁ => ?_
    obtain ⟨ti, _, ⟨c', tc, hc', rfl⟩, rfl⟩ := hPt
    obtain rfl : c = c' := Option.some.inj (hc.symm.trans hc')
    refine W.go _ _ _ i T _ _ _ hMid fun h₂ st₂ hk₂ => ?_
    have hTw : T ∉ [e, it] := W.apart i T _ hMid
    have ht₂ : h₂.IsTuple T #[.int i ti, .str ⟨#[c]⟩ tc] := let ⟨o, ho, r⟩ := hTup; ⟨o, hk₂ _ _ hTw ho, r⟩
    refine wpAny_assign_Tuple rfl ht₂ rfl rfl fun h₃ hx₃ => ?_
    have hx₃' : ∀ b' o, h₂.get? b' = some o → h₃.get? b' = some o := fun b' o e' => hx₃ b' o (Nat.ne_of_lt (Heap.lt_size e')) e'
    have hn₃ : h₃.Ns C m := ((hn.at fun o e' => hk₁ C o (by simp [hce, hci]) e').at fun o e' => hk₂ C o (by simp [hce, hci]) e').at fun o e' => hx₃' C o e'
    show wpAny _ _ (do holding [_] (assign (.Name (Str.ofString "pos") p1) (envAt w 42 C) (.int i ti)); do holding [] (assign (.Name (Str.ofString "ch") p2) (envAt w 42 C) (.str ⟨#[c]⟩ tc)); pure ()) _ _ _
    refine wpAny_bind (wpAny_holding (wpAny_assign_Name (wpAny_storeName_local (env := envAt w 42 C) (kind_pos w C) hn₃ (fun h₄ hn₄ hs₄ => ?_) (kind_fn w C))))
    refine wpAny_bind (wpAny_holding (wpAny_assign_Name (wpAny_storeName_local (env := envAt w 42 C) (kind_ch w C) hn₄ (fun h₅ hn₅ hs₅ => wpAny_pure ?_) (kind_fn w C))))
    have hk₅ : ∀ b' o, b' ≠ C → h₂.get? b' = some o → h₅.get? b' = some o := fun b' o hb e' => hs₅.extBut b' o hb (hs₄.extBut b' o hb (hx₃' b' o e'))
    have st₅ : (∃ old, IsEnum h₅ e it ((i + 1 : Nat) : Int) old) ∧ h₅.IsStrIter it (strIterType x) x t (i + 1) := W.frame _ _ _ st₂ fun b' hb o e' => hk₅ b' o (fun z => by subst z; simp [hce, hci] at hb) e'
    have hs₅ : Since [C, e, it] s₀ { s with heap := h₅, toks := tk₁ + 1 + 1 } := hs.step fun b' o hb e' => hk₅ b' o (fun z => hb (by simp [z])) (hk₂ b' o (fun hm => hb (List.mem_cons_of_mem _ hm)) (hk₁ b' o (fun hm => hb (List.mem_cons_of_mem _ hm)) e'))
    have hn₅' : h₅.Ns C (fun y => if y = Str.ofString "ch" then some (.str ⟨#[c]⟩ tc) else if y = Str.ofString "pos" then some (.int i ti) else m y) := hn₅
    rw [two_maps he] at hn₅'
    -- what an end at a yield asks
    have fin : ∀ (T' : Addr) (tk₁' tk₂' : Tok) (ch : List Nat) (h' : Heap) (tk' : Nat) (l' : List Value) (k' : Resume → Sem Fin) (p' : Pos) (m' : Str → Option Value) (rest : List (Nat × List Nat)),
        Fr {} C h' m' → News {} C h' ((T', { cls := .type "tuple", data := .seq #[.int (i : Nat) tk₁', .str ⟨ch.toArray⟩ tk₂'] }) :: allBut h₅ [C]) → (∀ q ∈ allBut h₅ [C], q.1 < T') →
        (∀ s'' : Shared, (∀ b' ∈ [C, e, it], ∀ o, h'.get? b' = some o → s''.heap.get? b' = some o) → SegX (model prog w) (Ar dp un gd outer) (escL w C e p1 p2 p3 k1) (k' (.send .none)) (escFs w C b l pf) s'' (GoodEnd (model prog w) (Ar dp un gd outer) rest [C, e, it] s'')) →
        GoodEnd (model prog w) (Ar dp un gd outer) ((i, ch) :: rest) [C, e, it] s₀ (.susp (.ref T') false l' k' (escL w C e p1 p2 p3 k1) p' (escFs w C b l pf)) { s with heap := h', toks := tk' } := by
      intro T' tk₁' tk₂' ch h' tk' l' k' p' m' rest F' N' hlt' cont
      have hk' : ∀ b' o, b' ≠ C → h₅.get? b' = some o → h'.get? b' = some o := fun b' o hb e' => allOld (fun p hp => N' p (.tail _ hp)) hb e'
      refine ⟨T', tk₁', tk₂', l', k', _, p', _, [C, e, it], rfl, hs₅.step fun b' o hb e' => hk' b' o (fun z => hb (by simp [z])) e', ⟨_, (N' _ (.head _)).1, rfl, _, rfl⟩, ?_, ?_, fun _ hb => .inl hb, cont⟩
      · intro b' o e' hb
        obtain ⟨h₁', tk₁'', e1, hk₁'⟩ := hs₅
        obtain rfl : h₅ = h₁' := congrArg Shared.heap e1
        exact hlt' _ (mem_allBut.mpr ⟨fun z => hb (by simp at z; simp [z]), hk₁' b' o hb e'⟩)
      · intro hm
        rcases List.mem_cons.mp hm with z | hm
        · exact (N' _ (.head _)).2.1 z
        · have live : ∃ o, h₅.get? T' = some o := by
            rcases List.mem_cons.mp hm with z | hm
            · obtain ⟨⟨old, h9⟩, _⟩ := st₅
              exact ⟨_, z ▸ h9⟩
            · obtain ⟨_, o, h9, _⟩ := st₅
              exact ⟨o, (List.mem_singleton.mp hm) ▸ h9⟩
          obtain ⟨o, ho⟩ := live
          exact absurd (hlt' (T', o) (mem_allBut.mpr ⟨by simpa using (N' _ (.head _)).2.1, ho⟩)) (Nat.lt_irrefl _)
    -- back at the head
    have back : ∀ (esc' : Bool) (s'' : Shared) (h' : Heap) (tk' : Nat) (m' : Str → Option Value) (tp' : Tok), h'.Ns C m' → m' (Str.ofString "escape") = some (.bool esc') → m' (Str.ofString "pos") = some (.int (i : Nat) tp') →
        (∃ old, IsEnum h' e it ((i + 1 : Nat) : Int) old) ∧ h'.IsStrIter it (strIterType x) x t (i + 1) → ∀ s₀', Since [C, e, it] s₀' { s'' with heap := h', toks := tk' } →
        SegX (model prog w) (Ar dp un gd outer) (escL w C e p1 p2 p3 k1) (turnK (.Tuple [.Name (Str.ofString "pos") p1, .Name (Str.ofString "ch") p2] k1 p3) (.ref e) (forB (escFor w)) [] (envAt w 42 C) .next) (escFs w C b l pf) { s'' with heap := h', toks := tk' }
          (GoodEnd (model prog w) (Ar dp un gd outer) (escFrom (i + 1) esc' r) [C, e, it] s₀') := by
      intro esc' s'' h' tk' m' tp' hn' h1 h2 h3 s₀' h4
      exact sx_again rfl (ih (i + 1) esc' s₀' _ hr hlt ⟨h3.1, h3.2, m', tp', hn', h1, by simpa using h2⟩ h4)
    cases esc with
    | true =>
      refine esc_body_true (m := m) X hover rfl rfl (frNil hn₅') allNews fun T' tk₁' tk₂' h' tk' l' k' p' F' N' hlt' hres => ?_
      refine fin T' tk₁' tk₂' [92, c] h' tk' l' k' p' _ _ F' N' hlt' fun s'' hal => ?_
      refine hres s'' _ _ _ (frNil (F'.ns.at fun o e' => hal C (by simp) o e')) allNews fun h₆ tk₆ F₆ N₆ => ?_
      refine back false s'' h₆ tk₆ _ ti F₆.ns rfl rfl ?_ s'' ⟨h₆, tk₆, rfl, fun b' o hb e' => allOld N₆ (fun z => hb (by simp [z])) e'⟩
      refine W.frame _ _ _ st₅ fun b' hb o e' => ?_
      have hbC : b' ≠ C := fun z => by subst z; simp [hce, hci] at hb
      exact allOld N₆ hbC (hal b' (List.mem_cons_of_mem _ hb) o (allOld (fun p hp => N' p (.tail _ hp)) hbC e'))
    | false =>
      by_cases hcc : c = 92
      · have ee : escFrom i false (c :: r) = escFrom (i + 1) true r := by simp [escFrom, hcc]
        rw [ee]
        refine esc_body_slash (m := m) X hover (frNil hn₅') allNews hcc fun h₆ tk₆ F₆ N₆ => ?_
        refine back true s h₆ tk₆ _ ti F₆.ns rfl rfl ?_ s₀ (hs₅.step fun b' o hb e' => allOld N₆ (fun z => hb (by simp [z])) e')
        exact W.frame _ _ _ st₅ fun b' hb o e' => allOld N₆ (fun z => by subst z; simp [hce, hci] at hb) e'
      · have ee : escFrom i false (c :: r) = (i, [c]) :: escFrom (i + 1) false r := by simp [escFrom, hcc]
        rw [ee]
        refine esc_body_plain (m := m) X hover rfl rfl (frNil hn₅') allNews hcc fun T' tk₁' tk₂' h' tk' l' k' p' F' N' hlt' hres => ?_
        refine fin T' tk₁' tk₂' [c] h' tk' l' k' p' _ _ F' N' hlt' fun s'' hal => ?_
        have hn₆ := F'.ns.at fun o e' => hal C (by simp) o e'
        refine hres s'' _ _ _ (frNil hn₆) allNews ?_
        refine back false s'' s''.heap s''.toks _ ti hn₆ rfl rfl ?_ s'' (Since.refl _ _)
        refine W.frame _ _ _ st₅ fun b' hb o e' => ?_
        have hbC : b' ≠ C := fun z => by subst z; simp [hce, hci] at hb
        exact hal b' (List.mem_cons_of_mem _ hb) o (allOld (fun p hp => N' p (.tail _ hp)) hbC e')
end
end Mine
end

section
open PySem PySem.W PyProof.Rows PySem.Calls PySem.Spec
open PySem.W.X (SegX SegX.mono)
set_option maxRecDepth 100000
set_option maxHeartbeats 4000000
set_option linter.unusedVariables false
namespace Mine
theorem fillG3 : PySem.Challenge.rw_nb0062_01.foot = 10 ∨ (∀ P, hd.heap_39 P = []) := by
  w_top off
  k_fill
  left; rfl

/-- all that is live in a heap, neither in the base nor at L -/
def others (base h : Heap) (L : Addr) : List (Addr × Obj) := (allBut h [L]).filter fun p => (base.get? p.1).isNone
theorem mem_others {base h : Heap} {L b : Addr} {o : Obj} : (b, o) ∈ others base h L ↔ (b ≠ L ∧ h.get? b = some o) ∧ base.get? b = none := by
  unfold others
  rw [List.mem_filter, mem_allBut]
  simp
theorem others_news {base h : Heap} {L : Addr} : News base L h (others base h L) := fun p hp => by
  obtain ⟨⟨h1, h2⟩, h3⟩ := mem_others.mp (show (p.1, p.2) ∈ _ from hp)
  exact ⟨h2, h1, h3⟩
/-- what stands at the base and in the others stands on -/
theorem kept_of {base h h' : Heap} {L : Addr} {m : Str → Option Value} {news : List (Addr × Obj)} (st : base.StaysIn h) (F : Fr base L h' m) (N : News base L h' news) (hn : ∀ p ∈ others base h L, p ∈ news)
    {b : Addr} {o : Obj} (hb : b ≠ L) (e : h.get? b = some o) : h'.get? b = some o := by
  cases q : base.get? b with
  | some o' =>
    have := st b o' q
    rw [e] at this
    cases this
    exact F.keep b o q
  | none => exact (N _ (hn _ (mem_others.mpr ⟨⟨hb, e⟩, q⟩))).1

section
variable {w : World} {mean : ExcName → Option Value} {mg mb : Str → Option Value} {base : Heap} {dp un : Nat} {gd : Option (List Code)} {outer : List Env}

theorem esc_pro (X : (hd.heap_39 w.params).In base) {C : Addr} {s : Shared} {P : End → Shared → Prop} {c : Code} {fs : List Frame} {K : Flow → Sem Fin} {H : Value → Sem Fin} {rest : List Stmt}
    {m : Str → Option Value} {own : List (Addr × Obj)}
    (hover : Around.over (Ar dp un gd outer) c fs = Around.deeper (Ar dp un gd outer) (envAt w 42 C))
    (F : Fr base C s.heap m) (N : News base C s.heap own)
    (hK : ∀ h' tk tp, Fr base C h' (fun y => if y = Str.ofString "escape" then some (.bool false) else if y = Str.ofString "pos" then some (.int 0 tp) else m y) → News base C h' own →
      SegX (model prog w) (Ar dp un gd outer) c ((execs rest (envAt w 42 C)).wrap K H id id) fs { s with heap := h', toks := tk } P) :
    SegX (model prog w) (Ar dp un gd outer) c ((execs ((bodyAt w 42).take 2 ++ rest) (envAt w 42 C)).wrap K H id id) fs s P := by
  refine' with_lookup (a := 42) (K := hd.heap_39 w.params) ?h ?_
  case h => k_is
  intro e
  unfold bodyAt envAt fdAt at *
  rw [e] at hover hK ⊢
  clear e
  dsimp only [List.take_succ_cons, List.take_zero, List.cons_append, List.nil_append] at hover hK ⊢
  refine sx_execs_cons (sx_wrap ?_)
  rw [hover]
  k_steps
  refine sx_execs_cons (sx_wrap ?_)
  rw [hover]
  k_steps
  exact hK _ _ _ (by assumption) (by assumption)

theorem call_enum_mine {A : Around} {E : Value → Shared → Prop} {h₀ : Heap} {L : Addr} {s : Shared} {m : Str → Option Value} {news : List (Addr × Obj)} {x : Str} {t : Tok} {Q : Value → Shared → Prop}
    (F : Fr h₀ L s.heap m) (N : News h₀ L s.heap news)
    (h : ∀ n h', Fr h₀ L h' m → News h₀ L h' news → IsEnum h' (n + 1) n 0 .none → h'.IsStrIter n (strIterType x) x t 0 → n = s.heap.objs.size → Q (.ref (n + 1)) { s with heap := h' }) :
    wpAny (model prog w) A (call (.type "enumerate") [.str x t]) Q E s :=
  call_enumerate_str fun h' he hi _ hk => h _ h' ⟨F.ns.keeps hk, fun b o e => hk b o (F.keep b o e), F.above⟩ (fun p hp => ⟨hk _ _ (N p hp).1, (N p hp).2⟩) he hi rfl

theorem esc_iter (X : (hd.heap_39 w.params).In base) (T : Top hd.view_39 (looseW hd.view_39 [Str.ofString "_fail_neg"]) mean mg mb base) {C : Addr} {s : Shared} {Q E : Value → Shared → Prop} {x : Str} {t : Tok}
    {m : Str → Option Value} {own : List (Addr × Obj)} {ve vp : Option Value}
    (F : Fr base C s.heap (fun y => if y = Str.ofString "escape" then ve else if y = Str.ofString "pos" then vp else if y = Str.ofString "addr" then some (.str x t) else m y)) (N : News base C s.heap own)
    (hQ : ∀ n h' tk, Fr base C h' (fun y => if y = Str.ofString "escape" then ve else if y = Str.ofString "pos" then vp else if y = Str.ofString "addr" then some (.str x t) else m y) → News base C h' own →
      IsEnum h' (n + 1) n 0 .none → h'.IsStrIter n (strIterType x) x t 0 → n = s.heap.objs.size → Q (.ref (n + 1)) { s with heap := h', toks := tk }) :
    wpAny (model prog w) (Around.deeper (Ar dp un gd outer) (envAt w 42 C)) (eval (forI (escFor w)) (envAt w 42 C)) Q E s := by
  refine' with_lookup (a := 42) (K := hd.heap_39 w.params) ?h ?_
  case h => k_is
  intro e
  unfold escFor bodyAt envAt fdAt at *
  rw [e]
  clear e
  dsimp only
  show wpAny _ _ (eval (Expr.Call (Expr.Name _ _) [Expr.Name _ _] [] _) _) _ _ _
  iterate 6 (first | walk1 | (dsimp only; walk1))
  refine call_enum_mine (by assumption) (by assumption) fun n h' F' N' he hi hz => ?_
  exact hQ n h' _ F' N' he hi hz

theorem goodEnd_start {M : Model} {A : Around} {r : List (Nat × List Nat)} {pv pv₀ : List Addr} {s₀ s₁ s' : Shared} {en : End} (h : GoodEnd M A r pv s₁ en s') (hs : Since pv₀ s₀ s₁)
    (hpv : ∀ b ∈ pv, b ∈ pv₀ ∨ s₀.heap.get? b = none) (hback : ∀ b, (s₀.heap.get? b).isSome = true → b ∈ pv → b ∈ pv₀) : GoodEnd M A r pv₀ s₀ en s' := by
  obtain ⟨h₁, tk₁, rfl, hk₁⟩ := hs
  have since : ∀ {s'}, Since pv { s₀ with heap := h₁, toks := tk₁ } s' → Since pv₀ s₀ s' := by
    rintro s' ⟨h₂, tk₂, rfl, hk₂⟩
    exact ⟨h₂, tk₂, rfl, fun b o hb e => hk₂ b o (fun hm => hb (hback b (by rw [e]; rfl) hm)) (hk₁ b o hb e)⟩
  cases r with
  | nil => exact ⟨h.1, since h.2⟩
  | cons a r =>
    obtain ⟨p, ch⟩ := a
    obtain ⟨T, tk₁', tk₂', l, k, c, pp, fs, pv', rfl, h2, h3, h4, h5, h6, h7⟩ := h
    refine ⟨T, tk₁', tk₂', l, k, c, pp, fs, pv', rfl, since h2, h3, fun b o e hb => h4 b o (hk₁ b o hb e) (fun hm => hb (hback b (by rw [e]; rfl) hm)), h5, fun b hb => ?_, h7⟩
    rcases h6 b hb with h8 | h8
    · exact hpv b h8
    · cases q : s₀.heap.get? b with
      | none => exact .inr rfl
      | some o =>
        by_cases hb0 : b ∈ pv₀
        · exact .inl hb0
        · have := hk₁ b o hb0 q
          rw [show h₁.get? b = none from h8] at this; cases this

theorem esc_start (G : Ground w mean mg mb base) {C : Addr} {x : Str} {t : Tok} {s₀ s : Shared} {m : Str → Option Value} (st : base.StaysIn s.heap) (hab : base.objs.size ≤ C)
    (hn : s.heap.Ns C (fun y => if y = Str.ofString "addr" then some (.str x t) else m y)) (hs : Since [C] s₀ s) :
    SegX (model prog w) (Ar dp un gd outer) (.func (bodyAt w 42) (envAt w 42 C)) ((model prog w).den (.func (bodyAt w 42) (envAt w 42 C))) [] s
      (GoodEnd (model prog w) (Ar dp un gd outer) (escFrom 0 false x.cps.toList) [C] s₀) := by
  have X := G.K
  have T := G.T
  have F : Fr base C s.heap (fun y => if y = Str.ofString "addr" then some (.str x t) else m y) := ⟨hn, st, hab⟩
  have N : News base C s.heap (others base s.heap C) := others_news
  have hover : Around.over (Ar dp un gd outer) (.func (bodyAt w 42) (envAt w 42 C)) [] = (Ar dp un gd outer).deeper (envAt w 42 C) := over_func ..
  have parts : ∃ p1 p2 k1 p3 p4, bodyAt w 42 = (bodyAt w 42).take 2 ++ escFor w :: escTail w ∧ escFor w = .For (.Tuple [.Name (Str.ofString "pos") p1, .Name (Str.ofString "ch") p2] k1 p3) (forI (escFor w)) (forB (escFor w)) [] p4 := by
    refine' with_lookup (a := 42) (K := hd.heap_39 w.params) ?h ?_
    case h => k_is
    intro e
    unfold escTail escFor bodyAt fdAt
    rw [e]
    exact ⟨_, _, _, _, _, rfl, rfl⟩
  obtain ⟨p1, p2, k1, p3, p4, hb, hf⟩ := parts
  refine sx_func rfl ?_
  have key : SegX (model prog w) (Ar dp un gd outer) (.func (bodyAt w 42) (envAt w 42 C)) ((execs ((bodyAt w 42).take 2 ++ escFor w :: escTail w) (envAt w 42 C)).wrap funK (funH (envAt w 42 C)) id id) [] s
      (GoodEnd (model prog w) (Ar dp un gd outer) (escFrom 0 false x.cps.toList) [C] s₀) := by
    refine esc_pro X hover F N fun h₁ tk₁ tp F₁ N₁ => ?_
    refine sx_execs_cons ?_
    rw [hf]
    refine sx_For ?_ (fun v => ?_)
    · rw [hover]
      refine esc_iter X T F₁ N₁ fun n h₂ tk₂ F₂ N₂ he hi hz => ?_
      refine wpAny_pyIter_enum he fun l p => ?_
      have hlt : ∀ b' o, b' ≠ C → s.heap.get? b' = some o → h₂.get? b' = some o := fun b' o hb' e' => kept_of st F₂ N₂ (fun _ h => h) hb' e'
      have hnew : ∀ b', n ≤ b' → s₀.heap.get? b' = none := fun b' hb' => by
        obtain ⟨h', tk', rfl, hk'⟩ := hs
        cases q : s₀.heap.get? b' with
        | none => rfl
        | some o =>
          have hbC : b' ≠ C := fun z => by
            have := F₁.ns.lt
            subst z
            have h9 : h₁.objs.size = n := hz.symm
            exact absurd (h9 ▸ this : b' < n) (Nat.not_lt.mpr hb')
          have h1 := hk' b' o (by simpa using hbC) q
          have h2 := kept_of st F₁ N₁ (fun _ h => h) hbC h1
          have h3 := Heap.lt_size h2
          have h9 : h₁.objs.size = n := hz.symm
          exact absurd (h9 ▸ h3 : b' < n) (Nat.not_lt.mpr hb')
      have hCn : C < n := by
        have := F₁.ns.lt
        have h9 : h₁.objs.size = n := hz.symm
        exact h9 ▸ this
      have loop := esc_loop (dp := dp) (un := un) (gd := gd) (outer := outer) (x := x) (t := t) (C := C) (e := n + 1) (it := n) (b := bodyAt w 42) (p1 := p1) (p2 := p2) (p3 := p3) (k1 := k1) (l := l) (pf := p) X
        (Nat.ne_of_lt (Nat.lt_succ_of_lt hCn)) (Nat.ne_of_lt hCn) (Nat.succ_ne_self n) x.cps.toList 0 false { s with heap := h₂, toks := tk₂ } { s with heap := h₂, toks := tk₂ } rfl (Nat.zero_le _)
        ⟨⟨_, he⟩, hi, ⟨_, tp, F₂.ns, rfl, rfl⟩⟩ (Since.refl _ _)
      refine SegX.mono loop fun en s' hE => ?_
      exact goodEnd_start hE (hs.step fun b' o hb' e' => hlt b' o (by simpa using hb') e') (by
        intro b' hb'
        simp only [List.mem_cons, List.not_mem_nil, or_false] at hb'
        rcases hb' with z | z | z
        · exact .inl (by simp [z])
        · exact .inr (hnew _ (by rw [z]; exact Nat.le_succ n))
        · exact .inr (hnew _ (by rw [z]; exact Nat.le_refl n))) (fun b' h1 h2 => by
          simp only [List.mem_cons, List.not_mem_nil, or_false] at h2
          rcases h2 with z | z | z
          · simp [z]
          · have := hnew b' (by rw [z]; exact Nat.le_succ n); rw [this] at h1; cases h1
          · have := hnew b' (by rw [z]; exact Nat.le_refl n); rw [this] at h1; cases h1)
    · clear hf hb
      refine' with_lookup (a := 42) (K := hd.heap_39 w.params) ?h ?_
      case h => k_is
      intro e
      unfold escFor bodyAt envAt fdAt
      rw [e]
      rfl
  rw [← hb] at key
  exact key
end
end Mine
end

section
open PySem PySem.W PyProof.Rows PySem.Calls PySem.Spec
open PySem.W.X (SegX SegX.mono wake_any)
set_option maxRecDepth 100000
set_option maxHeartbeats 4000000
set_option linter.unusedVariables false
namespace Mine
theorem fillG4 : PySem.Challenge.rw_nb0062_01.foot = 10 ∨ (∀ P, hd.heap_39 P = []) := by
  w_top off
  k_fill
  left; rfl

/-- the generators of the caller stand; all are bare if all were -/
structure GStep (n : Nat) (a b : Array GenState) : Prop where
  old : ∀ i, i < n → b[i]? = a[i]?
  size : a.size ≤ b.size
  bare : AllBare a → AllBare b
theorem GStep.refl (n : Nat) (a : Array GenState) : GStep n a a := ⟨fun _ _ => rfl, Nat.le_refl _, id⟩
theorem GStep.trans {n : Nat} {a b c : Array GenState} (x : GStep n a b) (y : GStep n b c) : GStep n a c :=
  ⟨fun i hi => (y.old i hi).trans (x.old i hi), Nat.le_trans x.size y.size, fun h => y.bare (x.bare h)⟩
theorem GStep.mono {n n' : Nat} {a b : Array GenState} (x : GStep n a b) (h : n' ≤ n) : GStep n' a b := ⟨fun i hi => x.old i (Nat.lt_of_lt_of_le hi h), x.size, x.bare⟩
theorem GStep.push {n : Nat} {a : Array GenState} (hn : n ≤ a.size) (c : Code) : GStep n a (a.push (.fresh c)) :=
  ⟨fun i hi => by rw [Array.getElem?_push_lt (Nat.lt_of_lt_of_le hi hn)]; simp [Nat.lt_of_lt_of_le hi hn], by simp, fun h => h.push rfl⟩
theorem GStep.set {n : Nat} {a : Array GenState} {g : Nat} (hg : n ≤ g) {x : GenState} (hx : x.bare = true) : GStep n a (a.setIfInBounds g x) :=
  ⟨fun i hi => by rw [Array.getElem?_setIfInBounds_ne (by omega)], by simp, fun h y hy => by
    obtain ⟨i, hi, rfl⟩ := Array.mem_iff_getElem.mp hy
    rw [Array.getElem_setIfInBounds (by simpa using hi)]
    split
    · exact hx
    · exact h _ (Array.getElem_mem _)⟩

/-- a generator's state goes on from s so that P -/
def GWakes (M : Model) (A : Around) (gs : GenState) (s : Shared) (P : End → Shared → Prop) : Prop :=
  match gs with
  | .fresh c => SegX M A c (M.den c) [] s P
  | .suspended k _ c _ fs _ => SegX M A c (k (.send .none)) fs s P
  | _ => False

theorem wpAny_wake {w : World} {A : Around} {α : Type} {Q : α → Shared → Prop} {E : Value → Shared → Prop} {s : Shared} {g : Nat} {gs : GenState} {l : List Value} {k : GenResult → Sem α} {P : End → Shared → Prop}
    (hg : s.gens[g]? = some gs) (hw : GWakes (model prog w) A gs (s.setGen g .running) P)
    (hP : ∀ en s₁, en.quiet = true → P en s₁ → wpAny (model prog w) A (k en.result) Q E (s₁.setGen g en.genState)) :
    wpAny (model prog w) A (.resume g (.send .none) l k) Q E s := by
  have qt : ∀ {c t fs s₁}, SegX (model prog w) A c t fs s₁ P → SegX (model prog w) A c t fs s₁ (fun e s' => ∀ Γ p, Γ.In A → Sem.wp (model prog w) Γ (k e.result) (fun a _ s' => Q a s') (fun e _ s' => E e s') p (s'.setGen g e.genState)) := by
    intro c t fs s₁ h Γ p hc hΓ
    obtain ⟨e, s', hr, hq, hp⟩ := h Γ p hc hΓ
    exact ⟨e, s', hr, hq, fun Γ' p' hΓ' => hP e s' hq hp Γ' p' hΓ'⟩
  intro Γ p hΓ
  cases gs with
  | fresh c => exact wake_any (A := A) α prog w hg (.inl ⟨rfl, rfl, rfl, rfl⟩) (fun Γ => Γ.In A) (fun _ h => h) (qt hw) Γ p hΓ
  | suspended k₀ l₀ c₀ p₀ fs₀ cl => exact wake_any (A := A) α prog w hg (.inr ⟨k₀, l₀, p₀, cl, rfl, rfl⟩) (fun Γ => Γ.In A) (fun _ h => h) (qt hw) Γ p hΓ
  | running => exact hw.elim
  | finished => exact hw.elim

/-- a generator of pairs stands ready to hand out r -/
structure Ready (w : World) (A : Around) (base : Heap) (r : List (Nat × List Nat)) (pv : List Addr) (a : Addr) (g : Nat) (s : Shared) : Prop where
  gen : s.heap.IsGen a g
  off : a ∉ pv
  wakes : ∃ gs, s.gens[g]? = some gs ∧ ∀ s'' : Shared, base.StaysIn s''.heap → (∀ b ∈ pv, ∀ o, s.heap.get? b = some o → s''.heap.get? b = some o) → GWakes (model prog w) A gs s'' (GoodEnd (model prog w) A r pv s'')

theorem Ready.frame {w : World} {A : Around} {base : Heap} {r : List (Nat × List Nat)} {pv : List Addr} {a : Addr} {g : Nat} {s s' : Shared} (R : Ready w A base r pv a g s)
    (hk : ∀ b ∈ a :: pv, ∀ o, s.heap.get? b = some o → s'.heap.get? b = some o) (hg : s'.gens = s.gens) : Ready w A base r pv a g s' :=
  ⟨let ⟨o, nm, qn, ho, r⟩ := R.gen; ⟨o, nm, qn, hk a (.head _) o ho, r⟩, R.off,
   let ⟨gs, h1, h2⟩ := R.wakes; ⟨gs, hg ▸ h1, fun s'' st hs => h2 s'' st fun b hb o e => hs b hb o (hk b (.tail _ hb) o e)⟩⟩

section
variable {w : World} {A : Around} {base : Heap} {E : Value → Shared → Prop} {s : Shared} {Q : Option Value → Shared → Prop} {pv : List Addr} {a : Addr} {g : Nat} {p : Nat} {ch : List Nat} {r : List (Nat × List Nat)}

theorem setGen_get {s : Shared} {g : Nat} {gs x : GenState} (h : s.gens[g]? = some gs) : (s.setGen g x).gens[g]? = some x := by
  have hlt : g < s.gens.size := by
    rcases Nat.lt_or_ge g s.gens.size with h' | h'
    · exact h'
    · rw [Array.getElem?_eq_none h'] at h; cases h
  simp [Shared.setGen, hlt]

theorem ready_next (hl : s.heap.NoLimit) (hroom : A.depth < recursionLimit) (R : Ready w A.in1 base ((p, ch) :: r) pv a g s) (st : base.StaysIn s.heap)
    (hpv : ∀ b ∈ pv, base.get? b = none)
    (hQ : ∀ T tk₁ tk₂ s' pv', (∀ b o, b ∉ pv → s.heap.get? b = some o → s'.heap.get? b = some o) → s'.heap.IsTuple T #[.int (p : Nat) tk₁, .str ⟨ch.toArray⟩ tk₂] →
      (∀ b o, s.heap.get? b = some o → b ∉ pv → b < T) → T ∉ pv' → (∀ b ∈ pv', b ∈ pv ∨ s.heap.get? b = none) → Ready w A.in1 base r pv' a g s' → (∀ n, n ≤ g → GStep n s.gens s'.gens) → s'.os = s.os → Q (some (.ref T)) s') :
    wpAny (model prog w) A (pyNext (.ref a)) Q E s := by
  obtain ⟨hg, hoff, gs, hgs, hgo⟩ := R
  unfold pyNext
  refine wpAny_bind (wpAny_attempt (wpAny_callSpecial?_slot (name := Str.ofString "__next__") hg.typeIs slot_gen_next
    (wpAny_call_entry slot_gen_next hg.typeIs entry_gen_next ?_ (args_gen_next _))))
  show wpAny _ _ (Builtin.Generator.genWake (.ref a) (.send .none)) _ _ s
  unfold Builtin.Generator.genWake
  refine wpAny_bind (wpAny_holding (wpAny_genNumber hg (wpAny_bind (wpAny_genState hgs ?_))))
  have hw := hgo (s.setGen g .running) st fun _ _ _ e => e
  cases gs with
  | running => exact hw.elim
  | finished => exact hw.elim
  | _ =>
    refine wpAny_bind (wpAny_roomToWake hl hroom ?_)
    show wpAny _ _ (.resume g (.send .none) [] _) _ _ s
    refine wpAny_wake hgs hw fun en s₁ hq hE => ?_
    obtain ⟨T, tk₁, tk₂, l, k, c, pp, fs, pv', rfl, ⟨h₁, tk₁', rfl, hk₁⟩, hT, hfr, hTp, hsub, hcont⟩ := hE
    have hlive : ∀ b o, b ∉ pv → s.heap.get? b = some o → h₁.get? b = some o := hk₁
    refine wpAny_pure ⟨.ref T, rfl, wpAny_pure (hQ T tk₁ tk₂ _ pv' hlive hT hfr hTp hsub ⟨?_, ?_, ?_⟩ (fun n hn => ?_) rfl)⟩
    · obtain ⟨o, nm, qn, ho, r⟩ := hg
      exact ⟨o, nm, qn, hk₁ a o hoff ho, r⟩
    · intro hm
      rcases hsub a hm with h | h
      · exact hoff h
      · obtain ⟨o, nm, qn, ho, _⟩ := hg
        rw [show s.heap.get? a = none from h] at ho; cases ho
    · exact ⟨_, setGen_get (gs := .running) (setGen_get hgs), fun s'' _ hal => hcont s'' hal⟩
    · exact (GStep.set hn rfl).trans (GStep.set hn (End.bare_of_quiet hq))

theorem ready_end (hh : A.handled = none) (hl : s.heap.NoLimit) (hroom : A.depth < recursionLimit) (R : Ready w A.in1 base [] pv a g s) (st : base.StaysIn s.heap)
    (hQ : ∀ s', (∀ b o, b ∉ pv → s.heap.get? b = some o → s'.heap.get? b = some o) → (∀ n, n ≤ g → GStep n s.gens s'.gens) → s'.os = s.os → Q none s') :
    wpAny (model prog w) A (pyNext (.ref a)) Q E s := by
  obtain ⟨hg, hoff, gs, hgs, hgo⟩ := R
  unfold pyNext
  refine wpAny_bind (wpAny_attempt (wpAny_callSpecial?_slot (name := Str.ofString "__next__") hg.typeIs slot_gen_next
    (wpAny_call_entry slot_gen_next hg.typeIs entry_gen_next ?_ (args_gen_next _))))
  show wpAny _ _ (Builtin.Generator.genWake (.ref a) (.send .none)) _ _ s
  unfold Builtin.Generator.genWake
  refine wpAny_bind (wpAny_holding (wpAny_genNumber hg (wpAny_bind (wpAny_genState hgs ?_))))
  have hw := hgo (s.setGen g .running) st fun _ _ _ e => e
  cases gs with
  | running => exact hw.elim
  | finished => exact hw.elim
  | _ =>
    refine wpAny_bind (wpAny_roomToWake hl hroom ?_)
    show wpAny _ _ (.resume g (.send .none) [] _) _ _ s
    refine wpAny_wake hgs hw fun en s₁ hq hE => ?_
    obtain ⟨rfl, h₁, tk₁', rfl, hk₁⟩ := hE
    show wpAny _ _ (newExc (.type "StopIteration") [] >>= _) _ _ _
    refine wpAny_bind ?_
    simp only [newExc, newTuple]
    refine wpAny_bind (wpAny_newObj_type ?_ (by size_fits))
    refine wpAny_bind (m := firstArgMember _ _) (wpAny_of_eq (a := Value.none) (by first | rfl | (simp only [firstArgMember]; rfl)) ?_)
    refine wpAny_newObj_type ?_ (by size_fits)
    simp only [raiseNew]
    refine wpAny_bind (wpAny_bind (wpAny_handled ?_))
    rw [show A.in1.handled = none from hh]
    refine wpAny_throw ?_
    refine wpAny_bind (wpAny_isInstance (T := "StopIteration") (b := true) ⟨_, Heap.get?_push_size _ rfl, rfl⟩ isSubtype_stop ?_)
    exact wpAny_pure (hQ _ (fun b o hb e => Heap.get?_push_of_some _ (Heap.get?_push_of_some _ (hk₁ b o hb e))) (fun n hn => (GStep.set hn rfl).trans (GStep.set hn rfl)) rfl)

end

section
variable {w : World} {mean : ExcName → Option Value} {mg mb : Str → Option Value} {base : Heap} {dp un : Nat} {gd : Option (List Code)} {outer : List Env} {E : Value → Shared → Prop} {s : Shared}

/-- a heap over the base -/
structure On (base h : Heap) : Prop where
  stays : base.StaysIn h
  size : base.objs.size ≤ h.objs.size
theorem On.fr {base H h : Heap} {L : Addr} {m : Str → Option Value} (o : On base H) (F : Fr H L h m) : On base h :=
  ⟨fun b x e => F.keep b x (o.stays b x e), Nat.le_trans o.size (Nat.le_trans F.above (Nat.le_of_lt F.ns.lt))⟩

/-- the call of _iter_escaped_chars -/
theorem esc_call (G : Ground w mean mg mb base) (O : On base s.heap) {A : Around} (hroom : A.depth < recursionLimit) {x : Str} {t : Tok} {Q : Value → Shared → Prop}
    (hQ : ∀ C a g s', (∀ b o, s.heap.get? b = some o → s'.heap.get? b = some o) → C = s.heap.objs.size → a = C + 1 → g = s.gens.size → (∀ n, n ≤ g → GStep n s.gens s'.gens) → s'.os = s.os →
      (∀ dp un gd outer, Ready w (Ar dp un gd outer) base (escFrom 0 false x.cps.toList) [C] a g s') → Q (.ref a) s') :
    wpAny (model prog w) A (call (.ref 42) [.str x t]) Q E s := by
  have st := O.stays
  have X := G.K.keeps st
  refine wpAny_call ?_
  have ho : ∃ o, (hd.heap_39 w.params).lookup 42 = some o ∧ o.data = .func (fdAt w 42) ∧ (fdAt w 42).scope.isCoroutine = false ∧ (fdAt w 42).scope.isGenerator = true ∧ (fdAt w 42).body = .stmts (bodyAt w 42) ∧
      codeIn (hd.heap_39 w.params) (fdAt w 42).code (fdAt w 42).qualname = true ∧ bindArgs (fdAt w 42) ⟨[.str x t], []⟩ = pure [(Str.ofString "addr", .str x t)] ∧
      (∀ x ∈ (fdAt w 42).scope.names, x.2 ≠ .cell) ∧ (∀ C, newEnv (fdAt w 42).scope C (fdAt w 42).globals (fdAt w 42).closure ((fdAt w 42).qualname ++ ".<locals>.") (some 42) (fdAt w 42).code none (fdAt w 42).builtins = envAt w 42 C) ∧
      (fdAt w 42).scope.names.lookup (Str.ofString "addr") = some .local ∧ (fdAt w 42).scope.kind = .function := by
    refine' with_lookup (a := 42) (K := hd.heap_39 w.params) ?h ?_
    case h => k_is
    intro e
    unfold envAt bodyAt fdAt
    rw [e]
    refine ⟨_, rfl, rfl, rfl, rfl, rfl, ?_, rfl, ?_, fun C => rfl, rfl, rfl⟩
    · dsimp only
      k_is
    · dsimp only
      decide
  obtain ⟨o, h1, h2, h3, h4, h5, h6, h7, h8, h9, h10, h11⟩ := ho
  refine codeAny_call_generator hroom (X _ _ h1) h2 h3 h4 h5 (codeRec_of X h6) ?_
  rw [h7]
  refine wpAny_pure (wpAny_newFunctionEnv h8 (fun y hy => by rw [List.mem_singleton.mp hy]; exact h10) (fun h' hn hs => ?_) h11)
  have kp : ∀ b o, s.heap.get? b = some o → h'.get? b = some o := fun b o e => hs.extBut b o (Nat.ne_of_lt (Heap.lt_size e)) (Heap.get?_push_of_some _ e)
  have hz : h'.objs.size = s.heap.objs.size + 1 := by rw [hs.1, Heap.size_push]
  refine ⟨(G.T.nolimit.keeps st).keeps kp, ?_⟩
  rw [h9, hz]
  refine hQ s.heap.objs.size (s.heap.objs.size + 1) s.gens.size _ (fun b o e => Heap.get?_push_of_some _ (kp b o e)) rfl rfl rfl (fun n hn => GStep.push hn _) rfl fun dp un gd outer => ⟨?_, by simp, ?_⟩
  · exact ⟨_, _, _, by rw [← hz]; exact Heap.get?_push_size _ rfl, rfl, rfl, rfl⟩
  · refine ⟨_, Array.getElem?_push_size .., fun s'' st'' hal => ?_⟩
    have hn' : s''.heap.Ns s.heap.objs.size (fun y => if y = Str.ofString "addr" then some (.str x t) else none) := by
      have e : (fun y : Str => ([(Str.ofString "addr", Value.str x t)] : List (Str × Value)).reverse.lookup y) = fun y => if y = Str.ofString "addr" then some (.str x t) else none := by
        funext y
        by_cases hy : y = Str.ofString "addr"
        · subst hy; simp
        · have : (y == Str.ofString "addr") = false := by simpa using hy
          simp [List.lookup, this, hy]
      rw [e] at hn
      exact hn.at fun o e => hal _ (by simp) o (Heap.get?_push_of_some _ e)
    exact esc_start G st'' O.size hn' (Since.refl _ _)

/-- what is live of some places -/
def liveOf (h : Heap) (as : List Addr) : List (Addr × Obj) := as.filterMap fun b => (h.get? b).map fun o => (b, o)
theorem mem_liveOf {h : Heap} {as : List Addr} {b : Addr} {o : Obj} : (b, o) ∈ liveOf h as ↔ b ∈ as ∧ h.get? b = some o := by
  unfold liveOf
  rw [List.mem_filterMap]
  constructor
  · rintro ⟨c, hc, e⟩
    cases q : h.get? c with
    | none => rw [q] at e; cases e
    | some o' => rw [q] at e; cases e; exact ⟨hc, q⟩
  · rintro ⟨hb, e⟩
    exact ⟨b, hb, by rw [e]; rfl⟩

/-- the end of a turn: the frame's names, the ledger's part nx, the iterator's own stand -/
def TurnEnd (H : Heap) (L : Addr) (J : (Str → Option Value) → List (Addr × Obj) → Prop) (own : List (Addr × Obj)) (adr : List Addr) (s₁ s₂ : Shared) : Prop :=
  ∃ m' nx news', Fr H L s₂.heap m' ∧ News H L s₂.heap news' ∧ (∀ p ∈ nx, p ∈ news') ∧ (∀ p ∈ own, p ∈ news') ∧ nx.map (·.1) = adr ∧ J m' nx ∧ s₂.gens = s₁.gens ∧ s₂.os = s₁.os
theorem TurnEnd.mk' {H : Heap} {L : Addr} {J : (Str → Option Value) → List (Addr × Obj) → Prop} {own : List (Addr × Obj)} {adr : List Addr} {s₁ s₂ : Shared} {m' : Str → Option Value} {nx news' : List (Addr × Obj)}
    (F : Fr H L s₂.heap m') (N : News H L s₂.heap news') (hj : J m' nx) (ha : nx.map (·.1) = adr) (h1 : ∀ p ∈ nx, p ∈ news') (h2 : ∀ p ∈ own, p ∈ news') (hg : s₂.gens = s₁.gens) (ho : s₂.os = s₁.os) : TurnEnd H L J own adr s₁ s₂ :=
  ⟨m', nx, news', F, N, h1, h2, ha, hj, hg, ho⟩

theorem letGo_gen {A : Around} {elts : List Expr} {x1 : Nat} {pos : Pos} {a T : Addr} {g : Nat} {Q : Unit → Shared → Prop} (hg : s.heap.IsGen a g) (hQ : Q () s) :
    wpAny (model prog w) A (letOwnedTupleGo (.Tuple elts x1 pos) (.ref a) (.ref T)) Q E s := by
  obtain ⟨o, nm, qn, ho, hc, hd, _⟩ := hg
  unfold letOwnedTupleGo
  refine wpAny_bind (wpAny_load ho ?_)
  rw [hc, hd]
  show wpAny _ A (if (["enumerate", "zip", "dict_itemiterator", "dict_reverseitemiterator", "odict_iterator", "itertools.zip_longest", "itertools.pairwise"].contains "generator" &&
      (#[.int g 0, nm, qn] : Array Value)[0]? == some (rawInt T)) = true then _ else _) Q E s
  rw [if_neg (by
    intro h
    rw [show (["enumerate", "zip", "dict_itemiterator", "dict_reverseitemiterator", "odict_iterator", "itertools.zip_longest", "itertools.pairwise"].contains "generator") = false from by decide, Bool.false_and] at h
    cases h)]
  exact wpAny_pure hQ

theorem esc_forLoop {env : Env} {xp xc : Str} {p1 p2 p3 : Pos} {k1 : Nat} {body : List Stmt} {H : Heap} {Q : Flow → Shared → Prop} {ER : Value → Shared → Prop} {n : Nat}
    (hxp : env.kindOf xp = some .local) (hxc : env.kindOf xc = some .local) (hp : (env.scope.kind == .class || (env.scope.kind == .module && env.locals != env.globals)) = false)
    {A : Around} (hh : A.handled = none) (hroom : A.depth < recursionLimit) (O : On base H) (nol : base.NoLimit)
    (J : List (Nat × List Nat) → (Str → Option Value) → List (Addr × Obj) → Prop)
    (turn : ∀ p ch r m₁ nx own tk₁ tk₂ s₁, J ((p, ch) :: r) m₁ nx → OwnOff own (nx.map (·.1)) → GStep n s.gens s₁.gens → s₁.os = s.os →
      Fr H env.locals s₁.heap (fun y => if y = xc then some (.str ⟨ch.toArray⟩ tk₂) else if y = xp then some (.int (p : Nat) tk₁) else m₁ y) → News H env.locals s₁.heap (nx ++ own) →
      wpAny (model prog w) A (execs body env) (fun f s₂ => match f with
        | .ret v => Q (.ret v) s₂
        | .brk => Q .next s₂
        | _ => TurnEnd H env.locals (J r) own (nx.map (·.1)) s₁ s₂) ER s₁)
    (done : ∀ m₁ nx s₁, J [] m₁ nx → GStep n s.gens s₁.gens → s₁.os = s.os → Fr H env.locals s₁.heap m₁ → News H env.locals s₁.heap nx → Q .next s₁)
    {R : Result → Shared → Prop} (hR1 : ∀ f s', Q f s' → R (.ok f) s') (hR2 : ∀ e s', ER e s' → notedBy (model prog w) A env (fun e s' => R (.error e) s') e s')
    {r₀ : List (Nat × List Nat)} {m₀ : Str → Option Value} {nx₀ : List (Addr × Obj)} {pv : List Addr} {a : Addr} {g : Nat} (hng : n ≤ g)
    (hJ : J r₀ m₀ nx₀) (F : Fr H env.locals s.heap m₀) (N : News H env.locals s.heap nx₀) (Rd : Ready w A.in1 base r₀ pv a g s)
    (hpv : ∀ b ∈ a :: pv, H.get? b = none ∧ b ≠ env.locals ∧ b ∉ nx₀.map (·.1)) :
    codeAny (model prog w) A (.forLoop (.Tuple [.Name xp p1, .Name xc p2] k1 p3) (.ref a) body [] env) R s := by
  refine codeAny_forLoop_any
    (fun k s' => ∃ r m₁ nx pv, k = r.length ∧ J r m₁ nx ∧ nx.map (·.1) = nx₀.map (·.1) ∧ GStep n s.gens s'.gens ∧ s'.os = s.os ∧ Fr H env.locals s'.heap m₁ ∧ News H env.locals s'.heap nx ∧ Ready w A.in1 base r pv a g s' ∧
      (∀ b ∈ a :: pv, H.get? b = none ∧ b ≠ env.locals ∧ b ∉ nx₀.map (·.1))) ?_ r₀.length
    ⟨r₀, m₀, nx₀, pv, rfl, hJ, rfl, .refl _ _, rfl, F, N, Rd, hpv⟩
  rintro k s' ⟨r, m₁, nx, pv, rfl, hJ, hnx, hgs, hos, F, N, Rd, hpv⟩
  have O' := O.fr F
  have keep : ∀ {s'' : Shared}, (∀ b o, b ∉ pv → s'.heap.get? b = some o → s''.heap.get? b = some o) → Fr H env.locals s''.heap m₁ ∧ News H env.locals s''.heap nx := by
    intro s'' hk
    refine ⟨⟨F.ns.at fun o e => hk _ o (fun hm => (hpv _ (.tail _ hm)).2.1 rfl) e, fun b o e => hk b o (fun hm => by rw [(hpv _ (.tail _ hm)).1] at e; cases e) (F.keep b o e), F.above⟩, fun q hq => ⟨hk _ _ (fun hm => ?_) (N q hq).1, (N q hq).2⟩⟩
    exact (hpv _ (.tail _ hm)).2.2 (hnx ▸ List.mem_map_of_mem hq)
  cases r with
  | nil =>
    refine ready_end hh (nol.keeps O'.stays) hroom Rd O'.stays fun s'' hk hg ho => wpAny_execs_nil (hR1 _ _ ?_)
    obtain ⟨F', N'⟩ := keep hk
    exact done m₁ nx s'' hJ (hgs.trans (hg n hng)) (ho.trans hos) F' N'
  | cons pc r =>
    obtain ⟨p, ch⟩ := pc
    refine ready_next (nol.keeps O'.stays) hroom Rd O'.stays (fun b hb => ?_) fun T tk₁ tk₂ s'' pv' hk hT hlt hTp hsub Rd' hg ho => ?_
    · cases q : base.get? b with
      | none => rfl
      | some o => have := O.stays b o q; rw [(hpv _ (.tail _ hb)).1] at this; cases this
    obtain ⟨F', N'⟩ := keep hk
    refine letGo_gen Rd'.gen ?_
    refine wpAny_assign_Tuple hh hT rfl rfl fun h₃ hx₃ => ?_
    have hx₃' : ∀ b' o, s''.heap.get? b' = some o → h₃.get? b' = some o := fun b' o e' => hx₃ b' o (Nat.ne_of_lt (Heap.lt_size e')) e'
    show wpAny _ _ (do holding [_] (assign (.Name xp p1) env (.int (p : Nat) tk₁)); do holding [] (assign (.Name xc p2) env (.str ⟨ch.toArray⟩ tk₂)); pure ()) _ _ _
    refine wpAny_bind (wpAny_holding (wpAny_assign_Name (wpAny_storeName_local hxp (F'.ns.keeps hx₃') (fun h₄ hn₄ hs₄ => ?_) hp)))
    refine wpAny_bind (wpAny_holding (wpAny_assign_Name (wpAny_storeName_local hxc hn₄ (fun h₅ hn₅ hs₅ => wpAny_pure ?_) hp)))
    have hk₅ : ∀ b' o, b' ≠ env.locals → s''.heap.get? b' = some o → h₅.get? b' = some o := fun b' o hb e' => hs₅.extBut b' o hb (hs₄.extBut b' o hb (hx₃' b' o e'))
    have hpv' : ∀ b ∈ a :: pv', H.get? b = none ∧ b ≠ env.locals ∧ b ∉ nx₀.map (·.1) := by
      intro b hb
      rcases List.mem_cons.mp hb with rfl | hb
      · exact hpv _ (.head _)
      · rcases hsub b hb with h | h
        · exact hpv _ (.tail _ h)
        · refine ⟨?_, fun z => ?_, fun hm => ?_⟩
          · cases q : H.get? b with
            | none => rfl
            | some o => have := F.keep b o q; rw [h] at this; cases this
          · obtain ⟨oL, _, _, hL, _⟩ := F.ns
            rw [← z, h] at hL; cases hL
          · rw [← hnx] at hm
            obtain ⟨q, hq, rfl⟩ := List.mem_map.mp hm
            have := (N q hq).1
            rw [h] at this; cases this
    have F₅ : Fr H env.locals h₅ (fun y => if y = xc then some (.str ⟨ch.toArray⟩ tk₂) else if y = xp then some (.int (p : Nat) tk₁) else m₁ y) :=
      ⟨hn₅, fun b o e => hk₅ b o (Nat.ne_of_lt (Nat.lt_of_lt_of_le (Heap.lt_size e) F.above)) (F'.keep b o e), F.above⟩
    have N₅ : News H env.locals h₅ (nx ++ liveOf h₅ (a :: pv')) := by
      intro q hq
      rcases List.mem_append.mp hq with h | h
      · exact ⟨hk₅ _ _ (N' q h).2.1 (N' q h).1, (N' q h).2⟩
      · obtain ⟨h1, h2⟩ := mem_liveOf.mp (show (q.1, q.2) ∈ _ from h)
        exact ⟨h2, (hpv' _ h1).2.1, (hpv' _ h1).1⟩
    have off : OwnOff (liveOf h₅ (a :: pv')) (nx.map (·.1)) := by
      intro q hq b hb e
      obtain ⟨h1, h2⟩ := mem_liveOf.mp (show (q.1, q.2) ∈ _ from hq)
      exact (hpv' _ h1).2.2 (e ▸ hnx ▸ hb)
    refine wpAny_mono (turn p ch r m₁ nx _ tk₁ tk₂ { s'' with heap := h₅, toks := s''.toks + 1 + 1 } hJ off (hgs.trans (hg n hng)) (ho.trans hos) F₅ N₅) (fun f s₃ h₃' => ?_) fun e s₃ h₃' => hR2 e s₃ h₃'
    have fin : TurnEnd H env.locals (J r) (liveOf h₅ (a :: pv')) (nx.map (·.1)) { s'' with heap := h₅, toks := s''.toks + 1 + 1 } s₃ → ∃ m, m < ((p, ch) :: r).length ∧ ∃ r m₁ nx pv, m = r.length ∧ J r m₁ nx ∧ nx.map (·.1) = nx₀.map (·.1) ∧ GStep n s.gens s₃.gens ∧ s₃.os = s.os ∧ Fr H env.locals s₃.heap m₁ ∧ News H env.locals s₃.heap nx ∧ Ready w A.in1 base r pv a g s₃ ∧
        (∀ b ∈ a :: pv, H.get? b = none ∧ b ≠ env.locals ∧ b ∉ nx₀.map (·.1)) := by
      rintro ⟨m', nx', news', F₆, N₆, h1, h2, h3, h4, h5, h6⟩
      refine ⟨r.length, Nat.lt_succ_self _, r, m', nx', pv', rfl, h4, h3.trans hnx, ?_, ?_, F₆, fun q hq => N₆ q (h1 q hq), ?_, hpv'⟩
      · rw [h5]; exact hgs.trans (hg n hng)
      · rw [h6]; exact ho.trans hos
      · refine Rd'.frame (fun b hb o e => ?_) (by rw [h5])
        exact (N₆ _ (h2 _ (mem_liveOf.mpr ⟨hb, hk₅ b o (hpv' b hb).2.1 e⟩))).1
    cases f with
    | ret v => exact hR1 _ _ h₃'
    | brk => exact hR1 _ _ h₃'
    | next => exact fin h₃'
    | cont => exact fin h₃'
end
end Mine
end

section
open PySem PySem.W PyProof.Rows PySem.Calls PySem.Spec
open PySem.W.X (SegX SegX.mono wake_any)
set_option maxRecDepth 100000
set_option maxHeartbeats 4000000
set_option linter.unusedVariables false
namespace Mine
theorem fillC1 : PySem.Challenge.rw_nb0062_01.foot = 10 ∨ (∀ P, hd.heap_39 P = []) := by
  w_top off
  k_fill
  left; rfl

/-- a call that keeps all that stood -/
structure After (s s' : Shared) : Prop where
  keep : ∀ b o, s.heap.get? b = some o → s'.heap.get? b = some o
  gens : GStep s.gens.size s.gens s'.gens
  os : s'.os = s.os


theorem binds1 {a : Str} {v : Value} : (fun y : Str => ([(a, v)] : List (Str × Value)).reverse.lookup y) = fun y => if y = a then some v else none := by
  funext y
  by_cases hy : y = a
  · subst hy; simp
  · have : (y == a) = false := by simpa using hy
    simp [List.lookup, this, hy]

/-- a call of a def of the text that raises nothing -/
theorem enterF {w : World} {A : Around} {mean mg mb} {s : Shared} {R : Result → Shared → Prop} {name qual : Str} {params : Arguments} {body : List Stmt} {scope : Scope} {dV kV doc pm cdv ct oc : Value} {an od : Option Addr} {osl : Array (Option Value)} {f : Addr} {args : Args} {binds : List (Str × Value)} {mm : Str → Option Value}
    (G : Ground w mean mg mb s.heap)
    (ho : (hd.heap_39 w.params).lookup f = some ⟨oc, od, .func (fnOf name qual params body scope dV kV doc pm an cdv ct), osl⟩) (hcd : codeIn (hd.heap_39 w.params) cdv qual = true) (hroom : A.depth < recursionLimit)
    (hbind : BindsTo s (fnOf name qual params body scope dV kV doc pm an cdv ct) args binds) (hloc : ∀ y ∈ binds, scope.names.lookup y.1 = some .local) (hmm : (fun y => binds.reverse.lookup y) = mm)
    (h : ∀ L h₁, L = s.heap.objs.size → Fr s.heap L h₁ mm → News s.heap L h₁ [] →
      wpAny (model prog w) (A.deeper (envOf qual scope L f cdv)) (execs body (envOf qual scope L f cdv))
        (fun fl s' => R (.ok (.ret (match fl with | .ret v => v | _ => .none))) s')
        (fun e s' => False)
        { s with heap := h₁, toks := s.toks + binds.length })
    (hco : scope.isCoroutine = false) (hgen : scope.isGenerator = false) (hk : scope.kind = .function)
    (hcell : ∀ x ∈ scope.names, x.2 ≠ .cell) : codeAny (model prog w) A (.call (.ref f) args) R s := by
  refine codeAny_call_def (fd := fnOf name qual params body scope dV kV doc pm an cdv ct) (body := body) (binds := binds) hroom (G.K _ _ ho) rfl G.T.nolimit (codeRec_of G.K hcd) rfl hbind hcell hloc (fun h₁ hns hk₁ => ?_) hco hgen hk
  exact wpAny_mono (h _ h₁ rfl ⟨hmm ▸ hns, hk₁, Nat.le_refl _⟩ News.nil) (fun _ _ x => x) (fun _ _ x => x.elim)


theorem fr_put {H : Heap} {L : Addr} {h : Heap} {m : Str → Option Value} (x : Str) {v : Option Value} (F : Fr H L h m) (hv : m x = v) : Fr H L h (fun y => if y = x then v else m y) := by
  have e : (fun y => if y = x then v else m y) = m := by
    funext y
    by_cases hy : y = x
    · subst hy; simp [hv]
    · simp [hy]
  rw [e]; exact F

/-- the state of the loop of _strip_quoted_realnames -/
structure SQ where
  start : Nat
  opn : Option Nat
  res : List Str
def sqStep (x : Str) (st : SQ) (pc : Nat × List Nat) : SQ :=
  if pc.2 = [34] then (match st.opn with
    | none => ⟨st.start, some pc.1, st.res⟩
    | some o => ⟨pc.1 + 1, none, if st.start = o then st.res else st.res ++ [Txt.slice x (some (st.start : Nat)) (some (o : Nat))]⟩) else st

/-- what _strip_quoted_realnames gives -/
def stripS (x : Str) : Str :=
  if (Builtin.Str.occurrences x (Str.ofString "\"") 0 x.length 1).isEmpty = true then x else
    Txt.join (Str.ofString "") (if ((escFrom 0 false x.cps.toList).foldl (sqStep x) ⟨0, none, []⟩).start < x.length
      then ((escFrom 0 false x.cps.toList).foldl (sqStep x) ⟨0, none, []⟩).res ++ [Txt.slice x (some ((((escFrom 0 false x.cps.toList).foldl (sqStep x) ⟨0, none, []⟩).start : Nat) : Int)) none]
      else ((escFrom 0 false x.cps.toList).foldl (sqStep x) ⟨0, none, []⟩).res)
def optV : Option Nat → Tok → Value
  | none, _ => .none
  | some o, t => .int (o : Nat) t

theorem quote_iff {ch : List Nat} : (({ cps := ch.toArray } : Str) == Str.ofString "\"") = true ↔ ch = [34] := by
  have e2 : (Str.ofString "\"") = { cps := #[34] } := by decide +kernel
  rw [e2]
  constructor
  · intro h
    have e := congrArg Str.cps (eq_of_beq h)
    simpa using congrArg Array.toList e
  · rintro rfl; decide
theorem quote_not {ch : List Nat} (h : (({ cps := ch.toArray } : Str) == Str.ofString "\"") = false) : ch ≠ [34] := fun e => by
  rw [quote_iff.mpr e] at h; cases h

theorem strs_push {vs : Array Value} {ys : List Str} {y : Str} {t : Tok} (h : StrsAre vs.toList ys) : StrsAre (vs.push (.str y t)).toList (ys ++ [y]) := by
  rw [Array.toList_push]
  generalize vs.toList = l at h
  induction h with
  | nil => exact .cons _ _ .nil
  | cons z u h ih => exact .cons z u ih
theorem esc_bound : ∀ (cs : List Nat) (i : Nat) (esc : Bool), (esc = true → 0 < i) → ∀ pc ∈ escFrom i esc cs, pc.1 < i + cs.length := by
  intro cs
  induction cs with
  | nil =>
    intro i esc h pc hpc
    cases esc with
    | false => cases hpc
    | true => simp [escFrom] at hpc; have := h rfl; rw [hpc]; simp; omega
  | cons c r ih =>
    intro i esc h pc hpc
    rw [List.length_cons]
    cases esc with
    | true =>
      simp only [escFrom, List.mem_cons] at hpc
      rcases hpc with rfl | hpc
      · show i < _; omega
      · have := ih (i + 1) false (by intro h; cases h) pc hpc; omega
    | false =>
      simp only [escFrom] at hpc
      split at hpc
      · have := ih (i + 1) true (by intro _; omega) pc hpc; omega
      · rcases List.mem_cons.mp hpc with rfl | hpc
        · show i < _; omega
        · have := ih (i + 1) false (by intro h; cases h) pc hpc; omega
theorem esc_length : ∀ (cs : List Nat) (i : Nat) (esc : Bool), (escFrom i esc cs).length ≤ cs.length + (if esc then 1 else 0) := by
  intro cs
  induction cs with
  | nil => intro i esc; cases esc <;> simp [escFrom]
  | cons c r ih =>
    intro i esc
    cases esc with
    | true => have := ih (i + 1) false; simp [escFrom] at this ⊢; omega
    | false =>
      simp only [escFrom]
      split
      · have := ih (i + 1) true; simp at this ⊢; omega
      · have := ih (i + 1) false; simp at this ⊢; omega

/-- what holds at the head of that loop -/
def StripJ (x : Str) (t : Tok) (R : Addr) (fin : SQ) (r : List (Nat × List Nat)) (m : Str → Option Value) (nx : List (Addr × Obj)) : Prop :=
  ∃ (st : SQ) (ts to : Tok) (vs : Array Value) (n : Nat), r.foldl (sqStep x) st = fin ∧ m (Str.ofString "addr") = some (.str x t) ∧ m (Str.ofString "start") = some (.int (st.start : Nat) ts) ∧ m (Str.ofString "open_pos") = some (optV st.opn to) ∧
    m (Str.ofString "result") = some (.ref R) ∧ nx = [(R, W.listOf vs n)] ∧ StrsAre vs.toList st.res ∧ st.start ≤ x.length ∧ (∀ o, st.opn = some o → o < x.length) ∧ (∀ pc ∈ r, pc.1 < x.length) ∧ st.res.length + r.length ≤ x.length ∧ (∀ y ∈ st.res, y.length ≤ x.length)

section
variable {w : World} {mean : ExcName → Option Value} {mg mb : Str → Option Value} {base : Heap} {dp un : Nat} {gd : Option (List Code)} {outer : List Env} {E : Value → Shared → Prop} {s : Shared}

/-- a for over the pairs of _iter_escaped_chars, at its source's value -/
def EscAtLoop (w : World) (base : Heap) (A : Around) (env : Env) (xp xc : Str) (body : List Stmt) (Q : Flow → Shared → Prop) (v : Value) (s : Shared) : Prop :=
  ∃ (H : Heap) (n : Nat) (J : List (Nat × List Nat) → (Str → Option Value) → List (Addr × Obj) → Prop) (r₀ : List (Nat × List Nat)) (m₀ : Str → Option Value) (nx₀ : List (Addr × Obj)) (pv : List Addr) (a : Addr) (g : Nat),
    v = .ref a ∧ On base H ∧ n ≤ g ∧ J r₀ m₀ nx₀ ∧ Fr H env.locals s.heap m₀ ∧ News H env.locals s.heap nx₀ ∧ Ready w A.in1 base r₀ pv a g s ∧ (∀ b ∈ a :: pv, H.get? b = none ∧ b ≠ env.locals ∧ b ∉ nx₀.map (·.1)) ∧
    (∀ p ch r m₁ nx own tk₁ tk₂ s₁, J ((p, ch) :: r) m₁ nx → OwnOff own (nx.map (·.1)) → GStep n s.gens s₁.gens → s₁.os = s.os →
      Fr H env.locals s₁.heap (fun y => if y = xc then some (.str ⟨ch.toArray⟩ tk₂) else if y = xp then some (.int (p : Nat) tk₁) else m₁ y) → News H env.locals s₁.heap (nx ++ own) →
      wpAny (model prog w) A (execs body env) (fun f s₂ => match f with
        | .ret v => Q (.ret v) s₂
        | .brk => Q .next s₂
        | _ => TurnEnd H env.locals (J r) own (nx.map (·.1)) s₁ s₂) (fun _ _ => False) s₁) ∧
    (∀ m₁ nx s₁, J [] m₁ nx → GStep n s.gens s₁.gens → s₁.os = s.os → Fr H env.locals s₁.heap m₁ → News H env.locals s₁.heap nx → Q .next s₁)

theorem esc_For {A : Around} {env : Env} {xp xc : Str} {p1 p2 p3 pos : Pos} {k1 : Nat} {iter : Expr} {body : List Stmt} {Q : Flow → Shared → Prop} (hxp : env.kindOf xp = some .local) (hxc : env.kindOf xc = some .local)
    (hp : (env.scope.kind == .class || (env.scope.kind == .module && env.locals != env.globals)) = false) (hh : A.handled = none) (hroom : A.depth < recursionLimit) (nol : base.NoLimit)
    (hs : ∀ x, foldedSetIterable iter env x = pure x)
    (h : wpAny (model prog w) A (eval iter env) (fun v s' => EscAtLoop w base A env xp xc body Q v s') (fun _ _ => False) s) :
    wpAny (model prog w) A (exec (.For (.Tuple [.Name xp p1, .Name xc p2] k1 p3) iter body [] pos) env) Q (fun _ _ => False) s := by
  refine wpAny_For (wpAny_mono h (fun v s' h' => ?_) fun _ _ x => x) hs
  obtain ⟨H, n, J, r₀, m₀, nx₀, pv, a, g, rfl, O, hng, hJ, F, N, Rd, hpv, turn, done⟩ := h'
  refine wpAny_pyIter_gen Rd.gen ?_
  exact esc_forLoop (ER := fun _ _ => False) hxp hxc hp hh hroom O nol J turn done (fun f s' h => h) (fun e s' h => h.elim) hng hJ F N Rd hpv

theorem strip_spec (G : Ground w mean mg mb base) (O : On base s.heap) (hdp : dp + 10 < recursionLimit) (hun : un + 50 < cLine) {x : Str} {t : Tok} (hx : x.length ≤ 1000) {Q : Value → Shared → Prop}
    (hQ : ∀ t' s', After s s' → Q (.str (stripS x) t') s') :
    wpAny (model prog w) (Ar dp un gd outer) (call (.ref 49) [.str x t]) Q E s := by
  have G₀ := G.keeps O.stays
  have X := G₀.K
  have T := G₀.T
  refine wpAny_call ?_
  k_dflt (refine' enterF ?k1 ?k6 ?k7 ?k8 ?k9 ?kB ?kM ?_ ?c2 ?c3 ?c4 ?c5; (case k1 => exact G₀); (case k6 => k_is); (case k7 => k_is); (case k8 => (dsimp only; omega)); (case k9 => exact BindsTo.of_eq rfl); (case c5 => decide); (case kB => exact locs rfl); (case c2 => exact rfl); (case c3 => exact rfl); (case c4 => exact rfl); (case kM => exact binds1))
  intro L h₁ hL F N
  (try dsimp only)
  generalize hq : (fun (fl : Flow) (s' : Shared) => Q (match fl with | Flow.ret v => v | x => Value.none) s') = QQ
  k_steps
  · have hin : (Builtin.Str.occurrences x (Str.ofString "\"") 0 x.length 1).isEmpty = true := by assumption
    have e : stripS x = x := by unfold stripS; rw [if_pos hin]
    dsimp only
    rw [← hq]
    have := hQ t { s with heap := h₁, toks := tk } ⟨F.keep, .refl _ _, rfl⟩
    rw [e] at this
    exact this
  refine esc_For rfl rfl rfl rfl (by show dp + 1 < recursionLimit; omega) G.T.nolimit (by intro _; rfl) ?_
  k_steps
  rename_i tkA hin tkB hA hB R hC hlt hD F' N'
  refine esc_call G (O.fr F') (by show dp + 1 < recursionLimit; omega) fun C a g s' hk hC' ha hg hgs hos Rd => ?_
  refine ⟨s.heap, s.gens.size, StripJ x t R ((escFrom 0 false x.cps.toList).foldl (sqStep x) ⟨0, none, []⟩), escFrom 0 false x.cps.toList, _, [(R, W.listOf #[] 0)], [C], a, g, rfl, O, by rw [hg]; exact Nat.le_refl _, ?hJ, F'.keeps hk, (fun p hp => ⟨hk _ _ (N' p hp).1, (N' p hp).2⟩), Rd _ _ _ _, ?hpv, ?turn, ?done⟩
  case turn =>
    intro p ch r m₁ nx own tk₁ tk₂ s₁ hJ off hgs₁ hos₁ F₁ N₁
    obtain ⟨st, ts, to, vs, n, hfold, hadr, hst, hop, hres, rfl, hvs, hb1, hb2, hb3, hb4, hb5⟩ := hJ
    have F₂ := fr_put (Str.ofString "addr") (fr_put (Str.ofString "result") (fr_put (Str.ofString "open_pos") (fr_put (Str.ofString "start") F₁ hst) hop) hres) hadr
    clear F₁ F' N'
    obtain ⟨st0, st1, st2⟩ := st
    cases st1 with
    | none =>
      simp only [optV] at F₂
      k_steps
      · have hch := (quote_iff (ch := ch)).mp (by assumption)
        refine TurnEnd.mk' (nx := [(R, W.listOf vs n)]) (by assumption) (by assumption) ⟨⟨st0, some p, st2⟩, ts, tk₁, vs, n, ?_, rfl, rfl, rfl, rfl, rfl, hvs, hb1, ?_, fun pc hpc => hb3 pc (.tail _ hpc), ?_, hb5⟩ rfl (fun q hq => List.mem_append_left _ hq) (fun q hq => List.mem_append_right _ hq) rfl rfl
        · rw [← hfold, List.foldl_cons]; simp [sqStep, hch]
        · intro o ho; cases ho; exact hb3 _ (.head _)
        · simp at hb4 ⊢; omega
      · have hch := quote_not (ch := ch) (by assumption)
        refine TurnEnd.mk' (nx := [(R, W.listOf vs n)]) (by assumption) (by assumption) ⟨⟨st0, none, st2⟩, ts, to, vs, n, ?_, rfl, rfl, rfl, rfl, rfl, hvs, hb1, hb2, fun pc hpc => hb3 pc (.tail _ hpc), ?_, hb5⟩ rfl (fun q hq => List.mem_append_left _ hq) (fun q hq => List.mem_append_right _ hq) rfl rfl
        · rw [← hfold, List.foldl_cons]; simp [sqStep, hch]
        · simp at hb4 ⊢; omega
    | some o =>
      simp only [optV] at F₂
      have hvl : vs.size ≤ 1000 := by
        have h1 := StrsAre.length hvs
        simp at h1 hb4
        omega
      k_steps
      · have hch := (quote_iff (ch := ch)).mp (by assumption)
        have hne : (st0 : Int) ≠ (o : Int) := by assumption
        have hne' : st0 ≠ o := fun z => hne (by rw [z])
        have hsl : (Txt.slice x (some ((st0 : Nat) : Int)) (some ((o : Nat) : Int))).length ≤ x.length := by assumption
        refine TurnEnd.mk' (nx := [(R, W.listOf (vs.push (.str (Txt.slice x (some ((st0 : Nat) : Int)) (some ((o : Nat) : Int))) _)) (n + 1))]) (by assumption) (by assumption) ⟨⟨p + 1, none, st2 ++ [Txt.slice x (some ((st0 : Nat) : Int)) (some ((o : Nat) : Int))]⟩, _, 0, _, _, ?_, rfl, rfl, rfl, rfl, rfl, ?_, ?_, ?_, fun pc hpc => hb3 pc (.tail _ hpc), ?_, ?_⟩ rfl (fun q hq => by rw [List.mem_singleton.mp hq]; exact .head _) (fun q hq => .tail _ hq) rfl rfl
        · rw [← hfold, List.foldl_cons]; simp [sqStep, hch, hne']
        · exact strs_push hvs
        · have := hb3 _ (.head _); exact this
        · intro o ho; cases ho
        · simp at hb4 ⊢; omega
        · intro y hy
          rcases List.mem_append.mp hy with h | h
          · exact hb5 y h
          · rw [List.mem_singleton.mp h]; exact hsl
      · have hch := (quote_iff (ch := ch)).mp (by assumption)
        have hne : (st0 : Int) = (o : Int) := by assumption
        have hne' : st0 = o := by omega
        refine TurnEnd.mk' (nx := [(R, W.listOf vs n)]) (by assumption) (by assumption) ⟨⟨p + 1, none, st2⟩, _, 0, vs, n, ?_, rfl, rfl, rfl, rfl, rfl, hvs, ?_, ?_, fun pc hpc => hb3 pc (.tail _ hpc), ?_, hb5⟩ rfl (fun q hq => List.mem_append_left _ hq) (fun q hq => List.mem_append_right _ hq) rfl rfl
        · rw [← hfold, List.foldl_cons]; simp [sqStep, hch, hne']
        · have := hb3 _ (.head _); exact this
        · intro o ho; cases ho
        · simp at hb4 ⊢; omega
      · have hch := quote_not (ch := ch) (by assumption)
        refine TurnEnd.mk' (nx := [(R, W.listOf vs n)]) (by assumption) (by assumption) ⟨⟨st0, some o, st2⟩, ts, to, vs, n, ?_, rfl, rfl, rfl, rfl, rfl, hvs, hb1, hb2, fun pc hpc => hb3 pc (.tail _ hpc), ?_, hb5⟩ rfl (fun q hq => List.mem_append_left _ hq) (fun q hq => List.mem_append_right _ hq) rfl rfl
        · rw [← hfold, List.foldl_cons]; simp [sqStep, hch]
        · simp at hb4 ⊢; omega
  case hJ =>
    have hl : x.cps.toList.length = x.length := by simp [Str.length]
    refine ⟨⟨0, none, []⟩, _, 0, #[], 0, rfl, rfl, rfl, rfl, rfl, rfl, .nil, Nat.zero_le _, (fun o ho => by cases ho), fun pc hpc => ?_, ?_, fun y hy => by cases hy⟩
    · have := esc_bound _ _ _ (by intro h; cases h) pc hpc
      omega
    · have := esc_length x.cps.toList 0 false
      rw [hl] at this
      simpa using this
  case hpv =>
    intro b hb
    have hn : ∀ b, hD.objs.size ≤ b → s.heap.get? b = none ∧ b ≠ L ∧ b ∉ [(R, W.listOf #[] 0)].map (·.1) := fun b hb => by
      refine ⟨?_, fun z => ?_, fun hm => ?_⟩
      · cases q : s.heap.get? b with
        | none => rfl
        | some o => exact absurd (Heap.lt_size (F'.keep b o q)) (Nat.not_lt.mpr hb)
      · exact absurd F'.ns.lt (Nat.not_lt.mpr (z ▸ hb))
      · rw [List.map_cons, List.map_nil, List.mem_singleton] at hm
        exact absurd (Heap.lt_size (N' _ (.head _)).1) (Nat.not_lt.mpr (hm ▸ hb))
    rcases List.mem_cons.mp hb with z | hb
    · exact hn b (by rw [z, ha, hC']; exact Nat.le_succ _)
    · exact hn b (by rw [List.mem_singleton.mp hb, hC']; exact Nat.le_refl _)
  case done =>
    intro m₁ nx s₁ hJ hgs₁ hos₁ F₁ N₁
    obtain ⟨st, ts, to, vs, n, hfold, hadr, hst, hop, hres, rfl, hvs, hb1, hb2, hb3, hb4, hb5⟩ := hJ
    have F₂ := fr_put (Str.ofString "addr") (fr_put (Str.ofString "result") (fr_put (Str.ofString "start") F₁ hst) hres) hadr
    clear F₁ F' N'
    have hvl : vs.size ≤ 1000 := by
      have h1 := StrsAre.length hvs
      simp at h1 hb4
      omega
    have hin' : ¬ ((Builtin.Str.occurrences x (Str.ofString "\"") 0 x.length 1).isEmpty = true) := by rw [hin]; exact Bool.false_ne_true
    have hlen : st.res.length ≤ 1000 := by simp at hb4; omega
    have hf' : (escFrom 0 false x.cps.toList).foldl (sqStep x) ⟨0, none, []⟩ = st := hfold.symm
    have hsum := StrLaws.sumLen_le (B := x.length) st.res hb5
    have hsum2 : st.res.length * x.length ≤ 1000 * 1000 := Nat.mul_le_mul hlen hx
    have hgs₂ : GStep s.gens.size s.gens s₁.gens := (hgs _ (by rw [hg]; exact Nat.le_refl _)).trans hgs₁
    dsimp only
    k_steps
    · have hlt : ((st.start : Nat) : Int) < (x.length : Nat) := by assumption
      have hlt' : st.start < x.length := by omega
      have hsl : (Txt.slice x (some ((st.start : Nat) : Int)) none).length ≤ x.length := by assumption
      rename_i F₃ N₃
      refine join_listC (ys := st.res ++ [Txt.slice x (some ((st.start : Nat) : Int)) none]) ⟨_, (N₃ _ (.head _)).1, rfl, _, rfl⟩ (strs_push hvs) (by decide) ?_ fun t' k => ?_
      · simp only [List.map_append, List.map_cons, List.map_nil, List.sum_append, List.sum_cons, List.sum_nil, List.length_append, List.length_cons, List.length_nil]
        omega
      · rw [← hq]
        have e : stripS x = Txt.join (Str.ofString "") (st.res ++ [Txt.slice x (some ((st.start : Nat) : Int)) none]) := by
          unfold stripS; rw [if_neg hin', hf', if_pos hlt']
        rw [← e]
        exact hQ t' _ ⟨F₃.keep, hgs₂, hos₁.trans hos⟩
    · have hlt : ¬ ((st.start : Nat) : Int) < (x.length : Nat) := by assumption
      have hlt' : ¬ st.start < x.length := by omega
      refine join_listC (ys := st.res) ⟨_, (N₁ _ (.head _)).1, rfl, _, rfl⟩ hvs (by decide) (by omega) fun t' k => ?_
      rw [← hq]
      have e : stripS x = Txt.join (Str.ofString "") st.res := by
        unfold stripS; rw [if_neg hin', hf', if_neg hlt']
      rw [← e]
      exact hQ t' _ ⟨F₂.keep, hgs₂, hos₁.trans hos⟩
end
end Mine
end

section
open PySem PySem.W PyProof.Rows PySem.Calls PySem.Spec
open PySem.W.X (SegX SegX.mono wake_any)
set_option maxRecDepth 100000
set_option maxHeartbeats 4000000
set_option linter.unusedVariables false
namespace Mine
theorem fillC2 : PySem.Challenge.rw_nb0062_01.foot = 10 ∨ (∀ P, hd.heap_39 P = []) := by
  w_top off
  k_fill
  left; rfl

/-- the loop of _check_parenthesis -/
def chk : Int → List (List Nat) → Bool
  | o, [] => decide (o = 0)
  | o, ch :: r => if ch = [40] then chk (o + 1) r else if ch = [41] then (if o - 1 < 0 then false else chk (o - 1) r) else chk o r
/-- what _check_parenthesis gives -/
def checkP (x : Str) : Bool := chk 0 ((escFrom 0 false (stripS x).cps.toList).map (·.2))

theorem sign_iff {ch : List Nat} {c : Nat} {t : String} (e2 : Str.ofString t = { cps := #[c] }) : (({ cps := ch.toArray } : Str) == Str.ofString t) = true ↔ ch = [c] := by
  rw [e2]
  constructor
  · intro h
    have e := congrArg Str.cps (eq_of_beq h)
    simpa using congrArg Array.toList e
  · rintro rfl; simp
theorem open_iff {ch : List Nat} : (({ cps := ch.toArray } : Str) == Str.ofString "(") = true ↔ ch = [40] := sign_iff (by decide +kernel)
theorem open_not {ch : List Nat} (h : (({ cps := ch.toArray } : Str) == Str.ofString "(") = false) : ch ≠ [40] := fun e => by
  rw [open_iff.mpr e] at h; cases h
theorem shut_iff {ch : List Nat} : (({ cps := ch.toArray } : Str) == Str.ofString ")") = true ↔ ch = [41] := sign_iff (by decide +kernel)
theorem shut_not {ch : List Nat} (h : (({ cps := ch.toArray } : Str) == Str.ofString ")") = false) : ch ≠ [41] := fun e => by
  rw [shut_iff.mpr e] at h; cases h

theorem After.refl (s : Shared) : After s s := ⟨fun _ _ e => e, .refl _ _, rfl⟩
theorem After.trans {s s' s'' : Shared} (x : After s s') (y : After s' s'') : After s s'' :=
  ⟨fun b o e => y.keep b o (x.keep b o e), x.gens.trans (y.gens.mono x.gens.size), y.os.trans x.os⟩

def ChkJ (fin : Bool) (B : Nat) (r : List (Nat × List Nat)) (m : Str → Option Value) (nx : List (Addr × Obj)) : Prop :=
  ∃ (o : Int) (to : Tok), chk o (r.map (·.2)) = fin ∧ m (Str.ofString "opens") = some (.int o to) ∧ nx = [] ∧ o.natAbs + r.length ≤ B

section
variable {w : World} {mean : ExcName → Option Value} {mg mb : Str → Option Value} {base : Heap} {dp un : Nat} {gd : Option (List Code)} {outer : List Env} {E : Value → Shared → Prop} {s : Shared}

theorem pv_fresh {H h : Heap} {L C a : Addr} {m : Str → Option Value} {news : List (Addr × Obj)} (F : Fr H L h m) (N : News H L h news) (hC : C = h.objs.size) (ha : a = C + 1) :
    ∀ b ∈ a :: [C], H.get? b = none ∧ b ≠ L ∧ b ∉ news.map (·.1) := by
  intro b hb
  have hn : ∀ b, h.objs.size ≤ b → H.get? b = none ∧ b ≠ L ∧ b ∉ news.map (·.1) := fun b hb => by
    refine ⟨?_, fun z => ?_, fun hm => ?_⟩
    · cases q : H.get? b with
      | none => rfl
      | some o => exact absurd (Heap.lt_size (F.keep b o q)) (Nat.not_lt.mpr hb)
    · exact absurd F.ns.lt (Nat.not_lt.mpr (z ▸ hb))
    · obtain ⟨q, hq, rfl⟩ := List.mem_map.mp hm
      exact absurd (Heap.lt_size (N q hq).1) (Nat.not_lt.mpr hb)
  rcases List.mem_cons.mp hb with z | hb
  · exact hn b (by rw [z, ha, hC]; exact Nat.le_succ _)
  · exact hn b (by rw [List.mem_singleton.mp hb, hC]; exact Nat.le_refl _)

theorem check_spec (G : Ground w mean mg mb base) (O : On base s.heap) (hdp : dp + 20 < recursionLimit) (hun : un + 100 < cLine) {x : Str} {t : Tok} (hx : x.length ≤ 1000) {Q : Value → Shared → Prop}
    (hQ : ∀ s', After s s' → Q (.bool (checkP x)) s') :
    wpAny (model prog w) (Ar dp un gd outer) (call (.ref 56) [.str x t]) Q E s := by
  have G₀ := G.keeps O.stays
  have X := G₀.K
  have T := G₀.T
  refine wpAny_call ?_
  k_dflt (refine' enterF ?k1 ?k6 ?k7 ?k8 ?k9 ?kB ?kM ?_ ?c2 ?c3 ?c4 ?c5; (case k1 => exact G₀); (case k6 => k_is); (case k7 => k_is); (case k8 => (dsimp only; omega)); (case k9 => exact BindsTo.of_eq rfl); (case c5 => decide); (case kB => exact locs rfl); (case c2 => exact rfl); (case c3 => exact rfl); (case c4 => exact rfl); (case kM => exact binds1))
  intro L h₁ hL F N
  (try dsimp only)
  generalize hq : (fun (fl : Flow) (s' : Shared) => Q (match fl with | Flow.ret v => v | x => Value.none) s') = QQ
  k_steps
  refine strip_spec (dp := dp + 1) (un := un + 3) G (O.fr F) (by omega) (by omega) hx fun t' s' hA => ?_
  have F₁ := F.keeps hA.keep
  have N₁ : News s.heap L s'.heap [] := News.nil
  clear F N
  k_steps
  refine esc_For rfl rfl rfl rfl (by show dp + 1 < recursionLimit; omega) G.T.nolimit (by intro _; rfl) ?_
  k_steps
  rename_i F₂ N₂
  have O₁ := O.fr F₂
  refine esc_call G O₁ (by show dp + 1 < recursionLimit; omega) fun C a g s₂ hk hC' ha hg hgs hos Rd => ?_
  have hgn : s.gens.size ≤ g := by rw [hg]; exact hA.gens.size
  have hx1 := esc_length (stripS x).cps.toList 0 false
  refine ⟨s.heap, s.gens.size, ChkJ (checkP x) (stripS x).cps.toList.length, escFrom 0 false (stripS x).cps.toList, _, [], [C], a, g, rfl, O, hgn, ⟨0, _, rfl, rfl, rfl, by simpa using hx1⟩, F₂.keeps hk, News.nil, Rd _ _ _ _, pv_fresh F₂ News.nil hC' ha, ?turn, ?done⟩
  case turn =>
    intro p ch r m₁ nx own tk₁ tk₂ s₃ hJ off hgs₃ hos₃ F₃ N₃
    obtain ⟨o, to, hfin, hop, rfl, hb⟩ := hJ
    have F₄ := fr_put (Str.ofString "opens") F₃ hop
    clear F₃ F₂ N₂
    have hge : GStep s.gens.size s.gens s₃.gens := (GStep.trans hA.gens (hgs _ hgn)).trans hgs₃
    k_steps
    · have hch := (open_iff (ch := ch)).mp (by assumption)
      refine TurnEnd.mk' (nx := []) (by assumption) (by assumption) ⟨o + 1, _, ?_, rfl, rfl, ?_⟩ rfl (fun q hq => nomatch hq) (fun q hq => hq) rfl rfl
      · rw [← hfin]; simp [chk, hch]
      · simp at hb ⊢; omega
    · have hch := open_not (ch := ch) (by assumption)
      have hch2 := (shut_iff (ch := ch)).mp (by assumption)
      have hlt : o - 1 < 0 := by assumption
      rename_i F₅ N₅ _
      dsimp only
      rw [← hq]
      have e : checkP x = false := by rw [← hfin]; simp [chk, hch2, hlt]
      have h2 : ∀ s', After s s' → Q (.bool false) s' := fun s' h => e ▸ hQ s' h
      exact h2 _ ⟨F₅.keep, hge, ((hos₃.trans hos).trans hA.os)⟩
    · have hch := open_not (ch := ch) (by assumption)
      have hch2 := (shut_iff (ch := ch)).mp (by assumption)
      have hlt : ¬ o - 1 < 0 := by assumption
      refine TurnEnd.mk' (nx := []) (by assumption) (by assumption) ⟨o - 1, _, ?_, rfl, rfl, ?_⟩ rfl (fun q hq => nomatch hq) (fun q hq => hq) rfl rfl
      · rw [← hfin]; simp [chk, hch2, hlt]
      · simp at hb ⊢; omega
    · have hch := open_not (ch := ch) (by assumption)
      have hch2 := shut_not (ch := ch) (by assumption)
      refine TurnEnd.mk' (nx := []) (by assumption) (by assumption) ⟨o, _, ?_, rfl, rfl, ?_⟩ rfl (fun q hq => nomatch hq) (fun q hq => hq) rfl rfl
      · rw [← hfin]; simp [chk, hch, hch2]
      · simp at hb ⊢; omega
  case done =>
    intro m₁ nx s₃ hJ hgs₃ hos₃ F₃ N₃
    obtain ⟨o, to, hfin, hop, rfl, hb⟩ := hJ
    have F₄ := fr_put (Str.ofString "opens") F₃ hop
    clear F₃ F₂ N₂
    have hge : GStep s.gens.size s.gens s₃.gens := (GStep.trans hA.gens (hgs _ hgn)).trans hgs₃
    dsimp only
    k_steps
    rw [← hq]
    have e : checkP x = (o == 0) := by rw [← hfin]; rfl
    have h2 : ∀ s', After s s' → Q (.bool (o == 0)) s' := fun s' h => e ▸ hQ s' h
    exact h2 _ ⟨F₄.keep, hge, ((hos₃.trans hos).trans hA.os)⟩

/-- the loop of _law_read -/
def readL : Int → List (List Nat) → List Int
  | _, [] => []
  | o, ch :: r => if ch = [40] then (o + 1) :: readL (o + 1) r else if ch = [41] then (o + -1) :: readL (o + -1) r else readL o r
/-- what _law_read gives -/
def readS (x : Str) : List Int := readL 0 ((escFrom 0 false (stripS x).cps.toList).map (·.2))

def ReadJ (D : Addr) (fin : List Int) (B : Nat) (r : List (Nat × List Nat)) (m : Str → Option Value) (nx : List (Addr × Obj)) : Prop :=
  ∃ (o : Int) (to : Tok) (vs : Array Value) (ns : List Int) (n : Nat), ns ++ readL o (r.map (·.2)) = fin ∧ m (Str.ofString "height") = some (.int o to) ∧ m (Str.ofString "heights") = some (.ref D) ∧ nx = [(D, W.listOf vs n)] ∧ IntsAre vs.toList ns ∧ o.natAbs + r.length ≤ B ∧ ns.length + r.length ≤ B

theorem ints_push {vs : Array Value} {ys : List Int} {y : Int} {t : Tok} (h : IntsAre vs.toList ys) : IntsAre (vs.push (.int y t)).toList (ys ++ [y]) := by
  rw [Array.toList_push]
  generalize vs.toList = l at h
  induction h with
  | nil => exact .cons _ _ .nil
  | cons z u h ih => exact .cons z u ih

theorem read_spec (G : Ground w mean mg mb base) (O : On base s.heap) (hdp : dp + 20 < recursionLimit) (hun : un + 100 < cLine) {x : Str} {t : Tok} (hx : x.length ≤ 1000) (hx2 : (stripS x).length ≤ 1000) {Q : Value → Shared → Prop}
    (hQ : ∀ D vs n s', After s s' → s.heap.get? D = none → s'.heap.get? D = some (W.listOf vs n) → IntsAre vs.toList (readS x) → Q (.ref D) s') :
    wpAny (model prog w) (Ar dp un gd outer) (call (.ref 82) [.str x t]) Q E s := by
  have G₀ := G.keeps O.stays
  have X := G₀.K
  have T := G₀.T
  refine wpAny_call ?_
  k_dflt (refine' enterF ?k1 ?k6 ?k7 ?k8 ?k9 ?kB ?kM ?_ ?c2 ?c3 ?c4 ?c5; (case k1 => exact G₀); (case k6 => k_is); (case k7 => k_is); (case k8 => (dsimp only; omega)); (case k9 => exact BindsTo.of_eq rfl); (case c5 => decide); (case kB => exact locs rfl); (case c2 => exact rfl); (case c3 => exact rfl); (case c4 => exact rfl); (case kM => exact binds1))
  intro L h₁ hL F N
  (try dsimp only)
  generalize hq : (fun (fl : Flow) (s' : Shared) => Q (match fl with | Flow.ret v => v | x => Value.none) s') = QQ
  k_steps
  rename_i D _ _ _ _ F₁ N₁
  refine esc_For rfl rfl rfl rfl (by show dp + 1 < recursionLimit; omega) G.T.nolimit (by intro _; rfl) ?_
  k_steps
  refine strip_spec (dp := dp + 1) (un := un + 3) G (O.fr F₁) (by omega) (by omega) hx fun t' s' hA => ?_
  have F₂ := F₁.keeps hA.keep
  have N₂ : News s.heap L s'.heap [(D, W.listOf #[] 0)] := fun p hp => ⟨hA.keep _ _ (N₁ p hp).1, (N₁ p hp).2⟩
  have O₁ := O.fr F₂
  clear F₁ N₁
  k_steps
  refine esc_call G O₁ (by show dp + 1 < recursionLimit; omega) fun C a g s₂ hk hC' ha hg hgs hos Rd => ?_
  have hgn : s.gens.size ≤ g := by rw [hg]; exact hA.gens.size
  have hx1 := esc_length (stripS x).cps.toList 0 false
  have hx3 : (stripS x).cps.toList.length ≤ 1000 := by simpa [Str.length] using hx2
  refine ⟨s.heap, s.gens.size, ReadJ D (readS x) (stripS x).cps.toList.length, escFrom 0 false (stripS x).cps.toList, _, [(D, W.listOf #[] 0)], [C], a, g, rfl, O, hgn, ⟨0, _, #[], [], 0, rfl, rfl, rfl, rfl, .nil, by simpa using hx1, by simpa using hx1⟩, F₂.keeps hk,
    (fun p hp => ⟨hk _ _ (N₂ p hp).1, (N₂ p hp).2⟩), Rd _ _ _ _, pv_fresh F₂ N₂ hC' ha, ?turn, ?done⟩
  case turn =>
    intro p ch r m₁ nx own tk₁ tk₂ s₃ hJ off hgs₃ hos₃ F₃ N₃
    obtain ⟨o, to, vs, ns, n, hfin, hop, hhs, rfl, hvs, hb, hb2⟩ := hJ
    have F₄ := fr_put (Str.ofString "height") (fr_put (Str.ofString "heights") F₃ hhs) hop
    clear F₃ F₂ N₂
    have hvl : vs.size ≤ 1000 := by
      have h1 := IntsAre.length hvs
      rw [Array.length_toList] at h1
      simp only [List.length_cons] at hb2
      omega
    k_steps
    · have hch := (open_iff (ch := ch)).mp (by assumption)
      refine TurnEnd.mk' (nx := [(D, W.listOf (vs.push (.int (o + 1) _)) (n + 1))]) (by assumption) (by assumption) ⟨o + 1, _, _, ns ++ [o + 1], _, ?_, rfl, rfl, rfl, ints_push hvs, ?_, ?_⟩ rfl (fun q hq => by rw [List.mem_singleton.mp hq]; exact .head _) (fun q hq => .tail _ hq) rfl rfl
      · rw [← hfin]; simp [readL, hch]
      · simp only [List.length_cons] at hb; omega
      · simp only [List.length_cons, List.length_append, List.length_nil] at hb2 ⊢; omega
    · have hch := open_not (ch := ch) (by assumption)
      have hch2 := (shut_iff (ch := ch)).mp (by assumption)
      refine TurnEnd.mk' (nx := [(D, W.listOf (vs.push (.int (o + -1) _)) (n + 1))]) (by assumption) (by assumption) ⟨o + -1, _, _, ns ++ [o + -1], _, ?_, rfl, rfl, rfl, ints_push hvs, ?_, ?_⟩ rfl (fun q hq => by rw [List.mem_singleton.mp hq]; exact .head _) (fun q hq => .tail _ hq) rfl rfl
      · rw [← hfin]; simp [readL, hch2]
      · simp only [List.length_cons] at hb; omega
      · simp only [List.length_cons, List.length_append, List.length_nil] at hb2 ⊢; omega
    · have hch := open_not (ch := ch) (by assumption)
      have hch2 := shut_not (ch := ch) (by assumption)
      refine TurnEnd.mk' (nx := [(D, W.listOf vs n)]) (by assumption) (by assumption) ⟨o, _, vs, ns, n, ?_, rfl, rfl, rfl, hvs, ?_, ?_⟩ rfl (fun q hq => List.mem_append_left _ hq) (fun q hq => List.mem_append_right _ hq) rfl rfl
      · rw [← hfin]; simp [readL, hch, hch2]
      · simp only [List.length_cons] at hb; omega
      · simp only [List.length_cons] at hb2; omega
  case done =>
    intro m₁ nx s₃ hJ hgs₃ hos₃ F₃ N₃
    obtain ⟨o, to, vs, ns, n, hfin, hop, hhs, rfl, hvs, hb, hb2⟩ := hJ
    have F₄ := fr_put (Str.ofString "height") (fr_put (Str.ofString "heights") F₃ hhs) hop
    clear F₃ F₂ N₂
    have hge : GStep s.gens.size s.gens s₃.gens := (GStep.trans hA.gens (hgs _ hgn)).trans hgs₃
    dsimp only
    k_steps
    rw [← hq]
    exact hQ D vs n _ ⟨F₄.keep, hge, ((hos₃.trans hos).trans hA.os)⟩ (N₃ _ (.head _)).2.2 (N₃ _ (.head _)).1 (by rw [← hfin]; simpa [readL] using hvs)
end
end Mine
end

section
open PySem PySem.W PyProof.Rows PySem.Calls PySem.Spec
set_option maxRecDepth 100000
set_option maxHeartbeats 4000000
set_option linter.unusedVariables false
namespace Mine
theorem fillR1 : PySem.Challenge.rw_nb0062_01.foot = 10 ∨ (∀ P, hd.heap_39 P = []) := by
  w_top off
  k_fill
  left; rfl

/-- the pieces of a row, as a list's items -/
inductive PiecesAre (h : Heap) : List Value → List (Str × Int) → Prop
  | nil : PiecesAre h [] []
  | cons {T : Addr} {t : Str} {st : Int} {tk₁ tk₂ : Tok} {vs : List Value} {rows : List (Str × Int)} : h.IsTuple T #[.str t tk₁, .int st tk₂] → PiecesAre h vs rows → PiecesAre h (.ref T :: vs) ((t, st) :: rows)
theorem PiecesAre.keeps {h h' : Heap} (k : ∀ b o, h.get? b = some o → h'.get? b = some o) : ∀ {vs : List Value} {rows : List (Str × Int)}, PiecesAre h vs rows → PiecesAre h' vs rows
  | _, _, .nil => .nil
  | _, _, .cons ht r => .cons (let ⟨o, ho, q⟩ := ht; ⟨o, k _ _ ho, q⟩) (r.keeps k)
theorem PiecesAre.length {h : Heap} : ∀ {vs : List Value} {rows : List (Str × Int)}, PiecesAre h vs rows → vs.length = rows.length
  | _, _, .nil => rfl
  | _, _, .cons _ r => by rw [List.length_cons, List.length_cons, r.length]
/-- a row stands at l -/
def RowAt (h : Heap) (l : Addr) (rows : List (Str × Int)) : Prop := ∃ vs : List Value, h.IsList l vs.toArray ∧ PiecesAre h vs rows
theorem RowAt.keeps {h h' : Heap} {l : Addr} {rows : List (Str × Int)} (k : ∀ b o, h.get? b = some o → h'.get? b = some o) (x : RowAt h l rows) : RowAt h' l rows :=
  let ⟨vs, hl, hp⟩ := x; ⟨vs, let ⟨o, ho, r⟩ := hl; ⟨o, k _ _ ho, r⟩, hp.keeps k⟩

/-- the end of a turn of a loop whose iterator is heap alone -/
def TurnEndG (n : Nat) (H : Heap) (L : Addr) (J : (Str → Option Value) → List (Addr × Obj) → Prop) (own : List (Addr × Obj)) (adr : List Addr) (s₁ s₂ : Shared) : Prop :=
  ∃ m' nx news', Fr H L s₂.heap m' ∧ News H L s₂.heap news' ∧ (∀ p ∈ nx, p ∈ news') ∧ (∀ p ∈ own, p ∈ news') ∧ nx.map (·.1) = adr ∧ J m' nx ∧ GStep n s₁.gens s₂.gens ∧ s₂.os = s₁.os
theorem TurnEndG.mk' {n : Nat} {H : Heap} {L : Addr} {J : (Str → Option Value) → List (Addr × Obj) → Prop} {own : List (Addr × Obj)} {adr : List Addr} {s₁ s₂ : Shared} {m' : Str → Option Value} {nx news' : List (Addr × Obj)}
    (F : Fr H L s₂.heap m') (N : News H L s₂.heap news') (hj : J m' nx) (ha : nx.map (·.1) = adr) (h1 : ∀ p ∈ nx, p ∈ news') (h2 : ∀ p ∈ own, p ∈ news') (hg : GStep n s₁.gens s₂.gens) (ho : s₂.os = s₁.os) : TurnEndG n H L J own adr s₁ s₂ :=
  ⟨m', nx, news', F, N, h1, h2, ha, hj, hg, ho⟩

section
variable {w : World} {mean : ExcName → Option Value} {mg mb : Str → Option Value} {base : Heap} {dp un : Nat} {gd : Option (List Code)} {outer : List Env} {E : Value → Shared → Prop} {s : Shared}

/-- a for over a row, at its list -/
def RowAtLoop (w : World) (A : Around) (env : Env) (xa xb : Str) (body : List Stmt) (Q : Flow → Shared → Prop) (v : Value) (s : Shared) : Prop :=
  ∃ (H : Heap) (n : Nat) (J : List (Str × Int) → (Str → Option Value) → List (Addr × Obj) → Prop) (rows : List (Str × Int)) (m₀ : Str → Option Value) (nx₀ : List (Addr × Obj)) (l : Addr),
    v = .ref l ∧ RowAt H l rows ∧ J rows m₀ nx₀ ∧ Fr H env.locals s.heap m₀ ∧ News H env.locals s.heap nx₀ ∧
    (∀ t st r m₁ nx own tk₁ tk₂ s₁, J ((t, st) :: r) m₁ nx → OwnOff own (nx.map (·.1)) → GStep n s.gens s₁.gens → s₁.os = s.os →
      Fr H env.locals s₁.heap (fun y => if y = xb then some (.int st tk₂) else if y = xa then some (.str t tk₁) else m₁ y) → News H env.locals s₁.heap (nx ++ own) →
      wpAny (model prog w) A (execs body env) (fun f s₂ => match f with
        | .ret v => Q (.ret v) s₂
        | .brk => Q .next s₂
        | _ => TurnEndG n H env.locals (J r) own (nx.map (·.1)) s₁ s₂) (fun _ _ => False) s₁) ∧
    (∀ m₁ nx s₁, J [] m₁ nx → GStep n s.gens s₁.gens → s₁.os = s.os → Fr H env.locals s₁.heap m₁ → News H env.locals s₁.heap nx → Q .next s₁)

theorem row_For {A : Around} {env : Env} {xa xb : Str} {p1 p2 p3 pos : Pos} {k1 : Nat} {iter : Expr} {body : List Stmt} {Q : Flow → Shared → Prop} (hxa : env.kindOf xa = some .local) (hxb : env.kindOf xb = some .local)
    (hp : (env.scope.kind == .class || (env.scope.kind == .module && env.locals != env.globals)) = false) (hh : A.handled = none)
    (hs : ∀ x, foldedSetIterable iter env x = pure x)
    (h : wpAny (model prog w) A (eval iter env) (fun v s' => RowAtLoop w A env xa xb body Q v s') (fun _ _ => False) s) :
    wpAny (model prog w) A (exec (.For (.Tuple [.Name xa p1, .Name xb p2] k1 p3) iter body [] pos) env) Q (fun _ _ => False) s := by
  refine wpAny_For (wpAny_mono h (fun v s' h' => ?_) fun _ _ x => x) hs
  clear h
  obtain ⟨H, n, J, rows, m₀, nx₀, l, rfl, ⟨vs, hl, hps⟩, hJ, F, N, turn, done⟩ := h'
  have hls : s'.heap.IsList l vs.toArray := hl.at fun o e => F.keep l o e
  refine wpAny_pyIter_list hls ?_
  have hI : ∀ b o, s'.heap.get? b = some o → b ≠ s'.heap.objs.size := fun b o e => Nat.ne_of_lt (Heap.lt_size e)
  refine codeAny_forLoop_any (R := fun r s'' => match r with | .ok f => Q f s'' | .error e => cameBackBy (model prog w) A env (fun _ _ => False) e s'')
    (fun k s'' => ∃ r i m₁ nx, k = r.length ∧ J r m₁ nx ∧ nx.map (·.1) = nx₀.map (·.1) ∧ GStep n s'.gens s''.gens ∧ s''.os = s'.os ∧ Fr H env.locals s''.heap m₁ ∧ News H env.locals s''.heap nx ∧ PiecesAre H (vs.drop i) r ∧
      s''.heap.IsListIter s'.heap.objs.size l i) ?_ rows.length
    ⟨rows, 0, m₀, nx₀, rfl, hJ, rfl, .refl _ _, rfl, F.push _, (fun p hp => ⟨Heap.get?_push_of_some _ (N p hp).1, (N p hp).2⟩), hps, ⟨_, Heap.get?_push_size _ rfl, rfl, rfl⟩⟩
  have hIH : H.get? s'.heap.objs.size = none := by
    cases q : H.get? s'.heap.objs.size with
    | none => rfl
    | some o => exact absurd rfl (hI _ _ (F.keep _ _ q))
  have hIL : s'.heap.objs.size ≠ env.locals := Ne.symm (Nat.ne_of_lt F.ns.lt)
  have hIn : s'.heap.objs.size ∉ nx₀.map (·.1) := fun hm => by
    obtain ⟨q, hq, e⟩ := List.mem_map.mp hm
    exact hI _ _ (N q hq).1 e
  rintro k s₁ ⟨r, i, m₁, nx, rfl, hJ, hnx, hgs, hos, F₁, N₁, hps, hit⟩
  have hl₁ : s₁.heap.IsList l vs.toArray := hl.at fun o e => F₁.keep l o e
  have keep : ∀ {h₂ : Heap}, (∀ b o, b ≠ s'.heap.objs.size → s₁.heap.get? b = some o → h₂.get? b = some o) → Fr H env.locals h₂ m₁ ∧ News H env.locals h₂ nx := by
    intro h₂ hk
    refine ⟨⟨F₁.ns.at fun o e => hk _ o (Ne.symm hIL) e, fun b o e => hk b o (fun z => by rw [z, hIH] at e; cases e) (F₁.keep b o e), F₁.above⟩, fun q hq => ⟨hk _ _ (fun z => ?_) (N₁ q hq).1, (N₁ q hq).2⟩⟩
    exact hIn (z ▸ hnx ▸ List.mem_map_of_mem hq)
  generalize hvs : vs.drop i = vd at hps
  cases hps with
  | nil =>
    refine wpAny_pyNext_list_end hh hit hl₁ (by simpa using hvs) fun h₂ hx => wpAny_execs_nil ?_
    obtain ⟨F₂, N₂⟩ := keep hx
    exact done m₁ nx { s₁ with heap := h₂ } hJ hgs hos F₂ N₂
  | @cons T t st tk₁ tk₂ vs' r ht hps' =>
    have hx : vs.toArray[i]? = some (.ref T) := by
      have h1 : (vs.drop i)[0]? = some (Value.ref T) := by rw [hvs]; rfl
      simpa using h1
    have hr : vs.drop (i + 1) = vs' := by rw [← List.drop_drop, hvs]; rfl
    refine wpAny_pyNext_list_item hit hl₁ hx fun h₂ hit₂ hs₂ => ?_
    obtain ⟨F₂, N₂⟩ := keep hs₂.extBut
    refine wpAny_letOwnedTupleGo_listiter hit₂ ?_
    have hT₂ : h₂.IsTuple T #[.str t tk₁, .int st tk₂] := let ⟨o, ho, r⟩ := ht; ⟨o, F₂.keep _ _ ho, r⟩
    refine wpAny_assign_Tuple hh hT₂ rfl rfl fun h₃ hx₃ => ?_
    have hx₃' : ∀ b' o, h₂.get? b' = some o → h₃.get? b' = some o := fun b' o e' => hx₃ b' o (Nat.ne_of_lt (Heap.lt_size e')) e'
    show wpAny _ _ (do holding [_] (assign (.Name xa p1) env (.str t tk₁)); do holding [] (assign (.Name xb p2) env (.int st tk₂)); pure ()) _ _ _
    refine wpAny_bind (wpAny_holding (wpAny_assign_Name (wpAny_storeName_local hxa (F₂.ns.keeps hx₃') (fun h₄ hn₄ hs₄ => ?_) hp)))
    refine wpAny_bind (wpAny_holding (wpAny_assign_Name (wpAny_storeName_local hxb hn₄ (fun h₅ hn₅ hs₅ => wpAny_pure ?_) hp)))
    have hk₅ : ∀ b' o, b' ≠ env.locals → h₂.get? b' = some o → h₅.get? b' = some o := fun b' o hb e' => hs₅.extBut b' o hb (hs₄.extBut b' o hb (hx₃' b' o e'))
    have F₅ : Fr H env.locals h₅ (fun y => if y = xb then some (.int st tk₂) else if y = xa then some (.str t tk₁) else m₁ y) :=
      ⟨hn₅, fun b o e => hk₅ b o (Nat.ne_of_lt (Nat.lt_of_lt_of_le (Heap.lt_size e) F.above)) (F₂.keep b o e), F.above⟩
    have hit₅ : h₅.IsListIter s'.heap.objs.size l (i + 1) := hit₂.at fun o e => hk₅ _ o hIL e
    obtain ⟨oi, hoi, hoi2⟩ := hit₅
    have N₅ : News H env.locals h₅ (nx ++ [(s'.heap.objs.size, oi)]) := by
      intro q hq
      rcases List.mem_append.mp hq with h | h
      · exact ⟨hk₅ _ _ (N₂ q h).2.1 (N₂ q h).1, (N₂ q h).2⟩
      · rw [List.mem_singleton.mp h]; exact ⟨hoi, hIL, hIH⟩
    have off : OwnOff [(s'.heap.objs.size, oi)] (nx.map (·.1)) := by
      intro q hq b hb e
      rw [List.mem_singleton.mp hq] at e
      have e' : s'.heap.objs.size = b := e
      rw [← e', hnx] at hb
      exact hIn hb
    refine wpAny_mono (turn t st r m₁ nx _ tk₁ tk₂ { s₁ with heap := h₅, toks := s₁.toks + 1 + 1 } hJ off hgs hos F₅ N₅) (fun f s₃ h₃' => ?_) fun e s₃ h₃' => h₃'.elim
    have fin : TurnEndG n H env.locals (J r) [(s'.heap.objs.size, oi)] (nx.map (·.1)) { s₁ with heap := h₅, toks := s₁.toks + 1 + 1 } s₃ → ∃ m, m < ((t, st) :: r).length ∧ ∃ r i m₁ nx, m = r.length ∧ J r m₁ nx ∧ nx.map (·.1) = nx₀.map (·.1) ∧ GStep n s'.gens s₃.gens ∧ s₃.os = s'.os ∧ Fr H env.locals s₃.heap m₁ ∧ News H env.locals s₃.heap nx ∧ PiecesAre H (vs.drop i) r ∧
      s₃.heap.IsListIter s'.heap.objs.size l i := by
      rintro ⟨m', nx', news', F₆, N₆, h1, h2, h3, h4, h5, h6⟩
      refine ⟨r.length, Nat.lt_succ_self _, r, i + 1, m', nx', rfl, h4, h3.trans hnx, hgs.trans h5, h6.trans hos, F₆, fun q hq => N₆ q (h1 q hq), hr ▸ hps', ⟨oi, (N₆ _ (h2 _ (.head _))).1, hoi2⟩⟩
    cases f with
    | ret v => exact h₃'
    | brk => exact h₃'
    | next => exact fin h₃'
    | cont => exact fin h₃'

/-- what _law_lonely gives -/
def lonelyL : Int → Int → List (Str × Int) → Int
  | _, l, [] => l
  | w, l, (_, st) :: r => if st = 1 then lonelyL (w + 1) l r else if st = -1 ∧ w ≠ 0 then lonelyL (w - 1) l r else if st = -1 then lonelyL w (l + 1) r else lonelyL w l r

def LonelyJ (fin : Int) (B : Nat) (r : List (Str × Int)) (m : Str → Option Value) (nx : List (Addr × Obj)) : Prop :=
  ∃ (wt ln : Int) (t1 t2 : Tok), lonelyL wt ln r = fin ∧ m (Str.ofString "waiting") = some (.int wt t1) ∧ m (Str.ofString "lonely") = some (.int ln t2) ∧ nx = [] ∧ wt.natAbs + ln.natAbs + r.length ≤ B

theorem lonely_spec (G : Ground w mean mg mb base) (O : On base s.heap) (hdp : dp + 20 < recursionLimit) (hun : un + 100 < cLine) {l : Addr} {rows : List (Str × Int)} (hr : RowAt s.heap l rows) (hb : rows.length ≤ 1000) {Q : Value → Shared → Prop}
    (hQ : ∀ t' s', After s s' → Q (.int (lonelyL 0 0 rows) t') s') :
    wpAny (model prog w) (Ar dp un gd outer) (call (.ref 96) [.ref l]) Q E s := by
  have G₀ := G.keeps O.stays
  have X := G₀.K
  have T := G₀.T
  refine wpAny_call ?_
  k_dflt (refine' enterF ?k1 ?k6 ?k7 ?k8 ?k9 ?kB ?kM ?_ ?c2 ?c3 ?c4 ?c5; (case k1 => exact G₀); (case k6 => k_is); (case k7 => k_is); (case k8 => (dsimp only; omega)); (case k9 => exact BindsTo.of_eq rfl); (case c5 => decide); (case kB => exact locs rfl); (case c2 => exact rfl); (case c3 => exact rfl); (case c4 => exact rfl); (case kM => exact binds1))
  intro L h₁ hL F N
  (try dsimp only)
  generalize hq : (fun (fl : Flow) (s' : Shared) => Q (match fl with | Flow.ret v => v | x => Value.none) s') = QQ
  k_steps
  rename_i F₁ N₁
  refine row_For rfl rfl rfl rfl (by intro _; rfl) ?_
  k_steps
  refine ⟨s.heap, s.gens.size, LonelyJ (lonelyL 0 0 rows) rows.length, rows, _, [], l, rfl, hr, ⟨0, 0, _, _, rfl, rfl, rfl, rfl, by simp⟩, F₁, News.nil, ?turn, ?done⟩
  case turn =>
    intro t st r m₁ nx own tk₁ tk₂ s₃ hJ off hgs₃ hos₃ F₃ N₃
    obtain ⟨wt, ln, t1, t2, hfin, hwt, hln, rfl, hb1⟩ := hJ
    have F₄ := fr_put (Str.ofString "waiting") (fr_put (Str.ofString "lonely") F₃ hln) hwt
    clear F₃ F₁ N₁
    k_steps
    all_goals (
      refine TurnEndG.mk' (nx := []) (by assumption) (by assumption) ⟨_, _, _, _, ?_, rfl, rfl, rfl, ?_⟩ rfl (fun q hq => nomatch hq) (fun q hq => hq) (.refl _ _) rfl
      · rw [← hfin]; simp_all [lonelyL]
      · simp only [List.length_cons] at hb1; omega)
  case done =>
    intro m₁ nx s₃ hJ hgs₃ hos₃ F₃ N₃
    obtain ⟨wt, ln, t1, t2, hfin, hwt, hln, rfl, hb1⟩ := hJ
    have F₄ := fr_put (Str.ofString "lonely") F₃ hln
    clear F₃ F₁ N₁
    dsimp only
    k_steps
    rw [← hq]
    have e : lonelyL 0 0 rows = ln := by rw [← hfin]; rfl
    have h2 : ∀ t' s', After s s' → Q (.int ln t') s' := fun t' s' h => e ▸ hQ t' s' h
    exact h2 _ _ ⟨F₄.keep, hgs₃, hos₃⟩

/-- what _law_beginnings gives: the texts, the heights -/
structure BG where
  texts : List Str
  heights : List Int
  text : Str
  height : Int
def bgStep (b : BG) (p : Str × Int) : BG :=
  ⟨if p.2 ≠ 0 ∧ b.heights ≠ [] then b.texts ++ [b.text] else b.texts, if p.2 ≠ 0 then b.heights ++ [b.height + p.2] else b.heights, b.text ++ p.1, if p.2 ≠ 0 then b.height + p.2 else b.height⟩
def begins (rows : List (Str × Int)) : BG := rows.foldl bgStep ⟨[], [], Str.ofString "", 0⟩

def BgJ (D₁ D₂ : Addr) (fin : BG) (B : Nat) (r : List (Str × Int)) (m : Str → Option Value) (nx : List (Addr × Obj)) : Prop :=
  ∃ (b : BG) (t1 t2 : Tok) (vs ws : Array Value) (n₁ n₂ : Nat), r.foldl bgStep b = fin ∧ m (Str.ofString "texts") = some (.ref D₁) ∧ m (Str.ofString "heights") = some (.ref D₂) ∧ m (Str.ofString "text") = some (.str b.text t1) ∧ m (Str.ofString "height") = some (.int b.height t2) ∧
    nx = [(D₂, W.listOf ws n₂), (D₁, W.listOf vs n₁)] ∧ StrsAre vs.toList b.texts ∧ IntsAre ws.toList b.heights ∧ b.texts.length + r.length ≤ B ∧ b.heights.length + r.length ≤ B ∧ (∀ p ∈ r, p.2.natAbs ≤ 1 ∧ p.1.length ≤ 100) ∧ b.height.natAbs + r.length ≤ B ∧ b.text.length + 100 * r.length ≤ 100 * B

theorem begin_spec (G : Ground w mean mg mb base) (O : On base s.heap) (hdp : dp + 20 < recursionLimit) (hun : un + 100 < cLine) {l : Addr} {rows : List (Str × Int)} (hr : RowAt s.heap l rows) (hb : rows.length ≤ 8)
    (hsm : ∀ p ∈ rows, p.2.natAbs ≤ 1 ∧ p.1.length ≤ 100) {Q : Value → Shared → Prop}
    (hQ : ∀ T D₁ D₂ vs ws n₁ n₂ s', After s s' → s'.heap.IsTuple T #[.ref D₁, .ref D₂] → s.heap.get? T = none → s.heap.get? D₁ = none → s.heap.get? D₂ = none → s'.heap.get? D₁ = some (W.listOf vs n₁) → s'.heap.get? D₂ = some (W.listOf ws n₂) →
      StrsAre vs.toList ((begins rows).texts ++ [(begins rows).text]) → IntsAre ws.toList (begins rows).heights → Q (.ref T) s') :
    wpAny (model prog w) (Ar dp un gd outer) (call (.ref 89) [.ref l]) Q E s := by
  have G₀ := G.keeps O.stays
  have X := G₀.K
  have T := G₀.T
  refine wpAny_call ?_
  k_dflt (refine' enterF ?k1 ?k6 ?k7 ?k8 ?k9 ?kB ?kM ?_ ?c2 ?c3 ?c4 ?c5; (case k1 => exact G₀); (case k6 => k_is); (case k7 => k_is); (case k8 => (dsimp only; omega)); (case k9 => exact BindsTo.of_eq rfl); (case c5 => decide); (case kB => exact locs rfl); (case c2 => exact rfl); (case c3 => exact rfl); (case c4 => exact rfl); (case kM => exact binds1))
  intro L h₁ hL F N
  (try dsimp only)
  generalize hq : (fun (fl : Flow) (s' : Shared) => Q (match fl with | Flow.ret v => v | x => Value.none) s') = QQ
  k_steps
  rename_i D₁ _ _ _ _ D₂ _ hDD _ _ _ F₁ N₁
  refine row_For rfl rfl rfl rfl (by intro _; rfl) ?_
  k_steps
  refine ⟨s.heap, s.gens.size, BgJ D₁ D₂ (begins rows) rows.length, rows, _, [(D₂, W.listOf #[] 0), (D₁, W.listOf #[] 0)], l, rfl, hr, ⟨⟨[], [], Str.ofString "", 0⟩, _, _, #[], #[], 0, 0, rfl, rfl, rfl, rfl, rfl, rfl, .nil, .nil, by simp, by simp, hsm, by simp, by rw [show (Str.ofString "").length = 0 from by decide +kernel]; omega⟩, F₁, N₁, ?turn, ?done⟩
  case turn =>
    intro t st r m₁ nx own tk₁ tk₂ s₃ hJ off hgs₃ hos₃ F₃ N₃
    obtain ⟨b, t1, t2, vs, ws, n₁, n₂, hfin, h1, h2, h3, h4, rfl, hvs, hws, hb1, hb2, hb3, hb4, hb5⟩ := hJ
    have F₄ := fr_put (Str.ofString "texts") (fr_put (Str.ofString "heights") (fr_put (Str.ofString "text") (fr_put (Str.ofString "height") F₃ h4) h3) h2) h1
    clear F₃ F₁ N₁
    have hvl : vs.size ≤ 1000 := by
      have h1 := StrsAre.length hvs
      rw [Array.length_toList] at h1
      simp only [List.length_cons] at hb1
      omega
    have hwl : ws.size ≤ 1000 := by
      have h1 := IntsAre.length hws
      rw [Array.length_toList] at h1
      simp only [List.length_cons] at hb2
      omega
    have hst := (hb3 _ (.head _)).1
    have htl := (hb3 _ (.head _)).2
    have htx : b.text.length ≤ 100000 := by omega
    dsimp only at hst htl
    have hsz : ∀ y : Str, (b.text ++ y).length = b.text.length + y.length := fun y => Str.length_append _ _
    simp only [List.length_cons] at hb1 hb2 hb4 hb5
    have hb3' : ∀ p ∈ r, p.2.natAbs ≤ 1 ∧ p.1.length ≤ 100 := fun p hp => hb3 p (.tail _ hp)
    have two : ∀ {a b c : Addr × Obj} {own : List (Addr × Obj)}, c ∈ [a, b] → c ∈ a :: b :: own := fun h => by
      simp only [List.mem_cons, List.not_mem_nil, or_false] at h
      rcases h with rfl | rfl
      · exact .head _
      · exact .tail _ (.head _)
    k_steps
    · have hs0 : st ≠ 0 := by assumption
      have hh0 : 0 < b.heights.length := by assumption
      have hh1 : b.heights ≠ [] := fun z => by rw [z] at hh0; cases hh0
      refine TurnEndG.mk' (nx := [(D₂, W.listOf (ws.push (.int (b.height + st) _)) (n₂ + 1)), (D₁, W.listOf (vs.push (.str b.text t1)) (n₁ + 1))]) (by assumption) (by assumption)
        ⟨⟨b.texts ++ [b.text], b.heights ++ [b.height + st], b.text ++ t, b.height + st⟩, _, _, _, _, _, _, ?_, rfl, rfl, rfl, rfl, rfl, strs_push hvs, ints_push hws, ?_, ?_, hb3', ?_, ?_⟩ rfl (fun q hq => two hq) (fun q hq => .tail _ (.tail _ hq)) (.refl _ _) rfl
      · rw [← hfin, List.foldl_cons]; simp [bgStep, hs0, hh1]
      · simp only [List.length_append, List.length_cons, List.length_nil]; omega
      · simp only [List.length_append, List.length_cons, List.length_nil]; omega
      · dsimp only; omega
      · dsimp only; rw [hsz]; omega
    · omega
    · have hs0 : st ≠ 0 := by assumption
      have hh0 : ¬ 0 < b.heights.length := by assumption
      have hh1 : b.heights = [] := List.eq_nil_of_length_eq_zero (by omega)
      refine TurnEndG.mk' (nx := [(D₂, W.listOf (ws.push (.int (b.height + st) _)) (n₂ + 1)), (D₁, W.listOf vs n₁)]) (by assumption) (by assumption)
        ⟨⟨b.texts, b.heights ++ [b.height + st], b.text ++ t, b.height + st⟩, _, _, _, _, _, _, ?_, rfl, rfl, rfl, rfl, rfl, hvs, ints_push hws, ?_, ?_, hb3', ?_, ?_⟩ rfl (fun q hq => two hq) (fun q hq => .tail _ (.tail _ hq)) (.refl _ _) rfl
      · rw [← hfin, List.foldl_cons]; simp [bgStep, hs0, hh1]
      · dsimp only; omega
      · simp only [List.length_append, List.length_cons, List.length_nil]; omega
      · dsimp only; omega
      · dsimp only; rw [hsz]; omega
    · omega
    · omega
    · have hs0 : st = 0 := by omega
      refine TurnEndG.mk' (nx := [(D₂, W.listOf ws n₂), (D₁, W.listOf vs n₁)]) (by assumption) (by assumption)
        ⟨⟨b.texts, b.heights, b.text ++ t, b.height⟩, _, _, _, _, _, _, ?_, rfl, rfl, rfl, rfl, rfl, hvs, hws, ?_, ?_, hb3', ?_, ?_⟩ rfl (fun q hq => two hq) (fun q hq => .tail _ (.tail _ hq)) (.refl _ _) rfl
      · rw [← hfin, List.foldl_cons]; simp [bgStep, hs0]
      · dsimp only; omega
      · dsimp only; omega
      · dsimp only; omega
      · dsimp only; rw [hsz]; omega
  case done =>
    intro m₁ nx s₃ hJ hgs₃ hos₃ F₃ N₃
    obtain ⟨b, t1, t2, vs, ws, n₁, n₂, hfin, h1, h2, h3, h4, rfl, hvs, hws, hb1, hb2, hb3, hb4, hb5⟩ := hJ
    have F₄ := fr_put (Str.ofString "texts") (fr_put (Str.ofString "heights") (fr_put (Str.ofString "text") (fr_put (Str.ofString "height") F₃ h4) h3) h2) h1
    clear F₃ F₁ N₁
    have hvl : vs.size ≤ 1000 := by
      have h1 := StrsAre.length hvs
      rw [Array.length_toList] at h1
      simp only [List.length_nil] at hb1
      omega
    dsimp only
    k_steps
    rename_i TT _ F₅ N₅ _
    rw [← hq]
    have hf : begins rows = b := hfin.symm
    refine hQ TT D₁ D₂ _ _ _ _ _ ⟨F₅.keep, hgs₃, hos₃⟩ ⟨_, (N₅ _ (.head _)).1, rfl, _, rfl⟩ (N₅ _ (.head _)).2.2 (N₅ _ (.tail _ (.tail _ (.head _)))).2.2 (N₅ _ (.tail _ (.head _))).2.2 (N₅ _ (.tail _ (.tail _ (.head _)))).1 (N₅ _ (.tail _ (.head _))).1 ?_ ?_
    · rw [hf]; exact strs_push hvs
    · rw [hf]; exact hws
end
end Mine
end

section
open PySem PySem.W PyProof.Rows PySem.Calls PySem.Spec
set_option maxRecDepth 100000
set_option maxHeartbeats 4000000
set_option linter.unusedVariables false
namespace Mine

/-- the law's exception on its way: what stood in B stands; the frames are there; its text lies at t; it has no context -/
structure Fly (B : Heap) (l : List Env) (e t : Addr) (fl : Value) (h : Heap) : Prop where
  stays : B.StaysIn h
  newE : B.get? e = none
  frames : h.FunFrames B l
  exc : ∃ oe vs T oT ts, h.get? e = some oe ∧ oe.cls = .ref 24 ∧ oe.data = .fields vs ∧ vs[0]? = some (.ref t) ∧ vs[1]? = some (.ref T) ∧ vs[2]? = some .none ∧ B.get? T = none ∧ T ≠ e ∧ h.get? T = some oT ∧ oT.data = .fields ts ∧ ts[3]? = some fl

theorem Fly.drop {B : Heap} {env : Env} {l : List Env} {e t : Addr} {fl : Value} {h : Heap} (F : Fly B (env :: l) e t fl h) : Fly B l e t fl h := ⟨F.stays, F.newE, F.frames.2.2, F.exc⟩

section
variable {M : Model} {A : Around} {E : Value → Shared → Prop} {s : Shared} {B : Heap} {env : Env} {outer : List Env} {L e t : Addr} {Q : Unit → Shared → Prop}

theorem off_fields {h : Heap} {b a : Addr} {o oa : Obj} {vs : Array Value} (hb : h.get? b = some o) (hn : ∀ vs, o.data ≠ .fields vs) (ha : h.get? a = some oa) (hd : oa.data = .fields vs) : b ≠ a := fun z => by
  rw [z, ha] at hb
  cases hb
  exact hn vs hd

theorem fly_flight {fl : Value} {l : List Env} (F : Fly B l e t fl s.heap) (fr : Option Addr)
    (h : ∀ h', Fly B l e t (fr.elim .none fun f => rawInt f) h' → s.heap.UpToSlots h' → Q () { s with heap := h' }) : wpAny M A (setFlight (.ref e) fr) Q E s := by
  obtain ⟨f1, f2, f3, oe, vs, T, oT, ts, he, hc, hd, h0, h1, h2, hT0, hTe, hT, hdT, h3⟩ := F
  unfold setFlight
  refine wpAny_bind (wpAny_field he hd h1 ?_)
  rw [if_pos (show (Value.ref T != Value.none) = true from by simp)]
  have hsz := (Array.getElem?_eq_some_iff.mp h3).1
  refine wpAny_setField hT hdT hsz (h _ ?_ ?_)
  · have other : ∀ b, b ≠ T → (s.heap.update T (Obj.mapFields (·.setIfInBounds 3 (fr.elim .none fun f => rawInt f)))).get? b = s.heap.get? b := fun b hb => Heap.get?_update_other _ _ (Ne.symm hb)
    refine ⟨fun b o hb => (other b fun z => by rw [z, hT0] at hb; cases hb).trans (f1 b o hb), f2, f3.of_keeps fun b o hb hn => ⟨o, (other b (off_fields hb hn hT hdT)).trans hb, rfl⟩, ?_⟩
    exact ⟨oe, vs, T, _, _, (other e (Ne.symm hTe)).trans he, hc, hd, h0, h1, h2, hT0, hTe, Heap.get?_update_self _ hT (Obj.isFreed_of_fields (Obj.data_mapFields hdT _)), Obj.data_mapFields hdT _, by simp [hsz]⟩
  · intro b o hb hn
    exact ⟨o.slots, (Heap.get?_update_other _ _ (Ne.symm (off_fields hb hn hT hdT))).trans hb⟩

theorem fly_entry {oe : Obj} {vs : Array Value} {head : Value} {hadNext : Bool} (hfr : A.frames = some (env :: outer)) (hl : s.heap.FunFrames B (env :: outer)) (hf : env.frame = some L)
    (he : s.heap.get? e = some oe) (hc : oe.cls = .ref 24) (hkb : B.StaysIn s.heap) (hen : B.get? e = none) (hd : oe.data = .fields vs) (h0 : vs[0]? = some (.ref t)) (h2 : vs[2]? = some .none)
    (h : ∀ h', Fly B (env :: outer) e t (rawInt L) h' → s.heap.UpToSlots h' → Q () { s with heap := h' }) :
    wpAny M A (do let a ← frameOf env; let pl ← entryPlaceOf L hadNext; let b ← EntryCells.newEntry head a .none (rawInt L) .none pl; setField (.ref e) 1 b) Q E s := by
  have h2s := (Array.getElem?_eq_some_iff.mp h2).1
  have h1s : 1 < vs.size := by omega
  refine wpAny_bind (wpAny_frameOf_fun hfr hl hf fun h₁ hs₁ => ?_)
  refine wpAny_bind (wpAny_entryPlaceOf fun pl hpl => ?_)
  unfold EntryCells.newEntry newFields
  refine wpAny_bind (wpAny_newObj_type ?_ (hpl.sizeOk5 _ _ _ _ _))
  have hene : e ∉ (env :: outer).filterMap (·.frame) := fun hm => by
    obtain ⟨_, o, ho, hn⟩ := hl.mem hm
    exact off_fields ho hn he hd rfl
  have he₁ : h₁.get? e = some oe := (hs₁.2.1 e hene).trans he
  have kb₁ : B.StaysIn h₁ := fun b o hb => (hs₁.2.1 b fun hm => by rw [(hl.mem hm).1] at hb; cases hb).trans (hkb b o hb)
  generalize hob : ({ cls := .type "traceback", dict := none, data := .fields ([head, .ref L, .none, rawInt L, .none] ++ (if pl.isEmpty then List.replicate 6 Value.none else pl)).toArray } : Obj) = ob
  have hobd : ob.data = .fields ([head, .ref L, .none, rawInt L, .none] ++ (if pl.isEmpty then List.replicate 6 Value.none else pl)).toArray := by rw [← hob]
  have hfree : ob.isFreed = false := by rw [← hob]; rfl
  have he₂ := Heap.get?_push_of_some (h := h₁) ob he₁
  refine wpAny_setField he₂ hd (by omega) (h _ ?_ ?_)
  · have hTe : h₁.objs.size ≠ e := Nat.ne_of_gt (Heap.lt_size he₁)
    have other : ∀ b, b ≠ e → ((h₁.push ob).update e (Obj.mapFields (·.setIfInBounds 1 (Value.ref h₁.objs.size)))).get? b = (h₁.push ob).get? b := fun b hb => Heap.get?_update_other _ _ (Ne.symm hb)
    refine ⟨fun b o hb => (other b fun z => by rw [z, hen] at hb; cases hb).trans (Heap.get?_push_of_some _ (kb₁ b o hb)), hen, hl.of_keeps fun b o hb hn => ?_, ?_⟩
    · obtain ⟨sl, hsl⟩ := hs₁.2.2 b o hb
      exact ⟨_, (other b (off_fields hb hn he hd)).trans (Heap.get?_push_of_some _ hsl), rfl⟩
    · exact ⟨_, _, h₁.objs.size, ob, _, Heap.get?_update_self _ he₂ (Obj.isFreed_of_fields (Obj.data_mapFields hd _)), (Obj.cls_mapFields ..).trans hc, Obj.data_mapFields hd _,
        by rw [Array.getElem?_setIfInBounds_ne (by decide)]; exact h0, by simp [h1s], by rw [Array.getElem?_setIfInBounds_ne (by decide)]; exact h2, kb₁.fresh, hTe, (other _ hTe).trans (Heap.get?_push_size _ hfree), hobd, by simp⟩
  · intro b o hb hn
    obtain ⟨sl, hsl⟩ := hs₁.2.2 b o hb
    exact ⟨sl, (Heap.get?_update_other _ _ (Ne.symm (off_fields hb hn he hd))).trans (Heap.get?_push_of_some _ hsl)⟩

/-- it is raised in a frame's body and leaves it -/
theorem fly_first {h₀ : Heap} {args : List Value} (hfr : A.frames = some (env :: outer)) (hf : env.frame = some L) (hkb : B.StaysIn h₀) (hl : h₀.FunFrames B (env :: outer)) (hx : Heap.MadeExcOf h₀ s.heap e (.ref 24) args)
    (h : ∀ h' t, Fly B outer e t .none h' → h'.TupAt t args → B.get? t = none → s.heap.UpToSlots h' → Q () { s with heap := h' }) : wpAny M A (leaving env (.ref e)) Q E s := by
  obtain ⟨t, he, htn, ht⟩ := hx.there
  have fresh : ∀ b, h₀.get? b = none → B.get? b = none := fun b hb => by
    cases hq : B.get? b with
    | none => rfl
    | some o' => have := hkb b o' hq; rw [hb] at this; cases this
  unfold leaving noteFrame
  simp only [hf]
  refine wpAny_bind (wpAny_bind (wpAny_field he rfl (x := .none) rfl ?_))
  rw [if_neg (by decide)]
  refine fly_entry (t := t) hfr (hl.of_keeps fun b o hb _ => ⟨o, hx.keeps b o hb, rfl⟩) hf he rfl (fun b o hb => hx.keeps b o (hkb b o hb)) (fresh e hx.new) rfl rfl rfl fun h₁ F₁ u₁ => ?_
  refine fly_flight (s := { s with heap := h₁ }) F₁ none fun h₂ F₂ u₂ => ?_
  exact h h₂ t F₂.drop (Heap.TupAt.of_slots ⟨_, _, ht, rfl, rfl⟩ (u₁.trans u₂)) (fresh t htn) (u₁.trans u₂)

/-- it is looked at in a further frame -/
theorem fly_on (hfr : A.frames = some (env :: outer)) (hf : env.frame = some L) (F : Fly B (env :: outer) e t .none s.heap)
    (h : ∀ h', Fly B (env :: outer) e t (rawInt L) h' → s.heap.UpToSlots h' → Q () { s with heap := h' }) : wpAny M A (noteFrame (.ref e) env) Q E s := by
  obtain ⟨f1, f2, f3, oe, vs, T, oT, ts, he, hc, hd, h0, h1, h2, hT0, hTe, hT, hdT, h3⟩ := F
  unfold noteFrame
  simp only [hf]
  refine wpAny_bind (wpAny_field he hd h1 ?_)
  rw [if_pos (show (Value.ref T != Value.none) = true from by simp)]
  refine wpAny_bind (wpAny_field hT hdT h3 ?_)
  rw [if_neg (show ¬ ((Value.none == rawInt L) = true) from by simp [rawInt])]
  have hsz := (Array.getElem?_eq_some_iff.mp h3).1
  refine wpAny_bind (wpAny_setField hT hdT hsz ?_)
  have other : ∀ b, b ≠ T → (s.heap.update T (Obj.mapFields (·.setIfInBounds 3 Value.none))).get? b = s.heap.get? b := fun b hb => Heap.get?_update_other _ _ (Ne.symm hb)
  have up : s.heap.UpToSlots (s.heap.update T (Obj.mapFields (·.setIfInBounds 3 Value.none))) := fun b o hb hn => ⟨o.slots, (other b (off_fields hb hn hT hdT)).trans hb⟩
  refine fly_entry (s := { s with heap := s.heap.update T (Obj.mapFields (·.setIfInBounds 3 Value.none)) }) (t := t) hfr (f3.of_keeps fun b o hb hn => ⟨o, (other b (off_fields hb hn hT hdT)).trans hb, rfl⟩) hf ((other e (Ne.symm hTe)).trans he) hc
    (fun b o hb => (other b fun z => by rw [z, hT0] at hb; cases hb).trans (f1 b o hb)) f2 hd h0 h2 fun h₁ F₁ u₁ => h h₁ F₁ (up.trans u₁)
end
end Mine
end

section
open PySem PySem.W PyProof.Rows PySem.Calls PySem.Spec
set_option maxRecDepth 100000
set_option maxHeartbeats 4000000
set_option linter.unusedVariables false
namespace Mine
/-- a list's iterator that has come to its end -/
def IterDone (h : Heap) (I : Addr) : Prop := ∃ o v, h.get? I = some o ∧ o.cls = .type "list_iterator" ∧ o.data = .fields #[.none, v]

/-- what is handled, if anything, has no context -/
def HandOk (A : Around) (es : List Addr) (h : Heap) : Prop :=
  (A.handled = none ∧ es = []) ∨ ∃ e oe vs, A.handled = some (.ref e) ∧ es = [e] ∧ h.get? e = some oe ∧ oe.data = .fields vs ∧ vs[2]? = some .none

theorem plain_unchain : plainId "proto.unchain" = true := by decide +kernel
theorem entry_unchain : entryFor table "proto.unchain" = some Builtin.«proto.unchain» := entryFor_of_fast (by kernel_rfl)

section
variable {w : World} {A : Around} {E : Value → Shared → Prop} {s : Shared} {es : List Addr}

theorem HandOk.keeps {h h' : Heap} (x : HandOk A es h) (hk : ∀ b ∈ es, ∀ o, h.get? b = some o → h'.get? b = some o) : HandOk A es h' := by
  rcases x with x | ⟨e, oe, vs, h1, rfl, h3, h4⟩
  · exact .inl x
  · exact .inr ⟨e, oe, vs, h1, rfl, hk e (by simp) _ h3, h4⟩

theorem stop_raise {α : Type} {Q : α → Shared → Prop} (hh : HandOk A es s.heap)
    (hE : ∀ x h', (∀ b o, s.heap.get? b = some o → h'.get? b = some o) → (∃ o, h'.get? x = some o ∧ o.cls = .type "StopIteration") → E (.ref x) { s with heap := h' }) :
    wpAny (model prog w) A (newExc (.type "StopIteration") [] >>= fun e => (raiseNew e : Sem α)) Q E s := by
  refine wpAny_bind ?_
  simp only [newExc, newTuple]
  refine wpAny_bind (wpAny_newObj_type ?_ (by size_fits))
  refine wpAny_bind (m := firstArgMember _ _) (wpAny_of_eq (a := Value.none) (by first | rfl | (simp only [firstArgMember]; rfl)) ?_)
  refine wpAny_newObj_type ?_ (by size_fits)
  simp only [raiseNew]
  refine wpAny_bind (wpAny_handled ?_)
  rcases hh with ⟨hn, _⟩ | ⟨e, oe, vs, hn, _, he, hd, h2⟩
  · rw [hn]
    exact wpAny_bind (wpAny_pure (wpAny_throw (hE _ _ (fun b o e => Heap.get?_push_of_some _ (Heap.get?_push_of_some _ e)) ⟨_, Heap.get?_push_size _ rfl, rfl⟩)))
  · rw [hn]
    dsimp only
    generalize hN : (s.heap.push { cls := Value.type "tuple", data := Data.seq #[] }).objs.size = N
    have hob := Heap.get?_push_size (o := { cls := Value.type "StopIteration", data := Data.fields (#[Value.ref s.heap.objs.size, Value.none, Value.none, Value.none, Value.bool false, Value.none] ++ ownMembersOf (Value.type "StopIteration") []) }) (s.heap.push { cls := Value.type "tuple", data := Data.seq #[] }) rfl
    rw [hN] at hob
    have he₂ := Heap.get?_push_of_some { cls := Value.type "StopIteration", data := Data.fields (#[Value.ref s.heap.objs.size, Value.none, Value.none, Value.none, Value.bool false, Value.none] ++ ownMembersOf (Value.type "StopIteration") []) } (Heap.get?_push_of_some { cls := Value.type "tuple", data := Data.seq #[] } he)
    have hne : e ≠ N := by
      have h1 := Heap.lt_size (Heap.get?_push_of_some { cls := Value.type "tuple", data := Data.seq #[] } he)
      rw [hN] at h1
      exact Nat.ne_of_lt h1
    have hk : ∀ b o, s.heap.get? b = some o → b ≠ N ∧ ((s.heap.push { cls := Value.type "tuple", data := Data.seq #[] }).push { cls := Value.type "StopIteration", data := Data.fields (#[Value.ref s.heap.objs.size, Value.none, Value.none, Value.none, Value.bool false, Value.none] ++ ownMembersOf (Value.type "StopIteration") []) }).get? b = some o := fun b o e' => by
      refine ⟨?_, Heap.get?_push_of_some _ (Heap.get?_push_of_some _ e')⟩
      have h1 := Heap.lt_size (Heap.get?_push_of_some { cls := Value.type "tuple", data := Data.seq #[] } e')
      rw [hN] at h1
      exact Nat.ne_of_lt h1
    generalize ((s.heap.push { cls := Value.type "tuple", data := Data.seq #[] }).push { cls := Value.type "StopIteration", data := Data.fields (#[Value.ref s.heap.objs.size, Value.none, Value.none, Value.none, Value.bool false, Value.none] ++ ownMembersOf (Value.type "StopIteration") []) }) = h₁ at hob he₂ hk ⊢
    rw [if_pos (show (Value.ref e != Value.ref N) = true from by simp [hne])]
    refine wpAny_bind (wpAny_holding (wpAny_runValue (codeAny_builtin entry_unchain ?_)))
    rw [Around.under_plainId plain_unchain _]
    show wpAny _ _ (field (Value.ref e) 2 >>= _) _ _ _
    refine wpAny_bind (wpAny_field (s := { s with heap := h₁ }) he₂ hd h2 ?_)
    rw [if_pos (show (Value.none == Value.none) = true from rfl)]
    refine wpAny_pure ?_
    refine wpAny_bind (wpAny_setField (s := { s with heap := h₁ }) hob rfl (by simp; omega) (wpAny_throw (hE N _ (fun b o e' => ?_) ⟨_, Heap.get?_update_self _ hob rfl, rfl⟩)))
    exact (Heap.get?_update_other _ _ (Ne.symm (hk b o e').1)).trans (hk b o e').2

/-- a list's iterator whose builtin refuses has no next -/
theorem li_stop {it : Addr} {Q : Option Value → Shared → Prop} (ht : s.TypeIs (.ref it) "list_iterator")
    (hb : wpAny (model prog w) A.in1 (Builtin.«list_iterator.__next__» ⟨[.ref it], []⟩) (fun _ _ => False) (fun e s' => ∃ x o, e = .ref x ∧ s'.heap.get? x = some o ∧ o.cls = .type "StopIteration" ∧ Q none s') s) :
    wpAny (model prog w) A (pyNext (.ref it)) Q E s := by
  have h1 := wpAny_call_entry (Q := fun _ _ => False) slot_listiter_next ht entry_listiter_next (wpAny_mono hb (fun _ _ z => z.elim) fun _ _ z => z) (args_listiter_next _)
  have h2 := wpAny_callSpecial?_slot (name := Str.ofString "__next__") (args := []) (kw := []) ht slot_listiter_next (Q := fun _ _ => False) h1
  unfold pyNext
  refine wpAny_bind (wpAny_attempt (wpAny_mono h2 (fun _ _ z => z.elim) fun e s' z => ?_))
  obtain ⟨x, o, rfl, ho, hc, hq⟩ := z
  exact wpAny_bind (wpAny_isInstance (T := "StopIteration") (b := true) ⟨o, ho, hc⟩ isSubtype_stop (wpAny_pure hq))

theorem li_end {it l : Addr} {i : Nat} {items : Array Value} {Q : Option Value → Shared → Prop} (hh : HandOk A es s.heap) (hes : it ∉ es) (hit : s.heap.IsListIter it l i) (hl : s.heap.IsList l items) (hx : items[i]? = none)
    (hQ : ∀ h', Heap.ExtBut it s.heap h' → IterDone h' it → Q none { s with heap := h' }) : wpAny (model prog w) A (pyNext (.ref it)) Q E s := by
  refine li_stop hit.typeIs ?_
  obtain ⟨o, ho, hc, hd⟩ := hit
  obtain ⟨ol, hol, _, nl, hdl⟩ := hl
  have oth : ∀ b o, b ≠ it → s.heap.get? b = some o → (s.heap.update it (Obj.mapFields (·.setIfInBounds 0 Value.none))).get? b = some o := fun b o hb e => (Heap.get?_update_other _ _ (Ne.symm hb)).trans e
  have own : (s.heap.update it (Obj.mapFields (·.setIfInBounds 0 Value.none))).get? it = some _ := Heap.get?_update_self _ ho (Obj.isFreed_of_fields (Obj.data_mapFields hd _))
  show wpAny _ _ (field (.ref it) 0 >>= fun _ => _) _ _ s
  refine wpAny_bind (wpAny_field ho hd (x := .ref l) rfl ?_)
  have no : ¬ ((Value.ref l == Value.none) = true) := fun z => nomatch z
  dsimp only
  rw [if_neg no]
  refine wpAny_bind (wpAny_field ho hd (x := .int i 0) rfl (wpAny_bind (wpAny_seqItems hol hdl ?_)))
  simp only [Int.toNat_natCast, hx]
  refine wpAny_bind (wpAny_rule (wpAny_bind (wpAny_setField ho hd (by simp) ?_)))
  refine stop_raise (A := A.in1) (es := es) (s := { s with heap := s.heap.update it (Obj.mapFields (·.setIfInBounds 0 Value.none)) }) (hh.keeps fun b hb o e => oth b o (fun z => hes (z ▸ hb)) e) fun x h' hk hx' => ?_
  obtain ⟨o', ho', hc'⟩ := hx'
  exact ⟨x, o', rfl, ho', hc', hQ h' (fun b o hb e => hk b o (oth b o hb e)) ⟨_, .int i 0, hk _ _ own, (Obj.cls_mapFields ..).trans hc, by rw [Obj.data_mapFields hd]; simp⟩⟩

theorem li_over {it : Addr} {Q : Option Value → Shared → Prop} (hh : HandOk A es s.heap) (hit : IterDone s.heap it)
    (hQ : ∀ h', (∀ b o, s.heap.get? b = some o → h'.get? b = some o) → Q none { s with heap := h' }) : wpAny (model prog w) A (pyNext (.ref it)) Q E s := by
  obtain ⟨o, v, ho, hc, hd⟩ := hit
  refine li_stop ⟨o, ho, hc⟩ ?_
  show wpAny _ _ (field (.ref it) 0 >>= fun _ => _) _ _ s
  refine wpAny_bind (wpAny_field ho hd (x := .none) rfl ?_)
  dsimp only
  rw [if_pos (show (Value.none == Value.none) = true from rfl)]
  refine wpAny_bind (wpAny_rule (wpAny_bind ?_))
  refine stop_raise (A := A.in1) (es := es) hh fun x h' hk hx' => ?_
  obtain ⟨o', ho', hc'⟩ := hx'
  exact ⟨x, o', rfl, ho', hc', hQ h' hk⟩
end
end Mine
end

section
open PySem PySem.W PyProof.Rows PySem.Calls PySem.Spec
open PySem.W.X (SegX SegX.mono wake_any)
set_option maxRecDepth 100000
set_option maxHeartbeats 4000000
set_option linter.unusedVariables false
namespace Mine
theorem fillF1 : PySem.Challenge.rw_nb0062_01.foot = 10 ∨ (∀ P, hd.heap_39 P = []) := by
  w_top off
  k_fill
  left; rfl
noncomputable def failFor (w : World) : Stmt := (bodyAt w 35).getD 0 default

section
variable {w : World} {mean : ExcName → Option Value} {mg mb : Str → Option Value} {base : Heap} {dp un : Nat} {gd : Option (List Code)} {outer : List Env}

theorem fail_body_neg (X : (hd.heap_39 w.params).In base) (T : Top hd.view_39 (looseW hd.view_39 [Str.ofString "_fail_neg"]) mean mg mb base) {C : Addr} {s : Shared} {P : End → Shared → Prop} {c : Code} {fs : List Frame} {K : Flow → Sem Fin} {H : Value → Sem Fin}
    {m : Str → Option Value} {own : List (Addr × Obj)} {x : Int} {tx tm : Tok} {msg : Str}
    (hover : Around.over (Ar dp un gd outer) c fs = Around.deeper (Ar dp un gd outer) (envAt w 35 C))
    (F : Fr base C s.heap (fun y => if y = Str.ofString "x" then some (.int x tx) else if y = Str.ofString "errmsg" then some (.str msg tm) else m y)) (N : News base C s.heap own) (hx : x < 0)
    (hH : ∀ h₂ tk₂ e, Heap.MadeExcOf s.heap h₂ e (.ref 24) [.str msg tm] → SegX (model prog w) (Ar dp un gd outer) c (H (.ref e)) fs { s with heap := h₂, toks := tk₂ } P) :
    SegX (model prog w) (Ar dp un gd outer) c ((execs (forB (failFor w)) (envAt w 35 C)).wrap K H id id) fs s P := by
  refine' with_lookup (a := 35) (K := hd.heap_39 w.params) ?h ?_
  case h => k_is
  intro e
  unfold failFor bodyAt envAt fdAt at *
  rw [e] at hover ⊢
  clear e
  dsimp only [List.getD_cons_succ, List.getD_cons_zero, forB] at hover ⊢
  refine sx_execs_cons (sx_If ?_)
  rw [hover]
  k_steps
  refine sx_execs_cons (sx_wrap ?_)
  rw [hover]
  k_steps
  exact hH _ _ _ (by assumption)

theorem fail_body_pos (X : (hd.heap_39 w.params).In base) {C : Addr} {s : Shared} {P : End → Shared → Prop} {c : Code} {fs : List Frame} {K : Flow → Sem Fin} {H : Value → Sem Fin}
    {m : Str → Option Value} {own : List (Addr × Obj)} {x : Int} {tx tm : Tok} {msg : Str}
    (hover : Around.over (Ar dp un gd outer) c fs = Around.deeper (Ar dp un gd outer) (envAt w 35 C)) (hfs : splitAtGen fs = none) (hfg : fs.any Frame.guarded = false)
    (F : Fr base C s.heap (fun y => if y = Str.ofString "x" then some (.int x tx) else if y = Str.ofString "errmsg" then some (.str msg tm) else m y)) (N : News base C s.heap own) (hx : ¬ x < 0)
    (hP : ∀ h₂ tk₂ l k p, Fr base C h₂ (fun y => if y = Str.ofString "x" then some (.int x tx) else if y = Str.ofString "errmsg" then some (.str msg tm) else m y) → News base C h₂ own → k (.send .none) = K .next →
      P (.susp (.int x tx) false l k c p fs) { s with heap := h₂, toks := tk₂ }) :
    SegX (model prog w) (Ar dp un gd outer) c ((execs (forB (failFor w)) (envAt w 35 C)).wrap K H id id) fs s P := by
  refine' with_lookup (a := 35) (K := hd.heap_39 w.params) ?h ?_
  case h => k_is
  intro e
  unfold failFor bodyAt envAt fdAt at *
  rw [e] at hover ⊢
  clear e
  dsimp only [List.getD_cons_succ, List.getD_cons_zero, forB] at hover ⊢
  refine sx_execs_cons (sx_If ?_)
  rw [hover]
  k_steps
  refine sx_execs_cons (sx_Expr_Yield hfs rfl hfg ?_)
  rw [hover]
  k_steps
  all_goals (
    rename_i hk
    exact hP _ _ _ _ _ (by assumption) (by assumption) hk)
end

/-- what a woken _fail_neg does: hands out the next value, refuses it, or ends -/
def GoodF (M : Model) (A : Around) (base : Heap) (outer : List Env) (msg : Str) (tm : Tok) (C I lv : Addr) : Nat → List Int → Shared → End → Shared → Prop
  | _, [], s₀, en, s' => en = .ret (.ok (.ret .none)) ∧ Since [C, I] s₀ s' ∧ IterDone s'.heap I
  | i, x :: r, s₀, en, s' =>
    (x < 0 → ∃ e t B h' tk, en = .ret (.error (.ref e)) ∧ s' = { s₀ with heap := h', toks := tk } ∧ Fly B outer e t .none h' ∧ h'.TupAt t [.str msg tm] ∧ B.get? t = none ∧
      (∀ b o, s₀.heap.get? b = some o → b ∉ C :: I :: outer.filterMap (·.frame) → B.get? b = some o) ∧ B.IsListIter I lv (i + 1) ∧
      (∀ b ∈ outer.filterMap (·.frame), ∀ o, s₀.heap.get? b = some o → ∃ sl, h'.get? b = some { o with slots := sl })) ∧
    (¬ x < 0 → ∃ tk l k c pp fs, en = .susp (.int x tk) false l k c pp fs ∧ Since [C, I] s₀ s' ∧ s'.heap.IsListIter I lv (i + 1) ∧
      ∀ s'' : Shared, base.StaysIn s''.heap → s''.heap.FunFrames base outer → (∀ b ∈ [C, I, lv], ∀ o, s'.heap.get? b = some o → s''.heap.get? b = some o) →
        SegX M A c (k (.send .none)) fs s'' (GoodF M A base outer msg tm C I lv (i + 1) r s''))

theorem kind35 (w : World) (C : Addr) : (envAt w 35 C).kindOf (Str.ofString "x") = some .local ∧ (envAt w 35 C).scope.kind = .function ∧ (envAt w 35 C).frame = some C := by
  refine' with_lookup (a := 35) (K := hd.heap_39 w.params) ?h ?_
  case h => k_is
  intro e
  unfold envAt fdAt
  rw [e]
  exact ⟨rfl, rfl, rfl⟩
theorem body35 (w : World) : ∃ p1 p4 pv, bodyAt w 35 = [failFor w] ∧ failFor w = .For (.Name (Str.ofString "x") p1) (.Name (Str.ofString "values") pv) (forB (failFor w)) [] p4 := by
  refine' with_lookup (a := 35) (K := hd.heap_39 w.params) ?h ?_
  case h => k_is
  intro e
  unfold failFor bodyAt fdAt
  rw [e]
  exact ⟨_, _, _, rfl, rfl⟩

section
variable {w : World} {mean : ExcName → Option Value} {mg mb : Str → Option Value} {base : Heap} {dp un : Nat} {gd : Option (List Code)} {outer : List Env}
  {C I lv : Addr} {b : List Stmt} {p1 : Pos} {l : List Value} {pf : Pos} {msg : Str} {tm : Tok}

noncomputable abbrev failL (w : World) (C I : Addr) (p1 : Pos) : Code := .forLoop (.Name (Str.ofString "x") p1) (.ref I) (forB (failFor w)) [] (envAt w 35 C)
noncomputable abbrev failK (w : World) (C : Addr) : Flow → Sem Fin := fun f => match f with | .next => (execs [] (envAt w 35 C)).wrap funK (funH (envAt w 35 C)) id id | f => funK f
noncomputable abbrev failFs (w : World) (C : Addr) (b : List Stmt) (l : List Value) (pf : Pos) : List Frame := [.ret (backK (envAt w 35 C) (failK w C) (funH (envAt w 35 C)) id id) none (id false) l (.func b (envAt w 35 C)) pf []]

/-- an exception leaves a loop's turn, the loop and the def -/
theorem raise_out {A : Around} {env : Env} {c : Code} {e : Value} {s : Shared} {P : End → Shared → Prop} {K : Flow → Sem Fin} {M : Model}
    (hover : Around.over A c [.ret (backK env K (funH env) id id) none (id false) l (.func b env) pf []] = A.deeper env)
    (h : wpAny M (A.deeper env) (leaving env e) (fun _ s'' => P (.ret (.error e)) s'') (fun _ _ => False) s) :
    SegX M A c (turnH env e) [.ret (backK env K (funH env) id id) none (id false) l (.func b env) pf []] s P := by
  unfold turnH
  rw [Sem.bind_eq_wrap]
  refine sx_wrap ?_
  rw [hover]
  have hp := wpAny_leaving_again (SameStack.refl _) (what := "frame.own-activation:exception-without-traceback") (A'' := A.deeper env) (E₂ := fun _ _ => False) (E₃ := fun _ _ => False) h
  refine wpAny_bind (wpAny_mono hp (fun _ s₁ h₁ => wpAny_theTreesLotGoes ?_) fun _ _ h₁ => h₁.elim)
  · refine sx_pop (.error e) ?_
    unfold backK
    refine sx_wrap (wpAny_onRaise (wpAny_throw ?_))
    rw [over_func]
    refine wpAny_mono h₁ (fun _ s₂ h₂ => ?_) fun _ _ h₂ => h₂.elim
    · unfold funH
      rw [Sem.bind_eq_wrap]
      refine sx_wrap ?_
      rw [over_func]
      exact wpAny_mono h₂ (fun _ s₃ h₃ => sx_end (.error e) h₃) fun _ _ h => h.elim

theorem fail_map {m : Str → Option Value} {v1 : Value} {v2 : Option Value} (h : m (Str.ofString "errmsg") = v2) :
    (fun y => if y = Str.ofString "x" then some v1 else m y) = (fun y => if y = Str.ofString "x" then some v1 else if y = Str.ofString "errmsg" then v2 else m y) := by
  funext y
  by_cases h1 : y = Str.ofString "x"
  · simp [h1]
  · by_cases h3 : y = Str.ofString "errmsg"
    · subst h3; simp [h1, h]
    · simp [h1, h3]

theorem fail_loop (X : (hd.heap_39 w.params).In base) (T : Top hd.view_39 (looseW hd.view_39 [Str.ofString "_fail_neg"]) mean mg mb base) (hab : base.objs.size ≤ C) (hCI : C ≠ I) (hCl : C ≠ lv) (hIl : I ≠ lv)
    (hbI : base.get? I = none) (hCf : C ∉ outer.filterMap (·.frame)) {items : Array Value} :
    ∀ (cs : List Int) (i : Nat) (s₀ s : Shared), IntsAre (items.toList.drop i) cs → base.StaysIn s.heap → s.heap.FunFrames base outer → s.heap.IsListIter I lv i → s.heap.IsList lv items →
    (∃ m, s.heap.Ns C m ∧ m (Str.ofString "errmsg") = some (.str msg tm)) → Since [C, I] s₀ s →
    SegX (model prog w) (Ar dp un gd outer) (failL w C I p1) ((model prog w).den (failL w C I p1)) (failFs w C b l pf) s
      (GoodF (model prog w) (Ar dp un gd outer) base outer msg tm C I lv i cs s₀) := by
  have hover : Around.over (Ar dp un gd outer) (failL w C I p1) (failFs w C b l pf) = (Ar dp un gd outer).deeper (envAt w 35 C) := over_loop ..
  have hL : (envAt w 35 C).locals = C := rfl
  obtain ⟨hkx, hkf, hff⟩ := kind35 w C
  have hfn : ((envAt w 35 C).scope.kind == .class || ((envAt w 35 C).scope.kind == .module && (envAt w 35 C).locals != (envAt w 35 C).globals)) = false := by rw [hkf]; rfl
  have hbC : ∀ o, base.get? C ≠ some o := fun o e => absurd (Heap.lt_size e) (Nat.not_lt.mpr hab)
  intro cs
  induction cs with
  | nil =>
    intro i s₀ s hcs st hfr hit hl hns hs
    have hx : items[i]? = none := by
      have := List.drop_eq_nil_iff.mp (IntsAre.nil_inv hcs)
      simpa using this
    refine sx_forLoop rfl ?_
    rw [hover]
    refine li_end (es := []) (.inl ⟨rfl, rfl⟩) (fun z => nomatch z) hit hl hx fun h' hk hdone => ?_
    refine sx_block_nil rfl (sx_pop (.ok .next) ?_)
    show SegX _ _ _ (funK .next) [] _ _
    exact sx_end (.ok (.ret .none)) ⟨rfl, hs.step fun b' o hb e' => hk b' o (fun z => hb (by simp [z])) e', hdone⟩
  | cons x r ih =>
    intro i s₀ s hcs st hfr hit hl hns hs
    obtain ⟨tx, vs', hvs, hr⟩ := IntsAre.cons_inv hcs
    have hx : items[i]? = some (.int x tx) := by
      have h1 : (items.toList.drop i)[0]? = some (.int x tx) := by rw [hvs]; rfl
      simpa using h1
    have hr' : IntsAre (items.toList.drop (i + 1)) r := by
      rw [← List.drop_drop, hvs]; exact hr
    obtain ⟨m, hn, he⟩ := hns
    refine sx_forLoop rfl ?_
    rw [hover]
    refine wpAny_pyNext_list_item hit hl hx fun h₁ hit₁ hk₁ => ?_
    refine letGo_listiter (s' := { s with heap := h₁ }) hit₁ ?_
    have hn₁ : h₁.Ns C m := hn.at fun o e' => hk₁.extBut C o hCI e'
    refine wpAny_assign_Name (wpAny_storeName_local (env := envAt w 35 C) hkx hn₁ (fun h₂ hn₂ hs₂ => ?_) hfn)
    have hk₂ : ∀ b' o, b' ∉ [C, I] → s.heap.get? b' = some o → h₂.get? b' = some o := fun b' o hb e' => hs₂.extBut b' o (fun z => hb (by simp [hL ▸ z])) (hk₁.extBut b' o (fun z => hb (by simp [z])) e')
    have st₂ : base.StaysIn h₂ := fun b' o e' => hk₂ b' o (fun hm => by
      rcases List.mem_cons.mp hm with z | hm
      · exact hbC o (z ▸ e')
      · rw [List.mem_singleton.mp hm, hbI] at e'; cases e') (st b' o e')
    have hit₂ : h₂.IsListIter I lv (i + 1) := hit₁.at fun o e' => hs₂.extBut I o (Ne.symm hCI) e'
    have hl₂ : h₂.IsList lv items := hl.at fun o e' => hk₂ lv o (by simp [Ne.symm hCl, Ne.symm hIl]) e'
    have offI : ∀ b' ∈ outer.filterMap (·.frame), b' ∉ [C, I] := fun b' hb hm => by
      rcases List.mem_cons.mp hm with z | hm
      · exact hCf (z ▸ hb)
      · obtain ⟨_, o, ho, hnf⟩ := hfr.mem hb
        obtain ⟨oi, hoi, _, hdi⟩ := hit
        rw [List.mem_singleton.mp hm, hoi] at ho
        cases ho
        exact hnf _ hdi
    have keepF : ∀ {h : Heap}, (∀ b' ∈ outer.filterMap (·.frame), ∀ o, s.heap.get? b' = some o → h.get? b' = some o) → h.FunFrames base outer := by
      intro h hk
      clear offI ih hCf hs hover
      generalize outer = out at hfr hk
      induction out with
      | nil => trivial
      | cons env rest ih =>
        obtain ⟨hk1, ⟨L, o, hf, hnb, ho, hd⟩, hrr⟩ := hfr
        exact ⟨hk1, ⟨L, o, hf, hnb, hk L (by simp [List.filterMap_cons, hf]) o ho, hd⟩, ih hrr fun b' hb => hk b' (by rw [List.filterMap_cons, hf]; exact .tail _ hb)⟩
    have hfr₂ : h₂.FunFrames base outer := keepF fun b' hb o e' => hk₂ b' o (offI b' hb) e'
    have hn₂' : h₂.Ns C (fun y => if y = Str.ofString "x" then some (.int x tx) else m y) := hn₂
    rw [fail_map he] at hn₂'
    have hs₂' : Since [C, I] s₀ { s with heap := h₂, toks := s.toks + 1 } := hs.step hk₂
    by_cases hx0 : x < 0
    · refine fail_body_neg X T hover ⟨hn₂', st₂, hab⟩ (others_news (h := h₂)) hx0 fun h₃ tk₃ e hmade => ?_
      refine raise_out hover ?_
      have hl' : h₂.FunFrames base (envAt w 35 C :: outer) := by
        obtain ⟨o, es, ep, ho, hd, _⟩ := hn₂'
        exact ⟨by rw [hkf]; decide, ⟨C, o, hff, by
          cases q : base.get? C with
          | none => rfl
          | some o => exact absurd q (hbC o), ho, fun vs => by rw [hd]; exact fun z => nomatch z⟩, hfr₂⟩
      have hin : ∀ env ∈ (envAt w 35 C :: outer), ∀ a, env.frame = some a → a ∈ C :: outer.filterMap (·.frame) := fun env he' a ha => by
        rcases List.mem_cons.mp he' with rfl | he'
        · rw [hff] at ha; cases ha; exact .head _
        · exact .tail _ (List.mem_filterMap.mpr ⟨env, he', ha⟩)
      refine fly_first (B := hideAll h₂ (C :: outer.filterMap (·.frame))) (h₀ := h₂) rfl hff (fun b' o e' => of_hideAll _ e') (funFrames_hide hl' hin) hmade fun h₄ t F₄ ht hB u₄ => ?_
      refine ⟨fun _ => ⟨e, t, _, h₄, tk₃, rfl, ?_, F₄, ht, hB, ?_, ?_, ?_⟩, fun h => absurd hx0 h⟩
      · obtain ⟨h', tk', rfl, _⟩ := hs
        rfl
      · intro b' o e' hb
        obtain ⟨h', tk', e1, hk'⟩ := hs₂'
        obtain rfl : h₂ = h' := congrArg Shared.heap e1
        refine hideAll_get _ (hk' b' o (fun hm => hb ?_) e') fun hm => hb ?_
        · rcases List.mem_cons.mp hm with z | hm
          · exact z ▸ .head _
          · exact List.mem_singleton.mp hm ▸ .tail _ (.head _)
        · rcases List.mem_cons.mp hm with z | hm
          · exact z ▸ .head _
          · exact .tail _ (.tail _ hm)
      · exact hit₂.at fun o e' => hideAll_get _ e' fun hm => by
          rcases List.mem_cons.mp hm with z | hm
          · exact hCI z.symm
          · exact offI I hm (by simp)
      · intro b' hb o e'
        obtain ⟨h', tk', e1, hk'⟩ := hs₂'
        obtain rfl : h₂ = h' := congrArg Shared.heap e1
        have h5 := hk' b' o (offI b' hb) e'
        refine u₄ b' o (hmade.keeps b' o h5) ?_
        obtain ⟨_, o', ho', hnf⟩ := hfr₂.mem hb
        rw [h5] at ho'
        cases ho'
        exact hnf
    · refine fail_body_pos X hover rfl rfl ⟨hn₂', st₂, hab⟩ (others_news (h := h₂)) hx0 fun h₃ tk₃ l' k' p' F₃ N₃ hk' => ?_
      have hk₃ : ∀ b' o, b' ≠ C → h₂.get? b' = some o → h₃.get? b' = some o := fun b' o hb e' => kept_of st₂ F₃ N₃ (fun _ h => h) hb e'
      have hit₃ : h₃.IsListIter I lv (i + 1) := hit₂.at fun o e' => hk₃ I o (Ne.symm hCI) e'
      refine ⟨fun h => absurd h hx0, fun _ => ⟨tx, l', k', _, p', _, rfl, hs₂'.step fun b' o hb e' => hk₃ b' o (fun z => hb (by simp [z])) e', hit₃, fun s'' st'' hfr'' hal => ?_⟩⟩
      rw [hk']
      refine sx_again rfl (ih (i + 1) s'' s'' hr' st'' hfr'' (hit₃.at fun o e' => hal I (by simp) o e') (hl₂.at fun o e' => hal lv (by simp) o (hk₃ lv o (Ne.symm hCl) e')) ⟨_, F₃.ns.at fun o e' => hal C (by simp) o e', rfl⟩ (Since.refl _ _))
end
end Mine
end

section
open PySem PySem.W PyProof.Rows PySem.Calls PySem.Spec
open PySem.W.X (SegX SegX.mono wake_any)
set_option maxRecDepth 100000
set_option maxHeartbeats 4000000
set_option linter.unusedVariables false
namespace Mine
theorem fillF2 : PySem.Challenge.rw_nb0062_01.foot = 10 ∨ (∀ P, hd.heap_39 P = []) := by
  w_top off
  k_fill
  left; rfl
section
variable {w : World} {mean : ExcName → Option Value} {mg mb : Str → Option Value} {base : Heap} {dp un : Nat} {gd : Option (List Code)} {outer : List Env}
  {C I lv : Addr} {msg : Str} {tm : Tok}

theorem fail_iter (X : (hd.heap_39 w.params).In base) {s : Shared} {Q E : Value → Shared → Prop} {m : Str → Option Value} {own : List (Addr × Obj)} {ve : Option Value} 
    (F : Fr base C s.heap (fun y => if y = Str.ofString "errmsg" then ve else if y = Str.ofString "values" then some (.ref I) else m y)) (N : News base C s.heap own)
    (hQ : ∀ h' tk, Fr base C h' (fun y => if y = Str.ofString "errmsg" then ve else if y = Str.ofString "values" then some (.ref I) else m y) → News base C h' own → Q (.ref I) { s with heap := h', toks := tk }) :
    wpAny (model prog w) (Around.deeper (Ar dp un gd outer) (envAt w 35 C)) (eval (forI (failFor w)) (envAt w 35 C)) Q E s := by
  refine' with_lookup (a := 35) (K := hd.heap_39 w.params) ?h ?_
  case h => k_is
  intro e
  unfold failFor bodyAt envAt fdAt at *
  rw [e]
  clear e
  dsimp only
  show wpAny _ _ (eval (Expr.Name _ _) _) _ _ _
  k_steps
  exact hQ _ _ (by assumption) (by assumption)

theorem fail_start (G : Ground w mean mg mb base) {s : Shared} {m : Str → Option Value} {items : Array Value} {cs : List Int} {i : Nat} (st : base.StaysIn s.heap) (hab : base.objs.size ≤ C)
    (hCI : C ≠ I) (hCl : C ≠ lv) (hIl : I ≠ lv) (hbI : base.get? I = none) (hCf : C ∉ outer.filterMap (·.frame))
    (hn : s.heap.Ns C (fun y => if y = Str.ofString "errmsg" then some (.str msg tm) else if y = Str.ofString "values" then some (.ref I) else m y))
    (hcs : IntsAre (items.toList.drop i) cs) (hfr : s.heap.FunFrames base outer) (hit : s.heap.IsListIter I lv i) (hl : s.heap.IsList lv items) :
    SegX (model prog w) (Ar dp un gd outer) (.func (bodyAt w 35) (envAt w 35 C)) ((model prog w).den (.func (bodyAt w 35) (envAt w 35 C))) [] s
      (GoodF (model prog w) (Ar dp un gd outer) base outer msg tm C I lv i cs s) := by
  have X := G.K
  have T := G.T
  have F : Fr base C s.heap _ := ⟨hn, st, hab⟩
  have N : News base C s.heap (others base s.heap C) := others_news
  have hover : Around.over (Ar dp un gd outer) (.func (bodyAt w 35) (envAt w 35 C)) [] = (Ar dp un gd outer).deeper (envAt w 35 C) := over_func ..
  obtain ⟨p1, p4, pv, hb, hf⟩ := body35 w
  have hfi : forI (failFor w) = .Name (Str.ofString "values") pv := by rw [hf]; rfl
  refine sx_func rfl ?_
  have key : SegX (model prog w) (Ar dp un gd outer) (.func (bodyAt w 35) (envAt w 35 C)) ((execs [failFor w] (envAt w 35 C)).wrap funK (funH (envAt w 35 C)) id id) [] s
      (GoodF (model prog w) (Ar dp un gd outer) base outer msg tm C I lv i cs s) := by
    refine sx_execs_cons ?_
    rw [hf]
    refine sx_For ?_ (fun v => rfl)
    rw [hover, ← hfi]
    refine fail_iter X F N fun h₂ tk₂ F₂ N₂ => ?_
    have hk : ∀ b' o, b' ≠ C → s.heap.get? b' = some o → h₂.get? b' = some o := fun b' o hb' e' => kept_of st F₂ N₂ (fun _ h => h) hb' e'
    have hit₂ : h₂.IsListIter I lv i := hit.at fun o e' => hk I o (Ne.symm hCI) e'
    refine wpAny_pyIter_listiter (s := { s with heap := h₂, toks := tk₂ }) hit₂ fun l p => ?_
    have hfr₂ : h₂.FunFrames base outer := by
      clear hover
      generalize outer = out at hfr hCf
      induction out with
      | nil => trivial
      | cons env rest ih =>
        obtain ⟨hk1, ⟨L, o, hf, hnb, ho, hd⟩, hrr⟩ := hfr
        have hLC : L ≠ C := fun z => hCf (by simp [List.filterMap_cons, hf, z])
        exact ⟨hk1, ⟨L, o, hf, hnb, hk L o hLC ho, hd⟩, ih hrr (fun hm => hCf (by rw [List.filterMap_cons, hf]; exact .tail _ hm))⟩
    exact fail_loop (p1 := p1) (b := bodyAt w 35) (l := l) (pf := p) X T hab hCI hCl hIl hbI hCf cs i s { s with heap := h₂, toks := tk₂ } hcs F₂.keep hfr₂ hit₂ (hl.at fun o e' => hk lv o (Ne.symm hCl) e') ⟨_, F₂.ns, rfl⟩
      ⟨h₂, tk₂, rfl, fun b' o hb' e' => hk b' o (fun z => hb' (by simp [z])) e'⟩
  rw [← hb] at key
  exact key

/-- a _fail_neg stands ready to hand out r -/
structure FReady (w : World) (A : Around) (base : Heap) (outer : List Env) (msg : Str) (tm : Tok) (C I lv : Addr) (i : Nat) (r : List Int) (a : Addr) (g : Nat) (s : Shared) : Prop where
  gen : s.heap.IsGen a g
  off : a ∉ [C, I]
  wakes : ∃ gs, s.gens[g]? = some gs ∧ ∀ s'' : Shared, base.StaysIn s''.heap → s''.heap.FunFrames base outer → (∀ b ∈ [C, I, lv], ∀ o, s.heap.get? b = some o → s''.heap.get? b = some o) →
    GWakes (model prog w) A gs s'' (GoodF (model prog w) A base outer msg tm C I lv i r s'')

theorem FReady.frame {A : Around} {i : Nat} {r : List Int} {a : Addr} {g : Nat} {s s' : Shared} (R : FReady w A base outer msg tm C I lv i r a g s)
    (hk : ∀ b ∈ a :: [C, I, lv], ∀ o, s.heap.get? b = some o → s'.heap.get? b = some o) (hg : s'.gens = s.gens) : FReady w A base outer msg tm C I lv i r a g s' :=
  ⟨let ⟨o, nm, qn, ho, r⟩ := R.gen; ⟨o, nm, qn, hk a (.head _) o ho, r⟩, R.off,
   let ⟨gs, h1, h2⟩ := R.wakes; ⟨gs, hg ▸ h1, fun s'' st hf hs => h2 s'' st hf fun b hb o e => hs b hb o (hk b (.tail _ hb) o e)⟩⟩

theorem fail_call (G : Ground w mean mg mb base) {s : Shared} (O : On base s.heap) {A : Around} (hroom : A.depth < recursionLimit) {args : Args} {items : Array Value} {cs : List Int} {i : Nat} {R : Result → Shared → Prop}
    (hb : BindsTo s (fdAt w 35) args [(Str.ofString "values", .ref I), (Str.ofString "errmsg", .str msg tm)])
    (hit : s.heap.IsListIter I lv i) (hl : s.heap.IsList lv items) (hcs : IntsAre (items.toList.drop i) cs) (hIl : I ≠ lv) (hbI : base.get? I = none)
    (hQ : ∀ C a g s', (∀ b o, s.heap.get? b = some o → s'.heap.get? b = some o) → C = s.heap.objs.size → a = C + 1 → g = s.gens.size → (∀ n, n ≤ g → GStep n s.gens s'.gens) → s'.os = s.os →
      (∀ dp un gd outer, C ∉ outer.filterMap (·.frame) → FReady w (Ar dp un gd outer) base outer msg tm C I lv i cs a g s') → R (.ok (.ret (.ref a))) s') :
    codeAny (model prog w) A (.call (.ref 35) args) R s := by
  have st := O.stays
  have X := G.K.keeps st
  have ho : ∃ o, (hd.heap_39 w.params).lookup 35 = some o ∧ o.data = .func (fdAt w 35) ∧ (fdAt w 35).scope.isCoroutine = false ∧ (fdAt w 35).scope.isGenerator = true ∧ (fdAt w 35).body = .stmts (bodyAt w 35) ∧
      codeIn (hd.heap_39 w.params) (fdAt w 35).code (fdAt w 35).qualname = true ∧
      (∀ x ∈ (fdAt w 35).scope.names, x.2 ≠ .cell) ∧ (∀ C, newEnv (fdAt w 35).scope C (fdAt w 35).globals (fdAt w 35).closure ((fdAt w 35).qualname ++ ".<locals>.") (some 35) (fdAt w 35).code none (fdAt w 35).builtins = envAt w 35 C) ∧
      (fdAt w 35).scope.names.lookup (Str.ofString "values") = some .local ∧ (fdAt w 35).scope.names.lookup (Str.ofString "errmsg") = some .local ∧ (fdAt w 35).scope.kind = .function := by
    refine' with_lookup (a := 35) (K := hd.heap_39 w.params) ?h ?_
    case h => k_is
    intro e
    clear hb
    unfold envAt bodyAt fdAt
    rw [e]
    refine ⟨_, rfl, rfl, rfl, rfl, rfl, ?_, ?_, fun C => rfl, rfl, rfl, rfl⟩
    · dsimp only
      k_is
    · dsimp only
      decide
  obtain ⟨o, h1, h2, h3, h4, h5, h6, h8, h9, h10, h10', h11⟩ := ho
  refine codeAny_call_generator hroom (X _ _ h1) h2 h3 h4 h5 (codeRec_of X h6) ?_
  refine hb _ _ _ _ (wpAny_newFunctionEnv h8 (fun y hy => ?_) (fun h' hn hs => ?_) h11)
  · rcases List.mem_cons.mp hy with rfl | hy
    · exact h10
    · rw [List.mem_singleton.mp hy]; exact h10'
  have kp : ∀ b o, s.heap.get? b = some o → h'.get? b = some o := fun b o e => hs.extBut b o (Nat.ne_of_lt (Heap.lt_size e)) (Heap.get?_push_of_some _ e)
  have hz : h'.objs.size = s.heap.objs.size + 1 := by rw [hs.1, Heap.size_push]
  refine ⟨(G.T.nolimit.keeps st).keeps kp, ?_⟩
  rw [h9, hz]
  have ltI : I < s.heap.objs.size := let ⟨_, e, _⟩ := hit; Heap.lt_size e
  have ltl : lv < s.heap.objs.size := let ⟨_, e, _⟩ := hl; Heap.lt_size e
  refine hQ s.heap.objs.size (s.heap.objs.size + 1) s.gens.size _ (fun b o e => Heap.get?_push_of_some _ (kp b o e)) rfl rfl rfl (fun n hn => GStep.push hn _) rfl fun dp un gd outer hCf => ⟨?_, ?_, ?_⟩
  · exact ⟨_, _, _, by rw [← hz]; exact Heap.get?_push_size _ rfl, rfl, rfl, rfl⟩
  · intro hm
    simp only [List.mem_cons, List.not_mem_nil, or_false] at hm
    rcases hm with z | z
    · exact absurd z (Nat.succ_ne_self _)
    · rw [← z] at ltI; exact absurd ltI (Nat.not_lt.mpr (Nat.le_succ _))
  · refine ⟨_, Array.getElem?_push_size .., fun s'' st'' hfr'' hal => ?_⟩
    have hn' : s''.heap.Ns s.heap.objs.size (fun y => if y = Str.ofString "errmsg" then some (.str msg tm) else if y = Str.ofString "values" then some (.ref I) else none) := by
      have e : (fun y : Str => ([(Str.ofString "values", Value.ref I), (Str.ofString "errmsg", Value.str msg tm)] : List (Str × Value)).reverse.lookup y) = fun y => if y = Str.ofString "errmsg" then some (.str msg tm) else if y = Str.ofString "values" then some (.ref I) else none := by
        funext y
        by_cases hy : y = Str.ofString "errmsg"
        · subst hy; simp
        · have hy' : (y == Str.ofString "errmsg") = false := by simpa using hy
          by_cases hz : y = Str.ofString "values"
          · subst hz; simp [List.lookup, hy', hy]
          · have hz' : (y == Str.ofString "values") = false := by simpa using hz
            simp [List.lookup, hy', hy, hz', hz]
      rw [e] at hn
      exact hn.at fun o e => hal _ (by simp) o (Heap.get?_push_of_some _ e)
    exact fail_start G st'' O.size (Nat.ne_of_gt ltI) (Nat.ne_of_gt ltl) hIl hbI hCf hn' hcs hfr'' (hit.at fun o e => hal I (by simp) o (Heap.get?_push_of_some _ (kp _ _ e))) (hl.at fun o e => hal lv (by simp) o (Heap.get?_push_of_some _ (kp _ _ e)))
end
end Mine
end

section
open PySem PySem.W PyProof.Rows PySem.Calls PySem.Spec
open PySem.W.X (SegX SegX.mono wake_any)
set_option maxRecDepth 100000
set_option maxHeartbeats 4000000
set_option linter.unusedVariables false
namespace Mine
theorem fillF3 : PySem.Challenge.rw_nb0062_01.foot = 10 ∨ (∀ P, hd.heap_39 P = []) := by
  w_top off
  k_fill
  left; rfl

theorem isi24 {w : World} {M : Model} {h : Heap} {e : Addr} {oe : Obj} (X : (hd.heap_39 w.params).In h) (he : h.get? e = some oe) (hc : oe.cls = .ref 24) : Looks M h (isInstance (.ref e) (.type "StopIteration")) false := by
  have hm : mroIn (hd.heap_39 w.params) 24 (.type "StopIteration") = some false := by k_is
  refine Looks.andThen (a := .ref 24) (hc ▸ (Looks.ld he).andThen .now) (looks_mroIn X hm)
theorem isi24B {w : World} {M : Model} {h : Heap} {e : Addr} {oe : Obj} (X : (hd.heap_39 w.params).In h) (he : h.get? e = some oe) (hc : oe.cls = .ref 24) : Looks M h (isInstance (.ref e) (.type "BaseException")) true := by
  have hm : mroIn (hd.heap_39 w.params) 24 (.type "BaseException") = some true := by k_is
  refine Looks.andThen (a := .ref 24) (hc ▸ (Looks.ld he).andThen .now) (looks_mroIn X hm)

section
variable {w : World} {A : Around} {base : Heap} {outer : List Env} {E : Value → Shared → Prop} {s : Shared} {Q : Option Value → Shared → Prop} {a : Addr} {g : Nat} {r : List Int} {x : Int} {msg : Str} {tm : Tok} {C I lv : Addr} {i : Nat}

theorem fr_next (hl : s.heap.NoLimit) (hroom : A.depth < recursionLimit) (R : FReady w A.in1 base outer msg tm C I lv i (x :: r) a g s) (hx : ¬ x < 0) (st : base.StaysIn s.heap) (hfr : s.heap.FunFrames base outer)
    (hQ : ∀ tk s', (∀ b o, b ∉ [C, I] → s.heap.get? b = some o → s'.heap.get? b = some o) → s'.heap.IsListIter I lv (i + 1) → FReady w A.in1 base outer msg tm C I lv (i + 1) r a g s' → (∀ n, n ≤ g → GStep n s.gens s'.gens) → s'.os = s.os → Q (some (.int x tk)) s') :
    wpAny (model prog w) A (pyNext (.ref a)) Q E s := by
  obtain ⟨hg, hoff, gs, hgs, hgo⟩ := R
  unfold pyNext
  refine wpAny_bind (wpAny_attempt (wpAny_callSpecial?_slot (name := Str.ofString "__next__") hg.typeIs slot_gen_next
    (wpAny_call_entry slot_gen_next hg.typeIs entry_gen_next ?_ (args_gen_next _))))
  show wpAny _ _ (Builtin.Generator.genWake (.ref a) (.send .none)) _ _ s
  unfold Builtin.Generator.genWake
  refine wpAny_bind (wpAny_holding (wpAny_genNumber hg (wpAny_bind (wpAny_genState hgs ?_))))
  have hw := hgo (s.setGen g .running) st hfr fun _ _ _ e => e
  cases gs with
  | running => exact hw.elim
  | finished => exact hw.elim
  | _ =>
    refine wpAny_bind (wpAny_roomToWake hl hroom ?_)
    show wpAny _ _ (.resume g (.send .none) [] _) _ _ s
    refine wpAny_wake hgs hw fun en s₁ hq hE => ?_
    obtain ⟨tk, l, k, c, pp, fs, rfl, ⟨h₁, tk₁', rfl, hk₁⟩, hit, hcont⟩ := hE.2 hx
    have hlive : ∀ b o, b ∉ [C, I] → s.heap.get? b = some o → h₁.get? b = some o := hk₁
    refine wpAny_pure ⟨.int x tk, rfl, wpAny_pure (hQ tk _ hlive hit ⟨?_, hoff, ?_⟩ (fun n hn => ?_) rfl)⟩
    · obtain ⟨o, nm, qn, ho, r⟩ := hg
      exact ⟨o, nm, qn, hk₁ a o hoff ho, r⟩
    · exact ⟨_, setGen_get (gs := .running) (setGen_get hgs), fun s'' st hf hal => hcont s'' st hf hal⟩
    · exact (GStep.set hn rfl).trans (GStep.set hn (End.bare_of_quiet hq))

theorem fr_end (hh : A.handled = none) (hl : s.heap.NoLimit) (hroom : A.depth < recursionLimit) (R : FReady w A.in1 base outer msg tm C I lv i [] a g s) (st : base.StaysIn s.heap) (hfr : s.heap.FunFrames base outer)
    (hQ : ∀ s', (∀ b o, b ∉ [C, I] → s.heap.get? b = some o → s'.heap.get? b = some o) → IterDone s'.heap I → (∀ n, n ≤ g → GStep n s.gens s'.gens) → s'.os = s.os → Q none s') :
    wpAny (model prog w) A (pyNext (.ref a)) Q E s := by
  obtain ⟨hg, hoff, gs, hgs, hgo⟩ := R
  unfold pyNext
  refine wpAny_bind (wpAny_attempt (wpAny_callSpecial?_slot (name := Str.ofString "__next__") hg.typeIs slot_gen_next
    (wpAny_call_entry slot_gen_next hg.typeIs entry_gen_next ?_ (args_gen_next _))))
  show wpAny _ _ (Builtin.Generator.genWake (.ref a) (.send .none)) _ _ s
  unfold Builtin.Generator.genWake
  refine wpAny_bind (wpAny_holding (wpAny_genNumber hg (wpAny_bind (wpAny_genState hgs ?_))))
  have hw := hgo (s.setGen g .running) st hfr fun _ _ _ e => e
  cases gs with
  | running => exact hw.elim
  | finished => exact hw.elim
  | _ =>
    refine wpAny_bind (wpAny_roomToWake hl hroom ?_)
    show wpAny _ _ (.resume g (.send .none) [] _) _ _ s
    refine wpAny_wake hgs hw fun en s₁ hq hE => ?_
    obtain ⟨rfl, ⟨h₁, tk₁', rfl, hk₁⟩, o, v, hdo, hdc, hdd⟩ := hE
    show wpAny _ _ (newExc (.type "StopIteration") [] >>= _) _ _ _
    refine wpAny_bind ?_
    simp only [newExc, newTuple]
    refine wpAny_bind (wpAny_newObj_type ?_ (by size_fits))
    refine wpAny_bind (m := firstArgMember _ _) (wpAny_of_eq (a := Value.none) (by first | rfl | (simp only [firstArgMember]; rfl)) ?_)
    refine wpAny_newObj_type ?_ (by size_fits)
    simp only [raiseNew]
    refine wpAny_bind (wpAny_bind (wpAny_handled ?_))
    rw [show A.in1.handled = none from hh]
    refine wpAny_throw ?_
    refine wpAny_bind (wpAny_isInstance (T := "StopIteration") (b := true) ⟨_, Heap.get?_push_size _ rfl, rfl⟩ isSubtype_stop ?_)
    exact wpAny_pure (hQ _ (fun b o hb e => Heap.get?_push_of_some _ (Heap.get?_push_of_some _ (hk₁ b o hb e))) ⟨o, v, Heap.get?_push_of_some _ (Heap.get?_push_of_some _ hdo), hdc, hdd⟩ (fun n hn => (GStep.set hn rfl).trans (GStep.set hn rfl)) rfl)

theorem fr_raise (hK : (hd.heap_39 w.params).In base) (hl : s.heap.NoLimit) (hroom : A.depth < recursionLimit) (R : FReady w A.in1 base outer msg tm C I lv i (x :: r) a g s) (hx : x < 0) (st : base.StaysIn s.heap) (hfr : s.heap.FunFrames base outer) (hC : base.get? C = none) (hI : base.get? I = none)
    (hE : ∀ e t B s', Fly B outer e t .none s'.heap → s'.heap.TupAt t [.str msg tm] → B.get? t = none →
      (∀ b o, s.heap.get? b = some o → b ∉ C :: I :: outer.filterMap (·.frame) → B.get? b = some o) → B.IsListIter I lv (i + 1) →
      (∀ b ∈ outer.filterMap (·.frame), ∀ o, s.heap.get? b = some o → ∃ sl, s'.heap.get? b = some { o with slots := sl }) →
      (∀ n, n ≤ g → GStep n s.gens s'.gens) → s'.os = s.os → E (.ref e) s') :
    wpAny (model prog w) A (pyNext (.ref a)) Q E s := by
  obtain ⟨hg, hoff, gs, hgs, hgo⟩ := R
  unfold pyNext
  refine wpAny_bind (wpAny_attempt (wpAny_callSpecial?_slot (name := Str.ofString "__next__") hg.typeIs slot_gen_next
    (wpAny_call_entry slot_gen_next hg.typeIs entry_gen_next ?_ (args_gen_next _))))
  show wpAny _ _ (Builtin.Generator.genWake (.ref a) (.send .none)) _ _ s
  unfold Builtin.Generator.genWake
  refine wpAny_bind (wpAny_holding (wpAny_genNumber hg (wpAny_bind (wpAny_genState hgs ?_))))
  have hw := hgo (s.setGen g .running) st hfr fun _ _ _ e => e
  have hbB : ∀ {B : Heap}, (∀ b o, s.heap.get? b = some o → b ∉ C :: I :: outer.filterMap (·.frame) → B.get? b = some o) → base.StaysIn B := fun hk b o e => hk b o (st b o e) fun hm => by
    rcases List.mem_cons.mp hm with z | hm
    · rw [z, hC] at e; cases e
    · rcases List.mem_cons.mp hm with z | hm
      · rw [z, hI] at e; cases e
      · rw [(hfr.mem hm).1] at e; cases e
  obtain ⟨og, nm, qn, hog, hcg, hdg, hr3⟩ := id hg
  have hga : a ∉ C :: I :: outer.filterMap (·.frame) := fun hm => by
    rcases List.mem_cons.mp hm with z | hm
    · exact hoff (by simp [z])
    · rcases List.mem_cons.mp hm with z | hm
      · exact hoff (by simp [z])
      · obtain ⟨_, o, ho, hnf⟩ := hfr.mem hm
        rw [hog] at ho; cases ho; exact hnf _ hdg
  cases gs with
  | running => exact hw.elim
  | finished => exact hw.elim
  | _ =>
    refine wpAny_bind (wpAny_roomToWake hl hroom ?_)
    show wpAny _ _ (.resume g (.send .none) [] _) _ _ s
    refine wpAny_wake hgs hw fun en s₁ hq hE' => ?_
    obtain ⟨e, t, B, h', tk, rfl, rfl, F, ht, hBt, hB, hit, hsl⟩ := hE'.1 hx
    have Xh : (hd.heap_39 w.params).In h' := (hK.keeps (hbB hB)).keeps F.stays
    obtain ⟨oe, vs, T, oT, ts, he, hc, _⟩ := F.exc
    show wpAny _ _ (Builtin.Generator.genLeft (.ref a) (.ref e)) _ _ _
    unfold Builtin.Generator.genLeft Builtin.Generator.madeByALambda Builtin.Generator.genEscaped
    refine wpAny_bind (wpAny_bind (wpAny_load (F.stays a og (hB a og hog hga)) (wpAny_pure ?_)))
    refine wpAny_bind (Looks.here (isi24 Xh he hc) ?_)
    simp only [Bool.and_false, Bool.false_eq_true, if_false]
    refine wpAny_bind (Looks.here (isi24 Xh he hc) ?_)
    simp only [Bool.not_false, if_true]
    refine wpAny_bind (wpAny_throw ?_)
    refine wpAny_bind (Looks.here (isi24 Xh he hc) ?_)
    simp only [Bool.false_eq_true, if_false]
    exact wpAny_throw (hE e t B _ F ht hBt hB hit hsl (fun n hn => (GStep.set hn rfl).trans (GStep.set hn rfl)) rfl)
end

section
variable {w : World} {A : Around} {E : Value → Shared → Prop} {s : Shared} {e t0 : Addr} {oe : Obj} {vs : Array Value} {m : Str} {tk : Tok}
open Builtin Builtin.Str Builtin.BaseException Builtin.Exceptions

theorem bexcStr_mine {Q : PySem.Fin → Shared → Prop} (he : s.heap.get? e = some oe) (hd' : oe.data = .fields vs) (h0 : vs[0]? = some (.ref t0)) (ht : s.heap.TupAt t0 [.str m tk]) (hq : Q (.done (.ret (.str m tk))) s) :
    wpAny (model prog w) A (Builtin.«BaseException.__str__» ⟨[.ref e], []⟩) Q E s := by
  have key : ∀ {A : Around} {Q' : Value × List Value → Shared → Prop} {E' : Value → Shared → Prop}, Q' (.ref t0, [.str m tk]) s → wpAny (model prog w) A (bexcArgs (.ref e)) Q' E' s := by
    intro A Q' E' hq
    obtain ⟨ot, k, hto, _, htd⟩ := ht
    unfold bexcArgs
    exact wpAny_bind (wpAny_field he hd' h0 (wpAny_bind (wpAny_seqItems hto htd (wpAny_pure hq))))
  unfold Builtin.«BaseException.__str__»
  repeat (first | with_reducible refine key ?_ | wp_step)
  exact hq

theorem str_exc {Q : Value → Shared → Prop} (hu : A.in1.in1.units < cLine) (X : (hd.heap_39 w.params).In s.heap) (he : s.heap.get? e = some oe) (hc : oe.cls = .ref 24) (hd' : oe.data = .fields vs) (h0 : vs[0]? = some (.ref t0))
    (ht : s.heap.TupAt t0 [.str m tk]) (hq : Q (.str m tk) s) : wpAny (model prog w) A (call (.type "str") [.ref e]) Q E s := by
  have hs : findIn (hd.heap_39 w.params) (.ref 24) "__str__" = some (some (.builtin "BaseException.__str__")) := by k_is
  refine callType_codes (T := "str") (Bi := Builtin.«object.__init__») (Q₁ := fun r s₁ => ∃ y u, r = .str y u ∧ Q r s₁) PySem.F.called_str (PySem.F.typeCall_str_1 _) PySem.F.entry_object_init ?_ ?_
  · refine codeAny_of_tree ?_
    show wpAny _ A.in1.in1 (do checkBuiltinCall "str.__new__" ⟨[.type "str", .ref e], []⟩; again (.builtin "str.__new__" ⟨[.type "str", .ref e], []⟩)) _ _ s
    refine wpAny_bind (wpAny_of_eq (PySem.F.newCall_str_1 _) (wpAny_pure ⟨plainId_quiet (by decide +kernel) _, codeAny_builtin PySem.F.entry_str_new ?_⟩))
    rw [Around.under_plainId (by decide +kernel) _]
    rw [str_new_tree]
    refine wpAny_bind (wpAny_pure ?_)
    refine wpAny_bind (wpAny_of_eq isSubtype_str_str ?_)
    have key : wpAny (model prog w) A.in1.in1 (PySem.Builtin.Str.strOf (.ref e)) (fun r s₁ => ∃ y u, r = .str y u ∧ Q r s₁) E s := by
      unfold PySem.Builtin.Str.strOf
      rw [show isExactStr (.ref e) = false from rfl]
      refine wpAny_bind (m := cRoomFor _ _) (wpAny_cRoomFor hu ?_)
      have bb : ∀ self, bindSpecial (.builtin "BaseException.__str__") self = pure (.builtin "BaseException.__str__", [self]) := fun self => by
        have hop : withoutEnding? "BaseException.__str__" "#opaque" = none := by decide +kernel
        have hdat : withoutEnding? "BaseException.__str__" "#data" = none := by decide +kernel
        have hk : builtinKind "BaseException.__str__" = some .slot := by decide +kernel
        simp only [bindSpecial, typeOf, builtinType, hop, hdat, hk]; rfl
      have ty : Looks (model prog w) s.heap (typeOf (.ref e)) (.ref 24) := hc ▸ (Looks.ld he).andThen .now
      refine wpAny_bind (m := callSpecial? (.ref e) (Str.ofString "__str__")) (wpAny_bind (wpAny_bind (ty.here ((looks_findIn X hs).here (wpAny_holding (wpAny_bind ((Looks.of_pure (bb _)).here (wpAny_bind ?_))))))))
      refine wpAny_call (codeAny_call_builtin (by decide +kernel) PySem.F.entry_bexc_str (check_slot (i := "BaseException.__str__") (owner := "BaseException") (n := "__str__") (by decide +kernel) (by decide +kernel) (isi24B X he hc) (PySem.F.args_bexc_str _) ?_))
      exact bexcStr_mine he hd' h0 ht (wpAny_pure (wpAny_pure ⟨_, _, rfl, hq⟩))
    exact wpAny_bind (wpAny_mono key (fun r s₁ hr => wpAny_pure hr) fun _ _ y => y)
  · rintro obj s₁ ⟨y, u, rfl, hq⟩
    exact ⟨typeIs_str _ _ _, PySem.F.args_object_init_2 _ _, object_init_meets PySem.F.called_str.init.lookup PySem.F.called_str.made (by decide) prog w A.in1 _ s₁ ⟨typeIs_str _ _ _, rfl, hq⟩⟩
end
end Mine
end

section
open PySem PySem.W PyProof.Rows PySem.Calls PySem.Spec
set_option maxRecDepth 100000
set_option maxHeartbeats 4000000
set_option linter.unusedVariables false
namespace Mine

section
variable {w : World} {A : Around} {E : Value → Shared → Prop} {s : Shared} {es : List Addr}

theorem walksLI {I lv : Addr} {i : Nat} {items : Array Value} (hne : lv ≠ I) (hes : I ∉ es) (hi : i ≤ items.size) :
    WalksS prog w A I (I :: lv :: es) [I] (fun a b => a = b) (items.size - i) (fun j v => items[i + j]? = some v) (fun j s => s.heap.IsListIter I lv (i + j) ∧ s.heap.IsList lv items ∧ HandOk A es s.heap) where
  sub := fun b hb => List.mem_singleton.mp hb ▸ .head _
  grefl := fun _ => rfl
  gtrans := fun _ _ _ h1 h2 => h1.trans h2
  frame := fun j s h' tk st _ hk => ⟨st.1.at fun o e => hk I (.head _) o e, st.2.1.at fun o e => hk lv (.tail _ (.head _)) o e, st.2.2.keeps fun b hb o e => hk b (.tail _ (.tail _ hb)) o e⟩
  item := fun j s Q E hj st hQ => by
    have hlt : i + j < items.size := by omega
    refine wpAny_pyNext_list_item st.1 st.2.1 (x := items[i + j]) (by simp [hlt]) fun h' hit hsb => ?_
    exact hQ _ _ (by simp [hlt]) ⟨hit, st.2.1.at fun o e => hsb.extBut lv o hne e, st.2.2.keeps fun b hb o e => hsb.extBut b o (fun z => hes (z ▸ hb)) e⟩ ⟨fun b o hb e => hsb.extBut b o (by simpa using hb) e, rfl, rfl, rfl, Nat.le_refl _⟩
  done := fun s Q E st hQ => by
    refine li_end st.2.2 hes st.1 st.2.1 (by simp; omega) fun h' hx _ => ?_
    exact hQ _ ⟨fun b o hb e => hx b o (by simpa using hb) e, rfl, rfl, rfl, Nat.le_refl _⟩
  self := fun j s Q E st hQ => wpAny_pyIter_listiter st.1 hQ

theorem walksOver {I : Addr} : WalksS prog w A I (I :: es) [I] (fun a b => a = b) 0 (fun _ _ => False) (fun _ s => IterDone s.heap I ∧ HandOk A es s.heap) where
  sub := fun b hb => List.mem_singleton.mp hb ▸ .head _
  grefl := fun _ => rfl
  gtrans := fun _ _ _ h1 h2 => h1.trans h2
  frame := fun j s h' tk st _ hk => ⟨let ⟨o, v, ho, r⟩ := st.1; ⟨o, v, hk I (.head _) o ho, r⟩, st.2.keeps fun b hb o e => hk b (.tail _ hb) o e⟩
  item := fun j s Q E hj => absurd hj (Nat.not_lt_zero _)
  done := fun s Q E st hQ => li_over st.2 st.1 fun h' hk => hQ _ ⟨fun b o _ e => hk b o e, rfl, rfl, rfl, Nat.le_refl _⟩
  self := fun j s Q E st hQ => by
    obtain ⟨⟨o, v, ho, hc, hd⟩, _⟩ := st
    have ht : s.TypeIs (.ref I) "list_iterator" := ⟨o, ho, hc⟩
    refine wpAny_pyIter_slot ht slot_listiter_iter (wpAny_call_entry slot_listiter_iter ht entry_listiter_iter ?_ (args_listiter_iter _))
    exact wpAny_pure ⟨_, rfl, "list_iterator", _, ht, slot_listiter_next.lookup, hQ⟩

section
variable {I : Addr} {fp wr : List Addr} {G : Array GenState → Array GenState → Prop} {n : Nat} {P : Nat → Value → Prop} {St : Nat → Shared → Prop}

theorem call_list_li {Q : Value → Shared → Prop} (W : WalksS prog w A.in1.in1 I fp wr G n P St) (hT : ∀ i s, St i s → s.TypeIs (.ref I) "list_iterator") (hst : St 0 s) (hfp : ∀ b ∈ fp, b < s.heap.objs.size) (hI : I ∈ fp)
    (hQ : ∀ s' acc' c', Moved (s.heap.objs.size :: wr) G { s with heap := s.heap.push { cls := .type "list", data := .seq #[] } } s' →
      s'.heap.get? s.heap.objs.size = some { cls := .type "list", dict := none, data := .seq acc' c', slots := #[] } → ItemsOf P acc' n → Q (.ref s.heap.objs.size) s') (hn : n ≤ sizeLine) :
    wpAny (model prog w) A (call (.type "list") [.ref I]) Q E s := by
  have hSf : s.heap.objs.size ∉ fp := fun hm => Nat.lt_irrefl _ (hfp _ hm)
  have hSI : s.heap.objs.size ≠ I := fun e => hSf (e ▸ hI)
  refine callType_codes (Q₁ := fun obj s₁ => obj = .ref s.heap.objs.size ∧ s₁ = { s with heap := s.heap.push { cls := .type "list", data := .seq #[] } }) F.called_list (F.typeCall_list_1 _) F.entry_list_init
    (code_list_new _ ⟨rfl, rfl⟩) fun obj s₁ h₁ => ?_
  obtain ⟨rfl, rfl⟩ := h₁
  have hS : (s.heap.push { cls := .type "list", data := .seq #[] }).get? s.heap.objs.size = some { cls := .type "list", data := .seq #[] } := Heap.get?_push_size _ rfl
  refine ⟨⟨_, hS, rfl⟩, F.args_list_init_2 _ _, ?_⟩
  generalize s.heap.objs.size = S at *
  have hst₀ := W.frame 0 s (s.heap.push { cls := .type "list", data := .seq #[] }) s.toks hst (Nat.le_refl _) fun b _ o e => Heap.get?_push_of_some _ e
  generalize hs₁ : ({ s with heap := s.heap.push { cls := .type "list", data := .seq #[] } } : Shared) = s₁ at *
  have hS : s₁.heap.get? S = some { cls := .type "list", data := .seq #[] } := by rw [← hs₁]; exact hS
  show wpAny _ A.in1.in1 (do let old ← Builtin.List.listItems (.ref S); Builtin.List.listUpdate (.ref S) (fun _ => #[]); letGo old.toList.reverse; Builtin.List.listExtendWith (.ref S) (.ref I) .none) _ _ s₁
  refine wpAny_bind ?_
  unfold Builtin.List.listItems
  refine wpAny_bind (wpAny_seqItems hS rfl (wpAny_pure ?_))
  show wpAny _ A.in1.in1 (updateSeq S (fun _ => #[]) >>= fun _ => letGo (#[] : Array Value).toList.reverse >>= fun _ => Builtin.List.listExtendWith (.ref S) (.ref I) .none) _ _ s₁
  refine wpAny_bind (wpAny_updateSeq hS rfl ?_)
  have hS₂ := Heap.get?_update_self (Obj.mapSeq (fun _ => (#[] : Array Value))) hS rfl
  have oth : ∀ b o, b ≠ S → s₁.heap.get? b = some o → (s₁.heap.update S (Obj.mapSeq (fun _ => (#[] : Array Value)))).get? b = some o :=
    fun b o hb e => (Heap.get?_update_other _ _ (Ne.symm hb)).trans e
  refine wpAny_bind (wpAny_letGo ?_)
  have hst₁ := W.frame 0 s₁ (s₁.heap.update S (Obj.mapSeq (fun _ => (#[] : Array Value)))) s₁.toks hst₀ (Nat.le_refl _) fun b hb o e => oth b o (fun h => hSf (h ▸ hb)) e
  have h1 : Builtin.List.listSameRef (.ref S) (.ref I) = false := by simp [Builtin.List.listSameRef, hSI]
  unfold Builtin.List.listExtendWith
  refine wpAny_bind (wpAny_typeOf (hT 0 _ hst₁) ?_)
  rw [if_neg (by rw [h1]; decide)]
  refine wpAny_bind (W.self 0 _ _ _ hst₁ ?_)
  refine wpAny_bind (wpAny_holding ?_)
  unfold Builtin.List.listLengthHint
  refine wpAny_bind (wpAny_specialOf (hT 0 _ hst₁) F.nolen_li ?_)
  show wpAny _ A.in1.in1 (specialOf (Value.ref I) (Str.ofString "__length_hint__") >>= _) _ _ _
  refine wpAny_bind (wpAny_specialOf (hT 0 _ hst₁) F.hint_li ?_)
  (generalize hid : ("list_iterator.__length_hint__" : String) = id0; (fail_if_success (clear hid id0)); wp_delta; rw [show splitId id0 = some ("list_iterator", "__length_hint__") from by subst hid; decide +kernel]; subst hid)
  refine wpAny_bind (wpAny_isInstance (b := true) (hT 0 _ hst₁) (by rw [isSubtype_type]; kernel_rfl) ?_)
  refine wpAny_pure ?_
  rw [if_neg (by decide)]
  refine wpAny_pure ⟨plainId_quiet F.plain_extend_loop _, codeAny_extend_loopS W hn _ hSf _ n 0 _ _ _ rfl (Nat.zero_le _) hst₁ hS₂ (ItemsOf.nil P) fun s' acc' c' hm hS' hacc => ?_⟩
  exact ⟨rfl, hQ s' acc' c' (Moved.trans W.gtrans ((Moved.refl W.grefl).then_heap (Nat.le_refl _) fun b o hb e => oth b o (fun h => hb (h ▸ List.mem_cons_self)) e) hm) hS' hacc⟩
end
end
end Mine
end

section
open PySem PySem.W PyProof.Rows PySem.Calls PySem.Spec
set_option maxRecDepth 100000
set_option maxHeartbeats 4000000
set_option linter.unusedVariables false
namespace Mine

theorem ns_slots {h h' : Heap} {L : Addr} {m : Str → Option Value} (n : h.Ns L m) (k : ∀ o, h.get? L = some o → (∀ vs, o.data ≠ .fields vs) → ∃ sl, h'.get? L = some { o with slots := sl }) : h'.Ns L m := by
  obtain ⟨o, es, ep, ho, hd, hk, hf⟩ := n
  obtain ⟨sl, e⟩ := k o ho (fun vs => by rw [hd]; exact fun z => nomatch z)
  exact ⟨_, es, ep, e, hd, hk, hf⟩

theorem letGo_name {w : World} {A : Around} {E : Value → Shared → Prop} {s : Shared} {x : Str} {p : Pos} {it v : Value} {Q : Unit → Shared → Prop} (hQ : Q () s) : wpAny (model prog w) A (letOwnedTupleGo (.Name x p) it v) Q E s := by
  unfold letOwnedTupleGo
  exact wpAny_pure hQ

section
variable {w : World} {base : Heap} {outer : List Env} {s : Shared} {msg : Str} {tm : Tok} {C I lv : Addr}

theorem fail_forLoop {env : Env} {xv : Str} {p1 : Pos} {body : List Stmt} {H : Heap} {Q : Flow → Shared → Prop} {ER : Value → Shared → Prop} {n : Nat}
    (hxv : env.kindOf xv = some .local) (hp : (env.scope.kind == .class || (env.scope.kind == .module && env.locals != env.globals)) = false) (hfe : env.frame = some env.locals) (hke : env.scope.kind = .function)
    {A : Around} (hh : A.handled = none) (hroom : A.depth < recursionLimit) (hK : (hd.heap_39 w.params).In base) (O : On base H) (nol : base.NoLimit) (hbL : base.get? env.locals = none)
    (hlv : ∃ o, H.get? lv = some o)
    (fro : List (Addr × Obj)) (hfro : ∀ h : Heap, (∀ p ∈ fro, h.get? p.1 = some p.2) → h.FunFrames base outer) (hfroF : ∀ p ∈ fro, p.1 ∈ outer.filterMap (·.frame)) (hHf : ∀ b ∈ outer.filterMap (·.frame), H.get? b = none)
    (J : Nat → List Int → (Str → Option Value) → List (Addr × Obj) → Prop)
    (turn : ∀ i x r m₁ nx own tk s₁, ¬ x < 0 → J i (x :: r) m₁ nx → OwnOff own (nx.map (·.1)) → GStep n s.gens s₁.gens → s₁.os = s.os →
      Fr H env.locals s₁.heap (fun y => if y = xv then some (.int x tk) else m₁ y) → News H env.locals s₁.heap (nx ++ own) →
      wpAny (model prog w) A (execs body env) (fun f s₂ => match f with
        | .ret v => Q (.ret v) s₂
        | .brk => Q .next s₂
        | _ => TurnEnd H env.locals (J (i + 1) r) own (nx.map (·.1)) s₁ s₂) ER s₁)
    (done : ∀ i m₁ nx s₁, J i [] m₁ nx → GStep n s.gens s₁.gens → s₁.os = s.os → Fr H env.locals s₁.heap m₁ → News H env.locals s₁.heap nx → News H env.locals s₁.heap fro → IterDone s₁.heap I → Q .next s₁)
    (raise : ∀ i x r m₁ nx e t B s₁, x < 0 → J i (x :: r) m₁ nx → GStep n s.gens s₁.gens → s₁.os = s.os → H.StaysIn B → News H env.locals B nx → Fly B (env :: outer) e t .none s₁.heap → s₁.heap.TupAt t [.str msg tm] → B.get? t = none →
      B.IsListIter I lv (i + 1) → s₁.heap.Ns env.locals m₁ → (∀ p ∈ fro, ∃ sl, s₁.heap.get? p.1 = some { p.2 with slots := sl }) → ER (.ref e) s₁)
    {R : Result → Shared → Prop} (hR1 : ∀ f s', Q f s' → R (.ok f) s') (hR2 : ∀ e s', ER e s' → notedBy (model prog w) A env (fun e s' => R (.error e) s') e s')
    {r₀ : List Int} {i₀ : Nat} {m₀ : Str → Option Value} {nx₀ : List (Addr × Obj)} {a : Addr} {g : Nat} (hng : n ≤ g)
    (hJ : J i₀ r₀ m₀ nx₀) (F : Fr H env.locals s.heap m₀) (N : News H env.locals s.heap nx₀) (Nf : News H env.locals s.heap fro) (Rd : FReady w A.in1 base (env :: outer) msg tm C I lv i₀ r₀ a g s)
    (hpv : ∀ b ∈ [a, C, I], H.get? b = none ∧ b ≠ env.locals ∧ b ∉ nx₀.map (·.1) ∧ b ∉ fro.map (·.1)) (hnf : ∀ b ∈ nx₀.map (·.1), b ∉ outer.filterMap (·.frame)) :
    codeAny (model prog w) A (.forLoop (.Name xv p1) (.ref a) body [] env) R s := by
  refine codeAny_forLoop_any
    (fun k s' => ∃ i r m₁ nx, k = r.length ∧ J i r m₁ nx ∧ nx.map (·.1) = nx₀.map (·.1) ∧ GStep n s.gens s'.gens ∧ s'.os = s.os ∧ Fr H env.locals s'.heap m₁ ∧ News H env.locals s'.heap nx ∧ News H env.locals s'.heap fro ∧ FReady w A.in1 base (env :: outer) msg tm C I lv i r a g s') ?_ r₀.length
    ⟨i₀, r₀, m₀, nx₀, rfl, hJ, rfl, .refl _ _, rfl, F, N, Nf, Rd⟩
  rintro k s' ⟨i, r, m₁, nx, rfl, hJ, hnx, hgs, hos, F, N, Nf, Rd⟩
  have O' := O.fr F
  have hCI : ∀ b ∈ [C, I], b ∈ [a, C, I] := fun b hb => .tail _ hb
  have hbase : ∀ b, H.get? b = none → base.get? b = none := fun b h => by
    cases q : base.get? b with
    | none => rfl
    | some o => have := O.stays b o q; rw [h] at this; cases this
  have keep : ∀ {h'' : Heap}, (∀ b o, b ∉ [C, I] → s'.heap.get? b = some o → h''.get? b = some o) → Fr H env.locals h'' m₁ ∧ News H env.locals h'' nx ∧ News H env.locals h'' fro := by
    intro h'' hk
    refine ⟨⟨F.ns.at fun o e => hk _ o (fun hm => (hpv _ (hCI _ hm)).2.1 rfl) e, fun b o e => hk b o (fun hm => by rw [(hpv _ (hCI _ hm)).1] at e; cases e) (F.keep b o e), F.above⟩, fun q hq => ⟨hk _ _ (fun hm => ?_) (N q hq).1, (N q hq).2⟩, fun q hq => ⟨hk _ _ (fun hm => ?_) (Nf q hq).1, (Nf q hq).2⟩⟩
    · exact (hpv _ (hCI _ hm)).2.2.1 (hnx ▸ List.mem_map_of_mem hq)
    · exact (hpv _ (hCI _ hm)).2.2.2 (List.mem_map_of_mem hq)
  have hFF : s'.heap.FunFrames base (env :: outer) := by
    obtain ⟨o, es, ep, ho, hd, _⟩ := F.ns
    exact ⟨by rw [hke]; decide, ⟨env.locals, o, hfe, hbL, ho, fun vs => by rw [hd]; exact fun z => nomatch z⟩, hfro _ fun p hp => (Nf p hp).1⟩
  cases r with
  | nil =>
    refine fr_end hh (nol.keeps O'.stays) hroom Rd O'.stays hFF fun s'' hk hdone hg ho => wpAny_execs_nil (hR1 _ _ ?_)
    obtain ⟨F', N', Nf'⟩ := keep hk
    exact done i m₁ nx s'' hJ (hgs.trans (hg n hng)) (ho.trans hos) F' N' Nf' hdone
  | cons x r =>
    by_cases hx : x < 0
    · refine fr_raise hK (nol.keeps O'.stays) hroom Rd hx O'.stays hFF (hbase _ (hpv C (by simp)).1) (hbase _ (hpv I (by simp)).1) fun e t B s'' Fl ht hBt hB hit hsl hg ho => hR2 _ _ ?_
      have hfm : (env :: outer).filterMap (·.frame) = env.locals :: outer.filterMap (·.frame) := by rw [List.filterMap_cons, hfe]
      rw [hfm] at hB hsl
      have offB : ∀ b, b ∉ [a, C, I] → b ≠ env.locals → b ∉ outer.filterMap (·.frame) → b ∉ C :: I :: env.locals :: outer.filterMap (·.frame) := fun b h1 h2 h3 hm => by
        rcases List.mem_cons.mp hm with z | hm
        · exact h1 (by simp [z])
        · rcases List.mem_cons.mp hm with z | hm
          · exact h1 (by simp [z])
          · rcases List.mem_cons.mp hm with z | hm
            · exact h2 z
            · exact h3 hm
      refine raise i x r m₁ nx e t B s'' hx hJ (hgs.trans (hg n hng)) (ho.trans hos) ?_ ?_ Fl ht hBt hit ?_ ?_
      · intro b o e'
        refine hB b o (F.keep b o e') (offB b (fun hm => by rw [(hpv _ hm).1] at e'; cases e') (Nat.ne_of_lt (Nat.lt_of_lt_of_le (Heap.lt_size e') F.above)) fun hm => by rw [hHf _ hm] at e'; cases e')
      · intro q hq
        refine ⟨hB _ _ (N q hq).1 (offB _ (fun hm => ?_) (N q hq).2.1 (hnf _ (hnx ▸ List.mem_map_of_mem hq))), (N q hq).2⟩
        exact (hpv _ hm).2.2.1 (hnx ▸ List.mem_map_of_mem hq)
      · exact ns_slots F.ns fun o ho _ => hsl _ (.head _) o ho
      · intro p hp'
        exact hsl _ (.tail _ (hfroF p hp')) _ (Nf p hp').1
    · refine fr_next (nol.keeps O'.stays) hroom Rd hx O'.stays hFF fun tk s'' hk hit Rd' hg ho => ?_
      obtain ⟨F', N', Nf'⟩ := keep hk
      refine letGo_name ?_
      refine wpAny_assign_Name (wpAny_storeName_local hxv F'.ns (fun h₅ hn₅ hs₅ => ?_) hp)
      have hk₅ : ∀ b' o, b' ≠ env.locals → s''.heap.get? b' = some o → h₅.get? b' = some o := fun b' o hb e' => hs₅.extBut b' o hb e'
      have F₅ : Fr H env.locals h₅ (fun y => if y = xv then some (.int x tk) else m₁ y) :=
        ⟨hn₅, fun b o e => hk₅ b o (Nat.ne_of_lt (Nat.lt_of_lt_of_le (Heap.lt_size e) F.above)) (F'.keep b o e), F.above⟩
      have hown : ∀ q ∈ fro ++ liveOf h₅ [a, C, I], h₅.get? q.1 = some q.2 ∧ q.1 ≠ env.locals ∧ H.get? q.1 = none := by
        intro q hq
        rcases List.mem_append.mp hq with h | h
        · exact ⟨hk₅ _ _ (Nf' q h).2.1 (Nf' q h).1, (Nf' q h).2⟩
        · obtain ⟨h1, h2⟩ := mem_liveOf.mp (show (q.1, q.2) ∈ _ from h)
          exact ⟨h2, (hpv _ h1).2.1, (hpv _ h1).1⟩
      have N₅ : News H env.locals h₅ (nx ++ (fro ++ liveOf h₅ [a, C, I])) := by
        intro q hq
        rcases List.mem_append.mp hq with h | h
        · exact ⟨hk₅ _ _ (N' q h).2.1 (N' q h).1, (N' q h).2⟩
        · exact hown q h
      have off : OwnOff (fro ++ liveOf h₅ [a, C, I]) (nx.map (·.1)) := by
        intro q hq b hb e
        rcases List.mem_append.mp hq with h | h
        · exact hnf b (hnx ▸ hb) (e ▸ hfroF q h)
        · obtain ⟨h1, h2⟩ := mem_liveOf.mp (show (q.1, q.2) ∈ _ from h)
          exact (hpv _ h1).2.2.1 (e ▸ hnx ▸ hb)
      refine wpAny_mono (turn i x r m₁ nx _ tk { s'' with heap := h₅, toks := s''.toks + 1 } hx hJ off (hgs.trans (hg n hng)) (ho.trans hos) F₅ N₅) (fun f s₃ h₃' => ?_) fun e s₃ h₃' => hR2 e s₃ h₃'
      have fin : TurnEnd H env.locals (J (i + 1) r) (fro ++ liveOf h₅ [a, C, I]) (nx.map (·.1)) { s'' with heap := h₅, toks := s''.toks + 1 } s₃ → ∃ m, m < (x :: r).length ∧ ∃ i r m₁ nx, m = r.length ∧ J i r m₁ nx ∧ nx.map (·.1) = nx₀.map (·.1) ∧ GStep n s.gens s₃.gens ∧ s₃.os = s.os ∧ Fr H env.locals s₃.heap m₁ ∧ News H env.locals s₃.heap nx ∧ News H env.locals s₃.heap fro ∧ FReady w A.in1 base (env :: outer) msg tm C I lv i r a g s₃ := by
        rintro ⟨m', nx', news', F₆, N₆, h1, h2, h3, h4, h5, h6⟩
        refine ⟨r.length, Nat.lt_succ_self _, i + 1, r, m', nx', rfl, h4, h3.trans hnx, ?_, ?_, F₆, fun q hq => N₆ q (h1 q hq), fun q hq => N₆ q (h2 q (List.mem_append_left _ hq)), ?_⟩
        · rw [h5]; exact hgs.trans (hg n hng)
        · rw [h6]; exact ho.trans hos
        · refine Rd'.frame (fun b hb o e => ?_) (by rw [h5])
          rcases List.mem_cons.mp hb with z | hb'
          · exact (N₆ _ (h2 _ (List.mem_append_right _ (mem_liveOf.mpr ⟨by simp [z], hk₅ b o (hpv b (by simp [z])).2.1 e⟩)))).1
          · rcases List.mem_cons.mp hb' with z | hb'
            · exact (N₆ _ (h2 _ (List.mem_append_right _ (mem_liveOf.mpr ⟨by simp [z], hk₅ b o (hpv b (by simp [z])).2.1 e⟩)))).1
            · rcases List.mem_cons.mp hb' with z | hb'
              · exact (N₆ _ (h2 _ (List.mem_append_right _ (mem_liveOf.mpr ⟨by simp [z], hk₅ b o (hpv b (by simp [z])).2.1 e⟩)))).1
              · obtain ⟨ol, hol⟩ := hlv
                have e1 := F'.keep lv ol hol
                rw [List.mem_singleton.mp hb'] at e ⊢
                cases e1.symm.trans e
                exact F₆.keep lv _ hol
      cases f with
      | ret v => exact hR1 _ _ h₃'
      | brk => exact hR1 _ _ h₃'
      | next => exact fin h₃'
      | cont => exact fin h₃'

/-- a for over _fail_neg, at its source's value -/
def FailAtLoop (w : World) (base : Heap) (outer : List Env) (A : Around) (env : Env) (xv : Str) (body : List Stmt) (Q : Flow → Shared → Prop) (E : Value → Shared → Prop) (v : Value) (s : Shared) : Prop :=
  ∃ (H : Heap) (n : Nat) (msg : Str) (tm : Tok) (C I lv : Addr) (fro : List (Addr × Obj)) (J : Nat → List Int → (Str → Option Value) → List (Addr × Obj) → Prop) (r₀ : List Int) (i₀ : Nat) (m₀ : Str → Option Value) (nx₀ : List (Addr × Obj)) (a : Addr) (g : Nat),
    v = .ref a ∧ On base H ∧ base.get? env.locals = none ∧ (∃ o, H.get? lv = some o) ∧ (∀ h : Heap, (∀ p ∈ fro, h.get? p.1 = some p.2) → h.FunFrames base outer) ∧ (∀ p ∈ fro, p.1 ∈ outer.filterMap (·.frame)) ∧ (∀ b ∈ outer.filterMap (·.frame), H.get? b = none) ∧
    n ≤ g ∧ J i₀ r₀ m₀ nx₀ ∧ Fr H env.locals s.heap m₀ ∧ News H env.locals s.heap nx₀ ∧ News H env.locals s.heap fro ∧ FReady w A.in1 base (env :: outer) msg tm C I lv i₀ r₀ a g s ∧
    (∀ b ∈ [a, C, I], H.get? b = none ∧ b ≠ env.locals ∧ b ∉ nx₀.map (·.1) ∧ b ∉ fro.map (·.1)) ∧ (∀ b ∈ nx₀.map (·.1), b ∉ outer.filterMap (·.frame)) ∧
    (∀ i x r m₁ nx own tk s₁, ¬ x < 0 → J i (x :: r) m₁ nx → OwnOff own (nx.map (·.1)) → GStep n s.gens s₁.gens → s₁.os = s.os →
      Fr H env.locals s₁.heap (fun y => if y = xv then some (.int x tk) else m₁ y) → News H env.locals s₁.heap (nx ++ own) →
      wpAny (model prog w) A (execs body env) (fun f s₂ => match f with
        | .ret v => Q (.ret v) s₂
        | .brk => Q .next s₂
        | _ => TurnEnd H env.locals (J (i + 1) r) own (nx.map (·.1)) s₁ s₂) (fun _ _ => False) s₁) ∧
    (∀ i m₁ nx s₁, J i [] m₁ nx → GStep n s.gens s₁.gens → s₁.os = s.os → Fr H env.locals s₁.heap m₁ → News H env.locals s₁.heap nx → News H env.locals s₁.heap fro → IterDone s₁.heap I → Q .next s₁) ∧
    (∀ i x r m₁ nx e t B s₁, x < 0 → J i (x :: r) m₁ nx → GStep n s.gens s₁.gens → s₁.os = s.os → H.StaysIn B → News H env.locals B nx → Fly B (env :: outer) e t .none s₁.heap → s₁.heap.TupAt t [.str msg tm] → B.get? t = none →
      B.IsListIter I lv (i + 1) → s₁.heap.Ns env.locals m₁ → (∀ p ∈ fro, ∃ sl, s₁.heap.get? p.1 = some { p.2 with slots := sl }) → E (.ref e) s₁)

theorem fail_For {A : Around} {env : Env} {xv : Str} {p1 pos : Pos} {iter : Expr} {body : List Stmt} {Q : Flow → Shared → Prop} {E : Value → Shared → Prop} (hE : PassesOwn (model prog w) A env E)
    (hxv : env.kindOf xv = some .local) (hp : (env.scope.kind == .class || (env.scope.kind == .module && env.locals != env.globals)) = false) (hfe : env.frame = some env.locals) (hke : env.scope.kind = .function)
    (hh : A.handled = none) (hroom : A.depth < recursionLimit) (hK : (hd.heap_39 w.params).In base) (nol : base.NoLimit)
    (hs : ∀ x, foldedSetIterable iter env x = pure x)
    (h : wpAny (model prog w) A (eval iter env) (fun v s' => FailAtLoop w base outer A env xv body Q E v s') E s) :
    wpAny (model prog w) A (exec (.For (.Name xv p1) iter body [] pos) env) Q E s := by
  refine wpAny_For (wpAny_mono h (fun v s' h' => ?_) fun _ _ x => x) hs
  obtain ⟨H, n, msg, tm, C, I, lv, fro, J, r₀, i₀, m₀, nx₀, a, g, rfl, O, hbL, hlv, hfro, hfroF, hHf, hng, hJ, F, N, Nf, Rd, hpv, hnf, turn, done, raise⟩ := h'
  refine wpAny_pyIter_gen Rd.gen ?_
  exact fail_forLoop (ER := E) hxv hp hfe hke hh hroom hK O nol hbL hlv fro hfro hfroF hHf J (fun i x r m₁ nx own tk s₁ h1 h2 h3 h4 h5 h6 h7 => wpAny_mono (turn i x r m₁ nx own tk s₁ h1 h2 h3 h4 h5 h6 h7) (fun _ _ x => x) fun _ _ x => x.elim) done raise (fun f s' h => h) (fun e s' h => hE e s' h) hng hJ F N Nf Rd hpv hnf
end
end Mine
end

section
open PySem PySem.W PyProof.Rows PySem.Calls PySem.Spec
set_option maxRecDepth 100000
set_option maxHeartbeats 8000000
set_option linter.unusedVariables false
namespace Mine
theorem fillM0 : PySem.Challenge.rw_nb0062_01.foot = 10 ∨ (∀ P, hd.heap_39 P = []) := by
  w_top off
  k_fill
  left; rfl
theorem binds2 {a b : Str} {v u : Value} : (fun y : Str => ([(a, v), (b, u)] : List (Str × Value)).reverse.lookup y) = fun y => if y = b then some u else if y = a then some v else none := by
  funext y
  by_cases hy : y = b
  · subst hy; simp [List.lookup]
  · have h1 : (y == b) = false := by simpa using hy
    by_cases hz : y = a
    · subst hz; simp [List.lookup, h1, hy]
    · have h2 : (y == a) = false := by simpa using hz
      simp [List.lookup, h1, h2, hy, hz]

theorem binds4 {a b c d : Str} {v u x z : Value} : (fun y : Str => ([(a, v), (b, u), (c, x), (d, z)] : List (Str × Value)).reverse.lookup y) = fun y => if y = d then some z else if y = c then some x else if y = b then some u else if y = a then some v else none := by
  funext y
  by_cases h1 : y = d
  · subst h1; simp [List.lookup]
  · have e1 : (y == d) = false := by simpa using h1
    by_cases h2 : y = c
    · subst h2; simp [List.lookup, e1, h1]
    · have e2 : (y == c) = false := by simpa using h2
      by_cases h3 : y = b
      · subst h3; simp [List.lookup, e1, e2, h1, h2]
      · have e3 : (y == b) = false := by simpa using h3
        by_cases h4 : y = a
        · subst h4; simp [List.lookup, e1, e2, e3, h1, h2, h3]
        · have e4 : (y == a) = false := by simpa using h4
          simp [List.lookup, e1, e2, e3, e4, h1, h2, h3, h4]

theorem binds35_2 {w : World} {s : Shared} {I : Addr} {x : Str} {t : Tok} (X : (hd.heap_39 w.params).In s.heap)  : BindsTo s (fdAt w 35) ⟨[.ref I, .str x t], []⟩ [(Str.ofString "values", .ref I), (Str.ofString "errmsg", .str x t)] := by
  refine' with_lookup (a := 35) (K := hd.heap_39 w.params) ?h ?_
  case h => k_is
  intro e
  unfold fdAt
  rw [e]
  dsimp only
  exact binds_K X rfl (by k_is) rfl rfl rfl
theorem binds35_1 {w : World} {I : Addr} : ∃ t, ∀ s : Shared, (hd.heap_39 w.params).In s.heap → BindsTo s (fdAt w 35) ⟨[.ref I], []⟩ [(Str.ofString "values", .ref I), (Str.ofString "errmsg", .str (Str.ofString "negative value") t)] := by
  refine' with_lookup (a := 35) (K := hd.heap_39 w.params) ?h ?_
  case h => k_is
  intro e
  unfold fdAt
  rw [e]
  dsimp only
  exact ⟨_, fun s X => binds_K X rfl (by k_is) rfl rfl rfl⟩
theorem iter_list {w : World} {A : Around} {E : Value → Shared → Prop} {s : Shared} {l : Addr} {items : Array Value} {Q : Value → Shared → Prop} (hl : s.heap.IsList l items)
    (hQ : Q (.ref s.heap.objs.size) { s with heap := s.heap.push { cls := .type "list_iterator", data := .fields #[.ref l, .int 0 0] } }) : wpAny (model prog w) A (call (.builtin "iter") [.ref l]) Q E s := by
  refine call_function_entry (by decide +kernel) (by decide +kernel) kdk_entry_iter (kdk_args_iter _) ?_
  unfold Builtin.«iter»
  refine wpAny_bind (m := someArgs "iter" 1 2 _) (wpAny_of_eq (a := [Value.ref l]) (by first | rfl | kernel_rfl!) ?_)
  show wpAny _ _ (pyIter (.ref l) >>= _) _ _ _
  exact wpAny_bind (wpAny_pyIter_list hl (wpAny_pure ⟨_, rfl, hQ⟩))


section
variable {w : World} {mean : ExcName → Option Value} {mg mb : Str → Option Value} {base : Heap} {dp un : Nat} {gd : Option (List Code)} {outer : List Env} {E : Value → Shared → Prop} {s : Shared}

def GuJ (D I : Addr) (cs : List Int) (i : Nat) (r : List Int) (m : Str → Option Value) (nx : List (Addr × Obj)) : Prop :=
  ∃ (vs : Array Value) (n : Nat), m (Str.ofString "through") = some (.ref D) ∧ m (Str.ofString "source") = some (.ref I) ∧ nx = [(D, W.listOf vs n)] ∧ IntsAre vs.toList (cs.take i) ∧ cs.drop i = r ∧ (∀ x ∈ cs.take i, ¬ x < 0) ∧ i ≤ cs.length

/-- the values that come through -/
def passN : List Int → Nat
  | [] => 0
  | x :: r => if x < 0 then 0 else passN r + 1

theorem drop_take {cs r : List Int} {x : Int} {i : Nat} (h : cs.drop i = x :: r) : cs.take (i + 1) = cs.take i ++ [x] ∧ cs.drop (i + 1) = r ∧ i < cs.length := by
  have hl : i < cs.length := by
    have := congrArg List.length h
    simp at this; omega
  have hx : cs[i] = x := by
    have h1 := List.drop_eq_getElem_cons hl
    rw [h] at h1
    exact (List.cons.inj h1).1.symm
  refine ⟨by rw [List.take_succ_eq_append_getElem hl, hx], ?_, hl⟩
  rw [← List.drop_drop, h]; rfl
theorem passN_all : ∀ {cs : List Int}, (∀ x ∈ cs, ¬ x < 0) → passN cs = cs.length
  | [], _ => rfl
  | x :: r, h => by
    have h1 := h x (.head _)
    simp only [passN, if_neg h1, List.length_cons]
    rw [passN_all fun y hy => h y (.tail _ hy)]
theorem passN_at : ∀ {i : Nat} {cs r : List Int} {x : Int}, cs.drop i = x :: r → (∀ y ∈ cs.take i, ¬ y < 0) → x < 0 → passN cs = i
  | 0, cs, r, x, h, _, hx => by
    rw [show cs = x :: r from h]; simp [passN, hx]
  | i + 1, [], r, x, h, _, _ => by cases h
  | i + 1, y :: cs, r, x, h, ha, hx => by
    have h1 := ha y (.head _)
    simp only [passN, if_neg h1]
    rw [passN_at (i := i) (cs := cs) h (fun z hz => ha z (.tail _ hz)) hx]

theorem items_drop {items acc : Array Value} {k : Nat} (h : ItemsOf (fun j v => items[k + j]? = some v) acc (items.size - k)) : acc.toList = items.toList.drop k := by
  apply List.ext_getElem?
  intro j
  rw [Array.getElem?_toList, List.getElem?_drop, Array.getElem?_toList]
  by_cases hj : j < acc.size
  · have e : acc[j]? = some acc[j] := by simp [hj]
    rw [e]; exact (h.2 j _ e).symm
  · have h1 : acc[j]? = none := by simp; omega
    have h2 : items[k + j]? = none := by
      have := h.1
      simp; omega
    rw [h1, h2]

theorem guarded_tail (G : Ground w mean mg mb base) {H : Heap} (OH : On base H) (hdp : dp + 20 < recursionLimit) (hun : un + 100 < cLine) {L : Addr}
    {fro : List (Addr × Obj)} (hfro : ∀ h : Heap, (∀ p ∈ fro, h.get? p.1 = some p.2) → h.FunFrames base outer) (hfroF : ∀ p ∈ fro, p.1 ∈ outer.filterMap (·.frame)) (hHf : ∀ b ∈ outer.filterMap (·.frame), H.get? b = none)
    {C I lv D a : Addr} {g n : Nat} {msg : Str} {tm : Tok} {items : Array Value} {nl : Nat} {cs : List Int} {m : Str → Option Value}
    (F : Fr H L s.heap (fun y => if y = Str.ofString "guard" then some (.ref a) else if y = Str.ofString "through" then some (.ref D) else if y = Str.ofString "source" then some (.ref I) else m y))
    (N : News H L s.heap [(D, W.listOf #[] 0)]) (Nf : News H L s.heap fro)
    (Rd : FReady w ((Around.deeper (Ar dp un gd outer) (envAt w 103 L)).in1) base (envAt w 103 L :: outer) msg tm C I lv 0 cs a g s)
    (hlv : H.get? lv = some (W.listOf items nl)) (hcs : IntsAre items.toList cs) (hlen : cs.length ≤ 100) (hng : n ≤ g)
    (hpv : ∀ b ∈ [a, C, I], H.get? b = none ∧ b ≠ L ∧ b ∉ [D] ∧ b ∉ fro.map (·.1)) (hDf : D ∉ outer.filterMap (·.frame)) (hLD : L < D) (hIl : I ≠ lv)
    {QQ : Flow → Shared → Prop}
    (hQ : ∀ T D₂ vr vs₁ n₁ vs₂ n₂ s', H.StaysIn s'.heap → (∀ p ∈ fro, ∃ sl, s'.heap.get? p.1 = some { p.2 with slots := sl }) → GStep n s.gens s'.gens → s'.os = s.os → L < T → L < D₂ →
      s'.heap.get? T = some { cls := .type "tuple", data := .seq #[.ref D, vr, .ref D₂] } → s'.heap.get? D = some (W.listOf vs₁ n₁) → s'.heap.get? D₂ = some (W.listOf vs₂ n₂) →
      IntsAre vs₁.toList (cs.take (passN cs)) → IntsAre vs₂.toList (cs.drop (passN cs + 1)) → (if passN cs = cs.length then vr = .none else ∃ t, vr = .str msg t) → QQ (.ret (.ref T)) s') :
    wpAny (model prog w) (Around.deeper (Ar dp un gd outer) (envAt w 103 L)) (execs ((bodyAt w 103).drop 3) (envAt w 103 L)) QQ (fun _ _ => False) s := by
  have GH := G.keeps OH.stays
  have X := GH.K
  have T := GH.T
  refine' with_lookup (a := 103) (K := hd.heap_39 w.params) ?h ?_
  case h => k_is
  intro e
  unfold bodyAt envAt fdAt at *
  rw [e] at Rd ⊢
  clear e
  dsimp only [List.drop_succ_cons, List.drop_zero] at Rd ⊢
  refine wpAny_execs_cons ?_
  refine wpAny_Try_except ?_
  refine wpAny_execs_cons ?_
  refine fail_For (outer := outer) (base := base) PassesOwn.looking rfl rfl rfl rfl rfl (by show dp + 1 < recursionLimit; omega) G.K G.T.nolimit (by intro _; rfl) ?_
  walk1
  have hbL : base.get? L = none := by
    cases q : base.get? L with
    | none => rfl
    | some o => exact absurd (Heap.lt_size q) (Nat.not_lt.mpr (Nat.le_trans OH.size F.above))
  refine ⟨H, n, msg, tm, C, I, lv, fro, GuJ D I cs, cs, 0, _, [(D, W.listOf #[] 0)], a, g, rfl, OH, hbL, ⟨_, hlv⟩, hfro, hfroF, hHf, hng, ⟨#[], 0, rfl, rfl, rfl, .nil, rfl, (fun x hx => nomatch hx), Nat.zero_le _⟩, F, N, Nf, Rd, hpv, (fun b hb => by rw [List.mem_singleton.mp hb]; exact hDf), ?turn, ?done, ?raise⟩
  case turn =>
    intro i x r m₁ nx own tk s₁ hx hJ off hgs hos F₁ N₁
    obtain ⟨vs, nn, hth, hso, rfl, hints, hdr, hnn, hil⟩ := hJ
    have F₂ := fr_put (Str.ofString "source") (fr_put (Str.ofString "through") F₁ hth) hso
    clear F₁ F N
    obtain ⟨htk, hdk, hlt⟩ := drop_take hdr
    have hvl : vs.size ≤ 100 := by
      have h1 := IntsAre.length hints
      rw [Array.length_toList] at h1
      simp at h1; omega
    k_steps
    refine TurnEnd.mk' (nx := [(D, W.listOf (vs.push (.int x _)) (nn + 1))]) (by assumption) (by assumption) ⟨_, _, rfl, rfl, rfl, ?_, hdk, ?_, hlt⟩ rfl (fun q hq => by rw [List.mem_singleton.mp hq]; exact .head _) (fun q hq => .tail _ hq) rfl rfl
    · rw [htk]; exact ints_push hints
    · rw [htk]
      intro y hy
      rcases List.mem_append.mp hy with h | h
      · exact hnn y h
      · rw [List.mem_singleton.mp h]; exact hx
  case done =>
    intro i m₁ nx s₁ hJ hgs hos F₁ N₁ Nf₁ hdone
    obtain ⟨vs, nn, hth, hso, rfl, hints, hdr, hnn, hil⟩ := hJ
    have F₂ := fr_put (Str.ofString "source") (fr_put (Str.ofString "through") F₁ hth) hso
    clear F₁ F N
    dsimp only
    k_steps
    have hI₁ : I < s₁.heap.objs.size := let ⟨_, _, e, _⟩ := hdone; Heap.lt_size e
    refine call_list_li (walksOver (es := [])) (fun _ _ st => let ⟨o, _, e, hc, _⟩ := st.1; ⟨o, e, hc⟩) ⟨hdone, .inl ⟨rfl, rfl⟩⟩ (fun b hb => by rw [List.mem_singleton.mp hb]; exact hI₁) (by simp) (fun s₂ acc' c' hm hS hacc => ?_) (by decide)
    have hLs : L < s₁.heap.objs.size := F₂.ns.lt
    have hkp : ∀ b o, b ≠ I → s₁.heap.get? b = some o → s₂.heap.get? b = some o := fun b o hb e' => hm.heap b o (fun hm' => by
      rcases List.mem_cons.mp hm' with z | z
      · exact absurd (Heap.lt_size e') (z ▸ Nat.lt_irrefl _)
      · exact hb (List.mem_singleton.mp z)) (Heap.get?_push_of_some _ e')
    have hHI := (hpv I (by simp))
    have F₃ : Fr H L s₂.heap (fun y => if y = Str.ofString "source" then some (.ref I) else if y = Str.ofString "through" then some (.ref D) else m₁ y) :=
      ⟨F₂.ns.at fun o e' => hkp L o (Ne.symm hHI.2.1) e', fun b o e' => hkp b o (fun z => by rw [z, hHI.1] at e'; cases e') (F₂.keep b o e'), F₂.above⟩
    have hSn : H.get? s₁.heap.objs.size = none := by
      cases q : H.get? s₁.heap.objs.size with
      | none => rfl
      | some o => exact absurd (Heap.lt_size (F₂.keep _ _ q)) (Nat.lt_irrefl _)
    have N₃ : News H L s₂.heap ((s₁.heap.objs.size, W.listOf acc' c') :: (D, W.listOf vs nn) :: fro) := by
      intro q hq
      rcases List.mem_cons.mp hq with rfl | hq
      · exact ⟨hS, Nat.ne_of_gt hLs, hSn⟩
      · rcases List.mem_cons.mp hq with rfl | hq
        · exact ⟨hkp _ _ (fun z => hHI.2.2.1 (by rw [show I = D from z.symm]; exact .head _)) (N₁ _ (.head _)).1, (N₁ _ (.head _)).2⟩
        · exact ⟨hkp _ _ (fun z => hHI.2.2.2 (z ▸ List.mem_map_of_mem hq)) (Nf₁ q hq).1, (Nf₁ q hq).2⟩
    clear F₂ N₁ Nf₁ Nf
    have hg₂ : GStep n s.gens s₂.gens := by rw [← show s₁.gens = s₂.gens from hm.gens]; exact hgs
    have ho₂ : s₂.os = s.os := (show s₂.os = s₁.os from hm.os).trans hos
    k_steps
    rename_i T' h' F₄ N₄ hlt
    have hall : cs.take i = cs := List.take_of_length_le (List.drop_eq_nil_iff.mp hdr)
    rw [hall] at hints hnn
    have hp := passN_all hnn
    have hae : acc' = #[] := Array.size_eq_zero_iff.mp hacc.1
    refine hQ T' s₁.heap.objs.size .none vs nn acc' c' _ F₄.keep (fun p hp => ⟨p.2.slots, (N₄ p (.tail _ (.tail _ (.tail _ hp)))).1⟩) hg₂ ho₂ (Nat.lt_trans hLD hlt.2.1) hLs (N₄ _ (.head _)).1 (N₄ _ (.tail _ (.tail _ (.head _)))).1 (N₄ _ (.tail _ (.head _))).1 ?_ ?_ ?_
    · rw [hp, List.take_of_length_le (Nat.le_refl _)]; exact hints
    · rw [hp, List.drop_eq_nil_of_le (Nat.le_succ _), hae]; exact .nil
    · rw [if_pos hp]
  case raise =>
    intro i x r m₁ nx e t B s₁ hx hJ hgs hos hHB NB Fl ht hBt hit hns hsl
    obtain ⟨vs, nn, hth, hso, rfl, hints, hdr, hnn, hil⟩ := hJ
    refine fly_on (Around.frames_deeper rfl) rfl Fl fun h₂ Fl₂ u₂ => ?_
    refine fly_flight (s := { s₁ with heap := h₂ }) Fl₂ none fun h₃ Fl₃ u₃ => ?_
    have F₃ : Fr H L h₃ m₁ := ⟨ns_slots hns fun o ho hnf => (u₂.trans u₃) L o ho hnf, fun b o e' => Fl₃.stays b o (hHB b o e'), F.above⟩
    have N₃ : News H L h₃ [] := News.nil
    have hHI := (hpv I (by simp))
    have hab := F.above
    clear F N
    refine wpAny_handleBy_cons (codeAny_handlers_test ?_) (by intro q; cases q)
    walk1
    obtain ⟨oe, ws, Tb, oT, ts, he, hc, hd', h0, h1, h2, _⟩ := id Fl₃.exc
    obtain ⟨bm, Nn, nm, qn, bs, hdct, sn, sub, ab, col, dd, k0, k1, k2, k3, k5, mN, hC, hN, hni, TL⟩ := ((own_of_in (x := Str.ofString "StatisticsError") (C := 24) (bmB := [.type "ValueError", .type "Exception", .type "BaseException", .type "object"]) (newId := "ValueError.__new__") X (by k_asm) (by k_is) (by k_exc)).keeps F₃.keep).obj
    refine wpAny_excMatches_sub_self hC he hc (TL.hasType rfl) (codeAny_handlers_suite_as ?_)
    refine fly_flight (s := { s₁ with heap := h₃ }) Fl₃ none fun h₄ Fl₄ u₄ => ?_
    have u := (u₂.trans u₃).trans u₄
    clear F₃ N₃ he hc hd' h0 h1 h2
    obtain ⟨oe, ws, Tb, oT, ts, he, hc, hd', h0, h1, h2, _⟩ := id Fl₄.exc
    obtain ⟨ot, nt, hto, htc, htd⟩ := Heap.TupAt.of_slots ht u
    obtain ⟨oi, hoi, hic, hid⟩ := hit
    have F₄ : Fr H L h₄ m₁ := ⟨ns_slots hns fun o ho hnf => u L o ho hnf, fun b o e' => Fl₄.stays b o (hHB b o e'), Nat.le_trans (Nat.le_refl _) hab⟩
    have hBH : ∀ b, B.get? b = none → H.get? b = none := fun b hb => by
      cases q : H.get? b with
      | none => rfl
      | some o => have := hHB b o q; rw [hb] at this; cases this
    have hLd : ∀ b o, h₄.get? b = some o → (∀ es n, o.data ≠ .dict es n) → b ≠ L := fun b o hb hn z => by
      obtain ⟨oL, es, ep, hL', hd₂, _⟩ := F₄.ns
      rw [z, hL'] at hb
      cases hb
      exact hn _ _ hd₂
    have hfr₄ : ∀ p ∈ fro, ∃ sl, h₄.get? p.1 = some { p.2 with slots := sl } := fun p hp => by
      obtain ⟨sl, e1⟩ := hsl p hp
      obtain ⟨_, o', e2, hnf⟩ := Fl.frames.2.2.mem (hfroF p hp)
      rw [e1] at e2
      cases e2
      obtain ⟨sl', e3⟩ := u _ _ e1 hnf
      exact ⟨sl', e3⟩
    have N₄ : News H L h₄ ((D, W.listOf vs nn) :: (e, oe) :: (t, ot) :: (I, oi) :: liveOf h₄ (fro.map (·.1))) := by
      intro q hq
      rcases List.mem_cons.mp hq with rfl | hq
      · exact ⟨Fl₄.stays _ _ (NB _ (.head _)).1, (NB _ (.head _)).2⟩
      · rcases List.mem_cons.mp hq with rfl | hq
        · exact ⟨he, hLd _ _ he (fun es n z => by rw [hd'] at z; cases z), hBH _ Fl₄.newE⟩
        · rcases List.mem_cons.mp hq with rfl | hq
          · exact ⟨hto, hLd _ _ hto (fun es n z => by rw [htd] at z; cases z), hBH _ hBt⟩
          · rcases List.mem_cons.mp hq with rfl | hq
            · exact ⟨Fl₄.stays _ _ hoi, hHI.2.1, hHI.1⟩
            · obtain ⟨h1, h2⟩ := mem_liveOf.mp (show (q.1, q.2) ∈ _ from hq)
              obtain ⟨p, hp, hpe⟩ := List.mem_map.mp h1
              exact ⟨h2, by rw [← hpe]; exact (Nf p hp).2.1, by rw [← hpe]; exact (Nf p hp).2.2⟩
    have F₅ := fr_put (Str.ofString "source") (fr_put (Str.ofString "through") F₄ hth) hso
    have hIe : I ≠ e := fun z => by
      have := Fl₄.newE
      rw [← z, hoi] at this; cases this
    clear F₄ Fl Fl₂ Fl₃ u₂ u₃ u₄ hns
    obtain ⟨htk, hdk, hlt⟩ := drop_take hdr
    refine wpAny_noRaise ?_
    walk1
    refine wpAny_noRaise ?_
    k_steps
    rename_i h₆ F₆ N₆
    refine str_exc (by show un + 3 + 1 + 1 < cLine; omega) (X.keeps F₆.keep) (N₆ _ (.tail _ (.head _))).1 hc hd' h0 ⟨ot, nt, (N₆ _ (.tail _ (.tail _ (.head _)))).1, htc, htd⟩ ?_
    k_steps
    have hI₆ := (N₆ _ (.tail _ (.tail _ (.tail _ (.head _))))).1
    have he₆ := (N₆ _ (.tail _ (.head _))).1
    have hl₆ := F₆.keep _ _ hlv
    have hlc := IntsAre.length hcs
    rw [Array.length_toList] at hlc
    refine call_list_li (walksLI (es := [e]) (I := I) (lv := lv) (i := i + 1) (items := items) (Ne.symm hIl) (by simpa using hIe) (by omega)) (fun _ _ st => st.1.typeIs) ⟨⟨oi, hI₆, hic, hid⟩, ⟨_, hl₆, rfl, nl, rfl⟩, .inr ⟨e, oe, ws, rfl, rfl, he₆, hd', h2⟩⟩ (fun b hb => ?_) (by simp) (fun s₂ acc' c' hm hS hacc => ?_) (Nat.le_trans (Nat.sub_le _ _) (by rw [hlc]; exact Nat.le_trans hlen (by decide)))
    · rcases List.mem_cons.mp hb with z | hb
      · rw [z]; exact Heap.lt_size hI₆
      · rcases List.mem_cons.mp hb with z | hb
        · rw [z]; exact Heap.lt_size hl₆
        · rw [List.mem_singleton.mp hb]; exact Heap.lt_size he₆
    dsimp only at hm hS
    have hLs : L < h₆.objs.size := F₆.ns.lt
    have hkp : ∀ b o, b ≠ I → h₆.get? b = some o → s₂.heap.get? b = some o := fun b o hb e' => hm.heap b o (fun hm' => by
      rcases List.mem_cons.mp hm' with z | z
      · exact absurd (Heap.lt_size e') (z ▸ Nat.lt_irrefl _)
      · exact hb (List.mem_singleton.mp z)) (Heap.get?_push_of_some _ e')
    have F₇ : Fr H L s₂.heap (fun y => if y = Str.ofString "refusal" then some (.ref e) else if y = Str.ofString "source" then some (.ref I) else if y = Str.ofString "through" then some (.ref D) else m₁ y) :=
      ⟨F₆.ns.at fun o e' => hkp L o (Ne.symm hHI.2.1) e', fun b o e' => hkp b o (fun z => by rw [z, hHI.1] at e'; cases e') (F₆.keep b o e'), F₆.above⟩
    have hSn : H.get? h₆.objs.size = none := by
      cases q : H.get? h₆.objs.size with
      | none => rfl
      | some o => exact absurd (Heap.lt_size (F₆.keep _ _ q)) (Nat.lt_irrefl _)
    have N₇ : News H L s₂.heap ((h₆.objs.size, W.listOf acc' c') :: (D, W.listOf vs nn) :: liveOf h₄ (fro.map (·.1))) := by
      intro q hq
      rcases List.mem_cons.mp hq with rfl | hq
      · exact ⟨hS, Nat.ne_of_gt hLs, hSn⟩
      · rcases List.mem_cons.mp hq with rfl | hq
        · exact ⟨hkp _ _ (fun z => hHI.2.2.1 (by rw [show I = D from z.symm]; exact .head _)) (N₆ _ (.head _)).1, (N₆ _ (.head _)).2⟩
        · have h9 := N₆ q (.tail _ (.tail _ (.tail _ (.tail _ hq))))
          obtain ⟨h1, _⟩ := mem_liveOf.mp (show (q.1, q.2) ∈ _ from hq)
          exact ⟨hkp _ _ (fun z => hHI.2.2.2 (z ▸ h1)) h9.1, h9.2⟩
    have hg₂ : GStep n s.gens s₂.gens := by rw [← show s₁.gens = s₂.gens from hm.gens]; exact hgs
    have ho₂ : s₂.os = s.os := (show s₂.os = s₁.os from hm.os).trans hos
    clear F₆ N₆
    generalize h₆.objs.size = S₂ at *
    k_steps
    rename_i T' _ _ _ hlt' h₈ _ F₈ N₈
    have hp := passN_at hdr hnn hx
    refine hQ T' S₂ (.str msg tm) vs nn acc' c' _ F₈.keep (fun p hp => ?_) hg₂ ho₂ (Nat.lt_trans hLD hlt'.2.1) hLs (N₈ _ (.head _)).1 (N₈ _ (.tail _ (.tail _ (.head _)))).1 (N₈ _ (.tail _ (.head _))).1 ?_ ?_ ?_
    · obtain ⟨sl, e1⟩ := hfr₄ p hp
      exact ⟨sl, (N₈ _ (.tail _ (.tail _ (.tail _ (mem_liveOf.mpr ⟨List.mem_map_of_mem hp, e1⟩))))).1⟩
    · rw [hp]; exact hints
    · rw [hp, items_drop hacc]; exact hcs.drop _
    · rw [if_neg (by omega)]; exact ⟨_, rfl⟩
end
end Mine
end

section
open PySem PySem.W PyProof.Rows PySem.Calls PySem.Spec
set_option maxRecDepth 100000
set_option maxHeartbeats 8000000
set_option linter.unusedVariables false
namespace Mine
theorem fillM1 : PySem.Challenge.rw_nb0062_01.foot = 10 ∨ (∀ P, hd.heap_39 P = []) := by
  w_top off
  k_fill
  left; rfl

/-- all that was there stands; the callers' frames up to their slots -/
structure AfterG (outer : List Env) (s s' : Shared) : Prop where
  keep : ∀ b o, b ∉ outer.filterMap (·.frame) → s.heap.get? b = some o → s'.heap.get? b = some o
  frames : ∀ b ∈ outer.filterMap (·.frame), ∀ o, s.heap.get? b = some o → ∃ sl, s'.heap.get? b = some { o with slots := sl }
  gens : GStep s.gens.size s.gens s'.gens
  os : s'.os = s.os

/-- the words that are given, or the usual ones -/
def wordsOr (words : Str) : Str := if words.length = 0 then Str.ofString "negative value" else words

theorem funFrames_live {h : Heap} {base : Heap} : ∀ {outer : List Env}, h.FunFrames base outer → ∀ h' : Heap, (∀ p ∈ liveOf h (outer.filterMap (·.frame)), h'.get? p.1 = some p.2) → h'.FunFrames base outer
  | [], _, _, _ => trivial
  | env :: rest, ⟨hk, ⟨L, o, hf, hn, ho, hd⟩, hr⟩, h', hall => by
    rw [List.filterMap_cons, hf] at hall
    exact ⟨hk, ⟨L, o, hf, hn, hall (L, o) (mem_liveOf.mpr ⟨.head _, ho⟩), hd⟩, funFrames_live hr h' fun p hp => hall p (by
      obtain ⟨h1, h2⟩ := mem_liveOf.mp (show (p.1, p.2) ∈ _ from hp)
      exact mem_liveOf.mpr ⟨.tail _ h1, h2⟩)⟩

section
variable {w : World} {mean : ExcName → Option Value} {mg mb : Str → Option Value} {base : Heap} {dp un : Nat} {gd : Option (List Code)} {outer : List Env} {E : Value → Shared → Prop} {s : Shared}

theorem guarded_spec (G : Ground w mean mg mb base) (O : On base s.heap) (hfr : s.heap.FunFrames base outer) (hdp : dp + 30 < recursionLimit) (hun : un + 200 < cLine) {lv : Addr} {items : Array Value} {nl : Nat} {cs : List Int} {words : Str} {tw : Tok}
    (hl : s.heap.get? lv = some (W.listOf items nl)) (hlf : lv ∉ outer.filterMap (·.frame)) (hcs : IntsAre items.toList cs) (hlen : cs.length ≤ 100) (hwl : words.length ≤ 1000) {Q : Value → Shared → Prop}
    (hQ : ∀ T D D₂ vr vs₁ n₁ vs₂ n₂ s', AfterG outer s s' → s.heap.objs.size ≤ T → s.heap.objs.size ≤ D → s.heap.objs.size ≤ D₂ →
      s'.heap.get? T = some { cls := .type "tuple", data := .seq #[.ref D, vr, .ref D₂] } → s'.heap.get? D = some (W.listOf vs₁ n₁) → s'.heap.get? D₂ = some (W.listOf vs₂ n₂) →
      IntsAre vs₁.toList (cs.take (passN cs)) → IntsAre vs₂.toList (cs.drop (passN cs + 1)) → (if passN cs = cs.length then vr = .none else ∃ t, vr = .str (wordsOr words) t) → Q (.ref T) s') :
    wpAny (model prog w) (Ar dp un gd outer) (call (.ref 103) [.ref lv, .str words tw]) Q E s := by
  have G₀ := G.keeps O.stays
  have st : base.StaysIn (hideAll s.heap (outer.filterMap (·.frame))) := fun b o e => hideAll_get _ (O.stays b o e) fun hm => by rw [(hfr.mem hm).1] at e; cases e
  have GH := G.keeps st
  have X := GH.K
  have T := GH.T
  refine wpAny_call ?_
  k_dflt (refine' enterF ?k1 ?k6 ?k7 ?k8 ?k9 ?kB ?kM ?_ ?c2 ?c3 ?c4 ?c5; (case k1 => exact G₀); (case k6 => k_is); (case k7 => k_is); (case k8 => (dsimp only; omega)); (case k9 => exact BindsTo.of_eq rfl); (case c5 => decide); (case kB => exact locs rfl); (case c2 => exact rfl); (case c3 => exact rfl); (case c4 => exact rfl); (case kM => exact binds2))
  intro L h₁ hL F₀ N₀
  (try dsimp only)
  generalize hq : (fun (fl : Flow) (s' : Shared) => Q (match fl with | Flow.ret v => v | x => Value.none) s') = QQ
  have F : Fr (hideAll s.heap (outer.filterMap (·.frame))) L h₁ _ := ⟨F₀.ns, fun b o e => F₀.keep b o (of_hideAll _ e), by rw [hideAll_size]; exact F₀.above⟩
  have N : News (hideAll s.heap (outer.filterMap (·.frame))) L h₁ (liveOf s.heap (outer.filterMap (·.frame))) := fun p hp => by
    obtain ⟨h1, h2⟩ := mem_liveOf.mp (show (p.1, p.2) ∈ _ from hp)
    exact ⟨F₀.keep _ _ h2, by rw [hL]; exact Nat.ne_of_lt (Heap.lt_size h2), hideAll_none _ h1⟩
  have hlH : (hideAll s.heap (outer.filterMap (·.frame))).get? lv = some (W.listOf items nl) := hideAll_get _ hl hlf
  have hHf : ∀ b ∈ outer.filterMap (·.frame), (hideAll s.heap (outer.filterMap (·.frame))).get? b = none := fun b hb => hideAll_none _ hb
  have hfro := funFrames_live hfr
  have hfL : ∀ b ∈ outer.filterMap (·.frame), b < L := fun b hb => by
    obtain ⟨_, o, ho, _⟩ := hfr.mem hb
    rw [hL]; exact Heap.lt_size ho
  have OH : On base (hideAll s.heap (outer.filterMap (·.frame))) := ⟨st, by rw [hideAll_size]; exact O.size⟩
  have hfroF : ∀ p ∈ liveOf s.heap (outer.filterMap (·.frame)), p.1 ∈ outer.filterMap (·.frame) := fun p hp => (mem_liveOf.mp (show (p.1, p.2) ∈ _ from hp)).1
  have hHs : ∀ b o, b ∉ outer.filterMap (·.frame) → s.heap.get? b = some o → (hideAll s.heap (outer.filterMap (·.frame))).get? b = some o := fun b o hb e => hideAll_get _ e hb
  have hfs : ∀ b ∈ outer.filterMap (·.frame), ∀ o, s.heap.get? b = some o → (b, o) ∈ liveOf s.heap (outer.filterMap (·.frame)) := fun b hb o e => mem_liveOf.mpr ⟨hb, e⟩
  clear F₀ N₀
  generalize hH : hideAll s.heap (outer.filterMap (·.frame)) = H at *
  generalize hfo : liveOf s.heap (outer.filterMap (·.frame)) = fro at *
  k_steps
  have hlL : h₁.IsList lv items := ⟨_, F.keep _ _ hlH, rfl, nl, rfl⟩
  refine iter_list hlL ?_
  have F₁ := F.push (o := { cls := .type "list_iterator", data := .fields #[.ref lv, .int 0 0] })
  have N₁ := News.push F N { cls := .type "list_iterator", data := .fields #[.ref lv, .int 0 0] } rfl
  have hltI : lv < h₁.objs.size := let ⟨_, e, _⟩ := hlL; Heap.lt_size e
  have hLI : L < h₁.objs.size := F.ns.lt
  clear F N
  generalize h₁.objs.size = I at *
  generalize h₁.push { cls := .type "list_iterator", data := .fields #[.ref lv, .int 0 0] } = h₂ at *
  k_steps
  all_goals
    rename_i D _ hID _ F₂ N₂ hw
    have hI₂ := (N₂ _ (.tail _ (.head _)))
    have hbI : base.get? I = none := by
      cases q : base.get? I with
      | none => rfl
      | some o => exact absurd (st _ _ q) (by rw [hI₂.2.2]; exact fun z => nomatch z)
    have O₂ := OH.fr F₂
  rotate_left
  · obtain ⟨tn, hb⟩ := binds35_1 (w := w) (I := I)
    refine wpAny_call (fail_call G O₂ (by show dp + 1 < recursionLimit; omega) (hb _ (X.keeps F₂.keep)) ⟨_, hI₂.1, rfl, rfl⟩ ⟨_, F₂.keep _ _ hlH, rfl, nl, rfl⟩ hcs (Nat.ne_of_gt hltI) hbI fun C a g s₃ hk hC ha hg hgs hos Rd => ?_)
    have F₃L : L < _ := F₂.ns.lt
    have hkl : s₃.heap.get? lv = some (W.listOf items nl) := hk _ _ (F₂.keep _ _ hlH)
    have hfr₃ := pv_fresh F₂ N₂ hC ha
    have F₃ := F₂.keeps hk
    have N₃ : News H L s₃.heap ((D, W.listOf #[] 0) :: (I, { cls := .type "list_iterator", data := .fields #[.ref lv, .int 0 0] }) :: (fro ++ liveOf s₃.heap [a, C])) := by
      intro p hp
      rcases List.mem_cons.mp hp with rfl | hp
      · exact ⟨hk _ _ (N₂ _ (.head _)).1, (N₂ _ (.head _)).2⟩
      · rcases List.mem_cons.mp hp with rfl | hp
        · exact ⟨hk _ _ hI₂.1, hI₂.2⟩
        · rcases List.mem_append.mp hp with hp | hp
          · exact ⟨hk _ _ (N₂ p (.tail _ (.tail _ hp))).1, (N₂ p (.tail _ (.tail _ hp))).2⟩
          · obtain ⟨h1, h2⟩ := mem_liveOf.mp (show (p.1, p.2) ∈ _ from hp)
            exact ⟨h2, (hfr₃ _ h1).2.1, (hfr₃ _ h1).1⟩
    clear F₂ N₂
    walk1
    rename_i F₄ N₄
    have hLD : L < D := Nat.lt_trans hLI hID.1
    have hfrI : ∀ b, L < b → b ∉ fro.map (·.1) := fun b hb hm => by
      obtain ⟨p, hp, rfl⟩ := List.mem_map.mp hm
      exact absurd (hfL _ (hfroF p hp)) (Nat.not_lt.mpr (Nat.le_of_lt hb))
    have tail := guarded_tail (w := w) (dp := dp) (un := un) (gd := gd) (outer := outer) (s := { s₃ with heap := _, toks := s₃.toks + 1 }) (n := s.gens.size) (QQ := QQ) G OH (by omega) (by omega) (L := L) hfro hfroF hHf F₄
      (fun p hp => N₄ p (List.mem_singleton.mp hp ▸ .head _)) (fun p hp => N₄ p (.tail _ (.tail _ (List.mem_append_left _ hp))))
      ((Rd (dp + 1) (un + 3 + 1) gd (envAt w 103 L :: outer) (fun hm => by
          rcases List.mem_cons.mp (show C ∈ L :: outer.filterMap (·.frame) from hm) with z | hm
          · exact (hfr₃ C (by simp)).2.1 z
          · exact absurd (hfL _ hm) (Nat.not_lt.mpr (by
              rw [hC]; exact Nat.le_of_lt F₃L)))).frame (fun b hb o e => by
        rcases List.mem_cons.mp hb with z | hb
        · exact (N₄ (b, o) (.tail _ (.tail _ (List.mem_append_right _ (mem_liveOf.mpr ⟨by simp [z], e⟩))))).1
        · rcases List.mem_cons.mp hb with z | hb
          · exact (N₄ (b, o) (.tail _ (.tail _ (List.mem_append_right _ (mem_liveOf.mpr ⟨by simp [z], e⟩))))).1
          · rcases List.mem_cons.mp hb with z | hb
            · rw [z, hk _ _ hI₂.1] at e
              cases e
              rw [z]
              exact (N₄ _ (.tail _ (.head _))).1
            · rw [List.mem_singleton.mp hb, hkl] at e
              cases e
              rw [List.mem_singleton.mp hb]
              exact F₄.keep _ _ hlH) rfl) hlH hcs hlen (by rw [hg]; exact Nat.le_refl _)
      (fun b hb => by
        rcases List.mem_cons.mp hb with z | hb
        · have h9 := hfr₃ a (.head _)
          rw [z]
          exact ⟨h9.1, h9.2.1, fun hm => h9.2.2 (by rw [List.mem_singleton.mp hm]; exact .head _), fun hm => h9.2.2 (.tail _ (.tail _ hm))⟩
        · rcases List.mem_cons.mp hb with z | hb
          · have h9 := hfr₃ C (.tail _ (.head _))
            rw [z]
            exact ⟨h9.1, h9.2.1, fun hm => h9.2.2 (by rw [List.mem_singleton.mp hm]; exact .head _), fun hm => h9.2.2 (.tail _ (.tail _ hm))⟩
          · rw [List.mem_singleton.mp hb]
            exact ⟨hI₂.2.2, hI₂.2.1, fun hm => absurd hID.1 (by rw [← List.mem_singleton.mp hm]; exact Nat.lt_irrefl _), hfrI I hLI⟩)
      (fun hm => absurd (hfL _ hm) (Nat.not_lt.mpr (Nat.le_of_lt hLD))) hLD (Nat.ne_of_gt hltI)
      (fun T D₂ vr vs₁ n₁ vs₂ n₂ s' k1 k2 k3 k4 k5 k6 k7 k8 k9 k10 k11 k12 => by
        rw [← hq]
        refine hQ T D D₂ vr vs₁ n₁ vs₂ n₂ s' ⟨fun b o hb e => k1 b o (hHs b o hb e), fun b hb o e => k2 (b, o) (hfs b hb o e), (hgs _ (by rw [hg]; exact Nat.le_refl _)).trans k3, k4.trans hos⟩ (by rw [← hL]; exact Nat.le_of_lt k5) (by rw [← hL]; exact Nat.le_of_lt hLD) (by rw [← hL]; exact Nat.le_of_lt k6) k7 k8 k9 k10 k11 ?_
        rw [show wordsOr words = Str.ofString "negative value" from if_pos (by omega)]; exact k12)
    refine' with_lookup (a := 103) (K := hd.heap_39 w.params) ?h ?_
    case h => k_is
    intro e
    unfold bodyAt envAt fdAt at tail
    rw [e] at tail
    exact tail
  · refine wpAny_call (fail_call G O₂ (by show dp + 1 < recursionLimit; omega) (binds35_2 (X.keeps F₂.keep)) ⟨_, hI₂.1, rfl, rfl⟩ ⟨_, F₂.keep _ _ hlH, rfl, nl, rfl⟩ hcs (Nat.ne_of_gt hltI) hbI fun C a g s₃ hk hC ha hg hgs hos Rd => ?_)
    have F₃L : L < _ := F₂.ns.lt
    have hkl : s₃.heap.get? lv = some (W.listOf items nl) := hk _ _ (F₂.keep _ _ hlH)
    have hfr₃ := pv_fresh F₂ N₂ hC ha
    have F₃ := F₂.keeps hk
    have N₃ : News H L s₃.heap ((D, W.listOf #[] 0) :: (I, { cls := .type "list_iterator", data := .fields #[.ref lv, .int 0 0] }) :: (fro ++ liveOf s₃.heap [a, C])) := by
      intro p hp
      rcases List.mem_cons.mp hp with rfl | hp
      · exact ⟨hk _ _ (N₂ _ (.head _)).1, (N₂ _ (.head _)).2⟩
      · rcases List.mem_cons.mp hp with rfl | hp
        · exact ⟨hk _ _ hI₂.1, hI₂.2⟩
        · rcases List.mem_append.mp hp with hp | hp
          · exact ⟨hk _ _ (N₂ p (.tail _ (.tail _ hp))).1, (N₂ p (.tail _ (.tail _ hp))).2⟩
          · obtain ⟨h1, h2⟩ := mem_liveOf.mp (show (p.1, p.2) ∈ _ from hp)
            exact ⟨h2, (hfr₃ _ h1).2.1, (hfr₃ _ h1).1⟩
    clear F₂ N₂
    walk1
    rename_i F₄ N₄
    have hLD : L < D := Nat.lt_trans hLI hID.1
    have hfrI : ∀ b, L < b → b ∉ fro.map (·.1) := fun b hb hm => by
      obtain ⟨p, hp, rfl⟩ := List.mem_map.mp hm
      exact absurd (hfL _ (hfroF p hp)) (Nat.not_lt.mpr (Nat.le_of_lt hb))
    have tail := guarded_tail (w := w) (dp := dp) (un := un) (gd := gd) (outer := outer) (s := { s₃ with heap := _, toks := s₃.toks + 1 }) (n := s.gens.size) (QQ := QQ) G OH (by omega) (by omega) (L := L) hfro hfroF hHf F₄
      (fun p hp => N₄ p (List.mem_singleton.mp hp ▸ .head _)) (fun p hp => N₄ p (.tail _ (.tail _ (List.mem_append_left _ hp))))
      ((Rd (dp + 1) (un + 3 + 1) gd (envAt w 103 L :: outer) (fun hm => by
          rcases List.mem_cons.mp (show C ∈ L :: outer.filterMap (·.frame) from hm) with z | hm
          · exact (hfr₃ C (by simp)).2.1 z
          · exact absurd (hfL _ hm) (Nat.not_lt.mpr (by
              rw [hC]; exact Nat.le_of_lt F₃L)))).frame (fun b hb o e => by
        rcases List.mem_cons.mp hb with z | hb
        · exact (N₄ (b, o) (.tail _ (.tail _ (List.mem_append_right _ (mem_liveOf.mpr ⟨by simp [z], e⟩))))).1
        · rcases List.mem_cons.mp hb with z | hb
          · exact (N₄ (b, o) (.tail _ (.tail _ (List.mem_append_right _ (mem_liveOf.mpr ⟨by simp [z], e⟩))))).1
          · rcases List.mem_cons.mp hb with z | hb
            · rw [z, hk _ _ hI₂.1] at e
              cases e
              rw [z]
              exact (N₄ _ (.tail _ (.head _))).1
            · rw [List.mem_singleton.mp hb, hkl] at e
              cases e
              rw [List.mem_singleton.mp hb]
              exact F₄.keep _ _ hlH) rfl) hlH hcs hlen (by rw [hg]; exact Nat.le_refl _)
      (fun b hb => by
        rcases List.mem_cons.mp hb with z | hb
        · have h9 := hfr₃ a (.head _)
          rw [z]
          exact ⟨h9.1, h9.2.1, fun hm => h9.2.2 (by rw [List.mem_singleton.mp hm]; exact .head _), fun hm => h9.2.2 (.tail _ (.tail _ hm))⟩
        · rcases List.mem_cons.mp hb with z | hb
          · have h9 := hfr₃ C (.tail _ (.head _))
            rw [z]
            exact ⟨h9.1, h9.2.1, fun hm => h9.2.2 (by rw [List.mem_singleton.mp hm]; exact .head _), fun hm => h9.2.2 (.tail _ (.tail _ hm))⟩
          · rw [List.mem_singleton.mp hb]
            exact ⟨hI₂.2.2, hI₂.2.1, fun hm => absurd hID.1 (by rw [← List.mem_singleton.mp hm]; exact Nat.lt_irrefl _), hfrI I hLI⟩)
      (fun hm => absurd (hfL _ hm) (Nat.not_lt.mpr (Nat.le_of_lt hLD))) hLD (Nat.ne_of_gt hltI)
      (fun T D₂ vr vs₁ n₁ vs₂ n₂ s' k1 k2 k3 k4 k5 k6 k7 k8 k9 k10 k11 k12 => by
        rw [← hq]
        refine hQ T D D₂ vr vs₁ n₁ vs₂ n₂ s' ⟨fun b o hb e => k1 b o (hHs b o hb e), fun b hb o e => k2 (b, o) (hfs b hb o e), (hgs _ (by rw [hg]; exact Nat.le_refl _)).trans k3, k4.trans hos⟩ (by rw [← hL]; exact Nat.le_of_lt k5) (by rw [← hL]; exact Nat.le_of_lt hLD) (by rw [← hL]; exact Nat.le_of_lt k6) k7 k8 k9 k10 k11 ?_
        rw [show wordsOr words = words from if_neg (by omega)]; exact k12)
    refine' with_lookup (a := 103) (K := hd.heap_39 w.params) ?h ?_
    case h => k_is
    intro e
    unfold bodyAt envAt fdAt at tail
    rw [e] at tail
    exact tail
end
end Mine
end

section
open PySem PySem.W PyProof.Rows PySem.Calls PySem.Spec
set_option maxRecDepth 100000
set_option maxHeartbeats 8000000
set_option linter.unusedVariables false
namespace Mine
theorem fillL0 : PySem.Challenge.rw_nb0062_01.foot = 10 ∨ (∀ P, hd.heap_39 P = []) := by
  w_top off
  k_fill
  left; rfl

theorem _root_.PySem.Heap.FunFrames.of_live {h h' base : Heap} : ∀ {outer : List Env}, h.FunFrames base outer → (∀ b ∈ outer.filterMap (·.frame), ∀ o, h.get? b = some o → ∃ sl, h'.get? b = some { o with slots := sl }) → h'.FunFrames base outer
  | [], _, _ => trivial
  | env :: rest, ⟨hk, ⟨L, o, hf, hn, ho, hd⟩, hr⟩, hall => by
    rw [List.filterMap_cons, hf] at hall
    obtain ⟨sl, e⟩ := hall L (.head _) o ho
    exact ⟨hk, ⟨L, _, hf, hn, e, hd⟩, hr.of_live fun b hb => hall b (.tail _ hb)⟩

theorem off1_ne {D : Addr} {l : List (Addr × Obj)} (h : LCg.Off1 D l) {p : Addr × Obj} (hp : p ∈ l) : p.1 ≠ D := by
  induction l with
  | nil => cases hp
  | cons q r ih =>
    rcases List.mem_cons.mp hp with rfl | hp
    · exact h.1
    · exact ih h.2 hp
theorem passN_le (cs : List Int) : passN cs ≤ cs.length := by
  induction cs with
  | nil => exact Nat.le_refl _
  | cons x r ih =>
    simp only [passN, List.length_cons]
    split
    · exact Nat.zero_le _
    · exact Nat.succ_le_succ ih

theorem bindL4 {k : Str → Option NameKind} {a b c d : Str} {va vb vc vd : Value} (ha : k a = some .local) (hb : k b = some .local) (hc : k c = some .cell) (hd : k d = some .local) :
    bindL k [(a, va), (b, vb), (c, vc), (d, vd)] (fun _ => none) = fun y => if y = d then some vd else if y = b then some vb else if y = a then some va else none := by
  simp [bindL, ha, hb, hc, hd]
theorem bindC4 {k : Str → Option NameKind} {a b c d : Str} {va vb vc vd : Value} (ha : k a = some .local) (hb : k b = some .local) (hc : k c = some .cell) (hd : k d = some .local) :
    bindC k [(a, va), (b, vb), (c, vc), (d, vd)] (fun _ => none) = fun y => if y = c then some vc else none := by
  simp [bindC, ha, hb, hc, hd]

theorem cut_rest {P : List Stmt → Prop} (b : List Stmt) (n : Nat) (h : ∀ r, r = b.drop n → P (b.take n ++ r)) : P b := by
  have := h _ rfl
  rwa [List.take_append_drop] at this

theorem enterC {w : World} {A : Around} {mean mg mb} {s : Shared} {R : Result → Shared → Prop} {name qual : Str} {params : Arguments} {body : List Stmt} {scope : Scope} {dV kV doc pm cdv ct oc : Value} {an od : Option Addr} {osl : Array (Option Value)} {f : Addr} {args : Args} {binds : List (Str × Value)} {mm cm : Str → Option Value}
    (G : Ground w mean mg mb s.heap)
    (ho : (hd.heap_39 w.params).lookup f = some ⟨oc, od, .func (fnOf name qual params body scope dV kV doc pm an cdv ct), osl⟩) (hcd : codeIn (hd.heap_39 w.params) cdv qual = true) (hroom : A.depth < recursionLimit)
    (hbind : BindsTo s (fnOf name qual params body scope dV kV doc pm an cdv ct) args binds)
    (hkind : ∀ n, ∀ x ∈ binds, scope.names.lookup x.1 = some .local ∨ (scope.names.lookup x.1 = some .cell ∧ ((cellsFrom n scope.names []).lookup x.1).isSome = true))
    (hnd : ((cellsFrom 0 scope.names []).map (·.1)).Nodup)
    (hmm : ∀ L, bindL (envOfC qual scope L f cdv).kindOf binds (fun _ => none) = mm) (hcm : ∀ L, bindC (envOfC qual scope L f cdv).kindOf binds (fun _ => none) = cm)
    (h : ∀ L h₁ tk cells, L = s.heap.objs.size → Fr s.heap L h₁ mm → News s.heap L h₁ cells → CellsAre cm (cellsFrom (L + 1) scope.names []) cells →
      wpAny (model prog w) (A.deeper (envOfC qual scope L f cdv)) (execs body (envOfC qual scope L f cdv))
        (fun fl s' => R (.ok (.ret (match fl with | .ret v => v | _ => .none))) s')
        (fun e s' => False)
        { s with heap := h₁, toks := tk })
    (hco : scope.isCoroutine = false) (hgen : scope.isGenerator = false) (hk : scope.kind = .function) : codeAny (model prog w) A (.call (.ref f) args) R s := by
  refine codeAny_call_function (fd := fnOf name qual params body scope dV kV doc pm an cdv ct) hroom (G.K _ _ ho) rfl hco hgen rfl (codeRec_of G.K hcd) (hbind _ _ _ _ ?_)
  refine wpAny_newFunctionEnv_cells hk (hkind _) fun env' he s' x => ?_
  subst he
  refine ⟨G.T.nolimit.keeps x.toInCall.keep, codeAny_func ?_⟩
  obtain ⟨h₁, tk, rfl, _⟩ := x.done
  have hk₁ := x.toInCall.keep
  obtain ⟨cells, NC, Y⟩ := Cl.news (h₀ := s.heap) (Nat.le_refl _) fun n c hm => ⟨x.cell n c (lookup_of_mem_nodup (cellsFrom_names scope.names 0 (s.heap.objs.size + 1) [] [] rfl ▸ hnd) hm), x.above n c hm⟩
  exact wpAny_mono (h _ h₁ tk cells rfl ⟨hmm _ ▸ x.toInCall.ns, hk₁, Nat.le_refl _⟩ NC (hcm _ ▸ Y)) (fun _ _ x => x) (fun _ _ x => x.elim)


noncomputable def envCAt (w : World) (a L : Addr) : Env := envOfC (fdAt w a).qualname (fdAt w a).scope L a (fdAt w a).code

section
variable {w : World} {mean : ExcName → Option Value} {mg mb : Str → Option Value} {dp un : Nat} {gd : Option (List Code)} {outer : List Env} {s : Shared}

local macro_rules | `(tactic| walk_at "subscriptTail Name Slice ref ref") => `(tactic| (k_dflt (refine' kmk_slice_ints ?F ?N ?l ?p ?q ?i ?m ?c ?_ ?s ?t ?z; (case F => k_asm); (case N => k_asm); (case l => kmk_list); (case p => exact IsPart.int _ _); (case q => exact IsPart.none); (case i => assumption); (case m => exact kmk_from (by assumption) (by omega)); (case c => exact rfl); (case s => with_unfolding_all rfl); (case t => kmk_pure); (case z => kmk_size)); intro D' ws' h' F' N' l1 hI' hC' hL'; (try k_lt l1); (try k_sweep)))
theorem lifted_mid {H : Heap} (X : (hd.heap_39 w.params).In H) (T : Top hd.view_39 (looseW hd.view_39 [Str.ofString "_fail_neg"]) mean mg mb H) (hun : un + 100 < cLine) {L E₁ E₂ D : Addr} {vr : Value} {words : Str} {tw : Tok} {ws₁ ws₂ : Array Value} {k₁ k₂ pn : Nat} {ys : List Value} {ls : List Int} {more : List (Addr × Obj)} {m : Str → Option Value}
    {rest : List Stmt} {QQ : Flow → Shared → Prop}
    (F : Fr H L s.heap (fun y => if y = Str.ofString "rest" then some (.ref E₂) else if y = Str.ofString "refused" then some vr else if y = Str.ofString "through" then some (.ref E₁) else if y = Str.ofString "lifted" then some (.ref D) else if y = Str.ofString "words" then some (.str words tw) else m y))
    (N : News H L s.heap ((E₁, W.listOf ws₁ k₁) :: (E₂, W.listOf ws₂ k₂) :: (D, W.listOf ys.toArray ys.length) :: more))
    (hys : IntsAre ys ls) (hi₁ : IntsAre ws₁.toList (ls.take pn)) (hi₂ : IntsAre ws₂.toList (ls.drop (pn + 1))) (hpl : pn ≤ ls.length) (hw₁ : ws₁.size = pn) (hw₂ : ws₂.size ≤ 100) (hyl : ys.length = ls.length) (hll : ls.length ≤ 100) (hwl : words.length ≤ 1000)
    (hvr : if pn = ls.length then vr = .none else ∃ t, vr = .str (wordsOr words) t)
    (hK : ∀ h' tk tp, Fr H L h' (fun y => if y = Str.ofString "passed" then some (.int (pn : Nat) tp) else if y = Str.ofString "rest" then some (.ref E₂) else if y = Str.ofString "refused" then some vr else if y = Str.ofString "through" then some (.ref E₁) else if y = Str.ofString "lifted" then some (.ref D) else if y = Str.ofString "words" then some (.str words tw) else m y) →
      News H L h' ((D, W.listOf ys.toArray ys.length) :: more) → wpAny (model prog w) (Around.deeper (Ar dp un gd outer) (envCAt w 108 L)) (execs rest (envCAt w 108 L)) QQ (fun _ _ => False) { s with heap := h', toks := tk }) :
    wpAny (model prog w) (Around.deeper (Ar dp un gd outer) (envCAt w 108 L)) (execs (((bodyAt w 108).drop 2).take 3 ++ rest) (envCAt w 108 L)) QQ (fun _ _ => False) s := by
  refine' with_lookup (a := 108) (K := hd.heap_39 w.params) ?h ?_
  case h => k_is
  intro e
  unfold bodyAt envCAt fdAt at *
  rw [e] at hK ⊢
  clear e
  dsimp only [List.drop_succ_cons, List.drop_zero, List.take_succ_cons, List.take_zero, List.cons_append, List.nil_append] at hK ⊢
  have e1 : ((pn : Int)).toNat = pn := Int.toNat_natCast _
  have e2 : ((pn : Int) + 1).toNat = pn + 1 := by omega
  by_cases hall : pn = ls.length
  · rw [if_pos hall] at hvr
    subst hvr
    clear e1 e2
    k_steps
    all_goals first
      | (exfalso; have h : (pn : Int) ≠ (ls.length : Int) := (by assumption); omega)
      | (exfalso; have h : ¬ ls.drop (pn + 1) = ls.drop ((pn : Int) + 1).toNat := (by assumption); exact h (by rw [show ((pn : Int) + 1).toNat = pn + 1 from by omega]))
      | (exfalso; have h : ¬ ls.take pn = ls.take ((pn : Int)).toNat := (by assumption); exact h (by rw [Int.toNat_natCast]))
      | (dsimp only; exact hK _ _ _ (by assumption) (fun p hp => (show News H L _ (_ :: _ :: (E₁, W.listOf ws₁ k₁) :: (E₂, W.listOf ws₂ k₂) :: (D, W.listOf ys.toArray ys.length) :: more) from by assumption) p (.tail _ (.tail _ (.tail _ (.tail _ hp))))))
      | (exfalso; have h : (pn : Int) = (ls.length : Int) := (by assumption); omega)
      | (exfalso; have h1 : (words.length : Int) ≠ 0 := (by assumption); have h2 : (wordsOr words != words) = true := (by assumption); rw [show wordsOr words = words from if_neg (by omega)] at h2; simp at h2)
      | (exfalso; have h1 : (words.length : Int) = 0 := (by assumption); have h2 : (wordsOr words != Str.ofString "negative value") = true := (by assumption); rw [show wordsOr words = Str.ofString "negative value" from if_pos (by omega)] at h2; simp at h2)
  · rw [if_neg hall] at hvr
    obtain ⟨tv, rfl⟩ := hvr
    clear e1 e2
    k_steps
    all_goals first
      | (exfalso; have h : (pn : Int) ≠ (ls.length : Int) := (by assumption); omega)
      | (exfalso; have h : ¬ ls.drop (pn + 1) = ls.drop ((pn : Int) + 1).toNat := (by assumption); exact h (by rw [show ((pn : Int) + 1).toNat = pn + 1 from by omega]))
      | (exfalso; have h : ¬ ls.take pn = ls.take ((pn : Int)).toNat := (by assumption); exact h (by rw [Int.toNat_natCast]))
      | (dsimp only; exact hK _ _ _ (by assumption) (fun p hp => (show News H L _ (_ :: _ :: (E₁, W.listOf ws₁ k₁) :: (E₂, W.listOf ws₂ k₂) :: (D, W.listOf ys.toArray ys.length) :: more) from by assumption) p (.tail _ (.tail _ (.tail _ (.tail _ hp))))))
      | (exfalso; have h : (pn : Int) = (ls.length : Int) := (by assumption); omega)
      | (exfalso; have h1 : (words.length : Int) ≠ 0 := (by assumption); have h2 : (wordsOr words != words) = true := (by assumption); rw [show wordsOr words = words from if_neg (by omega)] at h2; simp at h2)
      | (exfalso; have h1 : (words.length : Int) = 0 := (by assumption); have h2 : (wordsOr words != Str.ofString "negative value") = true := (by assumption); rw [show wordsOr words = Str.ofString "negative value" from if_pos (by omega)] at h2; simp at h2)
end
end Mine
end

section
open PySem PySem.W PyProof.Rows PySem.Calls PySem.Spec
set_option maxRecDepth 100000
set_option maxHeartbeats 8000000
set_option linter.unusedVariables false
namespace Mine

theorem rangeSize_nat (cnt : Nat) : Builtin.Range.rangeSize 0 (cnt : Int) 1 = cnt := by
  unfold Builtin.Range.rangeSize
  rw [if_pos (by decide)]
  split
  · rw [Int.ediv_one]; omega
  · omega
theorem small_nat {cnt : Nat} (h : cnt ≤ 1000) : Builtin.Range.small 0 (cnt : Int) 1 = true := by
  unfold Builtin.Range.small
  rw [rangeSize_nat]
  have h0 : Builtin.Range.rangeFitsLong (cnt : Int) = true := by
    unfold Builtin.Range.rangeFitsLong
    simp only [Bool.and_eq_true, decide_eq_true_eq]
    omega
  have h1 : Builtin.Range.rangeFitsLong ((cnt : Int) + (1 - 1)) = true := by
    rw [show (cnt : Int) + (1 - 1) = cnt from by omega]; exact h0
  rw [h0, h1, if_pos (by decide), Bool.or_true, show Builtin.Range.rangeFitsLong 0 = true from by decide, show Builtin.Range.rangeFitsLong 1 = true from by decide]
  rfl

section
variable {w : World} {s : Shared}

/-- a for over range(cnt), at its source's value -/
def RangeAtLoop (w : World) (A : Around) (env : Env) (x : Str) (body : List Stmt) (Q : Flow → Shared → Prop) (v : Value) (s : Shared) : Prop :=
  ∃ (H : Heap) (n cnt : Nat) (t u k : Tok) (J : Nat → (Str → Option Value) → List (Addr × Obj) → Prop) (m₀ : Str → Option Value) (nx₀ : List (Addr × Obj)) (r : Addr),
    v = .ref r ∧ IsRange s.heap r 0 (cnt : Int) 1 t u k ∧ cnt ≤ 1000 ∧ J 0 m₀ nx₀ ∧ Fr H env.locals s.heap m₀ ∧ News H env.locals s.heap nx₀ ∧
    (∀ i m₁ nx own tk s₁, i < cnt → J i m₁ nx → OwnOff own (nx.map (·.1)) → GStep n s.gens s₁.gens → s₁.os = s.os →
      Fr H env.locals s₁.heap (fun y => if y = x then some (.int (i : Nat) tk) else m₁ y) → News H env.locals s₁.heap (nx ++ own) →
      wpAny (model prog w) A (execs body env) (fun f s₂ => match f with
        | .ret v => Q (.ret v) s₂
        | .brk => Q .next s₂
        | _ => TurnEndG n H env.locals (J (i + 1)) own (nx.map (·.1)) s₁ s₂) (fun _ _ => False) s₁) ∧
    (∀ m₁ nx s₁, J cnt m₁ nx → GStep n s.gens s₁.gens → s₁.os = s.os → Fr H env.locals s₁.heap m₁ → News H env.locals s₁.heap nx → Q .next s₁)

theorem range_For {A : Around} {env : Env} {x : Str} {p1 pos : Pos} {iter : Expr} {body : List Stmt} {Q : Flow → Shared → Prop} (hx : env.kindOf x = some .local)
    (hp : (env.scope.kind == .class || (env.scope.kind == .module && env.locals != env.globals)) = false) (hh : A.handled = none)
    (hs : ∀ x, foldedSetIterable iter env x = pure x)
    (h : wpAny (model prog w) A (eval iter env) (fun v s' => RangeAtLoop w A env x body Q v s') (fun _ _ => False) s) :
    wpAny (model prog w) A (exec (.For (.Name x p1) iter body [] pos) env) Q (fun _ _ => False) s := by
  refine wpAny_For (wpAny_mono h (fun v s' h' => ?_) fun _ _ x => x) hs
  clear h
  obtain ⟨H, n, cnt, t, u, k, J, m₀, nx₀, r, rfl, hr, hcnt, hJ, F, N, turn, done⟩ := h'
  refine wpAny_pyIter_range hr (small_nat hcnt) ?_
  rw [rangeSize_nat]
  have hI : ∀ b o, s'.heap.get? b = some o → b ≠ s'.heap.objs.size := fun b o e => Nat.ne_of_lt (Heap.lt_size e)
  refine codeAny_forLoop_any (R := fun r s'' => match r with | .ok f => Q f s'' | .error e => cameBackBy (model prog w) A env (fun _ _ => False) e s'')
    (fun k s'' => ∃ i m₁ nx, k = cnt - i ∧ i ≤ cnt ∧ J i m₁ nx ∧ nx.map (·.1) = nx₀.map (·.1) ∧ GStep n s'.gens s''.gens ∧ s''.os = s'.os ∧ Fr H env.locals s''.heap m₁ ∧ News H env.locals s''.heap nx ∧
      IsRangeIter s''.heap s'.heap.objs.size (i : Nat) ((cnt : Int) - (i : Nat)) 1) ?_ cnt
    ⟨0, m₀, nx₀, rfl, Nat.zero_le _, hJ, rfl, .refl _ _, rfl, F.push _, (fun p hp => ⟨Heap.get?_push_of_some _ (N p hp).1, (N p hp).2⟩), by
      show IsRangeIter _ _ _ _ _
      rw [show ((cnt : Int) - ((0 : Nat) : Int)) = (cnt : Int) from by omega]
      exact Heap.get?_push_size _ rfl⟩
  have hIH : H.get? s'.heap.objs.size = none := by
    cases q : H.get? s'.heap.objs.size with
    | none => rfl
    | some o => exact absurd rfl (hI _ _ (F.keep _ _ q))
  have hIL : s'.heap.objs.size ≠ env.locals := Ne.symm (Nat.ne_of_lt F.ns.lt)
  have hIn : s'.heap.objs.size ∉ nx₀.map (·.1) := fun hm => by
    obtain ⟨q, hq, e⟩ := List.mem_map.mp hm
    exact hI _ _ (N q hq).1 e
  rintro k s₁ ⟨i, m₁, nx, rfl, hle, hJ, hnx, hgs, hos, F₁, N₁, hit⟩
  have keep : ∀ {h₂ : Heap}, (∀ b o, b ≠ s'.heap.objs.size → s₁.heap.get? b = some o → h₂.get? b = some o) → Fr H env.locals h₂ m₁ ∧ News H env.locals h₂ nx := by
    intro h₂ hk
    refine ⟨⟨F₁.ns.at fun o e => hk _ o (Ne.symm hIL) e, fun b o e => hk b o (fun z => by rw [z, hIH] at e; cases e) (F₁.keep b o e), F₁.above⟩, fun q hq => ⟨hk _ _ (fun z => ?_) (N₁ q hq).1, (N₁ q hq).2⟩⟩
    exact hIn (z ▸ hnx ▸ List.mem_map_of_mem hq)
  by_cases hlt : i < cnt
  · refine wpAny_pyNext_range_item hit (by omega) fun h₂ hit₂ hs₂ => ?_
    obtain ⟨F₂, N₂⟩ := keep hs₂.extBut
    refine letGo_name ?_
    refine wpAny_assign_Name (wpAny_storeName_local hx F₂.ns (fun h₅ hn₅ hs₅ => ?_) hp)
    have hk₅ : ∀ b' o, b' ≠ env.locals → h₂.get? b' = some o → h₅.get? b' = some o := fun b' o hb e' => hs₅.extBut b' o hb e'
    have F₅ : Fr H env.locals h₅ (fun y => if y = x then some (.int (i : Nat) s₁.toks) else m₁ y) :=
      ⟨hn₅, fun b o e => hk₅ b o (Nat.ne_of_lt (Nat.lt_of_lt_of_le (Heap.lt_size e) F.above)) (F₂.keep b o e), F.above⟩
    have hit₅ := hk₅ _ _ hIL hit₂
    generalize hoi : ({ cls := .type "range_iterator", dict := none, data := .fields #[rawInt ((i : Nat) + 1), rawInt ((cnt : Int) - (i : Nat) - 1), rawInt 1], slots := #[] } : Obj) = oi at hit₅
    have N₅ : News H env.locals h₅ (nx ++ [(s'.heap.objs.size, oi)]) := by
      intro q hq
      rcases List.mem_append.mp hq with h | h
      · exact ⟨hk₅ _ _ (N₂ q h).2.1 (N₂ q h).1, (N₂ q h).2⟩
      · rw [List.mem_singleton.mp h]; exact ⟨hit₅, hIL, hIH⟩
    have off : OwnOff [(s'.heap.objs.size, oi)] (nx.map (·.1)) := by
      intro q hq b hb e
      rw [List.mem_singleton.mp hq] at e
      have e' : s'.heap.objs.size = b := e
      rw [← e', hnx] at hb
      exact hIn hb
    refine wpAny_mono (turn i m₁ nx _ s₁.toks { s₁ with heap := h₅, toks := s₁.toks + 1 + 1 } hlt hJ off hgs hos F₅ N₅) (fun f s₃ h₃' => ?_) fun e s₃ h₃' => h₃'.elim
    have fin : TurnEndG n H env.locals (J (i + 1)) [(s'.heap.objs.size, oi)] (nx.map (·.1)) { s₁ with heap := h₅, toks := s₁.toks + 1 + 1 } s₃ → ∃ m, m < cnt - i ∧ ∃ i m₁ nx, m = cnt - i ∧ i ≤ cnt ∧ J i m₁ nx ∧ nx.map (·.1) = nx₀.map (·.1) ∧ GStep n s'.gens s₃.gens ∧ s₃.os = s'.os ∧ Fr H env.locals s₃.heap m₁ ∧ News H env.locals s₃.heap nx ∧
        IsRangeIter s₃.heap s'.heap.objs.size (i : Nat) ((cnt : Int) - (i : Nat)) 1 := by
      rintro ⟨m', nx', news', F₆, N₆, h1, h2, h3, h4, h5, h6⟩
      refine ⟨cnt - (i + 1), by omega, i + 1, m', nx', rfl, hlt, h4, h3.trans hnx, hgs.trans h5, h6.trans hos, F₆, fun q hq => N₆ q (h1 q hq), ?_⟩
      have h9 := (N₆ _ (h2 _ (.head _))).1
      rw [← hoi] at h9
      show s₃.heap.get? s'.heap.objs.size = _
      rw [h9, show ((cnt : Int) - (i : Nat) - 1) = ((cnt : Int) - ((i + 1 : Nat) : Int)) from by omega, show (((i : Nat) : Int) + 1) = ((i + 1 : Nat) : Int) from by omega]
    cases f with
    | ret v => exact h₃'
    | brk => exact h₃'
    | next => exact fin h₃'
    | cont => exact fin h₃'
  · have hie : i = cnt := by omega
    subst hie
    refine wpAny_pyNext_range_end hh hit (by omega) fun h₂ hx => wpAny_execs_nil ?_
    obtain ⟨F₂, N₂⟩ := keep hx
    exact done m₁ nx { s₁ with heap := h₂ } hJ hgs hos F₂ N₂
end
end Mine
end

section
open PySem PySem.W PyProof.Rows PySem.Calls PySem.Spec
set_option maxRecDepth 100000
set_option maxHeartbeats 8000000
set_option linter.unusedVariables false
namespace Mine
theorem fillL1 : PySem.Challenge.rw_nb0062_01.foot = 10 ∨ (∀ P, hd.heap_39 P = []) := by
  w_top off
  k_fill
  left; rfl

theorem getD_all {α : Type} {P : α → Prop} {l : List α} (h : ∀ x ∈ l, P x) {d : α} (hd : P d) (i : Nat) : P (l.getD i d) := by
  unfold List.getD
  cases hq : l[i]? with
  | none => exact hd
  | some x => exact h x (List.mem_of_getElem? hq)

/-- a beginning with as many ( ahead and as many ) behind -/
def laid (lift : Int) (t : Str) (l : Int) : Str := Txt.mul (Str.ofString "(") lift ++ t ++ Txt.mul (Str.ofString ")") (if l > 0 then l else 0)
theorem laid_len {lift : Int} {t : Str} {l : Int} {N M : Nat} (h1 : lift ≤ (M : Int)) (h2 : l ≤ (N : Int)) : (laid lift t l).length ≤ M + t.length + N := by
  unfold laid
  rw [Str.length_append, Str.length_append]
  have a := len_mul_leN (x := Str.ofString "(") (L := 1) (n := lift) (N := M) (by decide) h1
  have b := len_mul_leN (x := Str.ofString ")") (L := 1) (n := if l > 0 then l else 0) (N := N) (by decide) (by split <;> omega)
  omega
/-- the loop of _law_lifted, up to a place -/
def liftOk (lift : Int) (pn : Nat) (ts : List Str) (ls : List Int) (i : Nat) : Prop := ∀ j, j < i → checkP (laid lift (ts.getD j Str.empty) (ls.getD j 0)) = decide (j < pn)

section
variable {w : World} {mean : ExcName → Option Value} {mg mb : Str → Option Value} {base : Heap} {dp un : Nat} {gd : Option (List Code)} {outer : List Env} {s : Shared}

def LiJ (D D₁ L : Addr) (pn : Nat) (nx₀ : List (Addr × Obj)) (ok : Nat → Prop) (i : Nat) (m : Str → Option Value) (nx : List (Addr × Obj)) : Prop :=
  (∃ tp, m (Str.ofString "passed") = some (.int (pn : Nat) tp)) ∧ m (Str.ofString "lifted") = some (.ref D) ∧ m (Str.ofString "texts") = some (.ref D₁) ∧ nx = nx₀ ∧ ok i

theorem lifted_loop (G : Ground w mean mg mb base) {H : Heap} (OH : On base H) (hdp : dp + 60 < recursionLimit) (hun : un + 400 < cLine) {L D D₁ : Addr} {oc : Obj} {lift : Int} {tl : Tok} {vs₁ : Array Value} {n₁ pn : Nat} {ys : List Value} {ls : List Int} {ts : List Str} {more : List (Addr × Obj)} {m : Str → Option Value} {tp : Tok}
    {QQ : Flow → Shared → Prop}
    (F : Fr H L s.heap (fun y => if y = Str.ofString "passed" then some (.int (pn : Nat) tp) else if y = Str.ofString "lifted" then some (.ref D) else if y = Str.ofString "texts" then some (.ref D₁) else m y))
    (N : News H L s.heap ((D, W.listOf ys.toArray ys.length) :: (L + 1, oc) :: (D₁, W.listOf vs₁ n₁) :: more)) (hoc : oc.data = .cell (some (.int lift tl)))
    (hys : IntsAre ys ls) (hts : StrsAre vs₁.toList ts) (hlt : ts.length = ls.length) (hyl : ys.length = ls.length) (hll : ls.length ≤ 20) (htl : ∀ t ∈ ts, t.length ≤ 100) (hlb : ∀ l ∈ ls, l.natAbs ≤ 40) (hl0 : 0 ≤ lift) (hl1 : lift ≤ 20) (hok : liftOk lift pn ts ls ls.length)
    (hQ : ∀ tk s', H.StaysIn s'.heap → News H L s'.heap ((D, W.listOf ys.toArray ys.length) :: (L + 1, oc) :: (D₁, W.listOf vs₁ n₁) :: more) → GStep s.gens.size s.gens s'.gens → s'.os = s.os → QQ (.ret (.int (pn : Nat) tk)) s') :
    wpAny (model prog w) (Around.deeper (Ar dp un gd outer) (envCAt w 108 L)) (execs ((bodyAt w 108).drop 5) (envCAt w 108 L)) QQ (fun _ _ => False) s := by
  have GH := G.keeps OH.stays
  have X := GH.K
  have T := GH.T
  refine' with_lookup (a := 108) (K := hd.heap_39 w.params) ?h ?_
  case h => k_is
  intro e
  unfold bodyAt envCAt fdAt at *
  rw [e]
  clear e
  dsimp only [List.drop_succ_cons, List.drop_zero]
  refine wpAny_execs_cons ?_
  refine range_For rfl rfl rfl (by intro _; rfl) ?_
  k_steps
  rename_i h₁ tk₁ t₁ u₁ v₁ hR F₁ N₁ hk₁
  refine ⟨H, s.gens.size, ls.length, t₁, u₁, v₁, LiJ D D₁ L pn ((D, W.listOf ys.toArray ys.length) :: (L + 1, oc) :: (D₁, W.listOf vs₁ n₁) :: more) (fun _ => True), _, _, _, rfl, hR, by omega, ⟨⟨_, rfl⟩, rfl, rfl, rfl, trivial⟩, F₁, N₁, ?turn, ?done⟩
  case turn =>
    intro i m₁ nx own tk s₁ hi hJ off hgs hos F₂ N₂
    obtain ⟨⟨tp', hpa⟩, hli, hte, rfl, _⟩ := hJ
    have F₃ := fr_put (Str.ofString "texts") (fr_put (Str.ofString "lifted") (fr_put (Str.ofString "passed") F₂ hpa) hli) hte
    clear F₁ N₁ hk₁ F₂ hR
    have hvl : vs₁.size = ts.length := by
      have := StrsAre.length hts
      rwa [Array.length_toList] at this
    have hti : (ts.getD ((i : Int)).toNat Str.empty).length ≤ 100 := getD_all htl (by decide) _
    have hl2 : (ls.getD ((i : Int)).toNat 0) ≤ 40 := by
      have := getD_all (P := fun l : Int => l.natAbs ≤ 40) hlb (d := 0) (by decide) ((i : Int)).toNat
      omega
    have hl3 : -40 ≤ (ls.getD ((i : Int)).toNat 0) := by
      have := getD_all (P := fun l : Int => l.natAbs ≤ 40) hlb (d := 0) (by decide) ((i : Int)).toNat
      omega
    k_steps
    rename_i t₂ _ hle h₂ F₄ N₄
    have hlen : (laid lift (ts.getD ((i : Int)).toNat Str.empty) (ls.getD ((i : Int)).toNat 0)).length ≤ 1000 := by
      refine Nat.le_trans (laid_len (N := 40) (M := 20) hl1 (by omega)) ?_
      omega
    refine check_spec (dp := dp + 1) (un := un + 3) G (OH.fr F₄) (by omega) (by omega) hlen fun s₂ hA => ?_
    have F₅ := F₄.keeps hA.keep
    have N₅ : News H L s₂.heap _ := fun p hp => ⟨hA.keep _ _ (N₄ p hp).1, (N₄ p hp).2⟩
    clear F₄ N₄
    have hoki := hok i hi
    k_steps
    · exfalso
      have h : (checkP (laid lift (ts.getD ((i : Int)).toNat Str.empty) (ls.getD ((i : Int)).toNat 0)) != decide ((i : Int) < (pn : Int))) = true := by assumption
      rw [Int.toNat_natCast, hoki] at h
      simp at h
    · refine TurnEndG.mk' (nx := (D, W.listOf ys.toArray ys.length) :: (L + 1, oc) :: (D₁, W.listOf vs₁ n₁) :: more) F₅ N₅ ⟨⟨_, rfl⟩, rfl, rfl, rfl, trivial⟩ rfl (fun q hq => List.mem_append_left _ hq) (fun q hq => List.mem_append_right _ hq) (hA.gens.mono hgs.size) hA.os
  case done =>
    intro m₁ nx s₁ hJ hgs hos F₂ N₂
    obtain ⟨⟨tp', hpa⟩, hli, hte, rfl, _⟩ := hJ
    have F₃ := fr_put (Str.ofString "passed") F₂ hpa
    clear F₁ N₁ hk₁ F₂ hR
    dsimp only
    k_steps
    exact hQ _ _ F₃.keep N₂ hgs hos
end
end Mine
end

section
open PySem PySem.W PyProof.Rows PySem.Calls PySem.Spec
set_option maxRecDepth 100000
set_option maxHeartbeats 8000000
set_option linter.unusedVariables false
namespace Mine
theorem fillL2 : PySem.Challenge.rw_nb0062_01.foot = 10 ∨ (∀ P, hd.heap_39 P = []) := by
  w_top off
  k_fill
  left; rfl

section
variable {w : World} {mean : ExcName → Option Value} {mg mb : Str → Option Value} {base : Heap} {dp un : Nat} {gd : Option (List Code)} {outer : List Env} {E : Value → Shared → Prop} {s : Shared}

theorem lifted_spec (G : Ground w mean mg mb base) (O : On base s.heap) (hfr : s.heap.FunFrames base outer) (hdp : dp + 60 < recursionLimit) (hun : un + 400 < cLine) {D₁ D₂ : Addr} {vs₁ vs₂ : Array Value} {n₁ n₂ : Nat} {ts : List Str} {hs : List Int} {lift : Int} {tl : Tok} {words : Str} {tw : Tok}
    (hd₁ : s.heap.get? D₁ = some (W.listOf vs₁ n₁)) (hd₂ : s.heap.get? D₂ = some (W.listOf vs₂ n₂)) (hf₁ : D₁ ∉ outer.filterMap (·.frame)) (hf₂ : D₂ ∉ outer.filterMap (·.frame)) (hb₁ : base.get? D₁ = none) (hb₂ : base.get? D₂ = none)
    (hts : StrsAre vs₁.toList ts) (hhs : IntsAre vs₂.toList hs) (hlen : hs.length ≤ 20) (hlt : ts.length = hs.length) (htl : ∀ t ∈ ts, t.length ≤ 100) (hh : ∀ h ∈ hs, h.natAbs ≤ 20) (hl0 : 0 ≤ lift) (hl1 : lift ≤ 20) (hwl : words.length ≤ 1000) (hok : liftOk lift (passN (hs.map fun k' => k' + lift)) ts (hs.map fun k' => k' + lift) (hs.map fun k' => k' + lift).length) {Q : Value → Shared → Prop}
    (hQ : ∀ tk s', AfterG outer s s' → Q (.int (passN (hs.map fun k' => k' + lift) : Nat) tk) s') :
    wpAny (model prog w) (Ar dp un gd outer) (call (.ref 108) [.ref D₁, .ref D₂, .int lift tl, .str words tw]) Q E s := by
  have G₀ := G.keeps O.stays
  have st : base.StaysIn (hideAll s.heap (D₁ :: D₂ :: outer.filterMap (·.frame))) := fun b o e => hideAll_get _ (O.stays b o e) fun hm => by
    rcases List.mem_cons.mp hm with z | hm
    · rw [z, hb₁] at e; cases e
    · rcases List.mem_cons.mp hm with z | hm
      · rw [z, hb₂] at e; cases e
      · rw [(hfr.mem hm).1] at e; cases e
  have GH := G.keeps st
  have X := GH.K
  have T := GH.T
  refine wpAny_call ?_
  k_dflt (refine' enterC (binds := [(Str.ofString "texts", .ref D₁), (Str.ofString "heights", .ref D₂), (Str.ofString "lift", .int lift tl), (Str.ofString "words", .str words tw)]) (mm := fun y => if y = Str.ofString "words" then some (.str words tw) else if y = Str.ofString "heights" then some (.ref D₂) else if y = Str.ofString "texts" then some (.ref D₁) else none) (cm := fun y => if y = Str.ofString "lift" then some (.int lift tl) else none) ?k1 ?k6 ?k7 ?k8 ?k9 ?kB ?kN ?kM ?kC ?_ ?c2 ?c3 ?c4; (case k1 => exact G₀); (case k6 => k_is); (case k7 => k_is); (case k8 => (dsimp only; omega)); (case k9 => exact BindsTo.of_eq rfl); (case kN => decide); (case kB => (intro n y hy; simp only [List.mem_cons, List.not_mem_nil, or_false] at hy; rcases hy with rfl | rfl | rfl | rfl <;> first | exact .inl rfl | exact .inr ⟨rfl, rfl⟩)); (case c2 => exact rfl); (case c3 => exact rfl); (case c4 => exact rfl); (case kM => exact fun _ => bindL4 rfl rfl rfl rfl); (case kC => exact fun _ => bindC4 rfl rfl rfl rfl))
  intro L h₁ tk cells hL F₀ N₀ hcl
  obtain ⟨oc, rfl, hoc⟩ := CellsAre.one hcl
  replace hoc : oc.data = .cell (some (.int lift tl)) := hoc
  (try dsimp only)
  generalize hq : (fun (fl : Flow) (s' : Shared) => Q (match fl with | Flow.ret v => v | x => Value.none) s') = QQ
  have F : Fr (hideAll s.heap (D₁ :: D₂ :: outer.filterMap (·.frame))) L h₁ _ := ⟨F₀.ns, fun b o e => F₀.keep b o (of_hideAll _ e), by rw [hideAll_size]; exact F₀.above⟩
  have N : News (hideAll s.heap (D₁ :: D₂ :: outer.filterMap (·.frame))) L h₁ ((L + 1, oc) :: (D₁, W.listOf vs₁ n₁) :: (D₂, W.listOf vs₂ n₂) :: liveOf s.heap (outer.filterMap (·.frame))) := fun p hp => by
    have gen : ∀ q : Addr × Obj, q.1 ∈ D₁ :: D₂ :: outer.filterMap (·.frame) → s.heap.get? q.1 = some q.2 → h₁.get? q.1 = some q.2 ∧ q.1 ≠ L ∧ (hideAll s.heap (D₁ :: D₂ :: outer.filterMap (·.frame))).get? q.1 = none := fun q h1 h2 =>
      ⟨F₀.keep _ _ h2, by rw [hL]; exact Nat.ne_of_lt (Heap.lt_size h2), hideAll_none _ h1⟩
    rcases List.mem_cons.mp hp with rfl | hp
    · have h9 := N₀ _ (.head _)
      refine ⟨h9.1, h9.2.1, ?_⟩
      cases q : (hideAll s.heap (D₁ :: D₂ :: outer.filterMap (·.frame))).get? (L + 1) with
      | none => rfl
      | some o => have := of_hideAll _ q; rw [h9.2.2] at this; cases this
    rcases List.mem_cons.mp hp with rfl | hp
    · exact gen _ (.head _) hd₁
    · rcases List.mem_cons.mp hp with rfl | hp
      · exact gen _ (.tail _ (.head _)) hd₂
      · obtain ⟨h1, h2⟩ := mem_liveOf.mp (show (p.1, p.2) ∈ _ from hp)
        exact gen p (.tail _ (.tail _ h1)) h2
  clear F₀ N₀
  generalize hH : hideAll s.heap (D₁ :: D₂ :: outer.filterMap (·.frame)) = H at *
  generalize hfo : liveOf s.heap (outer.filterMap (·.frame)) = fro at *
  have OH : On base H := ⟨st, by rw [← hH, hideAll_size]; exact O.size⟩
  have hls := IntsAre.length hhs
  have hls' := StrsAre.length hts
  refine cut_rest (P := fun b => wpAny _ _ (execs b _) _ _ _) _ 2 ?_
  intro rest hrest
  dsimp only [List.take_succ_cons, List.take_zero, List.cons_append, List.nil_append]
  k_steps
  rename_i hys hyl D h₂ tk₂ F₂ N₂ hoff
  generalize hls0 : hs.map (fun k' => k' + lift) = ls at *
  have O₂ := OH.fr F₂
  have hbL : base.get? L = none := by
    cases q : base.get? L with
    | none => rfl
    | some o => exact absurd (Heap.lt_size q) (Nat.not_lt.mpr (Nat.le_trans OH.size F₂.above))
  have hFF : ∀ (h : Heap) (env : Env) (m : Str → Option Value), env.frame = some L → env.scope.kind = .function → h.Ns L m → (∀ p ∈ fro, ∃ sl, h.get? p.1 = some { p.2 with slots := sl }) → h.FunFrames base (env :: outer) := fun h env m h1 h2 h3 h4 => by
    obtain ⟨o, es, ep, ho, hd, _⟩ := h3
    refine ⟨by rw [h2]; decide, ⟨L, o, h1, hbL, ho, fun vs => by rw [hd]; exact fun z => nomatch z⟩, ?_⟩
    exact hfr.of_live fun b hb o e => h4 (b, o) (by rw [← hfo]; exact mem_liveOf.mpr ⟨hb, e⟩)
  have hDf : ∀ D, LCg.Off1 D fro → D ∉ outer.filterMap (·.frame) := fun D h hm => by
    obtain ⟨_, o, ho, _⟩ := hfr.mem hm
    have hm' : (D, o) ∈ fro := by rw [← hfo]; exact mem_liveOf.mpr ⟨hm, ho⟩
    exact off1_ne h hm' rfl
  have hll : ls.length = hs.length := by rw [← hls0, List.length_map]
  refine guarded_spec (dp := dp + 1) (un := un + 3) G O₂ (hFF _ _ _ rfl rfl F₂.ns fun p hp => ⟨p.2.slots, (N₂ p (.tail _ (.tail _ (.tail _ (.tail _ hp))))).1⟩) (by omega) (by omega) (N₂ _ (.head _)).1 ?_ hys (by omega) hwl fun T' E₁ E₂ vr ws₁ k₁ ws₂ k₂ s₃ hA hT hE₁ hE₂ gT gE₁ gE₂ hi₁ hi₂ hvr => ?_
  · intro hm
    rcases List.mem_cons.mp (show D ∈ L :: outer.filterMap (·.frame) from hm) with z | hm
    · exact (N₂ _ (.head _)).2.1 z
    · exact hDf D hoff.2.2.2 hm
  have hH' : ∀ b ∈ outer.filterMap (·.frame), H.get? b = none := fun b hb => by rw [← hH]; exact hideAll_none _ (.tail _ (.tail _ hb))
  have F₃ := (⟨ns_slots F₂.ns (fun o ho _ => hA.frames L (.head _) o ho), fun b o e => hA.keep b o (fun hm => by
      rcases List.mem_cons.mp (show b ∈ L :: outer.filterMap (·.frame) from hm) with z | hm
      · exact absurd (Heap.lt_size e) (by rw [z]; exact Nat.not_lt.mpr F₂.above)
      · rw [hH' b hm] at e; cases e) (F₂.keep b o e), F₂.above⟩ : Fr H L s₃.heap _)
  have fresh : ∀ b, h₂.objs.size ≤ b → b ≠ L ∧ H.get? b = none := fun b hb => ⟨fun z => absurd F₂.ns.lt (by rw [← z]; exact Nat.not_lt.mpr hb), by
    cases q : H.get? b with
    | none => rfl
    | some o => exact absurd (Heap.lt_size (F₂.keep b o q)) (Nat.not_lt.mpr hb)⟩
  have hkN : ∀ q : Addr × Obj, q.1 ∉ outer.filterMap (·.frame) → (h₂.get? q.1 = some q.2 ∧ q.1 ≠ L ∧ H.get? q.1 = none) → s₃.heap.get? q.1 = some q.2 ∧ q.1 ≠ L ∧ H.get? q.1 = none := fun q h1 h2 => ⟨hA.keep _ _ (fun hm => by
      rcases List.mem_cons.mp (show q.1 ∈ L :: outer.filterMap (·.frame) from hm) with z | hm
      · exact h2.2.1 z
      · exact h1 hm) h2.1, h2.2⟩
  have hLf : L + 1 ∉ outer.filterMap (·.frame) := fun hm => by
    obtain ⟨_, o, ho, _⟩ := hfr.mem hm
    exact absurd (Heap.lt_size ho) (by rw [← hL]; exact Nat.not_lt.mpr (Nat.le_succ _))
  have N₃ : News H L s₃.heap ((T', { cls := .type "tuple", data := .seq #[.ref E₁, vr, .ref E₂] }) :: (E₁, W.listOf ws₁ k₁) :: (E₂, W.listOf ws₂ k₂) :: (D, W.listOf ys.toArray ys.length) :: (L + 1, oc) :: (D₁, W.listOf vs₁ n₁) :: (D₂, W.listOf vs₂ n₂) :: liveOf s₃.heap (outer.filterMap (·.frame))) := by
    intro q hq
    rcases List.mem_cons.mp hq with rfl | hq
    · exact ⟨gT, fresh _ hT⟩
    rcases List.mem_cons.mp hq with rfl | hq
    · exact ⟨gE₁, fresh _ hE₁⟩
    rcases List.mem_cons.mp hq with rfl | hq
    · exact ⟨gE₂, fresh _ hE₂⟩
    rcases List.mem_cons.mp hq with rfl | hq
    · exact hkN _ (hDf D hoff.2.2.2) (N₂ _ (.head _))
    rcases List.mem_cons.mp hq with rfl | hq
    · exact hkN _ hLf (N₂ _ (.tail _ (.head _)))
    rcases List.mem_cons.mp hq with rfl | hq
    · exact hkN _ hf₁ (N₂ _ (.tail _ (.tail _ (.head _))))
    rcases List.mem_cons.mp hq with rfl | hq
    · exact hkN _ hf₂ (N₂ _ (.tail _ (.tail _ (.tail _ (.head _)))))
    obtain ⟨h1, h2⟩ := mem_liveOf.mp (show (q.1, q.2) ∈ _ from hq)
    refine ⟨h2, fun z => ?_, hH' _ h1⟩
    obtain ⟨_, o, ho, _⟩ := hfr.mem h1
    exact absurd (Heap.lt_size ho) (by rw [z, ← hL]; exact Nat.lt_irrefl _)
  have hfr₃ : ∀ p ∈ fro, ∃ sl, s₃.heap.get? p.1 = some { p.2 with slots := sl } := fun p hp =>
    hA.frames p.1 (.tail _ (by rw [← hfo] at hp; exact (mem_liveOf.mp (show (p.1, p.2) ∈ _ from hp)).1)) p.2 (N₂ p (.tail _ (.tail _ (.tail _ (.tail _ hp))))).1
  have hlb : ∀ l ∈ ls, l.natAbs ≤ 40 := fun l hl => by
    rw [← hls0] at hl
    obtain ⟨h, hm, rfl⟩ := List.mem_map.mp hl
    have := hh h hm
    omega
  clear F₂ N₂
  generalize hfo₃ : liveOf s₃.heap (outer.filterMap (·.frame)) = fro₃ at *
  have hpl : passN ls ≤ ls.length := passN_le ls
  generalize hpn : passN ls = pn at *
  have hw₁ : ws₁.size = pn := by
    have h1 := IntsAre.length hi₁
    rw [Array.length_toList, List.length_take] at h1
    omega
  have hw₂' : ws₂.size ≤ 100 := by
    have h1 := IntsAre.length hi₂
    rw [Array.length_toList, List.length_drop] at h1
    omega
  have hH₀ : ∀ b o, b ∉ D₁ :: D₂ :: outer.filterMap (·.frame) → s.heap.get? b = some o → H.get? b = some o := fun b o hb e => by rw [← hH]; exact hideAll_get _ e hb
  have hgens : GStep s.gens.size s.gens s₃.gens := hA.gens
  have hos₃ : s₃.os = s.os := hA.os
  k_steps
  rename_i h₃ F₃ N₃
  have mid := fun (kk : Nat) => lifted_mid (w := w) (dp := dp) (un := un) (gd := gd) (outer := outer) (s := { s₃ with heap := h₃, toks := kk }) (rest := (bodyAt w 108).drop 5) (QQ := QQ) X T (by omega) F₃ (fun p hp => N₃ p (.tail _ hp)) hys hi₁ hi₂ hpl hw₁ hw₂' hyl (by omega) hwl hvr
    (fun h₄ tk₄ tp₄ F₄ N₄ => lifted_loop (s := { s₃ with heap := h₄, toks := tk₄ }) (more := (D₂, W.listOf vs₂ n₂) :: fro₃) G OH hdp hun (fr_put (Str.ofString "passed") (fr_put (Str.ofString "lifted") (fr_put (Str.ofString "texts") F₄ rfl) rfl) rfl) N₄ hoc hys hts (by omega) hyl (by omega) htl hlb hl0 hl1 hok
      (fun tk s' k1 k2 k3 k4 => by
        rw [← hq]
        refine hQ tk s' ⟨fun b o hb e => ?_, fun b hb o e => ?_, hgens.trans (k3.mono hgens.size), k4.trans hos₃⟩
        · by_cases z1 : b = D₁
          · rw [z1, hd₁] at e
            cases e
            rw [z1]
            exact (k2 _ (.tail _ (.tail _ (.head _)))).1
          · by_cases z2 : b = D₂
            · rw [z2, hd₂] at e
              cases e
              rw [z2]
              exact (k2 _ (.tail _ (.tail _ (.tail _ (.head _))))).1
            · exact k1 b o (hH₀ b o (fun hm => by
                rcases List.mem_cons.mp hm with z | hm
                · exact z1 z
                · rcases List.mem_cons.mp hm with z | hm
                  · exact z2 z
                  · exact hb hm) e)
        · obtain ⟨sl, e1⟩ := hfr₃ (b, o) (by rw [← hfo]; exact mem_liveOf.mpr ⟨hb, e⟩)
          exact ⟨sl, (k2 _ (.tail _ (.tail _ (.tail _ (.tail _ (by rw [← hfo₃]; exact mem_liveOf.mpr ⟨hb, e1⟩)))))).1⟩))
  refine' with_lookup (a := 108) (K := hd.heap_39 w.params) ?h ?_
  case h => k_is
  intro e
  rw [hrest]
  unfold bodyAt envCAt fdAt at mid
  rw [e] at mid
  exact mid _
end
end Mine
end

section
open PySem PySem.W PyProof.Rows PySem.Calls PySem.Spec
set_option maxRecDepth 100000
set_option maxHeartbeats 8000000
set_option linter.unusedVariables false
namespace Mine
theorem fillH0 : PySem.Challenge.rw_nb0062_01.foot = 10 ∨ (∀ P, hd.heap_39 P = []) := by
  w_top off
  k_fill
  left; rfl

abbrev tsOf (rows : List (Str × Int)) : List Str := (begins rows).texts ++ [(begins rows).text]
abbrev hsOf (rows : List (Str × Int)) : List Int := (begins rows).heights
abbrev upBy (lift : Int) (hs : List Int) : List Int := hs.map fun k' => k' + lift
/-- what the law asks of a row, in plain words of Lean -/
structure GoodRow (rows : List (Str × Int)) : Prop where
  len : rows.length ≤ 8
  small : ∀ p ∈ rows, p.2.natAbs ≤ 1 ∧ p.1.length ≤ 10
  read : readS (begins rows).text = hsOf rows
  strip : (stripS (begins rows).text).length ≤ 1000
  texts : ∀ t ∈ tsOf rows, t.length ≤ 100
  same : (tsOf rows).length = (hsOf rows).length
  few : (hsOf rows).length ≤ 20
  flat : ∀ h ∈ hsOf rows, h.natAbs ≤ 20
  need0 : 0 ≤ lonelyL 0 0 rows
  need1 : lonelyL 0 0 rows ≤ 10
  lifts : ∀ lift : Nat, (lift : Int) ≤ lonelyL 0 0 rows → liftOk lift (passN (upBy lift (hsOf rows))) (tsOf rows) (upBy lift (hsOf rows)) (upBy lift (hsOf rows)).length ∧
    decide (passN (upBy lift (hsOf rows)) = (hsOf rows).length) = decide ((lift : Int) = lonelyL 0 0 rows)

theorem beq_dec {a b : Int} : (a == b) = decide (a = b) := by
  by_cases h : a = b <;> simp [h]
theorem last_text {l : List Str} {x : Str} : (l ++ [x]).getD (-1 + ((l ++ [x]).length : Int)).toNat Str.empty = x := by
  have e : (-1 + ((l ++ [x]).length : Int)).toNat = l.length := by simp; omega
  rw [e]
  simp [List.getD]


section
variable {w : World} {mean : ExcName → Option Value} {mg mb : Str → Option Value} {base : Heap} {dp un : Nat} {gd : Option (List Code)} {outer : List Env} {E : Value → Shared → Prop} {s : Shared}

def HoJ (D₁ D₂ : Addr) (o₁ o₂ : Obj) (fro : List (Addr × Obj)) (nn : Nat) (i : Nat) (m : Str → Option Value) (nx : List (Addr × Obj)) : Prop :=
  m (Str.ofString "texts") = some (.ref D₁) ∧ m (Str.ofString "heights") = some (.ref D₂) ∧ (∃ t, m (Str.ofString "need") = some (.int (nn : Nat) t)) ∧
    ∃ fro', nx = (D₁, o₁) :: (D₂, o₂) :: fro' ∧ fro'.map (·.1) = fro.map (·.1) ∧ ∀ p ∈ fro, ∃ sl, (p.1, ({ p.2 with slots := sl } : Obj)) ∈ fro'

theorem holds_loop (G : Ground w mean mg mb base) {H : Heap} (OH : On base H) (hdp : dp + 100 < recursionLimit) (hun : un + 600 < cLine) {L D₁ D₂ : Addr} {vs ws : Array Value} {n₁ n₂ nn : Nat} {rows : List (Str × Int)} {fro : List (Addr × Obj)} {m : Str → Option Value} {tn : Tok} (hg : GoodRow rows) (hnn : lonelyL 0 0 rows = (nn : Int))
    (hFF : ∀ h : Heap, (∀ p ∈ fro, ∃ sl, h.get? p.1 = some { p.2 with slots := sl }) → h.FunFrames base outer) (hfroF : ∀ p ∈ fro, p.1 ∈ outer.filterMap (·.frame)) (hcov : ∀ b ∈ outer.filterMap (·.frame), b ∈ fro.map (·.1)) (hHf : ∀ b ∈ outer.filterMap (·.frame), H.get? b = none)
    (hD₁ : D₁ ∉ outer.filterMap (·.frame)) (hD₂ : D₂ ∉ outer.filterMap (·.frame)) {QQ : Flow → Shared → Prop}
    (F : Fr H L s.heap (fun y => if y = Str.ofString "need" then some (.int (nn : Nat) tn) else if y = Str.ofString "heights" then some (.ref D₂) else if y = Str.ofString "texts" then some (.ref D₁) else m y))
    (N : News H L s.heap ((D₁, W.listOf vs n₁) :: (D₂, W.listOf ws n₂) :: fro)) (hts : StrsAre vs.toList (tsOf rows)) (hhs : IntsAre ws.toList (hsOf rows))
    (hQ : ∀ s', H.StaysIn s'.heap → (∀ p ∈ fro, ∃ sl, s'.heap.get? p.1 = some { p.2 with slots := sl }) → GStep s.gens.size s.gens s'.gens → s'.os = s.os → QQ (.ret (.bool true)) s') :
    wpAny (model prog w) (Around.deeper (Ar dp un gd outer) (envAt w 115 L)) (execs ((bodyAt w 115).drop 3) (envAt w 115 L)) QQ (fun _ _ => False) s := by
  have GH := G.keeps OH.stays
  have X := GH.K
  have T := GH.T
  have hbL : base.get? L = none := by
    cases q : base.get? L with
    | none => rfl
    | some o => exact absurd (Heap.lt_size q) (Nat.not_lt.mpr (Nat.le_trans OH.size F.above))
  have hbH : ∀ b, H.get? b = none → base.get? b = none := fun b hb => by
    cases q : base.get? b with
    | none => rfl
    | some o => have := OH.stays b o q; rw [hb] at this; cases this
  have hn1 : nn ≤ 10 := by have := hg.need1; omega
  have hvl : vs.size ≤ 100 := by
    have h3 := StrsAre.length hts
    rw [Array.length_toList, hg.same] at h3
    have h2 : (begins rows).heights.length ≤ 20 := hg.few
    have h3 : vs.size = (begins rows).heights.length := h3
    omega
  have hwl : ws.size ≤ 100 := by
    have h3 := IntsAre.length hhs
    rw [Array.length_toList] at h3
    have h2 : (begins rows).heights.length ≤ 20 := hg.few
    have h3 : ws.size = (begins rows).heights.length := h3
    omega
  have htl : (begins rows).text.length ≤ 100 := hg.texts _ (by simp)
  have hws : ws.size = (hsOf rows).length := by
    have h3 := IntsAre.length hhs
    rwa [Array.length_toList] at h3
  refine' with_lookup (a := 115) (K := hd.heap_39 w.params) ?h ?_
  case h => k_is
  intro e
  unfold bodyAt envAt fdAt
  rw [e]
  clear e
  dsimp only [List.drop_succ_cons, List.drop_zero]
  refine wpAny_execs_cons ?_
  refine range_For rfl rfl rfl (by intro _; rfl) ?_
  k_steps
  rename_i h₁ tk₁ t₁ u₁ v₁ hR F₁ N₁ hk₁
  refine ⟨H, s.gens.size, nn + 1, t₁, u₁, v₁, HoJ D₁ D₂ (W.listOf vs n₁) (W.listOf ws n₂) fro nn, _, _, _, rfl, hR, by omega, ⟨rfl, rfl, ⟨_, rfl⟩, fro, rfl, rfl, fun p hp => ⟨p.2.slots, hp⟩⟩, F₁, N₁, ?turn, ?done⟩
  case turn =>
    intro i m₁ nx own tk s₁ hi hJ off hgs hos F₂ N₂
    obtain ⟨hte, hhe, ⟨tn', hne⟩, fro', rfl, hff, hsl⟩ := hJ
    have F₃ := fr_put (Str.ofString "need") (fr_put (Str.ofString "heights") (fr_put (Str.ofString "texts") F₂ hte) hhe) hne
    clear F₁ N₁ hk₁ F₂ hR
    have hfm' : ∀ p ∈ fro', p.1 ∈ outer.filterMap (·.frame) := fun p hp => by
      have h1 : p.1 ∈ fro.map (·.1) := hff ▸ List.mem_map_of_mem hp
      obtain ⟨q, hq, e⟩ := List.mem_map.mp h1
      rw [← e]; exact hfroF q hq
    have hofff : ∀ q ∈ own, q.1 ∉ outer.filterMap (·.frame) := fun q hq hm =>
      off q hq q.1 (.tail _ (.tail _ (by rw [hff]; exact hcov _ hm))) rfl
    obtain ⟨hok, hdec⟩ := hg.lifts i (by omega)
    have N₂' : News H L s₁.heap ((D₁, W.listOf vs n₁) :: (D₂, W.listOf ws n₂) :: (fro' ++ own)) := N₂
    clear N₂
    k_steps
    all_goals
      refine lifted_spec (dp := dp + 1) (un := un + 3) (n₁ := n₁) (n₂ := n₂) G ?oo ?ff (by omega) (by omega) ?g1 ?g2 ?f1 ?f2 ?b1 ?b2 hts hhs hg.few hg.same hg.texts hg.flat (by omega) (by omega) ?wl hok fun tk₄ s₄ hA => ?_
      case oo => exact OH.fr F₃
      case g1 => exact (N₂' _ (.head _)).1
      case g2 => exact (N₂' _ (.tail _ (.head _))).1
      case b1 => exact hbH _ (N₂' _ (.head _)).2.2
      case b2 => exact hbH _ (N₂' _ (.tail _ (.head _))).2.2
      case ff =>
        obtain ⟨o, es, ep, ho, hd, _⟩ := F₃.ns
        refine ⟨(fun z => nomatch z), ⟨L, o, rfl, hbL, ho, fun vs => by rw [hd]; exact fun z => nomatch z⟩, hFF _ fun p hp => ?_⟩
        obtain ⟨sl, hm⟩ := hsl p hp
        exact ⟨sl, (N₂' _ (.tail _ (.tail _ (List.mem_append_left _ hm)))).1⟩
      case f1 =>
        intro hm
        rcases List.mem_cons.mp (show D₁ ∈ L :: outer.filterMap (·.frame) from hm) with z | hm
        · exact (N₂' _ (.head _)).2.1 z
        · exact hD₁ hm
      case f2 =>
        intro hm
        rcases List.mem_cons.mp (show D₂ ∈ L :: outer.filterMap (·.frame) from hm) with z | hm
        · exact (N₂' _ (.tail _ (.head _))).2.1 z
        · exact hD₂ hm
      case wl => first | (rw [last_text]; omega) | decide
      have F₄ := (⟨ns_slots F₃.ns (fun o ho _ => hA.frames L (.head _) o ho), fun b o e => hA.keep b o (fun hm => by
          rcases List.mem_cons.mp (show b ∈ L :: outer.filterMap (·.frame) from hm) with z | hm
          · exact absurd (Heap.lt_size e) (by rw [z]; exact Nat.not_lt.mpr F₃.above)
          · rw [hHf b hm] at e; cases e) (F₃.keep b o e), F₃.above⟩ : Fr H L s₄.heap _)
      have hkeep : ∀ q : Addr × Obj, q.1 ∉ outer.filterMap (·.frame) → (s₁.heap.get? q.1 = some q.2 ∧ q.1 ≠ L ∧ H.get? q.1 = none) → s₄.heap.get? q.1 = some q.2 ∧ q.1 ≠ L ∧ H.get? q.1 = none := fun q h1 h2 => ⟨hA.keep _ _ (fun hm => by
          rcases List.mem_cons.mp (show q.1 ∈ L :: outer.filterMap (·.frame) from hm) with z | hm
          · exact h2.2.1 z
          · exact h1 hm) h2.1, h2.2⟩
      have hfr4 : ∀ p ∈ fro', ∃ sl, s₄.heap.get? p.1 = some { p.2 with slots := sl } := fun p hp => hA.frames p.1 (.tail _ (hfm' p hp)) p.2 (N₂' p (.tail _ (.tail _ (List.mem_append_left _ hp)))).1
      have N₄ : News H L s₄.heap ((D₁, W.listOf vs n₁) :: (D₂, W.listOf ws n₂) :: (fro'.map (fun p => (p.1, (s₄.heap.get? p.1).getD p.2)) ++ own)) := by
        intro q hq
        rcases List.mem_cons.mp hq with rfl | hq
        · exact hkeep _ hD₁ (N₂' _ (.head _))
        rcases List.mem_cons.mp hq with rfl | hq
        · exact hkeep _ hD₂ (N₂' _ (.tail _ (.head _)))
        rcases List.mem_append.mp hq with hq | hq
        · obtain ⟨p, hp, rfl⟩ := List.mem_map.mp hq
          obtain ⟨sl, e⟩ := hfr4 p hp
          have h9 := N₂' p (.tail _ (.tail _ (List.mem_append_left _ hp)))
          exact ⟨by dsimp only; rw [e]; rfl, h9.2⟩
        · exact hkeep q (hofff q hq) (N₂' q (.tail _ (.tail _ (List.mem_append_right _ hq))))
      have hsl4 : ∀ p ∈ fro, ∃ sl, (p.1, ({ p.2 with slots := sl } : Obj)) ∈ fro'.map (fun p => (p.1, (s₄.heap.get? p.1).getD p.2)) := fun p hp => by
        obtain ⟨sl, hm⟩ := hsl p hp
        obtain ⟨sl', e⟩ := hfr4 _ hm
        refine ⟨sl', List.mem_map.mpr ⟨_, hm, ?_⟩⟩
        dsimp only at e ⊢
        rw [e]; rfl
      have hff4 : (fro'.map (fun p => (p.1, (s₄.heap.get? p.1).getD p.2))).map (·.1) = fro.map (·.1) := by
        rw [← hff, List.map_map]; rfl
      clear F₃ N₂'
      generalize fro'.map (fun p => (p.1, (s₄.heap.get? p.1).getD p.2)) = fro₄ at *
      rw [hnn] at hdec
      generalize passN (upBy (i : Int) (hsOf rows)) = pn at *
    all_goals
      k_steps
      · exfalso
        have h : (((pn : Int) == ((hsOf rows).length : Int)) != ((i : Int) == (nn : Int))) = true := by assumption
        rw [beq_dec, beq_dec, show decide ((pn : Int) = ((hsOf rows).length : Int)) = decide (pn = (hsOf rows).length) from decide_eq_decide.mpr (by omega), hdec] at h
        simp at h
      · dsimp only
        rename_i h₅ F₅ N₅ _ _
        exact TurnEndG.mk' (nx := (D₁, W.listOf vs n₁) :: (D₂, W.listOf ws n₂) :: fro₄) F₅ N₅ ⟨rfl, rfl, ⟨_, rfl⟩, fro₄, rfl, hff4, hsl4⟩ (by rw [List.map_cons, List.map_cons, List.map_cons, List.map_cons, hff4, hff]) (fun q hq => by
          rcases List.mem_cons.mp hq with rfl | hq
          · exact .head _
          rcases List.mem_cons.mp hq with rfl | hq
          · exact .tail _ (.head _)
          · exact .tail _ (.tail _ (List.mem_append_left _ hq))) (fun q hq => .tail _ (.tail _ (List.mem_append_right _ hq))) (hA.gens.mono hgs.size) hA.os
  case done =>
    intro m₁ nx s₁ hJ hgs hos F₂ N₂
    obtain ⟨hte, hhe, ⟨tn', hne⟩, fro', rfl, hff, hsl⟩ := hJ
    clear F₁ N₁ hk₁ hR
    dsimp only
    k_steps
    refine hQ _ F₂.keep (fun p hp => ?_) hgs hos
    obtain ⟨sl, hm⟩ := hsl p hp
    exact ⟨sl, (N₂ _ (.tail _ (.tail _ hm))).1⟩
end
end Mine
end

section
open PySem PySem.W PyProof.Rows PySem.Calls PySem.Spec
set_option maxRecDepth 100000
set_option maxHeartbeats 8000000
set_option linter.unusedVariables false
namespace Mine
theorem fillH1 : PySem.Challenge.rw_nb0062_01.foot = 10 ∨ (∀ P, hd.heap_39 P = []) := by
  w_top off
  k_fill
  left; rfl

section
variable {w : World} {mean : ExcName → Option Value} {mg mb : Str → Option Value} {base : Heap} {dp un : Nat} {gd : Option (List Code)} {outer : List Env} {E : Value → Shared → Prop} {s : Shared}

theorem holds_spec (G : Ground w mean mg mb base) (O : On base s.heap) (hfr : s.heap.FunFrames base outer) (hdp : dp + 100 < recursionLimit) (hun : un + 600 < cLine) {l : Addr} {rows : List (Str × Int)}
    (hrow : RowAt (hideAll s.heap (outer.filterMap (·.frame))) l rows) (hg : GoodRow rows) {Q : Value → Shared → Prop}
    (hQ : ∀ s', AfterG outer s s' → Q (.bool true) s') :
    wpAny (model prog w) (Ar dp un gd outer) (call (.ref 115) [.ref l]) Q E s := by
  have G₀ := G.keeps O.stays
  have st : base.StaysIn (hideAll s.heap (outer.filterMap (·.frame))) := fun b o e => hideAll_get _ (O.stays b o e) fun hm => by rw [(hfr.mem hm).1] at e; cases e
  have GH := G.keeps st
  have X := GH.K
  have T := GH.T
  refine wpAny_call ?_
  k_dflt (refine' enterF ?k1 ?k6 ?k7 ?k8 ?k9 ?kB ?kM ?_ ?c2 ?c3 ?c4 ?c5; (case k1 => exact G₀); (case k6 => k_is); (case k7 => k_is); (case k8 => (dsimp only; omega)); (case k9 => exact BindsTo.of_eq rfl); (case c5 => decide); (case kB => exact locs rfl); (case c2 => exact rfl); (case c3 => exact rfl); (case c4 => exact rfl); (case kM => exact binds1))
  intro L h₁ hL F₀ N₀
  (try dsimp only)
  generalize hq : (fun (fl : Flow) (s' : Shared) => Q (match fl with | Flow.ret v => v | x => Value.none) s') = QQ
  have F : Fr (hideAll s.heap (outer.filterMap (·.frame))) L h₁ _ := ⟨F₀.ns, fun b o e => F₀.keep b o (of_hideAll _ e), by rw [hideAll_size]; exact F₀.above⟩
  have N : News (hideAll s.heap (outer.filterMap (·.frame))) L h₁ (liveOf s.heap (outer.filterMap (·.frame))) := fun p hp => by
    obtain ⟨h1, h2⟩ := mem_liveOf.mp (show (p.1, p.2) ∈ _ from hp)
    exact ⟨F₀.keep _ _ h2, by rw [hL]; exact Nat.ne_of_lt (Heap.lt_size h2), hideAll_none _ h1⟩
  have OH : On base (hideAll s.heap (outer.filterMap (·.frame))) := ⟨st, by rw [hideAll_size]; exact O.size⟩
  have hHs : ∀ b o, b ∉ outer.filterMap (·.frame) → s.heap.get? b = some o → (hideAll s.heap (outer.filterMap (·.frame))).get? b = some o := fun b o hb e => hideAll_get _ e hb
  clear F₀ N₀
  generalize hH : hideAll s.heap (outer.filterMap (·.frame)) = H at *
  generalize hfo : liveOf s.heap (outer.filterMap (·.frame)) = fro at *
  refine cut_rest (P := fun b => wpAny _ _ (execs b _) _ _ _) _ 3 ?_
  intro rest hrest
  dsimp only [List.take_succ_cons, List.take_zero, List.cons_append, List.nil_append]
  have hsm' : ∀ p ∈ rows, p.2.natAbs ≤ 1 ∧ p.1.length ≤ 100 := fun p hp => ⟨(hg.small p hp).1, Nat.le_trans (hg.small p hp).2 (by decide)⟩
  k_steps
  refine begin_spec (dp := dp + 1) (un := un + 3) G (OH.fr F) (by omega) (by omega) (hrow.keeps F.keep) hg.len hsm' fun T' D₁ D₂ vs ws n₁ n₂ s₂ hA gT fT f₁ f₂ g₁ g₂ hts hhs => ?_
  obtain ⟨oT, hoT, hoTc, nT, hoTd⟩ := gT
  have fresh : ∀ b, h₁.get? b = none → b ≠ L ∧ H.get? b = none := fun b hb => by
    constructor
    · intro z
      obtain ⟨o, _, _, ho, _⟩ := F.ns
      rw [z, ho] at hb
      cases hb
    · cases q : H.get? b with
      | none => rfl
      | some o =>
        have := F.keep b o q
        rw [hb] at this
        cases this
  have hfrs : ∀ b o, (b, o) ∈ fro → h₁.get? b = some o := fun b o hm => (N _ hm).1
  have F₂ := F.keeps hA.keep
  have N₂ : News H L s₂.heap ((T', oT) :: (D₁, W.listOf vs n₁) :: (D₂, W.listOf ws n₂) :: fro) := by
    intro q hq
    rcases List.mem_cons.mp hq with rfl | hq
    · exact ⟨hoT, fresh _ fT⟩
    rcases List.mem_cons.mp hq with rfl | hq
    · exact ⟨g₁, fresh _ f₁⟩
    rcases List.mem_cons.mp hq with rfl | hq
    · exact ⟨g₂, fresh _ f₂⟩
    exact ⟨hA.keep _ _ (N q hq).1, (N q hq).2⟩
  clear F N
  have hvl : vs.size ≤ 100 := by
    have := StrsAre.length hts
    rw [Array.length_toList, hg.same] at this
    have h2 : (begins rows).heights.length ≤ 20 := hg.few
    have h3 : vs.size = (begins rows).heights.length := this
    omega
  have hwl : ws.size ≤ 100 := by
    have := IntsAre.length hhs
    rw [Array.length_toList] at this
    have h2 : (begins rows).heights.length ≤ 20 := hg.few
    omega
  refine wpAny_assign_Tuple rfl (show s₂.heap.IsTuple T' #[.ref D₁, .ref D₂] from ⟨oT, hoT, hoTc, nT, hoTd⟩) rfl rfl fun h₃ hx₃ => ?_
  have hx₃' : ∀ b' o, s₂.heap.get? b' = some o → h₃.get? b' = some o := fun b' o e' => hx₃ b' o (Nat.ne_of_lt (Heap.lt_size e')) e'
  have F₃ := F₂.keeps hx₃'
  have N₃ : News H L h₃ ((D₁, W.listOf vs n₁) :: (D₂, W.listOf ws n₂) :: fro) := fun p hp => ⟨hx₃' _ _ (N₂ p (.tail _ hp)).1, (N₂ p (.tail _ hp)).2⟩
  clear F₂ N₂
  refine wpAny_bind (wpAny_holding ?_)
  walk1
  walk1
  refine wpAny_bind (wpAny_holding ?_)
  walk1
  walk1
  refine wpAny_pure ?_
  k_steps
  rw [last_text]
  rename_i h₄ F₄ N₄ t₄
  have htl : (begins rows).text.length ≤ 100 := hg.texts _ (by simp)
  refine read_spec (dp := dp + 1) (un := un + 3) G (OH.fr F₄) (by omega) (by omega) (by omega) hg.strip fun D₃ vs₃ n₃ s₅ hA₅ f₃ g₃ hi₃ => ?_
  rw [hg.read] at hi₃
  have F₅ := F₄.keeps hA₅.keep
  have N₅ : News H L s₅.heap ((D₃, W.listOf vs₃ n₃) :: (D₁, W.listOf vs n₁) :: (D₂, W.listOf ws n₂) :: fro) := by
    intro q hq
    rcases List.mem_cons.mp hq with rfl | hq
    · refine ⟨g₃, fun z => ?_, ?_⟩
      · obtain ⟨o, _, _, ho, _⟩ := F₄.ns
        rw [← z] at ho
        have f₃' : h₄.get? D₃ = none := f₃
        rw [f₃'] at ho
        cases ho
      · cases q : H.get? D₃ with
        | none => rfl
        | some o =>
          have := F₄.keep _ _ q
          have f₃' : h₄.get? D₃ = none := f₃
          rw [f₃'] at this
          cases this
    · exact ⟨hA₅.keep _ _ (N₄ q hq).1, (N₄ q hq).2⟩
  clear F₄ N₄
  have hvl₃ : vs₃.size ≤ 100 := by
    have := IntsAre.length hi₃
    rw [Array.length_toList] at this
    have h2 : (begins rows).heights.length ≤ 20 := hg.few
    have h3 : vs₃.size = (begins rows).heights.length := this
    omega
  k_steps
  refine lonely_spec (dp := dp + 1) (un := un + 3) G (OH.fr F₅) (by omega) (by omega) (hrow.keeps F₅.keep) (Nat.le_trans hg.len (by decide)) fun t₆ s₆ hA₆ => ?_
  have F₆ := F₅.keeps hA₆.keep
  have N₆ : News H L s₆.heap ((D₁, W.listOf vs n₁) :: (D₂, W.listOf ws n₂) :: fro) := fun p hp => ⟨hA₆.keep _ _ (N₅ p (.tail _ hp)).1, (N₅ p (.tail _ hp)).2⟩
  clear F₅ N₅
  walk1
  rename_i h₇ F₇ N₇
  have hgens : GStep s.gens.size s.gens s₆.gens := (hA.gens.trans (hA₅.gens.mono hA.gens.size)).trans (hA₆.gens.mono (Nat.le_trans hA.gens.size hA₅.gens.size))
  have hos : s₆.os = s.os := (hA₆.os.trans hA₅.os).trans hA.os
  have hLs : ∀ b ∈ outer.filterMap (·.frame), b < L := fun b hb => by
    obtain ⟨_, o, ho, _⟩ := hfr.mem hb
    rw [hL]; exact Heap.lt_size ho
  obtain ⟨nn, hnn⟩ := Int.eq_ofNat_of_zero_le hg.need0
  rw [hnn] at F₇
  have hLD : ∀ b, h₁.get? b = none → b ∉ outer.filterMap (·.frame) := fun b hb hm => by
    obtain ⟨_, o, ho, _⟩ := hfr.mem hm
    have h9 := hfrs b o (by rw [← hfo]; exact mem_liveOf.mpr ⟨hm, ho⟩)
    rw [hb] at h9; cases h9
  have loop := holds_loop (w := w) (dp := dp) (un := un) (gd := gd) (outer := outer) (s := { s₆ with heap := h₇, toks := s₆.toks + 1 }) (QQ := QQ) (fro := fro) G OH hdp hun hg hnn
    (fun h hall => hfr.of_live fun b hb o e => hall (b, o) (by rw [← hfo]; exact mem_liveOf.mpr ⟨hb, e⟩))
    (fun p hp => by rw [← hfo] at hp; exact (mem_liveOf.mp (show (p.1, p.2) ∈ _ from hp)).1)
    (fun b hb => by
      obtain ⟨_, o, ho, _⟩ := hfr.mem hb
      exact List.mem_map.mpr ⟨(b, o), by rw [← hfo]; exact mem_liveOf.mpr ⟨hb, ho⟩, rfl⟩)
    (fun b hb => by rw [← hH]; exact hideAll_none _ hb) (hLD _ f₁) (hLD _ f₂) F₇ N₇ hts hhs
    (fun s' k1 k2 k3 k4 => by
      rw [← hq]
      exact hQ s' ⟨fun b o hb e => k1 b o (hHs b o hb e), fun b hb o e => k2 (b, o) (by rw [← hfo]; exact mem_liveOf.mpr ⟨hb, e⟩), hgens.trans (k3.mono hgens.size), k4.trans hos⟩)
  refine' with_lookup (a := 115) (K := hd.heap_39 w.params) ?h ?_
  case h => k_is
  intro e
  rw [hrest]
  unfold bodyAt envAt fdAt at loop
  rw [e] at loop
  exact loop
end
end Mine
end

section
open PySem PySem.W PyProof.Rows PySem.Calls PySem.Spec
set_option maxRecDepth 100000
set_option maxHeartbeats 8000000
set_option linter.unusedVariables false
namespace Mine
theorem fillP1 : PySem.Challenge.rw_nb0062_01.foot = 10 ∨ (∀ P, hd.heap_39 P = []) := by
  w_top off
  k_fill
  left; rfl
/-- the pieces that a row may have -/
def menu : List (Str × Int) := [(Str.ofString "(", 1), (Str.ofString ")", -1), (Str.ofString "\\(", 0), (Str.ofString "\\)", 0), (Str.ofString "\\\"", 0), (Str.ofString "\\\\", 0),
  (Str.ofString "\"(\"", 0), (Str.ofString "\")\"", 0), (Str.ofString "\"\"", 0), (Str.ofString "\"\\\")\"", 0), (Str.ofString "\"))(\"", 0), (Str.ofString "a", 0), (Str.ofString " ", 0), (Str.ofString "[", 0), (Str.ofString ",", 0)]

theorem four (n : Int) : n.fmod 4 = 0 ∨ n.fmod 4 = 1 ∨ n.fmod 4 = 2 ∨ n.fmod 4 = 3 := by
  have h1 := Int.fmod_nonneg_of_pos n (b := 4) (by decide)
  have h2 := Int.fmod_lt_of_pos n (b := 4) (by decide)
  omega
theorem menu_esc (n : Int) : (Str.ofString "\\" ++ Txt.item (Str.ofString "()\"\\") (n.fmod 4), (0 : Int)) ∈ menu := by
  rcases four n with h | h | h | h <;> rw [h] <;> decide +kernel
theorem menu_plain (n : Int) : (Txt.item (Str.ofString "a [,") (n.fmod 4), (0 : Int)) ∈ menu := by
  rcases four n with h | h | h | h <;> rw [h] <;> decide +kernel

section
variable {w : World} {mean : ExcName → Option Value} {mg mb : Str → Option Value} {base : Heap} {dp un : Nat} {gd : Option (List Code)} {outer : List Env} {E : Value → Shared → Prop} {s : Shared}

theorem piece_spec (G : Ground w mean mg mb base) (O : On base s.heap) (hdp : dp + 20 < recursionLimit) (hun : un + 100 < cLine) {n : Int} {t : Tok} {Q : Value → Shared → Prop}
    (hQ : ∀ T' x st t1 t2 s', (x, st) ∈ menu → After s s' → s.heap.get? T' = none → s'.heap.get? T' = some { cls := .type "tuple", data := .seq #[.str x t1, .int st t2] } → Q (.ref T') s') :
    wpAny (model prog w) (Ar dp un gd outer) (call (.ref 63) [.int n t]) Q E s := by
  have G₀ := G.keeps O.stays
  have X := G₀.K
  have T := G₀.T
  refine wpAny_call ?_
  k_dflt (refine' enterF ?k1 ?k6 ?k7 ?k8 ?k9 ?kB ?kM ?_ ?c2 ?c3 ?c4 ?c5; (case k1 => exact G₀); (case k6 => k_is); (case k7 => k_is); (case k8 => (dsimp only; omega)); (case k9 => exact BindsTo.of_eq rfl); (case c5 => decide); (case kB => exact locs rfl); (case c2 => exact rfl); (case c3 => exact rfl); (case c4 => exact rfl); (case kM => exact binds1))
  intro L h₁ hL F N
  (try dsimp only)
  generalize hq : (fun (fl : Flow) (s' : Shared) => Q (match fl with | Flow.ret v => v | x => Value.none) s') = QQ
  k_steps
  all_goals (
    rename_i F' N' _
    rw [← hq]
    refine hQ _ _ _ _ _ _ ?_ ⟨F'.keep, .refl _ _, rfl⟩ (N' _ (.head _)).2.2 (N' _ (.head _)).1
    first | exact menu_esc _ | exact menu_plain _ | decide +kernel)
end
end Mine
end

section
open PySem PySem.W PyProof.Rows PySem.Calls PySem.Spec
set_option maxRecDepth 100000
set_option maxHeartbeats 8000000
set_option linter.unusedVariables false
namespace Mine
theorem fillP2 : PySem.Challenge.rw_nb0062_01.foot = 10 ∨ (∀ P, hd.heap_39 P = []) := by
  w_top off
  k_fill
  left; rfl

/-- the end of a turn whose ledger may grow -/
def TurnEndH (n : Nat) (H : Heap) (L : Addr) (J : (Str → Option Value) → List (Addr × Obj) → Prop) (own : List (Addr × Obj)) (s₁ s₂ : Shared) : Prop :=
  ∃ m' nx news', Fr H L s₂.heap m' ∧ News H L s₂.heap news' ∧ (∀ p ∈ nx, p ∈ news') ∧ (∀ p ∈ own, p ∈ news') ∧ (∀ p ∈ nx, ∀ q ∈ own, p.1 ≠ q.1) ∧ J m' nx ∧ GStep n s₁.gens s₂.gens ∧ s₂.os = s₁.os

section
variable {w : World} {s : Shared}
/-- a for over range(cnt), at its source's value -/
def RangeAtLoopG (w : World) (A : Around) (env : Env) (x : Str) (body : List Stmt) (Q : Flow → Shared → Prop) (v : Value) (s : Shared) : Prop :=
  ∃ (H : Heap) (n cnt : Nat) (t u k : Tok) (J : Nat → (Str → Option Value) → List (Addr × Obj) → Prop) (m₀ : Str → Option Value) (nx₀ : List (Addr × Obj)) (r : Addr),
    v = .ref r ∧ IsRange s.heap r 0 (cnt : Int) 1 t u k ∧ cnt ≤ 1000 ∧ J 0 m₀ nx₀ ∧ Fr H env.locals s.heap m₀ ∧ News H env.locals s.heap nx₀ ∧
    (∀ i m₁ nx own tk s₁, i < cnt → J i m₁ nx → OwnOff own (nx.map (·.1)) → GStep n s.gens s₁.gens → s₁.os = s.os →
      Fr H env.locals s₁.heap (fun y => if y = x then some (.int (i : Nat) tk) else m₁ y) → News H env.locals s₁.heap (nx ++ own) →
      wpAny (model prog w) A (execs body env) (fun f s₂ => match f with
        | .ret v => Q (.ret v) s₂
        | .brk => Q .next s₂
        | _ => TurnEndH n H env.locals (J (i + 1)) own s₁ s₂) (fun _ _ => False) s₁) ∧
    (∀ m₁ nx s₁, J cnt m₁ nx → GStep n s.gens s₁.gens → s₁.os = s.os → Fr H env.locals s₁.heap m₁ → News H env.locals s₁.heap nx → Q .next s₁)

theorem range_ForG {A : Around} {env : Env} {x : Str} {p1 pos : Pos} {iter : Expr} {body : List Stmt} {Q : Flow → Shared → Prop} (hx : env.kindOf x = some .local)
    (hp : (env.scope.kind == .class || (env.scope.kind == .module && env.locals != env.globals)) = false) (hh : A.handled = none)
    (hs : ∀ x, foldedSetIterable iter env x = pure x)
    (h : wpAny (model prog w) A (eval iter env) (fun v s' => RangeAtLoopG w A env x body Q v s') (fun _ _ => False) s) :
    wpAny (model prog w) A (exec (.For (.Name x p1) iter body [] pos) env) Q (fun _ _ => False) s := by
  refine wpAny_For (wpAny_mono h (fun v s' h' => ?_) fun _ _ x => x) hs
  clear h
  obtain ⟨H, n, cnt, t, u, k, J, m₀, nx₀, r, rfl, hr, hcnt, hJ, F, N, turn, done⟩ := h'
  refine wpAny_pyIter_range hr (small_nat hcnt) ?_
  rw [rangeSize_nat]
  have hI : ∀ b o, s'.heap.get? b = some o → b ≠ s'.heap.objs.size := fun b o e => Nat.ne_of_lt (Heap.lt_size e)
  have hIn : s'.heap.objs.size ∉ nx₀.map (·.1) := fun hm => by
    obtain ⟨q, hq, e⟩ := List.mem_map.mp hm
    exact hI _ _ (N q hq).1 e
  refine codeAny_forLoop_any (R := fun r s'' => match r with | .ok f => Q f s'' | .error e => cameBackBy (model prog w) A env (fun _ _ => False) e s'')
    (fun k s'' => ∃ i m₁ nx, k = cnt - i ∧ i ≤ cnt ∧ J i m₁ nx ∧ s'.heap.objs.size ∉ nx.map (·.1) ∧ GStep n s'.gens s''.gens ∧ s''.os = s'.os ∧ Fr H env.locals s''.heap m₁ ∧ News H env.locals s''.heap nx ∧
      IsRangeIter s''.heap s'.heap.objs.size (i : Nat) ((cnt : Int) - (i : Nat)) 1) ?_ cnt
    ⟨0, m₀, nx₀, rfl, Nat.zero_le _, hJ, hIn, .refl _ _, rfl, F.push _, (fun p hp => ⟨Heap.get?_push_of_some _ (N p hp).1, (N p hp).2⟩), by
      show IsRangeIter _ _ _ _ _
      rw [show ((cnt : Int) - ((0 : Nat) : Int)) = (cnt : Int) from by omega]
      exact Heap.get?_push_size _ rfl⟩
  have hIH : H.get? s'.heap.objs.size = none := by
    cases q : H.get? s'.heap.objs.size with
    | none => rfl
    | some o => exact absurd rfl (hI _ _ (F.keep _ _ q))
  have hIL : s'.heap.objs.size ≠ env.locals := Ne.symm (Nat.ne_of_lt F.ns.lt)
  rintro k s₁ ⟨i, m₁, nx, rfl, hle, hJ, hnx, hgs, hos, F₁, N₁, hit⟩
  have keep : ∀ {h₂ : Heap}, (∀ b o, b ≠ s'.heap.objs.size → s₁.heap.get? b = some o → h₂.get? b = some o) → Fr H env.locals h₂ m₁ ∧ News H env.locals h₂ nx := by
    intro h₂ hk
    refine ⟨⟨F₁.ns.at fun o e => hk _ o (Ne.symm hIL) e, fun b o e => hk b o (fun z => by rw [z, hIH] at e; cases e) (F₁.keep b o e), F₁.above⟩, fun q hq => ⟨hk _ _ (fun z => ?_) (N₁ q hq).1, (N₁ q hq).2⟩⟩
    exact hnx (z ▸ List.mem_map_of_mem hq)
  by_cases hlt : i < cnt
  · refine wpAny_pyNext_range_item hit (by omega) fun h₂ hit₂ hs₂ => ?_
    obtain ⟨F₂, N₂⟩ := keep hs₂.extBut
    refine letGo_name ?_
    refine wpAny_assign_Name (wpAny_storeName_local hx F₂.ns (fun h₅ hn₅ hs₅ => ?_) hp)
    have hk₅ : ∀ b' o, b' ≠ env.locals → h₂.get? b' = some o → h₅.get? b' = some o := fun b' o hb e' => hs₅.extBut b' o hb e'
    have F₅ : Fr H env.locals h₅ (fun y => if y = x then some (.int (i : Nat) s₁.toks) else m₁ y) :=
      ⟨hn₅, fun b o e => hk₅ b o (Nat.ne_of_lt (Nat.lt_of_lt_of_le (Heap.lt_size e) F.above)) (F₂.keep b o e), F.above⟩
    have hit₅ := hk₅ _ _ hIL hit₂
    generalize hoi : ({ cls := .type "range_iterator", dict := none, data := .fields #[rawInt ((i : Nat) + 1), rawInt ((cnt : Int) - (i : Nat) - 1), rawInt 1], slots := #[] } : Obj) = oi at hit₅
    have N₅ : News H env.locals h₅ (nx ++ [(s'.heap.objs.size, oi)]) := by
      intro q hq
      rcases List.mem_append.mp hq with h | h
      · exact ⟨hk₅ _ _ (N₂ q h).2.1 (N₂ q h).1, (N₂ q h).2⟩
      · rw [List.mem_singleton.mp h]; exact ⟨hit₅, hIL, hIH⟩
    have off : OwnOff [(s'.heap.objs.size, oi)] (nx.map (·.1)) := by
      intro q hq b hb e
      rw [List.mem_singleton.mp hq] at e
      have e' : s'.heap.objs.size = b := e
      rw [← e'] at hb
      exact hnx hb
    refine wpAny_mono (turn i m₁ nx _ s₁.toks { s₁ with heap := h₅, toks := s₁.toks + 1 + 1 } hlt hJ off hgs hos F₅ N₅) (fun f s₃ h₃' => ?_) fun e s₃ h₃' => h₃'.elim
    have fin : TurnEndH n H env.locals (J (i + 1)) [(s'.heap.objs.size, oi)] { s₁ with heap := h₅, toks := s₁.toks + 1 + 1 } s₃ → ∃ m, m < cnt - i ∧ ∃ i m₁ nx, m = cnt - i ∧ i ≤ cnt ∧ J i m₁ nx ∧ s'.heap.objs.size ∉ nx.map (·.1) ∧ GStep n s'.gens s₃.gens ∧ s₃.os = s'.os ∧ Fr H env.locals s₃.heap m₁ ∧ News H env.locals s₃.heap nx ∧
        IsRangeIter s₃.heap s'.heap.objs.size (i : Nat) ((cnt : Int) - (i : Nat)) 1 := by
      rintro ⟨m', nx', news', F₆, N₆, h1, h2, h3, h4, h5, h6⟩
      refine ⟨cnt - (i + 1), by omega, i + 1, m', nx', rfl, hlt, h4, (fun hm => by
        obtain ⟨q, hq, e⟩ := List.mem_map.mp hm
        exact h3 q hq _ (.head _) e), hgs.trans h5, h6.trans hos, F₆, fun q hq => N₆ q (h1 q hq), ?_⟩
      have h9 := (N₆ _ (h2 _ (.head _))).1
      rw [← hoi] at h9
      show s₃.heap.get? s'.heap.objs.size = _
      rw [h9, show ((cnt : Int) - (i : Nat) - 1) = ((cnt : Int) - ((i + 1 : Nat) : Int)) from by omega, show (((i : Nat) : Int) + 1) = ((i + 1 : Nat) : Int) from by omega]
    cases f with
    | ret v => exact h₃'
    | brk => exact h₃'
    | next => exact fin h₃'
    | cont => exact fin h₃'
  · have hie : i = cnt := by omega
    subst hie
    refine wpAny_pyNext_range_end hh hit (by omega) fun h₂ hx => wpAny_execs_nil ?_
    obtain ⟨F₂, N₂⟩ := keep hx
    exact done m₁ nx { s₁ with heap := h₂ } hJ hgs hos F₂ N₂
end
end Mine
end

section
open PySem PySem.W PyProof.Rows PySem.Calls PySem.Spec
set_option maxRecDepth 100000
set_option maxHeartbeats 8000000
set_option linter.unusedVariables false
namespace Mine
theorem fillP3 : PySem.Challenge.rw_nb0062_01.foot = 10 ∨ (∀ P, hd.heap_39 P = []) := by
  w_top off
  k_fill
  left; rfl
theorem sum_mine {w : World} {A : Around} {E : Value → Shared → Prop} {s : Shared} {l : Addr} {items : Array Value} {Q : Value → Shared → Prop} (hh : A.handled = none) (hl : s.heap.IsList l items) (ha : AllInts items)
    (hQ : ∀ z h' tk t', (∀ b o, s.heap.get? b = some o → h'.get? b = some o) → Q (.int z t') { s with heap := h', toks := tk }) : wpAny (model prog w) A (call (.builtin "sum") [.ref l]) Q E s := by
  obtain ⟨xs, rfl⟩ := ha.items
  exact sum_intListG hh hl fun h' tk t' hk => hQ _ h' tk t' hk

theorem news_keep {H h h' : Heap} {L : Addr} {news : List (Addr × Obj)} (N : News H L h news) (k : ∀ b o, h.get? b = some o → h'.get? b = some o) : News H L h' news := fun p hp => ⟨k _ _ (N p hp).1, (N p hp).2⟩
theorem news_cons {H h : Heap} {L T : Addr} {o : Obj} {news : List (Addr × Obj)} (N : News H L h news) (h1 : h.get? T = some o) (h2 : T ≠ L) (h3 : H.get? T = none) : News H L h ((T, o) :: news) := fun p hp => by
  rcases List.mem_cons.mp hp with rfl | hp
  · exact ⟨h1, h2, h3⟩
  · exact N p hp
theorem fr_fresh {H h : Heap} {L T : Addr} {m : Str → Option Value} (F : Fr H L h m) (hT : h.get? T = none) : T ≠ L ∧ H.get? T = none := by
  constructor
  · intro z
    obtain ⟨o, _, _, ho, _⟩ := F.ns
    rw [← z, hT] at ho; cases ho
  · cases q : H.get? T with
    | none => rfl
    | some o => have h9 := F.keep _ _ q; rw [hT] at h9; cases h9
theorem news_off {H h : Heap} {L T : Addr} {news : List (Addr × Obj)} (N : News H L h news) (hT : h.get? T = none) : ∀ p ∈ news, p.1 ≠ T := fun p hp z => by
  have h9 := (N p hp).1
  rw [z, hT] at h9; cases h9

theorem fits_small {x : Int} (h0 : 0 ≤ x) (h1 : x < 1000) : Builtin.List.listFitsIndex x = true := by
  unfold Builtin.List.listFitsIndex
  simp only [Bool.and_eq_true, decide_eq_true_eq]
  omega

/-- values that are pieces of a ledger -/
inductive PiecesIn (tups : List (Addr × Obj)) : List Value → List (Str × Int) → Prop
  | nil : PiecesIn tups [] []
  | cons {T : Addr} {t : Str} {st : Int} {t1 t2 : Tok} {vs : List Value} {r : List (Str × Int)} : (T, { cls := .type "tuple", data := .seq #[.str t t1, .int st t2] }) ∈ tups → PiecesIn tups vs r → PiecesIn tups (.ref T :: vs) ((t, st) :: r)
theorem PiecesIn.length {tups : List (Addr × Obj)} {vs : List Value} {r : List (Str × Int)} (h : PiecesIn tups vs r) : vs.length = r.length := by
  induction h with
  | nil => rfl
  | cons _ _ ih => rw [List.length_cons, List.length_cons, ih]

theorem PiecesIn.mono {tups tups' : List (Addr × Obj)} {vs : List Value} {r : List (Str × Int)} (h : PiecesIn tups vs r) (hs : ∀ p ∈ tups, p ∈ tups') : PiecesIn tups' vs r := by
  induction h with
  | nil => exact .nil
  | cons hm _ ih => exact .cons (hs _ hm) ih
theorem PiecesIn.ins {tups : List (Addr × Obj)} {vs : List Value} {r : List (Str × Int)} (h : PiecesIn tups vs r) {T : Addr} {t : Str} {st : Int} {t1 t2 : Tok} (hm : (T, { cls := .type "tuple", data := .seq #[.str t t1, .int st t2] }) ∈ tups) (k : Nat) :
    PiecesIn tups (vs.take k ++ .ref T :: vs.drop k) (r.take k ++ (t, st) :: r.drop k) := by
  induction h generalizing k with
  | nil => simp only [List.take_nil, List.drop_nil, List.nil_append]; exact .cons hm .nil
  | cons hm' hr ih =>
    cases k with
    | zero => exact .cons hm (.cons hm' hr)
    | succ k => exact .cons hm' (ih k)

/-- the row that is always there -/
def row0 : List (Str × Int) := [(Str.ofString ")", -1), (Str.ofString "\"(\"", 0), (Str.ofString "(", 1), (Str.ofString ")", -1), (Str.ofString ")", -1), (Str.ofString "(", 1)]
/-- a row after i pieces are laid in -/
inductive Reach : Nat → List (Str × Int) → Prop
  | zero : Reach 0 row0
  | succ {i k : Nat} {r : List (Str × Int)} {p : Str × Int} : Reach i r → p ∈ menu → k ≤ r.length → Reach (i + 1) (r.take k ++ p :: r.drop k)
theorem Reach.length {i : Nat} {r : List (Str × Int)} (h : Reach i r) : r.length = 6 + i := by
  induction h with
  | zero => rfl
  | succ _ _ hk ih => simp; omega

def RoJ (D l : Addr) (i : Nat) (m : Str → Option Value) (nx : List (Addr × Obj)) : Prop :=
  m (Str.ofString "row") = some (.ref D) ∧ m (Str.ofString "script") = some (.ref l) ∧ ∃ vs n tups rows, nx = (D, W.listOf vs n) :: tups ∧ PiecesIn tups vs.toList rows ∧ Reach i rows ∧ (∀ p ∈ tups, p.1 ≠ D)

section
variable {w : World} {mean : ExcName → Option Value} {mg mb : Str → Option Value} {base : Heap} {dp un : Nat} {gd : Option (List Code)} {outer : List Env} {E : Value → Shared → Prop} {s : Shared}

theorem row_spec (G : Ground w mean mg mb base) (O : On base s.heap) (hdp : dp + 40 < recursionLimit) (hun : un + 200 < cLine) {l : Addr} {vs : List Value} {ns : List Int} (hl : s.heap.IsList l vs.toArray) (hi : IntsAre vs ns) (hlen : ns.length ≤ 63) {Q : Value → Shared → Prop}
    (hQ : ∀ D vs n tups rows i s', i ≤ 2 → Reach i rows → After s s' → PiecesIn tups vs.toList rows → (∀ p ∈ (D, W.listOf vs n) :: tups, s'.heap.get? p.1 = some p.2 ∧ s.heap.get? p.1 = none) → Q (.ref D) s') :
    wpAny (model prog w) (Ar dp un gd outer) (call (.ref 70) [.ref l]) Q E s := by
  have G₀ := G.keeps O.stays
  have X := G₀.K
  have T := G₀.T
  refine wpAny_call ?_
  k_dflt (refine' enterF ?k1 ?k6 ?k7 ?k8 ?k9 ?kB ?kM ?_ ?c2 ?c3 ?c4 ?c5; (case k1 => exact G₀); (case k6 => k_is); (case k7 => k_is); (case k8 => (dsimp only; omega)); (case k9 => exact BindsTo.of_eq rfl); (case c5 => decide); (case kB => exact locs rfl); (case c2 => exact rfl); (case c3 => exact rfl); (case c4 => exact rfl); (case kM => exact binds1))
  intro L h₁ hL F N
  (try dsimp only)
  generalize hq : (fun (fl : Flow) (s' : Shared) => Q (match fl with | Flow.ret v => v | x => Value.none) s') = QQ
  refine cut_rest (P := fun b => wpAny _ _ (execs b _) _ _ _) _ 1 ?_
  intro rest hrest
  dsimp only [List.take_succ_cons, List.take_zero, List.cons_append, List.nil_append]
  k_steps
  rw [hrest]
  dsimp only [List.drop_succ_cons, List.drop_zero]
  refine wpAny_execs_cons ?_
  refine range_ForG rfl rfl rfl (by intro _; rfl) ?_
  k_steps
  rename_i h₂ _ _ _ h₃ tk₃ t₃ u₃ v₃ hR F₃ N₃ hk₃
  have hcnt : (if 2 < (ns.length : Int) then 2 else (ns.length : Int)) = ((min 2 ns.length : Nat) : Int) := by split <;> omega
  rw [hcnt] at hR
  refine ⟨s.heap, s.gens.size, min 2 ns.length, t₃, u₃, v₃, RoJ _ l, _, _, _, rfl, hR, by omega, ⟨rfl, rfl, _, _, _, row0, rfl, ?init, .zero, ?ne⟩, F₃, N₃, ?turn, ?done⟩
  case init => exact .cons (.tail _ (.tail _ (.tail _ (.tail _ (.tail _ (.head _)))))) (.cons (.tail _ (.tail _ (.tail _ (.tail _ (.head _))))) (.cons (.tail _ (.tail _ (.tail _ (.head _)))) (.cons (.tail _ (.tail _ (.head _))) (.cons (.tail _ (.head _)) (.cons (.head _) .nil)))))
  case ne =>
    intro p hp z
    have h1 := (N₃ p (.tail _ hp)).1
    have h2 := (N₃ _ (.head _)).1
    rw [z] at h1
    have h3 := Option.some.inj (h1.symm.trans h2)
    simp only [List.mem_cons, List.not_mem_nil, or_false] at hp
    rcases hp with rfl | rfl | rfl | rfl | rfl | rfl <;> exact absurd (congrArg Obj.cls h3) (by simp)
  case turn =>
    intro i m₁ nx own tk s₁ hi' hJ off hgs hos F₄ N₄
    obtain ⟨hro, hsc, ws, nw, tups, rows, rfl, hpi, hre, hne⟩ := hJ
    have F₅ := fr_put (Str.ofString "row") (fr_put (Str.ofString "script") F₄ hsc) hro
    have hws : ws.size ≤ 8 := by
      have h1 := hpi.length
      rw [Array.length_toList, hre.length] at h1
      omega
    clear F₄ F₃ N₃ hk₃ hR
    k_steps
    rename_i h₆ _ F₆ N₆
    have hai := (IntsAre.pick hi (some (i : Int)) none (some 2)).allInts
    rw [Array.toArray_toList] at hai
    refine sum_mine rfl ⟨_, (N₆ _ (.head _)).1, rfl, 0, rfl⟩ hai fun z h₇ tk₇ t₇ hk₇ => ?_
    have F₇ := F₆.keeps hk₇
    have N₇ : News s.heap L h₇ _ := fun p hp => ⟨hk₇ _ _ (N₆ p (.tail _ hp)).1, (N₆ p (.tail _ hp)).2⟩
    clear F₆ N₆
    k_steps
    rename_i h₈ F₈ N₈
    refine piece_spec (dp := dp + 1) (un := un + 3) G (O.fr F₈) (by omega) (by omega) fun T' x st t1 t2 s₉ hmem hA fT gT => ?_
    have hlive := news_off N₈ fT
    have F₉ := F₈.keeps hA.keep
    have N₉ := news_cons (news_keep N₈ hA.keep) gT (fr_fresh F₈ fT).1 (fr_fresh F₈ fT).2
    clear F₈ N₈
    k_steps
    generalize hidx : (z.fdiv 35).fmod ((ws.size : Int) + 1) = idx
    have hx0 : 0 ≤ idx := by rw [← hidx]; exact Int.fmod_nonneg_of_pos _ (by omega)
    have hx1 : idx < (ws.size : Int) + 1 := by rw [← hidx]; exact Int.fmod_lt_of_pos _ (by omega)
    have hU := fun (o' : Obj) => Upd.tail (o' := o') (p := (T', { cls := .type "tuple", data := .seq #[.str x t1, .int st t2] })) (Ne.symm (hlive _ (.head _))) (Upd.head (o := W.listOf ws nw) (r := tups ++ own) (fun p hp => by
      rcases List.mem_append.mp hp with h | h
      · exact hne p h
      · exact off p h _ (.head _)))
    refine kl_insert F₉ N₉ (fits_small hx0 (by omega)) rfl (hU _) (by rw [Array.length_toList]; exact Nat.le_trans hws (by decide)) fun h₁₀ F₁₀ N₁₀ => ?_
    clear F₉ N₉
    k_steps
    dsimp only
    have hwl : ws.toList.length = rows.length := hpi.length
    have hk : (if idx < 0 then (idx + (ws.toList.length : Int)).toNat else min idx.toNat ws.toList.length) ≤ rows.length := by
      rw [if_neg (by omega)]; omega
    refine ⟨_, (_, W.listOf (kl_ins ws.toList idx (Value.ref T')).toArray (nw + 1)) :: (T', { cls := .type "tuple", data := .seq #[.str x t1, .int st t2] }) :: tups, _, F₁₀, N₁₀, ?_, fun q hq => .tail _ (.tail _ (List.mem_append_right _ hq)), ?_,
      ⟨rfl, rfl, _, _, (T', { cls := .type "tuple", data := .seq #[.str x t1, .int st t2] }) :: tups, _, rfl, (hpi.mono fun p hp => .tail _ hp).ins (.head _) _, .succ hre hmem hk, ?_⟩, hA.gens.mono hgs.size, hA.os⟩
    · intro q hq
      rcases List.mem_cons.mp hq with rfl | hq
      · exact .tail _ (.head _)
      rcases List.mem_cons.mp hq with rfl | hq
      · exact .head _
      · exact .tail _ (.tail _ (List.mem_append_left _ hq))
    · intro p hp q hq
      rcases List.mem_cons.mp hp with rfl | hp
      · exact Ne.symm (off q hq _ (.head _))
      rcases List.mem_cons.mp hp with rfl | hp
      · exact Ne.symm (hlive q (.tail _ (List.mem_append_right _ hq)))
      · exact Ne.symm (off q hq _ (.tail _ (List.mem_map_of_mem hp)))
    · intro p hp
      rcases List.mem_cons.mp hp with rfl | hp
      · exact Ne.symm (hlive _ (.head _))
      · exact hne p hp
  case done =>
    intro m₁ nx s₁ hJ hgs hos F₄ N₄
    obtain ⟨hro, hsc, ws, nw, tups, rows, rfl, hpi, hre, hne⟩ := hJ
    have F₅ := fr_put (Str.ofString "row") F₄ hro
    clear F₄ F₃ N₃ hk₃ hR
    dsimp only
    k_steps
    rw [← hq]
    exact hQ _ _ _ _ _ _ _ (by omega) hre ⟨F₅.keep, hgs, hos⟩ hpi (fun p hp => ⟨(N₄ p hp).1, (N₄ p hp).2.2⟩)
end
end Mine
end

section
open PySem PySem.W PyProof.Rows PySem.Calls PySem.Spec
set_option maxRecDepth 100000
set_option maxHeartbeats 8000000
set_option linter.unusedVariables false
namespace Mine
theorem fillP4 : PySem.Challenge.rw_nb0062_01.foot = 10 ∨ (∀ P, hd.heap_39 P = []) := by
  w_top off
  k_fill
  left; rfl
/-- a piece with its bracket exchanged -/
def exch (p : Str × Int) : Str × Int := (if p.2 ≠ 0 then (if p.2 = 1 then Str.ofString ")" else Str.ofString "(") else p.1, -p.2)

theorem PiecesIn.snoc {tups : List (Addr × Obj)} {vs : List Value} {r : List (Str × Int)} (h : PiecesIn tups vs r) {T : Addr} {t : Str} {st : Int} {t1 t2 : Tok} (hm : (T, ({ cls := .type "tuple", data := .seq #[.str t t1, .int st t2] } : Obj)) ∈ tups) : PiecesIn tups (vs ++ [.ref T]) (r ++ [(t, st)]) := by
  induction h with
  | nil => exact .cons hm .nil
  | cons hm' _ ih => exact .cons hm' ih

theorem rest_P {w : World} {A : Around} {h₀ : Heap} {L : Addr} {m : Str → Option Value} {env : Env} {elt : Expr} {x x₂ : Str} {scope : Scope} {cl : List (Str × Addr)} {s : Shared} {S : List (Addr × Obj) → Prop} {P : Nat → Value → Prop} {Fin : List Value → List (Addr × Obj) → Prop}
    {tups tl : List (Addr × Obj)} {its : Array Value} {rows : List (Str × Int)} (hP : ∀ i v, P i v → its[i]? = some v) (hS : ∀ outs, S (outs ++ tl)) (hsub : ∀ p ∈ tups, p ∈ tl)
    (fin : ∀ ys outs, PiecesIn outs ys (rows.map exch) → Fin ys (outs ++ tl))
    (turn : ∀ (T : Addr) (t : Str) (st : Int) (t1 t2 : Tok) (ys : List Value) (outs : List (Addr × Obj)), (T, ({ cls := .type "tuple", data := .seq #[.str t t1, .int st t2] } : Obj)) ∈ tups →
      ∀ I oI C oC D m₂ h tk (E' : Value → Shared → Prop) (K : Value → List (Addr × Obj) → Prop), LCg.NsObj oC m₂ → m₂ x = some (.str t t1) → m₂ x₂ = some (.int st t2) → Fr h₀ L h m → News h₀ L h ((I, oI) :: (C, oC) :: (D, LCg.lst ys) :: (outs ++ tl)) → LCg.Off3 I C D (outs ++ tl) → ((@Ne Nat I C) ∧ (@Ne Nat I D) ∧ (@Ne Nat C D)) →
      (∀ (T' : Addr) u1 u2, K (.ref T') ((T', ({ cls := .type "tuple", data := .seq #[.str (exch (t, st)).1 u1, .int (exch (t, st)).2 u2] } : Obj)) :: (outs ++ tl))) →
      wpAny (model prog w) A (eval elt (compEnvC scope cl C env)) (LCg.CompEnd h₀ L m { s with heap := h, toks := tk } I oI C oC D (LCg.lst ys) S K) E' { s with heap := h, toks := tk }) :
    ∀ (vl : List Value) (rs : List (Str × Int)) (i : Nat) (ys : List Value) (outs : List (Addr × Obj)) (done : List (Str × Int)), PiecesIn tups vl rs → its.toList.drop i = vl → PiecesIn outs ys done → done ++ rs.map exch = rows.map exch →
      LCp.CompRestP prog w A h₀ L m env elt x x₂ scope cl s S P Fin vl.length i ys (outs ++ tl) := by
  intro vl
  induction vl with
  | nil =>
    intro rs i ys outs done hpi hd hpo hdone
    cases hpi
    simp only [List.map_nil, List.append_nil] at hdone
    exact fin ys outs (hdone ▸ hpo)
  | cons v vl ih =>
    intro rs i ys outs done hpi hd hpo hdone
    cases hpi with
    | @cons T t st t1 t2 _ r hm hr =>
      intro v' hv
      have h1 := hP i v' hv
      have h2 : (its.toList.drop i)[0]? = some (Value.ref T) := by rw [hd]; rfl
      have h3 : its[i]? = some (Value.ref T) := by simpa using h2
      rw [h3] at h1
      cases h1
      refine ⟨T, _, .str t t1, .int st t2, _, rfl, List.mem_append_right _ (hsub _ hm), rfl, rfl, fun I oI C oC D m₂ h tk E' hC e1 e2 F N off hne => ?_⟩
      refine turn T t st t1 t2 ys outs hm I oI C oC D m₂ h tk E' _ hC e1 e2 F N off hne fun T' u1 u2 => ?_
      have hpo' : PiecesIn ((T', ({ cls := .type "tuple", data := .seq #[.str (exch (t, st)).1 u1, .int (exch (t, st)).2 u2] } : Obj)) :: outs) (ys ++ [.ref T']) (done ++ [exch (t, st)]) :=
        (hpo.mono fun p hp => .tail _ hp).snoc (.head _)
      exact ih r (i + 1) (ys ++ [.ref T']) (_ :: outs) (done ++ [exch (t, st)]) hr (by rw [← List.drop_drop, hd]; rfl) hpo' (by rw [← hdone]; simp)

section
variable {w : World} {mean : ExcName → Option Value} {mg mb : Str → Option Value} {base : Heap} {dp un : Nat} {gd : Option (List Code)} {outer : List Env} {E : Value → Shared → Prop} {s : Shared}

theorem exch_spec (G : Ground w mean mg mb base) (O : On base s.heap) (hdp : dp + 40 < recursionLimit) (hun : un + 200 < cLine) {l : Addr} {vs : Array Value} {n : Nat} {tups : List (Addr × Obj)} {rows : List (Str × Int)} (hpi : PiecesIn tups vs.toList rows)
    (hall : ∀ p ∈ (l, W.listOf vs n) :: tups, s.heap.get? p.1 = some p.2 ∧ base.get? p.1 = none) (hb : rows.length ≤ 8) {Q : Value → Shared → Prop}
    (hQ : ∀ D vs' n' tups' s', After s s' → PiecesIn tups' vs'.toList (rows.map exch) → (∀ p ∈ (D, W.listOf vs' n') :: tups', s'.heap.get? p.1 = some p.2 ∧ base.get? p.1 = none) → Q (.ref D) s') :
    wpAny (model prog w) (Ar dp un gd outer) (call (.ref 75) [.ref l]) Q E s := by
  have G₀ := G.keeps O.stays
  have st : base.StaysIn (hideAll s.heap (((l, W.listOf vs n) :: tups).map (·.1))) := fun b o e => hideAll_get _ (O.stays b o e) fun hm => by
    obtain ⟨p, hp, rfl⟩ := List.mem_map.mp hm
    rw [(hall p hp).2] at e; cases e
  have GH := G.keeps st
  have X := GH.K
  have T := GH.T
  refine wpAny_call ?_
  k_dflt (refine' enterF ?k1 ?k6 ?k7 ?k8 ?k9 ?kB ?kM ?_ ?c2 ?c3 ?c4 ?c5; (case k1 => exact G₀); (case k6 => k_is); (case k7 => k_is); (case k8 => (dsimp only; omega)); (case k9 => exact BindsTo.of_eq rfl); (case c5 => decide); (case kB => exact locs rfl); (case c2 => exact rfl); (case c3 => exact rfl); (case c4 => exact rfl); (case kM => exact binds1))
  intro L h₁ hL F₀ N₀
  (try dsimp only)
  generalize hq : (fun (fl : Flow) (s' : Shared) => Q (match fl with | Flow.ret v => v | x => Value.none) s') = QQ
  have F : Fr (hideAll s.heap (((l, W.listOf vs n) :: tups).map (·.1))) L h₁ _ := ⟨F₀.ns, fun b o e => F₀.keep b o (of_hideAll _ e), by rw [hideAll_size]; exact F₀.above⟩
  have N : News (hideAll s.heap (((l, W.listOf vs n) :: tups).map (·.1))) L h₁ ((l, W.listOf vs n) :: tups) := fun p hp =>
    ⟨F₀.keep _ _ (hall p hp).1, by rw [hL]; exact Nat.ne_of_lt (Heap.lt_size (hall p hp).1), hideAll_none _ (List.mem_map_of_mem hp)⟩
  clear F₀ N₀
  generalize hH : hideAll s.heap (((l, W.listOf vs n) :: tups).map (·.1)) = H at *
  refine wpAny_execs_cons ?_
  walk1
  have hvl : vs.size ≤ 8 := by
    have h1 := hpi.length
    rw [Array.length_toList] at h1
    omega
  k_dflt (refine LCp.ListComp_P (F₀ := F) (by with_unfolding_all rfl) (by decide) (by rfl) (by decide) (by rfl) (by rfl) (by decide) ?_)
  walk1
  refine LCp.SrcLP.ledger rfl F N (.head _) (Nat.le_trans hvl (by decide)) fun g => ?_
  refine rest_P (tups := tups) (tl := (l, W.listOf vs n) :: tups) (its := vs) (rows := rows) (fun i v h => h) ?hS (fun p hp => .tail _ hp) ?fin ?turn vs.toList rows 0 [] [] [] hpi rfl .nil rfl
  case hS => exact fun outs => .inr ⟨_, List.mem_append_right _ (.head _), rfl, _, rfl⟩
  case fin =>
    intro ys outs hp D h tk F' N' off
    dsimp only
    rw [← hq]
    refine hQ D ys.toArray ys.length outs _ ⟨fun b o e => ?_, .refl _ _, rfl⟩ hp (fun p hp' => ?_)
    · by_cases hm : b ∈ ((l, W.listOf vs n) :: tups).map (·.1)
      · obtain ⟨p, hp', rfl⟩ := List.mem_map.mp hm
        rw [(hall p hp').1] at e
        cases e
        exact (N' p (.tail _ (List.mem_append_right _ hp'))).1
      · exact F'.keep b o (by rw [← hH]; exact hideAll_get _ e hm)
    · have h9 := N' p (by
        rcases List.mem_cons.mp hp' with rfl | hp'
        · exact .head _
        · exact .tail _ (List.mem_append_left _ hp'))
      refine ⟨h9.1, ?_⟩
      cases q : base.get? p.1 with
      | none => rfl
      | some o => have := st _ _ q; rw [h9.2.2] at this; cases this
  case turn =>
    intro T' x st' t1 t2 ys outs hm I oI C oC D m₂ h tk E' K hC h1 h2 F' N' off hne hK
    clear F N
    have fin3 : ∀ (mm : Str → Option Value) (T₂ : Addr) (y : Str) (z : Int) (u1 u2 : Tok) (h' : Heap) (tk' : Nat), (y, z) = exch (x, st') → Fr H L h' mm → News H L h' ((T₂, ({ cls := .type "tuple", data := .seq #[.str y u1, .int z u2] } : Obj)) :: (I, oI) :: (C, oC) :: (D, LCg.lst ys) :: (outs ++ (l, W.listOf vs n) :: tups)) → (I < T₂ ∧ C < T₂ ∧ D < T₂) →
        LCg.CompEnd H L mm { s with heap := h, toks := tk } I oI C oC D (LCg.lst ys) (LCg.SrcAt H l vs) K (.ref T₂) { s with heap := h', toks := tk' } := fun mm T₂ y z u1 u2 h' tk' he F₃ N₃ hlt =>
      LCg.CompEnd.intro (s₁ := { s with heap := h, toks := tk }) F₃ N₃ ((T₂, ({ cls := .type "tuple", data := .seq #[.str y u1, .int z u2] } : Obj)) :: (outs ++ (l, W.listOf vs n) :: tups)) (fun p hp => by
          rcases List.mem_cons.mp hp with rfl | hp
          · exact .tail _ (.head _)
          rcases List.mem_cons.mp hp with rfl | hp
          · exact .tail _ (.tail _ (.head _))
          rcases List.mem_cons.mp hp with rfl | hp
          · exact .tail _ (.tail _ (.tail _ (.head _)))
          rcases List.mem_cons.mp hp with rfl | hp
          · exact .head _
          · exact .tail _ (.tail _ (.tail _ (.tail _ hp)))) ⟨⟨Nat.ne_of_gt hlt.1, Nat.ne_of_gt hlt.2.1, Nat.ne_of_gt hlt.2.2⟩, off⟩ (.inr ⟨_, .tail _ (List.mem_append_right _ (.head _)), rfl, _, rfl⟩) (by
            have := hK T₂ u1 u2
            rw [← he] at this
            exact this)
    k_steps
    · rename_i e0 e1 T₂ h' F₃ N₃ hlt
      exact fin3 _ T₂ _ _ _ _ h' _ (by simp [exch, e1]) F₃ N₃ ⟨hlt.1, hlt.2.1, hlt.2.2.1⟩
    · rename_i e0 e1 T₂ h' F₃ N₃ hlt
      exact fin3 _ T₂ _ _ _ _ h' _ (by simp [exch, e0, e1]) F₃ N₃ ⟨hlt.1, hlt.2.1, hlt.2.2.1⟩
    · rename_i e0 T₂ h' F₃ N₃ hlt
      exact fin3 _ T₂ _ _ _ _ h' _ (by simp [exch, e0]) F₃ N₃ ⟨hlt.1, hlt.2.1, hlt.2.2.1⟩
end
end Mine
end

section
open PySem PySem.W PyProof.Rows PySem.Calls PySem.Spec
set_option maxRecDepth 100000
set_option maxHeartbeats 4000000
set_option linter.unusedVariables false
namespace Mine

/-- the signs of a text -/
abbrev cl (x : Str) : List Nat := x.cps.toList
theorem cl_append (a b : Str) : cl (a ++ b) = cl a ++ cl b := by
  show (a.cps ++ b.cps).toList = _
  simp
/-- the signs of a row -/
def textL (rows : List (Str × Int)) : List Nat := rows.flatMap fun p => cl p.1
theorem textL_append (a b : List (Str × Int)) : textL (a ++ b) = textL a ++ textL b := List.flatMap_append

/-- the flag behind some signs -/
def flagAfter : Bool → List Nat → Bool
  | b, [] => b
  | true, _ :: r => flagAfter false r
  | false, c :: r => flagAfter (c == 92) r

theorem esc_append : ∀ (c r : List Nat) (i : Nat) (b : Bool), flagAfter b c = false → escFrom i b (c ++ r) = escFrom i b c ++ escFrom (i + c.length) false r
  | [], r, i, b, h => by
    cases b with
    | true => cases h
    | false => rfl
  | x :: c, r, i, true, h => by
    have ih := esc_append c r (i + 1) false h
    rw [List.cons_append, List.length_cons]
    simp only [escFrom]
    rw [ih, List.cons_append, show i + 1 + c.length = i + (c.length + 1) from by omega]
  | x :: c, r, i, false, h => by
    rw [List.cons_append, List.length_cons]
    simp only [escFrom]
    by_cases e : x = 92
    · have h' : flagAfter true c = false := by rw [e] at h; exact h
      rw [if_pos e, if_pos e, esc_append c r (i + 1) true h', show i + 1 + c.length = i + (c.length + 1) from by omega]
    · have h' : flagAfter false c = false := by
        have e' : (x == 92) = false := by simpa using e
        simp only [flagAfter, e'] at h
        exact h
      rw [if_neg e, if_neg e, esc_append c r (i + 1) false h', List.cons_append, show i + 1 + c.length = i + (c.length + 1) from by omega]

theorem esc_snd : ∀ (c : List Nat) (i j : Nat) (b : Bool), (escFrom i b c).map (·.2) = (escFrom j b c).map (·.2)
  | [], i, j, true => rfl
  | [], i, j, false => rfl
  | x :: c, i, j, true => by
    simp only [escFrom, List.map_cons]
    rw [esc_snd c (i + 1) (j + 1) false]
  | x :: c, i, j, false => by
    simp only [escFrom]
    by_cases e : x = 92
    · rw [if_pos e, if_pos e]; exact esc_snd c (i + 1) (j + 1) true
    · rw [if_neg e, if_neg e, List.map_cons, List.map_cons, esc_snd c (i + 1) (j + 1) false]

/-- what is read of some signs -/
def toks (c : List Nat) : List (List Nat) := (escFrom 0 false c).map (·.2)

theorem sq_none (x : Str) : ∀ (l : List (Nat × List Nat)) (st : SQ), [34] ∉ l.map (·.2) → l.foldl (sqStep x) st = st
  | [], _, _ => rfl
  | pc :: l, st, h => by
    rw [List.map_cons, List.mem_cons, not_or] at h
    rw [List.foldl_cons]
    have e : sqStep x st pc = st := by
      unfold sqStep
      rw [if_neg (fun z => h.1 z.symm)]
    rw [e]
    exact sq_none x l st h.2

/-- a piece that stands in quotation marks -/
def isQ (p : Str × Int) : Bool := decide ((cl p.1).head? = some 34)
/-- what is left of a piece -/
def keep (p : Str × Int) : List Nat := if isQ p then [] else cl p.1
def strL (rows : List (Str × Int)) : List Nat := rows.flatMap keep

/-- what is asked of a piece -/
def segOk (p : Str × Int) : Bool :=
  if isQ p then decide (cl p.1 = 34 :: ((cl p.1).tail.dropLast ++ [34])) && (flagAfter false (cl p.1).tail.dropLast == false) && decide ([34] ∉ toks (cl p.1).tail.dropLast) && decide (p.2 = 0)
  else (flagAfter false (cl p.1) == false) && decide ([34] ∉ toks (cl p.1)) && (if p.2 = 1 then decide (toks (cl p.1) = [[40]]) else if p.2 = -1 then decide (toks (cl p.1) = [[41]]) else
    decide (p.2 = 0) && decide ([40] ∉ toks (cl p.1)) && decide ([41] ∉ toks (cl p.1)))
theorem menu_ok : ∀ p ∈ menu, segOk p = true := by decide +kernel
theorem menu_len : ∀ p ∈ menu, (cl p.1).length ≤ 5 := by decide +kernel

theorem seg_q {p : Str × Int} (hp : p ∈ menu) (hq : isQ p = true) : ∃ m, cl p.1 = 34 :: (m ++ [34]) ∧ flagAfter false m = false ∧ [34] ∉ toks m ∧ p.2 = 0 := by
  have h := menu_ok p hp
  unfold segOk at h
  rw [if_pos hq] at h
  simp only [Bool.and_eq_true, decide_eq_true_eq, beq_iff_eq] at h
  exact ⟨_, h.1.1.1, h.1.1.2, h.1.2, h.2⟩
theorem seg_p {p : Str × Int} (hp : p ∈ menu) (hq : isQ p = false) : flagAfter false (cl p.1) = false ∧ [34] ∉ toks (cl p.1) ∧
    ((p.2 = 1 ∧ toks (cl p.1) = [[40]]) ∨ (p.2 = -1 ∧ toks (cl p.1) = [[41]]) ∨ (p.2 = 0 ∧ [40] ∉ toks (cl p.1) ∧ [41] ∉ toks (cl p.1))) := by
  have h := menu_ok p hp
  unfold segOk at h
  rw [if_neg (by rw [hq]; decide)] at h
  simp only [Bool.and_eq_true, beq_iff_eq] at h
  obtain ⟨⟨h1, h2⟩, h3⟩ := h
  refine ⟨h1, of_decide_eq_true h2, ?_⟩
  by_cases e1 : p.2 = 1
  · rw [if_pos e1] at h3; exact .inl ⟨e1, of_decide_eq_true h3⟩
  · rw [if_neg e1] at h3
    by_cases e2 : p.2 = -1
    · rw [if_pos e2] at h3; exact .inr (.inl ⟨e2, of_decide_eq_true h3⟩)
    · rw [if_neg e2] at h3
      simp only [Bool.and_eq_true, decide_eq_true_eq] at h3
      exact .inr (.inr ⟨h3.1.1, h3.1.2, h3.2⟩)

theorem cl_slice {x : Str} {i j : Nat} (h1 : i ≤ j) (h2 : j ≤ (cl x).length) : cl (Txt.slice x (some (i : Nat)) (some (j : Nat))) = ((cl x).drop i).take (j - i) := by
  have h := beq_iff_eq.mp (slice_closes (x := x) (i := (i : Int)) (j := (j : Int)) ⟨by omega, by omega, Int.ofNat_le.mpr h2⟩)
  rw [h]
  show (((cl x).drop ((i : Int).toNat)).take ((j : Int) - i).toNat).toArray.toList = _
  rw [show ((j : Int) - i).toNat = j - i from by omega]
  simp
theorem cl_sliceFrom {x : Str} {i : Nat} (h2 : i ≤ (cl x).length) : cl (Txt.slice x (some (i : Nat)) none) = (cl x).drop i := by
  have h := beq_iff_eq.mp (slice_closes_from (x := x) (i := (i : Int)) ⟨by omega, Int.ofNat_le.mpr h2⟩)
  rw [h]
  show (((cl x).drop ((i : Int).toNat)).take (((cl x).length : Int) - i).toNat).toArray.toList = _
  rw [show (((cl x).length : Int) - i).toNat = (cl x).length - i from by omega, List.take_of_length_le (by rw [List.length_drop]; omega)]
  rfl
theorem cl_join : ∀ l : List Str, cl (Txt.join (Str.ofString "") l) = l.flatMap cl := by
  intro l
  show cl (Builtin.Str.glued (Str.ofString "") l) = _
  rw [StrLaws.glued_eq_join]
  have e0 : cl (Str.ofString "") = [] := by decide +kernel
  induction l with
  | nil => rfl
  | cons x r ih =>
    cases r with
    | nil => simp [Str.join]
    | cons y r =>
      show cl (x ++ Str.ofString "" ++ Str.join (Str.ofString "") (y :: r)) = _
      rw [cl_append, cl_append, ih, e0, List.append_nil, List.flatMap_cons (x := x)]

theorem sq_rows (x : Str) : ∀ (rows : List (Str × Int)) (pre : List Nat) (start : Nat) (res : List Str) (done : List Nat), (∀ p ∈ rows, p ∈ menu) → cl x = pre ++ textL rows → start ≤ pre.length → res.flatMap cl ++ pre.drop start = done →
    ∃ start' res', (escFrom pre.length false (textL rows)).foldl (sqStep x) ⟨start, none, res⟩ = ⟨start', none, res'⟩ ∧ start' ≤ (cl x).length ∧ res'.flatMap cl ++ (cl x).drop start' = done ++ strL rows
  | [], pre, start, res, done, _, hx, hs, hd => by
    refine ⟨start, res, rfl, ?_, ?_⟩
    · rw [hx]; simp [textL]; exact hs
    · rw [hx]; simp only [textL, strL, List.flatMap_nil, List.append_nil]; exact hd
  | p :: rows, pre, start, res, done, hm, hx, hs, hd => by
    have hp := hm p (.head _)
    have hr : ∀ q ∈ rows, q ∈ menu := fun q hq => hm q (.tail _ hq)
    have ht : textL (p :: rows) = cl p.1 ++ textL rows := rfl
    cases hq : isQ p with
    | false =>
      obtain ⟨h1, h2, _⟩ := seg_p hp hq
      rw [ht, esc_append _ _ _ _ h1, List.foldl_append, sq_none x (escFrom pre.length false (cl p.1)) _ (by rw [esc_snd _ _ 0]; exact h2)]
      have ih := sq_rows x rows (pre ++ cl p.1) start res (done ++ cl p.1) hr (by rw [hx, ht, List.append_assoc]) (by rw [List.length_append]; omega)
        (by rw [List.drop_append_of_le_length hs, ← List.append_assoc, hd])
      rw [List.length_append] at ih
      have hk : strL (p :: rows) = cl p.1 ++ strL rows := by
        show keep p ++ strL rows = _
        unfold keep
        rw [hq]; rfl
      rw [hk, ← List.append_assoc]
      exact ih
    | true =>
      obtain ⟨m, h1, h2, h3, _⟩ := seg_q hp hq
      have hk : strL (p :: rows) = strL rows := by
        show keep p ++ strL rows = _
        unfold keep
        rw [hq]; rfl
      have he : escFrom pre.length false (textL (p :: rows)) = (pre.length, [34]) :: (escFrom (pre.length + 1) false m ++ (pre.length + 1 + m.length, [34]) :: escFrom (pre ++ cl p.1).length false (textL rows)) := by
        rw [ht, h1, List.cons_append]
        show (if (34 : Nat) = 92 then _ else _) = _
        rw [if_neg (by decide), List.append_assoc, esc_append _ _ _ _ h2]
        show (pre.length, [34]) :: (_ ++ (if (34 : Nat) = 92 then _ else _)) = _
        rw [if_neg (by decide)]
        have hl : (pre ++ 34 :: (m ++ [34])).length = pre.length + 1 + m.length + 1 := by
          rw [List.length_append, List.length_cons, List.length_append]
          show _ = _
          simp only [List.length_cons, List.length_nil]
          omega
        rw [hl]
        rfl
      rw [he, List.foldl_cons, List.foldl_append, List.foldl_cons]
      have s1 : sqStep x ⟨start, none, res⟩ (pre.length, [34]) = ⟨start, some pre.length, res⟩ := rfl
      rw [s1, sq_none x (escFrom (pre.length + 1) false m) _ (by rw [esc_snd _ _ 0]; exact h3)]
      have s2 : sqStep x ⟨start, some pre.length, res⟩ (pre.length + 1 + m.length, [34]) = ⟨pre.length + 1 + m.length + 1, none, if start = pre.length then res else res ++ [Txt.slice x (some (start : Nat)) (some (pre.length : Nat))]⟩ := rfl
      rw [s2, hk]
      have hl : (pre ++ cl p.1).length = pre.length + 1 + m.length + 1 := by rw [List.length_append, h1]; simp; omega
      refine sq_rows x rows (pre ++ cl p.1) _ _ done hr (by rw [hx, ht, List.append_assoc]) (by omega) ?_
      rw [List.drop_of_length_le (by omega), List.append_nil, ← hd]
      by_cases e : start = pre.length
      · rw [if_pos e, e, List.drop_length, List.append_nil]
      · rw [if_neg e, List.flatMap_append]
        congr 1
        show cl _ ++ [] = _
        rw [List.append_nil, cl_slice hs (by rw [hx, List.length_append]; omega), hx, List.drop_append_of_le_length hs, List.take_append_of_le_length (by rw [List.length_drop]; omega), List.take_of_length_le (by rw [List.length_drop]; omega)]

theorem strL_free : ∀ rows : List (Str × Int), (∀ p ∈ rows, p ∈ menu) → 34 ∉ textL rows → strL rows = textL rows
  | [], _, _ => rfl
  | p :: rows, hm, h => by
    have ht : textL (p :: rows) = cl p.1 ++ textL rows := rfl
    rw [ht, List.mem_append, not_or] at h
    have ih := strL_free rows (fun q hq => hm q (.tail _ hq)) h.2
    show keep p ++ strL rows = _
    rw [ih, ht]
    cases hq : isQ p with
    | false => unfold keep; rw [hq]; rfl
    | true =>
      obtain ⟨m, h1, _⟩ := seg_q (hm p (.head _)) hq
      exact absurd (by rw [h1]; exact .head _) h.1

theorem strip_rows {x : Str} {rows : List (Str × Int)} (hm : ∀ p ∈ rows, p ∈ menu) (hx : cl x = textL rows) : cl (stripS x) = strL rows := by
  have e34 : Str.ofString "\"" = (⟨#[34]⟩ : Str) := by decide +kernel
  unfold stripS
  rw [e34, empty_one]
  by_cases h : 34 ∈ x.cps.toList
  · rw [if_neg (by simp [h])]
    obtain ⟨st, res, h1, h2, h3⟩ := sq_rows x rows [] 0 [] [] hm (by rw [hx]; rfl) (Nat.le_refl _) rfl
    have hx' : x.cps.toList = textL rows := hx
    have h1' : (escFrom 0 false x.cps.toList).foldl (sqStep x) ⟨0, none, []⟩ = ⟨st, none, res⟩ := by rw [hx']; exact h1
    rw [h1', cl_join]
    have hlen : x.length = (cl x).length := by show x.cps.size = _; simp
    rw [List.nil_append] at h3
    rw [← h3]
    by_cases hs : st < x.length
    · rw [if_pos hs, List.flatMap_append]
      congr 1
      show cl _ ++ [] = _
      rw [List.append_nil, cl_sliceFrom h2]
    · rw [if_neg hs, List.drop_of_length_le (by omega), List.append_nil]
  · rw [if_pos (by simp [h]), hx, strL_free rows hm (by rw [← hx]; exact h)]

theorem toks_rows : ∀ (rows : List (Str × Int)), (∀ p ∈ rows, p ∈ menu) → toks (strL rows) = rows.flatMap fun p => toks (keep p)
  | [], _ => rfl
  | p :: rows, hm => by
    have ih := toks_rows rows fun q hq => hm q (.tail _ hq)
    have hf : flagAfter false (keep p) = false := by
      unfold keep
      cases hq : isQ p with
      | false => exact (seg_p (hm p (.head _)) hq).1
      | true => rfl
    rw [List.flatMap_cons, ← ih]
    show toks (keep p ++ strL rows) = toks (keep p) ++ _
    unfold toks
    rw [esc_append _ _ _ _ hf, List.map_append, esc_snd (strL rows) _ 0]

/-- the heights behind each seen bracket -/
def hsR : Int → List (Str × Int) → List Int
  | _, [] => []
  | h, p :: r => if p.2 = 0 then hsR h r else (h + p.2) :: hsR (h + p.2) r
/-- the height at the end -/
def finR : Int → List (Str × Int) → Int
  | h, [] => h
  | h, p :: r => finR (h + p.2) r

theorem readL_none : ∀ (l r : List (List Nat)) (h : Int), [40] ∉ l → [41] ∉ l → readL h (l ++ r) = readL h r
  | [], _, _, _, _ => rfl
  | a :: l, r, h, h1, h2 => by
    rw [List.mem_cons, not_or] at h1 h2
    rw [List.cons_append]
    simp only [readL]
    rw [if_neg (fun z => h1.1 z.symm), if_neg (fun z => h2.1 z.symm), readL_none l r h h1.2 h2.2]
theorem chk_none : ∀ (l r : List (List Nat)) (h : Int), [40] ∉ l → [41] ∉ l → chk h (l ++ r) = chk h r
  | [], _, _, _, _ => rfl
  | a :: l, r, h, h1, h2 => by
    rw [List.mem_cons, not_or] at h1 h2
    rw [List.cons_append]
    simp only [chk]
    rw [if_neg (fun z => h1.1 z.symm), if_neg (fun z => h2.1 z.symm), chk_none l r h h1.2 h2.2]

/-- the kinds of a piece -/
theorem kinds {p : Str × Int} (hp : p ∈ menu) : (p.2 = 1 ∧ toks (keep p) = [[40]]) ∨ (p.2 = -1 ∧ toks (keep p) = [[41]]) ∨ (p.2 = 0 ∧ [40] ∉ toks (keep p) ∧ [41] ∉ toks (keep p)) := by
  unfold keep
  cases hq : isQ p with
  | false => exact (seg_p hp hq).2.2
  | true =>
    obtain ⟨_, _, _, _, h0⟩ := seg_q hp hq
    exact .inr (.inr ⟨h0, (fun z => nomatch z), (fun z => nomatch z)⟩)

theorem readL_rows : ∀ (rows : List (Str × Int)) (h : Int), (∀ p ∈ rows, p ∈ menu) → readL h (rows.flatMap fun p => toks (keep p)) = hsR h rows
  | [], _, _ => rfl
  | p :: rows, h, hm => by
    have ih := fun h' => readL_rows rows h' fun q hq => hm q (.tail _ hq)
    rw [List.flatMap_cons]
    simp only [hsR]
    rcases kinds (hm p (.head _)) with ⟨e, t⟩ | ⟨e, t⟩ | ⟨e, t1, t2⟩
    · rw [t, if_neg (by omega), e, ← ih]; rfl
    · rw [t, if_neg (by omega), e, ← ih]; rfl
    · rw [readL_none _ _ _ t1 t2, if_pos e, ih]

theorem chk_rows : ∀ (rows : List (Str × Int)) (o : Int), (∀ p ∈ rows, p ∈ menu) → 0 ≤ o → (chk o (rows.flatMap fun p => toks (keep p)) = true ↔ (∀ h ∈ hsR o rows, 0 ≤ h) ∧ finR o rows = 0)
  | [], o, _, _ => by simp [chk, hsR, finR]
  | p :: rows, o, hm, ho => by
    have ih := fun o' h => chk_rows rows o' (fun q hq => hm q (.tail _ hq)) h
    rw [List.flatMap_cons]
    simp only [hsR, finR]
    rcases kinds (hm p (.head _)) with ⟨e, t⟩ | ⟨e, t⟩ | ⟨e, t1, t2⟩
    · rw [t, if_neg (by omega), e]
      show (chk (o + 1) (rows.flatMap fun p => toks (keep p)) = true) ↔ _
      rw [ih (o + 1) (by omega)]
      constructor
      · rintro ⟨h1, h2⟩
        refine ⟨fun h hh => ?_, h2⟩
        rcases List.mem_cons.mp hh with rfl | hh
        · omega
        · exact h1 h hh
      · rintro ⟨h1, h2⟩
        exact ⟨fun h hh => h1 h (.tail _ hh), h2⟩
    · rw [t, if_neg (by omega), e]
      show ((if o - 1 < 0 then false else chk (o - 1) (rows.flatMap fun p => toks (keep p))) = true) ↔ _
      have e2 : o + -1 = o - 1 := by omega
      rw [e2]
      by_cases hn : o - 1 < 0
      · rw [if_pos hn]
        constructor
        · intro h; cases h
        · rintro ⟨h1, _⟩
          have := h1 _ (.head _)
          omega
      · rw [if_neg hn, ih (o - 1) (by omega)]
        constructor
        · rintro ⟨h1, h2⟩
          refine ⟨fun h hh => ?_, h2⟩
          rcases List.mem_cons.mp hh with rfl | hh
          · omega
          · exact h1 h hh
        · rintro ⟨h1, h2⟩
          exact ⟨fun h hh => h1 h (.tail _ hh), h2⟩
    · rw [chk_none _ _ _ t1 t2, if_pos e, ih o ho, e, Int.add_zero]

theorem read_rows {x : Str} {rows : List (Str × Int)} (hm : ∀ p ∈ rows, p ∈ menu) (hx : cl x = textL rows) : readS x = hsR 0 rows := by
  unfold readS
  have h := strip_rows hm hx
  have h' : (stripS x).cps.toList = strL rows := h
  rw [h']
  show readL 0 (toks (strL rows)) = _
  rw [toks_rows rows hm, readL_rows rows 0 hm]
theorem check_rows {x : Str} {rows : List (Str × Int)} (hm : ∀ p ∈ rows, p ∈ menu) (hx : cl x = textL rows) : checkP x = true ↔ (∀ h ∈ hsR 0 rows, 0 ≤ h) ∧ finR 0 rows = 0 := by
  unfold checkP
  have h := strip_rows hm hx
  have h' : (stripS x).cps.toList = strL rows := h
  rw [h']
  show chk 0 (toks (strL rows)) = true ↔ _
  rw [toks_rows rows hm]
  exact chk_rows rows 0 hm (Int.le_refl _)
end Mine
end

section
open PySem PySem.W PyProof.Rows PySem.Calls PySem.Spec
set_option maxRecDepth 100000
set_option maxHeartbeats 4000000
set_option linter.unusedVariables false
namespace Mine

theorem hsR_append : ∀ (a b : List (Str × Int)) (h : Int), hsR h (a ++ b) = hsR h a ++ hsR (finR h a) b
  | [], _, _ => rfl
  | p :: a, b, h => by
    rw [List.cons_append]
    simp only [hsR, finR]
    rw [hsR_append a b, hsR_append a b]
    by_cases e : p.2 = 0
    · rw [if_pos e, if_pos e, e, Int.add_zero]
    · rw [if_neg e, if_neg e, List.cons_append]
theorem finR_append : ∀ (a b : List (Str × Int)) (h : Int), finR h (a ++ b) = finR (finR h a) b
  | [], _, _ => rfl
  | p :: a, b, h => by
    rw [List.cons_append]
    simp only [finR]
    exact finR_append a b _
theorem finR_shift : ∀ (a : List (Str × Int)) (h k : Int), finR (h + k) a = finR h a + k
  | [], _, _ => rfl
  | p :: a, h, k => by
    simp only [finR]
    rw [← finR_shift a, show h + k + p.2 = h + p.2 + k from by omega]
theorem hsR_shift : ∀ (a : List (Str × Int)) (h k : Int), hsR (h + k) a = (hsR h a).map fun x => x + k
  | [], _, _ => rfl
  | p :: a, h, k => by
    simp only [hsR]
    by_cases e : p.2 = 0
    · rw [if_pos e, if_pos e, hsR_shift a]
    · rw [if_neg e, if_neg e, List.map_cons, ← hsR_shift a, show h + k + p.2 = h + p.2 + k from by omega]

/-- the height at the end is the last one, or nothing was seen -/
theorem fin_last : ∀ (a : List (Str × Int)) (h : Int), finR h a ∈ h :: hsR h a
  | [], _ => .head _
  | p :: a, h => by
    simp only [hsR, finR]
    by_cases e : p.2 = 0
    · rw [if_pos e, e, Int.add_zero]; exact fin_last a h
    · rw [if_neg e]; exact .tail _ (fin_last a _)

abbrev opP : Str × Int := (Str.ofString "(", 1)
abbrev shP : Str × Int := (Str.ofString ")", -1)
theorem opens : ∀ (n : Nat) (h : Int), 0 ≤ h → (∀ x ∈ hsR h (List.replicate n opP), 0 ≤ x) ∧ finR h (List.replicate n opP) = h + n
  | 0, h, _ => ⟨(fun _ z => nomatch z), by show h = _; omega⟩
  | n + 1, h, h0 => by
    have ih := opens n (h + 1) (by omega)
    rw [List.replicate_succ]
    refine ⟨fun x hx => ?_, ?_⟩
    · have hx' : x ∈ (h + 1) :: hsR (h + 1) (List.replicate n opP) := hx
      rcases List.mem_cons.mp hx' with rfl | hx'
      · omega
      · exact ih.1 x hx'
    · show finR (h + 1) (List.replicate n opP) = _
      rw [ih.2]; omega
theorem shuts : ∀ (n : Nat) (h : Int), (n : Int) ≤ h → (∀ x ∈ hsR h (List.replicate n shP), 0 ≤ x) ∧ finR h (List.replicate n shP) = h - n
  | 0, h, _ => ⟨(fun _ z => nomatch z), by show h = _; omega⟩
  | n + 1, h, h0 => by
    have ih := shuts n (h + -1) (by omega)
    rw [List.replicate_succ]
    refine ⟨fun x hx => ?_, ?_⟩
    · have hx' : x ∈ (h + -1) :: hsR (h + -1) (List.replicate n shP) := hx
      rcases List.mem_cons.mp hx' with rfl | hx'
      · omega
      · exact ih.1 x hx'
    · show finR (h + -1) (List.replicate n shP) = _
      rw [ih.2]; omega

theorem textL_rep (c : Nat) (p : Str × Int) (h : cl p.1 = [c]) : ∀ n : Nat, textL (List.replicate n p) = List.replicate n c
  | 0 => rfl
  | n + 1 => by
    rw [List.replicate_succ, List.replicate_succ]
    show cl p.1 ++ textL (List.replicate n p) = _
    rw [textL_rep c p h n, h]; rfl

/-- a beginning, lifted, is taken exactly if its heights come through -/
theorem laid_check {pr : List (Str × Int)} {t : Str} {lift : Nat} {l : Int} (hm : ∀ p ∈ pr, p ∈ menu) (ht : cl t = textL pr) (hl : l = finR 0 pr + lift) :
    checkP (laid lift t l) = true ↔ ∀ h ∈ hsR 0 pr, 0 ≤ h + lift := by
  generalize hmm : (if l > 0 then l else 0) = m
  have e40 : Str.ofString "(" = (⟨#[40]⟩ : Str) := by decide +kernel
  have e41 : Str.ofString ")" = (⟨#[41]⟩ : Str) := by decide +kernel
  have hx : cl (laid lift t l) = textL (List.replicate lift opP ++ pr ++ List.replicate m.toNat shP) := by
    unfold laid
    rw [hmm, cl_append, cl_append, ht, textL_append, textL_append, textL_rep 40 opP (by decide +kernel), textL_rep 41 shP (by decide +kernel)]
    congr 1
    · congr 1
      show (Txt.mul (Str.ofString "(") (lift : Int)).cps.toList = _
      rw [e40, mul_one_list]; simp
    · show (Txt.mul (Str.ofString ")") m).cps.toList = _
      rw [e41, mul_one_list]
  have hmem : ∀ p ∈ List.replicate lift opP ++ pr ++ List.replicate m.toNat shP, p ∈ menu := by
    intro p hp
    rcases List.mem_append.mp hp with hp | hp
    · rcases List.mem_append.mp hp with hp | hp
      · rw [List.eq_of_mem_replicate hp]; decide +kernel
      · exact hm p hp
    · rw [List.eq_of_mem_replicate hp]; decide +kernel
  rw [check_rows hmem hx]
  obtain ⟨o1, o2⟩ := opens lift 0 (Int.le_refl _)
  have hf : finR (finR 0 (List.replicate lift opP)) pr = l := by rw [o2, finR_shift, hl]
  have hh : hsR (finR 0 (List.replicate lift opP)) pr = (hsR 0 pr).map fun x => x + (lift : Int) := by rw [o2, hsR_shift]
  rw [finR_append, finR_append, hsR_append, hsR_append, finR_append, hf, hh]
  constructor
  · rintro ⟨h1, _⟩ h hh'
    exact h1 _ (List.mem_append_left _ (List.mem_append_right _ (List.mem_map.mpr ⟨h, hh', rfl⟩)))
  · intro h1
    have hl0 : 0 ≤ l := by
      rcases List.mem_cons.mp (fin_last pr 0) with e | e
      · rw [hl, e]; omega
      · rw [hl]; exact h1 _ e
    have hm' : m = l := by rw [← hmm]; split <;> omega
    obtain ⟨s1, s2⟩ := shuts m.toNat l (by omega)
    refine ⟨fun h hh' => ?_, by rw [s2]; omega⟩
    rcases List.mem_append.mp hh' with hh' | hh'
    · rcases List.mem_append.mp hh' with hh' | hh'
      · exact o1 h hh'
      · obtain ⟨x, hx', rfl⟩ := List.mem_map.mp hh'
        exact h1 x hx'
    · exact s1 h hh'

/-- what the beginnings are -/
structure Bg (rows : List (Str × Int)) (b : BG) : Prop where
  hs : b.heights = hsR 0 rows
  h : b.height = finR 0 rows
  t : cl b.text = textL rows
  no : b.heights = [] → b.texts = []
  yes : b.heights ≠ [] → b.texts.length + 1 = b.heights.length
  ts : ∀ j t, b.texts[j]? = some t → ∃ pr, (∀ p ∈ pr, p ∈ rows) ∧ cl t = textL pr ∧ hsR 0 pr = (hsR 0 rows).take (j + 1) ∧ pr.length ≤ rows.length

theorem Bg.step {rows : List (Str × Int)} {b : BG} (B : Bg rows b) (p : Str × Int) : Bg (rows ++ [p]) (bgStep b p) := by
  have hsE : hsR 0 (rows ++ [p]) = if p.2 = 0 then hsR 0 rows else hsR 0 rows ++ [finR 0 rows + p.2] := by
    rw [hsR_append]
    simp only [hsR]
    split <;> simp
  have fE : finR 0 (rows ++ [p]) = finR 0 rows + p.2 := by rw [finR_append]; rfl
  have tE : cl (b.text ++ p.1) = textL (rows ++ [p]) := by
    rw [cl_append, B.t, textL_append]
    simp [textL]
  by_cases e : p.2 = 0
  · have hb : bgStep b p = ⟨b.texts, b.heights, b.text ++ p.1, b.height⟩ := by
      unfold bgStep; simp [e]
    rw [hb]
    refine ⟨?_, ?_, tE, B.no, B.yes, fun j t hj => ?_⟩
    · show b.heights = _
      rw [hsE, if_pos e, B.hs]
    · show b.height = _
      rw [fE, e, Int.add_zero, B.h]
    · obtain ⟨pr, h1, h2, h3, h4⟩ := B.ts j t hj
      exact ⟨pr, fun q hq => List.mem_append_left _ (h1 q hq), h2, by rw [hsE, if_pos e, h3], by rw [List.length_append]; omega⟩
  · have hb : bgStep b p = ⟨if b.heights ≠ [] then b.texts ++ [b.text] else b.texts, b.heights ++ [b.height + p.2], b.text ++ p.1, b.height + p.2⟩ := by
      unfold bgStep; simp [e]
    rw [hb]
    refine ⟨?_, ?_, tE, ?_, ?_, ?_⟩
    · show b.heights ++ _ = _
      rw [hsE, if_neg e, B.hs, B.h]
    · show b.height + p.2 = _
      rw [fE, B.h]
    · intro h; exact absurd h (by simp)
    · intro _
      show (if b.heights ≠ [] then b.texts ++ [b.text] else b.texts).length + 1 = (b.heights ++ [b.height + p.2]).length
      by_cases hn : b.heights = []
      · rw [if_neg (by simp [hn]), B.no hn, hn]; rfl
      · have h9 := B.yes hn
        rw [if_pos hn, List.length_append, List.length_append]
        simp only [List.length_cons, List.length_nil]
        omega
    · intro j t hj
      have hj' : (if b.heights ≠ [] then b.texts ++ [b.text] else b.texts)[j]? = some t := hj
      have old : ∀ j t, b.texts[j]? = Option.some t → ∃ pr, (∀ q ∈ pr, q ∈ rows ++ [p]) ∧ cl t = textL pr ∧ hsR 0 pr = (hsR 0 (rows ++ [p])).take (j + 1) ∧ pr.length ≤ (rows ++ [p]).length := by
        intro j t hj
        obtain ⟨pr, h1, h2, h3, h4⟩ := B.ts j t hj
        have hlt : j < b.texts.length := by
          rcases Nat.lt_or_ge j b.texts.length with h | h
          · exact h
          · rw [List.getElem?_eq_none h] at hj; cases hj
        have hn : b.heights ≠ [] := fun z => by rw [B.no z] at hlt; exact absurd hlt (by simp)
        have hl := B.yes hn
        rw [B.hs] at hl
        exact ⟨pr, fun q hq => List.mem_append_left _ (h1 q hq), h2, by rw [hsE, if_neg e, List.take_append_of_le_length (by omega), h3], by rw [List.length_append]; omega⟩
      by_cases hn : b.heights = []
      · rw [if_neg (by simp [hn])] at hj'
        exact old j t hj'
      · rw [if_pos hn] at hj'
        rcases Nat.lt_or_ge j b.texts.length with h | h
        · rw [List.getElem?_append_left h] at hj'; exact old j t hj'
        · rw [List.getElem?_append_right h] at hj'
          have hj0 : j - b.texts.length = 0 := by
            rcases Nat.eq_zero_or_pos (j - b.texts.length) with z | z
            · exact z
            · rw [List.getElem?_eq_none (by simp; omega)] at hj'; cases hj'
          rw [hj0] at hj'
          have ht : b.text = t := by simpa using hj'
          have hl := B.yes hn
          rw [B.hs] at hl
          refine ⟨rows, fun q hq => List.mem_append_left _ hq, by rw [← ht]; exact B.t, ?_, by rw [List.length_append]; omega⟩
          rw [hsE, if_neg e, List.take_append_of_le_length (by omega), List.take_of_length_le (by omega)]

theorem Bg.fold : ∀ (r pre : List (Str × Int)) (b : BG), Bg pre b → Bg (pre ++ r) (r.foldl bgStep b)
  | [], pre, b, h => by rw [List.append_nil]; exact h
  | p :: r, pre, b, h => by
    have := Bg.fold r (pre ++ [p]) _ (h.step p)
    rw [List.append_assoc] at this
    exact this
theorem begins_is (rows : List (Str × Int)) : Bg rows (begins rows) := by
  refine Bg.fold rows [] _ ⟨rfl, rfl, by decide +kernel, fun _ => rfl, fun h => absurd rfl h, fun j t h => ?_⟩
  simp at h

theorem passN_lt : ∀ (ls : List Int) (j : Nat), j < passN ls ↔ j < ls.length ∧ ∀ h ∈ ls.take (j + 1), 0 ≤ h
  | [], j => by simp [passN]
  | x :: r, j => by
    simp only [passN]
    by_cases hx : x < 0
    · rw [if_pos hx]
      constructor
      · intro h; omega
      · rintro ⟨_, h⟩
        have := h x (by rw [List.take_succ_cons]; exact .head _)
        omega
    · rw [if_neg hx, List.length_cons]
      cases j with
      | zero =>
        refine ⟨fun _ => ⟨by omega, fun h hh => ?_⟩, fun _ => by omega⟩
        simp at hh
        omega
      | succ j =>
        have ih := passN_lt r j
        rw [List.take_succ_cons]
        constructor
        · intro h
          obtain ⟨h1, h2⟩ := ih.mp (by omega)
          refine ⟨by omega, fun h hh => ?_⟩
          rcases List.mem_cons.mp hh with rfl | hh
          · omega
          · exact h2 h hh
        · rintro ⟨h1, h2⟩
          have := ih.mpr ⟨by omega, fun h hh => h2 h (.tail _ hh)⟩
          omega
theorem passN_full : ∀ (ls : List Int), passN ls = ls.length ↔ ∀ h ∈ ls, 0 ≤ h
  | [] => by simp [passN]
  | x :: r => by
    simp only [passN]
    by_cases hx : x < 0
    · rw [if_pos hx]
      constructor
      · intro h; simp at h
      · intro h
        have := h x (.head _)
        omega
    · rw [if_neg hx, List.length_cons]
      have ih := passN_full r
      constructor
      · intro h h' hh
        rcases List.mem_cons.mp hh with rfl | hh
        · omega
        · exact ih.mp (by omega) h' hh
      · intro h
        rw [ih.mpr fun h' hh => h h' (.tail _ hh)]

/-- the lonely ones are the least lift -/
theorem lonely_le : ∀ (rows : List (Str × Int)) (w l k : Int), (∀ p ∈ rows, p.2 = 1 ∨ p.2 = -1 ∨ p.2 = 0) → 0 ≤ w → (lonelyL w l rows ≤ k ↔ l ≤ k ∧ ∀ h ∈ hsR (w - l) rows, 0 ≤ h + k)
  | [], w, l, k, _, _ => by simp [lonelyL, hsR]
  | (t, st) :: rows, w, l, k, hm, hw => by
    have ih := fun w' l' h' => lonely_le rows w' l' k (fun q hq => hm q (.tail _ hq)) h'
    simp only [lonelyL, hsR]
    rcases hm _ (.head _) with e | e | e
    · have e : st = 1 := e
      subst e
      rw [if_pos rfl, if_neg (by decide), ih (w + 1) l (by omega), show w + 1 - l = w - l + 1 from by omega]
      constructor
      · rintro ⟨h1, h2⟩
        refine ⟨h1, fun h hh => ?_⟩
        rcases List.mem_cons.mp hh with rfl | hh
        · omega
        · exact h2 h hh
      · rintro ⟨h1, h2⟩
        exact ⟨h1, fun h hh => h2 h (.tail _ hh)⟩
    · have e : st = -1 := e
      subst e
      have n1 : ¬ (-1 : Int) = 1 := by decide
      have n0 : ¬ (-1 : Int) = 0 := by decide
      rw [if_neg n1, if_neg n0]
      by_cases hz : w = 0
      · subst hz
        have n2 : ¬ ((-1 : Int) = -1 ∧ (0 : Int) ≠ 0) := fun z => z.2 rfl
        rw [if_neg n2, if_pos rfl, ih 0 (l + 1) (by omega), show 0 - (l + 1) = 0 - l + -1 from by omega]
        constructor
        · rintro ⟨h1, h2⟩
          refine ⟨by omega, fun h hh => ?_⟩
          rcases List.mem_cons.mp hh with rfl | hh
          · omega
          · exact h2 h hh
        · rintro ⟨h1, h2⟩
          have h3 := h2 _ (.head _)
          exact ⟨by omega, fun h hh => h2 h (.tail _ hh)⟩
      · rw [if_pos (show (-1 : Int) = -1 ∧ w ≠ 0 from ⟨rfl, hz⟩), ih (w - 1) l (by omega), show w - 1 - l = w - l + -1 from by omega]
        constructor
        · rintro ⟨h1, h2⟩
          refine ⟨h1, fun h hh => ?_⟩
          rcases List.mem_cons.mp hh with rfl | hh
          · omega
          · exact h2 h hh
        · rintro ⟨h1, h2⟩
          exact ⟨h1, fun h hh => h2 h (.tail _ hh)⟩
    · have e : st = 0 := e
      subst e
      rw [if_neg (by decide), if_neg (by simp), if_neg (by decide), if_pos rfl, ih w l hw]
theorem lonely_ge : ∀ (rows : List (Str × Int)) (w l : Int), l ≤ lonelyL w l rows ∧ lonelyL w l rows ≤ l + rows.length
  | [], w, l => by simp [lonelyL]
  | (t, st) :: rows, w, l => by
    simp only [lonelyL, List.length_cons]
    have h1 := lonely_ge rows (w + 1) l
    have h2 := lonely_ge rows (w - 1) l
    have h3 := lonely_ge rows w (l + 1)
    have h4 := lonely_ge rows w l
    repeat' split
    all_goals omega

theorem hsR_flat : ∀ (rows : List (Str × Int)) (h : Int), (∀ p ∈ rows, p.2 = 1 ∨ p.2 = -1 ∨ p.2 = 0) → (hsR h rows).length ≤ rows.length ∧ ∀ x ∈ hsR h rows, x.natAbs ≤ h.natAbs + rows.length
  | [], _, _ => ⟨Nat.le_refl _, fun _ z => nomatch z⟩
  | p :: rows, h, hm => by
    have hp := hm p (.head _)
    have ih := fun h' => hsR_flat rows h' fun q hq => hm q (.tail _ hq)
    simp only [hsR, List.length_cons]
    by_cases e : p.2 = 0
    · rw [if_pos e]
      obtain ⟨h1, h2⟩ := ih h
      exact ⟨by omega, fun x hx => by have := h2 x hx; omega⟩
    · rw [if_neg e]
      obtain ⟨h1, h2⟩ := ih (h + p.2)
      refine ⟨by rw [List.length_cons]; omega, fun x hx => ?_⟩
      rcases List.mem_cons.mp hx with rfl | hx
      · omega
      · have := h2 x hx; omega

theorem textL_len : ∀ rows : List (Str × Int), (∀ p ∈ rows, p ∈ menu) → (textL rows).length ≤ 5 * rows.length
  | [], _ => Nat.le_refl _
  | p :: rows, hm => by
    have h1 := textL_len rows fun q hq => hm q (.tail _ hq)
    have h2 := menu_len p (hm p (.head _))
    show (cl p.1 ++ textL rows).length ≤ _
    rw [List.length_append, List.length_cons]
    omega
theorem strL_len : ∀ rows : List (Str × Int), (strL rows).length ≤ (textL rows).length
  | [] => Nat.le_refl _
  | p :: rows => by
    have h1 := strL_len rows
    have h2 : (keep p).length ≤ (cl p.1).length := by
      unfold keep
      split
      · exact Nat.zero_le _
      · exact Nat.le_refl _
    show (keep p ++ strL rows).length ≤ (cl p.1 ++ textL rows).length
    rw [List.length_append, List.length_append]
    omega
theorem len_cl (x : Str) : x.length = (cl x).length := by show x.cps.size = _; simp
theorem hsR_some : ∀ (rows : List (Str × Int)) (h : Int), (∃ p ∈ rows, p.2 ≠ 0) → hsR h rows ≠ []
  | [], _, ⟨_, hp, _⟩ => nomatch hp
  | q :: rows, h, ⟨p, hp, h0⟩ => by
    simp only [hsR]
    by_cases e : q.2 = 0
    · rw [if_pos e]
      rcases List.mem_cons.mp hp with rfl | hp
      · exact absurd e h0
      · exact hsR_some rows h ⟨p, hp, h0⟩
    · rw [if_neg e]; simp

/-- each row of pieces of the menu is good -/
theorem good {rows : List (Str × Int)} (hlen : rows.length ≤ 8) (hm : ∀ p ∈ rows, p ∈ menu) (hne : ∃ p ∈ rows, p.2 ≠ 0) : GoodRow rows := by
  have B := begins_is rows
  have hst : ∀ p ∈ rows, p.2 = 1 ∨ p.2 = -1 ∨ p.2 = 0 := fun p hp => by
    rcases kinds (hm p hp) with ⟨e, _⟩ | ⟨e, _⟩ | ⟨e, _⟩
    · exact .inl e
    · exact .inr (.inl e)
    · exact .inr (.inr e)
  have hH : hsOf rows = hsR 0 rows := B.hs
  have hn : (begins rows).heights ≠ [] := by rw [B.hs]; exact hsR_some rows 0 hne
  have hsome := B.yes hn
  have same : (tsOf rows).length = (hsOf rows).length := by
    show ((begins rows).texts ++ [(begins rows).text]).length = _
    rw [List.length_append]; exact hsome
  have all : ∀ j t, (tsOf rows)[j]? = some t → ∃ pr, (∀ p ∈ pr, p ∈ rows) ∧ cl t = textL pr ∧ hsR 0 pr = (hsR 0 rows).take (j + 1) ∧ pr.length ≤ rows.length := by
    intro j t hj
    have hj' : ((begins rows).texts ++ [(begins rows).text])[j]? = some t := hj
    rcases Nat.lt_or_ge j (begins rows).texts.length with h | h
    · rw [List.getElem?_append_left h] at hj'; exact B.ts j t hj'
    · rw [List.getElem?_append_right h] at hj'
      have hj0 : j - (begins rows).texts.length = 0 := by
        rcases Nat.eq_zero_or_pos (j - (begins rows).texts.length) with z | z
        · exact z
        · rw [List.getElem?_eq_none (by simp; omega)] at hj'; cases hj'
      rw [hj0] at hj'
      have ht : (begins rows).text = t := by simpa using hj'
      rw [B.hs] at hsome
      exact ⟨rows, fun _ h => h, by rw [← ht]; exact B.t, by rw [List.take_of_length_le (by omega)], Nat.le_refl _⟩
  obtain ⟨f1, f2⟩ := hsR_flat rows 0 hst
  obtain ⟨l1, l2⟩ := lonely_ge rows 0 0
  have tl := textL_len rows hm
  refine ⟨hlen, fun p hp => ⟨?_, ?_⟩, ?_, ?_, ?_, same, ?_, ?_, l1, by omega, ?_⟩
  · rcases hst p hp with e | e | e <;> rw [e] <;> decide
  · rw [len_cl]; have := menu_len p (hm p hp); omega
  · rw [hH]; exact read_rows hm B.t
  · rw [len_cl, strip_rows hm B.t]
    have := strL_len rows
    omega
  · intro t ht
    obtain ⟨j, hj⟩ := List.mem_iff_getElem?.mp ht
    obtain ⟨pr, h1, h2, _, h4⟩ := all j t hj
    rw [len_cl, h2]
    have := textL_len pr fun p hp => hm p (h1 p hp)
    omega
  · rw [hH]; omega
  · rw [hH]; intro h hh; have := f2 h hh; simp at this; omega
  · intro lift hlift
    have lone := lonely_le rows 0 0 lift hst (Int.le_refl _)
    have z0 : (0 : Int) - 0 = 0 := rfl
    rw [z0] at lone
    constructor
    · intro j hj
      have hj1 : j < (hsOf rows).length := by simpa using hj
      obtain ⟨t, ht⟩ : ∃ t, (tsOf rows)[j]? = some t := ⟨_, List.getElem?_eq_getElem (by omega)⟩
      obtain ⟨pr, h1, h2, h3, h4⟩ := all j t ht
      have e1 : (tsOf rows).getD j Str.empty = t := by unfold List.getD; rw [ht]; rfl
      have e2 : (upBy lift (hsOf rows)).getD j 0 = finR 0 pr + lift := by
        have hj2 : j < (hsR 0 rows).length := by rw [← hH]; exact hj1
        have h5 : finR 0 pr = (hsR 0 rows)[j] := by
          have h6 := congrArg List.getLast? h3
          rw [List.getLast?_take] at h6
          have h7 : ∀ (a : List (Str × Int)) (h : Int), hsR h a ≠ [] → (hsR h a).getLast? = some (finR h a) := by
            intro a
            induction a with
            | nil => intro h z; exact absurd rfl z
            | cons q a ih =>
              intro h z
              simp only [hsR, finR] at z ⊢
              by_cases e : q.2 = 0
              · rw [if_pos e] at z ⊢; rw [e, Int.add_zero]; exact ih h z
              · rw [if_neg e]
                cases hz : hsR (h + q.2) a with
                | nil =>
                  have h8 := fin_last a (h + q.2)
                  rw [hz] at h8
                  rw [List.mem_singleton.mp h8]; rfl
                | cons y r =>
                  rw [List.getLast?_cons_cons, ← hz]
                  exact ih _ (by rw [hz]; simp)
          have h8 : hsR 0 pr ≠ [] := by
            rw [h3]
            intro z
            have h9 := congrArg List.length z
            rw [List.length_take, List.length_nil] at h9
            omega
          rw [h7 pr 0 h8] at h6
          simp at h6
          simpa [List.getElem?_eq_getElem hj2] using h6
        rw [h5]
        unfold List.getD upBy
        rw [List.getElem?_map, hH, List.getElem?_eq_getElem hj2]
        rfl
      rw [e1, e2]
      have hc := laid_check (lift := lift) (fun p hp => hm p (h1 p hp)) h2 rfl
      have hp := passN_lt (upBy lift (hsOf rows)) j
      have hiff : checkP (laid lift t (finR 0 pr + lift)) = true ↔ j < passN (upBy lift (hsOf rows)) := by
        rw [hc, hp, h3]
        unfold upBy
        rw [← List.map_take, hH]
        constructor
        · intro h
          refine ⟨by rw [List.length_map, ← hH]; exact hj1, fun x hx => ?_⟩
          obtain ⟨y, hy, rfl⟩ := List.mem_map.mp hx
          exact h y hy
        · rintro ⟨_, h⟩ x hx
          exact h _ (List.mem_map.mpr ⟨x, hx, rfl⟩)
      cases hq : checkP (laid lift t (finR 0 pr + lift)) with
      | true => exact (decide_eq_true (hiff.mp hq)).symm
      | false => exact (decide_eq_false fun z => by rw [hiff.mpr z] at hq; cases hq).symm
    · have hp := passN_full (upBy lift (hsOf rows))
      have hl : (upBy lift (hsOf rows)).length = (hsOf rows).length := by simp
      rw [hl] at hp
      refine decide_eq_decide.mpr (hp.trans ?_)
      have h1 : (∀ h ∈ upBy lift (hsOf rows), 0 ≤ h) ↔ ∀ h ∈ hsR 0 rows, 0 ≤ h + lift := by
        unfold upBy
        rw [hH]
        constructor
        · intro h x hx
          exact h _ (List.mem_map.mpr ⟨x, hx, rfl⟩)
        · intro h x hx
          obtain ⟨y, hy, rfl⟩ := List.mem_map.mp hx
          exact h y hy
      rw [h1]
      constructor
      · intro h
        have := lone.mpr ⟨by omega, h⟩
        omega
      · intro h
        exact (lone.mp (by omega)).2

theorem Reach.menu {i : Nat} {r : List (Str × Int)} (h : Reach i r) : (∀ p ∈ r, p ∈ menu) ∧ ∃ p ∈ r, p.2 ≠ 0 := by
  induction h with
  | zero => exact ⟨by decide +kernel, _, .head _, by decide⟩
  | @succ i k r p _ hp hk ih =>
    refine ⟨fun q hq => ?_, ?_⟩
    · rcases List.mem_append.mp hq with hq | hq
      · exact ih.1 q (List.mem_of_mem_take hq)
      · rcases List.mem_cons.mp hq with rfl | hq
        · exact hp
        · exact ih.1 q (List.mem_of_mem_drop hq)
    · obtain ⟨q, hq, h0⟩ := ih.2
      refine ⟨q, ?_, h0⟩
      rw [← List.take_append_drop k r] at hq
      rcases List.mem_append.mp hq with hq | hq
      · exact List.mem_append_left _ hq
      · exact List.mem_append_right _ (.tail _ hq)
theorem exch_menu : ∀ p ∈ menu, exch p ∈ menu := by decide +kernel

theorem good_row {i : Nat} {r : List (Str × Int)} (h : Reach i r) (hi : i ≤ 2) : GoodRow r := by
  have h1 := h.length
  exact good (by omega) h.menu.1 h.menu.2
theorem good_exch {i : Nat} {r : List (Str × Int)} (h : Reach i r) (hi : i ≤ 2) : GoodRow (r.map exch) := by
  have h1 := h.length
  refine good (by rw [List.length_map]; omega) (fun p hp => ?_) ?_
  · obtain ⟨q, hq, rfl⟩ := List.mem_map.mp hp
    exact exch_menu q (h.menu.1 q hq)
  · obtain ⟨q, hq, h0⟩ := h.menu.2
    exact ⟨exch q, List.mem_map_of_mem hq, by show -q.2 ≠ 0; omega⟩
end Mine
end

section
open PySem PySem.W PyProof.Rows PySem.Calls PySem.Spec
set_option maxRecDepth 100000
set_option maxHeartbeats 8000000
set_option linter.unusedVariables false
namespace Mine
theorem fillV1 : PySem.Challenge.rw_nb0062_01.foot = 10 ∨ (∀ P, hd.heap_39 P = []) := by
  w_top off
  k_fill
  left; rfl

theorem tup_ne {h : Heap} {L T : Addr} {m : Str → Option Value} {o : Obj} {vs : Array Value} {n : Nat} (ns : h.Ns L m) (hT : h.get? T = some o) (hd : o.data = .seq vs n) : T ≠ L := fun z => by
  obtain ⟨o', _, _, ho, hd', _⟩ := ns
  rw [z, ho] at hT
  cases hT
  rw [hd'] at hd
  cases hd

theorem PiecesIn.are {h h' : Heap} {L : Addr} {tups : List (Addr × Obj)} {vs : List Value} {r : List (Str × Int)} (hp : PiecesIn tups vs r) (ha : ∀ p ∈ tups, h.get? p.1 = some p.2)
    (k : ∀ T o (xs : Array Value) n, o.data = .seq xs n → h.get? T = some o → h'.get? T = some o) : PiecesAre h' vs r := by
  induction hp with
  | nil => exact .nil
  | cons hm _ ih => exact .cons ⟨_, k _ _ _ _ rfl (ha _ hm), rfl, _, rfl⟩ ih

theorem row_hid {h : Heap} {L D : Addr} {m : Str → Option Value} {env : Env} {vs : Array Value} {n : Nat} {tups : List (Addr × Obj)} {r : List (Str × Int)} (ns : h.Ns L m) (hf : [env].filterMap (·.frame) = [L]) (hp : PiecesIn tups vs.toList r) (ha : ∀ p ∈ (D, W.listOf vs n) :: tups, h.get? p.1 = some p.2) :
    RowAt (hideAll h ([env].filterMap (·.frame))) D r := by
  have k : ∀ T o (xs : Array Value) n, o.data = .seq xs n → h.get? T = some o → (hideAll h ([env].filterMap (·.frame))).get? T = some o := fun T o xs n hd e => hideAll_get _ e (by
    rw [hf]
    intro hm
    exact tup_ne ns e hd (List.mem_singleton.mp hm))
  refine ⟨vs.toList, ⟨_, k D _ _ _ rfl (ha _ (.head _)), rfl, n, ?_⟩, hp.are (L := L) (fun p hp => ha p (.tail _ hp)) k⟩
  rw [Array.toArray_toList]

theorem one_frame {h base : Heap} {L : Addr} {m : Str → Option Value} {env : Env} (ns : h.Ns L m) (hk : env.scope.kind ≠ .module) (hf : env.frame = some L) (hb : base.get? L = none) : h.FunFrames base [env] := by
  obtain ⟨o, es, ep, ho, hd, _⟩ := ns
  exact ⟨hk, ⟨L, o, hf, hb, ho, fun vs => by rw [hd]; exact fun z => nomatch z⟩, trivial⟩
theorem fr_after {H : Heap} {L : Addr} {m : Str → Option Value} {env : Env} {s s' : Shared} (F : Fr H L s.heap m) (hf : [env].filterMap (·.frame) = [L]) (hA : AfterG [env] s s') : Fr H L s'.heap m :=
  ⟨ns_slots F.ns (fun o ho _ => hA.frames L (by rw [hf]; exact .head _) o ho), fun b o e => hA.keep b o (fun hm => by
    rw [hf] at hm
    exact absurd (Heap.lt_size e) (by rw [List.mem_singleton.mp hm]; exact Nat.not_lt.mpr F.above)) (F.keep b o e), F.above⟩
theorem news_after {H : Heap} {L : Addr} {env : Env} {s s' : Shared} {news : List (Addr × Obj)} (N : News H L s.heap news) (hf : [env].filterMap (·.frame) = [L]) (hA : AfterG [env] s s') : News H L s'.heap news := fun p hp =>
  ⟨hA.keep _ _ (fun hm => by rw [hf] at hm; exact (N p hp).2.1 (List.mem_singleton.mp hm)) (N p hp).1, (N p hp).2⟩

section
variable {w : World} {mean : ExcName → Option Value} {mg mb : Str → Option Value} {base : Heap} {dp un : Nat} {gd : Option (List Code)} {s : Shared}

noncomputable abbrev lawEnv (w : World) (L fa : Addr) (cdv : Value) : Env := envOf (fdAt w 122).qualname (fdAt w 122).scope L fa cdv

theorem law_body (G : Ground w mean mg mb base) (hdp : dp + 200 < recursionLimit) (hun : un + 700 < cLine) {L l fa : Addr} {cdv : Value} {vs : List Value} {ns : List Int} (hl : base.IsList l vs.toArray) (hi : IntsAre vs ns) (hlen : ns.length ≤ 63)
    (F : Fr base L s.heap (fun y => if y = Str.ofString "script" then some (.ref l) else none)) (N : News base L s.heap []) {QQ : Flow → Shared → Prop}
    (hQ : ∀ s', (∀ b o, base.get? b = some o → s'.heap.get? b = some o) → GStep s.gens.size s.gens s'.gens → s'.os = s.os → QQ (.ret (.bool true)) s') :
    wpAny (model prog w) (Around.deeper (Ar dp un gd []) (lawEnv w L fa cdv)) (execs (bodyAt w 122) (lawEnv w L fa cdv)) QQ (fun _ _ => False) s := by
  have X := G.K
  have T := G.T
  have O : On base base := ⟨fun _ _ e => e, Nat.le_refl _⟩
  have hbL : base.get? L = none := by
    cases q : base.get? L with
    | none => rfl
    | some o => exact absurd (Heap.lt_size q) (Nat.not_lt.mpr F.above)
  refine' with_lookup (a := 122) (K := hd.heap_39 w.params) ?h ?_
  case h => k_is
  intro e
  unfold lawEnv bodyAt fdAt
  rw [e]
  clear e
  dsimp only
  k_steps
  have hl' : s.heap.IsList l vs.toArray := let ⟨o, ho, q⟩ := hl; ⟨o, F.keep _ _ ho, q⟩
  refine row_spec (dp := dp + 1) (un := un + 3) G (O.fr F) (by omega) (by omega) hl' hi hlen fun D vs₂ n₂ tups rows i s₂ hi2 hre hA hpi hall => ?_
  have F₂ := F.keeps hA.keep
  have N₂ : News base L s₂.heap ((D, W.listOf vs₂ n₂) :: tups) := fun p hp => ⟨(hall p hp).1, fr_fresh F (hall p hp).2⟩
  clear F N hl'
  have goodA := good_row hre hi2
  have goodB := good_exch hre hi2
  have hlen8 := hre.length
  k_steps
  rename_i h₃ F₃ N₃
  refine holds_spec (dp := dp + 1) (un := un + 3) G (O.fr F₃) (one_frame F₃.ns (show ScopeKind.function ≠ ScopeKind.module by decide) rfl hbL) (by omega) (by omega) (row_hid F₃.ns rfl hpi fun p hp => (N₃ p hp).1) goodA fun s₄ hA₄ => ?_
  have F₄ := fr_after (s := { s₂ with heap := h₃, toks := tk }) F₃ rfl hA₄
  have N₄ := news_after (s := { s₂ with heap := h₃, toks := tk }) N₃ rfl hA₄
  clear F₃ N₃
  k_steps
  refine exch_spec (dp := dp + 1) (un := un + 3) G (O.fr F₄) (by omega) (by omega) hpi (fun p hp => ⟨(N₄ p hp).1, (N₄ p hp).2.2⟩) (by omega) fun D' vs₅ n₅ tups' s₅ hA₅ hpi' hall' => ?_
  have F₅ := F₄.keeps hA₅.keep
  have N₅ : News base L s₅.heap [] := News.nil
  clear F₄ N₄
  k_steps
  refine holds_spec (dp := dp + 1) (un := un + 3) G (O.fr F₅) (one_frame F₅.ns (show ScopeKind.function ≠ ScopeKind.module by decide) rfl hbL) (by omega) (by omega) (row_hid F₅.ns rfl hpi' fun p hp => (hall' p hp).1) goodB fun s₆ hA₆ => ?_
  have F₆ := fr_after F₅ rfl hA₆
  clear F₅ N₅
  refine hQ s₆ F₆.keep ?_ ?_
  · exact ((hA.gens.trans (hA₄.gens.mono hA.gens.size)).trans (hA₅.gens.mono (Nat.le_trans hA.gens.size hA₄.gens.size))).trans (hA₆.gens.mono (Nat.le_trans hA.gens.size (Nat.le_trans hA₄.gens.size hA₅.gens.size)))
  · exact ((hA₆.os.trans hA₅.os).trans hA₄.os).trans hA.os
end
end Mine
end

section
open PySem PySem.W PyProof.Rows PySem.Calls PySem.Spec
set_option maxRecDepth 100000
set_option maxHeartbeats 8000000
set_option linter.unusedVariables false
open Mine
theorem PySem.Challenge.cw_nb0062_01_holds : PySem.Challenge.rw_nb0062_01.Holds := by
  refine Mine.hd ?_
  k_fill
  intro w s₀ s₁ mg mb G Y fa o pm cd doc dV kV ho hd' hcd hD hmg hg args vals as hpre hlay hrd hwl hlo
  have KX := kIn_of Y
  refine PySem.W.Ground.open G ?_
  intro T B D TE TW
  try (refine guard_noD D (by decide +kernel) ?_; clear D)
  wrow_args hpre hlay hrd hwl hlo
  (first | refine callC_kw (enter_call ?_) | refine enter_call ?_)
  w_top on
  w_call any ho hd' hcd hD T F
  rename_i ns _ _ _ _ _ _ _ l vs _ hL _ _ _ hI _ hlen _ h₁ N₁
  have G' : Mine.Ground w (ExcName.means s₀.heap) mg mb s₁.heap := ⟨KX, T⟩
  have F₂ : Fr s₁.heap s₁.heap.objs.size h₁ (fun y => if y = Str.ofString "script" then some (.ref l) else none) := by
    rw [← binds1]; exact F
  clear hd' hcd hD hmg ho
  refine wpAny_mono (Q := fun f s' => f = .ret (.bool true) ∧ (∀ b o, s₁.heap.get? b = some o → s'.heap.get? b = some o) ∧ GStep s₁.gens.size s₁.gens s'.gens ∧ s'.os = s₁.os) (E := fun _ _ => False) ?_ (fun f s' h => ?_) (fun _ _ h => h.elim)
  · have law := law_body (w := w) (dp := callerA.depth) (un := callerA.units) (gd := callerA.guards) (fa := fa) (cdv := cd) (s := { s₁ with heap := h₁, toks := s₁.toks + 1 }) G' (by decide) (by decide) hL hI (by omega) F₂ N₁
      (QQ := fun f s' => f = .ret (.bool true) ∧ (∀ b o, s₁.heap.get? b = some o → s'.heap.get? b = some o) ∧ GStep s₁.gens.size s₁.gens s'.gens ∧ s'.os = s₁.os)
      (fun s' h1 h2 h3 => ⟨rfl, h1, h2, h3⟩)
    refine' with_lookup (a := 122) (K := hd.heap_39 w.params) ?h ?_
    case h => k_is
    intro e
    unfold lawEnv bodyAt fdAt at law
    rw [e] at law
    exact law
  · obtain ⟨rfl, h2, h3, h4⟩ := h
    refine ⟨.inl ⟨.bool true, .bool true, [], rfl, raisesW_false (by wrow_none_raised), .bool _, ?_, unshared_nil⟩, .of_keep h2, h4, h3.bare (.of_eq hg)⟩
    exact postW_of (by wrow_shape) (by wtm_val) (by rfl)
end
