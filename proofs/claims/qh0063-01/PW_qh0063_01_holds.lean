import PyProof.Rows.All
import Wide.All
import OpenK.AllK
import Wide.FinOn
import PySem.Challenge.RW_qh0063_01
set_option Elab.async false
section
open PySem PySem.W PyProof.Rows
namespace Mine
set_option synthInstance.maxSize 1 in
set_option maxRecDepth 100000 in
set_option maxHeartbeats 8000000 in
open_top hd for PySem.Challenge.rw_qh0063_01
end Mine
end
local macro_rules | `(tactic| walk_at $s:str) => `(tactic| k_extra $s)
section
local macro_rules | `(tactic| k_steps) => `(tactic| repeat' (first | (k_unfold; (try dsimp only)) | (k_end; wrow_close) | (dsimp only; walk1) | walk1 | (leave1; walk_say "STEP leave1"; try dsimp only) | fail "no step"))
section
open PySem PySem.W PySem.Spec PySem.Calls PyProof.Rows
set_option maxRecDepth 100000
set_option maxHeartbeats 8000000
namespace Mine
theorem rsMBase {M : Model} {A : Around} {Q : Flow → Shared → Prop} {E : Value → Shared → Prop} {s : Shared} {env : Env} (h : Q .next s) : wpAny M A (execs [] env) Q E s := by
  w_top off
  k_with_none
  walk1
  exact h
abbrev tup (vs : List Value) : Obj := { cls := .type "tuple", data := .seq vs.toArray }

section
variable {prog : Program} {w : World} {A : Around} {E : Value → Shared → Prop} {s : Shared}

theorem tup_lt {x y : Addr} {a b c d : Int} {k0 k1 k2 k3 : Tok} {Q : Value → Shared → Prop}
    (hx : s.heap.get? x = some (tup [.int a k0, .int b k1])) (hy : s.heap.get? y = some (tup [.int c k2, .int d k3]))
    (hu : A.units < cLine) (h : Q (.bool (decide (a < c ∨ (a = c ∧ b < d)))) s) :
    wpAny (model prog w) A (compareOp .Lt (.ref x) (.ref y)) Q E s := by
  have tx : s.TypeIs (.ref x) "tuple" := ⟨_, hx, rfl⟩
  have ty : s.TypeIs (.ref y) "tuple" := ⟨_, hy, rfl⟩
  refine wpAny_richCompare_same_room (op := .Lt) tx ty F.slot_tuple_lt
    (wpAny_call_entry F.slot_tuple_lt tx F.entry_tuple_lt ?_ (F.args_tuple_lt_2 _ _)) hu
  show wpAny _ _ (isInstance (.ref y) (.type "tuple") >>= _) _ _ s
  refine wpAny_bind (wpAny_isInstance ty isSubtype_tuple_tuple ?_)
  simp only [Bool.not_true, Bool.false_eq_true, if_false]
  refine wpAny_bind (wpAny_tupleItemsOf hx rfl ?_)
  refine wpAny_bind (wpAny_tupleItemsOf hy rfl ?_)
  simp only [List.zip_cons_cons, List.zip_nil_right, List.forIn_cons, List.forIn_nil, bind_assoc]
  refine wpAny_bind (wpAny_eqBool_int ?_)
  by_cases e1 : a = c
  · subst e1
    simp only [beq_self_eq_true, Bool.not_true, Bool.false_eq_true, if_false, pure_bind]
    refine wpAny_bind (wpAny_bind (wpAny_eqBool_int ?_))
    by_cases e2 : b = d
    · subst e2
      simp only [beq_self_eq_true, Bool.not_true, Bool.false_eq_true, if_false, pure_bind]
      have e : decide (a < a ∨ a = a ∧ b < b) = false := by simp
      rw [e] at h
      exact wpAny_pure (wpAny_pure ⟨_, rfl, (by intro q; cases q), h⟩)
    · have e2' : (b == d) = false := by simp [e2]
      simp only [e2', Bool.not_false, if_true, bind_assoc, pure_bind]
      refine wpAny_bind (wpAny_rule (wpAny_bind (wpAny_lt_int ?_)))
      have e : decide (a < a ∨ a = a ∧ b < d) = decide (b < d) := by simp
      rw [e] at h
      exact wpAny_pure (wpAny_pure ⟨_, rfl, (by intro q; cases q), h⟩)
  · have e1' : (a == c) = false := by simp [e1]
    simp only [e1', Bool.not_false, if_true, bind_assoc, pure_bind]
    refine wpAny_bind (wpAny_rule (wpAny_bind (wpAny_lt_int ?_)))
    have e : decide (a < c ∨ a = c ∧ b < d) = decide (a < c) := by simp [e1]
    rw [e] at h
    exact wpAny_pure ⟨_, rfl, (by intro q; cases q), h⟩
end

/-! A ledger over a ground g; a def's contract; how it is entered and how it is used. -/
def Led (g h : Heap) (l : List (Addr × Obj)) : Prop := ∀ p ∈ l, h.get? p.1 = some p.2 ∧ g.get? p.1 = none

def Ctr (w : World) (f : Addr) (args : List Value) (tch : List (Addr × Obj)) (k : Nat) (post : Value → List (Addr × Obj) → Prop) : Prop :=
  ∀ (prog p : Program) (loose : List Str) (mean : ExcName → Option Value) (mg mb : Str → Option Value) (dp un : Nat) (gd : Option (List Code))
    (cn : Str) (cs : Scope) (L a : Addr) (ccd : Value) (cl : List (Str × Addr)) (outer : List Env) (base g : Heap) (s : Shared) (Q E : Value → Shared → Prop),
    Below (ktrTop dp un gd cn cs L a ccd cl outer) base (envX cn cs L a ccd cl :: outer) g → (hd.heap_39 w.params).In g → Top p loose mean mg mb g →
    g.StaysIn s.heap → g.objs.size ≤ s.heap.objs.size → Led g s.heap tch → cs.kind = .function → dp + k < recursionLimit → un + 8 * k < cLine →
    (∀ v out h' tk' gs', g.StaysIn h' → Led g h' out → post v out → (AllBare s.gens → AllBare gs') → Q v { s with heap := h', toks := tk', gens := gs' }) →
    wpAny (model prog w) (ktrTop dp un gd cn cs L a ccd cl outer) (call (.ref f) args) Q E s

section
variable {prog : Program} {w : World} {A A₀ : Around} {E : Value → Shared → Prop} {s : Shared} {K : Frag} {base g h₀ : Heap} {envs outer : List Env} {tch rest out : List (Addr × Obj)}
  {p : Program} {loose : List Str} {mean : ExcName → Option Value} {mg mb : Str → Option Value} {L : Addr} {m : Str → Option Value}

theorem enterC {R : Result → Shared → Prop} {name qual : Str} {params : Arguments} {body : List Stmt} {scope : Scope} {dV kV doc pm cdv ct oc : Value} {an od : Option Addr} {osl : Array (Option Value)} {f : Addr} {args : Args} {binds : List (Str × Value)}
    (X : K.In g) (T : Top p loose mean mg mb g) (hst : g.StaysIn s.heap) (hsz : g.objs.size ≤ s.heap.objs.size) (N : Led g s.heap tch)
    (ho : K.lookup f = some ⟨oc, od, .func (fnOf name qual params body scope dV kV doc pm an cdv ct), osl⟩) (hcd : codeIn K cdv qual = true) (hroom : A.depth < recursionLimit)
    (hbind : BindsTo s (fnOf name qual params body scope dV kV doc pm an cdv ct) args binds) (hloc : ∀ y ∈ binds, scope.names.lookup y.1 = some .local)
    (h : ∀ L' h₁, Fr g L' h₁ (fun y => binds.reverse.lookup y) → News g L' h₁ tch → (∀ p ∈ tch, p.1 < L') →
      wpAny (model prog w) (A.deeper (envOf qual scope L' f cdv)) (execs body (envOf qual scope L' f cdv))
        (fun fl s' => R (.ok (.ret (match fl with | .ret v => v | _ => .none))) s') (fun _ _ => False)
        { s with heap := h₁, toks := s.toks + binds.length })
    (hcell : ∀ x ∈ scope.names, x.2 ≠ .cell) (hco : scope.isCoroutine = false) (hgen : scope.isGenerator = false) (hk : scope.kind = .function) :
    codeAny (model prog w) A (.call (.ref f) args) R s := by
  have Xs : K.In s.heap := X.keeps hst
  refine codeAny_call_def (fd := fnOf name qual params body scope dV kV doc pm an cdv ct) (body := body) (binds := binds) hroom (Xs _ _ ho) rfl (T.nolimit.keeps hst) (codeRec_of Xs hcd) rfl hbind hcell hloc (fun h₁ hns hk₁ => ?_) hco hgen hk
  exact wpAny_mono (h s.heap.objs.size h₁ ⟨hns, fun b o e => hk₁ b o (hst b o e), hsz⟩
    (fun q hq => ⟨hk₁ _ _ (N q hq).1, Nat.ne_of_lt (Heap.lt_size (N q hq).1), (N q hq).2⟩) (fun q hq => Heap.lt_size (N q hq).1)) (fun _ _ x => x) fun _ _ x => x.elim

theorem led_of {h : Heap} (N : News g L h out) : Led g h out := fun q hq => ⟨(N q hq).1, (N q hq).2.2⟩

theorem afterC {h' : Heap} (F : Fr h₀ L s.heap m) (N : News h₀ L s.heap tch) (N' : News h₀ L s.heap rest) (hd : ∀ q ∈ rest, q.1 ∉ tch.map (·.1))
    (hst : (hideAll s.heap (tch.map (·.1))).StaysIn h') (hl : Led (hideAll s.heap (tch.map (·.1))) h' out) :
    Fr h₀ L h' m ∧ News h₀ L h' (out ++ rest) ∧ (∀ q ∈ out, ∀ r ∈ rest, q.1 ≠ r.1) := by
  have nm : ∀ b o, h₀.get? b = some o → b ∉ tch.map (·.1) := fun b o e q => by
    obtain ⟨q', hp, rfl⟩ := List.mem_map.mp q
    rw [(N q' hp).2.2] at e; cases e
  have st : h₀.StaysIn (hideAll s.heap (tch.map (·.1))) := fun b o e => hideAll_get _ (F.keep b o e) (nm b o e)
  obtain ⟨oL, es, ep, hL, hLd, hLk, hLf⟩ := F.ns
  have nL : L ∉ tch.map (·.1) := fun q => by
    obtain ⟨q', hp, e⟩ := List.mem_map.mp q
    exact (N q' hp).2.1 e
  have hLg := hideAll_get (tch.map (·.1)) hL nL
  refine ⟨⟨⟨oL, es, ep, hst L oL hLg, hLd, hLk, hLf⟩, fun b o e => hst b o (st b o e), F.above⟩, fun q hq => ?_, fun q hq r hr e => ?_⟩
  · rcases List.mem_append.mp hq with hq | hq
    · refine ⟨(hl q hq).1, fun e => ?_, ?_⟩
      · have := (hl q hq).2; rw [e, hLg] at this; cases this
      · cases e : h₀.get? q.1 with
        | none => rfl
        | some o => have := (hl q hq).2; rw [st _ _ e] at this; cases this
    · exact ⟨hst _ _ (hideAll_get _ (N' q hq).1 (hd q hq)), (N' q hq).2⟩
  · have h1 := hideAll_get (tch.map (·.1)) (N' r hr).1 (hd r hr)
    rw [← e, (hl q hq).2] at h1
    cases h1

theorem Ctr.use {f : Addr} {args : List Value} {k : Nat} {post : Value → List (Addr × Obj) → Prop} {dp un : Nat} {gd : Option (List Code)}
    {cn : Str} {cs : Scope} {a : Addr} {ccd : Value} {cl : List (Str × Addr)} {Q : Value → Shared → Prop}
    (C : Ctr w f args tch k post) (B : Below A₀ base outer h₀) (F : Fr h₀ L s.heap m) (X : (hd.heap_39 w.params).In h₀) (T : Top p loose mean mg mb h₀)
    (N : News h₀ L s.heap tch) (N' : News h₀ L s.heap rest) (hdis : ∀ q ∈ rest, q.1 ∉ tch.map (·.1)) (hk : cs.kind = .function) (hr : dp + k < recursionLimit) (hu : un + 8 * k < cLine)
    (ret : ∀ v out h' tk' gs', post v out → Fr h₀ L h' m → News h₀ L h' (out ++ rest) → (∀ q ∈ out, ∀ r ∈ rest, q.1 ≠ r.1) → (AllBare s.gens → AllBare gs') → Q v { s with heap := h', toks := tk', gens := gs' }) :
    wpAny (model prog w) (ktrTop dp un gd cn cs L a ccd cl outer) (call (.ref f) args) Q E s := by
  obtain ⟨FG, BG, st, -⟩ := groundX (R := fun _ _ => True) (A := ktrTop dp un gd cn cs L a ccd cl outer) (env := envX cn cs L a ccd cl) B F N rfl rfl hk
  refine C prog p loose mean mg mb dp un gd cn cs L a ccd cl outer base _ s Q E BG (X.keeps st) (T.keeps st) (fun b o e => of_hideAll _ e) (Nat.le_of_eq (hideAll_size _ _))
    (fun q hq => ⟨(N q hq).1, hideAll_none _ (List.mem_map_of_mem hq)⟩) hk hr hu (fun v out h' tk' gs' hst hl hp hb => ?_)
  obtain ⟨F1, N1, d1⟩ := afterC F N N' hdis hst hl
  exact ret v out h' tk' gs' hp F1 N1 d1 hb
end
end Mine
end
section
open PySem PySem.W PySem.Spec PySem.Calls PyProof.Rows
set_option maxRecDepth 100000
set_option maxHeartbeats 4000000
namespace Mine
theorem rsMSeg {M : Model} {A : Around} {Q : Flow → Shared → Prop} {E : Value → Shared → Prop} {s : Shared} {env : Env} (h : Q .next s) : wpAny M A (execs [] env) Q E s := by
  w_top off
  k_with_none
  walk1
  exact h
section
variable {M : Model} {A : Around} {R : GenEnd} {Y : Protocol} {n : Nat} {s₀ : Shared} {c : Code} {fs : List Frame} {s : Shared} {env : Env}
  {K : Flow → Sem Fin} {H : Value → Sem Fin} {gd : Bool → Bool} {lv : List Value → List Value}

theorem seg_stmt {st : Stmt} (h : wpAny M (A.over c fs) (exec st env) (fun f s' => Seg M A R Y n s₀ c (K f) fs s') (fun _ _ => False) s) :
    Seg M A R Y n s₀ c ((exec st env).wrap K H gd lv) fs s :=
  seg_wrap (wpAny_mono h (fun _ _ x => x) fun _ _ x => x.elim)

theorem seg_If {test : Expr} {body orelse : List Stmt} {pos : Pos}
    (h : wpAny M (A.over c fs) (isTrue test env (eval test env)) (fun b s' => if b = true then Seg M A R Y n s₀ c ((execs body env).wrap K H gd lv) fs s' else Seg M A R Y n s₀ c ((execs orelse env).wrap K H gd lv) fs s') (fun _ _ => False) s) :
    Seg M A R Y n s₀ c ((exec (.If test body orelse pos) env).wrap K H gd lv) fs s := by
  show Seg M A R Y n s₀ c (.at pos fun _ => (isTrue test env (eval test env) >>= fun b => if b = true then execs body env else execs orelse env).wrap K H gd lv) fs s
  refine seg_at ?_
  rw [Sem.bind_eq_wrap', Sem.wrap_wrap]
  refine seg_wrap (wpAny_mono h (fun b s' hb => ?_) fun _ _ x => x.elim)
  cases b with
  | true => simpa using hb
  | false => simpa using hb

theorem seg_For {target iter : Expr} {body orelse : List Stmt} {pos : Pos}
    (h : wpAny M (A.over c fs) (eval iter env) (fun x s₁ => wpAny M (A.over c fs) (pyIter x) (fun it s₂ =>
      ∀ p kont, (∀ f, kont (.ok f) = K f) → Seg M A R Y n s₀ (.forLoop target it body orelse env) (M.den (.forLoop target it body orelse env)) (.ret kont none (gd false) (lv []) c p [] :: fs) s₂)
      (fun _ _ => False) s₁) (fun _ _ => False) s)
    (hs : ∀ x, foldedSetIterable iter env x = pure x := by intro _; rfl) :
    Seg M A R Y n s₀ c ((exec (.For target iter body orelse pos) env).wrap K H gd lv) fs s := by
  rw [exec_For]
  show Seg M A R Y n s₀ c (.at pos fun _ => (eval iter env >>= fun x0 => foldedSetIterable iter env x0 >>= fun x => standAt iter.pos >>= fun _ => holding [x] (pyIter x) >>= fun it => runOwn (.forLoop target it body orelse env) env).wrap K H gd lv) fs s
  refine seg_at ?_
  simp only [hs, pure_bind]
  rw [Sem.bind_eq_wrap', Sem.wrap_wrap]
  refine seg_wrap (wpAny_mono h (fun x s₁ h₁ => ?_) fun _ _ x => x.elim)
  refine seg_at ?_
  show Seg M A R Y n s₀ c ((holding [x] (pyIter x) >>= fun it => runOwn (.forLoop target it body orelse env) env).wrap K H gd lv) fs s₁
  rw [Sem.bind_eq_wrap', Sem.wrap_wrap]
  refine seg_wrap (wpAny_holding (wpAny_mono h₁ (fun it s₂ h₂ => ?_) fun _ _ x => x.elim))
  exact seg_call fun p => h₂ p _ fun f => rfl
end

section
variable {prog : Program} {w : World} {A : Around} {R : GenEnd} {Y : Protocol} {n : Nat} {s₀ : Shared} {fs : List Frame} {s : Shared} {env : Env}
theorem seg_forLoop {target : Expr} {it : Value} {body orelse : List Stmt}
    (h : wpAny (model prog w) (A.over (.forLoop target it body orelse env) fs) (pyNext it) (fun r s₁ => ∃ v, r = some v ∧
        wpAny (model prog w) (A.over (.forLoop target it body orelse env) fs) (assign target env v) (fun _ s₂ => ∀ (K' : Flow → Sem PySem.Fin) (H' : Value → Sem PySem.Fin),
          K' .next = .pure (.again (.forLoop target it body orelse env)) →
          Seg (model prog w) A R Y n s₀ (.forLoop target it body orelse env) ((execs body env).wrap K' H' id id) fs s₂) (fun _ _ => False) s₁) (fun _ _ => False) s)
    (ht : ∀ v, letOwnedTupleGo target it v = pure () := by intro _; rfl) :
    Seg (model prog w) A R Y n s₀ (.forLoop target it body orelse env) ((model prog w).den (.forLoop target it body orelse env)) fs s := by
  show Seg _ A R Y n s₀ _ ((forTurn target it body orelse env).onRaise (fun x => do noteFrame x env; theTreesLotGoes x)) fs s
  unfold forTurn
  rw [Sem.onRaise_eq_wrap, Sem.bind_eq_wrap', Sem.wrap_wrap]
  refine seg_wrap (wpAny_standAt ?_)
  rw [Sem.bind_eq_wrap', Sem.wrap_wrap]
  refine seg_wrap (wpAny_onRaise (wpAny_mono h (fun r s₁ h₁ => ?_) fun _ _ x => x.elim))
  obtain ⟨v, rfl, h₁⟩ := h₁
  dsimp only
  rw [Sem.bind_eq_wrap', Sem.wrap_wrap]
  refine seg_wrap (wpAny_of_eq (ht v) ?_)
  rw [Sem.bind_eq_wrap', Sem.wrap_wrap]
  refine seg_wrap (wpAny_mono h₁ (fun _ s₂ h₂ => ?_) fun _ _ x => x.elim)
  rw [Sem.bind_eq_wrap', Sem.wrap_wrap]
  exact h₂ _ _ rfl
end
end Mine
end
section
open PySem PySem.W PySem.Spec PySem.Calls PyProof.Rows
set_option maxRecDepth 100000
set_option maxHeartbeats 4000000
namespace Mine
theorem rsMGen {M : Model} {A : Around} {Q : Flow → Shared → Prop} {E : Value → Shared → Prop} {s : Shared} {env : Env} (h : Q .next s) : wpAny M A (execs [] env) Q E s := by
  w_top off
  k_with_none
  walk1
  exact h
def gSt : Stmt := PySem.Challenge.pw_qh0063_01.main.body.getD 27 (.Pass default)
def gBody : List Stmt := match gSt with | .FunctionDef _ _ b _ _ _ _ _ _ _ => b | _ => []
def gScope : Scope := match gSt with | .FunctionDef _ _ _ _ _ _ sc _ _ _ => sc | _ => default
abbrev gEnv (C : Addr) : Env := envOf (Str.ofString "_grouping_intervals") gScope C 153 (.ref 152)

def LI (o : Obj) : Prop := o.cls = .type "list_iterator" ∧ ∃ vs, o.data = .fields vs
def GFx (g : Heap) (C : Addr) (h h' : Heap) : Prop := g.StaysIn h' ∧ ∀ b o, b ≠ C → ¬ LI o → h.get? b = some o → h'.get? b = some o
def GY (g : Heap) (C lst : Addr) (olst : Obj) (val : Nat → Int) : Protocol := fun n s₀ v s' kap =>
  ∃ t h' tk' oC I oI, v = .int (val n) t ∧ s' = { s₀ with heap := h', toks := tk' } ∧ GFx g C s₀.heap h' ∧ h'.get? C = some oC ∧ h'.get? I = some oI ∧ LI oI ∧ g.get? I = none ∧
    (0 < n → ∀ s'' : Shared, g.StaysIn s''.heap → s''.heap.get? C = some oC → s''.heap.get? I = some oI → s''.heap.get? lst = some olst → kap (.send .none) s'')

structure GH (g : Heap) (C lst : Addr) (olst : Obj) (I : Addr) (i : Nat) (m : Str → Option Value) (h : Heap) : Prop where
  st : g.StaysIn h
  ns : h.Ns C m
  ls : h.get? lst = some olst
  it : h.IsListIter I lst i
  gI : g.get? I = none
  gC : g.get? C = none

theorem ns_obj {h h' : Heap} {C : Addr} {m : Str → Option Value} (x : h.Ns C m) {o : Obj} (e : h.get? C = some o) (e' : h'.get? C = some o) : h'.Ns C m := by
  obtain ⟨o1, es, ep, h1, r⟩ := x
  rw [e] at h1
  cases h1
  exact ⟨o, es, ep, e', r⟩

section
variable {g h h' : Heap} {C lst I : Addr} {olst : Obj} {i : Nat} {m m' : Str → Option Value}
theorem GH.CI (x : GH g C lst olst I i m h) : C ≠ I := fun e => by
  obtain ⟨o1, es, ep, h1, hd, _⟩ := x.ns
  obtain ⟨o2, h2, _, hd2⟩ := x.it
  rw [e, h2] at h1
  cases h1
  rw [hd] at hd2
  cases hd2
theorem GH.lC (x : GH g C lst olst I i m h) {vs : Array Value} {n : Nat} (ho : olst.data = .seq vs n) : lst ≠ C := fun e => by
  obtain ⟨o1, es, ep, h1, hd, _⟩ := x.ns
  have := x.ls
  rw [e, h1] at this
  cases this
  rw [hd] at ho
  cases ho
theorem GH.lI (x : GH g C lst olst I i m h) {vs : Array Value} {n : Nat} (ho : olst.data = .seq vs n) : lst ≠ I := fun e => by
  obtain ⟨o2, h2, _, hd2⟩ := x.it
  have := x.ls
  rw [e, h2] at this
  cases this
  rw [ho] at hd2
  cases hd2
theorem GH.store (x : GH g C lst olst I i m h) {vs : Array Value} {n : Nat} (ho : olst.data = .seq vs n) (hn : h'.Ns C m') (hs : Heap.SameBut C h h') : GH g C lst olst I i m' h' where
  st := fun b o e => (hs.2 b (fun q => by rw [q, x.gC] at e; cases e)).trans (x.st b o e)
  ns := hn
  ls := (hs.2 lst (x.lC ho)).trans x.ls
  it := let ⟨o, h1, r⟩ := x.it; ⟨o, (hs.2 I (Ne.symm x.CI)).trans h1, r⟩
  gI := x.gI
  gC := x.gC
theorem GH.next (x : GH g C lst olst I i m h) {vs : Array Value} {n : Nat} (ho : olst.data = .seq vs n) (hn : h'.IsListIter I lst (i + 1)) (hs : Heap.SameBut I h h') : GH g C lst olst I (i + 1) m h' where
  st := fun b o e => (hs.2 b (fun q => by rw [q, x.gI] at e; cases e)).trans (x.st b o e)
  ns := let ⟨o, es, ep, h1, r⟩ := x.ns; ⟨o, es, ep, (hs.2 C x.CI).trans h1, r⟩
  ls := (hs.2 lst (x.lI ho)).trans x.ls
  it := hn
  gI := x.gI
  gC := x.gC
theorem GFx.refl (st : g.StaysIn h) : GFx g C h h := ⟨st, fun _ _ _ _ e => e⟩
theorem GFx.store {h₀ : Heap} (x : GFx g C h₀ h) (y : GH g C lst olst I i m' h') (hs : Heap.SameBut C h h') : GFx g C h₀ h' :=
  ⟨y.st, fun b o hb hc e => (hs.2 b hb).trans (x.2 b o hb hc e)⟩
theorem GFx.next {h₀ : Heap} (x : GFx g C h₀ h) (z : GH g C lst olst I i m h) (y : GH g C lst olst I (i + 1) m h') (hs : Heap.SameBut I h h') : GFx g C h₀ h' :=
  ⟨y.st, fun b o hb hc e => by
    have e1 := x.2 b o hb hc e
    refine (hs.2 b (fun q => ?_)).trans e1
    obtain ⟨o2, h2, hc2, hd2⟩ := z.it
    rw [q, h2] at e1
    cases e1
    exact hc ⟨hc2, _, hd2⟩⟩
end

section
variable {prog : Program} {w : World} {A : Around} {fs : List Frame} {g : Heap} {C lst : Addr} {olst : Obj} {val : Nat → Int} {fst stp : Int} {kf ks kz kc : Tok} {ne : Nat} {mg : Str → Option Value}

/-- the yield of a local name -/
theorem g_yield {n : Nat} {s₀ : Shared} {h : Heap} {tk : Nat} {m : Str → Option Value} {I : Addr} {i : Nat} {c : Code} {K : Flow → Sem PySem.Fin} {H : Value → Sem PySem.Fin} {x : Str} {px yp ep : Pos} {z : Int} {tz : Tok}
    (hx : (gEnv C).kindOf x = some .local) (hb : (x == ("__debug__" : Str)) = false)
    (X : GH g C lst olst I i m h) (Fx : GFx g C s₀.heap h) (hm : m x = some (.int z tz)) (hv : val n = z) (hfs : splitAtGen fs = none) (hfg : fs.any Frame.guarded = false)
    (kt : 0 < n → ∀ s'' : Shared, GH g C lst olst I i m s''.heap → Seg (model prog w) A (fun _ _ _ _ => False) (GY g C lst olst val) n s'' c (K .next) fs s'') :
    Seg (model prog w) A (fun _ _ _ _ => False) (GY g C lst olst val) (n + 1) s₀ c ((exec (.Expr (.Yield (some (.Name x px)) yp) ep) (gEnv C)).wrap K H id id) fs { s₀ with heap := h, toks := tk } := by
  refine seg_Expr_Yield hfs rfl hfg (wpAny_Name (wpAny_loadName_local rfl hx X.ns hm ?_) hb)
  intro kap hk
  obtain ⟨oC, es, ep, hC, rC⟩ := X.ns
  obtain ⟨oI, hI, cI, dI⟩ := X.it
  refine ⟨tz, _, tk, oC, I, oI, by rw [hv], rfl, Fx, hC, hI, ⟨cI, _, dI⟩, X.gI, fun hn s'' hst eC eI el => hk .none s'' ?_⟩
  exact kt hn s'' ⟨hst, ⟨oC, es, ep, eC, rC⟩, el, ⟨oI, eI, cI, dI⟩, X.gI, X.gC⟩

theorem gW {ks : Tok} {k1 : Nat} {p1 p2 p3 p4 : Pos} (hfs : splitAtGen fs = none) (hfg : fs.any Frame.guarded = false) : ∀ (n : Nat), (∀ k < n, val k = stp) → ∀ (s₀ : Shared) (h : Heap) (tk : Nat) (m : Str → Option Value) (I : Addr) (i : Nat),
    GH g C lst olst I i m h → GFx g C s₀.heap h → m (Str.ofString "last_interval") = some (.int stp ks) → 0 < n →
    Seg (model prog w) A (fun _ _ _ _ => False) (GY g C lst olst val) n s₀ (.whileLoop (.Constant (.bool true) k1 p1) [.Expr (.Yield (some (.Name (Str.ofString "last_interval") p2)) p3) p4] [] (gEnv C))
      ((model prog w).den (.whileLoop (.Constant (.bool true) k1 p1) [.Expr (.Yield (some (.Name (Str.ofString "last_interval") p2)) p3) p4] [] (gEnv C))) fs { s₀ with heap := h, toks := tk }
  | 0, _, _, _, _, _, _, _, _, _, _, h0 => absurd h0 (Nat.lt_irrefl _)
  | n + 1, hv, s₀, h, tk, m, I, i, X, Fx, hm, _ => by
    refine seg_whileLoop (wpAny_isTrue_value (wpAny_Constant_bool (wpAny_truthy_bool ?_)))
    rw [if_pos rfl]
    refine seg_execs_cons ?_
    refine g_yield (by rfl) (by decide) X Fx hm (hv n (Nat.lt_succ_self n)) hfs hfg fun hn s'' X'' => ?_
    refine seg_execs_nil ?_
    refine seg_again rfl ?_
    exact gW hfs hfg n (fun k hk => hv k (Nat.lt_succ_of_lt hk)) s'' s''.heap s''.toks m I i X'' (GFx.refl X''.st) hm hn
end

def gFor : Stmt := gBody.getD 1 (.Pass default)
def gTgt : Expr := match gFor with | .For t _ _ _ _ => t | _ => .Constant .none 0 default
def gLoop : List Stmt := match gFor with | .For _ _ b _ _ => b | _ => []

section
variable {prog : Program} {w : World} {A : Around} {fs : List Frame} {g : Heap} {C lst : Addr} {val : Nat → Int} {fst stp : Int} {kf ks kz kc : Tok} {ne : Nat} {mg : Str → Option Value}

/-- interval == CHAR_MAX, interval == 0 -/
theorem split_ret {k h g l c p kp} (hfs : splitAtGen fs = none) : splitAtGen (Frame.ret k h g l c p kp :: fs) = none := by
  show (splitAtGen fs).map _ = none
  rw [hfs]; rfl
theorem guard_ret {k h l c p kp} (hfg : fs.any Frame.guarded = false) : (Frame.ret k h false l c p kp :: fs).any Frame.guarded = false := by
  show (false || fs.any Frame.guarded) = false
  rw [hfg]; rfl
theorem g_eqMax {AA : Around} {s : Shared} {m : Str → Option Value} {z : Int} {tz : Tok} {p1 p2 p3 : Pos} {wh : Sem Value} {Q : Bool → Shared → Prop}
    (hg : s.heap.Ns mainGlobals mg) (hc : mg (Str.ofString "CHAR_MAX") = some (.int 127 kc)) (hns : s.heap.Ns C m) (hm : m (Str.ofString "interval") = some (.int z tz)) (h : Q (decide (z = 127)) s) :
    wpAny (model prog w) AA (isTrue (.Compare (.Name (Str.ofString "interval") p1) [.Eq] [.Name (Str.ofString "CHAR_MAX") p2] p3) (gEnv C) wh) Q (fun _ _ => False) s := by
  refine wpAny_isTrue_Compare1 (wpAny_Name (wpAny_loadName_local rfl (by rfl) hns hm (Name_function_global rfl (by rfl) (loadGlobal_global (env := gEnv C) hg hc (wpAny_eq_int (wpAny_truthy_bool ?_))))))
  have e : (z == 127) = decide (z = 127) := by by_cases q : z = 127 <;> simp [q]
  first | exact h | (rw [e]; exact h)
theorem g_eqZero {AA : Around} {s : Shared} {m : Str → Option Value} {z : Int} {tz : Tok} {k : Nat} {p1 p2 p3 : Pos} {wh : Sem Value} {Q : Bool → Shared → Prop}
    (hns : s.heap.Ns C m) (hm : m (Str.ofString "interval") = some (.int z tz)) (h : Q (decide (z = 0)) { s with toks := s.toks + 1 }) :
    wpAny (model prog w) AA (isTrue (.Compare (.Name (Str.ofString "interval") p1) [.Eq] [.Constant (.int 0) k p2] p3) (gEnv C) wh) Q (fun _ _ => False) s := by
  refine wpAny_isTrue_Compare1 (wpAny_Name (wpAny_loadName_local rfl (by rfl) hns hm (wpAny_Constant_int (wpAny_eq_int (wpAny_truthy_bool ?_)))))
  have e : (z == 0) = decide (z = 0) := by by_cases q : z = 0 <;> simp [q]
  first | exact h | (rw [e]; exact h)
theorem g_isNone {AA : Around} {s : Shared} {m : Str → Option Value} {z : Int} {tz : Tok} {k : Nat} {p1 p2 p3 : Pos} {wh : Sem Value} {Q : Bool → Shared → Prop}
    (hns : s.heap.Ns C m) (hm : m (Str.ofString "last_interval") = some (.int z tz)) (h : Q false s) :
    wpAny (model prog w) AA (isTrue (.Compare (.Name (Str.ofString "last_interval") p1) [.Is] [.Constant .none k p2] p3) (gEnv C) wh) Q (fun _ _ => False) s :=
  wpAny_isTrue_Compare1 (wpAny_Name (wpAny_loadName_local rfl (by rfl) hns hm (wpAny_Constant_none (is_int_none (wpAny_truthy_bool h)))))

abbrev gLst (fst stp : Int) (kf ks kz : Tok) (ne : Nat) : Obj := listOf [Value.int fst kf, .int stp ks, .int 0 kz].toArray ne

/-- the head of the loop, at its third turn: from here the while yields the step for good -/
theorem gL2 (hg : g.Ns mainGlobals mg) (hc : mg (Str.ofString "CHAR_MAX") = some (.int 127 kc)) (hfs : splitAtGen fs = none) (hfg : fs.any Frame.guarded = false)
    (n : Nat) (hv : ∀ k < n, val k = stp) (h0 : 0 < n) (s₀ : Shared) (h : Heap) (tk : Nat) (m : Str → Option Value) (I : Addr)
    (X : GH g C lst (gLst fst stp kf ks kz ne) I 2 m h) (Fx : GFx g C s₀.heap h) (hm : m (Str.ofString "last_interval") = some (.int stp ks)) :
    Seg (model prog w) A (fun _ _ _ _ => False) (GY g C lst (gLst fst stp kf ks kz ne) val) n s₀ (.forLoop gTgt (.ref I) gLoop [] (gEnv C)) ((model prog w).den (.forLoop gTgt (.ref I) gLoop [] (gEnv C))) fs { s₀ with heap := h, toks := tk } := by
  refine seg_forLoop (wpAny_pyNext_list_item X.it ⟨_, X.ls, rfl, _, rfl⟩ (x := .int 0 kz) rfl (fun h1 hi1 hs1 => ⟨_, rfl, ?_⟩))
  have X1 := X.next rfl hi1 hs1
  have F1 := Fx.next X X1 hs1
  refine wpAny_assign_Name (wpAny_storeName_local (by rfl) X1.ns (fun h2 hn2 hs2 => ?_))
  have X2 := X1.store rfl hn2 hs2
  have F2 := F1.store X2 hs2
  intro K' H' hK'
  refine seg_execs_cons (seg_If (g_eqMax (hg.keeps X2.st) hc X2.ns rfl ?_))
  rw [if_neg (by decide)]
  refine seg_execs_nil (seg_execs_cons (seg_If (g_eqZero X2.ns rfl ?_)))
  rw [if_pos (by decide)]
  refine seg_execs_cons (seg_If (g_isNone X2.ns hm ?_))
  rw [if_neg (by decide)]
  refine seg_execs_nil (seg_execs_cons (seg_While fun p => ?_))
  exact gW (split_ret hfs) (guard_ret hfg) n hv s₀ _ _ _ I _ X2 F2 hm h0

/-- the head of the loop, at its second turn: the step is yielded -/
theorem gL1 (hg : g.Ns mainGlobals mg) (hc : mg (Str.ofString "CHAR_MAX") = some (.int 127 kc)) (h127 : stp ≠ 127) (h00 : stp ≠ 0) (hfs : splitAtGen fs = none) (hfg : fs.any Frame.guarded = false)
    (n : Nat) (hv : ∀ k < n + 1, val k = stp) (s₀ : Shared) (h : Heap) (tk : Nat) (m : Str → Option Value) (I : Addr)
    (X : GH g C lst (gLst fst stp kf ks kz ne) I 1 m h) (Fx : GFx g C s₀.heap h) :
    Seg (model prog w) A (fun _ _ _ _ => False) (GY g C lst (gLst fst stp kf ks kz ne) val) (n + 1) s₀ (.forLoop gTgt (.ref I) gLoop [] (gEnv C)) ((model prog w).den (.forLoop gTgt (.ref I) gLoop [] (gEnv C))) fs { s₀ with heap := h, toks := tk } := by
  refine seg_forLoop (wpAny_pyNext_list_item X.it ⟨_, X.ls, rfl, _, rfl⟩ (x := .int stp ks) rfl (fun h1 hi1 hs1 => ⟨_, rfl, ?_⟩))
  have X1 := X.next rfl hi1 hs1
  have F1 := Fx.next X X1 hs1
  refine wpAny_assign_Name (wpAny_storeName_local (by rfl) X1.ns (fun h2 hn2 hs2 => ?_))
  have X2 := X1.store rfl hn2 hs2
  have F2 := F1.store X2 hs2
  intro K' H' hK'
  refine seg_execs_cons (seg_If (g_eqMax (hg.keeps X2.st) hc X2.ns rfl ?_))
  rw [if_neg (by simpa using h127)]
  refine seg_execs_nil (seg_execs_cons (seg_If (g_eqZero X2.ns rfl ?_)))
  rw [if_neg (by simpa using h00)]
  refine seg_execs_nil (seg_execs_cons ?_)
  refine g_yield (by rfl) (by decide) X2 F2 rfl (hv n (Nat.lt_succ_self n)) hfs hfg fun hn s'' X'' => ?_
  refine seg_execs_cons (seg_stmt (wpAny_Assign_Name (wpAny_Name (wpAny_loadName_local rfl (by rfl) X''.ns rfl (wpAny_storeName_local (by rfl) X''.ns (fun h3 hn3 hs3 => ?_))))))
  have X3 := X''.store rfl hn3 hs3
  have F3 := (GFx.refl (C := C) X''.st).store X3 hs3
  refine seg_execs_nil ?_
  rw [hK']
  refine seg_again rfl ?_
  exact gL2 hg hc hfs hfg n (fun k hk => hv k (Nat.lt_succ_of_lt hk)) hn s'' h3 _ _ I X3 F3 rfl

/-- the generator from its start -/
theorem gL0 (hg : g.Ns mainGlobals mg) (hc : mg (Str.ofString "CHAR_MAX") = some (.int 127 kc)) (f127 : fst ≠ 127) (f00 : fst ≠ 0) (h127 : stp ≠ 127) (h00 : stp ≠ 0)
    (n : Nat) (hf : val n = fst) (hv : ∀ k < n, val k = stp) (s : Shared) (m : Str → Option Value)
    (st : g.StaysIn s.heap) (ns : s.heap.Ns C m) (hm : m (Str.ofString "grouping") = some (.ref lst)) (ls : s.heap.get? lst = some (gLst fst stp kf ks kz ne)) (gC : g.get? C = none) :
    Seg (model prog w) A (fun _ _ _ _ => False) (GY g C lst (gLst fst stp kf ks kz ne) val) (n + 1) s (.func gBody (gEnv C)) ((model prog w).den (.func gBody (gEnv C))) [] s := by
  have lC : lst ≠ C := fun e => by
    obtain ⟨o1, es, ep, h1, hd, _⟩ := ns
    rw [e, h1] at ls
    cases ls
    cases hd
  refine seg_func (seg_execs_cons (seg_stmt (wpAny_Assign_Name (wpAny_Constant_none (wpAny_storeName_local (by rfl) ns (fun h1 hn1 hs1 => ?_))))))
  have hs1 : Heap.SameBut C s.heap h1 := hs1
  have st1 : g.StaysIn h1 := fun b o e => (hs1.2 b (fun q => by rw [q, gC] at e; cases e)).trans (st b o e)
  have ls1 := (hs1.2 lst lC).trans ls
  refine seg_execs_cons (seg_For (wpAny_Name (wpAny_loadName_local rfl (by rfl) hn1 hm (wpAny_pyIter_list ⟨_, ls1, rfl, _, rfl⟩ ?_))))
  intro p kont hkont
  have gI : g.get? h1.objs.size = none := by
    cases e : g.get? h1.objs.size with
    | none => rfl
    | some o => exact absurd (Heap.lt_size (st1 _ _ e)) (Nat.lt_irrefl _)
  have X0 : GH g C lst (gLst fst stp kf ks kz ne) h1.objs.size 0 _ (h1.push { cls := .type "list_iterator", data := .fields #[.ref lst, .int 0 0] }) :=
    ⟨fun b o e => Heap.get?_push_of_some _ (st1 b o e), hn1.push _, Heap.get?_push_of_some _ ls1, ⟨_, Heap.get?_push_size _ rfl, rfl, rfl⟩, gI, gC⟩
  have F0 : GFx g C s.heap (h1.push { cls := .type "list_iterator", data := .fields #[.ref lst, .int 0 0] }) :=
    ⟨X0.st, fun b o hb _ e => Heap.get?_push_of_some _ ((hs1.2 b hb).trans e)⟩
  refine seg_forLoop (wpAny_pyNext_list_item X0.it ⟨_, X0.ls, rfl, _, rfl⟩ (x := .int fst kf) rfl (fun h2 hi2 hs2 => ⟨_, rfl, ?_⟩))
  have X1 := X0.next rfl hi2 hs2
  have F1 := F0.next X0 X1 hs2
  refine wpAny_assign_Name (wpAny_storeName_local (by rfl) X1.ns (fun h3 hn3 hs3 => ?_))
  have X2 := X1.store rfl hn3 hs3
  have F2 := F1.store X2 hs3
  intro K' H' hK'
  refine seg_execs_cons (seg_If (g_eqMax (hg.keeps X2.st) hc X2.ns rfl ?_))
  rw [if_neg (by simpa using f127)]
  refine seg_execs_nil (seg_execs_cons (seg_If (g_eqZero X2.ns rfl ?_)))
  rw [if_neg (by simpa using f00)]
  refine seg_execs_nil (seg_execs_cons ?_)
  refine g_yield (by rfl) (by decide) X2 F2 rfl hf (split_ret rfl) (guard_ret rfl) fun hn s'' X'' => ?_
  refine seg_execs_cons (seg_stmt (wpAny_Assign_Name (wpAny_Name (wpAny_loadName_local rfl (by rfl) X''.ns rfl (wpAny_storeName_local (by rfl) X''.ns (fun h4 hn4 hs4 => ?_))))))
  have X3 := X''.store rfl hn4 hs4
  have F3 := (GFx.refl (C := C) X''.st).store X3 hs4
  refine seg_execs_nil ?_
  rw [hK']
  refine seg_again rfl ?_
  obtain ⟨n', rfl⟩ : ∃ n', n = n' + 1 := ⟨n - 1, by omega⟩
  exact gL1 hg hc h127 h00 (split_ret rfl) (guard_ret rfl) n' hv s'' h4 _ _ _ X3 F3
end
end Mine
end
section
open PySem PySem.W PySem.Spec PySem.Calls PyProof.Rows
set_option maxRecDepth 100000
set_option maxHeartbeats 8000000
namespace Mine
theorem rsMMarks {M : Model} {A : Around} {Q : Flow → Shared → Prop} {E : Value → Shared → Prop} {s : Shared} {env : Env} (h : Q .next s) : wpAny M A (execs [] env) Q E s := by
  w_top off
  k_with_none
  walk1
  exact h
theorem fill2 : (PySem.Challenge.rw_qh0063_01, hd.heap_39) = (PySem.Challenge.rw_qh0063_01, hd.heap_39) := by k_fill; rfl

section
variable {prog : Program} {w : World} {A : Around} {E : Value → Shared → Prop} {s : Shared} {K : Frag} {g : Heap} {p : Program} {loose : List Str} {mean : ExcName → Option Value} {mg mb : Str → Option Value} {L : Addr} {m : Str → Option Value} {news : List (Addr × Obj)}

theorem callGen (nm : Str) {v : Value} {Q : Value → Shared → Prop} {name qual : Str} {params : Arguments} {body : List Stmt} {scope : Scope} {dV kV doc pm cdv ct oc : Value} {an od : Option Addr} {osl : Array (Option Value)} {f : Addr}
    (X : K.In g) (T : Top p loose mean mg mb g) (F : Fr g L s.heap m) (N : News g L s.heap news)
    (ho : K.lookup f = some ⟨oc, od, .func (fnOf name qual params body scope dV kV doc pm an cdv ct), osl⟩) (hcd : codeIn K cdv qual = true) (hroom : A.depth < recursionLimit)
    (hbind : BindsTo s (fnOf name qual params body scope dV kV doc pm an cdv ct) ⟨[v], []⟩ [(nm, v)]) (hloc : ∀ y ∈ [(nm, v)], scope.names.lookup y.1 = some .local)
    (h : ∀ C ga oC go h₁ tk, Fr g L h₁ m → News g L h₁ ((ga, go) :: (C, oC) :: news) → h₁.Ns C (fun x => [(nm, v)].reverse.lookup x) → (∀ q ∈ news, q.1 < C) → C < ga → go.cls = .type "generator" → h₁.IsGen ga s.gens.size →
      Q (.ref ga) { s with heap := h₁, toks := tk, gens := s.gens.push (.fresh (.func body (envOf qual scope C f cdv))) })
    (hcell : ∀ x ∈ scope.names, x.2 ≠ .cell) (hco : scope.isCoroutine = false) (hgen : scope.isGenerator = true) (hk : scope.kind = .function) :
    wpAny (model prog w) A (call (.ref f) [v]) Q E s := by
  have Xs : K.In s.heap := X.keeps F.keep
  have hl : s.heap.NoLimit := T.nolimit.keeps F.keep
  refine wpAny_call (codeAny_call_generator (fd := fnOf name qual params body scope dV kV doc pm an cdv ct) (body := body) hroom (Xs _ _ ho) rfl hco hgen rfl (codeRec_of Xs hcd) (hbind _ _ _ _ ?_))
  refine wpAny_newFunctionEnv hcell hloc (fun h' hns hsb => ⟨hl.fresh _ hsb, ?_⟩) hk
  obtain ⟨oC, es, ep, hC, rC⟩ := id hns
  have kp : ∀ b o, s.heap.get? b = some o → h'.get? b = some o := fun b o e => hsb.extBut b o (Nat.ne_of_lt (Heap.lt_size e)) (Heap.get?_push_of_some _ e)
  have F1 : Fr g L h' m := let ⟨oL, a1, a2, hL, a3⟩ := F.ns; ⟨⟨oL, a1, a2, kp _ _ hL, a3⟩, fun b o e => kp b o (F.keep b o e), F.above⟩
  have lL : L < s.heap.objs.size := let ⟨oL, a1, a2, hL, a3⟩ := F.ns; Heap.lt_size hL
  have gC : g.get? s.heap.objs.size = none := by
    cases e : g.get? s.heap.objs.size with
    | none => rfl
    | some o => exact absurd (Heap.lt_size (F.keep _ _ e)) (Nat.lt_irrefl _)
  have N1 : News g L h' ((s.heap.objs.size, oC) :: news) := fun q hq => by
    rcases List.mem_cons.mp hq with rfl | hq
    · exact ⟨hC, Nat.ne_of_gt lL, gC⟩
    · exact ⟨kp _ _ (N q hq).1, (N q hq).2⟩
  exact h s.heap.objs.size h'.objs.size oC _ _ _ (F1.push _) (N1.push F1 _ rfl) (hns.push _) (fun q hq => Heap.lt_size (N q hq).1) (Heap.lt_size hC) rfl ⟨_, _, _, Heap.get?_push_size _ rfl, rfl, rfl, rfl⟩

theorem g_next {a : Addr} {gi n : Nat} {gs : GenState} {Y : Protocol} {Q : Option Value → Shared → Prop} (hl : s.heap.NoLimit) (hroom : A.depth < recursionLimit)
    (hg : s.heap.IsGen a gi) (hgs : s.gens[gi]? = some gs)
    (hgo : gs.Goes (model prog w) A.in1 (fun _ _ _ _ => False) Y n (.send .none) (s.setGen gi .running))
    (hY : ∀ v s₁ gs', gs'.bare = true → Y (n - 1) (s.setGen gi .running) v s₁ (fun r' s'' => match n with
        | 0 => False
        | m + 1 => gs'.Goes (model prog w) A.in1 (fun _ _ _ _ => False) Y m r' s'') → Q (some v) (s₁.setGen gi gs')) :
    wpAny (model prog w) A (pyNext (.ref a)) Q E s := by
  unfold pyNext
  refine wpAny_bind (wpAny_attempt (wpAny_callSpecial?_slot (name := Str.ofString "__next__") hg.typeIs slot_gen_next
    (wpAny_call_entry slot_gen_next hg.typeIs entry_gen_next ?_ (args_gen_next _))))
  show wpAny _ _ (Builtin.Generator.genWake (.ref a) (.send .none)) _ _ s
  unfold Builtin.Generator.genWake
  refine wpAny_bind (wpAny_holding (wpAny_genNumber hg (wpAny_bind (wpAny_genState hgs ?_))))
  cases gs with
  | running => exact hgo.elim
  | finished => exact hgo.elim
  | _ =>
    refine wpAny_bind (wpAny_roomToWake hl hroom ?_)
    show wpAny _ _ (.resume gi (.send .none) [] _) _ _ s
    refine wpAny_resumeQ hgs hgo (fun x s₁ hx => hx.elim) (fun v s₁ gs' hb hv => ?_)
    exact wpAny_pure ⟨v, rfl, wpAny_pure (hY v s₁ gs' hb hv)⟩
end
end Mine
end
section
open PySem PySem.W PySem.Spec PySem.Calls PyProof.Rows
set_option maxRecDepth 100000
set_option maxHeartbeats 8000000
namespace Mine
theorem rsMMarks2 {M : Model} {A : Around} {Q : Flow → Shared → Prop} {E : Value → Shared → Prop} {s : Shared} {env : Env} (h : Q .next s) : wpAny M A (execs [] env) Q E s := by
  w_top off
  k_with_none
  walk1
  exact h
theorem fill3 : (PySem.Challenge.rw_qh0063_01, hd.heap_39) = (PySem.Challenge.rw_qh0063_01, hd.heap_39) := by k_fill; rfl

def mSt : Stmt := PySem.Challenge.pw_qh0063_01.main.body.getD 31 (.Pass default)
def mBody : List Stmt := match mSt with | .FunctionDef _ _ b _ _ _ _ _ _ _ => b | _ => []
def mScope : Scope := match mSt with | .FunctionDef _ _ _ _ _ _ sc _ _ _ => sc | _ => default
def mFor : Stmt := mBody.getD 3 (.Pass default)
def mTgt : Expr := match mFor with | .For t _ _ _ _ => t | _ => .Constant .none 0 default
def mLoop : List Stmt := match mFor with | .For _ _ b _ _ => b | _ => []
abbrev mEnv (L : Addr) : Env := envOf (Str.ofString "_law_marks") mScope L 172 (.ref 171)

def mapOf (l : List (Str × Value)) (u : Str → Option Value) : Str → Option Value := l.foldr (fun p m y => if y = p.1 then some p.2 else m y) u

def mkNs (f st : Int) (j : Nat) : List Int := (List.range j).map (fun (k : Nat) => f + (k : Int) * st)

def MI (prog : Program) (w : World) (A : Around) (s₀ : Shared) (g : Heap) (L mk ga lst C : Addr) (go olst : Obj) (gi N : Nat) (fst st lim : Int) (kl : Tok) (n : Nat) (s : Shared) : Prop :=
  ∃ (j : Nat) (sp : Int) (h : Heap) (tk : Nat) (gs : Array GenState) (gst : GenState) (u : Str → Option Value) (vs : List Value) (ep : Nat) (ksp : Tok) (oC : Obj) (I : Addr) (oI : Obj),
    s = { s₀ with heap := h, toks := tk, gens := gs } ∧
    Fr g L h (fun y => if y = Str.ofString "spot" then some (.int sp ksp) else if y = Str.ofString "marks" then some (.ref mk) else if y = Str.ofString "limit" then some (.int lim kl) else u y) ∧
    News g L h [(mk, listOf vs.toArray ep), (ga, go), (lst, olst), (C, oC), (I, oI)] ∧ IntsAre vs (mkNs fst st j) ∧ j + n = N ∧ (sp = if j = 0 then 0 else fst + ((j : Int) - 1) * st) ∧ sp ≤ lim ∧
    gs[gi]? = some gst ∧ (AllBare s₀.gens → AllBare gs) ∧ mk ≠ I ∧
    (∀ s'' : Shared, g.StaysIn s''.heap → s''.heap.get? C = some oC → s''.heap.get? I = some oI → s''.heap.get? lst = some olst →
      gst.Goes (model prog w) A.in1 (fun _ _ _ _ => False) (GY g C lst olst (fun k => if k + 1 = N then fst else st)) n (.send .none) (s''.setGen gi .running))

theorem kw1 : True := by (k_with "call builtin:list.append" => (k_here; (with_reducible show wpAny _ _ (call (Value.builtin _) [Value.ref _, _]) _ _ _); k_dflt (refine' append_K ?k1z1 ?k2z1 ?k3z1 ?_ ?zz1; (case k1z1 => k_asm); (case k2z1 => k_asm); (case k3z1 => k_upd); (case zz1 => (rw [List.size_toArray, sizeLine_eq]; omega)); k_whole); intro w9h' w9F' w9N')); trivial
theorem marks_turn {prog : Program} {w : World} {p : Program} {loose : List Str} {mean : ExcName → Option Value} {mg mb : Str → Option Value} {dp un : Nat} {gd : Option (List Code)}
    {cn : Str} {cs : Scope} {L0 a : Addr} {ccd : Value} {cl : List (Str × Addr)} {outer : List Env} {base g : Heap} {s : Shared} {Q : Flow → Shared → Prop}
    {L mk : Addr} {vs : List Value} {ep : Nat} {sp lim sz : Int} {ksp kl ksz : Tok} {u : Str → Option Value} {ga lst C I : Addr} {go olst oC oI : Obj}
    (B : Below (ktrTop dp un gd cn cs L0 a ccd cl outer) base (envX cn cs L0 a ccd cl :: outer) g) (X : (hd.heap_39 w.params).In g) (T : Top p loose mean mg mb g) (hr : dp + 3 < recursionLimit) (hu : un + 24 < cLine)
    (F : Fr g L s.heap (fun y => if y = Str.ofString "spot" then some (.int sp ksp) else if y = Str.ofString "marks" then some (.ref mk) else if y = Str.ofString "limit" then some (.int lim kl) else u y))
    (N : News g L s.heap [(mk, listOf vs.toArray ep), (ga, go), (lst, olst), (C, oC), (I, oI)]) (hz : vs.length < 10000) (n1 : @Ne Nat mk ga) (n2 : @Ne Nat mk lst) (n3 : @Ne Nat mk C) (n4 : @Ne Nat mk I) (hb : -20000 ≤ sp ∧ sp ≤ 20000) (hb2 : 0 ≤ sz ∧ sz ≤ 200)
    (h : ∀ h' tk' m' t', Fr g L h' m' → m' (Str.ofString "spot") = some (.int (sp + sz) t') → m' (Str.ofString "marks") = some (.ref mk) → m' (Str.ofString "limit") = some (.int lim kl) →
      News g L h' [(mk, listOf (vs ++ [Value.int (sp + sz) t']).toArray (ep + 1)), (ga, go), (lst, olst), (C, oC), (I, oI)] →
      Q (if lim < sp + sz then .brk else .next) { s with heap := h', toks := tk' }) :
    wpAny (model prog w) ((ktrTop dp un gd cn cs L0 a ccd cl outer).deeper (mEnv L)) (assign mTgt (mEnv L) (.int sz ksz)) (fun _ s₂ => wpAny (model prog w) ((ktrTop dp un gd cn cs L0 a ccd cl outer).deeper (mEnv L)) (execs mLoop (mEnv L)) Q (fun _ _ => False) s₂) (fun _ _ => False) s := by
  unfold mEnv
  conv in mTgt => whnf
  conv in mLoop => whnf
  conv in (occs := *) mScope => all_goals whnf
  refine wpAny_assign_Name ?_
  k_steps
  all_goals (try dsimp only)
  · (rename Fr _ _ _ _ => F9); (rename News _ _ _ _ => N9); (rename lim < sp + sz => hc)
    simp only [List.push_toArray] at N9
    have := h _ tk _ _ F9 rfl rfl rfl N9
    rw [if_pos hc] at this
    exact this
  · (rename Fr _ _ _ _ => F9); (rename News _ _ _ _ => N9); (rename ¬ lim < sp + sz => hc)
    simp only [List.push_toArray] at N9
    have := h _ tk _ _ F9 rfl rfl rfl N9
    rw [if_neg hc] at this
    exact this

theorem map3 {m : Str → Option Value} {x y z : Str} {a b c : Value} (h1 : m x = some a) (h2 : m y = some b) (h3 : m z = some c) :
    m = fun q => if q = x then some a else if q = y then some b else if q = z then some c else m q := by
  funext q
  by_cases e1 : q = x
  · rw [if_pos e1, e1, h1]
  · rw [if_neg e1]
    by_cases e2 : q = y
    · rw [if_pos e2, e2, h2]
    · rw [if_neg e2]
      by_cases e3 : q = z
      · rw [if_pos e3, e3, h3]
      · rw [if_neg e3]
end Mine
end
section
open PySem PySem.W PySem.Spec PySem.Calls PyProof.Rows
set_option maxRecDepth 100000
set_option maxHeartbeats 8000000
namespace Mine
theorem rsMMarks3 {M : Model} {A : Around} {Q : Flow → Shared → Prop} {E : Value → Shared → Prop} {s : Shared} {env : Env} (h : Q .next s) : wpAny M A (execs [] env) Q E s := by
  w_top off
  k_with_none
  walk1
  exact h

theorem tyne {a b : String} (h : a ≠ b) (e : Value.type a = Value.type b) : False := h (by injection e)
theorem bare_set {gs : Array GenState} {i : Nat} {x : GenState} (h : AllBare gs) (hx : x.bare = true) : AllBare (gs.setIfInBounds i x) := fun y hy => by
  rcases Array.mem_or_eq_of_mem_setIfInBounds hy with q | q
  · exact h y q
  · rw [q]; exact hx
theorem get_set {gs : Array GenState} {i : Nat} {x y : GenState} (h : gs[i]? = some x) : (gs.setIfInBounds i y)[i]? = some y := by
  obtain ⟨hi, _⟩ := Array.getElem?_eq_some_iff.mp h
  simp [hi]
theorem mkNs_succ (f st : Int) (j : Nat) : mkNs f st (j + 1) = mkNs f st j ++ [f + (j : Int) * st] := by
  unfold mkNs
  rw [List.range_succ, List.map_append]; rfl
theorem mkNs_len (f st : Int) (j : Nat) : (mkNs f st j).length = j := by unfold mkNs; simp
theorem le_mul_step {j : Nat} {st : Int} (h : 1 ≤ st) : (j : Int) ≤ (j : Int) * st := by
  have := Int.mul_le_mul_of_nonneg_left h (Int.natCast_nonneg j)
  omega
theorem mul_step_mono {k j : Nat} {st : Int} (h : 1 ≤ st) (hk : k ≤ j) : (k : Int) * st ≤ (j : Int) * st :=
  Int.mul_le_mul_of_nonneg_right (by omega) (by omega)

theorem marks_loop {prog : Program} {w : World} {p : Program} {loose : List Str} {mean : ExcName → Option Value} {mg mb : Str → Option Value} {dp un : Nat} {gd : Option (List Code)}
    {cn : Str} {cs : Scope} {L0 a : Addr} {ccd : Value} {cl : List (Str × Addr)} {outer : List Env} {base g : Heap} {s₀ : Shared} {R : Result → Shared → Prop}
    {L mk : Addr} {fst st lim : Int} {kl : Tok} {ga lst C : Addr} {go olst : Obj} {gi : Nat} {vls : Array Value} {nls : Nat}
    (B : Below (ktrTop dp un gd cn cs L0 a ccd cl outer) base (envX cn cs L0 a ccd cl :: outer) g) (X : (hd.heap_39 w.params).In g) (T : Top p loose mean mg mb g) (hr : dp + 3 < recursionLimit) (hu : un + 24 < cLine)
    (h1 : 1 ≤ st) (h2 : st < 127) (hf1 : 1 ≤ fst) (hf2 : fst ≤ st) (h3 : 0 ≤ lim) (h4 : lim < 5000)
    (hgo : go.cls = .type "generator") (hol : olst.data = .seq vls nls) (n1 : @Ne Nat mk ga) (n2 : @Ne Nat mk lst) (n3 : @Ne Nat mk C) (n5 : @Ne Nat ga C) (n6 : @Ne Nat lst C)
    (hR : ∀ h' tk' gs' m' vs ep j, Fr g L h' m' → m' (Str.ofString "marks") = some (.ref mk) → News g L h' [(mk, listOf vs.toArray ep)] → IntsAre vs (mkNs fst st (j + 1)) → lim < fst + (j : Int) * st → (∀ k < j, fst + (k : Int) * st ≤ lim) →
      (AllBare s₀.gens → AllBare gs') → R (.ok .next) { s₀ with heap := h', toks := tk', gens := gs' })
    (n : Nat) (s : Shared) (hI : MI prog w ((ktrTop dp un gd cn cs L0 a ccd cl outer).deeper (mEnv L)) s₀ g L mk ga lst C go olst gi (lim.toNat + 2) fst st lim kl n s)
    (hgen : ∀ h : Heap, h.get? ga = some go → h.IsGen ga gi) :
    codeAny (model prog w) ((ktrTop dp un gd cn cs L0 a ccd cl outer).deeper (mEnv L)) (.forLoop mTgt (.ref ga) mLoop [] (mEnv L)) R s := by
  refine codeAny_forLoop (MI prog w ((ktrTop dp un gd cn cs L0 a ccd cl outer).deeper (mEnv L)) s₀ g L mk ga lst C go olst gi (lim.toNat + 2) fst st lim kl) (fun n s hI => ?_) n hI (by intro _; rfl)
  obtain ⟨j, sp, h, tk, gs, gst, u, vs, ep, ksp, oC, I, oI, rfl, F, N, hv, hjn, hsp, hle, hgs, hbare, hmI, hgoes⟩ := hI
  have hj : (j : Int) ≤ lim := by
    by_cases q : j = 0
    · omega
    · rw [if_neg q] at hsp
      have := le_mul_step (j := j - 1) h1
      have e : ((j - 1 : Nat) : Int) = (j : Int) - 1 := by omega
      rw [e] at this
      omega
  obtain ⟨n', rfl⟩ : ∃ n', n = n' + 1 := ⟨n - 1, by omega⟩
  have hn' : 0 < n' := by omega
  have hvl : vs.length = j := by rw [hv.length, mkNs_len]
  refine g_next (n := n' + 1) (s := { s₀ with heap := h, toks := tk, gens := gs }) (T.nolimit.keeps F.keep) (by ktr_room) (hgen _ (N.get (.tail _ (.head _)))) hgs
    (hgoes _ F.keep (N.get (.tail _ (.tail _ (.tail _ (.head _))))) (N.get (.tail _ (.tail _ (.tail _ (.tail _ (.head _)))))) (N.get (.tail _ (.tail _ (.head _))))) (fun v s₁ gs' hb hy => ?_)
  obtain ⟨t, h', tk', oC', I', oI', rfl, rfl, ⟨hst, hfx⟩, eC, eI, li, gI, hkap⟩ := hy
  have fx : ∀ b o, b ≠ C → ¬ LI o → h.get? b = some o → h'.get? b = some o := hfx
  obtain ⟨oL, es, el, hL, hLd, hLr⟩ := F.ns
  have nLC : L ≠ C := Ne.symm (N (C, oC) (.tail _ (.tail _ (.tail _ (.head _))))).2.1
  have hL' : h'.get? L = some oL := fx L oL nLC (fun ⟨_, vs, q⟩ => by rw [hLd] at q; cases q) hL
  have F' : Fr g L h' _ := ⟨⟨oL, es, el, hL', hLd, hLr⟩, hst, F.above⟩
  have hmk : h'.get? mk = some (listOf vs.toArray ep) := fx mk _ n3 (fun ⟨q, _⟩ => tyne (by decide) q) (N.get (.head _))
  have hga : h'.get? ga = some go := fx ga _ n5 (fun ⟨q, _⟩ => tyne (by decide) (hgo.symm.trans q)) (N.get (.tail _ (.head _)))
  have hls : h'.get? lst = some olst := fx lst _ n6 (fun ⟨_, vs, q⟩ => by rw [hol] at q; cases q) (N.get (.tail _ (.tail _ (.head _))))
  have nIL : I' ≠ L := fun q => by
    rw [q, hL'] at eI
    cases eI
    obtain ⟨_, vs, q2⟩ := li
    rw [hLd] at q2
    cases q2
  have nmI : mk ≠ I' := fun q => by
    rw [← q, hmk] at eI
    cases eI
    exact tyne (by decide) li.1
  have N' : News g L h' [(mk, listOf vs.toArray ep), (ga, go), (lst, olst), (C, oC'), (I', oI')] := by
    have a0 := N (mk, listOf vs.toArray ep) (.head _)
    have a1 := N (ga, go) (.tail _ (.head _))
    have a2 := N (lst, olst) (.tail _ (.tail _ (.head _)))
    have a3 := N (C, oC) (.tail _ (.tail _ (.tail _ (.head _))))
    intro q hq
    simp only [List.mem_cons, List.not_mem_nil, or_false] at hq
    rcases hq with rfl | rfl | rfl | rfl | rfl
    · exact ⟨hmk, a0.2⟩
    · exact ⟨hga, a1.2⟩
    · exact ⟨hls, a2.2⟩
    · exact ⟨eC, a3.2⟩
    · exact ⟨eI, nIL, gI⟩
  refine wpAny_mono (marks_turn (ga := ga) (lst := lst) (C := C) (I := I') (go := go) (olst := olst) (oC := oC') (oI := oI') (vs := vs) (ep := ep) (sp := sp) (lim := lim) (kl := kl) (u := u) (ksp := ksp) B X T hr hu F' N' (by omega) n1 n2 n3 nmI ?b1 ?b2 (fun h'' tk'' m' t' F2 e1 e2 e3 N2 => ?_)) (fun _ s₂ h₂ => wpAny_noRaise h₂) (fun _ _ x => x.elim)
  case b1 =>
    have hsp0 : 0 ≤ sp := by
      by_cases q : j = 0
      · rw [if_pos q] at hsp; omega
      · rw [if_neg q] at hsp
        have := le_mul_step (j := j - 1) h1
        have e : ((j - 1 : Nat) : Int) = (j : Int) - 1 := by omega
        rw [e] at this
        omega
    omega
  case b2 =>
    show 0 ≤ (if n' + 1 - 1 + 1 = lim.toNat + 2 then fst else st) ∧ (if n' + 1 - 1 + 1 = lim.toNat + 2 then fst else st) ≤ 200
    split <;> omega
  have hval : (if n' + 1 - 1 + 1 = lim.toNat + 2 then fst else st) = if j = 0 then fst else st := by
    by_cases q : j = 0
    · rw [if_pos q, if_pos (by omega)]
    · rw [if_neg q, if_neg (by omega)]
  have hsum : sp + (if n' + 1 - 1 + 1 = lim.toNat + 2 then fst else st) = fst + (j : Int) * st := by
    rw [hval]
    by_cases q : j = 0
    · rw [if_pos q] at hsp ⊢
      subst q; simp [hsp]
    · rw [if_neg q] at hsp ⊢
      rw [hsp, Int.sub_mul]
      omega
  have hv2 : IntsAre (vs ++ [Value.int (sp + (if n' + 1 - 1 + 1 = lim.toNat + 2 then fst else st)) t']) (mkNs fst st (j + 1)) := by
    rw [mkNs_succ, hsum]
    exact hv.append (IntsAre.cons _ _ IntsAre.nil)
  have hb2 : AllBare s₀.gens → AllBare ((gs.setIfInBounds gi .running).setIfInBounds gi gs') := fun q => bare_set (bare_set (hbare q) rfl) hb
  by_cases hc : lim < sp + (if n' + 1 - 1 + 1 = lim.toNat + 2 then fst else st)
  · rw [if_pos hc]
    refine hR h'' tk'' _ m' _ (ep + 1) j F2 e2 (fun q hq => N2 q (by simp only [List.mem_cons, List.not_mem_nil, or_false] at hq ⊢; exact .inl hq)) hv2 (by rw [← hsum]; exact hc) (fun k hk => ?_) hb2
    have q : j ≠ 0 := by omega
    rw [if_neg q] at hsp
    have := mul_step_mono (k := k) (j := j - 1) h1 (by omega)
    have e : ((j - 1 : Nat) : Int) = (j : Int) - 1 := by omega
    rw [e] at this
    omega
  · rw [if_neg hc]
    have e1' : m' (Str.ofString "spot") = some (.int (fst + (j : Int) * st) t') := by rw [← hsum]; exact e1
    refine ⟨n', Nat.lt_succ_self n', j + 1, fst + (j : Int) * st, h'', tk'', _, gs', m', _, ep + 1, t', oC', I', oI', rfl, ?_, N2, hv2, by omega, ?_, (by rw [← hsum]; omega), get_set (get_set hgs), hb2, nmI, fun s'' g1 g2 g3 g4 => ?_⟩
    · have := map3 e1' e2 e3
      rw [this] at F2
      exact F2
    · rw [if_neg (by omega)]
      have e : ((j + 1 : Nat) : Int) - 1 = (j : Int) := by omega
      rw [e]
    · exact hkap hn' (s''.setGen gi .running) g1 g2 g3 g4
end Mine
end
section
open PySem PySem.W PySem.Spec PySem.Calls PyProof.Rows
set_option maxRecDepth 100000
set_option maxHeartbeats 8000000
namespace Mine
theorem rsMMarks4 {M : Model} {A : Around} {Q : Flow → Shared → Prop} {E : Value → Shared → Prop} {s : Shared} {env : Env} (h : Q .next s) : wpAny M A (execs [] env) Q E s := by
  w_top off
  k_with_none
  walk1
  exact h
theorem fill4 : (PySem.Challenge.rw_qh0063_01, hd.heap_39) = (PySem.Challenge.rw_qh0063_01, hd.heap_39) := by k_fill; rfl


theorem news_drop3 {g h : Heap} {L : Addr} {x0 x1 x2 x3 : Addr × Obj} {r : List (Addr × Obj)} (N : News g L h (x0 :: x1 :: x2 :: x3 :: r)) : News g L h (x0 :: x1 :: x2 :: r) := fun q hq => N q (by
  simp only [List.mem_cons] at hq ⊢
  rcases hq with q | q | q | q <;> simp [q])
theorem map1 {m : Str → Option Value} {x : Str} {a : Value} (h1 : m x = some a) : m = fun q => if q = x then some a else m q := by
  funext q
  by_cases e1 : q = x
  · rw [if_pos e1, e1, h1]
  · rw [if_neg e1]

theorem marks_fin {prog : Program} {w : World} {p : Program} {loose : List Str} {mean : ExcName → Option Value} {mg mb : Str → Option Value} {dp un : Nat} {gd : Option (List Code)}
    {cn : Str} {cs : Scope} {L0 a : Addr} {ccd : Value} {cl : List (Str × Addr)} {outer : List Env} {base g : Heap} {s : Shared} {R : Result → Shared → Prop} {E : Value → Shared → Prop}
    {L mk : Addr} {fst st lim : Int} {kl ksp kf ks kz : Tok} {ga lst C : Addr} {go oC : Obj} {gi ne : Nat} {m : Str → Option Value}
    (B : Below (ktrTop dp un gd cn cs L0 a ccd cl outer) base (envX cn cs L0 a ccd cl :: outer) g) (X : (hd.heap_39 w.params).In g) (T : Top p loose mean mg mb g) (hr : dp + 3 < recursionLimit) (hu : un + 24 < cLine)
    (h1 : 1 ≤ st) (h2 : st < 127) (hf1 : 1 ≤ fst) (hf2 : fst ≤ st) (h3 : 0 ≤ lim) (h4 : lim < 5000)
    (F : Fr g L s.heap m) (e1 : m (Str.ofString "spot") = some (.int 0 ksp)) (e2 : m (Str.ofString "marks") = some (.ref mk)) (e3 : m (Str.ofString "limit") = some (.int lim kl))
    (N : News g L s.heap [(ga, go), (C, oC), (lst, gLst fst st kf ks kz ne), (mk, listOf [].toArray 0)]) (nsC : s.heap.Ns C (fun x => [(Str.ofString "grouping", Value.ref lst)].reverse.lookup x))
    (hgo : go.cls = .type "generator") (isg : s.heap.IsGen ga gi) (hgs : s.gens[gi]? = some (.fresh (.func gBody (gEnv C))))
    (n1 : @Ne Nat mk ga) (n2 : @Ne Nat mk lst) (n3 : @Ne Nat mk C) (n5 : @Ne Nat ga C) (n6 : @Ne Nat lst C)
    (hR : ∀ h' tk' gs' m' vs ep j, Fr g L h' m' → m' (Str.ofString "marks") = some (.ref mk) → News g L h' [(mk, listOf vs.toArray ep)] → IntsAre vs (mkNs fst st (j + 1)) → lim < fst + (j : Int) * st → (∀ k < j, fst + (k : Int) * st ≤ lim) →
      (AllBare s.gens → AllBare gs') → R (.ok .next) { s with heap := h', toks := tk', gens := gs' }) :
    wpAny (model prog w) ((ktrTop dp un gd cn cs L0 a ccd cl outer).deeper (mEnv L)) (pyIter (.ref ga)) (fun it s₂ => codeAny (model prog w) ((ktrTop dp un gd cn cs L0 a ccd cl outer).deeper (mEnv L)) (.forLoop mTgt it mLoop [] (mEnv L)) R s₂) E s := by
  refine wpAny_pyIter_gen isg ?_
  have hga := N.get (.head _)
  have hC := N.get (.tail _ (.head _))
  have hcm : mg (Str.ofString "CHAR_MAX") = some (.int 127 374) := mg_of X T.g (by k_is)
  refine marks_loop (s₀ := s) (fst := fst) (st := st) (lim := lim) (kl := kl) (C := C) (lst := lst) (go := go) (olst := gLst fst st kf ks kz ne) (gi := gi) (mk := mk) B X T hr hu h1 h2 hf1 hf2 h3 h4 hgo rfl n1 n2 n3 n5 n6 hR (lim.toNat + 2) s ?_ (fun h q => ?_)
  · refine ⟨0, 0, s.heap, s.toks, s.gens, _, m, [], 0, ksp, oC, lst, gLst fst st kf ks kz ne, rfl, ?_, ?_, .nil, by omega, rfl, h3, hgs, fun x => x, n2, fun s'' g1 g2 g3 g4 => ⟨rfl, ?_⟩⟩
    · have := map3 e1 e2 e3
      rw [this] at F
      exact F
    · intro q hq
      simp only [List.mem_cons, List.not_mem_nil, or_false] at hq
      refine N q ?_
      simp only [List.mem_cons, List.not_mem_nil, or_false]
      rcases hq with q | q | q | q | q <;> simp [q]
    · refine gL0 (s := s''.setGen gi .running) (mg := mg) (kc := 374) T.g hcm (by omega) (by omega) (by omega) (by omega) (lim.toNat + 1) (by simp) (fun k hk => if_neg (by omega)) _ g1 (ns_obj nsC hC g2) rfl g4 (N.fresh (.tail _ (.head _)))
  · obtain ⟨o, nm, qn, ho, r⟩ := isg
    rw [hga] at ho
    cases ho
    exact ⟨_, nm, qn, q, r⟩

theorem kw2 : True := by (k_with "exec For Name Call cons nil" => (k_here; k_dflt (refine wpAny_For ?_))); trivial
theorem kw3 : True := by (k_with "call ref" => (k_here; (with_reducible show wpAny _ _ (call (Value.ref 153) _) _ _ _); k_dflt (refine' callGen (Str.ofString "grouping") ?k1z3 ?k2z3 ?k3z3 ?k4z3 ?k5z3 ?k6z3 ?k7z3 ?k8z3 ?k9z3 ?_ ?c1z3 ?c2z3 ?c3z3 ?c4z3; (case k1z3 => k_asm); (case k2z3 => k_asm); (case k3z3 => k_asm); (case k4z3 => k_asm); (case k5z3 => k_is); (case k6z3 => k_is); (case k7z3 => ktr_room); (case k8z3 => exact BindsTo.of_eq rfl); (case k9z3 => exact locs rfl); (case c1z3 => decide); (case c2z3 => exact rfl); (case c3z3 => exact rfl); (case c4z3 => exact rfl); k_whole; intro w9C' w9ga' w9oC' w9go' w9h' w9tk' w9F' w9N' w9nsC' w9l1 w9l2 w9cgo' w9isg'; (try k_lt w9l1); (try k_lt2 w9l2)))); trivial

theorem marks_c {w : World} {r st lim : Int} {k0 k1 k2 : Tok} (h1 : 1 ≤ st) (h2 : st < 127) (h3 : 0 ≤ lim) (h4 : lim < 5000) :
    Ctr w 172 [.int r k0, .int st k1, .int lim k2] [] 3 (fun v out => ∃ (l : Addr) (vs : List Value) (ep j : Nat), v = .ref l ∧ out = [(l, listOf vs.toArray ep)] ∧
      IntsAre vs (mkNs (if r % st = 0 then st else r % st) st (j + 1)) ∧ lim < (if r % st = 0 then st else r % st) + (j : Int) * st ∧ (∀ k < j, (if r % st = 0 then st else r % st) + (k : Int) * st ≤ lim)) := by
  intro prog p loose mean mg mb dp un gd cn cs L a ccd cl outer base g s Q E B X T hst hsz N hk hr hu hret
  refine wpAny_noRaise ?_
  refine wpAny_call ?_
  k_dflt (refine' enterC (binds := [(Str.ofString "rest", .int r k0), (Str.ofString "step", .int st k1), (Str.ofString "limit", .int lim k2)]) ?k1 ?k2 ?k3 ?k4 ?k5 ?k6 ?k7 ?k8 ?k9 ?kB ?_ ?c1 ?c2 ?c3 ?c4; (case k1 => k_asm); (case k2 => k_asm); (case k3 => k_asm); (case k4 => k_asm); (case k5 => k_asm); (case k6 => k_is); (case k7 => k_is); (case k8 => ktr_room); (case k9 => exact BindsTo.of_eq rfl); (case kB => exact locs rfl); (case c1 => decide); (case c2 => exact rfl); (case c3 => exact rfl); (case c4 => exact rfl); k_whole; intro L' h' F' N' l'; (try dsimp only); (try k_lt l'); (try k_fold))
  k_steps
  · (rename Fr _ _ _ _ => F9); (rename News _ _ _ _ => N9); (rename Int.fmod r st = 0 => hc)
    have hc' : r % st = 0 := by rw [← Int.fmod_eq_emod_of_nonneg r (by omega)]; exact hc
    rw [if_pos hc'] at hret
    refine marks_fin (fst := st) (st := st) (lim := lim) B X T hr (by omega) h1 h2 h1 (Int.le_refl _) h3 h4 F9 rfl rfl rfl (news_drop3 N9) (by assumption) (by assumption) (by assumption) (by exact Array.getElem?_push_size) (by omega) (by omega) (by omega) (by omega) (by omega) (fun h' tk' gs' m' vs ep j F2 e2 N2 hv hl hk hb => ?_)
    dsimp only
    rw [map1 e2] at F2
    clear F9 N9
    k_steps
    refine hret _ _ _ _ _ F2.keep (led_of N2) ⟨_, vs, ep, j, rfl, rfl, hv, hl, hk⟩ (fun q => hb (q.push rfl))
  · (rename Fr _ _ _ _ => F9); (rename News _ _ _ _ => N9); (rename ¬ Int.fmod r st = 0 => hc)
    have he : r.fmod st = r % st := Int.fmod_eq_emod_of_nonneg r (by omega)
    rw [he] at hc
    rw [if_neg hc] at hret
    have b1 := Int.emod_nonneg r (show st ≠ 0 by omega)
    have b2 := Int.emod_lt_of_pos r (show 0 < st by omega)
    simp only [he] at F9 N9
    refine marks_fin (fst := r % st) (st := st) (lim := lim) B X T hr (by omega) h1 h2 (by omega) (by omega) h3 h4 F9 rfl rfl rfl (news_drop3 N9) (by assumption) (by assumption) (by assumption) (by exact Array.getElem?_push_size) (by omega) (by omega) (by omega) (by omega) (by omega) (fun h' tk' gs' m' vs ep j F2 e2 N2 hv hl hk hb => ?_)
    dsimp only
    rw [map1 e2] at F2
    clear F9 N9
    k_steps
    refine hret _ _ _ _ _ F2.keep (led_of N2) ⟨_, vs, ep, j, rfl, rfl, hv, hl, hk⟩ (fun q => hb (q.push rfl))
end Mine
end
section
open PySem PySem.W PySem.Spec PySem.Calls PyProof.Rows
set_option maxRecDepth 100000
set_option maxHeartbeats 8000000
namespace Mine
theorem rsMMet1 {M : Model} {A : Around} {Q : Flow → Shared → Prop} {E : Value → Shared → Prop} {s : Shared} {env : Env} (h : Q .next s) : wpAny M A (execs [] env) Q E s := by
  w_top off
  k_with_none
  walk1
  exact h
theorem fill5 : (PySem.Challenge.rw_qh0063_01, hd.heap_39) = (PySem.Challenge.rw_qh0063_01, hd.heap_39) := by k_fill; rfl
def tSt : Stmt := PySem.Challenge.pw_qh0063_01.main.body.getD 32 (.Pass default)
def tBody : List Stmt := match tSt with | .FunctionDef _ _ b _ _ _ _ _ _ _ => b | _ => []
def tScope : Scope := match tSt with | .FunctionDef _ _ _ _ _ _ sc _ _ _ => sc | _ => default
def tRest : List Stmt := match tBody with | _ :: _ :: _ :: r => r | _ => []
def tHeap : List Stmt := match tBody with | _ :: _ :: _ :: _ :: r => r | _ => []
def tTail : List Stmt := match tBody with | _ :: _ :: _ :: _ :: _ :: _ :: _ :: r => r | _ => []
def tWhl : Stmt := tTail.getD 0 (.Pass default)
def tTest : Expr := match tWhl with | .While t _ _ _ => t | _ => .Constant .none 0 default
def tLoop : List Stmt := match tWhl with | .While _ b _ _ => b | _ => []
abbrev tEnv (L : Addr) : Env := envOf (Str.ofString "_law_met") tScope L 179 (.ref 178)

theorem mkNs_at {f st : Int} {n k : Nat} (h : k < n) : (mkNs f st n)[k]? = some (f + (k : Int) * st) := by
  unfold mkNs
  rw [List.getElem?_map, List.getElem?_range h]
  rfl
theorem ints_get : ∀ {vs : List Value} {ns : List Int}, IntsAre vs ns → ∀ {i : Nat} {x : Int}, ns[i]? = some x → ∃ t, vs[i]? = some (.int x t)
  | _, _, .nil, i, x, h => by simp at h
  | _, _, .cons n t r, 0, x, h => by simp at h; subst h; exact ⟨t, rfl⟩
  | _, _, .cons n t r, i + 1, x, h => by
    obtain ⟨t', e⟩ := ints_get r (i := i) (x := x) (by simpa using h)
    exact ⟨t', by simpa using e⟩
theorem item_mk {prog : Program} {w : World} {A : Around} {E : Value → Shared → Prop} {s : Shared} {h₀ : Heap} {L l : Addr} {news : List (Addr × Obj)} {vs : List Value} {ep n : Nat} {f st i i' : Int} {u : Tok} {value slice : PySem.Expr} {Q : Value → Shared → Prop}
    (N : News h₀ L s.heap news) (hm : (l, listOf vs.toArray ep) ∈ news) (hv : IntsAre vs (mkNs f st n)) (ei' : i = i') (h0 : 0 ≤ i') (hi : i' < (n : Int)) (hb : i' < 1000000) (h : ∀ t, Q (.int (f + i' * st) t) s)
    (hs : subscripted slice false (.ref l) (.int i u) = operate [.ref l, .int i u] (getItem (.ref l) (.int i u)) := by with_unfolding_all rfl) :
    wpAny (model prog w) A (subscriptTail value slice (.ref l) (.int i u)) Q E s := by
  subst ei'
  have hl : s.heap.IsList l vs.toArray := ⟨_, N.get hm, rfl, _, rfl⟩
  obtain ⟨t, e⟩ := ints_get hv (mkNs_at (f := f) (st := st) (n := n) (k := i.toNat) (by omega))
  have ei : ((i.toNat : Nat) : Int) = i := by omega
  rw [ei] at e
  exact tail_any hl.typeIs slot_list_getitem.lookup (wpAny_getItem_list hl h0 (by omega) (by simpa using e) (h t)) hs

theorem kw4 : True := by (k_with "compareOp Lt ref ref" => (k_here; k_dflt (refine' tup_lt ?k1z4 ?k2z4 ?k3z4 ?_; (case k1z4 => exact News.get (by k_asm) (by k_mem)); (case k2z4 => exact News.get (by k_asm) (by k_mem)); (case k3z4 => ktr_units)))); trivial
theorem kw5 : True := by (k_with "subscriptTail Subscript" => (k_here; (with_reducible show wpAny _ _ (subscriptTail (Expr.Subscript _ _ _) _ (Value.ref _) (Value.int _ _)) _ _ _); k_dflt (refine' item_mk ?k1z5 ?k2z5 ?k3z5 ?kez5 ?k4z5 ?k5z5 ?k6z5 ?_ ?k7z5; (case k1z5 => k_asm); (case k2z5 => k_mem); (case k3z5 => assumption); (case kez5 => first | (conv => lhs; simp) | exact rfl); (case k4z5 => omega); (case k5z5 => omega); (case k6z5 => omega); (case k7z5 => with_unfolding_all rfl); k_whole; intro w9t9))); trivial

theorem kw6 : True := by (k_with "call ref" => (k_here; (with_reducible show wpAny _ _ (call (Value.ref _) _) _ _ _); (refine wpAny_call ?_); k_dflt (refine' code_def ?k1z6 ?k2z6 ?k3z6 ?k4z6 ?k5z6 ?kAz6 ?kFz6 ?kKz6 ?k6z6 ?k7z6 ?k8z6 ?k9z6 ?kBz6 ?_ ?c2z6 ?c3z6 ?c4z6 ?c5z6; (case kAz6 => exact rfl); (case kFz6 => exact rfl); (case kKz6 => exact rfl); (case k1z6 => k_asm); (case k2z6 => k_asm); (case k3z6 => k_asm); (case k4z6 => k_asm); (case k5z6 => k_asm); (case k6z6 => k_is); (case k7z6 => k_is); (case k8z6 => ktr_room); (case k9z6 => exact BindsTo.of_eq rfl); (case c5z6 => decide); (case kBz6 => exact locs rfl); (case c2z6 => exact rfl); (case c3z6 => exact rfl); (case c4z6 => exact rfl); k_whole; intro w9g' w9L' w9h' w9FG' w9F' w9N' w9B' w9X' w9T'; (try dsimp only); (try k_fold)))); trivial

theorem news_turn {g h : Heap} {L : Addr} {x0 x1 x2 : Addr × Obj} {r : List (Addr × Obj)} (N : News g L h (x0 :: x1 :: x2 :: r)) : News g L h (x1 :: x0 :: r) := fun q hq => N q (by
  simp only [List.mem_cons] at hq ⊢
  rcases hq with q | q | q <;> simp [q])

theorem met_turn0 {prog : Program} {w : World} {p : Program} {loose : List Str} {mean : ExcName → Option Value} {mg mb : Str → Option Value} {dp un : Nat} {gd : Option (List Code)}
    {cn : Str} {cs : Scope} {L0 a : Addr} {ccd : Value} {cl : List (Str × Addr)} {outer : List Env} {base g : Heap} {s : Shared} {Q : Flow → Shared → Prop}
    {L hp cm rl R1 R2 ta tb : Addr} {vs1 vs2 : List Value} {e1 e2 e3 c0 c1 K1 K2 n e : Nat} {f1 s1 f2 s2 W mark mA mB : Int} {k1 k2 k3 k4 k5 k6 km kw : Tok} {u : Str → Option Value}
    (B : Below (ktrTop dp un gd cn cs L0 a ccd cl outer) base (envX cn cs L0 a ccd cl :: outer) g) (X : (hd.heap_39 w.params).In g) (T : Top p loose mean mg mb g) (hr : dp + 6 < recursionLimit) (hu : un + 48 < cLine)
    (F : Fr g L s.heap (fun y => if y = Str.ofString "mark" then some (.int mark km) else if y = Str.ofString "heap" then some (.ref hp) else if y = Str.ofString "came" then some (.ref cm) else if y = Str.ofString "rulers" then some (.ref rl) else if y = Str.ofString "whole" then some (.int W kw) else u y))
    (N : News g L s.heap [(hp, listOf [.ref ta, .ref tb].toArray n), (ta, tup [.int mA k1, .int 0 k2]), (tb, tup [.int mB k3, .int 1 k4]),
      (cm, listOf [.int (c0 : Int) k5, .int (c1 : Int) k6].toArray e), (rl, listOf [.ref R1, .ref R2].toArray e3), (R1, listOf vs1.toArray e1), (R2, listOf vs2.toArray e2)])
    (hv1 : IntsAre vs1 (mkNs f1 s1 (K1 + 1))) (hv2 : IntsAre vs2 (mkNs f2 s2 (K2 + 1))) (hK1 : K1 < 10000) (hK2 : K2 < 10000) (hW : mA ≤ W) (hc : c0 + 1 ≤ K1)
    (n1 : @Ne Nat ta hp) (n2 : @Ne Nat tb hp) (n3 : @Ne Nat ta cm) (n4 : @Ne Nat tb cm) (n5 : @Ne Nat R1 hp) (n6 : @Ne Nat R2 hp) (n7 : @Ne Nat R1 cm) (n8 : @Ne Nat R2 cm) (n9 : @Ne Nat rl hp) (n10 : @Ne Nat rl cm) (n11 : @Ne Nat hp cm)
    (h : ∀ h' tk' m' D t t' cn' (lst : List Value), Fr g L h' m' → m' (Str.ofString "mark") = some (.int mA k1) → (∀ x, x ≠ Str.ofString "mark" → x ≠ Str.ofString "which" → m' x = (if x = Str.ofString "heap" then some (.ref hp) else if x = Str.ofString "came" then some (.ref cm) else if x = Str.ofString "rulers" then some (.ref rl) else if x = Str.ofString "whole" then some (.int W kw) else u x)) →
      News g L h' [(hp, listOf lst.toArray n), (D, tup [.int (f1 + ((c0 : Int) + 1) * s1) t, .int 0 k2]), (tb, tup [.int mB k3, .int 1 k4]),
        (cm, listOf [.int cn' t', .int (c1 : Int) k6].toArray e), (rl, listOf [.ref R1, .ref R2].toArray e3), (R1, listOf vs1.toArray e1), (R2, listOf vs2.toArray e2)] →
      lst = (if (f1 + ((c0 : Int) + 1) * s1 < mB ∨ f1 + ((c0 : Int) + 1) * s1 = mB ∧ (0 : Int) < 1) then [Value.ref D, .ref tb] else [Value.ref tb, .ref D]) → cn' = (c0 : Int) + 1 → @Ne Nat D hp → @Ne Nat D cm → Q .next { s with heap := h', toks := tk' }) :
    wpAny (model prog w) ((ktrTop dp un gd cn cs L0 a ccd cl outer).deeper (tEnv L)) (execs tLoop (tEnv L)) Q (fun _ _ => False) s := by
  unfold tEnv
  conv in tLoop => whnf
  conv in (occs := *) tScope => all_goals whnf
  k_steps
  · (rename Fr g L _ _ => F9); (rename News g L _ _ => N9); (rename _ ∨ _ => hc9)
    exact h _ tk _ _ _ _ _ _ F9 rfl (fun x h1 h2 => by simp only [if_neg h1, if_neg h2]) (news_turn N9) (if_pos hc9).symm rfl (by omega) (by omega)
  · (rename Fr g L _ _ => F9); (rename News g L _ _ => N9); (rename ¬ (_ ∨ _) => hc9)
    exact h _ tk _ _ _ _ _ _ F9 rfl (fun x h1 h2 => by simp only [if_neg h1, if_neg h2]) (news_turn N9) (if_neg hc9).symm rfl (by omega) (by omega)

theorem met_turn1 {prog : Program} {w : World} {p : Program} {loose : List Str} {mean : ExcName → Option Value} {mg mb : Str → Option Value} {dp un : Nat} {gd : Option (List Code)}
    {cn : Str} {cs : Scope} {L0 a : Addr} {ccd : Value} {cl : List (Str × Addr)} {outer : List Env} {base g : Heap} {s : Shared} {Q : Flow → Shared → Prop}
    {L hp cm rl R1 R2 ta tb : Addr} {vs1 vs2 : List Value} {e1 e2 e3 c0 c1 K1 K2 n e : Nat} {f1 s1 f2 s2 W mark mA mB : Int} {k1 k2 k3 k4 k5 k6 km kw : Tok} {u : Str → Option Value}
    (B : Below (ktrTop dp un gd cn cs L0 a ccd cl outer) base (envX cn cs L0 a ccd cl :: outer) g) (X : (hd.heap_39 w.params).In g) (T : Top p loose mean mg mb g) (hr : dp + 6 < recursionLimit) (hu : un + 48 < cLine)
    (F : Fr g L s.heap (fun y => if y = Str.ofString "mark" then some (.int mark km) else if y = Str.ofString "heap" then some (.ref hp) else if y = Str.ofString "came" then some (.ref cm) else if y = Str.ofString "rulers" then some (.ref rl) else if y = Str.ofString "whole" then some (.int W kw) else u y))
    (N : News g L s.heap [(hp, listOf [.ref ta, .ref tb].toArray n), (ta, tup [.int mA k1, .int 1 k2]), (tb, tup [.int mB k3, .int 0 k4]),
      (cm, listOf [.int (c0 : Int) k5, .int (c1 : Int) k6].toArray e), (rl, listOf [.ref R1, .ref R2].toArray e3), (R1, listOf vs1.toArray e1), (R2, listOf vs2.toArray e2)])
    (hv1 : IntsAre vs1 (mkNs f1 s1 (K1 + 1))) (hv2 : IntsAre vs2 (mkNs f2 s2 (K2 + 1))) (hK1 : K1 < 10000) (hK2 : K2 < 10000) (hW : mA ≤ W) (hc : c1 + 1 ≤ K2)
    (n1 : @Ne Nat ta hp) (n2 : @Ne Nat tb hp) (n3 : @Ne Nat ta cm) (n4 : @Ne Nat tb cm) (n5 : @Ne Nat R1 hp) (n6 : @Ne Nat R2 hp) (n7 : @Ne Nat R1 cm) (n8 : @Ne Nat R2 cm) (n9 : @Ne Nat rl hp) (n10 : @Ne Nat rl cm) (n11 : @Ne Nat hp cm)
    (h : ∀ h' tk' m' D t t' cn' (lst : List Value), Fr g L h' m' → m' (Str.ofString "mark") = some (.int mA k1) → (∀ x, x ≠ Str.ofString "mark" → x ≠ Str.ofString "which" → m' x = (if x = Str.ofString "heap" then some (.ref hp) else if x = Str.ofString "came" then some (.ref cm) else if x = Str.ofString "rulers" then some (.ref rl) else if x = Str.ofString "whole" then some (.int W kw) else u x)) →
      News g L h' [(hp, listOf lst.toArray n), (D, tup [.int (f2 + ((c1 : Int) + 1) * s2) t, .int 1 k2]), (tb, tup [.int mB k3, .int 0 k4]),
        (cm, listOf [.int (c0 : Int) k5, .int cn' t'].toArray e), (rl, listOf [.ref R1, .ref R2].toArray e3), (R1, listOf vs1.toArray e1), (R2, listOf vs2.toArray e2)] →
      lst = (if (f2 + ((c1 : Int) + 1) * s2 < mB ∨ f2 + ((c1 : Int) + 1) * s2 = mB ∧ (1 : Int) < 0) then [Value.ref D, .ref tb] else [Value.ref tb, .ref D]) → cn' = (c1 : Int) + 1 → @Ne Nat D hp → @Ne Nat D cm → Q .next { s with heap := h', toks := tk' }) :
    wpAny (model prog w) ((ktrTop dp un gd cn cs L0 a ccd cl outer).deeper (tEnv L)) (execs tLoop (tEnv L)) Q (fun _ _ => False) s := by
  unfold tEnv
  conv in tLoop => whnf
  conv in (occs := *) tScope => all_goals whnf
  k_steps
  · (rename Fr g L _ _ => F9); (rename News g L _ _ => N9); (rename _ ∨ _ => hc9)
    exact h _ tk _ _ _ _ _ _ F9 rfl (fun x h1 h2 => by simp only [if_neg h1, if_neg h2]) (news_turn N9) (if_pos hc9).symm rfl (by omega) (by omega)
  · (rename Fr g L _ _ => F9); (rename News g L _ _ => N9); (rename ¬ (_ ∨ _) => hc9)
    exact h _ tk _ _ _ _ _ _ F9 rfl (fun x h1 h2 => by simp only [if_neg h1, if_neg h2]) (news_turn N9) (if_neg hc9).symm rfl (by omega) (by omega)
end Mine
end
section
open PySem PySem.W PySem.Spec PySem.Calls PyProof.Rows
set_option maxRecDepth 100000
set_option maxHeartbeats 8000000
namespace Mine
theorem rsMMet2 {M : Model} {A : Around} {Q : Flow → Shared → Prop} {E : Value → Shared → Prop} {s : Shared} {env : Env} (h : Q .next s) : wpAny M A (execs [] env) Q E s := by
  w_top off
  k_with_none
  walk1
  exact h
theorem fill6 : (PySem.Challenge.rw_qh0063_01, hd.heap_39) = (PySem.Challenge.rw_qh0063_01, hd.heap_39) := by k_fill; rfl

theorem met_none {prog : Program} {w : World} {p : Program} {loose : List Str} {mean : ExcName → Option Value} {mg mb : Str → Option Value} {dp un : Nat} {gd : Option (List Code)}
    {cn : Str} {cs : Scope} {L0 a : Addr} {ccd : Value} {cl : List (Str × Addr)} {outer : List Env} {base g : Heap} {s : Shared} {Q : Flow → Shared → Prop}
    {L hp ta tb : Addr} {n : Nat} {W mark mA i : Int} {k1 k2 km kw : Tok} {u : Str → Option Value}
    (B : Below (ktrTop dp un gd cn cs L0 a ccd cl outer) base (envX cn cs L0 a ccd cl :: outer) g) (X : (hd.heap_39 w.params).In g) (T : Top p loose mean mg mb g) (hr : dp + 6 < recursionLimit) (hu : un + 48 < cLine)
    (F : Fr g L s.heap (fun y => if y = Str.ofString "mark" then some (.int mark km) else if y = Str.ofString "heap" then some (.ref hp) else if y = Str.ofString "whole" then some (.int W kw) else u y))
    (N : News g L s.heap [(hp, listOf [.ref ta, .ref tb].toArray n), (ta, tup [.int mA k1, .int i k2])]) (hW : W < mA)
    (h : ∀ h' tk' m', Fr g L h' m' → Q (.ret .none) { s with heap := h', toks := tk' }) :
    wpAny (model prog w) ((ktrTop dp un gd cn cs L0 a ccd cl outer).deeper (tEnv L)) (execs tLoop (tEnv L)) Q (fun _ _ => False) s := by
  unfold tEnv
  conv in tLoop => whnf
  conv in (occs := *) tScope => all_goals whnf
  k_steps
  (rename Fr g L _ _ => F9)
  exact h _ _ _ F9

theorem met_test {prog : Program} {w : World} {p : Program} {loose : List Str} {mean : ExcName → Option Value} {mg mb : Str → Option Value} {dp un : Nat} {gd : Option (List Code)}
    {cn : Str} {cs : Scope} {L0 a : Addr} {ccd : Value} {cl : List (Str × Addr)} {outer : List Env} {base g : Heap} {s : Shared} {Q : Bool → Shared → Prop}
    {L hp ta tb : Addr} {n : Nat} {mark mA i : Int} {k1 k2 km : Tok} {u : Str → Option Value}
    (X : (hd.heap_39 w.params).In g) (T : Top p loose mean mg mb g)
    (F : Fr g L s.heap (fun y => if y = Str.ofString "mark" then some (.int mark km) else if y = Str.ofString "heap" then some (.ref hp) else u y))
    (N : News g L s.heap [(hp, listOf [.ref ta, .ref tb].toArray n), (ta, tup [.int mA k1, .int i k2])])
    (h : ∀ tk', Q (decide (mA ≠ mark)) { s with toks := tk' }) :
    wpAny (model prog w) ((ktrTop dp un gd cn cs L0 a ccd cl outer).deeper (tEnv L)) (isTrue tTest (tEnv L) (eval tTest (tEnv L))) Q (fun _ _ => False) s := by
  unfold tEnv
  conv in (occs := *) tTest => all_goals whnf
  conv in (occs := *) tScope => all_goals whnf
  k_steps
  have e : (mA != mark) = decide (mA ≠ mark) := by by_cases q : mA = mark <;> simp [q]
  rw [e]
  exact h _

theorem met_ret {prog : Program} {w : World} {p : Program} {loose : List Str} {mean : ExcName → Option Value} {mg mb : Str → Option Value} {dp un : Nat} {gd : Option (List Code)}
    {cn : Str} {cs : Scope} {L0 a : Addr} {ccd : Value} {cl : List (Str × Addr)} {outer : List Env} {base g : Heap} {s : Shared} {Q : Flow → Shared → Prop}
    {L : Addr} {mark W : Int} {km kw : Tok} {u : Str → Option Value}
    (X : (hd.heap_39 w.params).In g) (T : Top p loose mean mg mb g)
    (F : Fr g L s.heap (fun y => if y = Str.ofString "mark" then some (.int mark km) else if y = Str.ofString "whole" then some (.int W kw) else u y)) (hW : 1 ≤ W)
    (h : ∀ t tk', Q (.ret (.int (mark % W) t)) { s with toks := tk' }) :
    wpAny (model prog w) ((ktrTop dp un gd cn cs L0 a ccd cl outer).deeper (tEnv L)) (execs (tTail.drop 1) (tEnv L)) Q (fun _ _ => False) s := by
  unfold tEnv
  conv in (tTail.drop 1) => whnf
  conv in (occs := *) tScope => all_goals whnf
  k_steps
  try dsimp only
  rw [Int.fmod_eq_emod_of_nonneg mark (by omega)]
  exact h _ _

theorem fr_ifs {g h : Heap} {L : Addr} {m : Str → Option Value} (F : Fr g L h m) (ps : List (Str × Value)) (hk : ∀ p ∈ ps, m p.1 = some p.2) : Fr g L h (kstB m ps) := by
  have e : kstB m ps = m := funext fun z => kstB_eq hk fun _ => rfl
  rw [e]; exact F

theorem cong_step {x M s : Int} (hs : 1 ≤ s) (h : x % s = M % s) (hlt : M < x) : M + s ≤ x := by
  have h1 : (x - M) % s = 0 := Int.emod_eq_emod_iff_emod_sub_eq_zero.mp h
  have h2 := Int.le_of_dvd (by omega) (Int.dvd_of_emod_eq_zero h1)
  omega

structure MQ (f1 s1 f2 s2 W M0 M1 mark : Int) : Prop where
  r0 : M0 % s1 = f1 % s1
  r1 : M1 % s2 = f2 % s2
  p0 : 1 ≤ M0
  p1 : 1 ≤ M1
  lk : mark = 0 ∨ (1 ≤ mark ∧ mark ≤ W ∧ ((mark % s1 = f1 % s1 ∧ M0 = mark + s1 ∧ mark ≤ M1) ∨ (mark % s2 = f2 % s2 ∧ M1 = mark + s2 ∧ mark ≤ M0)))
  all : ∀ x, 1 ≤ x → x % s1 = f1 % s1 → x % s2 = f2 % s2 → (M0 ≤ x ∧ M1 ≤ x) ∨ (x = mark ∧ (M0 = mark ∨ M1 = mark))

section
variable {f1 s1 f2 s2 W M0 M1 mark : Int}
theorem MQ.pop0 (q : MQ f1 s1 f2 s2 W M0 M1 mark) (hs : 1 ≤ s1) (hs2 : 1 ≤ s2) (h : M0 ≤ M1) (hne : M0 ≠ mark) (hW : M0 ≤ W) : MQ f1 s1 f2 s2 W (M0 + s1) M1 M0 where
  r0 := by rw [Int.add_emod_right]; exact q.r0
  r1 := q.r1
  p0 := by have := q.p0; omega
  p1 := q.p1
  lk := .inr ⟨q.p0, hW, .inl ⟨q.r0, rfl, h⟩⟩
  all := fun x h1 h2 h3 => by
    rcases q.all x h1 h2 h3 with ⟨a, b⟩ | ⟨a, b⟩
    · by_cases e : x = M0
      · exact .inr ⟨e, .inr (by omega)⟩
      · exact .inl ⟨cong_step hs (h2.trans q.r0.symm) (by omega), b⟩
    · exfalso
      have := q.p0
      have := q.p1
      rcases q.lk with c | ⟨c1, c2, ⟨c3, c4, c5⟩ | ⟨c3, c4, c5⟩⟩ <;> rcases b with b | b <;> omega
theorem MQ.pop1 (q : MQ f1 s1 f2 s2 W M0 M1 mark) (hs : 1 ≤ s1) (hs2 : 1 ≤ s2) (h : M1 < M0) (hne : M1 ≠ mark) (hW : M1 ≤ W) : MQ f1 s1 f2 s2 W M0 (M1 + s2) M1 where
  r0 := q.r0
  r1 := by rw [Int.add_emod_right]; exact q.r1
  p0 := q.p0
  p1 := by have := q.p1; omega
  lk := .inr ⟨q.p1, hW, .inr ⟨q.r1, rfl, by omega⟩⟩
  all := fun x h1 h2 h3 => by
    rcases q.all x h1 h2 h3 with ⟨a, b⟩ | ⟨a, b⟩
    · by_cases e : x = M1
      · omega
      · exact .inl ⟨a, cong_step hs2 (h3.trans q.r1.symm) (by omega)⟩
    · exfalso
      have := q.p0
      have := q.p1
      rcases q.lk with c | ⟨c1, c2, ⟨c3, c4, c5⟩ | ⟨c3, c4, c5⟩⟩ <;> rcases b with b | b <;> omega
theorem MQ.met (q : MQ f1 s1 f2 s2 W M0 M1 mark) (hs : 1 ≤ s1) (hs2 : 1 ≤ s2) (h : (M0 ≤ M1 ∧ M0 = mark) ∨ (M1 < M0 ∧ M1 = mark)) :
    1 ≤ mark ∧ mark ≤ W ∧ mark % s1 = f1 % s1 ∧ mark % s2 = f2 % s2 := by
  have := q.p0
  have := q.p1
  rcases q.lk with c | ⟨c1, c2, ⟨c3, c4, c5⟩ | ⟨c3, c4, c5⟩⟩
  · omega
  · rcases h with h | h
    · omega
    · exact ⟨c1, c2, c3, by rw [← h.2]; exact q.r1⟩
  · rcases h with h | h
    · exact ⟨c1, c2, by rw [← h.2]; exact q.r0, c3⟩
    · omega
theorem MQ.never (q : MQ f1 s1 f2 s2 W M0 M1 mark) (hs : 1 ≤ s1) (hs2 : 1 ≤ s2) (h : (M0 ≤ M1 ∧ M0 ≠ mark ∧ W < M0) ∨ (M1 < M0 ∧ M1 ≠ mark ∧ W < M1)) :
    ¬ ∃ x, 1 ≤ x ∧ x ≤ W ∧ x % s1 = f1 % s1 ∧ x % s2 = f2 % s2 := by
  rintro ⟨x, h1, h2, h3, h4⟩
  have := q.p0
  have := q.p1
  rcases q.all x h1 h3 h4 with ⟨a, b⟩ | ⟨a, b⟩
  · omega
  · rcases q.lk with c | ⟨c1, c2, ⟨c3, c4, c5⟩ | ⟨c3, c4, c5⟩⟩ <;> rcases b with b | b <;> omega
end
end Mine
end
section
open PySem PySem.W PySem.Spec PySem.Calls PyProof.Rows
set_option maxRecDepth 100000
set_option maxHeartbeats 8000000
namespace Mine
theorem rsMMet3 {M : Model} {A : Around} {Q : Flow → Shared → Prop} {E : Value → Shared → Prop} {s : Shared} {env : Env} (h : Q .next s) : wpAny M A (execs [] env) Q E s := by
  w_top off
  k_with_none
  walk1
  exact h

structure MS where
  top : Bool
  c0 : Nat
  c1 : Nat
  mark : Int
  ta : Addr
  tb : Addr
  k1 : Tok
  k2 : Tok
  k3 : Tok
  k4 : Tok
  k5 : Tok
  k6 : Tok
  km : Tok

def mLed (hp cm rl R1 R2 : Addr) (vs1 vs2 : List Value) (n e e1 e2 e3 : Nat) (f1 s1 f2 s2 : Int) (c : MS) : List (Addr × Obj) :=
  [(hp, listOf [.ref c.ta, .ref c.tb].toArray n), (c.ta, tup [.int (cond c.top (f2 + (c.c1 : Int) * s2) (f1 + (c.c0 : Int) * s1)) c.k1, .int (cond c.top 1 0) c.k2]),
   (c.tb, tup [.int (cond c.top (f1 + (c.c0 : Int) * s1) (f2 + (c.c1 : Int) * s2)) c.k3, .int (cond c.top 0 1) c.k4]),
   (cm, listOf [.int (c.c0 : Int) c.k5, .int (c.c1 : Int) c.k6].toArray e), (rl, listOf [.ref R1, .ref R2].toArray e3), (R1, listOf vs1.toArray e1), (R2, listOf vs2.toArray e2)]

theorem news_take2 {g h : Heap} {L : Addr} {x0 x1 : Addr × Obj} {r : List (Addr × Obj)} (N : News g L h (x0 :: x1 :: r)) : News g L h [x0, x1] := fun q hq => N q (by
  simp only [List.mem_cons, List.not_mem_nil, or_false] at hq ⊢
  rcases hq with q | q <;> simp [q])
theorem step_le {f s W : Int} {c K : Nat} (hs : 1 ≤ s) (h : f + (c : Int) * s ≤ W) (hK : W < f + (K : Int) * s) : c + 1 ≤ K := by
  by_cases q : c + 1 ≤ K
  · exact q
  · have := mul_step_mono (k := K) (j := c) hs (by omega)
    omega
theorem succ_mul' (f s : Int) (c : Nat) : f + ((c : Int) + 1) * s = f + (c : Int) * s + s := by rw [Int.add_mul]; omega
theorem cast_succ (c : Nat) : ((c + 1 : Nat) : Int) = (c : Int) + 1 := by omega

theorem met_loop {prog : Program} {w : World} {p : Program} {loose : List Str} {mean : ExcName → Option Value} {mg mb : Str → Option Value} {dp un : Nat} {gd : Option (List Code)}
    {cn : Str} {cs : Scope} {L0 a : Addr} {ccd : Value} {cl : List (Str × Addr)} {outer : List Env} {base g : Heap} {s : Shared} {Q : Flow → Shared → Prop}
    {L hp cm rl R1 R2 : Addr} {vs1 vs2 : List Value} {e1 e2 e3 K1 K2 n e : Nat} {f1 s1 f2 s2 W : Int} {kw : Tok} {m : Str → Option Value} {c₀ : MS}
    (B : Below (ktrTop dp un gd cn cs L0 a ccd cl outer) base (envX cn cs L0 a ccd cl :: outer) g) (X : (hd.heap_39 w.params).In g) (T : Top p loose mean mg mb g) (hr : dp + 6 < recursionLimit) (hu : un + 48 < cLine)
    (F : Fr g L s.heap m) (m1 : m (Str.ofString "mark") = some (.int c₀.mark c₀.km)) (m2 : m (Str.ofString "heap") = some (.ref hp)) (m3 : m (Str.ofString "came") = some (.ref cm)) (m4 : m (Str.ofString "rulers") = some (.ref rl)) (m5 : m (Str.ofString "whole") = some (.int W kw))
    (N : News g L s.heap (mLed hp cm rl R1 R2 vs1 vs2 n e e1 e2 e3 f1 s1 f2 s2 c₀))
    (hv1 : IntsAre vs1 (mkNs f1 s1 (K1 + 1))) (hv2 : IntsAre vs2 (mkNs f2 s2 (K2 + 1))) (hK1 : K1 < 10000) (hK2 : K2 < 10000) (hs1 : 1 ≤ s1) (hs2 : 1 ≤ s2) (hW1 : W < f1 + (K1 : Int) * s1) (hW2 : W < f2 + (K2 : Int) * s2) (hW : 1 ≤ W)
    (n1 : @Ne Nat c₀.ta hp) (n2 : @Ne Nat c₀.tb hp) (n3 : @Ne Nat c₀.ta cm) (n4 : @Ne Nat c₀.tb cm) (n5 : @Ne Nat R1 hp) (n6 : @Ne Nat R2 hp) (n7 : @Ne Nat R1 cm) (n8 : @Ne Nat R2 cm) (n9 : @Ne Nat rl hp) (n10 : @Ne Nat rl cm) (n11 : @Ne Nat hp cm)
    (hI : MQ f1 s1 f2 s2 W (f1 + (c₀.c0 : Int) * s1) (f2 + (c₀.c1 : Int) * s2) c₀.mark) (hc0 : c₀.c0 ≤ K1) (hc1 : c₀.c1 ≤ K2) (ht : if c₀.top = true then f2 + (c₀.c1 : Int) * s2 < f1 + (c₀.c0 : Int) * s1 else f1 + (c₀.c0 : Int) * s1 ≤ f2 + (c₀.c1 : Int) * s2)
    (h : ∀ h' tk' m' v, Fr g L h' m' → ((∃ x t, v = .int (x % W) t ∧ 1 ≤ x ∧ x ≤ W ∧ x % s1 = f1 % s1 ∧ x % s2 = f2 % s2) ∨ (v = .none ∧ ¬ ∃ x, 1 ≤ x ∧ x ≤ W ∧ x % s1 = f1 % s1 ∧ x % s2 = f2 % s2)) → Q (.ret v) { s with heap := h', toks := tk' }) :
    wpAny (model prog w) ((ktrTop dp un gd cn cs L0 a ccd cl outer).deeper (tEnv L)) (execs tTail (tEnv L)) Q (fun _ _ => False) s := by
  refine wpAny_execs_cons ?_
  refine ksw_while (s := s) (mLed hp cm rl R1 R2 vs1 vs2 n e e1 e2 e3 f1 s1 f2 s2) (fun c => [(Str.ofString "mark", .int c.mark c.km)])
    (fun c => @Ne Nat c.ta hp ∧ @Ne Nat c.tb hp ∧ @Ne Nat c.ta cm ∧ @Ne Nat c.tb cm) [Str.ofString "which"]
    (fun c => MQ f1 s1 f2 s2 W (f1 + (c.c0 : Int) * s1) (f2 + (c.c1 : Int) * s2) c.mark ∧ c.c0 ≤ K1 ∧ c.c1 ≤ K2 ∧ (if c.top = true then f2 + (c.c1 : Int) * s2 < f1 + (c.c0 : Int) * s1 else f1 + (c.c0 : Int) * s1 ≤ f2 + (c.c1 : Int) * s2))
    (fun c => (K1 - c.c0) + (K2 - c.c1)) c₀ F N ⟨n1, n2, n3, n4⟩ (by intro q hq; simp only [List.mem_cons, List.not_mem_nil, or_false] at hq; rw [hq]; exact m1) ⟨hI, hc0, hc1, ht⟩ ?_ PassesOwn.never
  rintro ⟨top, c0, c1, mark, ta, tb, k1, k2, k3, k4, k5, k6, km⟩ u h1 tk ⟨f1', f2', f3', f4'⟩ ⟨q, l0, l1, ht⟩ Fk Nk
  have Fm : Fr g L h1 _ := fr_ifs Fk [(Str.ofString "mark", .int mark km), (Str.ofString "heap", .ref hp), (Str.ofString "came", .ref cm), (Str.ofString "rulers", .ref rl), (Str.ofString "whole", .int W kw)] (by
    intro q hq
    simp only [List.mem_cons, List.not_mem_nil, or_false] at hq
    rcases hq with rfl | rfl | rfl | rfl | rfl
    · rfl
    · exact m2
    · exact m3
    · exact m4
    · exact m5)
  dsimp only at q l0 l1 ht f1' f2' f3' f4'
  cases top with
  | false =>
    simp only [Bool.false_eq_true, if_false] at ht
    dsimp only [mLed, cond] at Nk
    refine met_test (base := base) (s := { s with heap := h1, toks := tk }) X T (fr_ifs Fk [(Str.ofString "mark", .int mark km), (Str.ofString "heap", .ref hp)] (by
      intro q hq
      simp only [List.mem_cons, List.not_mem_nil, or_false] at hq
      rcases hq with rfl | rfl
      · rfl
      · exact m2)) (news_take2 Nk) (fun tk' => ?_)
    by_cases hm : f1 + (c0 : Int) * s1 = mark
    · rw [decide_eq_false (by simpa using hm), if_neg (by decide)]
      refine met_ret (base := base) (s := { s with heap := h1, toks := tk' }) X T (fr_ifs Fk [(Str.ofString "mark", .int mark km), (Str.ofString "whole", .int W kw)] (by
        intro q hq
        simp only [List.mem_cons, List.not_mem_nil, or_false] at hq
        rcases hq with rfl | rfl
        · rfl
        · exact m5)) hW (fun t tk'' => ?_)
      exact h h1 tk'' _ _ Fk (.inl ⟨mark, t, rfl, q.met hs1 hs2 (.inl ⟨ht, hm⟩)⟩)
    · rw [decide_eq_true hm, if_pos rfl]
      by_cases hWm : f1 + (c0 : Int) * s1 ≤ W
      · have hc := step_le hs1 hWm hW1
        refine met_turn0 (s := { s with heap := h1, toks := tk' }) B X T hr hu Fm Nk hv1 hv2 hK1 hK2 hWm hc f1' f2' f3' f4' n5 n6 n7 n8 n9 n10 n11 (fun h' tk'' m' D t t' cn' lst F' e1' er N' hl hcn nD1 nD2 => ?_)
        show KswEnd _ _ _ _ _ _ _ _ _ _ _ _
        have q' := q.pop0 hs1 hs2 ht hm hWm
        rw [← succ_mul'] at q'
        have hr' : ∀ z, z ≠ Str.ofString "mark" → [Str.ofString "which"].contains z = false → m' z = m z := fun z hz hz2 => by
          have hz3 : z ≠ Str.ofString "which" := fun q => by rw [q] at hz2; exact absurd hz2 (by decide)
          have e1 := er z hz hz3
          rw [e1]
          have e2 : kstB (kstB (fun z => if [Str.ofString "which"].contains z then u z else m z) [(Str.ofString "mark", .int mark km)]) [(Str.ofString "heap", .ref hp), (Str.ofString "came", .ref cm), (Str.ofString "rulers", .ref rl), (Str.ofString "whole", .int W kw)] z = kstB (fun z => if [Str.ofString "which"].contains z then u z else m z) [(Str.ofString "mark", .int mark km)] z := kstB_eq (by
            intro q hq
            simp only [List.mem_cons, List.not_mem_nil, or_false] at hq
            rcases hq with rfl | rfl | rfl | rfl
            · exact m2
            · exact m3
            · exact m4
            · exact m5) fun _ => rfl
          refine Eq.trans e2 ?_
          show (if z = Str.ofString "mark" then some (.int mark km) else if [Str.ofString "which"].contains z then u z else m z) = m z
          rw [if_neg hz, hz2]
          rfl
        rw [hl, hcn] at N'
        by_cases hcmp : (f1 + ((c0 : Int) + 1) * s1 < f2 + (c1 : Int) * s2 ∨ f1 + ((c0 : Int) + 1) * s1 = f2 + (c1 : Int) * s2 ∧ (0 : Int) < 1)
        · rw [if_pos hcmp] at N'
          refine ksw_end (⟨false, c0 + 1, c1, f1 + (c0 : Int) * s1, D, tb, t, k2, k3, k4, t', k6, k1⟩ : MS) F' N' (fun q hq => by simpa only [mLed, cond, cast_succ] using hq) ⟨nD1, f2', nD2, f4'⟩ (by intro q hq; simp only [List.mem_cons, List.not_mem_nil, or_false] at hq; rw [hq]; exact e1') (fun z hz hz2 => hr' z (hz _ (.head _)) hz2) ?_ ?_
          · simp only [cast_succ]
            refine ⟨q', by omega, by omega, ?_⟩
            simp only [Bool.false_eq_true, if_false]
            omega
          · dsimp only; omega
        · rw [if_neg hcmp] at N'
          refine ksw_end (⟨true, c0 + 1, c1, f1 + (c0 : Int) * s1, tb, D, k3, k4, t, k2, t', k6, k1⟩ : MS) F' N' (fun q hq => by simp only [mLed, cond, cast_succ, List.mem_cons, List.not_mem_nil, or_false] at hq ⊢; rcases hq with q | q | q | q | q | q | q <;> simp [q]) ⟨f2', nD1, f4', nD2⟩ (by intro q hq; simp only [List.mem_cons, List.not_mem_nil, or_false] at hq; rw [hq]; exact e1') (fun z hz hz2 => hr' z (hz _ (.head _)) hz2) ?_ ?_
          · simp only [cast_succ]
            refine ⟨q', by omega, by omega, ?_⟩
            simp only [if_true]
            omega
          · dsimp only; omega
      · refine met_none (s := { s with heap := h1, toks := tk' }) B X T hr hu (fr_ifs Fk [(Str.ofString "mark", .int mark km), (Str.ofString "heap", .ref hp), (Str.ofString "whole", .int W kw)] (by
          intro q hq
          simp only [List.mem_cons, List.not_mem_nil, or_false] at hq
          rcases hq with rfl | rfl | rfl
          · rfl
          · exact m2
          · exact m5)) (news_take2 Nk) (by omega) (fun h' tk'' m' F' => ?_)
        exact h h' tk'' m' _ F' (.inr ⟨rfl, q.never hs1 hs2 (.inl ⟨ht, hm, by omega⟩)⟩)
  | true =>
    simp only [if_true] at ht
    dsimp only [mLed, cond] at Nk
    refine met_test (base := base) (s := { s with heap := h1, toks := tk }) X T (fr_ifs Fk [(Str.ofString "mark", .int mark km), (Str.ofString "heap", .ref hp)] (by
      intro q hq
      simp only [List.mem_cons, List.not_mem_nil, or_false] at hq
      rcases hq with rfl | rfl
      · rfl
      · exact m2)) (news_take2 Nk) (fun tk' => ?_)
    by_cases hm : f2 + (c1 : Int) * s2 = mark
    · rw [decide_eq_false (by simpa using hm), if_neg (by decide)]
      refine met_ret (base := base) (s := { s with heap := h1, toks := tk' }) X T (fr_ifs Fk [(Str.ofString "mark", .int mark km), (Str.ofString "whole", .int W kw)] (by
        intro q hq
        simp only [List.mem_cons, List.not_mem_nil, or_false] at hq
        rcases hq with rfl | rfl
        · rfl
        · exact m5)) hW (fun t tk'' => ?_)
      exact h h1 tk'' _ _ Fk (.inl ⟨mark, t, rfl, q.met hs1 hs2 (.inr ⟨ht, hm⟩)⟩)
    · rw [decide_eq_true hm, if_pos rfl]
      by_cases hWm : f2 + (c1 : Int) * s2 ≤ W
      · have hc := step_le hs2 hWm hW2
        refine met_turn1 (s := { s with heap := h1, toks := tk' }) B X T hr hu Fm Nk hv1 hv2 hK1 hK2 hWm hc f1' f2' f3' f4' n5 n6 n7 n8 n9 n10 n11 (fun h' tk'' m' D t t' cn' lst F' e1' er N' hl hcn nD1 nD2 => ?_)
        show KswEnd _ _ _ _ _ _ _ _ _ _ _ _
        have q' := q.pop1 hs1 hs2 ht hm hWm
        rw [← succ_mul'] at q'
        have hr' : ∀ z, z ≠ Str.ofString "mark" → [Str.ofString "which"].contains z = false → m' z = m z := fun z hz hz2 => by
          have hz3 : z ≠ Str.ofString "which" := fun q => by rw [q] at hz2; exact absurd hz2 (by decide)
          have e1 := er z hz hz3
          rw [e1]
          have e2 : kstB (kstB (fun z => if [Str.ofString "which"].contains z then u z else m z) [(Str.ofString "mark", .int mark km)]) [(Str.ofString "heap", .ref hp), (Str.ofString "came", .ref cm), (Str.ofString "rulers", .ref rl), (Str.ofString "whole", .int W kw)] z = kstB (fun z => if [Str.ofString "which"].contains z then u z else m z) [(Str.ofString "mark", .int mark km)] z := kstB_eq (by
            intro q hq
            simp only [List.mem_cons, List.not_mem_nil, or_false] at hq
            rcases hq with rfl | rfl | rfl | rfl
            · exact m2
            · exact m3
            · exact m4
            · exact m5) fun _ => rfl
          refine Eq.trans e2 ?_
          show (if z = Str.ofString "mark" then some (.int mark km) else if [Str.ofString "which"].contains z then u z else m z) = m z
          rw [if_neg hz, hz2]
          rfl
        rw [hl, hcn] at N'
        by_cases hcmp : (f2 + ((c1 : Int) + 1) * s2 < f1 + (c0 : Int) * s1 ∨ f2 + ((c1 : Int) + 1) * s2 = f1 + (c0 : Int) * s1 ∧ (1 : Int) < 0)
        · rw [if_pos hcmp] at N'
          refine ksw_end (⟨true, c0, c1 + 1, f2 + (c1 : Int) * s2, D, tb, t, k2, k3, k4, k5, t', k1⟩ : MS) F' N' (fun q hq => by simpa only [mLed, cond, cast_succ] using hq) ⟨nD1, f2', nD2, f4'⟩ (by intro q hq; simp only [List.mem_cons, List.not_mem_nil, or_false] at hq; rw [hq]; exact e1') (fun z hz hz2 => hr' z (hz _ (.head _)) hz2) ?_ ?_
          · simp only [cast_succ]
            refine ⟨q', by omega, by omega, ?_⟩
            simp only [if_true]
            omega
          · dsimp only; omega
        · rw [if_neg hcmp] at N'
          refine ksw_end (⟨false, c0, c1 + 1, f2 + (c1 : Int) * s2, tb, D, k3, k4, t, k2, k5, t', k1⟩ : MS) F' N' (fun q hq => by simp only [mLed, cond, cast_succ, List.mem_cons, List.not_mem_nil, or_false] at hq ⊢; rcases hq with q | q | q | q | q | q | q <;> simp [q]) ⟨f2', nD1, f4', nD2⟩ (by intro q hq; simp only [List.mem_cons, List.not_mem_nil, or_false] at hq; rw [hq]; exact e1') (fun z hz hz2 => hr' z (hz _ (.head _)) hz2) ?_ ?_
          · simp only [cast_succ]
            refine ⟨q', by omega, by omega, ?_⟩
            simp only [Bool.false_eq_true, if_false]
            omega
          · dsimp only; omega
      · refine met_none (s := { s with heap := h1, toks := tk' }) B X T hr hu (fr_ifs Fk [(Str.ofString "mark", .int mark km), (Str.ofString "heap", .ref hp), (Str.ofString "whole", .int W kw)] (by
          intro q hq
          simp only [List.mem_cons, List.not_mem_nil, or_false] at hq
          rcases hq with rfl | rfl | rfl
          · rfl
          · exact m2
          · exact m5)) (news_take2 Nk) (by omega) (fun h' tk'' m' F' => ?_)
        exact h h' tk'' m' _ F' (.inr ⟨rfl, q.never hs1 hs2 (.inr ⟨ht, hm, by omega⟩)⟩)
end Mine
end
section
open PySem PySem.W PySem.Spec PySem.Calls PyProof.Rows
set_option maxRecDepth 100000
set_option maxHeartbeats 8000000
namespace Mine
theorem rsMRev {M : Model} {A : Around} {Q : Flow → Shared → Prop} {E : Value → Shared → Prop} {s : Shared} {env : Env} (h : Q .next s) : wpAny M A (execs [] env) Q E s := by
  w_top off
  k_with_none
  walk1
  exact h
theorem sub_ri_reversed : isSubtype (.type "range_iterator") (.type "reversed") = pure false := by rw [isSubtype_type]; kernel_rfl

section
variable {prog : Program} {w : World} {A : Around} {E : Value → Shared → Prop} {s : Shared}
abbrev revRange : Obj := { cls := .type "range_iterator", data := .fields #[rawInt 0, rawInt 1, rawInt (-1)] }

theorem call_range_reversed {r : Addr} {t u v : Tok} {Q : Value → Shared → Prop} (hr : IsRange s.heap r 0 1 1 t u v)
    (h : Q (.ref s.heap.objs.size) { s with heap := s.heap.push revRange }) : wpAny (model prog w) A (call (.builtin "range.__reversed__") [.ref r]) Q E s := by
  have hT : s.TypeIs (.ref r) "range" := ⟨_, hr, rfl⟩
  refine wpAny_call_entry F.slot_range_reversed hT F.entry_range_reversed ?_ (F.args_range_reversed_1 _)
  unfold Builtin.«range.__reversed__»
  refine wpAny_bind (wpAny_of_eq (a := Value.ref r) rfl ?_)
  refine wpAny_bind (Q := _) ?_
  unfold Builtin.Range.rangeFields
  refine wpAny_bind (wpAny_field hr rfl (x := .int 0 t) rfl ?_)
  refine wpAny_bind (wpAny_of_eq (a := some 0) rfl ?_)
  refine wpAny_bind (wpAny_field hr rfl (x := .int 1 u) rfl ?_)
  refine wpAny_bind (wpAny_of_eq (a := some 1) rfl ?_)
  refine wpAny_bind (wpAny_field hr rfl (x := .int 1 v) rfl ?_)
  refine wpAny_bind (wpAny_of_eq (a := some 1) rfl ?_)
  refine wpAny_pure ?_
  dsimp only
  have hsm : (Builtin.Range.rangeFitsLong 0 && Builtin.Range.rangeFitsLong 1 && Builtin.Range.rangeFitsLong 1 && Builtin.Range.rangeFitsLong (-1) && Builtin.Range.rangeFitsLong (0 - 1) && Builtin.Range.rangeFitsLong (Builtin.Range.rangeSize 0 1 1)) = true := by decide
  rw [hsm]
  simp only [Bool.not_true, Bool.false_eq_true, if_false, if_true]
  exact wpAny_bind (wpAny_newObj_type (wpAny_pure ⟨_, rfl, h⟩))

theorem code_reversed_range {r : Addr} {t u v : Tok} {Q₁ : Value → Shared → Prop} (hr : IsRange s.heap r 0 1 1 t u v)
    (h : Q₁ (.ref s.heap.objs.size) { s with heap := s.heap.push revRange }) :
    codeAny (model prog w) A (.call (.builtin "reversed.__new__") ⟨[.type "reversed", .ref r], []⟩) (wants Q₁ E) s := by
  have hT : s.TypeIs (.ref r) "range" := ⟨_, hr, rfl⟩
  refine codeAny_of_tree ?_
  show wpAny _ A.in1 (do checkBuiltinCall "reversed.__new__" ⟨[.type "reversed", .ref r], []⟩; again (.builtin "reversed.__new__" ⟨[.type "reversed", .ref r], []⟩)) _ _ s
  refine wpAny_bind (wpAny_of_eq (F.newCall_reversed_1 _) (wpAny_pure ⟨plainId_quiet F.plain_reversed_new _, codeAny_builtin F.entry_reversed_new ?_⟩))
  rw [Around.under_plainId F.plain_reversed_new _]
  unfold Builtin.«reversed.__new__»
  refine wpAny_bind (wpAny_of_eq (newClass_reversed _) ?_)
  try dsimp only
  refine wpAny_bind (wpAny_of_eq (a := ()) (by first | rfl | kernel_rfl) ?_)
  refine wpAny_bind (wpAny_of_eq (a := ()) (by first | rfl | kernel_rfl) ?_)
  try dsimp only
  refine wpAny_bind (wpAny_specialOf hT F.slot_range_reversed.lookup ?_)
  try dsimp only
  refine wpAny_bind (wpAny_of_eq (F.slot_range_reversed.bind _) ?_)
  try dsimp only
  rw [if_neg (show ¬ ((Value.builtin "range.__reversed__" == Value.none) = true) from Bool.false_ne_true)]
  refine wpAny_bind (wpAny_rule ?_)
  refine wpAny_bind (m := runValue (.call (.builtin "range.__reversed__") ⟨[.ref r], []⟩)) (show wpAny _ _ (call (.builtin "range.__reversed__") [.ref r]) _ _ _ from call_range_reversed hr ?_)
  exact wpAny_pure h

theorem call_reversed_range {r : Addr} {t u v : Tok} {Q : Value → Shared → Prop} (hr : IsRange s.heap r 0 1 1 t u v)
    (h : Q (.ref s.heap.objs.size) { s with heap := s.heap.push revRange }) : wpAny (model prog w) A (call (.type "reversed") [.ref r]) Q E s := by
  refine callType_other (U := "range_iterator") (Q₁ := fun obj s₁ => obj = .ref s.heap.objs.size ∧ s₁ = { s with heap := s.heap.push revRange }) (by decide +kernel) F.create_reversed ⟨_, _, F.mro_reversed⟩ F.made_reversed sub_ri_reversed (F.typeCall_reversed_1 _) (code_reversed_range hr ⟨rfl, rfl⟩) ?_
  rintro obj s₁ ⟨rfl, rfl⟩
  exact ⟨⟨_, Heap.get?_push_size _ rfl, rfl⟩, h⟩

theorem pyIter_rangeIter {it : Addr} {x left step : Int} {Q : Value → Shared → Prop} (hit : IsRangeIter s.heap it x left step) (h : Q (.ref it) s) : wpAny (model prog w) A (pyIter (.ref it)) Q E s := by
  have hT : s.TypeIs (.ref it) "range_iterator" := ⟨_, hit, rfl⟩
  refine wpAny_pyIter_slot hT F.slot_range_iterator_iter (wpAny_call_entry F.slot_range_iterator_iter hT F.entry_range_iterator_iter ?_ (F.args_range_iterator_iter_1 _))
  show wpAny _ _ (ret (.ref it)) _ _ s
  exact wpAny_pure ⟨_, rfl, "range_iterator", _, hT, F.slot_range_iterator_next.lookup, h⟩
end
end Mine
end
section
open PySem PySem.W PySem.Spec PySem.Calls PyProof.Rows
set_option maxRecDepth 100000
set_option maxHeartbeats 8000000
namespace Mine
theorem rsMHeap {M : Model} {A : Around} {Q : Flow → Shared → Prop} {E : Value → Shared → Prop} {s : Shared} {env : Env} (h : Q .next s) : wpAny M A (execs [] env) Q E s := by
  w_top off
  k_with_none
  walk1
  exact h
theorem fill8 : (PySem.Challenge.rw_qh0063_01, hd.heap_39) = (PySem.Challenge.rw_qh0063_01, hd.heap_39) := by k_fill; rfl

theorem revRange_K {prog : Program} {w : World} {A : Around} {E : Value → Shared → Prop} {s : Shared} {h₀ : Heap} {L r : Addr} {m : Str → Option Value} {news : List (Addr × Obj)} {t u v : Tok} {Q : Value → Shared → Prop}
    (F : Fr h₀ L s.heap m) (N : News h₀ L s.heap news) (hr : IsRange s.heap r 0 1 1 t u v) (h : ∀ it h', Fr h₀ L h' m → News h₀ L h' ((it, revRange) :: news) → (∀ p ∈ news, p.1 < it) → Q (.ref it) { s with heap := h' }) :
    wpAny (model prog w) A (call (.type "reversed") [.ref r]) Q E s :=
  call_reversed_range hr (h _ _ (F.push _) (N.push F _ rfl) (fun q hq => Heap.lt_size (N q hq).1))

theorem kw7 : True := by (k_with "compareOp Lt ref ref" => (k_here; k_dflt (refine' tup_lt ?k1z7 ?k2z7 ?k3z7 ?_; (case k1z7 => exact News.get (by k_asm) (by k_mem)); (case k2z7 => exact News.get (by k_asm) (by k_mem)); (case k3z7 => ktr_units)))); trivial
theorem kw8 : True := by (k_with "call ref" => (k_here; (with_reducible show wpAny _ _ (call (Value.ref _) _) _ _ _); (refine wpAny_call ?_); k_dflt (refine' code_def ?k1z8 ?k2z8 ?k3z8 ?k4z8 ?k5z8 ?kAz8 ?kFz8 ?kKz8 ?k6z8 ?k7z8 ?k8z8 ?k9z8 ?kBz8 ?_ ?c2z8 ?c3z8 ?c4z8 ?c5z8; (case kAz8 => exact rfl); (case kFz8 => exact rfl); (case kKz8 => exact rfl); (case k1z8 => k_asm); (case k2z8 => k_asm); (case k3z8 => k_asm); (case k4z8 => k_asm); (case k5z8 => k_asm); (case k6z8 => k_is); (case k7z8 => k_is); (case k8z8 => ktr_room); (case k9z8 => exact BindsTo.of_eq rfl); (case c5z8 => decide); (case kBz8 => exact locs rfl); (case c2z8 => exact rfl); (case c3z8 => exact rfl); (case c4z8 => exact rfl); k_whole; intro w9g' w9L' w9h' w9FG' w9F' w9N' w9B' w9X' w9T'; (try dsimp only); (try k_fold)))); trivial
theorem kw9 : True := by (k_with "exec For Name Call cons nil" => (k_here; k_dflt (refine wpAny_For ?_))); trivial
theorem kw10 : True := by (k_with "call type:reversed" => (k_here; k_dflt (refine' revRange_K ?k1z10 ?k2z10 ?k3z10 ?_; (case k1z10 => k_asm); (case k2z10 => k_asm); (case k3z10 => assumption); k_whole; intro it9 h9 w9F' w9N' l9; (try k_lt l9)))); trivial
theorem kw11 : True := by (k_with "pyIter ref" => (k_here; k_dflt (refine' pyIter_rangeIter ?k1z11 ?_; (case k1z11 => exact News.get (by k_asm) (by k_mem))))); trivial

abbrev riEnd : Obj := { cls := .type "range_iterator", data := .fields #[rawInt (0 + -1), rawInt (1 - 1), rawInt (-1)] }
def hSt : Stmt := PySem.Challenge.pw_qh0063_01.main.body.getD 22 (.Pass default)
def hBody : List Stmt := match hSt with | .FunctionDef _ _ b _ _ _ _ _ _ _ => b | _ => []
def hScope : Scope := match hSt with | .FunctionDef _ _ _ _ _ _ sc _ _ _ => sc | _ => default
def hFor : Stmt := hBody.getD 1 (.Pass default)
def hTgt : Expr := match hFor with | .For t _ _ _ _ => t | _ => .Constant .none 0 default
def hLoop : List Stmt := match hFor with | .For _ _ b _ _ => b | _ => []
abbrev hEnv (L : Addr) : Env := envOf (Str.ofString "heapify") hScope L 132 (.ref 131)

theorem heapify_turn {prog : Program} {w : World} {p : Program} {loose : List Str} {mean : ExcName → Option Value} {mg mb : Str → Option Value} {dp un : Nat} {gd : Option (List Code)}
    {cn : Str} {cs : Scope} {L0 a : Addr} {ccd : Value} {cl : List (Str × Addr)} {outer : List Env} {base g : Heap} {s : Shared} {Q : Flow → Shared → Prop}
    {L hp ta tb it : Addr} {n : Nat} {x0 y0 x1 y1 : Int} {k0 k1 k2 k3 kt : Tok} {u : Str → Option Value}
    (B : Below (ktrTop dp un gd cn cs L0 a ccd cl outer) base (envX cn cs L0 a ccd cl :: outer) g) (X : (hd.heap_39 w.params).In g) (T : Top p loose mean mg mb g) (hr : dp + 4 < recursionLimit) (hu : un + 32 < cLine)
    (F : Fr g L s.heap (kstB u [(Str.ofString "x", .ref hp)]))
    (N : News g L s.heap [(it, riEnd), (hp, listOf [.ref ta, .ref tb].toArray n), (ta, tup [.int x0 k0, .int y0 k1]), (tb, tup [.int x1 k2, .int y1 k3])])
    (n1 : @Ne Nat ta hp) (n2 : @Ne Nat tb hp) (n3 : @Ne Nat it hp)
    (h : ∀ h' tk' m' (lst : List Value), Fr g L h' m' → News g L h' [(it, riEnd), (hp, listOf lst.toArray n), (ta, tup [.int x0 k0, .int y0 k1]), (tb, tup [.int x1 k2, .int y1 k3])] →
      lst = (if x0 < x1 ∨ x0 = x1 ∧ y0 < y1 then [Value.ref ta, .ref tb] else [Value.ref tb, .ref ta]) → Q .next { s with heap := h', toks := tk' }) :
    wpAny (model prog w) ((ktrTop dp un gd cn cs L0 a ccd cl outer).deeper (hEnv L)) (assign hTgt (hEnv L) (.int 0 kt)) (fun _ s₂ => wpAny (model prog w) ((ktrTop dp un gd cn cs L0 a ccd cl outer).deeper (hEnv L)) (execs hLoop (hEnv L)) Q (fun _ _ => False) s₂) (fun _ _ => False) s := by
  dsimp only [kstB] at F
  unfold hEnv
  conv in hTgt => whnf
  conv in hLoop => whnf
  conv in (occs := *) hScope => all_goals whnf
  refine wpAny_assign_Name ?_
  k_steps
  · (rename Fr g L _ _ => F9); (rename News g L _ _ => N9); (rename _ ∨ _ => hc9)
    exact h _ tk _ _ F9 N9 (if_pos hc9).symm
  · (rename Fr g L _ _ => F9); (rename News g L _ _ => N9); (rename ¬ (_ ∨ _) => hc9)
    exact h _ tk _ _ F9 N9 (if_neg hc9).symm

theorem heapify_c {w : World} {hp ta tb : Addr} {n : Nat} {x0 y0 x1 y1 : Int} {k0 k1 k2 k3 : Tok} (n1 : @Ne Nat ta hp) (n2 : @Ne Nat tb hp) :
    Ctr w 132 [.ref hp] [(hp, listOf [.ref ta, .ref tb].toArray n), (ta, tup [.int x0 k0, .int y0 k1]), (tb, tup [.int x1 k2, .int y1 k3])] 4
      (fun v out => out = [(hp, listOf (if x0 < x1 ∨ x0 = x1 ∧ y0 < y1 then [Value.ref ta, .ref tb] else [Value.ref tb, .ref ta]).toArray n), (ta, tup [.int x0 k0, .int y0 k1]), (tb, tup [.int x1 k2, .int y1 k3])]) := by
  intro prog p loose mean mg mb dp un gd cn cs L a ccd cl outer base g s Q E B X T hst hsz N hk hr hu hret
  refine wpAny_noRaise ?_
  refine wpAny_call ?_
  k_dflt (refine' enterC (binds := [(Str.ofString "x", .ref hp)]) ?k1 ?k2 ?k3 ?k4 ?k5 ?k6 ?k7 ?k8 ?k9 ?kB ?_ ?c1 ?c2 ?c3 ?c4; (case k1 => k_asm); (case k2 => k_asm); (case k3 => k_asm); (case k4 => k_asm); (case k5 => k_asm); (case k6 => k_is); (case k7 => k_is); (case k8 => ktr_room); (case k9 => exact BindsTo.of_eq rfl); (case kB => exact locs rfl); (case c1 => decide); (case c2 => exact rfl); (case c3 => exact rfl); (case c4 => exact rfl); k_whole; intro L' h' F' N' l'; (try dsimp only); (try k_lt l'); (try k_fold))
  k_steps
  (rename Fr g L' _ _ => F9); (rename News g L' _ _ => N9)
  have F8 := fr_ifs F9 [(Str.ofString "x", .ref hp)] (by
    intro q hq
    simp only [List.mem_cons, List.not_mem_nil, or_false] at hq
    rw [hq]; rfl)
  refine codeAny_forLoop (fun k s' => (k = 1 ∧ ∃ h tk m, s' = { s with heap := h, toks := tk } ∧ Fr g L' h (kstB m [(Str.ofString "x", .ref hp)]) ∧ News g L' h [(it9, revRange), (hp, listOf [.ref ta, .ref tb].toArray n), (ta, tup [.int x0 k0, .int y0 k1]), (tb, tup [.int x1 k2, .int y1 k3])]) ∨
    (k = 0 ∧ ∃ h tk m, s' = { s with heap := h, toks := tk } ∧ Fr g L' h m ∧ News g L' h [(it9, riEnd), (hp, listOf (if x0 < x1 ∨ x0 = x1 ∧ y0 < y1 then [Value.ref ta, .ref tb] else [Value.ref tb, .ref ta]).toArray n), (ta, tup [.int x0 k0, .int y0 k1]), (tb, tup [.int x1 k2, .int y1 k3])])) ?_ 1 (.inl ⟨rfl, _, _, _, rfl, F8, N9⟩) (by intro _; rfl)
  clear F8 F9 N9
  rintro k s' (⟨rfl, h1, tk1, m1, rfl, F9, N9⟩ | ⟨rfl, h1, tk1, m1, rfl, F9, N9⟩)
  · have z := N9 (it9, revRange) (.head _)
    refine wpAny_pyNext_range_item (s := { s with heap := h1, toks := tk1 }) (x := 0) (left := 1) (step := -1) z.1 (by decide) (fun h2 hit hs => ?_)
    have F8 := F9.change hs z.2.1 z.2.2
    have N8 : News g L' h2 [(it9, riEnd), (hp, listOf [.ref ta, .ref tb].toArray n), (ta, tup [.int x0 k0, .int y0 k1]), (tb, tup [.int x1 k2, .int y1 k3])] := by
      intro q hq
      rcases List.mem_cons.mp hq with rfl | hq
      · exact ⟨hit, z.2⟩
      · have y := N9 q (.tail _ hq)
        refine ⟨(hs.2 q.1 ?_).trans y.1, y.2⟩
        simp only [List.mem_cons, List.not_mem_nil, or_false] at hq
        rcases hq with rfl | rfl | rfl <;> (refine neN ?_; dsimp only; omega)
    refine wpAny_mono (heapify_turn (s := { s with heap := h2, toks := tk1 + 1 }) (it := it9) B X T (by omega) (by omega) F8 N8 n1 n2 (by omega) (fun h' tk' m' lst F' N' hl => ?_)) (fun _ s₂ h₂ => wpAny_noRaise h₂) (fun _ _ x => x.elim)
    rw [hl] at N'
    exact ⟨0, by decide, .inr ⟨rfl, h', tk', m', rfl, F', N'⟩⟩
  · have z := N9 (it9, riEnd) (.head _)
    refine wpAny_pyNext_range_end (s := { s with heap := h1, toks := tk1 }) (x := -1) (left := 0) (step := -1) rfl z.1 (by decide) (fun h2 hs => ?_)
    dsimp only
    refine wpAny_execs_nil (wpAny_execs_nil ?_)
    refine hret _ _ h2 tk1 s.gens (fun b o e => hs b o (fun q => by rw [q, z.2.2] at e; cases e) (F9.keep b o e)) (fun q hq => ?_) rfl (fun x => x)
    have y := N9 q (.tail _ hq)
    refine ⟨hs q.1 _ ?_ y.1, y.2.2⟩
    simp only [List.mem_cons, List.not_mem_nil, or_false] at hq
    rcases hq with rfl | rfl | rfl <;> (refine neN ?_; dsimp only; omega)
end Mine
end
section
open PySem PySem.W PySem.Spec PySem.Calls PyProof.Rows
set_option maxRecDepth 100000
set_option maxHeartbeats 8000000
namespace Mine
theorem rsMMet4 {M : Model} {A : Around} {Q : Flow → Shared → Prop} {E : Value → Shared → Prop} {s : Shared} {env : Env} (h : Q .next s) : wpAny M A (execs [] env) Q E s := by
  w_top off
  k_with_none
  walk1
  exact h
theorem fill7 : (PySem.Challenge.rw_qh0063_01, hd.heap_39) = (PySem.Challenge.rw_qh0063_01, hd.heap_39) := by k_fill; rfl

theorem execs_append (env : Env) : ∀ (a b : List Stmt), execs (a ++ b) env = (execs a env >>= fun f => match f with | .next => execs b env | f => pure f)
  | [], b => by
    show execs b env = (Sem.pure Flow.next).bind _
    rfl
  | st :: a, b => by
    show execs (st :: (a ++ b)) env = _
    rw [execs_cons, execs_cons, bind_assoc]
    refine congrArg _ (funext fun f => ?_)
    cases f with
    | next => exact execs_append env a b
    | brk => rfl
    | cont => rfl
    | ret v => rfl
theorem wp_execs_append {M : Model} {A : Around} {E : Value → Shared → Prop} {s : Shared} {env : Env} {a b : List Stmt} {Q : Flow → Shared → Prop}
    (h : wpAny M A (execs a env) (fun f s' => match f with | .next => wpAny M A (execs b env) Q E s' | f => Q f s') E s) : wpAny M A (execs (a ++ b) env) Q E s := by
  rw [execs_append]
  refine wpAny_bind (wpAny_mono h (fun f s' h' => ?_) fun _ _ x => x)
  cases f with
  | next => exact h'
  | brk => exact wpAny_pure h'
  | cont => exact wpAny_pure h'
  | ret v => exact wpAny_pure h'

def tMid : List Stmt := match tHeap with | a :: b :: c :: _ => [a, b, c] | _ => []
def tRul : List Stmt := match tRest with | a :: _ => [a] | _ => []

theorem kw12 : True := by (k_with "compareOp Lt ref ref" => (k_here; k_dflt (refine' tup_lt ?k1z12 ?k2z12 ?k3z12 ?_; (case k1z12 => exact News.get (by k_asm) (by k_mem)); (case k2z12 => exact News.get (by k_asm) (by k_mem)); (case k3z12 => ktr_units)))); trivial
theorem kw13 : True := by (k_with "subscriptTail Subscript" => (k_here; (with_reducible show wpAny _ _ (subscriptTail (Expr.Subscript _ _ _) _ (Value.ref _) (Value.int _ _)) _ _ _); k_dflt (refine' item_mk ?k1z13 ?k2z13 ?k3z13 ?kez13 ?k4z13 ?k5z13 ?k6z13 ?_ ?k7z13; (case k1z13 => k_asm); (case k2z13 => k_mem); (case k3z13 => assumption); (case kez13 => first | (conv => lhs; simp) | exact rfl); (case k4z13 => omega); (case k5z13 => omega); (case k6z13 => omega); (case k7z13 => with_unfolding_all rfl); k_whole; intro w9t9))); trivial
theorem news_tail {g h : Heap} {L : Addr} {x0 : Addr × Obj} {r : List (Addr × Obj)} (N : News g L h (x0 :: r)) : News g L h r := fun q hq => N q (.tail _ hq)
theorem eqN {a b : Nat} (h : a = b) : a = b := h
theorem news_h1 {g h : Heap} {L : Addr} {x0 x1 x2 : Addr × Obj} {r : List (Addr × Obj)} (N : News g L h (x0 :: x1 :: x2 :: r)) : News g L h [x0, x2, x1] := fun q hq => N q (by
  simp only [List.mem_cons, List.not_mem_nil, or_false] at hq ⊢
  rcases hq with q | q | q <;> simp [q])
theorem news_h2 {g h : Heap} {L : Addr} {x0 x1 x2 : Addr × Obj} {r : List (Addr × Obj)} (N : News g L h (x0 :: x1 :: x2 :: r)) : News g L h r := fun q hq => N q (by
  simp only [List.mem_cons]
  simp [hq])
theorem kw14 : True := by (k_with "call ref" => (k_here; (with_reducible show wpAny _ _ (call (Value.ref 132) _) _ _ _); k_dflt (refine' Ctr.use (heapify_c ?p1z14 ?p2z14) ?k1z14 ?k2z14 ?k3z14 ?k4z14 (news_h1 ?kNz14) (news_h2 ?kMz14) ?k6z14 ?k7z14 ?k8z14 ?k9z14 ?_; (case kNz14 => k_asm); (case kMz14 => k_asm); (case p1z14 => k_ne); (case p2z14 => k_ne); (case k1z14 => k_asm); (case k2z14 => k_asm); (case k3z14 => k_asm); (case k4z14 => k_asm); (case k6z14 => (intro w9q w9hq w9hn; simp only [List.mem_cons, List.map_cons, List.map_nil, List.not_mem_nil, or_false] at w9hq w9hn; rcases w9hq with e | e | e <;> (rw [e] at w9hn; dsimp only at w9hn; rcases w9hn with e9 | e9 | e9 <;> (have e8 := eqN e9; omega)))); (case k7z14 => exact rfl); (case k8z14 => ktr_room); (case k9z14 => ktr_units); k_whole; intro w9v9 w9out9 w9h9 w9tk9 w9gs9 w9hp9 w9F9 w9N9 w9d9 w9hb9; subst w9hp9; simp only [List.cons_append, List.nil_append] at w9N9; clear w9d9))); trivial

theorem met_mid {prog : Program} {w : World} {p : Program} {loose : List Str} {mean : ExcName → Option Value} {mg mb : Str → Option Value} {dp un : Nat} {gd : Option (List Code)}
    {cn : Str} {cs : Scope} {L0 a : Addr} {ccd : Value} {cl : List (Str × Addr)} {outer : List Env} {base g : Heap} {s : Shared} {Q : Flow → Shared → Prop}
    {L rl R1 R2 : Addr} {vs1 vs2 : List Value} {e1 e2 e3 K1 K2 : Nat} {f1 s1 f2 s2 W : Int} {kw : Tok} {u : Str → Option Value}
    (B : Below (ktrTop dp un gd cn cs L0 a ccd cl outer) base (envX cn cs L0 a ccd cl :: outer) g) (X : (hd.heap_39 w.params).In g) (T : Top p loose mean mg mb g) (hr : dp + 6 < recursionLimit) (hu : un + 48 < cLine)
    (F : Fr g L s.heap (fun y => if y = Str.ofString "rulers" then some (.ref rl) else if y = Str.ofString "whole" then some (.int W kw) else u y))
    (N : News g L s.heap [(rl, listOf [.ref R1, .ref R2].toArray e3), (R1, listOf vs1.toArray e1), (R2, listOf vs2.toArray e2)])
    (hv1 : IntsAre vs1 (mkNs f1 s1 (K1 + 1))) (hv2 : IntsAre vs2 (mkNs f2 s2 (K2 + 1)))
    (h : ∀ h' tk' gs' m' hp cm tA tB ka kb ka' kb' kc kd km (lst : List Value), Fr g L h' m' → m' (Str.ofString "mark") = some (.int 0 km) → m' (Str.ofString "heap") = some (.ref hp) → m' (Str.ofString "came") = some (.ref cm) → m' (Str.ofString "rulers") = some (.ref rl) → m' (Str.ofString "whole") = some (.int W kw) →
      News g L h' [(cm, listOf [.int 0 kc, .int 0 kd].toArray 0), (hp, listOf lst.toArray 0), (tA, tup [.int (f2 + 0 * s2) ka, .int 1 ka']), (tB, tup [.int (f1 + 0 * s1) kb, .int 0 kb']), (rl, listOf [.ref R1, .ref R2].toArray e3), (R1, listOf vs1.toArray e1), (R2, listOf vs2.toArray e2)] →
      lst = (if f2 + 0 * s2 < f1 + 0 * s1 ∨ f2 + 0 * s2 = f1 + 0 * s1 ∧ (1 : Int) < 0 then [Value.ref tA, .ref tB] else [Value.ref tB, .ref tA]) →
      (@Ne Nat tA hp ∧ @Ne Nat tB hp ∧ @Ne Nat tA cm ∧ @Ne Nat tB cm ∧ @Ne Nat R1 hp ∧ @Ne Nat R2 hp ∧ @Ne Nat R1 cm ∧ @Ne Nat R2 cm ∧ @Ne Nat rl hp ∧ @Ne Nat rl cm ∧ @Ne Nat hp cm) → (AllBare s.gens → AllBare gs') →
      Q .next { s with heap := h', toks := tk', gens := gs' }) :
    wpAny (model prog w) ((ktrTop dp un gd cn cs L0 a ccd cl outer).deeper (tEnv L)) (execs tMid (tEnv L)) Q (fun _ _ => False) s := by
  unfold tEnv
  conv in tMid => whnf
  conv in (occs := *) tScope => all_goals whnf
  k_steps
  (rename Fr g L _ _ => F9); (rename News g L _ _ => N9); (rename AllBare _ → AllBare _ => hb9)
  exact h _ tk _ _ _ _ _ _ _ _ _ _ _ _ _ _ F9 rfl rfl rfl rfl rfl (news_tail N9) rfl ⟨by omega, by omega, by omega, by omega, by omega, by omega, by omega, by omega, by omega, by omega, by omega⟩ hb9

theorem MQ.start {f1 s1 f2 s2 W : Int} (hs1 : 1 ≤ s1) (hs2 : 1 ≤ s2) (a1 : 1 ≤ f1) (a2 : f1 ≤ s1) (b1 : 1 ≤ f2) (b2 : f2 ≤ s2) : MQ f1 s1 f2 s2 W (f1 + ((0 : Nat) : Int) * s1) (f2 + ((0 : Nat) : Int) * s2) 0 := by
  have e1 : f1 + ((0 : Nat) : Int) * s1 = f1 := by simp
  have e2 : f2 + ((0 : Nat) : Int) * s2 = f2 := by simp
  rw [e1, e2]
  refine ⟨rfl, rfl, a1, b1, .inl rfl, fun x h1 h2 h3 => .inl ⟨?_, ?_⟩⟩
  · by_cases q : f1 ≤ x
    · exact q
    · have := cong_step hs1 h2.symm (by omega)
      omega
  · by_cases q : f2 ≤ x
    · exact q
    · have := cong_step hs2 h3.symm (by omega)
      omega

theorem met_heap {prog : Program} {w : World} {p : Program} {loose : List Str} {mean : ExcName → Option Value} {mg mb : Str → Option Value} {dp un : Nat} {gd : Option (List Code)}
    {cn : Str} {cs : Scope} {L0 a : Addr} {ccd : Value} {cl : List (Str × Addr)} {outer : List Env} {base g : Heap} {s : Shared} {Q : Flow → Shared → Prop}
    {L rl R1 R2 : Addr} {vs1 vs2 : List Value} {e1 e2 e3 K1 K2 : Nat} {f1 s1 f2 s2 W : Int} {kw : Tok} {u : Str → Option Value}
    (B : Below (ktrTop dp un gd cn cs L0 a ccd cl outer) base (envX cn cs L0 a ccd cl :: outer) g) (X : (hd.heap_39 w.params).In g) (T : Top p loose mean mg mb g) (hr : dp + 6 < recursionLimit) (hu : un + 48 < cLine)
    (F : Fr g L s.heap (fun y => if y = Str.ofString "rulers" then some (.ref rl) else if y = Str.ofString "whole" then some (.int W kw) else u y))
    (N : News g L s.heap [(rl, listOf [.ref R1, .ref R2].toArray e3), (R1, listOf vs1.toArray e1), (R2, listOf vs2.toArray e2)])
    (hv1 : IntsAre vs1 (mkNs f1 s1 (K1 + 1))) (hv2 : IntsAre vs2 (mkNs f2 s2 (K2 + 1))) (hK1 : K1 < 10000) (hK2 : K2 < 10000) (hs1 : 1 ≤ s1) (hs2 : 1 ≤ s2) (hW1 : W < f1 + (K1 : Int) * s1) (hW2 : W < f2 + (K2 : Int) * s2) (hW : 1 ≤ W)
    (a1 : 1 ≤ f1) (a2 : f1 ≤ s1) (b1 : 1 ≤ f2) (b2 : f2 ≤ s2)
    (h : ∀ h' tk' gs' m' v, Fr g L h' m' → (AllBare s.gens → AllBare gs') → ((∃ x t, v = .int (x % W) t ∧ 1 ≤ x ∧ x ≤ W ∧ x % s1 = f1 % s1 ∧ x % s2 = f2 % s2) ∨ (v = .none ∧ ¬ ∃ x, 1 ≤ x ∧ x ≤ W ∧ x % s1 = f1 % s1 ∧ x % s2 = f2 % s2)) → Q (.ret v) { s with heap := h', toks := tk', gens := gs' }) :
    wpAny (model prog w) ((ktrTop dp un gd cn cs L0 a ccd cl outer).deeper (tEnv L)) (execs tHeap (tEnv L)) Q (fun _ _ => False) s := by
  show wpAny _ _ (execs (tMid ++ tTail) (tEnv L)) _ _ _
  refine wp_execs_append (met_mid (f1 := f1) (s1 := s1) (f2 := f2) (s2 := s2) B X T hr hu F N hv1 hv2 (fun h' tk' gs' m' hp cm tA tB ka kb ka' kb' kc kd km lst F' m1 m2 m3 m4 m5 N' hl hne hb => ?_))
  obtain ⟨n1, n2, n3, n4, n5, n6, n7, n8, n9, n10, n11⟩ := hne
  have hI : MQ f1 s1 f2 s2 W _ _ 0 := MQ.start hs1 hs2 a1 a2 b1 b2
  rw [hl] at N'
  have z : ((0 : Nat) : Int) = 0 := rfl
  by_cases hc : f2 + 0 * s2 < f1 + 0 * s1 ∨ f2 + 0 * s2 = f1 + 0 * s1 ∧ (1 : Int) < 0
  · rw [if_pos hc] at N'
    refine met_loop (s := { s with heap := h', toks := tk', gens := gs' }) (c₀ := ⟨true, 0, 0, 0, tA, tB, ka, ka', kb, kb', kc, kd, km⟩) (hp := hp) (cm := cm) (n := 0) (e := 0) (e1 := e1) (e2 := e2) (e3 := e3) B X T hr hu F' m1 m2 m3 m4 m5 (fun q hq => N' q ?_) hv1 hv2 hK1 hK2 hs1 hs2 hW1 hW2 hW n1 n2 n3 n4 n5 n6 n7 n8 n9 n10 n11 hI (Nat.zero_le _) (Nat.zero_le _) ?_ (fun h'' tk'' m'' v F'' hv => h h'' tk'' gs' m'' v F'' hb hv)
    · simp only [mLed, cond, z, List.mem_cons, List.not_mem_nil, or_false] at hq ⊢
      rcases hq with q | q | q | q | q | q | q <;> simp [q]
    · simp only [if_true, z]
      omega
  · rw [if_neg hc] at N'
    refine met_loop (s := { s with heap := h', toks := tk', gens := gs' }) (c₀ := ⟨false, 0, 0, 0, tB, tA, kb, kb', ka, ka', kc, kd, km⟩) (hp := hp) (cm := cm) (n := 0) (e := 0) (e1 := e1) (e2 := e2) (e3 := e3) B X T hr hu F' m1 m2 m3 m4 m5 (fun q hq => N' q ?_) hv1 hv2 hK1 hK2 hs1 hs2 hW1 hW2 hW n2 n1 n4 n3 n5 n6 n7 n8 n9 n10 n11 hI (Nat.zero_le _) (Nat.zero_le _) ?_ (fun h'' tk'' m'' v F'' hv => h h'' tk'' gs' m'' v F'' hb hv)
    · simp only [mLed, cond, z, List.mem_cons, List.not_mem_nil, or_false] at hq ⊢
      rcases hq with q | q | q | q | q | q | q <;> simp [q]
    · simp only [Bool.false_eq_true, if_false, z]
      omega
end Mine
end
section
open PySem PySem.W PySem.Spec PySem.Calls PyProof.Rows
set_option maxRecDepth 100000
set_option maxHeartbeats 8000000
namespace Mine
theorem rsMMet5 {M : Model} {A : Around} {Q : Flow → Shared → Prop} {E : Value → Shared → Prop} {s : Shared} {env : Env} (h : Q .next s) : wpAny M A (execs [] env) Q E s := by
  w_top off
  k_with_none
  walk1
  exact h
theorem fill9 : (PySem.Challenge.rw_qh0063_01, hd.heap_39) = (PySem.Challenge.rw_qh0063_01, hd.heap_39) := by k_fill; rfl

local macro_rules | `(tactic| walk_at "call ref") => `(tactic| (k_here; (with_reducible show wpAny _ _ (call (Value.ref 172) _) _ _ _); k_dflt (refine' Ctr.use (marks_c ?p1 ?p2 ?p3 ?p4) ?k1 ?k2 ?k3 ?k4 News.nil ?k5 ?k6 ?k7 ?k8 ?k9 ?_; (case p1 => omega); (case p2 => omega); (case p3 => omega); (case p4 => omega); (case k1 => k_asm); (case k2 => k_asm); (case k3 => k_asm); (case k4 => k_asm); (case k5 => k_asm); (case k6 => (intro q hq hn; cases hn)); (case k7 => exact rfl); (case k8 => ktr_room); (case k9 => ktr_units); k_whole; intro v9 out9 h9 tk9 gs9 hp9 F9 N9 d9 hb9; obtain ⟨l9, vs9, ep9, j9, e9, e8, hv9, hl9, hk9⟩ := hp9; subst e9 e8; simp only [List.cons_append, List.nil_append] at N9; clear d9)))

theorem met_rul {prog : Program} {w : World} {p : Program} {loose : List Str} {mean : ExcName → Option Value} {mg mb : Str → Option Value} {dp un : Nat} {gd : Option (List Code)}
    {cn : Str} {cs : Scope} {L0 a : Addr} {ccd : Value} {cl : List (Str × Addr)} {outer : List Env} {base g : Heap} {s : Shared} {Q : Flow → Shared → Prop}
    {L t1 t2 : Addr} {r1 s1 r2 s2 W : Int} {k0 k1 k2 k3 kw : Tok} {u : Str → Option Value}
    (B : Below (ktrTop dp un gd cn cs L0 a ccd cl outer) base (envX cn cs L0 a ccd cl :: outer) g) (X : (hd.heap_39 w.params).In g) (T : Top p loose mean mg mb g) (hr : dp + 6 < recursionLimit) (hu : un + 48 < cLine)
    (F : Fr g L s.heap (fun y => if y = Str.ofString "one" then some (.ref t1) else if y = Str.ofString "other" then some (.ref t2) else if y = Str.ofString "whole" then some (.int W kw) else u y))
    (N : News g L s.heap [(t1, tup [.int r1 k0, .int s1 k1]), (t2, tup [.int r2 k2, .int s2 k3])])
    (a1 : 1 ≤ s1) (a2 : s1 < 127) (b1 : 1 ≤ s2) (b2 : s2 < 127) (w1 : 1 ≤ W) (w2 : W < 5000)
    (h : ∀ h' tk' gs' m' rl R1 R2 vs1 vs2 e1 e2 K1 K2, Fr g L h' m' → m' (Str.ofString "rulers") = some (.ref rl) → m' (Str.ofString "whole") = some (.int W kw) →
      News g L h' [(rl, listOf [.ref R1, .ref R2].toArray 0), (R1, listOf vs1.toArray e1), (R2, listOf vs2.toArray e2)] →
      IntsAre vs1 (mkNs (if r1 % s1 = 0 then s1 else r1 % s1) s1 (K1 + 1)) → W < (if r1 % s1 = 0 then s1 else r1 % s1) + (K1 : Int) * s1 → (∀ k < K1, (if r1 % s1 = 0 then s1 else r1 % s1) + (k : Int) * s1 ≤ W) →
      IntsAre vs2 (mkNs (if r2 % s2 = 0 then s2 else r2 % s2) s2 (K2 + 1)) → W < (if r2 % s2 = 0 then s2 else r2 % s2) + (K2 : Int) * s2 → (∀ k < K2, (if r2 % s2 = 0 then s2 else r2 % s2) + (k : Int) * s2 ≤ W) →
      (AllBare s.gens → AllBare gs') → Q .next { s with heap := h', toks := tk', gens := gs' }) :
    wpAny (model prog w) ((ktrTop dp un gd cn cs L0 a ccd cl outer).deeper (tEnv L)) (execs tRul (tEnv L)) Q (fun _ _ => False) s := by
  unfold tEnv
  conv in tRul => whnf
  conv in (occs := *) tScope => all_goals whnf
  k_steps
  rename_i h1 tk1 gs1 hb1 l1 vs1 ep1 j1 hv1 hl1 hk1 h2 tk2 gs2 hb2 l2 vs2 ep2 j2 hv2 hl2 hk2 rl' h3 ll h4 F4 N4
  exact h _ tk _ _ _ _ _ _ _ _ _ _ _ F4 rfl rfl (news_h1 N4) hv1 hl1 hk1 hv2 hl2 hk2 (fun x => hb2 (hb1 x))

def tPre : List Stmt := match tBody with | a :: b :: c :: _ => [a, b, c] | _ => []

theorem first_bounds {r s : Int} (hs : 1 ≤ s) : 1 ≤ (if r % s = 0 then s else r % s) ∧ (if r % s = 0 then s else r % s) ≤ s := by
  have h1 := Int.emod_nonneg r (show s ≠ 0 by omega)
  have h2 := Int.emod_lt_of_pos r (show 0 < s by omega)
  split <;> omega
theorem first_mod {r s : Int} (hs : 1 ≤ s) : (if r % s = 0 then s else r % s) % s = r % s := by
  split
  · rename_i h; rw [Int.emod_self, h]
  · exact Int.emod_emod_of_dvd r (Int.dvd_refl s)
theorem count_bound {f s W : Int} {K : Nat} (hs : 1 ≤ s) (hf : 1 ≤ f) (hW : W < 5000) (h : ∀ k < K, f + (k : Int) * s ≤ W) : K < 10000 := by
  by_cases q : K = 0
  · omega
  · have h1 := h (K - 1) (by omega)
    have h2 := le_mul_step (j := K - 1) hs
    omega

abbrev MetPost (r1 s1 r2 s2 W : Int) (v : Value) : Prop :=
  (∃ x t, v = .int (x % W) t ∧ 1 ≤ x ∧ x ≤ W ∧ x % s1 = r1 % s1 ∧ x % s2 = r2 % s2) ∨ (v = .none ∧ ¬ ∃ x, 1 ≤ x ∧ x ≤ W ∧ x % s1 = r1 % s1 ∧ x % s2 = r2 % s2)

theorem met_preA {prog : Program} {w : World} {p : Program} {loose : List Str} {mean : ExcName → Option Value} {mg mb : Str → Option Value} {dp un : Nat} {gd : Option (List Code)}
    {cn : Str} {cs : Scope} {L0 a : Addr} {ccd : Value} {cl : List (Str × Addr)} {outer : List Env} {base g : Heap} {s : Shared} {Q : Flow → Shared → Prop}
    {L t1 t2 : Addr} {r1 r2 : Int} {k0 k1 k2 k3 : Tok} {u : Str → Option Value}
    (B : Below (ktrTop dp un gd cn cs L0 a ccd cl outer) base (envX cn cs L0 a ccd cl :: outer) g) (X : (hd.heap_39 w.params).In g) (T : Top p loose mean mg mb g) (hr : dp + 6 < recursionLimit) (hu : un + 48 < cLine)
    (F : Fr g L s.heap (fun y => if y = Str.ofString "one" then some (.ref t1) else if y = Str.ofString "other" then some (.ref t2) else u y))
    (N : News g L s.heap [(t1, tup [.int r1 k0, .int 14 k1]), (t2, tup [.int r2 k2, .int 17 k3])])
    (h : ∀ h' tk' m' kw, Fr g L h' m' → m' (Str.ofString "one") = some (.ref t1) → m' (Str.ofString "other") = some (.ref t2) → m' (Str.ofString "whole") = some (.int 238 kw) →
      News g L h' [(t1, tup [.int r1 k0, .int 14 k1]), (t2, tup [.int r2 k2, .int 17 k3])] → Q .next { s with heap := h', toks := tk' }) :
    wpAny (model prog w) ((ktrTop dp un gd cn cs L0 a ccd cl outer).deeper (tEnv L)) (execs tPre (tEnv L)) Q (fun _ _ => False) s := by
  unfold tEnv
  conv in tPre => whnf
  conv in (occs := *) tScope => all_goals whnf
  k_steps
  (rename Fr g L _ _ => F9); (rename News g L _ _ => N9)
  exact h _ _ _ _ F9 rfl rfl rfl (fun q hq => N9 q (by simp only [List.mem_cons, List.not_mem_nil, or_false] at hq ⊢; rcases hq with q | q <;> simp [q]))

theorem met_cA {w : World} {r1 r2 : Int} {t1 t2 : Addr} {k0 k1 k2 k3 : Tok} :
    Ctr w 179 [.ref t1, .ref t2] [(t1, tup [.int r1 k0, .int 14 k1]), (t2, tup [.int r2 k2, .int 17 k3])] 7 (fun v out => out = [] ∧ MetPost r1 14 r2 17 238 v) := by
  intro prog p loose mean mg mb dp un gd cn cs L a ccd cl outer base g s Q E B X T hst hsz N hk hr hu hret
  refine wpAny_noRaise ?_
  refine wpAny_call ?_
  k_dflt (refine' enterC (binds := [(Str.ofString "one", .ref t1), (Str.ofString "other", .ref t2)]) ?k1 ?k2 ?k3 ?k4 ?k5 ?k6 ?k7 ?k8 ?k9 ?kB ?_ ?c1 ?c2 ?c3 ?c4; (case k1 => k_asm); (case k2 => k_asm); (case k3 => k_asm); (case k4 => k_asm); (case k5 => k_asm); (case k6 => k_is); (case k7 => k_is); (case k8 => ktr_room); (case k9 => exact BindsTo.of_eq rfl); (case kB => exact locs rfl); (case c1 => decide); (case c2 => exact rfl); (case c3 => exact rfl); (case c4 => exact rfl); k_whole; intro L' h' F' N' l'; (try dsimp only))
  show wpAny _ _ (execs (tPre ++ (tRul ++ tHeap)) (tEnv L')) _ _ _
  refine wp_execs_append (met_preA B X T (by omega) (by omega) (fr_ifs F' [(Str.ofString "one", .ref t1), (Str.ofString "other", .ref t2)] (by intro q hq; simp only [List.mem_cons, List.not_mem_nil, or_false] at hq; rcases hq with rfl | rfl <;> rfl)) N' (fun h1 tk1 m1 kw F1 e1 e2 e3 N1 => ?_))
  dsimp only
  refine wp_execs_append (met_rul (kw := kw) B X T (by omega) (by omega) (fr_ifs F1 [(Str.ofString "one", .ref t1), (Str.ofString "other", .ref t2), (Str.ofString "whole", .int 238 kw)] (by intro q hq; simp only [List.mem_cons, List.not_mem_nil, or_false] at hq; rcases hq with rfl | rfl | rfl; exact e1; exact e2; exact e3)) N1 (by decide) (by decide) (by decide) (by decide) (by decide) (by decide)
    (fun h2 tk2 gs2 m2 rl R1 R2 vs1 vs2 ep1 ep2 K1 K2 F2 g1 g2 N2 v1 w1 x1 v2 w2 x2 hb => ?_))
  dsimp only
  have b1 := first_bounds (r := r1) (s := 14) (by decide)
  have b2 := first_bounds (r := r2) (s := 17) (by decide)
  refine met_heap (s := { s with heap := h2, toks := tk2, gens := gs2 }) (kw := kw) (K1 := K1) (K2 := K2) B X T (by omega) (by omega) (fr_ifs F2 [(Str.ofString "rulers", .ref rl), (Str.ofString "whole", .int 238 kw)] (by intro q hq; simp only [List.mem_cons, List.not_mem_nil, or_false] at hq; rcases hq with rfl | rfl; exact g1; exact g2)) N2 v1 v2
    (count_bound (by decide) b1.1 (by decide) x1) (count_bound (by decide) b2.1 (by decide) x2) (by decide) (by decide) w1 w2 (by decide) b1.1 b1.2 b2.1 b2.2 (fun h3 tk3 gs3 m3 v F3 hb3 hv => ?_)
  rw [first_mod (by decide), first_mod (by decide)] at hv
  exact hret v [] h3 tk3 gs3 F3.keep (fun q hq => by cases hq) ⟨rfl, hv⟩ (fun x => hb3 (hb x))

theorem met_preB {prog : Program} {w : World} {p : Program} {loose : List Str} {mean : ExcName → Option Value} {mg mb : Str → Option Value} {dp un : Nat} {gd : Option (List Code)}
    {cn : Str} {cs : Scope} {L0 a : Addr} {ccd : Value} {cl : List (Str × Addr)} {outer : List Env} {base g : Heap} {s : Shared} {Q : Flow → Shared → Prop}
    {L t1 t2 : Addr} {r1 r2 : Int} {k0 k1 k2 k3 : Tok} {u : Str → Option Value}
    (B : Below (ktrTop dp un gd cn cs L0 a ccd cl outer) base (envX cn cs L0 a ccd cl :: outer) g) (X : (hd.heap_39 w.params).In g) (T : Top p loose mean mg mb g) (hr : dp + 6 < recursionLimit) (hu : un + 48 < cLine)
    (F : Fr g L s.heap (fun y => if y = Str.ofString "one" then some (.ref t1) else if y = Str.ofString "other" then some (.ref t2) else u y))
    (N : News g L s.heap [(t1, tup [.int r1 k0, .int 15 k1]), (t2, tup [.int r2 k2, .int 63 k3])])
    (h : ∀ h' tk' m' kw, Fr g L h' m' → m' (Str.ofString "one") = some (.ref t1) → m' (Str.ofString "other") = some (.ref t2) → m' (Str.ofString "whole") = some (.int 315 kw) →
      News g L h' [(t1, tup [.int r1 k0, .int 15 k1]), (t2, tup [.int r2 k2, .int 63 k3])] → Q .next { s with heap := h', toks := tk' }) :
    wpAny (model prog w) ((ktrTop dp un gd cn cs L0 a ccd cl outer).deeper (tEnv L)) (execs tPre (tEnv L)) Q (fun _ _ => False) s := by
  unfold tEnv
  conv in tPre => whnf
  conv in (occs := *) tScope => all_goals whnf
  k_steps
  (rename Fr g L _ _ => F9); (rename News g L _ _ => N9)
  exact h _ _ _ _ F9 rfl rfl rfl (fun q hq => N9 q (by simp only [List.mem_cons, List.not_mem_nil, or_false] at hq ⊢; rcases hq with q | q <;> simp [q]))

theorem met_cB {w : World} {r1 r2 : Int} {t1 t2 : Addr} {k0 k1 k2 k3 : Tok} :
    Ctr w 179 [.ref t1, .ref t2] [(t1, tup [.int r1 k0, .int 15 k1]), (t2, tup [.int r2 k2, .int 63 k3])] 7 (fun v out => out = [] ∧ MetPost r1 15 r2 63 315 v) := by
  intro prog p loose mean mg mb dp un gd cn cs L a ccd cl outer base g s Q E B X T hst hsz N hk hr hu hret
  refine wpAny_noRaise ?_
  refine wpAny_call ?_
  k_dflt (refine' enterC (binds := [(Str.ofString "one", .ref t1), (Str.ofString "other", .ref t2)]) ?k1 ?k2 ?k3 ?k4 ?k5 ?k6 ?k7 ?k8 ?k9 ?kB ?_ ?c1 ?c2 ?c3 ?c4; (case k1 => k_asm); (case k2 => k_asm); (case k3 => k_asm); (case k4 => k_asm); (case k5 => k_asm); (case k6 => k_is); (case k7 => k_is); (case k8 => ktr_room); (case k9 => exact BindsTo.of_eq rfl); (case kB => exact locs rfl); (case c1 => decide); (case c2 => exact rfl); (case c3 => exact rfl); (case c4 => exact rfl); k_whole; intro L' h' F' N' l'; (try dsimp only))
  show wpAny _ _ (execs (tPre ++ (tRul ++ tHeap)) (tEnv L')) _ _ _
  refine wp_execs_append (met_preB B X T (by omega) (by omega) (fr_ifs F' [(Str.ofString "one", .ref t1), (Str.ofString "other", .ref t2)] (by intro q hq; simp only [List.mem_cons, List.not_mem_nil, or_false] at hq; rcases hq with rfl | rfl <;> rfl)) N' (fun h1 tk1 m1 kw F1 e1 e2 e3 N1 => ?_))
  dsimp only
  refine wp_execs_append (met_rul (kw := kw) B X T (by omega) (by omega) (fr_ifs F1 [(Str.ofString "one", .ref t1), (Str.ofString "other", .ref t2), (Str.ofString "whole", .int 315 kw)] (by intro q hq; simp only [List.mem_cons, List.not_mem_nil, or_false] at hq; rcases hq with rfl | rfl | rfl; exact e1; exact e2; exact e3)) N1 (by decide) (by decide) (by decide) (by decide) (by decide) (by decide)
    (fun h2 tk2 gs2 m2 rl R1 R2 vs1 vs2 ep1 ep2 K1 K2 F2 g1 g2 N2 v1 w1 x1 v2 w2 x2 hb => ?_))
  dsimp only
  have b1 := first_bounds (r := r1) (s := 15) (by decide)
  have b2 := first_bounds (r := r2) (s := 63) (by decide)
  refine met_heap (s := { s with heap := h2, toks := tk2, gens := gs2 }) (kw := kw) (K1 := K1) (K2 := K2) B X T (by omega) (by omega) (fr_ifs F2 [(Str.ofString "rulers", .ref rl), (Str.ofString "whole", .int 315 kw)] (by intro q hq; simp only [List.mem_cons, List.not_mem_nil, or_false] at hq; rcases hq with rfl | rfl; exact g1; exact g2)) N2 v1 v2
    (count_bound (by decide) b1.1 (by decide) x1) (count_bound (by decide) b2.1 (by decide) x2) (by decide) (by decide) w1 w2 (by decide) b1.1 b1.2 b2.1 b2.2 (fun h3 tk3 gs3 m3 v F3 hb3 hv => ?_)
  rw [first_mod (by decide), first_mod (by decide)] at hv
  exact hret v [] h3 tk3 gs3 F3.keep (fun q hq => by cases hq) ⟨rfl, hv⟩ (fun x => hb3 (hb x))

theorem met_preC {prog : Program} {w : World} {p : Program} {loose : List Str} {mean : ExcName → Option Value} {mg mb : Str → Option Value} {dp un : Nat} {gd : Option (List Code)}
    {cn : Str} {cs : Scope} {L0 a : Addr} {ccd : Value} {cl : List (Str × Addr)} {outer : List Env} {base g : Heap} {s : Shared} {Q : Flow → Shared → Prop}
    {L t1 t2 : Addr} {r1 r2 : Int} {k0 k1 k2 k3 : Tok} {u : Str → Option Value}
    (B : Below (ktrTop dp un gd cn cs L0 a ccd cl outer) base (envX cn cs L0 a ccd cl :: outer) g) (X : (hd.heap_39 w.params).In g) (T : Top p loose mean mg mb g) (hr : dp + 6 < recursionLimit) (hu : un + 48 < cLine)
    (F : Fr g L s.heap (fun y => if y = Str.ofString "one" then some (.ref t1) else if y = Str.ofString "other" then some (.ref t2) else u y))
    (N : News g L s.heap [(t1, tup [.int r1 k0, .int 15 k1]), (t2, tup [.int r2 k2, .int 65 k3])])
    (h : ∀ h' tk' m' kw, Fr g L h' m' → m' (Str.ofString "one") = some (.ref t1) → m' (Str.ofString "other") = some (.ref t2) → m' (Str.ofString "whole") = some (.int 195 kw) →
      News g L h' [(t1, tup [.int r1 k0, .int 15 k1]), (t2, tup [.int r2 k2, .int 65 k3])] → Q .next { s with heap := h', toks := tk' }) :
    wpAny (model prog w) ((ktrTop dp un gd cn cs L0 a ccd cl outer).deeper (tEnv L)) (execs tPre (tEnv L)) Q (fun _ _ => False) s := by
  unfold tEnv
  conv in tPre => whnf
  conv in (occs := *) tScope => all_goals whnf
  k_steps
  (rename Fr g L _ _ => F9); (rename News g L _ _ => N9)
  exact h _ _ _ _ F9 rfl rfl rfl (fun q hq => N9 q (by simp only [List.mem_cons, List.not_mem_nil, or_false] at hq ⊢; rcases hq with q | q <;> simp [q]))

theorem met_cC {w : World} {r1 r2 : Int} {t1 t2 : Addr} {k0 k1 k2 k3 : Tok} :
    Ctr w 179 [.ref t1, .ref t2] [(t1, tup [.int r1 k0, .int 15 k1]), (t2, tup [.int r2 k2, .int 65 k3])] 7 (fun v out => out = [] ∧ MetPost r1 15 r2 65 195 v) := by
  intro prog p loose mean mg mb dp un gd cn cs L a ccd cl outer base g s Q E B X T hst hsz N hk hr hu hret
  refine wpAny_noRaise ?_
  refine wpAny_call ?_
  k_dflt (refine' enterC (binds := [(Str.ofString "one", .ref t1), (Str.ofString "other", .ref t2)]) ?k1 ?k2 ?k3 ?k4 ?k5 ?k6 ?k7 ?k8 ?k9 ?kB ?_ ?c1 ?c2 ?c3 ?c4; (case k1 => k_asm); (case k2 => k_asm); (case k3 => k_asm); (case k4 => k_asm); (case k5 => k_asm); (case k6 => k_is); (case k7 => k_is); (case k8 => ktr_room); (case k9 => exact BindsTo.of_eq rfl); (case kB => exact locs rfl); (case c1 => decide); (case c2 => exact rfl); (case c3 => exact rfl); (case c4 => exact rfl); k_whole; intro L' h' F' N' l'; (try dsimp only))
  show wpAny _ _ (execs (tPre ++ (tRul ++ tHeap)) (tEnv L')) _ _ _
  refine wp_execs_append (met_preC B X T (by omega) (by omega) (fr_ifs F' [(Str.ofString "one", .ref t1), (Str.ofString "other", .ref t2)] (by intro q hq; simp only [List.mem_cons, List.not_mem_nil, or_false] at hq; rcases hq with rfl | rfl <;> rfl)) N' (fun h1 tk1 m1 kw F1 e1 e2 e3 N1 => ?_))
  dsimp only
  refine wp_execs_append (met_rul (kw := kw) B X T (by omega) (by omega) (fr_ifs F1 [(Str.ofString "one", .ref t1), (Str.ofString "other", .ref t2), (Str.ofString "whole", .int 195 kw)] (by intro q hq; simp only [List.mem_cons, List.not_mem_nil, or_false] at hq; rcases hq with rfl | rfl | rfl; exact e1; exact e2; exact e3)) N1 (by decide) (by decide) (by decide) (by decide) (by decide) (by decide)
    (fun h2 tk2 gs2 m2 rl R1 R2 vs1 vs2 ep1 ep2 K1 K2 F2 g1 g2 N2 v1 w1 x1 v2 w2 x2 hb => ?_))
  dsimp only
  have b1 := first_bounds (r := r1) (s := 15) (by decide)
  have b2 := first_bounds (r := r2) (s := 65) (by decide)
  refine met_heap (s := { s with heap := h2, toks := tk2, gens := gs2 }) (kw := kw) (K1 := K1) (K2 := K2) B X T (by omega) (by omega) (fr_ifs F2 [(Str.ofString "rulers", .ref rl), (Str.ofString "whole", .int 195 kw)] (by intro q hq; simp only [List.mem_cons, List.not_mem_nil, or_false] at hq; rcases hq with rfl | rfl; exact g1; exact g2)) N2 v1 v2
    (count_bound (by decide) b1.1 (by decide) x1) (count_bound (by decide) b2.1 (by decide) x2) (by decide) (by decide) w1 w2 (by decide) b1.1 b1.2 b2.1 b2.2 (fun h3 tk3 gs3 m3 v F3 hb3 hv => ?_)
  rw [first_mod (by decide), first_mod (by decide)] at hv
  exact hret v [] h3 tk3 gs3 F3.keep (fun q hq => by cases hq) ⟨rfl, hv⟩ (fun x => hb3 (hb x))
end Mine
end
section
open PySem PySem.W PySem.Spec PySem.Calls PyProof.Rows
open PySem.Builtin PySem.Builtin._codecs
set_option maxRecDepth 100000
set_option maxHeartbeats 4000000
namespace Mine
theorem rsMCodec {M : Model} {A : Around} {Q : Flow → Shared → Prop} {E : Value → Shared → Prop} {s : Shared} {env : Env} (h : Q .next s) : wpAny M A (execs [] env) Q E s := by
  w_top off
  k_with_none
  walk1
  exact h
theorem forIn_two {β : Type} (l : List Nat) (hl : l ≠ []) (f : Nat → β → Sem (ForInStep β)) (b0 b1 : β) (h1 : ∀ i, f i b0 = pure (.yield b1)) (h2 : ∀ i, f i b1 = pure (.done b1)) : forIn l b0 f = pure b1 := by
  cases l with
  | nil => exact absurd rfl hl
  | cons a r =>
    rw [List.forIn_cons, h1]
    simp only [pure_bind]
    cases r with
    | nil => rfl
    | cons b r => rw [List.forIn_cons, h2]; simp only [pure_bind]

theorem ascii_bad (c : Nat) (h : c < 128) : asciiCodec.bad c = false := by
  show decide (c ≥ 128) = false
  exact decide_eq_false (by omega)
theorem ascii_none (l : List Nat) (h : ∀ c ∈ l, c < 128) : Array.findIdx? asciiCodec.bad l.toArray = none := by
  rw [List.findIdx?_toArray, List.findIdx?_eq_none_iff]
  intro c hc
  exact ascii_bad c (h c hc)
theorem ascii_fold (l : List Nat) (acc : Array UInt8) : l.foldl (fun acc y => acc ++ (asciiCodec.bytesOf y).toArray) acc = acc ++ (l.map fun c => c.toUInt8).toArray := by
  induction l generalizing acc with
  | nil => simp
  | cons a r ih =>
    rw [List.foldl_cons, ih]
    show acc ++ [a.toUInt8].toArray ++ _ = _
    simp

theorem enc_ascii (id : String) (self : Value) (x : Nat) (xs : List Nat) (h : ∀ c ∈ x :: xs, c < 128) (hz : xs.length < 1000) :
    encodeNarrow id asciiCodec none self ⟨(x :: xs).toArray⟩ = pure (((x :: xs).map fun c => c.toUInt8).toArray) := by
  unfold encodeNarrow
  simp only [Std.Legacy.Range.forIn_eq_forIn_range', Std.Legacy.Range.size]
  rw [forIn_two (b1 := ((x :: xs).length, ((x :: xs).map fun c => c.toUInt8).toArray, {}))]
  · rfl
  · simp [Str.length]
  · intro i
    have e0 : ¬ ((#[] : Array UInt8).size > sizeLine) := by rw [sizeLine_eq]; decide
    have e1 : (x :: xs).toArray[0]? = some x := by simp
    have e2 : (x :: xs).toArray.extract 0 = (x :: xs).toArray := by simp
    simp only [e0, if_false, e1, ascii_bad x (h x (.head _)), Bool.not_false, if_true, e2, ascii_none _ h, Option.getD_none, Nat.zero_add]
    rw [List.foldl_toArray', ascii_fold]
    · simp
    · rfl
  · intro i
    have e1 : (x :: xs).toArray[(x :: xs).length]? = none := by simp
    have q : ¬ ((((x :: xs).map fun c => c.toUInt8).toArray).size > sizeLine) := by
      rw [sizeLine_eq]; simp; omega
    simp only [q, if_false, e1]

theorem encodeRoad_ascii (id : String) (self : Value) (x : PySem.Str) : encodeRoad id self x (PySem.Str.ofString "ascii") none = (do mkBytes (← encodeNarrow id asciiCodec none self x)) := by
  first | rfl | (unfold encodeRoad; rfl) | kernel_rfl
theorem encode_tree2 (x : PySem.Str) (t u : Tok) : «str.encode» ⟨[.str x t, .str (PySem.Str.ofString "ascii") u], []⟩ = (do ret (← encodeRoad "str.encode" (.str x t) x (PySem.Str.ofString "ascii") none)) := by
  first | rfl | kernel_rfl

section
variable {prog : Program} {w : World} {A : Around} {E : Value → Shared → Prop} {s : Shared}
theorem call_encode {x : Nat} {xs : List Nat} {t u : Tok} {Q : Value → Shared → Prop} (h : ∀ c ∈ x :: xs, c < 128) (hz : xs.length < 1000)
    (hq : ∀ t' tk', Q (.bytes (((x :: xs).map fun c => c.toUInt8).toArray) t') { s with toks := tk' }) :
    wpAny (model prog w) A (call (.builtin "str.encode") [.str ⟨(x :: xs).toArray⟩ t, .str (PySem.Str.ofString "ascii") u]) Q E s := by
  refine wpAny_call_entry F.slot_str_encode (typeIs_str _ _ _) F.entry_str_encode ?_ (F.args_str_encode_2 _ _)
  rw [encode_tree2, encodeRoad_ascii, enc_ascii _ _ _ _ h hz]
  simp only [pure_bind]
  refine wpAny_bind (wpAny_mkBytes (wpAny_pure ⟨_, rfl, hq _ _⟩) (by rw [sizeLine_eq]; simp; omega))

theorem slot_bytes_upper : Slot "bytes" "upper" "bytes.upper" :=
  .of (owner := "bytes") (n := "upper") (by rw [typeLookup_type, builtinLookup_eq_fast]; kernel_rfl) (by decide +kernel) (by decide +kernel) (by decide +kernel)
    (by first | exact .inl (by decide +kernel) | exact .inr (by decide +kernel)) (by rw [isSubtype_type]; kernel_rfl)
theorem type_bytes_upper : typeOf (.builtin "bytes.upper") = pure (.type "method_descriptor") := by show builtinType _ = _; rw [builtinType_eq_fast]; kernel_rfl
theorem entry_bytes_upper : entryFor table "bytes.upper" = some Builtin.«bytes.upper» := entryFor_of_tree (by kernel_rfl)
theorem args_bytes_upper_1 (a : Value) : argsOk "bytes.upper" ⟨[a], []⟩ := by
  unfold argsOk; rw [signature?_of (id := "bytes.upper") (n := ['r', 'e', 'p', 'p', 'u']) (o := ['s', 'e', 't', 'y', 'b']) (by kernel_rfl) FB.owner_bytes]; kernel_rfl

theorem meth_hex {M : Model} {b : Array UInt8} {t : Tok} {pl : Sem Bool} {Q : Value × List Value → Shared → Prop} (h : Q (.builtin "bytes.hex", [.bytes b t]) s) : wpAny M A (getMethod (.bytes b t) (PySem.Str.ofString "hex") pl) Q E s := by
  with_reducible exact KBd.method_of (.bytes b t) (typeIs_bytes _ _ _) FB.slot_bytes_hex FB.type_bytes_hex KBd.noRef h
theorem meth_upper {M : Model} {b : Array UInt8} {t : Tok} {pl : Sem Bool} {Q : Value × List Value → Shared → Prop} (h : Q (.builtin "bytes.upper", [.bytes b t]) s) : wpAny M A (getMethod (.bytes b t) (PySem.Str.ofString "upper") pl) Q E s := by
  with_reducible exact KBd.method_of (.bytes b t) (typeIs_bytes _ _ _) slot_bytes_upper type_bytes_upper KBd.noRef h

theorem meth_encode {M : Model} {x : PySem.Str} {t : Tok} {pl : Sem Bool} {Q : Value × List Value → Shared → Prop} (h : Q (.builtin "str.encode", [.str x t]) s) : wpAny M A (getMethod (.str x t) (PySem.Str.ofString "encode") pl) Q E s := by
  with_reducible exact GM.of (.str x t) (typeIs_str _ _ _) F.slot_str_encode F.type_str_encode GM.noRef h

noncomputable def hexCps : List UInt8 → List Nat
  | [] => []
  | b :: r => Bytes.hexDigit (b.toNat / 16) :: Bytes.hexDigit (b.toNat % 16) :: hexCps r
theorem hex_tree (b0 b1 b2 : UInt8) (t : Tok) : «bytes.hex» ⟨[.bytes #[b0, b1, b2] t], []⟩ = retStr ⟨(hexCps [b0, b1, b2]).toArray⟩ := by
  first | rfl | kernel_rfl
theorem call_hex {b0 b1 b2 : UInt8} {t : Tok} {Q : Value → Shared → Prop} (hq : ∀ t' tk', Q (.str ⟨(hexCps [b0, b1, b2]).toArray⟩ t') { s with toks := tk' }) :
    wpAny (model prog w) A (call (.builtin "bytes.hex") [.bytes #[b0, b1, b2] t]) Q E s := by
  refine wpAny_call_entry FB.slot_bytes_hex (typeIs_bytes _ _ _) FB.entry_bytes_hex ?_ (FB.args_bytes_hex_1 _)
  rw [hex_tree]
  unfold retStr
  exact wpAny_bind (wpAny_mkStr (wpAny_pure ⟨_, rfl, hq _ _⟩) (by rw [sizeLine_eq]; show 6 ≤ _; decide))
theorem upper_tree (b : Array UInt8) (t : Tok) : «bytes.upper» ⟨[.bytes b t], []⟩ = (do ret (← mkBytes (b.toList.map Bytes.toUpper).toArray)) := by
  first | rfl | kernel_rfl
theorem call_upper {b : Array UInt8} {t : Tok} {Q : Value → Shared → Prop} (hz : b.size < 1000) (hq : ∀ t' tk', Q (.bytes (b.toList.map Bytes.toUpper).toArray t') { s with toks := tk' }) :
    wpAny (model prog w) A (call (.builtin "bytes.upper") [.bytes b t]) Q E s := by
  refine wpAny_call_entry slot_bytes_upper (typeIs_bytes _ _ _) entry_bytes_upper ?_ (args_bytes_upper_1 _)
  rw [upper_tree]
  exact wpAny_bind (wpAny_mkBytes (wpAny_pure ⟨_, rfl, hq _ _⟩) (by rw [sizeLine_eq]; simp; omega))

theorem hexDigit_lt (d : Nat) (h : d < 16) : Bytes.hexDigit d < 128 := by
  unfold Bytes.hexDigit; split <;> omega
end

/-- the sign of a figure, base 16 -/
def sign16 (d : Nat) : UInt8 := (if d < 10 then 48 + d else 55 + d).toUInt8
theorem sign16_eq (d : Nat) (h : d < 16) : Bytes.toUpper ((Bytes.hexDigit d).toUInt8) = sign16 d := by
  have : ∀ d : Fin 16, Bytes.toUpper ((Bytes.hexDigit d.1).toUInt8) = sign16 d.1 := by decide
  exact this ⟨d, h⟩
noncomputable def figs16 : List UInt8 → List Nat
  | [] => []
  | b :: r => b.toNat / 16 :: b.toNat % 16 :: figs16 r
end Mine
end
section
open PySem PySem.W PySem.Spec PySem.Calls PyProof.Rows
open PySem.Builtin PySem.Builtin._codecs
set_option maxRecDepth 100000
set_option maxHeartbeats 4000000
namespace Mine
theorem rsMDecode {M : Model} {A : Around} {Q : Flow → Shared → Prop} {E : Value → Shared → Prop} {s : Shared} {env : Env} (h : Q .next s) : wpAny M A (execs [] env) Q E s := by
  w_top off
  k_with_none
  walk1
  exact h
theorem forIn_steps {β : Type} (f : Nat → β → Sem (ForInStep β)) (g : Nat → β) : ∀ (l : List Nat) (k : Nat), (∀ i, k ≤ i → i < k + l.length → ∀ x, f x (g i) = pure (.yield (g (i + 1)))) → forIn l (g k) f = pure (g (k + l.length))
  | [], k, _ => rfl
  | a :: r, k, h => by
    rw [List.forIn_cons, h k (Nat.le_refl _) (by simp)]
    simp only [pure_bind]
    rw [forIn_steps f g r (k + 1) (fun i h1 h2 x => h i (by omega) (by simp; omega) x)]
    simp only [List.length_cons]
    congr 2; omega
theorem find_ascii (b : Array UInt8) (i : Nat) (c : UInt8) (e : b.getD i 0 = c) (h : c.toNat < 128) : asciiDecoder.find true b i = .text [c.toNat] (i + 1) := by
  show (if (b.getD i 0).toNat < 128 then Found.char (b.getD i 0).toNat (i + 1) else _) = _
  rw [e, if_pos h]; rfl
theorem run_ascii (id : String) (l : List UInt8) (hl : ∀ c ∈ l, c.toNat < 128) (hz : l.length < 1000) :
    runDecoder id asciiDecoder none true l.toArray 0 [] = pure ((l.map fun c => c.toNat).toArray, l.length) := by
  unfold runDecoder
  simp only [Std.Legacy.Range.forIn_eq_forIn_range', Std.Legacy.Range.size]
  let g : Nat → Nat × Array Nat × Faults := fun i => (i, ((l.take i).map fun c => c.toNat).toArray, { held := [] })
  have e0 : ((0, #[], { held := [] }) : Nat × Array Nat × Faults) = g 0 := by simp [g]
  rw [e0]
  rw [forIn_steps _ g]
  · simp only [g, List.length_range', List.size_toArray, Nat.zero_add, Nat.sub_zero, Nat.add_sub_cancel, Nat.div_one, List.take_length, pure_bind]
  · intro i _ hi x
    have hi' : i < l.length := by simpa using hi
    have q1 : ¬ (((l.take i).map fun c => c.toNat).toArray.size > sizeLine) := by
      rw [sizeLine_eq]; simp; omega
    have q2 : ¬ (i ≥ l.toArray.size) := by simp; omega
    have q3 : l.toArray.getD i 0 = l[i] := by simp [Array.getD, hi']
    have q4 := find_ascii l.toArray i l[i] q3 (hl _ (List.getElem_mem hi'))
    simp only [g, q1, if_false, q2, q4, pure_bind]
    congr 3
    simp
    rw [List.take_add_one]
    simp [hi']
theorem road_ascii {id : String} {b : Array UInt8} : decodeRoad id b (PySem.Str.ofString "ascii") none [] = (runDecoder id asciiDecoder none true b 0 [] >>= fun r => mkStr ⟨r.1⟩) := by kernel_rfl
theorem meets_text2 {b : Array UInt8} {x : PySem.Str} {n : Nat} {t t1 t2 : Tok} {d : PySem.Str} (hd : ∀ id, runDecoder id asciiDecoder none true b 0 [] = pure (x.cps, n)) :
    Meets («_codecs.decode.text» ⟨[.bytes b t, .str (PySem.Str.ofString "ascii") t1, .none, .str d t2], []⟩) (fun _ R s => x.length ≤ sizeLine ∧ R (.ok (.ret (.str x s.toks))) { s with toks := s.toks + 1 }) := by
  refine .of_wp fun prog w A R s hS => ?_
  obtain ⟨hsz, h⟩ := hS
  show wpAny _ _ (Bytes.bytesLike _ (.bytes b t) >>= fun r => _) _ _ s
  refine wpAny_bind (wpAny_of_eq KBd.like_eq ?_)
  refine wpAny_bind (wpAny_of_eq KBd.held_eq ?_)
  show wpAny _ _ (decodeRoad _ b (PySem.Str.ofString "ascii") none [] >>= fun v => _) _ _ s
  rw [road_ascii, hd]
  refine wpAny_bind (wpAny_bind (wpAny_pure ?_))
  exact wpAny_mkStr (wpAny_pure ⟨_, rfl, h⟩) hsz
theorem entry_eq2 {c : UInt8} {cs : List UInt8} {t u : Tok} : «bytes.decode» ⟨[.bytes (c :: cs).toArray t, .str (PySem.Str.ofString "ascii") u], []⟩ = (mkStr (PySem.Str.ofString "utf-8") >>= fun _ => mkStr (PySem.Str.ofString "ascii") >>= fun e => mkStr (PySem.Str.ofString "bytes.decode") >>= fun d =>
    call (.builtin "_codecs.decode.text") [.bytes (c :: cs).toArray t, e, .none, d] >>= fun v => ret v) := by kernel_rfl
theorem args_bytes_decode_2 (a b : Value) : argsOk "bytes.decode" ⟨[a, b], []⟩ := by
  unfold argsOk; rw [signature?_of (id := "bytes.decode") (n := ['e', 'd', 'o', 'c', 'e', 'd']) (o := ['s', 'e', 't', 'y', 'b']) (by kernel_rfl) FB.owner_bytes]; kernel_rfl
theorem call_decode {prog : Program} {w : World} {A : Around} {E : Value → Shared → Prop} {s : Shared} {c : UInt8} {cs : List UInt8} {t u : Tok} {Q : Value → Shared → Prop} (hl : ∀ x ∈ c :: cs, x.toNat < 128) (hz : (c :: cs).length < 1000)
    (h : ∀ t' k, Q (.str ⟨((c :: cs).map fun c => c.toNat).toArray⟩ t') { s with toks := k }) :
    wpAny (model prog w) A (call (.builtin "bytes.decode") [.bytes (c :: cs).toArray t, .str (PySem.Str.ofString "ascii") u]) Q E s := by
  refine wpAny_call_entry FB.slot_bytes_decode (typeIs_bytes _ _ _) FB.entry_bytes_decode ?_ (args_bytes_decode_2 _ _)
  rw [entry_eq2]
  refine wpAny_bind (wpAny_mkStr ?_ (by decide))
  refine wpAny_bind (wpAny_mkStr ?_ (by decide))
  refine wpAny_bind (wpAny_mkStr ?_ (by decide))
  have hsz : PySem.Str.length ⟨((c :: cs).map fun c => c.toNat).toArray⟩ ≤ sizeLine := by
    rw [sizeLine_eq]; show Array.size _ ≤ _; simp at hz ⊢; omega
  exact wpAny_bind (call_function_meets KBd.kind_text KBd.plain_text KBd.entry_text (KBd.args_text _ _ _ _) (meets_text2 (x := ⟨((c :: cs).map fun c => c.toNat).toArray⟩) (n := (c :: cs).length) (fun id => run_ascii id _ hl hz)) ⟨hsz, wpAny_pure ⟨_, rfl, h _ _⟩⟩)
end Mine
end
section
open PySem PySem.W PySem.Spec PySem.Calls PyProof.Rows
set_option maxRecDepth 100000
set_option maxHeartbeats 8000000
namespace Mine
theorem rsMB16 {M : Model} {A : Around} {Q : Flow → Shared → Prop} {E : Value → Shared → Prop} {s : Shared} {env : Env} (h : Q .next s) : wpAny M A (execs [] env) Q E s := by
  w_top off
  k_with_none
  walk1
  exact h
theorem fill10 : (PySem.Challenge.rw_qh0063_01, hd.heap_39) = (PySem.Challenge.rw_qh0063_01, hd.heap_39) := by k_fill; rfl

theorem kw15 : True := by (k_with "call ref" => (k_here; (with_reducible show wpAny _ _ (call (Value.ref _) _) _ _ _); (refine wpAny_call ?_); k_dflt (refine' code_def ?k1z15 ?k2z15 ?k3z15 ?k4z15 ?k5z15 ?kAz15 ?kFz15 ?kKz15 ?k6z15 ?k7z15 ?k8z15 ?k9z15 ?kBz15 ?_ ?c2z15 ?c3z15 ?c4z15 ?c5z15; (case kAz15 => exact rfl); (case kFz15 => exact rfl); (case kKz15 => exact rfl); (case k1z15 => k_asm); (case k2z15 => k_asm); (case k3z15 => k_asm); (case k4z15 => k_asm); (case k5z15 => k_asm); (case k6z15 => k_is); (case k7z15 => k_is); (case k8z15 => ktr_room); (case k9z15 => first | exact BindsTo.of_eq rfl | exact binds_K (by k_in) rfl (by k_is) rfl rfl rfl); (case c5z15 => decide); (case kBz15 => exact locs rfl); (case c2z15 => exact rfl); (case c3z15 => exact rfl); (case c4z15 => exact rfl); k_whole; intro w9g' w9L' w9h' w9FG' w9F' w9N' w9B' w9X' w9T'; (try dsimp only); (try k_fold)))); trivial

theorem kw16 : True := by (k_with "call type:type" => (k_here; (with_reducible show wpAny _ _ (call _ [Value.bytes _ _]) _ _ _); k_dflt (refine call_type_of (Tx := "bytes") rfl (by decide +kernel) ?_))); trivial
theorem kw17 : True := by (k_with "compareOp Is ref ref" => (k_here; k_dflt (refine wpAny_is_ref_self ?_))); trivial
theorem hexCps_lt (b0 b1 b2 : UInt8) : ∀ c ∈ hexCps [b0, b1, b2], c < 128 := by
  have h0 := b0.toNat_lt
  have h1 := b1.toNat_lt
  have h2 := b2.toNat_lt
  intro c hc
  simp only [hexCps, List.mem_cons, List.not_mem_nil, or_false] at hc
  rcases hc with q | q | q | q | q | q <;> (rw [q]; exact hexDigit_lt _ (by omega))
theorem hexUp_eq (b0 b1 b2 : UInt8) : ((((hexCps [b0, b1, b2]).map fun c => c.toUInt8).toArray).toList.map Builtin.Bytes.toUpper) = (figs16 [b0, b1, b2]).map sign16 := by
  have h0 := b0.toNat_lt
  have h1 := b1.toNat_lt
  have h2 := b2.toNat_lt
  simp only [hexCps, figs16, List.map_cons, List.map_nil]
  rw [sign16_eq _ (by omega), sign16_eq _ (by omega), sign16_eq _ (by omega), sign16_eq _ (by omega), sign16_eq _ (by omega), sign16_eq _ (by omega)]

theorem kw18 : True := by (k_with "getMethod bytes" => (k_here; (with_reducible first | refine meth_hex ?_ | refine meth_upper ?_))); trivial
theorem kw19 : True := by (k_with "getMethod str" => (k_here; (with_reducible refine meth_encode ?_))); trivial
theorem kw20 : True := by (k_with "call builtin:bytes.hex" => (k_here; k_dflt (refine call_hex ?_; intro w9t9 w9tk9))); trivial
theorem kw21 : True := by (k_with "call builtin:str.encode" => (k_here; k_dflt (refine call_encode (hexCps_lt _ _ _) (show 5 < 1000 by decide) ?_; intro w9t9 w9tk9))); trivial
theorem kw22 : True := by (k_with "call builtin:bytes.upper" => (k_here; k_dflt (refine call_upper (show 6 < 1000 by decide) ?_; intro w9t9 w9tk9))); trivial

theorem b16_c {w : World} {b0 b1 b2 : UInt8} {k : Tok} :
    Ctr w 118 [.bytes #[b0, b1, b2] k] [] 5 (fun v out => out = [] ∧ ∃ t, v = .bytes ((figs16 [b0, b1, b2]).map sign16).toArray t) := by
  intro prog p loose mean mg mb dp un gd cn cs L a ccd cl outer base g s Q E B X T hst hsz N hk hr hu hret
  refine wpAny_noRaise ?_
  refine wpAny_call ?_
  k_dflt (refine' enterC (binds := [(Str.ofString "s", .bytes #[b0, b1, b2] k)]) ?k1 ?k2 ?k3 ?k4 ?k5 ?k6 ?k7 ?k8 ?k9 ?kB ?_ ?c1 ?c2 ?c3 ?c4; (case k1 => k_asm); (case k2 => k_asm); (case k3 => k_asm); (case k4 => k_asm); (case k5 => k_asm); (case k6 => k_is); (case k7 => k_is); (case k8 => ktr_room); (case k9 => exact BindsTo.of_eq rfl); (case kB => exact locs rfl); (case c1 => decide); (case c2 => exact rfl); (case c3 => exact rfl); (case c4 => exact rfl); k_whole; intro L' h' F' N' l'; (try dsimp only); (try k_fold))
  k_steps
  rename Fr g L' _ _ => F9
  exact hret _ [] _ _ _ F9.keep (fun q hq => nomatch hq) ⟨rfl, _, congrArg (fun l : List UInt8 => Value.bytes l.toArray _) (hexUp_eq b0 b1 b2)⟩ (fun x => x)

end Mine
end
section
open PySem PySem.W PySem.Spec PySem.Calls PyProof.Rows
set_option maxRecDepth 100000
set_option maxHeartbeats 8000000
namespace Mine
theorem rsMB64 {M : Model} {A : Around} {Q : Flow → Shared → Prop} {E : Value → Shared → Prop} {s : Shared} {env : Env} (h : Q .next s) : wpAny M A (execs [] env) Q E s := by
  w_top off
  k_with_none
  walk1
  exact h
theorem fill11 : (PySem.Challenge.rw_qh0063_01, hd.heap_39) = (PySem.Challenge.rw_qh0063_01, hd.heap_39) := by k_fill; rfl

theorem kw23 : True := by (k_with "call ref" => (k_here; (with_reducible show wpAny _ _ (call (Value.ref _) _ _) _ _ _); (refine wpAny_call ?_); k_dflt (refine' code_def ?k1z23 ?k2z23 ?k3z23 ?k4z23 ?k5z23 ?kAz23 ?kFz23 ?kKz23 ?k6z23 ?k7z23 ?k8z23 ?k9z23 ?kBz23 ?_ ?c2z23 ?c3z23 ?c4z23 ?c5z23; (case kAz23 => exact rfl); (case kFz23 => exact rfl); (case kKz23 => exact rfl); (case k1z23 => k_asm); (case k2z23 => k_asm); (case k3z23 => k_asm); (case k4z23 => k_asm); (case k5z23 => k_asm); (case k6z23 => k_is); (case k7z23 => k_is); (case k8z23 => ktr_room); (case k9z23 => first | exact BindsTo.of_eq rfl | exact binds_K (by k_in) rfl (by k_is) rfl rfl rfl); (case c5z23 => decide); (case kBz23 => exact locs rfl); (case c2z23 => exact rfl); (case c3z23 => exact rfl); (case c4z23 => exact rfl); k_whole; intro w9g' w9L' w9h' w9FG' w9F' w9N' w9B' w9X' w9T'; (try dsimp only); (try k_fold)))); trivial

theorem kw24 : True := by (k_with "call type:type" => (k_here; (with_reducible show wpAny _ _ (call _ [Value.bytes _ _]) _ _ _); k_dflt (refine call_type_of (Tx := "bytes") rfl (by decide +kernel) ?_))); trivial
theorem kw25 : True := by (k_with "compareOp Is ref ref" => (k_here; k_dflt (refine wpAny_is_ref_self ?_))); trivial

theorem iter_bytes3 {prog : Program} {w : World} {A : Around} {E : Value → Shared → Prop} {s : Shared} {env : Env} {h₀ : Heap} {x : PySem.Str} {body : List Stmt} {Q : Flow → Shared → Prop} {b0 b1 b2 : UInt8} {t : Tok} {m₀ : PySem.Str → Option Value} {news : List (Addr × Obj)} (hh : A.handled = none) (F : Fr h₀ env.locals s.heap m₀) (N : News h₀ env.locals s.heap news)
    (rest₀ : ∀ I : Addr, (∀ p ∈ news, p.1 < I) → BytesRest prog w A E h₀ env x body Q s I [(b0.toNat : Int), b1.toNat, b2.toNat] m₀ news) :
    wpAny (model prog w) A (pyIter (.bytes #[b0, b1, b2] t)) (fun it s₂ => LoopAtV prog w A h₀ env x body Q E it s₂) E s := iter_bytesUnr hh F N rfl rest₀
theorem kw26 : True := by (k_with "pyIter bytes" => (k_here; (with_reducible show wpAny _ _ (pyIter (Value.bytes _ _)) (fun it s₂ => LoopAtV _ _ _ _ _ _ _ _ _ it s₂) _ _); k_dflt ((rename Fr _ _ _ _ => lF'); (rename News _ _ _ _ => lN'); (refine iter_bytes3 rfl lF' lN' ?_); clear lF' lN'; intro w9i' w9l1; (try k_lt w9l1)))); trivial
def sign64 (d : Nat) : UInt8 := (if d < 26 then 65 + d else if d < 52 then 71 + d else if d < 62 then d - 4 else if d = 62 then 43 else 47).toUInt8
def figs64 : List UInt8 → List Nat
  | [b0, b1, b2] => [b0.toNat / 4, b0.toNat % 4 * 16 + b1.toNat / 16, b1.toNat % 16 * 4 + b2.toNat / 64, b2.toNat % 64]
  | _ => []
theorem b64_item {prog : Program} {w : World} {A : Around} {E : Value → Shared → Prop} {s : Shared} {value slice : Expr} {b : Array UInt8} {t ui : Tok} {x : Int} {Q : Value → Shared → Prop}
    (hb : KBw.bInts b = (List.range 64).map fun d => ((sign64 d).toNat : Int))
    (h : ∀ t' k, Q (.int ((sign64 (x % 64).toNat).toNat : Int) t') { s with toks := k })
    (hs : subscripted slice false (.bytes b t) (.int (Builtin.bitAnd x 63) ui) = operate [.bytes b t, .int (Builtin.bitAnd x 63) ui] (getItem (.bytes b t) (.int (Builtin.bitAnd x 63) ui)))
    (ht : ∀ r, letTemporaryGo value (.bytes b t) r = pure ()) : wpAny (model prog w) A (subscriptTail value slice (.bytes b t) (.int (Builtin.bitAnd x 63) ui)) Q E s := by
  rw [bitAnd_m6] at *
  have e : (x % 64).toNat < 64 := by omega
  refine KBw.item_K hb (by simp) (by omega) (by simp; omega) (fun t' k _ _ => ?_) hs ht
  rw [List.getD_eq_getElem?_getD, List.getElem?_map, List.getElem?_range e]
  exact h t' k
theorem kw27 : True := by (k_with "subscriptTail" => (k_here; (with_reducible show wpAny _ _ (subscriptTail _ _ (Value.bytes _ _) (Value.int _ _)) _ _ _); k_dflt (refine b64_item (by decide +kernel) ?_ (by with_unfolding_all rfl) (by intro _; with_unfolding_all rfl); intro w9t9 w9tk9))); trivial
theorem small16 (x : Int) : (Builtin.bitAnd x 65535).natAbs < 2 ^ 64 := by rw [bitAnd_m16]; omega
theorem kw28 : True := by (k_with "binaryOp LShift int int" => (k_here; k_dflt (refine lshift_int_small (by decide) (by decide) (small16 _) ?_))); trivial
theorem and_shift (k a b : Nat) (h : b < 2 ^ k) : (a * 2 ^ k) &&& b = 0 := by
  apply Nat.eq_of_testBit_eq
  intro i
  rw [Nat.testBit_and, Nat.testBit_mul_two_pow, Nat.zero_testBit]
  by_cases hi : k ≤ i
  · rw [Nat.testBit_lt_two_pow (Nat.lt_of_lt_of_le h (Nat.pow_le_pow_right (by decide) hi)), Bool.and_false]
  · rw [decide_eq_false hi]; rfl
theorem or_shift (k : Nat) (x y : Int) (hx : 0 ≤ x) (hy : 0 ≤ y) (h : y < 2 ^ k) : Builtin.bitOr (x * 2 ^ k) y = x * 2 ^ k + y := by
  obtain ⟨a, rfl⟩ := Int.eq_ofNat_of_zero_le hx
  obtain ⟨b, rfl⟩ := Int.eq_ofNat_of_zero_le hy
  have e : ((a : Int) * 2 ^ k) = ((a * 2 ^ k : Nat) : Int) := by push_cast; rfl
  rw [bitOr_and, e]
  have z : Builtin.bitAnd ((a * 2 ^ k : Nat) : Int) (b : Int) = 0 := by
    unfold Builtin.bitAnd
    rw [decide_eq_true (Int.natCast_nonneg _), decide_eq_true (Int.natCast_nonneg _)]
    show ((((a * 2 ^ k : Nat) : Int).toNat &&& (b : Int).toNat : Nat) : Int) = 0
    rw [Int.toNat_natCast, Int.toNat_natCast, and_shift k a b (by exact_mod_cast h)]
    rfl
  rw [z]; omega
theorem sign_in (d : UInt8) : (0 : Int) ≤ (d.toNat : Int) ∧ (d.toNat : Int) < 256 := by have := d.toNat_lt; omega
theorem sign_back (d : UInt8) : ((d.toNat : Int).toNat).toUInt8 = d := by simp
theorem kw29 : True := by (k_with "call type:bytes" => (k_here; (with_reducible show wpAny _ _ (call (Value.type _) [Value.ref _]) _ _ _); k_dflt (refine' bytes_K ?Fz29 ?Nz29 ?lz29 ?iz29 ?rz29 ?zz29 ?hz29 ?_; (case Fz29 => k_asm); (case Nz29 => k_asm); (case lz29 => is_list); (case iz29 => first | l_intsW | l_ints); (case rz29 => (intro w9n w9hn; simp only [List.mem_cons, List.not_mem_nil, or_false] at w9hn; rcases w9hn with w9hn | w9hn | w9hn | w9hn <;> (rw [w9hn]; exact sign_in _))); (case zz29 => (rw [sizeLine_eq]; show 4 ≤ _; decide)); (case hz29 => with_unfolding_all rfl); k_whole); intro w9h' w9t' w9k' w9F' w9N' w9hB'; (try dsimp only [List.map]); (try k_sweep))); trivial
theorem v16 (a : Int) (b : UInt8) (ha : 0 ≤ a) : Builtin.bitAnd (Builtin.bitOr (a * 2 ^ Int.toNat 8) b.toNat) 65535 = (a * 256 + b.toNat) % 65536 := by
  have h := b.toNat_lt
  have e : Int.toNat 8 = 8 := rfl
  rw [bitAnd_m16, e, or_shift 8 a b.toNat ha (by omega) (by omega)]
  rfl
theorem fdP (x n : Int) (k : Nat) (hn : n.toNat = k) : x.fdiv (2 ^ n.toNat) = x / ((2 ^ k : Nat) : Int) := by
  have e : ((2 : Int) ^ k) = ((2 ^ k : Nat) : Int) := by push_cast; rfl
  rw [hn, e, Int.fdiv_eq_ediv_of_nonneg _ (Int.natCast_nonneg _)]
theorem b64_figs (b0 b1 b2 : UInt8) (x0 x1 x2 x3 : Int) (e0 : x0 = (0 * 256 + (b0.toNat : Int)) % 65536) (e1 : x1 = (x0 * 256 + (b1.toNat : Int)) % 65536) (e2 : x2 = (x1 * 256 + (b2.toNat : Int)) % 65536) :
    [sign64 (x0 / 4 % 64).toNat, sign64 (x1 / 16 % 64).toNat, sign64 (x2 / 64 % 64).toNat, sign64 (x2 / 1 % 64).toNat] = (figs64 [b0, b1, b2]).map sign64 := by
  have h0 := b0.toNat_lt
  have h1 := b1.toNat_lt
  have h2 := b2.toNat_lt
  have q0 : (x0 / 4 % 64).toNat = b0.toNat / 4 := by omega
  have q1 : (x1 / 16 % 64).toNat = b0.toNat % 4 * 16 + b1.toNat / 16 := by omega
  have q2 : (x2 / 64 % 64).toNat = b1.toNat % 16 * 4 + b2.toNat / 64 := by omega
  have q3 : (x2 / 1 % 64).toNat = b2.toNat % 64 := by omega
  rw [q0, q1, q2, q3]; rfl
theorem kw30 : True := by (k_with "call builtin:list.append" => (k_here; (with_reducible show wpAny _ _ (call (Value.builtin _) [Value.ref _, _]) _ _ _); k_dflt (refine' append_K ?k1z30 ?k2z30 ?k3z30 ?_ ?zz30; (case k1z30 => k_asm); (case k2z30 => k_asm); (case k3z30 => k_upd); (case zz30 => first | exact Nat.le_of_ble_eq_true rfl | size_fits); k_whole); intro w9h' w9F' w9N'; (try k_sweep))); trivial
theorem b64_c {w : World} {b0 b1 b2 : UInt8} {k : Tok} :
    Ctr w 103 [.bytes #[b0, b1, b2] k] [] 5 (fun v out => out = [] ∧ ∃ t, v = .bytes ((figs64 [b0, b1, b2]).map sign64).toArray t) := by
  intro prog p loose mean mg mb dp un gd cn cs L a ccd cl outer base g s Q E B X T hst hsz N hk hr hu hret
  refine wpAny_noRaise ?_
  refine wpAny_call ?_
  k_dflt (refine' enterC (binds := [(Str.ofString "s", .bytes #[b0, b1, b2] k), (Str.ofString "altchars", .none)]) ?k1 ?k2 ?k3 ?k4 ?k5 ?k6 ?k7 ?k8 ?k9 ?kB ?_ ?c1 ?c2 ?c3 ?c4; (case k1 => k_asm); (case k2 => k_asm); (case k3 => k_asm); (case k4 => k_asm); (case k5 => k_asm); (case k6 => k_is); (case k7 => k_is); (case k8 => ktr_room); (case k9 => first | exact BindsTo.of_eq rfl | exact binds_K (X.keeps hst) rfl (by k_is) rfl rfl rfl); (case kB => exact locs rfl); (case c1 => decide); (case c2 => exact rfl); (case c3 => exact rfl); (case c4 => exact rfl); k_whole; intro L' h' F' N' l'; (try dsimp only); (try k_fold))
  k_steps
  show Q _ _
  rename Fr g L' _ _ => F9
  refine hret _ [] _ _ _ F9.keep (fun q hq => nomatch hq) ⟨rfl, _, congrArg (fun l : List UInt8 => Value.bytes l.toArray _) ?_⟩ (fun x => x)
  simp only [sign_back]
  rw [v16 0 b0 (by decide), v16 _ b1 (by omega), v16 _ b2 (by omega), fdP _ _ 2 rfl, fdP _ _ 4 rfl, fdP _ _ 6 rfl, fdP _ _ 0 rfl]
  exact b64_figs b0 b1 b2 _ _ _ 0 rfl rfl rfl
end Mine
end
section
open PySem PySem.W PySem.Spec PySem.Calls PyProof.Rows
set_option maxRecDepth 100000
set_option maxHeartbeats 8000000
namespace Mine
theorem rsMDec1 {M : Model} {A : Around} {Q : Flow → Shared → Prop} {E : Value → Shared → Prop} {s : Shared} {env : Env} (h : Q .next s) : wpAny M A (execs [] env) Q E s := by
  w_top off
  k_with_none
  walk1
  exact h
theorem fill12 : (PySem.Challenge.rw_qh0063_01, hd.heap_39) = (PySem.Challenge.rw_qh0063_01, hd.heap_39) := by k_fill; rfl
/-- what is known of the sign c of the figure d -/
def Sg (c d : Int) : Prop := (65 ≤ c ∧ c ≤ 90 ∧ d = c - 65) ∨ (97 ≤ c ∧ c ≤ 122 ∧ d = c - 71) ∨ (48 ≤ c ∧ c ≤ 57 ∧ d = c + 4) ∨ (c = 43 ∧ d = 62) ∨ (c = 47 ∧ d = 63)
theorem sg64 (d : Nat) (h : d < 64) : Sg ((sign64 d).toNat : Int) (d : Int) := by
  have : ∀ d : Fin 64, Sg ((sign64 d.1).toNat : Int) (d.1 : Int) := by unfold Sg; decide +kernel
  exact this ⟨d, h⟩
/-- a contract that leaves the generators alone -/
def CtrS (w : World) (f : Addr) (args : List Value) (k : Nat) (post : Value → Prop) : Prop :=
  ∀ (prog p : Program) (loose : List Str) (mean : ExcName → Option Value) (mg mb : Str → Option Value) (dp un : Nat) (gd : Option (List Code))
    (cn : Str) (cs : Scope) (L a : Addr) (ccd : Value) (cl : List (Str × Addr)) (outer : List Env) (base g : Heap) (s : Shared) (Q E : Value → Shared → Prop),
    Below (ktrTop dp un gd cn cs L a ccd cl outer) base (envX cn cs L a ccd cl :: outer) g → (hd.heap_39 w.params).In g → Top p loose mean mg mb g →
    g.StaysIn s.heap → g.objs.size ≤ s.heap.objs.size → cs.kind = .function → dp + k < recursionLimit → un + 8 * k < cLine →
    (∀ v h' tk', g.StaysIn h' → post v → Q v { s with heap := h', toks := tk' }) →
    wpAny (model prog w) (ktrTop dp un gd cn cs L a ccd cl outer) (call (.ref f) args) Q E s
theorem CtrS.use {prog : Program} {w : World} {A₀ : Around} {E : Value → Shared → Prop} {s : Shared} {base h₀ : Heap} {outer : List Env} {rest : List (Addr × Obj)}
    {p : Program} {loose : List Str} {mean : ExcName → Option Value} {mg mb : Str → Option Value} {L : Addr} {m : Str → Option Value} {f : Addr} {args : List Value} {k : Nat} {post : Value → Prop} {dp un : Nat} {gd : Option (List Code)}
    {cn : Str} {cs : Scope} {a : Addr} {ccd : Value} {cl : List (Str × Addr)} {Q : Value → Shared → Prop}
    (C : CtrS w f args k post) (B : Below A₀ base outer h₀) (F : Fr h₀ L s.heap m) (X : (hd.heap_39 w.params).In h₀) (T : Top p loose mean mg mb h₀)
    (N' : News h₀ L s.heap rest) (hk : cs.kind = .function) (hr : dp + k < recursionLimit) (hu : un + 8 * k < cLine)
    (ret : ∀ v h' tk', post v → Fr h₀ L h' m → News h₀ L h' rest → Q v { s with heap := h', toks := tk' }) :
    wpAny (model prog w) (ktrTop dp un gd cn cs L a ccd cl outer) (call (.ref f) args) Q E s := by
  obtain ⟨FG, BG, st, -⟩ := groundX (R := fun _ _ => True) (A := ktrTop dp un gd cn cs L a ccd cl outer) (env := envX cn cs L a ccd cl) B F (News.nil : News h₀ L s.heap []) rfl rfl hk
  refine C prog p loose mean mg mb dp un gd cn cs L a ccd cl outer base _ s Q E BG (X.keeps st) (T.keeps st) (fun b o e => of_hideAll _ e) (Nat.le_of_eq (hideAll_size _ _))
    hk hr hu (fun v h' tk' hst hp => ?_)
  obtain ⟨F1, N1, d1⟩ := afterC (out := []) F News.nil N' (fun q hq hn => nomatch hn) hst (fun q hq => nomatch hq)
  exact ret v h' tk' hp F1 N1
theorem b64v_c {w : World} {c d : Int} {k : Tok} (h : Sg c d) :
    CtrS w 70 [.int c k] 2 (fun v => ∃ t, v = .int d t) := by
  intro prog p loose mean mg mb dp un gd cn cs L a ccd cl outer base g s Q E B X T hst hsz hk hr hu hret
  have N : Led g s.heap [] := fun q hq => nomatch hq
  refine wpAny_noRaise ?_
  refine wpAny_call ?_
  k_dflt (refine' enterC (binds := [(Str.ofString "c", .int c k)]) ?k1 ?k2 ?k3 ?k4 ?k5 ?k6 ?k7 ?k8 ?k9 ?kB ?_ ?c1 ?c2 ?c3 ?c4; (case k1 => k_asm); (case k2 => k_asm); (case k3 => k_asm); (case k4 => k_asm); (case k5 => k_asm); (case k6 => k_is); (case k7 => k_is); (case k8 => ktr_room); (case k9 => exact BindsTo.of_eq rfl); (case kB => exact locs rfl); (case c1 => decide); (case c2 => exact rfl); (case c3 => exact rfl); (case c4 => exact rfl); k_whole; intro L' h' F' N' l'; (try dsimp only); (try k_fold))
  k_steps
  all_goals first
    | (exfalso; unfold Sg at h; omega)
    | (show Q _ _
       refine hret _ _ _ F'.keep ⟨_, congrArg (fun z : Int => Value.int z _) ?_⟩
       unfold Sg at h; omega)

end Mine
end
section
open PySem PySem.W PySem.Spec PySem.Calls PyProof.Rows
set_option maxRecDepth 100000
set_option maxHeartbeats 8000000
namespace Mine
theorem rsMDec2 {M : Model} {A : Around} {Q : Flow → Shared → Prop} {E : Value → Shared → Prop} {s : Shared} {env : Env} (h : Q .next s) : wpAny M A (execs [] env) Q E s := by
  w_top off
  k_with_none
  walk1
  exact h
theorem fill13 : (PySem.Challenge.rw_qh0063_01, hd.heap_39) = (PySem.Challenge.rw_qh0063_01, hd.heap_39) := by k_fill; rfl
theorem kw31 : True := by (k_with "call ref" => (k_here; (with_reducible show wpAny _ _ (call (Value.ref _) _ _) _ _ _); (refine wpAny_call ?_); k_dflt (refine' code_def ?k1z31 ?k2z31 ?k3z31 ?k4z31 ?k5z31 ?kAz31 ?kFz31 ?kKz31 ?k6z31 ?k7z31 ?k8z31 ?k9z31 ?kBz31 ?_ ?c2z31 ?c3z31 ?c4z31 ?c5z31; (case kAz31 => exact rfl); (case kFz31 => exact rfl); (case kKz31 => exact rfl); (case k1z31 => k_asm); (case k2z31 => k_asm); (case k3z31 => k_asm); (case k4z31 => k_asm); (case k5z31 => k_asm); (case k6z31 => k_is); (case k7z31 => k_is); (case k8z31 => ktr_room); (case k9z31 => first | exact BindsTo.of_eq rfl | exact binds_K (by k_in) rfl (by k_is) rfl rfl rfl); (case c5z31 => decide); (case kBz31 => exact locs rfl); (case c2z31 => exact rfl); (case c3z31 => exact rfl); (case c4z31 => exact rfl); k_whole; intro w9g' w9L' w9h' w9FG' w9F' w9N' w9B' w9X' w9T'; (try dsimp only); (try k_fold)))); trivial
theorem kw32 : True := by (k_with "call ref" => (k_here; (with_reducible show wpAny _ _ (call (Value.ref 78) _ _) _ _ _); (refine wpAny_call ?_); k_dflt (refine' code_def (binds := [(Str.ofString "data", _), (Str.ofString "strict_mode", _)]) ?k1z32 ?k2z32 ?k3z32 ?k4z32 ?k5z32 ?kAz32 ?kFz32 ?kKz32 ?k6z32 ?k7z32 ?k8z32 ?k9z32 ?kBz32 ?_ ?c2z32 ?c3z32 ?c4z32 ?c5z32; (case kAz32 => exact rfl); (case kFz32 => exact rfl); (case kKz32 => exact rfl); (case k1z32 => k_asm); (case k2z32 => k_asm); (case k3z32 => k_asm); (case k4z32 => k_asm); (case k5z32 => k_asm); (case k6z32 => k_is); (case k7z32 => k_is); (case k8z32 => ktr_room); (case k9z32 => first | exact BindsTo.of_eq rfl | exact binds_K (by k_in) rfl (by k_is) rfl rfl rfl); (case c5z32 => decide); (case kBz32 => exact locs rfl); (case c2z32 => exact rfl); (case c3z32 => exact rfl); (case c4z32 => exact rfl); k_whole; intro w9g' w9L' w9h' w9FG' w9F' w9N' w9B' w9X' w9T'; (try dsimp only); (try k_fold)))); trivial
theorem kw33 : True := by (k_with "call ref" => (k_here; (with_reducible show wpAny _ _ (call (Value.ref 70) _) _ _ _); k_dflt (refine' CtrS.use (b64v_c ?p1z33) ?k1z33 ?k2z33 ?k3z33 ?k4z33 ?k5z33 ?k7z33 ?k8z33 ?k9z33 ?_; (case p1z33 => exact sg64 _ (by assumption)); (case k1z33 => k_asm); (case k2z33 => k_asm); (case k3z33 => k_asm); (case k4z33 => k_asm); (case k5z33 => k_asm); (case k7z33 => exact rfl); (case k8z33 => ktr_room); (case k9z33 => ktr_units); k_whole; intro w9v9 w9h9 w9tk9 w9hp9 w9F9 w9N9; obtain ⟨t9, e8⟩ := w9hp9; subst e8))); trivial
theorem kw34 : True := by (k_with "call type:type" => (k_here; (with_reducible show wpAny _ _ (call _ [Value.bytes _ _]) _ _ _); k_dflt (refine call_type_of (Tx := "bytes") rfl (by decide +kernel) ?_))); trivial
theorem iter_bytes4 {prog : Program} {w : World} {A : Around} {E : Value → Shared → Prop} {s : Shared} {env : Env} {h₀ : Heap} {x : PySem.Str} {body : List Stmt} {Q : Flow → Shared → Prop} {b0 b1 b2 b3 : UInt8} {t : Tok} {m₀ : PySem.Str → Option Value} {news : List (Addr × Obj)} (hh : A.handled = none) (F : Fr h₀ env.locals s.heap m₀) (N : News h₀ env.locals s.heap news)
    (rest₀ : ∀ I : Addr, (∀ p ∈ news, p.1 < I) → BytesRest prog w A E h₀ env x body Q s I [(b0.toNat : Int), b1.toNat, b2.toNat, b3.toNat] m₀ news) :
    wpAny (model prog w) A (pyIter (.bytes #[b0, b1, b2, b3] t)) (fun it s₂ => LoopAtV prog w A h₀ env x body Q E it s₂) E s := iter_bytesUnr hh F N rfl rest₀
theorem kw35 : True := by (k_with "pyIter bytes" => (k_here; (with_reducible show wpAny _ _ (pyIter (Value.bytes _ _)) (fun it s₂ => LoopAtV _ _ _ _ _ _ _ _ _ it s₂) _ _); k_dflt ((rename Fr _ _ _ _ => lF'); (rename News _ _ _ _ => lN'); (refine iter_bytes4 rfl lF' lN' ?_); clear lF' lN'; intro w9i' w9l1; (try k_lt w9l1)))); trivial
theorem kw36 : True := by (k_with "getMethod str" => (k_here; (with_reducible refine meth_encode ?_))); trivial

section
variable {prog : Program} {w : World} {A : Around} {E : Value → Shared → Prop} {s : Shared}
theorem eq_no {a b : Int} {t u : Tok} {Q : Value → Shared → Prop} (h : a ≠ b) (q : Q (.bool false) s) : wpAny (model prog w) A (compareOp .Eq (.int a t) (.int b u)) Q E s := by
  refine PyProof.Rows.eq_int ?_
  have e : (a == b) = false := by simpa using h
  rw [e]; exact q
theorem ge_no {a b : Int} {t u : Tok} {Q : Value → Shared → Prop} (h : a < b) (q : Q (.bool false) s) : wpAny (model prog w) A (compareOp .GtE (.int a t) (.int b u)) Q E s := by
  refine PyProof.Rows.ge_int ?_
  have e : decide (a ≥ b) = false := by simp; omega
  rw [e]; exact q
end
theorem kw37 : True := by (k_with "compareOp Eq int int" => (k_here; k_dflt (refine eq_no (by assumption) ?_))); trivial
theorem kw38 : True := by (k_with "compareOp GtE int int" => (k_here; k_dflt (refine ge_no (by omega) ?_))); trivial
theorem small4 (d : Nat) (h : d < 64) : (Builtin.bitAnd (d : Int) 15).natAbs < 2 ^ 64 := by rw [bitAnd_m4]; omega
theorem small2 (d : Nat) (h : d < 64) : (Builtin.bitAnd (d : Int) 3).natAbs < 2 ^ 64 := by rw [bitAnd_m2]; omega
theorem kw39 : True := by (k_with "binaryOp LShift int int" => (k_here; k_dflt (refine lshift_int_small (by decide) (by decide) (by first | omega | exact small4 _ (by assumption) | exact small2 _ (by assumption)) ?_))); trivial
theorem o0 (d0 d1 : Nat) (h0 : d0 < 64) (h1 : d1 < 64) : Builtin.bitOr ((d0 : Int) * 2 ^ Int.toNat 2) ((d1 : Int).fdiv (2 ^ Int.toNat 4)) = ((d0 * 4 + d1 / 16 : Nat) : Int) := by
  have e : Int.toNat 2 = 2 := rfl
  rw [fdP _ _ 4 rfl, e, or_shift 2 _ _ (by omega) (by omega) (by omega)]
  omega
theorem o1 (d1 d2 : Nat) (h1 : d1 < 64) (h2 : d2 < 64) : Builtin.bitOr (Builtin.bitAnd (d1 : Int) 15 * 2 ^ Int.toNat 4) ((d2 : Int).fdiv (2 ^ Int.toNat 2)) = ((d1 % 16 * 16 + d2 / 4 : Nat) : Int) := by
  have e : Int.toNat 4 = 4 := rfl
  rw [fdP _ _ 2 rfl, e, bitAnd_m4, or_shift 4 _ _ (by omega) (by omega) (by omega)]
  omega
theorem o2 (d2 d3 : Nat) (h2 : d2 < 64) (h3 : d3 < 64) : Builtin.bitOr (Builtin.bitAnd (d2 : Int) 3 * 2 ^ Int.toNat 6) (d3 : Int) = ((d2 % 4 * 64 + d3 : Nat) : Int) := by
  have e : Int.toNat 6 = 6 := rfl
  rw [e, bitAnd_m2, or_shift 6 _ _ (by omega) (by omega) (by omega)]
  omega
theorem oB (k : Nat) (h : k < 256) : (0 : Int) ≤ (k : Int) ∧ (k : Int) < 256 := by omega
theorem kw40 : True := by (k_with "call type:bytes" => (k_here; (with_reducible show wpAny _ _ (call (Value.type _) [Value.ref _]) _ _ _); k_dflt (refine' bytes_K ?Fz40 ?Nz40 ?lz40 ?iz40 ?rz40 ?zz40 ?hz40 ?_; (case Fz40 => k_asm); (case Nz40 => k_asm); (case lz40 => is_list); (case iz40 => first | l_intsW | l_ints); (case rz40 => (intro w9n w9hn; simp only [List.mem_cons, List.not_mem_nil, or_false] at w9hn; rcases w9hn with w9hn | w9hn | w9hn <;> (rw [w9hn]; first | (rw [o0 _ _ (by assumption) (by assumption)]; refine oB _ ?_; omega) | (rw [o1 _ _ (by assumption) (by assumption)]; refine oB _ ?_; omega) | (rw [o2 _ _ (by assumption) (by assumption)]; refine oB _ ?_; omega)))); (case zz40 => (rw [sizeLine_eq]; show 3 ≤ _; decide)); (case hz40 => with_unfolding_all rfl); k_whole); intro w9h' w9t' w9k' w9F' w9N' w9hB'; (try dsimp only [List.map]); (try k_sweep))); trivial
/-- the octets of four figures -/
def oct (d0 d1 d2 d3 : Nat) : List UInt8 := [(d0 * 4 + d1 / 16).toUInt8, (d1 % 16 * 16 + d2 / 4).toUInt8, (d2 % 4 * 64 + d3).toUInt8]
theorem s64_top (d : Nat) (h : d < 64) : (sign64 d).toNat < 128 := by
  have : ∀ d : Fin 64, (sign64 d.1).toNat < 128 := by decide +kernel
  exact this ⟨d, h⟩
theorem cps_lt (d0 d1 d2 d3 : Nat) (h0 : d0 < 64) (h1 : d1 < 64) (h2 : d2 < 64) (h3 : d3 < 64) : ∀ c ∈ [(sign64 d0).toNat, (sign64 d1).toNat, (sign64 d2).toNat, (sign64 d3).toNat], c < 128 := by
  intro x hx
  simp only [List.mem_cons, List.not_mem_nil, or_false] at hx
  rcases hx with q | q | q | q <;> (rw [q]; exact s64_top _ (by assumption))
theorem sg61 (d : Nat) (h : d < 64) : ((sign64 d).toNat : Int) ≠ 61 := by
  have g := sg64 d h
  unfold Sg at g
  omega
theorem sign_nat (d : UInt8) : d.toNat.toUInt8 = d := by simp
theorem enc4 {prog : Program} {w : World} {A : Around} {E : Value → Shared → Prop} {s : Shared} {d0 d1 d2 d3 : Nat} {t u : Tok} {Q : Value → Shared → Prop} (h0 : d0 < 64) (h1 : d1 < 64) (h2 : d2 < 64) (h3 : d3 < 64)
    (hq : ∀ t' tk', Q (.bytes #[sign64 d0, sign64 d1, sign64 d2, sign64 d3] t') { s with toks := tk' }) :
    wpAny (model prog w) A (call (.builtin "str.encode") [.str ⟨#[(sign64 d0).toNat, (sign64 d1).toNat, (sign64 d2).toNat, (sign64 d3).toNat]⟩ t, .str (PySem.Str.ofString "ascii") u]) Q E s := by
  refine call_encode (cps_lt d0 d1 d2 d3 h0 h1 h2 h3) (show 3 < 1000 by decide) (fun t' tk' => ?_)
  have := hq t' tk'
  simp only [List.map, sign_nat]
  exact this
theorem kw41 : True := by (k_with "call builtin:str.encode" => (k_here; k_dflt (refine enc4 (by assumption) (by assumption) (by assumption) (by assumption) ?_; intro w9t9 w9tk9))); trivial

theorem kw42 : True := by (k_with "call builtin:list.append" => (k_here; (with_reducible show wpAny _ _ (call (Value.builtin _) [Value.ref _, _]) _ _ _); k_dflt (refine' append_K ?k1z42 ?k2z42 ?k3z42 ?_ ?zz42; (case k1z42 => k_asm); (case k2z42 => k_asm); (case k3z42 => k_upd); (case zz42 => first | exact Nat.le_of_ble_eq_true rfl | size_fits); k_whole); intro w9h' w9F' w9N'; (try k_sweep))); trivial
theorem dec_c {w : World} {d0 d1 d2 d3 : Nat} {k : Tok} (h0 : d0 < 64) (h1 : d1 < 64) (h2 : d2 < 64) (h3 : d3 < 64) :
    Ctr w 111 [.str ⟨#[(sign64 d0).toNat, (sign64 d1).toNat, (sign64 d2).toNat, (sign64 d3).toNat]⟩ k] [] 6 (fun v out => out = [] ∧ ∃ t, v = .bytes (oct d0 d1 d2 d3).toArray t) := by
  intro prog p loose mean mg mb dp un gd cn cs L a ccd cl outer base g s Q E B X T hst hsz N hk hr hu hret
  have n0 := sg61 d0 h0
  have n1 := sg61 d1 h1
  have n2 := sg61 d2 h2
  have n3 := sg61 d3 h3
  refine wpAny_noRaise ?_
  refine wpAny_call ?_
  k_dflt (refine' enterC (binds := [(Str.ofString "s", .str ⟨#[(sign64 d0).toNat, (sign64 d1).toNat, (sign64 d2).toNat, (sign64 d3).toNat]⟩ k), (Str.ofString "altchars", .none), (Str.ofString "validate", .bool false)]) ?k1 ?k2 ?k3 ?k4 ?k5 ?k6 ?k7 ?k8 ?k9 ?kB ?_ ?c1 ?c2 ?c3 ?c4; (case k1 => k_asm); (case k2 => k_asm); (case k3 => k_asm); (case k4 => k_asm); (case k5 => k_asm); (case k6 => k_is); (case k7 => k_is); (case k8 => ktr_room); (case k9 => first | exact BindsTo.of_eq rfl | exact binds_K (X.keeps hst) rfl (by k_is) rfl rfl rfl); (case kB => exact locs rfl); (case c1 => decide); (case c2 => exact rfl); (case c3 => exact rfl); (case c4 => exact rfl); k_whole; intro L' h' F' N' l'; (try dsimp only); (try k_fold))
  k_steps
  show Q _ _
  rename Fr g L' _ _ => F9
  refine hret _ [] _ _ _ F9.keep (fun q hq => nomatch hq) ⟨rfl, _, congrArg (fun l : List UInt8 => Value.bytes l.toArray _) ?_⟩ (fun x => x)
  rw [o0 d0 d1 h0 h1, o1 d1 d2 h1 h2, o2 d2 d3 h2 h3]
  rfl
end Mine
end
section
open PySem PySem.W PySem.Spec PySem.Calls PyProof.Rows
set_option maxRecDepth 100000
set_option maxHeartbeats 8000000
namespace Mine
theorem rsMComp {M : Model} {A : Around} {Q : Flow → Shared → Prop} {E : Value → Shared → Prop} {s : Shared} {env : Env} (h : Q .next s) : wpAny M A (execs [] env) Q E s := by
  w_top off
  k_with_none
  walk1
  exact h
open LCg
section
variable {prog : Program} {w : World} {A : Around} {E : Value → Shared → Prop} {s : Shared} {h₀ : Heap} {L : Addr} {m : Str → Option Value} {env : Env}
/-- the source of a comprehension is a text of ASCII signs -/
def SrcS (prog : Program) (w : World) (A : Around) (h₀ : Heap) (L : Addr) (m : Str → Option Value) (env : Env) (elt : Expr) (x : Str) (scope : Scope) (cl : List (Str × Addr)) (Fin : Shared → List Value → List (Addr × Obj) → Prop) (xv : Value) (s₁ : Shared) : Prop :=
  ∃ (cps : List Nat) (t : Tok) (news : List (Addr × Obj)), xv = .str ⟨cps.toArray⟩ t ∧ A.handled = none ∧ Fr h₀ L s₁.heap m ∧ News h₀ L s₁.heap news ∧ cps.length < 1000 ∧ (∀ c ∈ cps, c < 128) ∧
    ∀ s₂ : Shared, (∃ h, s₂ = { s₁ with heap := h }) → CompRest prog w A h₀ L m env elt x scope cl s₂ (fun _ => True) (fun i v => ∃ t, v = .str ⟨#[cps.getD i 0]⟩ t) (Fin s₂) cps.length 0 [] news
theorem str_walks {I : Addr} (hh : A.handled = none) (cps : List Nat) (t : Tok) : Walks prog w A I [I] [I] cps.length (fun i v => ∃ t, v = .str ⟨#[cps.getD i 0]⟩ t) (fun i h => h.IsStrIter I "str_ascii_iterator" ⟨cps.toArray⟩ t i) :=
  let W := Walks.strAscii (prog := prog) (w := w) hh I ⟨cps.toArray⟩ t
  { sub := W.sub, frame := W.frame, done := W.done, self := W.self,
    item := fun i s Q E hi st hQ => W.item i s Q E hi st fun v h' tk hP => hQ v h' tk (by
      obtain ⟨c, u, e, rfl⟩ := hP
      refine ⟨u, ?_⟩
      have e' : cps[i]? = some c := by simpa using e
      rw [List.getD_eq_getElem?_getD, e']; rfl) }
theorem str_st {I : Addr} {cps : List Nat} {t : Tok} : ∀ i (h h' : Heap) (o : Obj) (nw : List (Addr × Obj)), h.IsStrIter I "str_ascii_iterator" ⟨cps.toArray⟩ t i → h.get? I = some o → h'.get? I = some o → (∀ b o, h₀.get? b = some o → h'.get? b = some o) → News h₀ L h' nw → True → h'.IsStrIter I "str_ascii_iterator" ⟨cps.toArray⟩ t i :=
  fun i h h' o nw st e e' _ _ _ => by
    obtain ⟨o', q, r⟩ := st
    rw [e] at q; cases q
    exact ⟨o, e', r⟩
theorem ListComp_S {elt iter : Expr} {x : Str} {px : Pos} {scope : Scope} {cl : List (Str × Addr)} {pos : Pos} {Q : Value → Shared → Prop} (F₀ : Fr h₀ L s.heap m)
    (hclos : closureFor scope env = pure cl) (hcell : ∀ y ∈ scope.names, y.2 ≠ .cell) (hkind : scope.kind = .function)
    (hnames : ∀ y ∈ scope.names, y.2 = .local → scope.names.lookup y.1 = some .local) (hx : scope.names.lookup x = some .local)
    (h : wpAny (model prog w) A (eval iter env) (SrcS prog w A h₀ L m env elt x scope cl (fun s₂ => FinE h₀ L m s₂ Q)) E s)
    (hs : ∀ x, foldedSetIterable iter env x = pure x := by intro _; rfl) :
    wpAny (model prog w) A (eval (.ListComp elt [⟨.Name x px, iter, [], 0⟩] scope pos) env) Q E s := by
  rw [eval_ListComp]
  refine wpAny_comprehension_free (use := none) rfl hs hclos hkind hnames (wpAny_mono h (fun xv s₁ h₁ => ?_) fun _ _ e => e)
  obtain ⟨cps, t, news, rfl, hh, F, N, hsz, hc, R⟩ := h₁
  have ha : (⟨cps.toArray⟩ : Str).cps.all (· < 128) = true := by
    show cps.toArray.all _ = true
    simpa using hc
  refine wpAny_pyIter_ascii ha ?_
  refine block_U (str_walks hh cps t) (by rw [sizeLine_eq]; omega) (fun i h st => by obtain ⟨o, e, _⟩ := st; exact ⟨o, e⟩) str_st hcell hkind hx ⟨_, Heap.get?_push_size _ rfl, rfl, rfl⟩ (fun b hb => ?_)
    (F.keeps fun _ _ e => Heap.get?_push_of_some _ e) (N.grown fun _ _ e => Heap.get?_push_of_some _ e) (Nat.ne_of_lt F.ns.lt) (next_is_new F) (fun p hp => Nat.ne_of_lt (Heap.lt_size (N p hp).1)) trivial (R _ ⟨_, rfl⟩) ?_
  · rw [List.mem_singleton.mp hb]
    show s₁.heap.objs.size < (s₁.heap.push _).objs.size
    rw [Heap.size_push]; exact Nat.lt_succ_self _
  · intro D C h tk m' ys news' F' N' o1 hn hC₀ hD₀ hCL hDL hCD offC fin
    refine ⟨m', hn, fun h'' hs'' => fin D h'' tk (F'.change hs'' hCL hC₀) (fun p hp => ?_) o1⟩
    refine ⟨hs''.extBut _ _ ?_ (N' p hp).1, (N' p hp).2⟩
    rcases List.mem_cons.mp hp with rfl | hp
    · exact Ne.symm hCD
    · exact offC p hp
theorem SrcS.intro {elt : Expr} {x : Str} {scope : Scope} {cl : List (Str × Addr)} {Fin : Shared → List Value → List (Addr × Obj) → Prop} {cps : List Nat} {t : Tok} {news : List (Addr × Obj)} {s₁ : Shared}
    (hh : A.handled = none) (F : Fr h₀ L s₁.heap m) (N : News h₀ L s₁.heap news) (hsz : cps.length < 1000) (hc : ∀ c ∈ cps, c < 128)
    (h : ∀ g, CompRest prog w A h₀ L m env elt x scope cl { s₁ with heap := g } (fun _ => True) (fun i v => ∃ t, v = .str ⟨#[cps.getD i 0]⟩ t) (Fin { s₁ with heap := g }) cps.length 0 [] news) :
    SrcS prog w A h₀ L m env elt x scope cl Fin (.str ⟨cps.toArray⟩ t) s₁ := ⟨cps, t, news, rfl, hh, F, N, hsz, hc, fun _ ⟨g, e⟩ => e ▸ h g⟩
end
theorem occ16 (d : Nat) (h : d < 16) : ∃ r, Builtin.Str.occurrences (Str.ofString "0123456789ABCDEF") ⟨#[(sign16 d).toNat]⟩ 0 (Str.ofString "0123456789ABCDEF").length 1 = d :: r := by
  have : ∀ d : Fin 16, Builtin.Str.occurrences (Str.ofString "0123456789ABCDEF") ⟨#[(sign16 d.1).toNat]⟩ 0 (Str.ofString "0123456789ABCDEF").length 1 = [d.1] := by decide +kernel
  exact ⟨_, this ⟨d, h⟩⟩
theorem occ64 (d : Nat) (h : d < 64) : ∃ r, Builtin.Str.occurrences (Str.ofString "ABCDEFGHIJKLMNOPQRSTUVWXYZabcdefghijklmnopqrstuvwxyz0123456789+/") ⟨#[(sign64 d).toNat]⟩ 0 (Str.ofString "ABCDEFGHIJKLMNOPQRSTUVWXYZabcdefghijklmnopqrstuvwxyz0123456789+/").length 1 = d :: r := by
  have : ∀ d : Fin 64, Builtin.Str.occurrences (Str.ofString "ABCDEFGHIJKLMNOPQRSTUVWXYZabcdefghijklmnopqrstuvwxyz0123456789+/") ⟨#[(sign64 d.1).toNat]⟩ 0 (Str.ofString "ABCDEFGHIJKLMNOPQRSTUVWXYZabcdefghijklmnopqrstuvwxyz0123456789+/").length 1 = [d.1] := by decide +kernel
  exact ⟨_, this ⟨d, h⟩⟩
section
variable {prog : Program} {w : World} {A : Around} {E : Value → Shared → Prop} {s : Shared} {d : Nat} {t u : Tok} {Q : Value → Shared → Prop}
theorem idx16 (h : d < 16) (hq : ∀ t' k, Q (.int (d : Int) t') { s with toks := k }) : wpAny (model prog w) A (call (.builtin "str.index") [.str (Str.ofString "0123456789ABCDEF") t, .str ⟨#[(sign16 d).toNat]⟩ u]) Q E s := by
  obtain ⟨r, e⟩ := occ16 d h
  exact call_gives F.slot_str_index (typeIs_str _ _ _) F.entry_str_index (F.args_str_index_2 _ _) (gives_str_index _ _ t u d r e) (hq _ _)
theorem idx64 (h : d < 64) (hq : ∀ t' k, Q (.int (d : Int) t') { s with toks := k }) : wpAny (model prog w) A (call (.builtin "str.index") [.str (Str.ofString "ABCDEFGHIJKLMNOPQRSTUVWXYZabcdefghijklmnopqrstuvwxyz0123456789+/") t, .str ⟨#[(sign64 d).toNat]⟩ u]) Q E s := by
  obtain ⟨r, e⟩ := occ64 d h
  exact call_gives F.slot_str_index (typeIs_str _ _ _) F.entry_str_index (F.args_str_index_2 _ _) (gives_str_index _ _ t u d r e) (hq _ _)
end
end Mine
end
section
open PySem PySem.W PySem.Spec PySem.Calls PyProof.Rows
set_option maxRecDepth 100000
set_option maxHeartbeats 8000000
namespace Mine
theorem rsMEnum {M : Model} {A : Around} {Q : Flow → Shared → Prop} {E : Value → Shared → Prop} {s : Shared} {env : Env} (h : Q .next s) : wpAny M A (execs [] env) Q E s := by
  w_top off
  k_with_none
  walk1
  exact h
open LCg
section
variable {prog : Program} {w : World} {A : Around} {E : Value → Shared → Prop} {s : Shared} {h₀ : Heap} {L : Addr} {m : Str → Option Value} {env : Env}
/-- the element of a comprehension over enumerate is a number that only draws identities -/
def EltE (prog : Program) (w : World) (A : Around) (env : Env) (elt : Expr) (a b : Str) (scope : Scope) (cl : List (Str × Addr)) (ns : List Int) (f : Nat → Int → Int) : Prop :=
  ∀ (i : Nat) (x : Int) (t u : Tok) (C : Addr) (m₂ : Str → Option Value) (s' : Shared) (E' : Value → Shared → Prop), s'.heap.Ns C m₂ → m₂ a = some (.int i t) → m₂ b = some (.int x u) → ns[i]? = some x →
    wpAny (model prog w) A (eval elt (compEnvC scope cl C env)) (fun y s'' => ∃ tk t', s'' = { s' with toks := tk } ∧ y = .int (f i x) t') E' s'
def enumVals (f : Nat → Int → Int) (ns : List Int) (i : Nat) : List Int := (List.range i).map fun j => f j (ns.getD j 0)
theorem intsA {x : Int} {t : Tok} : ∀ {vs : List Value} {ns : List Int}, IntsAre vs ns → IntsAre (vs ++ [.int x t]) (ns ++ [x])
  | _, _, .nil => .cons x t .nil
  | _, _, .cons z u r => .cons z u (intsA r)
theorem enum_loop {elt iter : Expr} {a b : Str} {pa pb tp : Pos} {kk : Nat} {scope : Scope} {cl : List (Str × Addr)} {pos : Pos} {e it l C D : Addr} {vs : List Value} {ns : List Int} {f : Nat → Int → Int} {m₁ : Str → Option Value} {R : Result → Shared → Prop}
    (hh : A.handled = none) (hv : IntsAre vs ns) (hz : ns.length < 1000) (hkind : scope.kind = .function) (hxa : scope.names.lookup a = some .local) (hxb : scope.names.lookup b = some .local) (hab : ¬ a = b)
    (he : IsEnum s.heap e it 0 .none) (hit : s.heap.IsListIter it l 0) (hl : s.heap.IsList l vs.toArray) (hC : s.heap.Ns C m₁) (hD : s.heap.get? D = some (lst []))
    (n1 : e ≠ it) (n2 : l ≠ e) (n3 : l ≠ it) (n4 : e ≠ C) (n5 : e ≠ D) (n6 : it ≠ C) (n7 : it ≠ D) (n8 : l ≠ C) (n9 : l ≠ D) (n10 : C ≠ D)
    (hel : EltE prog w A env elt a b scope cl ns f)
    (fin : ∀ h tk ys m', (∀ c o, c ≠ e → c ≠ it → c ≠ C → c ≠ D → s.heap.get? c = some o → h.get? c = some o) → h.get? D = some (lst ys) → h.Ns C m' → IntsAre ys (enumVals f ns ns.length) → R (.ok .next) { s with heap := h, toks := tk }) :
    codeAny (model prog w) A (.compLoop (.ListComp elt [⟨.Tuple [.Name a pa, .Name b pb] kk tp, iter, [], 0⟩] scope pos) 0 (.ref e) (.ref D) (compEnvC scope cl C env)) R s := by
  have hlen : vs.toArray.size = ns.length := by rw [List.size_toArray, hv.length]
  refine kcp_loop (fun k s' => ∃ h tk i ys m' old, s' = { s with heap := h, toks := tk } ∧ i ≤ ns.length ∧ k = ns.length + 1 - i ∧ IsEnum h e it ((i : Nat) : Int) old ∧ h.IsListIter it l i ∧ h.IsList l vs.toArray ∧ h.Ns C m' ∧ h.get? D = some (lst ys) ∧
    IntsAre ys (enumVals f ns i) ∧ (∀ c o, c ≠ e → c ≠ it → c ≠ C → c ≠ D → s.heap.get? c = some o → h.get? c = some o)) ?_ (ns.length + 1)
    ⟨s.heap, s.toks, 0, [], m₁, .none, rfl, Nat.zero_le _, rfl, he, hit, hl, hC, hD, .nil, fun _ _ _ _ _ _ x => x⟩
  rintro k s' ⟨h, tk, i, ys, m', old, rfl, hi, rfl, he', hit', hl', hC', hD', hy, hk⟩
  by_cases hlt : i < ns.length
  · obtain ⟨x, ex⟩ : ∃ x, ns[i]? = some x := ⟨_, List.getElem?_eq_getElem hlt⟩
    obtain ⟨u, eu⟩ : ∃ u, vs[i]? = some (.int x u) := by
      have hlt' : i < vs.length := by rw [hv.length]; exact hlt
      obtain ⟨k', t', e1, e2⟩ := IntsAre.at hv i vs[i] (List.getElem?_eq_getElem hlt')
      rw [ex] at e2; cases e2
      exact ⟨t', by rw [List.getElem?_eq_getElem hlt', e1]⟩
    refine wpAny_pyNext_enum_item he' hit' hl' (x := .int x u) (by simpa using eu) n1 (fun h1 ho1 hit1 hT1 hsz1 hk1 => ?_)
    have helt : e < h.objs.size := Heap.lt_size he'
    have hilt : it < h.objs.size := by obtain ⟨_, z, _⟩ := hit'; exact Heap.lt_size z
    have hClt : C < h.objs.size := hC'.lt
    refine wpAny_letOwnedTupleGo_enum ho1 (fun h2 he2 hs2 => ?_)
    replace hs2 : Heap.SameBut e h1 h2 := hs2
    have hT2 : h2.IsTuple h.objs.size #[.int i tk, .int x u] := ⟨_, (hs2.2 _ (Nat.ne_of_gt helt)).trans hT1, rfl, _, rfl⟩
    have up2 : ∀ c o, c ≠ e → c ≠ it → h.get? c = some o → h2.get? c = some o := fun c o q1 q2 z => (hs2.2 c q1).trans (hk1 c o q1 q2 z)
    refine kcp_assign (env := compEnvC scope cl C env) hh hT2 (lookup_relabel_local hxa) (lookup_relabel_local hxb) (by simp [compEnvC, relabel, hkind]) (hC'.at' fun o z => up2 C o (Ne.symm n4) (Ne.symm n6) z) (fun h3 tk3 hC3 hs3 => ?_)
    refine wpAny_mono (hel i x tk u C _ { s with heap := h3, toks := tk3 } _ hC3 (by simp [hab]) (by simp) ex) (fun y s4 h4 => ?_) (fun _ _ z => z)
    obtain ⟨tk4, t4, rfl, rfl⟩ := h4
    have up3 : ∀ c o, c ≠ e → c ≠ it → c ≠ C → h.get? c = some o → h3.get? c = some o := fun c o q1 q2 q3 z => hs3 c o q3 (up2 c o q1 q2 z)
    have hD3 : h3.get? D = some (lst ys) := up3 D _ (Ne.symm n5) (Ne.symm n7) (Ne.symm n10) hD'
    refine append_at (s := { s with heap := h3, toks := tk4 }) (hsz := by rw [List.size_toArray, hy.length, sizeLine_eq]; simp [enumVals]; omega) hD3 (fun h5 hs5 hD5 => ?_)
    replace hs5 : Heap.SameBut D h3 h5 := hs5
    have he3 : IsEnum h3 e it ((i : Int) + 1) (.int x u) := hs3 e _ n4 he2
    have hit3 : h3.IsListIter it l (i + 1) := (hit1.at fun o z => (hs2.2 it (Ne.symm n1)).trans z).at fun o z => hs3 it o n6 z
    have hl3 : h3.IsList l vs.toArray := hl'.at fun o z => up3 l o n2 n3 n8 z
    refine ⟨ns.length + 1 - (i + 1), by omega, h5, tk4, i + 1, ys ++ [.int (f i x) t4], _, .int x u, rfl, hlt, rfl, ?_, hit3.at fun o z => (hs5.2 it n7).trans z, hl3.at fun o z => (hs5.2 l n9).trans z, hC3.sameBut hs5 n10, ?_, ?_, ?_⟩
    · have := (hs5.2 e n5).trans he3
      simpa using this
    · exact hD5.trans (congrArg some (lst_snoc ys _))
    · have e1 : enumVals f ns (i + 1) = enumVals f ns i ++ [f i x] := by
        unfold enumVals
        rw [List.range_succ, List.map_append, List.map_singleton, List.getD_eq_getElem?_getD, ex]; rfl
      rw [e1]
      exact intsA hy
    · exact fun c o q1 q2 q3 q4 z => (hs5.2 c q4).trans (up3 c o q1 q2 q3 (hk c o q1 q2 q3 q4 z))
  · have hin : i = ns.length := Nat.le_antisymm hi (Nat.not_lt.mp hlt)
    subst hin
    refine wpAny_pyNext_enum_end hh he' hit' hl' (Array.getElem?_eq_none (by rw [hlen]; exact Nat.le_refl _)) (fun h1 hx1 => ?_)
    exact fin h1 tk ys m' (fun c o q1 q2 q3 q4 z => hx1 c o q2 (hk c o q1 q2 q3 q4 z)) (hx1 D _ (Ne.symm n7) hD') (hC'.extBut hx1 (Ne.symm n6)) hy
/-- the source of a comprehension is enumerate of a list of numbers -/
def SrcE (prog : Program) (w : World) (A : Around) (h₀ : Heap) (L : Addr) (m : Str → Option Value) (env : Env) (elt : Expr) (a b : Str) (scope : Scope) (cl : List (Str × Addr)) (Q : Value → Shared → Prop) (xv : Value) (s₁ : Shared) : Prop :=
  ∃ (e it l : Addr) (vs : List Value) (ns : List Int) (ep : Nat) (news : List (Addr × Obj)) (f : Nat → Int → Int), xv = .ref e ∧ A.handled = none ∧ Fr h₀ L s₁.heap m ∧ News h₀ L s₁.heap news ∧ (l, listOf vs.toArray ep) ∈ news ∧ IntsAre vs ns ∧ ns.length < 1000 ∧
    IsEnum s₁.heap e it 0 .none ∧ s₁.heap.IsListIter it l 0 ∧ e ≠ it ∧ e ≠ L ∧ it ≠ L ∧ h₀.get? e = none ∧ h₀.get? it = none ∧ (∀ q ∈ news, q.1 ≠ e ∧ q.1 ≠ it) ∧ EltE prog w A env elt a b scope cl ns f ∧
    ∀ D h tk ys, Fr h₀ L h m → News h₀ L h ((D, lst ys) :: news) → IntsAre ys (enumVals f ns ns.length) → (∀ q ∈ news, q.1 < D) → Q (.ref D) { s₁ with heap := h, toks := tk }
theorem ListComp_E {elt iter : Expr} {a b : Str} {pa pb tp : Pos} {kk : Nat} {scope : Scope} {cl : List (Str × Addr)} {pos : Pos} {Q : Value → Shared → Prop} (F₀ : Fr h₀ L s.heap m)
    (hclos : closureFor scope env = pure cl) (hcell : ∀ y ∈ scope.names, y.2 ≠ .cell) (hkind : scope.kind = .function)
    (hnames : ∀ y ∈ scope.names, y.2 = .local → scope.names.lookup y.1 = some .local) (hxa : scope.names.lookup a = some .local) (hxb : scope.names.lookup b = some .local) (hab : ¬ a = b)
    (h : wpAny (model prog w) A (eval iter env) (SrcE prog w A h₀ L m env elt a b scope cl Q) E s)
    (hs : ∀ x, foldedSetIterable iter env x = pure x := by intro _; rfl) :
    wpAny (model prog w) A (eval (.ListComp elt [⟨.Tuple [.Name a pa, .Name b pb] kk tp, iter, [], 0⟩] scope pos) env) Q E s := by
  rw [eval_ListComp]
  refine wpAny_comprehension_free (use := none) rfl hs hclos hkind hnames (wpAny_mono h (fun xv s₁ h₁ => ?_) fun _ _ e => e)
  obtain ⟨e, it, l, vs, ns, ep, news, f, rfl, hh, F, N, hm, hv, hz, he, hit, n1, nL1, nL2, ne0, ni0, off, hel, fin⟩ := h₁
  refine wpAny_pyIter_enum he ?_
  refine wpAny_newObj_type (wpAny_newFunctionEnv hcell (by intro y hy; simp at hy) (fun h1 hns1 hsb1 => ?_) hkind)
  dsimp only at hns1 hsb1 ⊢
  generalize hH2 : s₁.heap.push { cls := .type "list", dict := none, data := .seq ([] : List Value).toArray } = H2 at hns1 hsb1 ⊢
  have sz2 : H2.objs.size = s₁.heap.objs.size + 1 := by rw [← hH2, Heap.size_push]
  have up2 : ∀ c o, s₁.heap.get? c = some o → H2.get? c = some o := fun c o z => hH2 ▸ Heap.get?_push_of_some _ z
  have up1 : ∀ c o, s₁.heap.get? c = some o → h1.get? c = some o := fun c o z => hsb1.extBut c o (by have := Heap.lt_size z; refine Nat.ne_of_lt ?_; rw [sz2]; exact Nat.lt_succ_of_lt this) (Heap.get?_push_of_some _ (up2 c o z))
  have hD1 : h1.get? s₁.heap.objs.size = some (lst []) := hsb1.extBut _ _ (by refine Nat.ne_of_lt ?_; rw [sz2]; exact Nat.lt_succ_self _) (Heap.get?_push_of_some _ (hH2 ▸ Heap.get?_push_size _ rfl))
  have lte : e < s₁.heap.objs.size := Heap.lt_size he
  have lti : it < s₁.heap.objs.size := by obtain ⟨_, z, _⟩ := hit; exact Heap.lt_size z
  have ltl : l < s₁.heap.objs.size := Heap.lt_size (N _ hm).1
  have ltL : L < s₁.heap.objs.size := F.ns.lt
  have fresh₀ : ∀ c, s₁.heap.objs.size ≤ c → h₀.get? c = none := fun c hc => by
    cases z : h₀.get? c with
    | none => rfl
    | some o => exact absurd (Heap.lt_size (F.keep c o z)) (Nat.not_lt.mpr hc)
  have lo : ∀ {c : Addr}, c < s₁.heap.objs.size → c ≠ H2.objs.size ∧ c ≠ s₁.heap.objs.size := fun hc => ⟨by rw [sz2]; exact Nat.ne_of_lt (Nat.lt_succ_of_lt hc), Nat.ne_of_lt hc⟩
  have nCD : H2.objs.size ≠ s₁.heap.objs.size := by rw [sz2]; exact Nat.succ_ne_self _
  have hl : s₁.heap.IsList l vs.toArray := ⟨_, (N _ hm).1, rfl, _, rfl⟩
  have nl := off _ hm
  have loop : ∀ s₃ : Shared, s₃ = { s₁ with heap := h1, toks := s₁.toks + ([] : List (Str × Value)).length } →
      codeAny (model prog w) A (.compLoop (.ListComp elt [⟨.Tuple [.Name a pa, .Name b pb] kk tp, iter, [], 0⟩] scope pos) 0 (.ref e) (.ref s₁.heap.objs.size) (compEnvC scope cl H2.objs.size env))
        (compPost (model prog w) A E none Q (.ref s₁.heap.objs.size) H2.objs.size) s₃ := by
    rintro s₃ rfl
    refine enum_loop (s := { s₁ with heap := h1, toks := _ }) (it := it) (l := l) (vs := vs) (ns := ns) (f := f) hh hv hz hkind hxa hxb hab (up1 _ _ he) (hit.at fun o z => up1 _ o z) (hl.at fun o z => up1 _ o z) hns1 hD1 n1 nl.1 nl.2 (lo lte).1 (lo lte).2 (lo lti).1 (lo lti).2 (lo ltl).1 (lo ltl).2 nCD hel (fun h2 tk2 ys m2 hk2 hD2 hC2 hy => ?_)
    refine ⟨m2, hC2, fun h3 hs3 => ?_⟩
    replace hs3 : Heap.SameBut H2.objs.size h2 h3 := hs3
    have keep : ∀ c o, c < s₁.heap.objs.size → c ≠ e → c ≠ it → s₁.heap.get? c = some o → h3.get? c = some o := fun c o hc q1 q2 z => (hs3.2 c (lo hc).1).trans (hk2 c o q1 q2 (lo hc).1 (lo hc).2 (up1 c o z))
    refine fin s₁.heap.objs.size h3 tk2 ys ⟨F.ns.at' fun o z => keep L o ltL (Ne.symm nL1) (Ne.symm nL2) z, fun c o z => keep c o (Heap.lt_size (F.keep c o z)) (fun q => by rw [q, ne0] at z; cases z) (fun q => by rw [q, ni0] at z; cases z) (F.keep c o z), F.above⟩ (fun q hq => ?_) hy (fun q hq => Heap.lt_size (N q hq).1)
    rcases List.mem_cons.mp hq with rfl | hq
    · exact ⟨(hs3.2 _ (Ne.symm nCD)).trans hD2, Nat.ne_of_gt ltL, fresh₀ _ (Nat.le_refl _)⟩
    · exact ⟨keep _ _ (Heap.lt_size (N q hq).1) (off q hq).1 (off q hq).2 (N q hq).1, (N q hq).2⟩
  exact codeAny_compStart_list (loop _ rfl) (wpAny_pyIter_enum (up1 _ _ he) (loop _ rfl))
theorem call_enumE {elt : Expr} {a b : Str} {scope : Scope} {cl : List (Str × Addr)} {Q : Value → Shared → Prop} {l : Addr} {vs : List Value} {ns : List Int} {ep : Nat} {news : List (Addr × Obj)} (f : Nat → Int → Int)
    (hh : A.handled = none) (F : Fr h₀ L s.heap m) (N : News h₀ L s.heap news) (hm : (l, listOf vs.toArray ep) ∈ news) (hv : IntsAre vs ns) (hz : ns.length < 1000) (hel : EltE prog w A env elt a b scope cl ns f)
    (fin : ∀ D h tk ys, Fr h₀ L h m → News h₀ L h ((D, lst ys) :: news) → IntsAre ys (enumVals f ns ns.length) → (∀ q ∈ news, q.1 < D) → Q (.ref D) { s with heap := h, toks := tk }) :
    wpAny (model prog w) A (call (.type "enumerate") [.ref l]) (SrcE prog w A h₀ L m env elt a b scope cl Q) E s := by
  have hl : s.heap.IsList l vs.toArray := ⟨_, (N _ hm).1, rfl, _, rfl⟩
  have ltL : L < s.heap.objs.size := F.ns.lt
  have fresh₀ : ∀ c, s.heap.objs.size ≤ c → h₀.get? c = none := fun c hc => by
    cases z : h₀.get? c with
    | none => rfl
    | some o => exact absurd (Heap.lt_size (F.keep c o z)) (Nat.not_lt.mpr hc)
  refine call_enumerate_list hl (fun h' he hit hsz hk => ?_)
  refine ⟨_, _, l, vs, ns, ep, news, f, rfl, hh, F.keeps hk, fun q hq => ⟨hk _ _ (N q hq).1, (N q hq).2⟩, hm, hv, hz, he, hit, Nat.succ_ne_self _, Nat.ne_of_gt (Nat.lt_succ_of_lt ltL), Nat.ne_of_gt ltL, fresh₀ _ (Nat.le_succ _), fresh₀ _ (Nat.le_refl _), fun q hq => ?_, hel, fin⟩
  have := Heap.lt_size (N q hq).1
  exact ⟨Nat.ne_of_lt (Nat.lt_succ_of_lt this), Nat.ne_of_lt this⟩
theorem elt_dbl {a b : Str} {pa pb p2 p3 p4 : Pos} {kd : Nat} {scope : Scope} {cl : List (Str × Addr)} {ns : List Int} (hkind : scope.kind = .function) (hxa : scope.names.lookup a = some .local) (hxb : scope.names.lookup b = some .local)
    (ha : (a == ("__debug__" : Str)) = false) (hb : (b == ("__debug__" : Str)) = false) (hz : ns.length < 1000) (hn : ∀ x ∈ ns, 0 ≤ x ∧ x < 64) :
    EltE prog w A env (.BinOp (.Name b pb) .Mult (.BinOp (.Constant (.int 2) kd p2) .Pow (.Name a pa) p3) p4) a b scope cl ns (fun i x => x * 2 ^ i) := by
  intro i x t u C m₂ s' E' hC h1 h2 hx
  have hi : i < ns.length := (List.getElem?_eq_some_iff.mp hx).1
  have hx' := hn x (List.mem_of_getElem? hx)
  refine wpAny_BinOp ?_
  refine ldVarK hC h2 ?_ hkind (lookup_relabel_local hxb) hb
  refine wpAny_BinOp ?_
  refine wpAny_Constant_int ?_
  refine ldVarK (s := { s' with toks := _ }) hC h1 ?_ hkind (lookup_relabel_local hxa) ha
  refine pow_int_small (by omega) (by omega) (by decide) ?_
  refine mul_int ?_ (IntMulOk.of_left ?_)
  · exact ⟨_, _, rfl, congrArg (fun n : Nat => Value.int (x * 2 ^ n) _) (Int.toNat_natCast i)⟩
  · exact intBits_le_iff.mpr (by omega)
end
end Mine
end
end
section
open PySem PySem.W PySem.Spec PySem.Calls PyProof.Rows
set_option maxRecDepth 100000
set_option maxHeartbeats 8000000
namespace Mine
theorem rsMSums {M : Model} {A : Around} {Q : Flow → Shared → Prop} {E : Value → Shared → Prop} {s : Shared} {env : Env} (h : Q .next s) : wpAny M A (execs [] env) Q E s := by
  w_top off
  k_with_none
  walk1
  exact h
theorem fill14 : (PySem.Challenge.rw_qh0063_01, hd.heap_39) = (PySem.Challenge.rw_qh0063_01, hd.heap_39) := by k_fill; rfl
section
variable {prog : Program} {w : World} {A A₀ : Around} {E : Value → Shared → Prop} {s : Shared} {K : Frag} {base g h₀ : Heap} {envs outer : List Env} {tch rest out : List (Addr × Obj)}
  {p : Program} {loose : List Str} {mean : ExcName → Option Value} {mg mb : Str → Option Value} {L : Addr} {m : Str → Option Value}
/-- entering a def whose parameters may be cells -/
theorem enterCC {R : Result → Shared → Prop} {name qual : Str} {params : Arguments} {body : List Stmt} {scope : Scope} {dV kV doc pm cdv ct oc : Value} {an od : Option Addr} {osl : Array (Option Value)} {f : Addr} {args : Args} {binds : List (Str × Value)}
    (X : K.In g) (T : Top p loose mean mg mb g) (hst : g.StaysIn s.heap) (hsz : g.objs.size ≤ s.heap.objs.size) (N : Led g s.heap tch)
    (ho : K.lookup f = some ⟨oc, od, .func (fnOf name qual params body scope dV kV doc pm an cdv ct), osl⟩) (hcd : codeIn K cdv qual = true) (hroom : A.depth < recursionLimit)
    (hbind : BindsTo s (fnOf name qual params body scope dV kV doc pm an cdv ct) args binds) (hkind : (binds.all fun y => scope.names.lookup y.1 == some .local || scope.names.lookup y.1 == some .cell) = true)
    (hnd : ((cellsFrom 0 scope.names []).map (·.1)).Nodup)
    (h : ∀ L' h₁ tk cells, Fr g L' h₁ (bindL (envOfC qual scope L' f cdv).kindOf binds fun _ => none) → News g L' h₁ (cells ++ tch) →
      CellsAre (bindC (envOfC qual scope L' f cdv).kindOf binds fun _ => none) (cellsFrom (L' + 1) scope.names []) cells → (∀ p ∈ tch, p.1 < L') →
      wpAny (model prog w) (A.deeper (envOfC qual scope L' f cdv)) (execs body (envOfC qual scope L' f cdv))
        (fun fl s' => R (.ok (.ret (match fl with | .ret v => v | _ => .none))) s') (fun _ _ => False)
        { s with heap := h₁, toks := tk })
    (hco : scope.isCoroutine = false) (hgen : scope.isGenerator = false) (hk : scope.kind = .function) :
    codeAny (model prog w) A (.call (.ref f) args) R s := by
  have Xs : K.In s.heap := X.keeps hst
  refine codeAny_call_function hroom (Xs _ _ ho) rfl hco hgen rfl (codeRec_of Xs hcd) (hbind _ _ _ _ ?_)
  refine wpAny_newFunctionEnv_cells hk (kindsX hkind _) fun env' he s' x => ?_
  subst he
  refine ⟨(T.nolimit.keeps hst).keeps x.toInCall.keep, codeAny_func ?_⟩
  obtain ⟨h₁, tk, rfl, _⟩ := x.done
  have hk₁ := x.toInCall.keep
  obtain ⟨cells, NC, Y⟩ := Cl.news (h₀ := s.heap) (Nat.le_refl _) fun n c hm => ⟨x.cell n c (lookup_of_mem_nodup (cellsFrom_names scope.names 0 (s.heap.objs.size + 1) [] [] rfl ▸ hnd) hm), x.above n c hm⟩
  refine wpAny_mono (h s.heap.objs.size h₁ tk cells ⟨x.toInCall.ns, fun b o e => hk₁ b o (hst b o e), hsz⟩ (fun q hq => ?_) Y (fun q hq => Heap.lt_size (N q hq).1)) (fun _ _ x => x) fun _ _ x => x.elim
  rcases List.mem_append.mp hq with hq | hq
  · refine ⟨(NC q hq).1, (NC q hq).2.1, ?_⟩
    cases z : g.get? q.1 with
    | none => rfl
    | some o => have := hst _ _ z; rw [(NC q hq).2.2] at this; cases this
  · exact ⟨hk₁ _ _ (N q hq).1, Nat.ne_of_lt (Heap.lt_size (N q hq).1), (N q hq).2⟩
end
theorem s16_lt (d : Nat) (h : d < 16) : (sign16 d).toNat < 128 := by
  have : ∀ d : Fin 16, (sign16 d.1).toNat < 128 := by decide +kernel
  exact this ⟨d, h⟩
theorem dec6 {prog : Program} {w : World} {A : Around} {E : Value → Shared → Prop} {s : Shared} {d0 d1 d2 d3 d4 d5 : Nat} {t u : Tok} {Q : Value → Shared → Prop} (h0 : d0 < 16) (h1 : d1 < 16) (h2 : d2 < 16) (h3 : d3 < 16) (h4 : d4 < 16) (h5 : d5 < 16)
    (hq : ∀ t' tk', Q (.str ⟨#[(sign16 d0).toNat, (sign16 d1).toNat, (sign16 d2).toNat, (sign16 d3).toNat, (sign16 d4).toNat, (sign16 d5).toNat]⟩ t') { s with toks := tk' }) :
    wpAny (model prog w) A (call (.builtin "bytes.decode") [.bytes #[sign16 d0, sign16 d1, sign16 d2, sign16 d3, sign16 d4, sign16 d5] t, .str (PySem.Str.ofString "ascii") u]) Q E s := by
  refine call_decode (c := sign16 d0) (cs := [sign16 d1, sign16 d2, sign16 d3, sign16 d4, sign16 d5]) (fun x hx => ?_) (show 6 < 1000 by decide) hq
  simp only [List.mem_cons, List.not_mem_nil, or_false] at hx
  rcases hx with q | q | q | q | q | q <;> (rw [q]; exact s16_lt _ (by assumption))
theorem kw43 : True := by (k_with "call builtin:bytes.decode" => (k_here; k_dflt (refine dec6 (by assumption) (by assumption) (by assumption) (by assumption) (by assumption) (by assumption) ?_; intro w9t9 w9tk9))); trivial

theorem s16_all {d0 d1 d2 d3 d4 d5 : Nat} (h0 : d0 < 16) (h1 : d1 < 16) (h2 : d2 < 16) (h3 : d3 < 16) (h4 : d4 < 16) (h5 : d5 < 16) : ∀ c ∈ [(sign16 d0).toNat, (sign16 d1).toNat, (sign16 d2).toNat, (sign16 d3).toNat, (sign16 d4).toNat, (sign16 d5).toNat], c < 128 := by
  intro x hx
  simp only [List.mem_cons, List.not_mem_nil, or_false] at hx
  rcases hx with q | q | q | q | q | q <;> (rw [q]; exact s16_lt _ (by assumption))
theorem kw44 : True := by (k_with "eval ListComp" => (k_here; (with_reducible show wpAny _ _ (eval (Expr.ListComp _ [⟨_, Expr.Call (Expr.Attribute _ _ _) _ _ _, _, _⟩] _ _) _) _ _ _); k_dflt (refine ListComp_S (F₀ := by k_asm) (by with_unfolding_all rfl) (by decide) (by rfl) (by decide) (by rfl) ?_))); trivial
theorem kw45 : True := by (k_with "SrcS" => (k_here; k_dflt (refine SrcS.intro (by rfl) (by k_asm) (by k_asm) (show 6 < 1000 by decide) (s16_all (by assumption) (by assumption) (by assumption) (by assumption) (by assumption) (by assumption)) ?_; intro w9g'; lcg_lit))); trivial
theorem kw46 : True := by (k_with "call builtin:str.index" => (k_here; (try simp only [List.getD_cons_zero, List.getD_cons_succ, Nat.zero_add]); k_dflt (refine idx16 (by assumption) ?_; intro w9t9 w9tk9))); trivial
theorem kw47 : True := by (k_with "eval ListComp" => (k_here; (with_reducible show wpAny _ _ (eval (Expr.ListComp _ [⟨Expr.Tuple _ _ _, Expr.Call (Expr.Name _ _) _ _ _, _, _⟩] _ _) _) _ _ _); k_dflt (refine ListComp_E (F₀ := by k_asm) (by with_unfolding_all rfl) (by decide) (by rfl) (by decide) (by rfl) (by rfl) (by decide) ?_))); trivial
theorem kw48 : True := by (k_with "call type:enumerate" => (k_here; k_dflt (refine' call_enumE (fun i w9x => w9x * 2 ^ i) ?hz48 ?Fz48 ?Nz48 ?mz48 ?vz48 ?zz48 ?ez48 ?_; (case hz48 => exact rfl); (case Fz48 => k_asm); (case Nz48 => k_asm); (case mz48 => k_mem); (case vz48 => l_ints); (case zz48 => first | (show 6 < 1000; decide) | (show 4 < 1000; decide)); (case ez48 => (refine elt_dbl rfl rfl rfl (by decide) (by decide) (by first | (show 6 < 1000; decide) | (show 4 < 1000; decide)) ?_; intro w9x w9hx; simp only [List.mem_cons, List.not_mem_nil, or_false] at w9hx; omega)); k_whole; intro w9D9 w9h9 w9tk9 w9ys9 w9F9 w9N9 w9hy9 w9l9; (try k_lt w9l9)))); trivial
theorem pick6a (a0 a1 a2 a3 a4 a5 : Value) : (slicePick #[a0, a1, a2, a3, a4, a5] none none (some 2)).toList = [a0, a2, a4] := by
  unfold slicePick
  have e1 : sliceBounds none none (some 2) 6 = (0, 6, 2) := by decide +kernel
  have e2 : sliceRange 0 6 2 = [0, 2, 4] := by decide +kernel
  show (((fun p : Int × Int × Int => sliceRange p.1 p.2.1 p.2.2) (sliceBounds none none (some 2) 6)).filterMap _).toArray.toList = _
  rw [e1]; show ((sliceRange 0 6 2).filterMap _).toArray.toList = _
  rw [e2]; rfl
theorem pick6b (a0 a1 a2 a3 a4 a5 : Value) : (slicePick #[a0, a1, a2, a3, a4, a5] (some 1) none (some 2)).toList = [a1, a3, a5] := by
  unfold slicePick
  have e1 : sliceBounds (some 1) none (some 2) 6 = (1, 6, 2) := by decide +kernel
  have e2 : sliceRange 1 6 2 = [1, 3, 5] := by decide +kernel
  show (((fun p : Int × Int × Int => sliceRange p.1 p.2.1 p.2.2) (sliceBounds (some 1) none (some 2) 6)).filterMap _).toArray.toList = _
  rw [e1]; show ((sliceRange 1 6 2).filterMap _).toArray.toList = _
  rw [e2]; rfl
theorem pick4a (a0 a1 a2 a3 : Value) : (slicePick #[a0, a1, a2, a3] none none (some 2)).toList = [a0, a2] := by
  unfold slicePick
  have e1 : sliceBounds none none (some 2) 4 = (0, 4, 2) := by decide +kernel
  have e2 : sliceRange 0 4 2 = [0, 2] := by decide +kernel
  show (((fun p : Int × Int × Int => sliceRange p.1 p.2.1 p.2.2) (sliceBounds none none (some 2) 4)).filterMap _).toArray.toList = _
  rw [e1]; show ((sliceRange 0 4 2).filterMap _).toArray.toList = _
  rw [e2]; rfl
theorem pick4b (a0 a1 a2 a3 : Value) : (slicePick #[a0, a1, a2, a3] (some 1) none (some 2)).toList = [a1, a3] := by
  unfold slicePick
  have e1 : sliceBounds (some 1) none (some 2) 4 = (1, 4, 2) := by decide +kernel
  have e2 : sliceRange 1 4 2 = [1, 3] := by decide +kernel
  show (((fun p : Int × Int × Int => sliceRange p.1 p.2.1 p.2.2) (sliceBounds (some 1) none (some 2) 4)).filterMap _).toArray.toList = _
  rw [e1]; show ((sliceRange 1 4 2).filterMap _).toArray.toList = _
  rw [e2]; rfl
theorem kw49 : True := by (k_with "subscriptTail Name Slice ref ref" => (k_here; (with_reducible show wpAny _ _ (subscriptTail _ (PySem.Expr.Slice _ none (some (PySem.Expr.Constant _ _ _)) _) (Value.ref _) (Value.ref _)) _ _ _); k_dflt (refine' kmk_slice3_lit ?Fz49 ?Nz49 ?lz49 ?pz49 ?qz49 ?kz49 ?oz49 ?ez49 ?_ ?sz49 ?tz49 ?zz49; (case Fz49 => k_asm); (case Nz49 => k_asm); (case lz49 => kmk_list); (case pz49 => kmk_part); (case qz49 => kmk_part); (case kz49 => kmk_part); (case oz49 => decide); (case ez49 => first | exact pick6a _ _ _ _ _ _ | exact pick6b _ _ _ _ _ _ | exact pick4a _ _ _ _ | exact pick4b _ _ _ _); (case sz49 => with_unfolding_all rfl); (case tz49 => kmk_pure); (case zz49 => kmk_size)); intro w9D' w9h' w9F' w9N' w9l1; (try k_lt w9l1); (try k_sweep))); trivial
theorem nat64 {ds : List Nat} (h : ∀ d ∈ ds, d < 64) : ∀ x ∈ ds.map (fun d : Nat => (d : Int)), 0 ≤ x ∧ x < 64 := by
  intro x hx
  obtain ⟨d, hd, rfl⟩ := List.mem_map.mp hx
  have := h d hd
  omega
theorem dbl6 (d5 d4 d3 d2 d1 d0 : Int) : (enumVals (fun i x => x * 2 ^ i) [d5, d4, d3, d2, d1, d0] [d5, d4, d3, d2, d1, d0].length).sum = d5 + 2 * d4 + 4 * d3 + 8 * d2 + 16 * d1 + 32 * d0 := by
  have : enumVals (fun i x => x * 2 ^ i) [d5, d4, d3, d2, d1, d0] [d5, d4, d3, d2, d1, d0].length = [d5 * 2 ^ 0, d4 * 2 ^ 1, d3 * 2 ^ 2, d2 * 2 ^ 3, d1 * 2 ^ 4, d0 * 2 ^ 5] := rfl
  rw [this]; simp only [List.sum_cons, List.sum_nil]; omega
theorem tup3 {a b c a' b' c' : Int} {t1 t2 t3 : Tok} (e1 : a = a') (e2 : b = b') (e3 : c = c') : ({ cls := Value.type "tuple", data := Data.seq #[Value.int a t1, Value.int b t2, Value.int c t3] } : Obj) = tup [.int a' t1, .int b' t2, .int c' t3] := by
  subst e1 e2 e3; rfl
theorem sums16_c {w : World} {d0 d1 d2 d3 d4 d5 : Nat} {k k' : Tok} (h0 : d0 < 16) (h1 : d1 < 16) (h2 : d2 < 16) (h3 : d3 < 16) (h4 : d4 < 16) (h5 : d5 < 16) :
    Ctr w 165 [.bytes #[sign16 d0, sign16 d1, sign16 d2, sign16 d3, sign16 d4, sign16 d5] k, .str (Str.ofString "0123456789ABCDEF") k'] [] 3
      (fun v out => ∃ a t1 t2 t3, v = .ref a ∧ out = [(a, tup [.int (d5 + d4 + d3 + d2 + d1 + d0 : Int) t1, .int ((d5 + d3 + d1 : Int) - (d4 + d2 + d0)) t2, .int (d5 + 2 * d4 + 4 * d3 + 8 * d2 + 16 * d1 + 32 * d0 : Int) t3])]) := by
  intro prog p loose mean mg mb dp un gd cn cs L a ccd cl outer base g s Q E B X T hst hsz N hk hr hu hret
  refine wpAny_noRaise ?_
  refine wpAny_call ?_
  k_dflt (refine' enterCC (binds := [(Str.ofString "written", .bytes #[sign16 d0, sign16 d1, sign16 d2, sign16 d3, sign16 d4, sign16 d5] k), (Str.ofString "signs", .str (Str.ofString "0123456789ABCDEF") k')]) ?k1 ?k2 ?k3 ?k4 ?k5 ?k6 ?k7 ?k8 ?k9 ?kB ?kD ?_ ?c2 ?c3 ?c4; (case k1 => k_asm); (case k2 => k_asm); (case k3 => k_asm); (case k4 => k_asm); (case k5 => k_asm); (case k6 => k_is); (case k7 => k_is); (case k8 => ktr_room); (case k9 => exact BindsTo.of_eq rfl); (case kB => exact rfl); (case kD => decide +kernel); (case c2 => exact rfl); (case c3 => exact rfl); (case c4 => exact rfl); k_whole; intro L' h' tk' cells' F' N' Y' l1; (try k_lt l1); k_cells Y'; (try simp only [List.cons_append, List.nil_append] at N'); (try dsimp only); (try k_fold))
  k_steps
  rename Fr g L' _ _ => F9
  rename News g L' _ _ => N9
  have z := N9 _ (.head _)
  have z' := z.1.trans (congrArg some (tup3 (a' := (d5 + d4 + d3 + d2 + d1 + d0 : Int)) (b' := (d5 + d3 + d1 : Int) - (d4 + d2 + d0)) (c' := (d5 + 2 * d4 + 4 * d3 + 8 * d2 + 16 * d1 + 32 * d0 : Int)) (by omega) (by omega) (dbl6 _ _ _ _ _ _)))
  exact hret _ [(_, _)] _ _ _ F9.keep (fun q hq => by rw [List.mem_singleton.mp hq]; exact ⟨z', z.2.2⟩) ⟨_, _, _, _, rfl, rfl⟩ (fun x => x)
end Mine
end
section
open PySem PySem.W PySem.Spec PySem.Calls PyProof.Rows
set_option maxRecDepth 100000
set_option maxHeartbeats 8000000
namespace Mine
theorem rsMSums64 {M : Model} {A : Around} {Q : Flow → Shared → Prop} {E : Value → Shared → Prop} {s : Shared} {env : Env} (h : Q .next s) : wpAny M A (execs [] env) Q E s := by
  w_top off
  k_with_none
  walk1
  exact h
theorem fill15 : (PySem.Challenge.rw_qh0063_01, hd.heap_39) = (PySem.Challenge.rw_qh0063_01, hd.heap_39) := by k_fill; rfl
theorem s64_lt (d : Nat) (h : d < 64) : (sign64 d).toNat < 128 := by
  have : ∀ d : Fin 64, (sign64 d.1).toNat < 128 := by decide +kernel
  exact this ⟨d, h⟩
theorem dec4 {prog : Program} {w : World} {A : Around} {E : Value → Shared → Prop} {s : Shared} {d0 d1 d2 d3 : Nat} {t u : Tok} {Q : Value → Shared → Prop} (h0 : d0 < 64) (h1 : d1 < 64) (h2 : d2 < 64) (h3 : d3 < 64)
    (hq : ∀ t' tk', Q (.str ⟨#[(sign64 d0).toNat, (sign64 d1).toNat, (sign64 d2).toNat, (sign64 d3).toNat]⟩ t') { s with toks := tk' }) :
    wpAny (model prog w) A (call (.builtin "bytes.decode") [.bytes #[sign64 d0, sign64 d1, sign64 d2, sign64 d3] t, .str (PySem.Str.ofString "ascii") u]) Q E s := by
  refine call_decode (c := sign64 d0) (cs := [sign64 d1, sign64 d2, sign64 d3]) (fun x hx => ?_) (show 4 < 1000 by decide) hq
  simp only [List.mem_cons, List.not_mem_nil, or_false] at hx
  rcases hx with q | q | q | q <;> (rw [q]; exact s64_lt _ (by assumption))
theorem kw50 : True := by (k_with "call builtin:bytes.decode" => (k_here; k_dflt (refine dec4 (by assumption) (by assumption) (by assumption) (by assumption) ?_; intro w9t9 w9tk9))); trivial
theorem s64_all {d0 d1 d2 d3 : Nat} (h0 : d0 < 64) (h1 : d1 < 64) (h2 : d2 < 64) (h3 : d3 < 64) : ∀ c ∈ [(sign64 d0).toNat, (sign64 d1).toNat, (sign64 d2).toNat, (sign64 d3).toNat], c < 128 := by
  intro x hx
  simp only [List.mem_cons, List.not_mem_nil, or_false] at hx
  rcases hx with q | q | q | q <;> (rw [q]; exact s64_lt _ (by assumption))
theorem kw51 : True := by (k_with "eval ListComp" => (k_here; (with_reducible show wpAny _ _ (eval (Expr.ListComp _ [⟨_, Expr.Call (Expr.Attribute _ _ _) _ _ _, _, _⟩] _ _) _) _ _ _); k_dflt (refine ListComp_S (F₀ := by k_asm) (by with_unfolding_all rfl) (by decide) (by rfl) (by decide) (by rfl) ?_))); trivial
theorem kw52 : True := by (k_with "eval ListComp" => (k_here; (with_reducible show wpAny _ _ (eval (Expr.ListComp _ [⟨Expr.Tuple _ _ _, Expr.Call (Expr.Name _ _) _ _ _, _, _⟩] _ _) _) _ _ _); k_dflt (refine ListComp_E (F₀ := by k_asm) (by with_unfolding_all rfl) (by decide) (by rfl) (by decide) (by rfl) (by rfl) (by decide) ?_))); trivial
theorem kw53 : True := by (k_with "SrcS" => (k_here; k_dflt (refine SrcS.intro (by rfl) (by k_asm) (by k_asm) (show 4 < 1000 by decide) (s64_all (by assumption) (by assumption) (by assumption) (by assumption)) ?_; intro w9g'; lcg_lit))); trivial
theorem kw54 : True := by (k_with "call builtin:str.index" => (k_here; (try simp only [List.getD_cons_zero, List.getD_cons_succ, Nat.zero_add]); k_dflt (refine idx64 (by assumption) ?_; intro w9t9 w9tk9))); trivial
theorem kw55 : True := by (k_with "call type:enumerate" => (k_here; k_dflt (refine' call_enumE (fun i w9x => w9x * 2 ^ i) ?hz55 ?Fz55 ?Nz55 ?mz55 ?vz55 ?zz55 ?ez55 ?_; (case hz55 => exact rfl); (case Fz55 => k_asm); (case Nz55 => k_asm); (case mz55 => k_mem); (case vz55 => l_ints); (case zz55 => first | (show 6 < 1000; decide) | (show 4 < 1000; decide)); (case ez55 => (refine elt_dbl rfl rfl rfl (by decide) (by decide) (by first | (show 6 < 1000; decide) | (show 4 < 1000; decide)) ?_; intro w9x w9hx; simp only [List.mem_cons, List.not_mem_nil, or_false] at w9hx; omega)); k_whole; intro w9D9 w9h9 w9tk9 w9ys9 w9F9 w9N9 w9hy9 w9l9; (try k_lt w9l9)))); trivial
theorem kw56 : True := by (k_with "subscriptTail Name Slice ref ref" => (k_here; (with_reducible show wpAny _ _ (subscriptTail _ (PySem.Expr.Slice _ none (some (PySem.Expr.Constant _ _ _)) _) (Value.ref _) (Value.ref _)) _ _ _); k_dflt (refine' kmk_slice3_lit ?Fz56 ?Nz56 ?lz56 ?pz56 ?qz56 ?kz56 ?oz56 ?ez56 ?_ ?sz56 ?tz56 ?zz56; (case Fz56 => k_asm); (case Nz56 => k_asm); (case lz56 => kmk_list); (case pz56 => kmk_part); (case qz56 => kmk_part); (case kz56 => kmk_part); (case oz56 => decide); (case ez56 => first | exact pick6a _ _ _ _ _ _ | exact pick6b _ _ _ _ _ _ | exact pick4a _ _ _ _ | exact pick4b _ _ _ _); (case sz56 => with_unfolding_all rfl); (case tz56 => kmk_pure); (case zz56 => kmk_size)); intro w9D' w9h' w9F' w9N' w9l1; (try k_lt w9l1); (try k_sweep))); trivial
theorem dbl4 (d3 d2 d1 d0 : Int) : (enumVals (fun i x => x * 2 ^ i) [d3, d2, d1, d0] [d3, d2, d1, d0].length).sum = d3 + 2 * d2 + 4 * d1 + 8 * d0 := by
  have : enumVals (fun i x => x * 2 ^ i) [d3, d2, d1, d0] [d3, d2, d1, d0].length = [d3 * 2 ^ 0, d2 * 2 ^ 1, d1 * 2 ^ 2, d0 * 2 ^ 3] := rfl
  rw [this]; simp only [List.sum_cons, List.sum_nil]; omega
theorem sums64_c {w : World} {d0 d1 d2 d3 : Nat} {k k' : Tok} (h0 : d0 < 64) (h1 : d1 < 64) (h2 : d2 < 64) (h3 : d3 < 64) :
    Ctr w 165 [.bytes #[sign64 d0, sign64 d1, sign64 d2, sign64 d3] k, .str (Str.ofString "ABCDEFGHIJKLMNOPQRSTUVWXYZabcdefghijklmnopqrstuvwxyz0123456789+/") k'] [] 3
      (fun v out => ∃ a t1 t2 t3, v = .ref a ∧ out = [(a, tup [.int (d3 + d2 + d1 + d0 : Int) t1, .int ((d3 + d1 : Int) - (d2 + d0)) t2, .int (d3 + 2 * d2 + 4 * d1 + 8 * d0 : Int) t3])]) := by
  intro prog p loose mean mg mb dp un gd cn cs L a ccd cl outer base g s Q E B X T hst hsz N hk hr hu hret
  refine wpAny_noRaise ?_
  refine wpAny_call ?_
  k_dflt (refine' enterCC (binds := [(Str.ofString "written", .bytes #[sign64 d0, sign64 d1, sign64 d2, sign64 d3] k), (Str.ofString "signs", .str (Str.ofString "ABCDEFGHIJKLMNOPQRSTUVWXYZabcdefghijklmnopqrstuvwxyz0123456789+/") k')]) ?k1 ?k2 ?k3 ?k4 ?k5 ?k6 ?k7 ?k8 ?k9 ?kB ?kD ?_ ?c2 ?c3 ?c4; (case k1 => k_asm); (case k2 => k_asm); (case k3 => k_asm); (case k4 => k_asm); (case k5 => k_asm); (case k6 => k_is); (case k7 => k_is); (case k8 => ktr_room); (case k9 => exact BindsTo.of_eq rfl); (case kB => exact rfl); (case kD => decide +kernel); (case c2 => exact rfl); (case c3 => exact rfl); (case c4 => exact rfl); k_whole; intro L' h' tk' cells' F' N' Y' l1; (try k_lt l1); k_cells Y'; (try simp only [List.cons_append, List.nil_append] at N'); (try dsimp only); (try k_fold))
  k_steps
  rename Fr g L' _ _ => F9
  rename News g L' _ _ => N9
  have z := N9 _ (.head _)
  have z' := z.1.trans (congrArg some (tup3 (a' := (d3 + d2 + d1 + d0 : Int)) (b' := (d3 + d1 : Int) - (d2 + d0)) (c' := (d3 + 2 * d2 + 4 * d1 + 8 * d0 : Int)) (by omega) (by omega) (dbl4 _ _ _ _)))
  exact hret _ [(_, _)] _ _ _ F9.keep (fun q hq => by rw [List.mem_singleton.mp hq]; exact ⟨z', z.2.2⟩) ⟨_, _, _, _, rfl, rfl⟩ (fun x => x)
end Mine
end
section
namespace Mine
theorem crt238 (x n : Int) (h1 : x % 14 = n % 14) (h2 : x % 17 = n % 17) : x % 238 = n % 238 := by omega
theorem crt315 (x n : Int) (h1 : x % 15 = n % 15) (h2 : x % 63 = n % 63) : x % 315 = n % 315 := by omega
theorem crt195 (x n : Int) (h1 : x % 15 = n % 15) (h2 : x % 65 = n % 65) : x % 195 = n % 195 := by omega
theorem has238 (n : Int) : ∃ x : Int, 1 ≤ x ∧ x ≤ 238 ∧ x % 14 = n % 14 ∧ x % 17 = n % 17 := by
  by_cases h : n % 238 = 0
  · exact ⟨238, by omega, by omega, by omega, by omega⟩
  · exact ⟨n % 238, by omega, by omega, by omega, by omega⟩
theorem has315 (a b : Int) (h : a % 3 = b % 3) : ∃ x : Int, 1 ≤ x ∧ x ≤ 315 ∧ x % 15 = a % 15 ∧ x % 63 = b % 63 := by
  by_cases z : b % 63 + 63 * ((a - b % 63) / 3 % 5) = 0
  · exact ⟨315, by omega, by omega, by omega, by omega⟩
  · exact ⟨b % 63 + 63 * ((a - b % 63) / 3 % 5), by omega, by omega, by omega, by omega⟩
theorem has195 (a b : Int) (h : a % 5 = b % 5) : ∃ x : Int, 1 ≤ x ∧ x ≤ 195 ∧ x % 15 = a % 15 ∧ x % 65 = b % 65 := by
  by_cases z : b % 65 + 65 * ((a - b % 65) / 5 % 3) = 0
  · exact ⟨195, by omega, by omega, by omega, by omega⟩
  · exact ⟨b % 65 + 65 * ((a - b % 65) / 5 % 3), by omega, by omega, by omega, by omega⟩
theorem no315 (a b x : Int) (h : ¬ a % 3 = b % 3) (h1 : x % 15 = a % 15) (h2 : x % 63 = b % 63) : False := by omega
theorem no195 (a b x : Int) (h : ¬ a % 5 = b % 5) (h1 : x % 15 = a % 15) (h2 : x % 65 = b % 65) : False := by omega
end Mine
end
section
open PySem PySem.W PySem.Spec PySem.Calls PyProof.Rows
set_option maxRecDepth 100000
set_option maxHeartbeats 8000000
namespace Mine
theorem rsMLaw0 {M : Model} {A : Around} {Q : Flow → Shared → Prop} {E : Value → Shared → Prop} {s : Shared} {env : Env} (h : Q .next s) : wpAny M A (execs [] env) Q E s := by
  w_top off
  k_with_none
  walk1
  exact h
theorem fill20 : (PySem.Challenge.rw_qh0063_01, hd.heap_39) = (PySem.Challenge.rw_qh0063_01, hd.heap_39) := by k_fill; rfl
def lSt : Stmt := PySem.Challenge.pw_qh0063_01.main.body.getD 33 (.Pass default)
def lBody : List Stmt := match lSt with | .FunctionDef _ _ b _ _ _ _ _ _ _ => b | _ => []
def lScope : Scope := match lSt with | .FunctionDef _ _ _ _ _ _ sc _ _ _ => sc | _ => default
def lP0 : List Stmt := match lBody with | a :: b :: _ => [a, b] | _ => []
abbrev lEnv (L fa : Addr) (cd : Value) : Env := envOf (Str.ofString "law") lScope L fa cd
def Sml (n : Int) : Prop := 0 ≤ n ∧ n < 1000000
theorem sml_mod (x : Int) : Sml (x.fmod (10 ^ Int.toNat 6)) := by
  have e : ((10 : Int) ^ Int.toNat 6) = 1000000 := by decide
  rw [e, Int.fmod_eq_emod_of_nonneg _ (by decide)]
  exact ⟨Int.emod_nonneg _ (by decide), Int.emod_lt_of_pos _ (by decide)⟩
theorem four (ns : List Int) : ∃ a b c d, List.map (fun k' => k'.fmod (10 ^ Int.toNat 6)) (List.take 4 ns) ++
      List.drop ((List.map (fun k' : Int => k'.fmod (10 ^ 6)) (List.take 4 ns)).length : Int).toNat [923930, 2, 1, 4] = [a, b, c, d] ∧ Sml a ∧ Sml b ∧ Sml c ∧ Sml d := by
  have s0 : Sml 923930 := by unfold Sml; decide
  have s1 : Sml 2 := by unfold Sml; decide
  have s2 : Sml 1 := by unfold Sml; decide
  have s3 : Sml 4 := by unfold Sml; decide
  match ns with
  | [] => exact ⟨_, _, _, _, rfl, s0, s1, s2, s3⟩
  | [_] => exact ⟨_, _, _, _, rfl, sml_mod _, s1, s2, s3⟩
  | [_, _] => exact ⟨_, _, _, _, rfl, sml_mod _, sml_mod _, s2, s3⟩
  | [_, _, _] => exact ⟨_, _, _, _, rfl, sml_mod _, sml_mod _, sml_mod _, s3⟩
  | x0 :: x1 :: x2 :: x3 :: r => exact ⟨_, _, _, _, rfl, sml_mod _, sml_mod _, sml_mod _, sml_mod _⟩
theorem ints4 {vs : List Value} {a b c d : Int} (h : IntsAre vs [a, b, c, d]) : ∃ k0 k1 k2 k3, vs = [.int a k0, .int b k1, .int c k2, .int d k3] := by
  cases h with | cons _ k0 h => cases h with | cons _ k1 h => cases h with | cons _ k2 h => cases h with | cons _ k3 h => cases h with | nil => exact ⟨_, _, _, _, rfl⟩
local macro_rules | `(tactic| kmk_nums) => `(tactic| exact kmk_from (by l_ints) (Int.natCast_nonneg _))
theorem law_p0 {prog : Program} {w : World} {p : Program} {loose : List Str} {mean : ExcName → Option Value} {mg mb : Str → Option Value} 
    {base g : Heap} {s : Shared} {Q : Flow → Shared → Prop}
    {L fa sc : Addr} {cd : Value} {u : Str → Option Value} {vs : List Value} {ns : List Int}
    (B : Below callerA base [] g) (X : (hd.heap_39 w.params).In g) (T : Top p loose mean mg mb g) 
    (F : Fr g L s.heap (fun y => if y = Str.ofString "script" then some (.ref sc) else u y)) (N : News g L s.heap [])
    (hl : g.IsList sc vs.toArray) (hv : IntsAre vs ns) (hn : ns.length ≤ 63)
    (h : ∀ h' tk' m' D n0 n1 n2 n3 k0 k1 k2 k3, Fr g L h' m' → m' (Str.ofString "numbers") = some (.ref D) →
      News g L h' [(D, listOf [.int n0 k0, .int n1 k1, .int n2 k2, .int n3 k3].toArray 0)] → Sml n0 → Sml n1 → Sml n2 → Sml n3 → Q .next { s with heap := h', toks := tk' }) :
    wpAny (model prog w) (callerA.deeper (lEnv L fa cd)) (execs lP0 (lEnv L fa cd)) Q (fun _ _ => False) s := by
  unfold lEnv
  conv in lP0 => whnf
  conv in (occs := *) lScope => all_goals whnf
  k_steps
  rename IntsAre _ (_ ++ _) => hI
  rename Fr g L _ _ => F9
  rename News g L _ _ => N9
  obtain ⟨a, b, c, d, e, s0, s1, s2, s3⟩ := four ns
  rw [e] at hI
  obtain ⟨k0, k1, k2, k3, rfl⟩ := ints4 hI
  exact h _ _ _ _ _ _ _ _ _ _ _ _ F9 rfl (fun q hq => N9 q (by rw [List.mem_singleton.mp hq]; exact .head _)) s0 s1 s2 s3
def lP1 : List Stmt := match lBody with | _ :: _ :: a :: b :: _ => [a, b] | _ => []
end Mine
end
section
local macro_rules | `(tactic| k_steps) => `(tactic| repeat' (first | (k_unfold; (try dsimp only)) | (k_end; wrow_close) | (dsimp only; walk1) | walk1 | (leave1; walk_say "STEP leave1"; try dsimp only) | fail "no step"))
section
open PySem PySem.W PySem.Spec PySem.Calls PyProof.Rows
set_option maxRecDepth 100000
set_option maxHeartbeats 8000000
namespace Mine
theorem rsMLaw1 {M : Model} {A : Around} {Q : Flow → Shared → Prop} {E : Value → Shared → Prop} {s : Shared} {env : Env} (h : Q .next s) : wpAny M A (execs [] env) Q E s := by
  w_top off
  k_with_none
  walk1
  exact h
theorem fill21 : (PySem.Challenge.rw_qh0063_01, hd.heap_39) = (PySem.Challenge.rw_qh0063_01, hd.heap_39) := by k_fill; rfl
theorem zmod (z : Int) : z.fmod (2 ^ Int.toNat 24) = z % 16777216 := by
  have e : ((2 : Int) ^ Int.toNat 24) = 16777216 := by decide
  rw [e, Int.fmod_eq_emod_of_nonneg _ (by decide)]
theorem rngA (z : Int) : 0 ≤ (z.fmod (2 ^ Int.toNat 24)).fdiv 65536 ∧ (z.fmod (2 ^ Int.toNat 24)).fdiv 65536 < 256 := by
  rw [zmod, Int.fdiv_eq_ediv_of_nonneg _ (by decide)]
  omega
theorem rngB (z : Int) : 0 ≤ z.fmod 256 ∧ z.fmod 256 < 256 := by
  rw [Int.fmod_eq_emod_of_nonneg _ (by decide)]
  omega
theorem oct_back (x : Int) (h : 0 ≤ x ∧ x < 256) : ((x.toNat.toUInt8).toNat : Int) = x := by
  have e : x.toNat.toUInt8.toNat = x.toNat % 256 := by simp
  rw [e]; omega
theorem num_eq (z : Int) : z.fmod (2 ^ Int.toNat 24) = (((z.fmod (2 ^ Int.toNat 24)).fdiv 65536).toNat.toUInt8).toNat * 65536 + ((((z.fmod (2 ^ Int.toNat 24)).fdiv 256).fmod 256).toNat.toUInt8).toNat * 256 + (((z.fmod (2 ^ Int.toNat 24)).fmod 256).toNat.toUInt8).toNat := by
  rw [oct_back _ (rngA z), oct_back _ (rngB _), oct_back _ (rngB _), zmod, Int.fdiv_eq_ediv_of_nonneg _ (by decide), Int.fdiv_eq_ediv_of_nonneg _ (by decide), Int.fmod_eq_emod_of_nonneg _ (by decide), Int.fmod_eq_emod_of_nonneg _ (by decide)]
  omega
theorem kw57 : True := by (k_with "call type:bytes" => (k_here; (with_reducible show wpAny _ _ (call (Value.type _) [Value.ref _]) _ _ _); k_dflt (refine' bytes_K ?Fz57 ?Nz57 ?lz57 ?iz57 ?rz57 ?zz57 ?hz57 ?_; (case Fz57 => k_asm); (case Nz57 => k_asm); (case lz57 => is_list); (case iz57 => first | l_ints | l_intsW); (case rz57 => (intro w9n w9hn; simp only [List.mem_cons, List.not_mem_nil, or_false] at w9hn; rcases w9hn with w9hn | w9hn | w9hn <;> (rw [w9hn]; first | exact rngA _ | exact rngB _))); (case zz57 => (rw [sizeLine_eq]; show 3 ≤ _; decide)); (case hz57 => with_unfolding_all rfl); k_whole); intro w9h' w9t' w9k' w9F' w9N' w9hB'; (try dsimp only [List.map]); (try k_sweep))); trivial
theorem law_p1 {prog : Program} {w : World} {p : Program} {loose : List Str} {mean : ExcName → Option Value} {mg mb : Str → Option Value} 
    {base g : Heap} {s : Shared} {Q : Flow → Shared → Prop}
    {L fa D : Addr} {cd : Value} {u : Str → Option Value} {n0 n1 n2 n3 : Int} {k0 k1 k2 k3 : Tok}
    (B : Below callerA base [] g) (X : (hd.heap_39 w.params).In g) (T : Top p loose mean mg mb g) 
    (F : Fr g L s.heap (fun y => if y = Str.ofString "numbers" then some (.ref D) else u y))
    (N : News g L s.heap [(D, listOf [.int n0 k0, .int n1 k1, .int n2 k2, .int n3 k3].toArray 0)])
    (s0 : 0 ≤ n0 ∧ n0 < 1000000) (s1 : 0 ≤ n1 ∧ n1 < 1000000)
    (h : ∀ h' tk' m' b0 b1 b2 k t, Fr g L h' m' → m' (Str.ofString "numbers") = some (.ref D) → m' (Str.ofString "number") = some (.int ((b0 : UInt8).toNat * 65536 + (b1 : UInt8).toNat * 256 + (b2 : UInt8).toNat) k) → m' (Str.ofString "row") = some (.bytes #[b0, b1, b2] t) →
      News g L h' [(D, listOf [.int n0 k0, .int n1 k1, .int n2 k2, .int n3 k3].toArray 0)] → Q .next { s with heap := h', toks := tk' }) :
    wpAny (model prog w) (callerA.deeper (lEnv L fa cd)) (execs lP1 (lEnv L fa cd)) Q (fun _ _ => False) s := by
  unfold lEnv
  conv in lP1 => whnf
  conv in (occs := *) lScope => all_goals whnf
  k_steps
  rename Fr g L _ _ => F9
  rename News g L _ _ => N9
  exact h _ _ _ _ _ _ _ _ F9 rfl (congrArg (fun z : Int => some (Value.int z _)) (num_eq _)) rfl (fun q hq => N9 q (by rw [List.mem_singleton.mp hq]; exact .tail _ (.head _)))
def lP2 : List Stmt := match lBody with | _ :: _ :: _ :: _ :: a :: b :: c :: _ => [a, b, c] | _ => []
end Mine
end
section
open PySem PySem.W PySem.Spec PySem.Calls PyProof.Rows
set_option maxRecDepth 100000
set_option maxHeartbeats 8000000
namespace Mine
theorem rsMLaw2 {M : Model} {A : Around} {Q : Flow → Shared → Prop} {E : Value → Shared → Prop} {s : Shared} {env : Env} (h : Q .next s) : wpAny M A (execs [] env) Q E s := by
  w_top off
  k_with_none
  walk1
  exact h
theorem fill22 : (PySem.Challenge.rw_qh0063_01, hd.heap_39) = (PySem.Challenge.rw_qh0063_01, hd.heap_39) := by k_fill; rfl
theorem Ctr.mono {w : World} {f : Addr} {args : List Value} {tch : List (Addr × Obj)} {k : Nat} {post post' : Value → List (Addr × Obj) → Prop}
    (C : Ctr w f args tch k post) (h : ∀ v out, post v out → post' v out) : Ctr w f args tch k post' :=
  fun prog p loose mean mg mb dp un gd cn cs L a ccd cl outer base g s Q E B X T hst hsz N hk hr hu hret =>
    C prog p loose mean mg mb dp un gd cn cs L a ccd cl outer base g s Q E B X T hst hsz N hk hr hu (fun v out h' tk' gs' h1 h2 h3 h4 => hret v out h' tk' gs' h1 h2 (h _ _ h3) h4)
theorem b16_d {w : World} {b0 b1 b2 : UInt8} {k : Tok} :
    Ctr w 118 [.bytes #[b0, b1, b2] k] [] 5 (fun v out => out = [] ∧ ∃ t, v = .bytes #[sign16 (b0.toNat / 16), sign16 (b0.toNat % 16), sign16 (b1.toNat / 16), sign16 (b1.toNat % 16), sign16 (b2.toNat / 16), sign16 (b2.toNat % 16)] t) :=
  b16_c
theorem b64_d {w : World} {b0 b1 b2 : UInt8} {k : Tok} :
    Ctr w 103 [.bytes #[b0, b1, b2] k] [] 5 (fun v out => out = [] ∧ ∃ t, v = .bytes #[sign64 (b0.toNat / 4), sign64 (b0.toNat % 4 * 16 + b1.toNat / 16), sign64 (b1.toNat % 16 * 4 + b2.toNat / 64), sign64 (b2.toNat % 64)] t) :=
  b64_c
theorem kw58 : True := by (k_with "call ref" => (k_here; (with_reducible show wpAny _ _ (call (Value.ref 118) _) _ _ _); k_dflt (refine' Ctr.use b16_d ?k1z58 ?k2z58 ?k3z58 ?k4z58 News.nil ?k5z58 ?k6z58 ?k7z58 ?k8z58 ?k9z58 ?_; (case k1z58 => k_asm); (case k2z58 => k_asm); (case k3z58 => k_asm); (case k4z58 => k_asm); (case k5z58 => k_asm); (case k6z58 => (intro w9q w9hq w9hn; cases w9hn)); (case k7z58 => exact rfl); (case k8z58 => ktr_room); (case k9z58 => ktr_units); k_whole; intro w9v9 w9out9 w9h9 w9tk9 w9gs9 w9hp9 w9F9 w9N9 w9d9 w9hb9; obtain ⟨e9, t9, e8⟩ := w9hp9; subst e9 e8; simp only [List.nil_append] at w9N9; clear w9d9))); trivial
theorem kw59 : True := by (k_with "call ref" => (k_here; (with_reducible show wpAny _ _ (call (Value.ref 103) _) _ _ _); k_dflt (refine' Ctr.use b64_d ?k1z59 ?k2z59 ?k3z59 ?k4z59 News.nil ?k5z59 ?k6z59 ?k7z59 ?k8z59 ?k9z59 ?_; (case k1z59 => k_asm); (case k2z59 => k_asm); (case k3z59 => k_asm); (case k4z59 => k_asm); (case k5z59 => k_asm); (case k6z59 => (intro w9q w9hq w9hn; cases w9hn)); (case k7z59 => exact rfl); (case k8z59 => ktr_room); (case k9z59 => ktr_units); k_whole; intro w9v9 w9out9 w9h9 w9tk9 w9gs9 w9hp9 w9F9 w9N9 w9d9 w9hb9; obtain ⟨e9, t9, e8⟩ := w9hp9; subst e9 e8; simp only [List.nil_append] at w9N9; clear w9d9))); trivial
theorem kw60 : True := by (k_with "call ref" => (k_here; (with_reducible show wpAny _ _ (call (Value.ref 165) _) _ _ _); k_dflt (refine' Ctr.use (sums16_c ?p1z60 ?p2z60 ?p3z60 ?p4z60 ?p5z60 ?p6z60) ?k1z60 ?k2z60 ?k3z60 ?k4z60 News.nil ?k5z60 ?k6z60 ?k7z60 ?k8z60 ?k9z60 ?_; (case p1z60 => omega); (case p2z60 => omega); (case p3z60 => omega); (case p4z60 => omega); (case p5z60 => omega); (case p6z60 => omega); (case k1z60 => k_asm); (case k2z60 => k_asm); (case k3z60 => k_asm); (case k4z60 => k_asm); (case k5z60 => k_asm); (case k6z60 => (intro w9q w9hq w9hn; cases w9hn)); (case k7z60 => exact rfl); (case k8z60 => ktr_room); (case k9z60 => ktr_units); k_whole; intro w9v9 w9out9 w9h9 w9tk9 w9gs9 w9hp9 w9F9 w9N9 w9d9 w9hb9; obtain ⟨a9, t9, t8, t7, e9, e8⟩ := w9hp9; subst e9 e8; simp only [List.cons_append, List.nil_append] at w9N9; clear w9d9))); trivial
theorem kw61 : True := by (k_with "call ref" => (k_here; (with_reducible show wpAny _ _ (call (Value.ref 165) _) _ _ _); k_dflt (refine' Ctr.use (sums64_c ?p1z61 ?p2z61 ?p3z61 ?p4z61) ?k1z61 ?k2z61 ?k3z61 ?k4z61 News.nil ?k5z61 ?k6z61 ?k7z61 ?k8z61 ?k9z61 ?_; (case p1z61 => omega); (case p2z61 => omega); (case p3z61 => omega); (case p4z61 => omega); (case k1z61 => k_asm); (case k2z61 => k_asm); (case k3z61 => k_asm); (case k4z61 => k_asm); (case k5z61 => k_asm); (case k6z61 => (intro w9q w9hq w9hn; cases w9hn)); (case k7z61 => exact rfl); (case k8z61 => ktr_room); (case k9z61 => ktr_units); k_whole; intro w9v9 w9out9 w9h9 w9tk9 w9gs9 w9hp9 w9F9 w9N9 w9d9 w9hb9; obtain ⟨a9, t9, t8, t7, e9, e8⟩ := w9hp9; subst e9 e8; simp only [List.cons_append, List.nil_append] at w9N9; clear w9d9))); trivial
theorem sumsA (b0 b1 b2 : Nat) (n : Int) (hn : n = b0 * 65536 + b1 * 256 + b2) :
    ((b2 % 16 : Nat) + (b2 / 16 : Nat) + (b1 % 16 : Nat) + (b1 / 16 : Nat) + (b0 % 16 : Nat) + (b0 / 16 : Nat) : Int) % 15 = n % 15 ∧
    (((b2 % 16 : Nat) + (b1 % 16 : Nat) + (b0 % 16 : Nat) : Int) - ((b2 / 16 : Nat) + (b1 / 16 : Nat) + (b0 / 16 : Nat))) % 17 = n % 17 ∧
    ((b2 % 16 : Nat) + 2 * (b2 / 16 : Nat) + 4 * (b1 % 16 : Nat) + 8 * (b1 / 16 : Nat) + 16 * (b0 % 16 : Nat) + 32 * (b0 / 16 : Nat) : Int) % 14 = n % 14 := by
  omega
theorem sumsB (d0 d1 d2 d3 : Nat) (n : Int) (hn : n = d0 * 262144 + d1 * 4096 + d2 * 64 + d3) :
    ((d3 + d2 + d1 + d0 : Int)) % 63 = n % 63 ∧ ((d3 + d1 : Int) - (d2 + d0)) % 65 = n % 65 ∧ (d3 + 2 * d2 + 4 * d1 + 8 * d0 : Int) % 62 = n % 62 := by
  omega
theorem law_p2 {prog : Program} {w : World} {p : Program} {loose : List Str} {mean : ExcName → Option Value} {mg mb : Str → Option Value} 
    {base g : Heap} {s : Shared} {Q : Flow → Shared → Prop}
    {L fa D : Addr} {cd : Value} {u : Str → Option Value} {b0 b1 b2 : UInt8} {n : Int} {oD : Obj} {kn kr : Tok}
    (B : Below callerA base [] g) (X : (hd.heap_39 w.params).In g) (T : Top p loose mean mg mb g) 
    (F : Fr g L s.heap (fun y => if y = Str.ofString "numbers" then some (.ref D) else if y = Str.ofString "number" then some (.int n kn) else if y = Str.ofString "row" then some (.bytes #[b0, b1, b2] kr) else u y))
    (N : News g L s.heap [(D, oD)])
    (hn : n = b0.toNat * 65536 + b1.toNat * 256 + b2.toNat)
    (h : ∀ h' tk' gs' m' c0 c1 c2 c3 c4 c5 d0 d1 d2 d3 pl cr db wh pa fo t0 t1 t2 t3 t4 t5 t6 t7, Fr g L h' m' → m' (Str.ofString "numbers") = some (.ref D) → m' (Str.ofString "number") = some (.int n kn) →
      m' (Str.ofString "shown") = some (.bytes #[sign16 c0, sign16 c1, sign16 c2, sign16 c3, sign16 c4, sign16 c5] t0) → m' (Str.ofString "written") = some (.bytes #[sign64 d0, sign64 d1, sign64 d2, sign64 d3] t1) →
      m' (Str.ofString "plain") = some (.int pl t2) → m' (Str.ofString "crossed") = some (.int cr t3) → m' (Str.ofString "doubled") = some (.int db t4) →
      m' (Str.ofString "whole") = some (.int wh t5) → m' (Str.ofString "parted") = some (.int pa t6) → m' (Str.ofString "folded") = some (.int fo t7) →
      News g L h' [(D, oD)] → d0 < 64 → d1 < 64 → d2 < 64 → d3 < 64 → n = d0 * 262144 + d1 * 4096 + d2 * 64 + d3 →
      pl % 15 = n % 15 → cr % 17 = n % 17 → db % 14 = n % 14 → wh % 63 = n % 63 → pa % 65 = n % 65 → fo % 62 = n % 62 → (AllBare s.gens → AllBare gs') → Q .next { s with heap := h', toks := tk', gens := gs' }) :
    wpAny (model prog w) (callerA.deeper (lEnv L fa cd)) (execs lP2 (lEnv L fa cd)) Q (fun _ _ => False) s := by
  have h0 := b0.toNat_lt
  have h1 := b1.toNat_lt
  have h2 := b2.toNat_lt
  unfold lEnv
  conv in lP2 => whnf
  conv in (occs := *) lScope => all_goals whnf
  k_steps
  rename Fr g L _ _ => F9
  rename News g L _ _ => N9
  have qn : n = (b0.toNat / 4 : Nat) * 262144 + (b0.toNat % 4 * 16 + b1.toNat / 16 : Nat) * 4096 + (b1.toNat % 16 * 4 + b2.toNat / 64 : Nat) * 64 + (b2.toNat % 64 : Nat) := by omega
  have qA := sumsA b0.toNat b1.toNat b2.toNat n hn
  have qB := sumsB _ _ _ _ n qn
  exact h _ _ _ _ _ _ _ _ _ _ _ _ _ _ _ _ _ _ _ _ _ _ _ _ _ _ _ _ F9 rfl rfl rfl rfl rfl rfl rfl rfl rfl rfl (fun q hq => N9 q (by rw [List.mem_singleton.mp hq]; exact .tail _ (.tail _ (.tail _ (.head _))))) (by omega) (by omega) (by omega) (by omega) qn qA.1 qA.2.1 qA.2.2 qB.1 qB.2.1 qB.2.2 (by intro x; clear h; solve_by_elim (maxDepth := 8))
def lP3 : List Stmt := match lBody with | _ :: _ :: _ :: _ :: _ :: _ :: _ :: a :: _ => [a] | _ => []
def lP4 : List Stmt := match lBody with | _ :: _ :: _ :: _ :: _ :: _ :: _ :: _ :: a :: b :: _ => [a, b] | _ => []
end Mine
end
section
open PySem PySem.W PySem.Spec PySem.Calls PyProof.Rows
set_option maxRecDepth 100000
set_option maxHeartbeats 8000000
namespace Mine
theorem rsMLaw3 {M : Model} {A : Around} {Q : Flow → Shared → Prop} {E : Value → Shared → Prop} {s : Shared} {env : Env} (h : Q .next s) : wpAny M A (execs [] env) Q E s := by
  w_top off
  k_with_none
  walk1
  exact h
theorem fill23 : (PySem.Challenge.rw_qh0063_01, hd.heap_39) = (PySem.Challenge.rw_qh0063_01, hd.heap_39) := by k_fill; rfl
theorem law_p3 {prog : Program} {w : World} {p : Program} {loose : List Str} {mean : ExcName → Option Value} {mg mb : Str → Option Value} 
    {base g : Heap} {s : Shared} {Q : Flow → Shared → Prop}
    {L fa D : Addr} {cd : Value} {u : Str → Option Value} {c0 c1 c2 c3 c4 c5 d0 d1 d2 d3 : Nat} {n fo : Int} {oD : Obj} {t0 t1 t7 kn : Tok}
    (B : Below callerA base [] g) (X : (hd.heap_39 w.params).In g) (T : Top p loose mean mg mb g) 
    (F : Fr g L s.heap (fun y => if y = Str.ofString "shown" then some (.bytes #[sign16 c0, sign16 c1, sign16 c2, sign16 c3, sign16 c4, sign16 c5] t0) else if y = Str.ofString "written" then some (.bytes #[sign64 d0, sign64 d1, sign64 d2, sign64 d3] t1) else if y = Str.ofString "folded" then some (.int fo t7) else if y = Str.ofString "number" then some (.int n kn) else u y))
    (N : News g L s.heap [(D, oD)])
    (hf : fo.fmod 62 = n.fmod 62)
    (h : ∀ h' tk', Fr g L h' (fun y => if y = Str.ofString "shown" then some (.bytes #[sign16 c0, sign16 c1, sign16 c2, sign16 c3, sign16 c4, sign16 c5] t0) else if y = Str.ofString "written" then some (.bytes #[sign64 d0, sign64 d1, sign64 d2, sign64 d3] t1) else if y = Str.ofString "folded" then some (.int fo t7) else if y = Str.ofString "number" then some (.int n kn) else u y) →
      News g L h' [(D, oD)] → Q .next { s with heap := h', toks := tk' }) :
    wpAny (model prog w) (callerA.deeper (lEnv L fa cd)) (execs lP3 (lEnv L fa cd)) Q (fun _ _ => False) s := by
  unfold lEnv
  conv in lP3 => whnf
  conv in (occs := *) lScope => all_goals whnf
  k_steps
  · rename Fr g L _ _ => F9
    rename News g L _ _ => N9
    exact h _ _ F9 (fun q hq => N9 q (by rw [List.mem_singleton.mp hq]; exact .tail _ (.tail _ (.head _))))
  · exfalso
    simp_all
theorem metA {w : World} {r1 r2 n : Int} {t1 t2 : Addr} {k0 k1 k2 k3 : Tok} (h1 : r1 % 14 = n % 14) (h2 : r2 % 17 = n % 17) :
    Ctr w 179 [.ref t1, .ref t2] [(t1, tup [.int r1 k0, .int 14 k1]), (t2, tup [.int r2 k2, .int 17 k3])] 7 (fun v out => out = [] ∧ ∃ t, v = .int (n.fmod 238) t) :=
  met_cA.mono fun v out ⟨e, h⟩ => ⟨e, by
    rw [Int.fmod_eq_emod_of_nonneg _ (by decide)]
    rcases h with ⟨x, t, e, _, _, q1, q2⟩ | ⟨_, q⟩
    · exact ⟨t, by rw [e, crt238 x n (by omega) (by omega)]⟩
    · obtain ⟨x, a, b, c, d⟩ := has238 n
      exact absurd ⟨x, a, b, by omega, by omega⟩ q⟩
theorem metB {w : World} {r1 r2 n : Int} {t1 t2 : Addr} {k0 k1 k2 k3 : Tok} (h1 : r1 % 15 = n % 15) (h2 : r2 % 63 = n % 63) :
    Ctr w 179 [.ref t1, .ref t2] [(t1, tup [.int r1 k0, .int 15 k1]), (t2, tup [.int r2 k2, .int 63 k3])] 7 (fun v out => out = [] ∧ ∃ t, v = .int (n.fmod 315) t) :=
  met_cB.mono fun v out ⟨e, h⟩ => ⟨e, by
    rw [Int.fmod_eq_emod_of_nonneg _ (by decide)]
    rcases h with ⟨x, t, e, _, _, q1, q2⟩ | ⟨_, q⟩
    · exact ⟨t, by rw [e, crt315 x n (by omega) (by omega)]⟩
    · obtain ⟨x, a, b, c, d⟩ := has315 r1 r2 (by omega)
      exact absurd ⟨x, a, b, by omega, by omega⟩ q⟩
theorem metC {w : World} {r1 r2 n : Int} {t1 t2 : Addr} {k0 k1 k2 k3 : Tok} (h1 : r1 % 15 = n % 15) (h2 : r2 % 65 = n % 65) :
    Ctr w 179 [.ref t1, .ref t2] [(t1, tup [.int r1 k0, .int 15 k1]), (t2, tup [.int r2 k2, .int 65 k3])] 7 (fun v out => out = [] ∧ ∃ t, v = .int (n.fmod 195) t) :=
  met_cC.mono fun v out ⟨e, h⟩ => ⟨e, by
    rw [Int.fmod_eq_emod_of_nonneg _ (by decide)]
    rcases h with ⟨x, t, e, _, _, q1, q2⟩ | ⟨_, q⟩
    · exact ⟨t, by rw [e, crt195 x n (by omega) (by omega)]⟩
    · obtain ⟨x, a, b, c, d⟩ := has195 r1 r2 (by omega)
      exact absurd ⟨x, a, b, by omega, by omega⟩ q⟩
theorem metB2 {w : World} {r1 r2 : Int} {t1 t2 : Addr} {k0 k1 k2 k3 : Tok} :
    Ctr w 179 [.ref t1, .ref t2] [(t1, tup [.int r1 k0, .int 15 k1]), (t2, tup [.int r2 k2, .int 63 k3])] 7 (fun v out => out = [] ∧ ((r1 % 3 = r2 % 3 ∧ ∃ x t, v = .int x t) ∨ (r1 % 3 ≠ r2 % 3 ∧ v = .none))) :=
  met_cB.mono fun v out ⟨e, h⟩ => ⟨e, by
    rcases h with ⟨x, t, e, _, _, q1, q2⟩ | ⟨e, q⟩
    · exact .inl ⟨by omega, _, t, e⟩
    · refine .inr ⟨fun z => ?_, e⟩
      obtain ⟨x, a, b, c, d⟩ := has315 r1 r2 z
      exact absurd ⟨x, a, b, c, d⟩ q⟩
theorem metC2 {w : World} {r1 r2 : Int} {t1 t2 : Addr} {k0 k1 k2 k3 : Tok} :
    Ctr w 179 [.ref t1, .ref t2] [(t1, tup [.int r1 k0, .int 15 k1]), (t2, tup [.int r2 k2, .int 65 k3])] 7 (fun v out => out = [] ∧ ((r1 % 5 = r2 % 5 ∧ ∃ x t, v = .int x t) ∨ (r1 % 5 ≠ r2 % 5 ∧ v = .none))) :=
  met_cC.mono fun v out ⟨e, h⟩ => ⟨e, by
    rcases h with ⟨x, t, e, _, _, q1, q2⟩ | ⟨e, q⟩
    · exact .inl ⟨by omega, _, t, e⟩
    · refine .inr ⟨fun z => ?_, e⟩
      obtain ⟨x, a, b, c, d⟩ := has195 r1 r2 z
      exact absurd ⟨x, a, b, c, d⟩ q⟩
end Mine
end
section
open PySem PySem.W PySem.Spec PySem.Calls PyProof.Rows
set_option maxRecDepth 100000
set_option maxHeartbeats 8000000
namespace Mine
theorem rsMLaw4 {M : Model} {A : Around} {Q : Flow → Shared → Prop} {E : Value → Shared → Prop} {s : Shared} {env : Env} (h : Q .next s) : wpAny M A (execs [] env) Q E s := by
  w_top off
  k_with_none
  walk1
  exact h
theorem fill24 : (PySem.Challenge.rw_qh0063_01, hd.heap_39) = (PySem.Challenge.rw_qh0063_01, hd.heap_39) := by k_fill; rfl
theorem news_sw {g h : Heap} {L : Addr} {x0 x1 : Addr × Obj} {r : List (Addr × Obj)} (N : News g L h (x0 :: x1 :: r)) : News g L h [x1, x0] := fun q hq => N q (by
  simp only [List.mem_cons, List.not_mem_nil, or_false] at hq ⊢
  rcases hq with q | q <;> simp [q])
theorem news_r2 {g h : Heap} {L : Addr} {x0 x1 : Addr × Obj} {r : List (Addr × Obj)} (N : News g L h (x0 :: x1 :: r)) : News g L h r := fun q hq => N q (by
  simp only [List.mem_cons]
  simp [hq])
theorem kw62 : True := by (k_with "call ref" => (k_here; (with_reducible show wpAny _ _ (call (Value.ref 179) _) _ _ _); k_dflt (refine' Ctr.use (metA ?p1z62 ?p2z62) ?k1z62 ?k2z62 ?k3z62 ?k4z62 (news_sw ?kNz62) (news_r2 ?kMz62) ?k6z62 ?k7z62 ?k8z62 ?k9z62 ?_; (case kNz62 => k_asm); (case kMz62 => k_asm); (case p1z62 => assumption); (case p2z62 => assumption); (case k1z62 => k_asm); (case k2z62 => k_asm); (case k3z62 => k_asm); (case k4z62 => k_asm); (case k6z62 => (intro w9q w9hq w9hn; simp only [List.mem_cons, List.map_cons, List.map_nil, List.not_mem_nil, or_false] at w9hq w9hn; subst w9hq; dsimp only at w9hn; rcases w9hn with e9 | e9 <;> (have e8 := eqN e9; omega))); (case k7z62 => exact rfl); (case k8z62 => ktr_room); (case k9z62 => ktr_units); k_whole; intro w9v9 w9out9 w9h9 w9tk9 w9gs9 w9hp9 w9F9 w9N9 w9d9 w9hb9; obtain ⟨e9, t9, e8⟩ := w9hp9; subst e9 e8; simp only [List.nil_append] at w9N9; clear w9d9))); trivial
theorem kw63 : True := by (k_with "call ref" => (k_here; (with_reducible show wpAny _ _ (call (Value.ref 179) _) _ _ _); k_dflt (refine' Ctr.use (metB ?p1z63 ?p2z63) ?k1z63 ?k2z63 ?k3z63 ?k4z63 (news_sw ?kNz63) (news_r2 ?kMz63) ?k6z63 ?k7z63 ?k8z63 ?k9z63 ?_; (case kNz63 => k_asm); (case kMz63 => k_asm); (case p1z63 => assumption); (case p2z63 => assumption); (case k1z63 => k_asm); (case k2z63 => k_asm); (case k3z63 => k_asm); (case k4z63 => k_asm); (case k6z63 => (intro w9q w9hq w9hn; simp only [List.mem_cons, List.map_cons, List.map_nil, List.not_mem_nil, or_false] at w9hq w9hn; subst w9hq; dsimp only at w9hn; rcases w9hn with e9 | e9 <;> (have e8 := eqN e9; omega))); (case k7z63 => exact rfl); (case k8z63 => ktr_room); (case k9z63 => ktr_units); k_whole; intro w9v9 w9out9 w9h9 w9tk9 w9gs9 w9hp9 w9F9 w9N9 w9d9 w9hb9; obtain ⟨e9, t9, e8⟩ := w9hp9; subst e9 e8; simp only [List.nil_append] at w9N9; clear w9d9))); trivial
theorem kw64 : True := by (k_with "call ref" => (k_here; (with_reducible show wpAny _ _ (call (Value.ref 179) _) _ _ _); k_dflt (refine' Ctr.use (metC ?p1z64 ?p2z64) ?k1z64 ?k2z64 ?k3z64 ?k4z64 (news_sw ?kNz64) (news_r2 ?kMz64) ?k6z64 ?k7z64 ?k8z64 ?k9z64 ?_; (case kNz64 => k_asm); (case kMz64 => k_asm); (case p1z64 => assumption); (case p2z64 => assumption); (case k1z64 => k_asm); (case k2z64 => k_asm); (case k3z64 => k_asm); (case k4z64 => k_asm); (case k6z64 => (intro w9q w9hq w9hn; simp only [List.mem_cons, List.map_cons, List.map_nil, List.not_mem_nil, or_false] at w9hq w9hn; subst w9hq; dsimp only at w9hn; rcases w9hn with e9 | e9 <;> (have e8 := eqN e9; omega))); (case k7z64 => exact rfl); (case k8z64 => ktr_room); (case k9z64 => ktr_units); k_whole; intro w9v9 w9out9 w9h9 w9tk9 w9gs9 w9hp9 w9F9 w9N9 w9d9 w9hb9; obtain ⟨e9, t9, e8⟩ := w9hp9; subst e9 e8; simp only [List.nil_append] at w9N9; clear w9d9))); trivial
theorem law_p4 {prog : Program} {w : World} {p : Program} {loose : List Str} {mean : ExcName → Option Value} {mg mb : Str → Option Value} 
    {base g : Heap} {s : Shared} {Q : Flow → Shared → Prop}
    {L fa D : Addr} {cd : Value} {u : Str → Option Value} {pl cr db wh pa n : Int} {oD : Obj} {t2 t3 t4 t5 t6 kn : Tok}
    (B : Below callerA base [] g) (X : (hd.heap_39 w.params).In g) (T : Top p loose mean mg mb g) 
    (F : Fr g L s.heap (fun y => if y = Str.ofString "plain" then some (.int pl t2) else if y = Str.ofString "crossed" then some (.int cr t3) else if y = Str.ofString "doubled" then some (.int db t4) else if y = Str.ofString "whole" then some (.int wh t5) else if y = Str.ofString "parted" then some (.int pa t6) else if y = Str.ofString "number" then some (.int n kn) else u y))
    (N : News g L s.heap [(D, oD)])
    (q1 : pl % 15 = n % 15) (q2 : cr % 17 = n % 17) (q3 : db % 14 = n % 14) (q4 : wh % 63 = n % 63) (q5 : pa % 65 = n % 65)
    (h : ∀ h' tk' gs' l, Fr g L h' (fun y => if y = Str.ofString "met" then some (.ref l) else if y = Str.ofString "plain" then some (.int pl t2) else if y = Str.ofString "crossed" then some (.int cr t3) else if y = Str.ofString "doubled" then some (.int db t4) else if y = Str.ofString "whole" then some (.int wh t5) else if y = Str.ofString "parted" then some (.int pa t6) else if y = Str.ofString "number" then some (.int n kn) else u y) →
      News g L h' [(D, oD)] → (AllBare s.gens → AllBare gs') → Q .next { s with heap := h', toks := tk', gens := gs' }) :
    wpAny (model prog w) (callerA.deeper (lEnv L fa cd)) (execs lP4 (lEnv L fa cd)) Q (fun _ _ => False) s := by
  unfold lEnv
  conv in lP4 => whnf
  conv in (occs := *) lScope => all_goals whnf
  k_steps
  rename Fr g L _ _ => F9
  rename News g L _ _ => N9
  exact h _ _ _ _ F9 (fun q hq => N9 q (by rw [List.mem_singleton.mp hq]; exact .tail _ (.tail _ (.head _)))) (by intro x; clear h; solve_by_elim (maxDepth := 8))
def lP5 : List Stmt := match lBody with | _ :: _ :: _ :: _ :: _ :: _ :: _ :: _ :: _ :: _ :: a :: b :: c :: d :: _ => [a, b, c, d] | _ => []
end Mine
end
section
open PySem PySem.W PySem.Spec PySem.Calls PyProof.Rows
set_option maxRecDepth 100000
set_option maxHeartbeats 8000000
namespace Mine
theorem rsMLaw5 {M : Model} {A : Around} {Q : Flow → Shared → Prop} {E : Value → Shared → Prop} {s : Shared} {env : Env} (h : Q .next s) : wpAny M A (execs [] env) Q E s := by
  w_top off
  k_with_none
  walk1
  exact h
theorem fill25 : (PySem.Challenge.rw_qh0063_01, hd.heap_39) = (PySem.Challenge.rw_qh0063_01, hd.heap_39) := by k_fill; rfl
theorem kw65 : True := by (k_with "call builtin:bytes.decode" => (k_here; k_dflt (refine dec4 (by assumption) (by assumption) (by assumption) (by assumption) ?_; intro w9t9 w9tk9))); trivial
/-- the figure at a place -/
def pick (d0 d1 d2 d3 : Nat) (i : Int) : Nat := if i = 0 then d0 else if i = 1 then d1 else if i = 2 then d2 else d3
theorem pick_lt {d0 d1 d2 d3 : Nat} {i : Int} (h0 : d0 < 64) (h1 : d1 < 64) (h2 : d2 < 64) (h3 : d3 < 64) : pick d0 d1 d2 d3 i < 64 := by
  unfold pick; split
  · assumption
  · split
    · assumption
    · split <;> assumption
theorem four_cases {i : Int} (a : 0 ≤ i) (b : i < 4) : i = 0 ∨ i = 1 ∨ i = 2 ∨ i = 3 := by omega
theorem item_pick (d0 d1 d2 d3 : Nat) (i : Int) (a : 0 ≤ i) (b : i < 4) : Txt.item ⟨#[(sign64 d0).toNat, (sign64 d1).toNat, (sign64 d2).toNat, (sign64 d3).toNat]⟩ i = ⟨#[(sign64 (pick d0 d1 d2 d3 i)).toNat]⟩ := by
  rcases four_cases a b with rfl | rfl | rfl | rfl <;> rfl
theorem item_sign (d : Nat) (h : d < 64) : Txt.item (Str.ofString "ABCDEFGHIJKLMNOPQRSTUVWXYZabcdefghijklmnopqrstuvwxyz0123456789+/") (d : Int) = ⟨#[(sign64 d).toNat]⟩ := by
  have : ∀ d : Fin 64, Txt.item (Str.ofString "ABCDEFGHIJKLMNOPQRSTUVWXYZabcdefghijklmnopqrstuvwxyz0123456789+/") (d.1 : Int) = ⟨#[(sign64 d.1).toNat]⟩ := by decide +kernel
  exact this ⟨d, h⟩
theorem fm_lo (x : Int) (k : Int) (h : 0 < k) : 0 ≤ x.fmod k := by
  rw [Int.fmod_eq_emod_of_nonneg _ (by omega)]; exact Int.emod_nonneg _ (by omega)
theorem fm_hi (x : Int) (k : Int) (h : 0 < k) : x.fmod k < k := by
  rw [Int.fmod_eq_emod_of_nonneg _ (by omega)]; exact Int.emod_lt_of_pos _ h
section
variable {prog : Program} {w : World} {A : Around} {E : Value → Shared → Prop} {s : Shared} {value slice : PySem.Expr} {t u : Tok} {Q : Value → Shared → Prop}
theorem text_item {d0 d1 d2 d3 : Nat} {x : Int} (h : Q (.str ⟨#[(sign64 (pick d0 d1 d2 d3 (x.fmod 4))).toNat]⟩ s.toks) { s with toks := s.toks + 1 })
    (hs : subscripted slice false (.str ⟨#[(sign64 d0).toNat, (sign64 d1).toNat, (sign64 d2).toNat, (sign64 d3).toNat]⟩ t) (.int (x.fmod 4) u) = operate [.str ⟨#[(sign64 d0).toNat, (sign64 d1).toNat, (sign64 d2).toNat, (sign64 d3).toNat]⟩ t, .int (x.fmod 4) u] (getItem (.str ⟨#[(sign64 d0).toNat, (sign64 d1).toNat, (sign64 d2).toNat, (sign64 d3).toNat]⟩ t) (.int (x.fmod 4) u)) := by with_unfolding_all rfl)
    (ht : ∀ r, letTemporaryGo value (.str ⟨#[(sign64 d0).toNat, (sign64 d1).toNat, (sign64 d2).toNat, (sign64 d3).toNat]⟩ t) r = pure () := by intro _; with_unfolding_all rfl) :
    wpAny (model prog w) A (subscriptTail value slice (.str ⟨#[(sign64 d0).toNat, (sign64 d1).toNat, (sign64 d2).toNat, (sign64 d3).toNat]⟩ t) (.int (x.fmod 4) u)) Q E s := by
  have a := fm_lo x 4 (by decide)
  have b := fm_hi x 4 (by decide)
  refine KXi.item (n := 4) rfl (by omega) (by omega) (by decide) (fun _ => ?_) hs ht
  rw [item_pick _ _ _ _ _ a b]
  exact h
theorem sign_item {x : Int} (h : Q (.str ⟨#[(sign64 (x.fmod 64).toNat).toNat]⟩ s.toks) { s with toks := s.toks + 1 })
    (hs : subscripted slice false (.str (Str.ofString "ABCDEFGHIJKLMNOPQRSTUVWXYZabcdefghijklmnopqrstuvwxyz0123456789+/") t) (.int (x.fmod 64) u) = operate [.str (Str.ofString "ABCDEFGHIJKLMNOPQRSTUVWXYZabcdefghijklmnopqrstuvwxyz0123456789+/") t, .int (x.fmod 64) u] (getItem (.str (Str.ofString "ABCDEFGHIJKLMNOPQRSTUVWXYZabcdefghijklmnopqrstuvwxyz0123456789+/") t) (.int (x.fmod 64) u)) := by with_unfolding_all rfl)
    (ht : ∀ r, letTemporaryGo value (.str (Str.ofString "ABCDEFGHIJKLMNOPQRSTUVWXYZabcdefghijklmnopqrstuvwxyz0123456789+/") t) r = pure () := by intro _; with_unfolding_all rfl) :
    wpAny (model prog w) A (subscriptTail value slice (.str (Str.ofString "ABCDEFGHIJKLMNOPQRSTUVWXYZabcdefghijklmnopqrstuvwxyz0123456789+/") t) (.int (x.fmod 64) u)) Q E s := by
  have a := fm_lo x 64 (by decide)
  have b := fm_hi x 64 (by decide)
  refine KXi.item (n := 64) (by decide +kernel) (by omega) (by omega) (by decide) (fun _ => ?_) hs ht
  have e : ((x.fmod 64).toNat : Int) = x.fmod 64 := by omega
  have q := item_sign (x.fmod 64).toNat (by omega)
  rw [e] at q
  rw [q]
  exact h
end
theorem kw66 : True := by (k_with "subscriptTail" => (k_here; (with_reducible show wpAny _ _ (subscriptTail _ _ (Value.str _ _) (Value.int _ _)) _ _ _); first | refine text_item ?_ | refine sign_item ?_)); trivial
theorem kw67 : True := by (k_with "call builtin:str.index" => (k_here; k_dflt (refine idx64 (pick_lt (by assumption) (by assumption) (by assumption) (by assumption)) ?_; intro w9t9 w9tk9))); trivial
def put (d : Nat) (j i : Int) (e : Nat) : Nat := if i = j then e else d
theorem put_lt {d : Nat} {j i : Int} {e : Nat} (h : d < 64) (h' : e < 64) : put d j i e < 64 := by unfold put; split <;> assumption
theorem sl_idx (l u : Option Int) (x : PySem.Str) (idx : List Nat) (h : Builtin.Str.strSliceIndices l u 1 x.length = idx) (hb : (idx.length == x.length) = false) : Txt.slice x l u = ⟨(idx.filterMap (x.cps[·]?)).toArray⟩ := by
  unfold Txt.slice
  rw [h, hb]
  rfl
theorem sp0 (c0 c1 c2 c3 c : Nat) : Txt.slice ⟨#[c0, c1, c2, c3]⟩ none (some 0) ++ (⟨#[c]⟩ : PySem.Str) ++ Txt.slice ⟨#[c0, c1, c2, c3]⟩ (some (0 + 1)) none = ⟨#[c, c1, c2, c3]⟩ := by
  rw [sl_idx none (some 0) ⟨#[c0, c1, c2, c3]⟩ [] (by show Builtin.Str.strSliceIndices none (some 0) 1 4 = []; decide +kernel) rfl, sl_idx (some (0 + 1)) none ⟨#[c0, c1, c2, c3]⟩ [1, 2, 3] (by show Builtin.Str.strSliceIndices (some (0 + 1)) none 1 4 = [1, 2, 3]; decide +kernel) rfl]
  rfl
theorem sp1 (c0 c1 c2 c3 c : Nat) : Txt.slice ⟨#[c0, c1, c2, c3]⟩ none (some 1) ++ (⟨#[c]⟩ : PySem.Str) ++ Txt.slice ⟨#[c0, c1, c2, c3]⟩ (some (1 + 1)) none = ⟨#[c0, c, c2, c3]⟩ := by
  rw [sl_idx none (some 1) ⟨#[c0, c1, c2, c3]⟩ [0] (by show Builtin.Str.strSliceIndices none (some 1) 1 4 = [0]; decide +kernel) rfl, sl_idx (some (1 + 1)) none ⟨#[c0, c1, c2, c3]⟩ [2, 3] (by show Builtin.Str.strSliceIndices (some (1 + 1)) none 1 4 = [2, 3]; decide +kernel) rfl]
  rfl
theorem sp2 (c0 c1 c2 c3 c : Nat) : Txt.slice ⟨#[c0, c1, c2, c3]⟩ none (some 2) ++ (⟨#[c]⟩ : PySem.Str) ++ Txt.slice ⟨#[c0, c1, c2, c3]⟩ (some (2 + 1)) none = ⟨#[c0, c1, c, c3]⟩ := by
  rw [sl_idx none (some 2) ⟨#[c0, c1, c2, c3]⟩ [0, 1] (by show Builtin.Str.strSliceIndices none (some 2) 1 4 = [0, 1]; decide +kernel) rfl, sl_idx (some (2 + 1)) none ⟨#[c0, c1, c2, c3]⟩ [3] (by show Builtin.Str.strSliceIndices (some (2 + 1)) none 1 4 = [3]; decide +kernel) rfl]
  rfl
theorem sp3 (c0 c1 c2 c3 c : Nat) : Txt.slice ⟨#[c0, c1, c2, c3]⟩ none (some 3) ++ (⟨#[c]⟩ : PySem.Str) ++ Txt.slice ⟨#[c0, c1, c2, c3]⟩ (some (3 + 1)) none = ⟨#[c0, c1, c2, c]⟩ := by
  rw [sl_idx none (some 3) ⟨#[c0, c1, c2, c3]⟩ [0, 1, 2] (by show Builtin.Str.strSliceIndices none (some 3) 1 4 = [0, 1, 2]; decide +kernel) rfl, sl_idx (some (3 + 1)) none ⟨#[c0, c1, c2, c3]⟩ [] (by show Builtin.Str.strSliceIndices (some (3 + 1)) none 1 4 = []; decide +kernel) rfl]
  rfl
theorem spoil (d0 d1 d2 d3 e : Nat) (i : Int) (a : 0 ≤ i) (b : i < 4) :
    Txt.slice ⟨#[(sign64 d0).toNat, (sign64 d1).toNat, (sign64 d2).toNat, (sign64 d3).toNat]⟩ none (some i) ++ (⟨#[(sign64 e).toNat]⟩ : PySem.Str) ++ Txt.slice ⟨#[(sign64 d0).toNat, (sign64 d1).toNat, (sign64 d2).toNat, (sign64 d3).toNat]⟩ (some (i + 1)) none =
      ⟨#[(sign64 (put d0 0 i e)).toNat, (sign64 (put d1 1 i e)).toNat, (sign64 (put d2 2 i e)).toNat, (sign64 (put d3 3 i e)).toNat]⟩ := by
  rcases four_cases a b with rfl | rfl | rfl | rfl
  · exact sp0 _ _ _ _ _
  · exact sp1 _ _ _ _ _
  · exact sp2 _ _ _ _ _
  · exact sp3 _ _ _ _ _
theorem add3 (N M D c : Int) (hc : c = 262144 ∨ c = 4096 ∨ c = 64 ∨ c = 1) (h : M = N + c * D) : M % 3 = N % 3 ↔ D % 3 = 0 := by
  rw [Int.emod_eq_emod_iff_emod_sub_eq_zero, h, Int.add_comm, Int.add_sub_cancel]
  rcases hc with rfl | rfl | rfl | rfl <;> omega
theorem add5 (N M D c : Int) (hc : c = 262144 ∨ c = 4096 ∨ c = 64 ∨ c = 1) (h : M = N + c * D) : M % 5 = N % 5 ↔ D % 5 = 0 := by
  rw [Int.emod_eq_emod_iff_emod_sub_eq_zero, h, Int.add_comm, Int.add_sub_cancel]
  rcases hc with rfl | rfl | rfl | rfl <;> omega
theorem put_sum (d0 d1 d2 d3 e : Nat) (i : Int) (a : 0 ≤ i) (b : i < 4) : ∃ c : Int, (c = 262144 ∨ c = 4096 ∨ c = 64 ∨ c = 1) ∧
    ((put d0 0 i e : Int) * 262144 + (put d1 1 i e : Int) * 4096 + (put d2 2 i e : Int) * 64 + (put d3 3 i e : Int)) = ((d0 : Int) * 262144 + d1 * 4096 + d2 * 64 + d3) + c * ((e : Int) - (pick d0 d1 d2 d3 i : Int)) := by
  rcases four_cases a b with rfl | rfl | rfl | rfl
  · refine ⟨262144, .inl rfl, ?_⟩
    show (e : Int) * 262144 + (d1 : Int) * 4096 + (d2 : Int) * 64 + (d3 : Int) = ((d0 : Int) * 262144 + d1 * 4096 + d2 * 64 + d3) + 262144 * ((e : Int) - (d0 : Int))
    omega
  · refine ⟨4096, .inr (.inl rfl), ?_⟩
    show (d0 : Int) * 262144 + (e : Int) * 4096 + (d2 : Int) * 64 + (d3 : Int) = ((d0 : Int) * 262144 + d1 * 4096 + d2 * 64 + d3) + 4096 * ((e : Int) - (d1 : Int))
    omega
  · refine ⟨64, .inr (.inr (.inl rfl)), ?_⟩
    show (d0 : Int) * 262144 + (d1 : Int) * 4096 + (e : Int) * 64 + (d3 : Int) = ((d0 : Int) * 262144 + d1 * 4096 + d2 * 64 + d3) + 64 * ((e : Int) - (d2 : Int))
    omega
  · refine ⟨1, .inr (.inr (.inr rfl)), ?_⟩
    show (d0 : Int) * 262144 + (d1 : Int) * 4096 + (d2 : Int) * 64 + (e : Int) = ((d0 : Int) * 262144 + d1 * 4096 + d2 * 64 + d3) + 1 * ((e : Int) - (d3 : Int))
    omega
theorem put_num (d0 d1 d2 d3 e : Nat) (i : Int) (a : 0 ≤ i) (b : i < 4) :
    (((put d0 0 i e : Int) * 262144 + (put d1 1 i e : Int) * 4096 + (put d2 2 i e : Int) * 64 + (put d3 3 i e : Int)) % 3 = ((d0 : Int) * 262144 + d1 * 4096 + d2 * 64 + d3) % 3 ↔ ((e : Int) - (pick d0 d1 d2 d3 i : Int)) % 3 = 0) ∧
    (((put d0 0 i e : Int) * 262144 + (put d1 1 i e : Int) * 4096 + (put d2 2 i e : Int) * 64 + (put d3 3 i e : Int)) % 5 = ((d0 : Int) * 262144 + d1 * 4096 + d2 * 64 + d3) % 5 ↔ ((e : Int) - (pick d0 d1 d2 d3 i : Int)) % 5 = 0) := by
  obtain ⟨c, hc, h⟩ := put_sum d0 d1 d2 d3 e i a b
  exact ⟨add3 _ _ _ c hc h, add5 _ _ _ c hc h⟩
theorem law_p5 {prog : Program} {w : World} {p : Program} {loose : List Str} {mean : ExcName → Option Value} {mg mb : Str → Option Value} 
    {base g : Heap} {s : Shared} {Q : Flow → Shared → Prop}
    {L fa D : Addr} {cd : Value} {u : Str → Option Value} {d0 d1 d2 d3 : Nat} {t1 : Tok} {n0 n1 n2 n3 wh pa : Int} {k0 k1 k2 k3 t5 t6 : Tok}
    (B : Below callerA base [] g) (X : (hd.heap_39 w.params).In g) (T : Top p loose mean mg mb g) 
    (F : Fr g L s.heap (fun y => if y = Str.ofString "whole" then some (.int wh t5) else if y = Str.ofString "parted" then some (.int pa t6) else if y = Str.ofString "written" then some (.bytes #[sign64 d0, sign64 d1, sign64 d2, sign64 d3] t1) else if y = Str.ofString "numbers" then some (.ref D) else u y))
    (N : News g L s.heap [(D, listOf [.int n0 k0, .int n1 k1, .int n2 k2, .int n3 k3].toArray 0)])
    (h0 : d0 < 64) (h1 : d1 < 64) (h2 : d2 < 64) (h3 : d3 < 64) (s2 : 0 ≤ n2 ∧ n2 < 1000000) (s3 : 0 ≤ n3 ∧ n3 < 1000000)
    (h : ∀ h' tk' m' (e0 e1 e2 e3 o e : Nat) t to te, Fr g L h' m' → m' (Str.ofString "whole") = some (.int wh t5) → m' (Str.ofString "parted") = some (.int pa t6) →
      m' (Str.ofString "spoiled") = some (.str ⟨#[(sign64 e0).toNat, (sign64 e1).toNat, (sign64 e2).toNat, (sign64 e3).toNat]⟩ t) → m' (Str.ofString "old") = some (.int (o : Int) to) → m' (Str.ofString "new") = some (.int (e : Int) te) →
      e0 < 64 → e1 < 64 → e2 < 64 → e3 < 64 →
      (((e0 : Int) * 262144 + e1 * 4096 + e2 * 64 + e3) % 3 = ((d0 : Int) * 262144 + d1 * 4096 + d2 * 64 + d3) % 3 ↔ ((e : Int) - (o : Int)) % 3 = 0) →
      (((e0 : Int) * 262144 + e1 * 4096 + e2 * 64 + e3) % 5 = ((d0 : Int) * 262144 + d1 * 4096 + d2 * 64 + d3) % 5 ↔ ((e : Int) - (o : Int)) % 5 = 0) →
      Q .next { s with heap := h', toks := tk' }) :
    wpAny (model prog w) (callerA.deeper (lEnv L fa cd)) (execs lP5 (lEnv L fa cd)) Q (fun _ _ => False) s := by
  unfold lEnv
  conv in lP5 => whnf
  conv in (occs := *) lScope => all_goals whnf
  k_steps
  rename Fr g L _ _ => F9
  have a2 := fm_lo n2 4 (by decide)
  have b2 := fm_hi n2 4 (by decide)
  have a3 := fm_lo ((pick d0 d1 d2 d3 (n2.fmod 4) : Int) + 1 + n3.fmod 63) 64 (by decide)
  have b3 := fm_hi ((pick d0 d1 d2 d3 (n2.fmod 4) : Int) + 1 + n3.fmod 63) 64 (by decide)
  have e3' : (((((pick d0 d1 d2 d3 (n2.fmod 4) : Int) + 1 + n3.fmod 63).fmod 64).toNat : Nat) : Int) = ((pick d0 d1 d2 d3 (n2.fmod 4) : Int) + 1 + n3.fmod 63).fmod 64 := by omega
  have l3 : (((pick d0 d1 d2 d3 (n2.fmod 4) : Int) + 1 + n3.fmod 63).fmod 64).toNat < 64 := by omega
  have q := put_num d0 d1 d2 d3 (((pick d0 d1 d2 d3 (n2.fmod 4) : Int) + 1 + n3.fmod 63).fmod 64).toNat (n2.fmod 4) a2 b2
  exact h _ _ _ _ _ _ _ _ _ _ _ _ F9 rfl rfl (congrArg (fun z : PySem.Str => some (Value.str z _)) (spoil d0 d1 d2 d3 _ (n2.fmod 4) a2 b2)) rfl (congrArg (fun z : Int => some (Value.int z _)) e3'.symm)
    (put_lt h0 l3) (put_lt h1 l3) (put_lt h2 l3) (put_lt h3 l3) q.1 q.2
def lP6 : List Stmt := match lBody with | _ :: _ :: _ :: _ :: _ :: _ :: _ :: _ :: _ :: _ :: _ :: _ :: _ :: _ :: a :: _ => [a] | _ => []
def lP7 : List Stmt := match lBody with | _ :: _ :: _ :: _ :: _ :: _ :: _ :: _ :: _ :: _ :: _ :: _ :: _ :: _ :: _ :: a => a | _ => []
end Mine
end
section
open PySem PySem.W PySem.Spec PySem.Calls PyProof.Rows
set_option maxRecDepth 100000
set_option maxHeartbeats 8000000
namespace Mine
theorem rsMLaw6 {M : Model} {A : Around} {Q : Flow → Shared → Prop} {E : Value → Shared → Prop} {s : Shared} {env : Env} (h : Q .next s) : wpAny M A (execs [] env) Q E s := by
  w_top off
  k_with_none
  walk1
  exact h
theorem fill26 : (PySem.Challenge.rw_qh0063_01, hd.heap_39) = (PySem.Challenge.rw_qh0063_01, hd.heap_39) := by k_fill; rfl
theorem u8 (k : Nat) (h : k < 256) : (k.toUInt8).toNat = k := by
  have e : k.toUInt8.toNat = k % 256 := by simp
  rw [e]; omega
theorem dec_d {w : World} {d0 d1 d2 d3 : Nat} {k : Tok} (h0 : d0 < 64) (h1 : d1 < 64) (h2 : d2 < 64) (h3 : d3 < 64) :
    Ctr w 111 [.str ⟨#[(sign64 d0).toNat, (sign64 d1).toNat, (sign64 d2).toNat, (sign64 d3).toNat]⟩ k] [] 6 (fun v out => out = [] ∧ ∃ (b0 b1 b2 : UInt8) (t : Tok), v = .bytes #[b0, b1, b2] t ∧ b0.toNat < 256 ∧ b1.toNat < 256 ∧ b2.toNat < 256 ∧ (d0 : Int) * 262144 + d1 * 4096 + d2 * 64 + d3 = b0.toNat * 65536 + b1.toNat * 256 + b2.toNat) :=
  (dec_c h0 h1 h2 h3).mono fun v out ⟨e, t, q⟩ => ⟨e, _, _, _, t, q, by rw [u8 _ (by omega)]; omega, by rw [u8 _ (by omega)]; omega, by rw [u8 _ (by omega)]; omega, by rw [u8 _ (by omega), u8 _ (by omega), u8 _ (by omega)]; omega⟩
theorem kw68 : True := by (k_with "call ref" => (k_here; (with_reducible show wpAny _ _ (call (Value.ref 111) _) _ _ _); k_dflt (refine' Ctr.use (dec_d ?p1z68 ?p2z68 ?p3z68 ?p4z68) ?k1z68 ?k2z68 ?k3z68 ?k4z68 News.nil ?k5z68 ?k6z68 ?k7z68 ?k8z68 ?k9z68 ?_; (case p1z68 => assumption); (case p2z68 => assumption); (case p3z68 => assumption); (case p4z68 => assumption); (case k1z68 => k_asm); (case k2z68 => k_asm); (case k3z68 => k_asm); (case k4z68 => k_asm); (case k5z68 => k_asm); (case k6z68 => (intro w9q w9hq w9hn; cases w9hn)); (case k7z68 => exact rfl); (case k8z68 => ktr_room); (case k9z68 => ktr_units); k_whole; intro w9v9 w9out9 w9h9 w9tk9 w9gs9 w9hp9 w9F9 w9N9 w9d9 w9hb9; obtain ⟨e9, b0, b1, b2, t9, e8, hb0, hb1, hb2, hbn⟩ := w9hp9; subst e9 e8; simp only [List.nil_append] at w9N9; clear w9d9))); trivial
theorem kw69 : True := by (k_with "call ref" => (k_here; (with_reducible show wpAny _ _ (call (Value.ref 118) _) _ _ _); k_dflt (refine' Ctr.use b16_d ?k1z69 ?k2z69 ?k3z69 ?k4z69 News.nil ?k5z69 ?k6z69 ?k7z69 ?k8z69 ?k9z69 ?_; (case k1z69 => k_asm); (case k2z69 => k_asm); (case k3z69 => k_asm); (case k4z69 => k_asm); (case k5z69 => k_asm); (case k6z69 => (intro w9q w9hq w9hn; cases w9hn)); (case k7z69 => exact rfl); (case k8z69 => ktr_room); (case k9z69 => ktr_units); k_whole; intro w9v9 w9out9 w9h9 w9tk9 w9gs9 w9hp9 w9F9 w9N9 w9d9 w9hb9; obtain ⟨e9, t9, e8⟩ := w9hp9; subst e9 e8; simp only [List.nil_append] at w9N9; clear w9d9))); trivial
theorem kw70 : True := by (k_with "call ref" => (k_here; (with_reducible show wpAny _ _ (call (Value.ref 165) _) _ _ _); k_dflt (refine' Ctr.use (sums16_c ?p1z70 ?p2z70 ?p3z70 ?p4z70 ?p5z70 ?p6z70) ?k1z70 ?k2z70 ?k3z70 ?k4z70 News.nil ?k5z70 ?k6z70 ?k7z70 ?k8z70 ?k9z70 ?_; (case p1z70 => omega); (case p2z70 => omega); (case p3z70 => omega); (case p4z70 => omega); (case p5z70 => omega); (case p6z70 => omega); (case k1z70 => k_asm); (case k2z70 => k_asm); (case k3z70 => k_asm); (case k4z70 => k_asm); (case k5z70 => k_asm); (case k6z70 => (intro w9q w9hq w9hn; cases w9hn)); (case k7z70 => exact rfl); (case k8z70 => ktr_room); (case k9z70 => ktr_units); k_whole; intro w9v9 w9out9 w9h9 w9tk9 w9gs9 w9hp9 w9F9 w9N9 w9d9 w9hb9; obtain ⟨a9, t9, t8, t7, e9, e8⟩ := w9hp9; subst e9 e8; simp only [List.cons_append, List.nil_append] at w9N9; clear w9d9))); trivial
theorem law_p6 {prog : Program} {w : World} {p : Program} {loose : List Str} {mean : ExcName → Option Value} {mg mb : Str → Option Value} 
    {base g : Heap} {s : Shared} {Q : Flow → Shared → Prop}
    {L fa : Addr} {cd : Value} {u : Str → Option Value} {d0 d1 d2 d3 : Nat} {t1 : Tok}
    (B : Below callerA base [] g) (X : (hd.heap_39 w.params).In g) (T : Top p loose mean mg mb g) 
    (F : Fr g L s.heap (fun y => if y = Str.ofString "spoiled" then some (.str ⟨#[(sign64 d0).toNat, (sign64 d1).toNat, (sign64 d2).toNat, (sign64 d3).toNat]⟩ t1) else u y))
    (N : News g L s.heap [])
    (h0 : d0 < 64) (h1 : d1 < 64) (h2 : d2 < 64) (h3 : d3 < 64)
    (h : ∀ h' tk' gs' ot to, Fr g L h' (fun y => if y = Str.ofString "other" then some (.int ot to) else if y = Str.ofString "spoiled" then some (.str ⟨#[(sign64 d0).toNat, (sign64 d1).toNat, (sign64 d2).toNat, (sign64 d3).toNat]⟩ t1) else u y) → ot % 15 = ((d0 : Int) * 262144 + d1 * 4096 + d2 * 64 + d3) % 15 →
      (AllBare s.gens → AllBare gs') → Q .next { s with heap := h', toks := tk', gens := gs' }) :
    wpAny (model prog w) (callerA.deeper (lEnv L fa cd)) (execs lP6 (lEnv L fa cd)) Q (fun _ _ => False) s := by
  unfold lEnv
  conv in lP6 => whnf
  conv in (occs := *) lScope => all_goals whnf
  k_steps
  rename Fr g L _ _ => F9
  rename (_ + _ + _ + _ = _) => hbn
  exact h _ _ _ _ _ F9 (sumsA _ _ _ _ hbn).1 (by intro x; clear h; solve_by_elim (maxDepth := 8))
end Mine
end
section
open PySem PySem.W PySem.Spec PySem.Calls PyProof.Rows
set_option maxRecDepth 100000
set_option maxHeartbeats 8000000
namespace Mine
theorem rsMLaw7 {M : Model} {A : Around} {Q : Flow → Shared → Prop} {E : Value → Shared → Prop} {s : Shared} {env : Env} (h : Q .next s) : wpAny M A (execs [] env) Q E s := by
  w_top off
  k_with_none
  walk1
  exact h
theorem fill27 : (PySem.Challenge.rw_qh0063_01, hd.heap_39) = (PySem.Challenge.rw_qh0063_01, hd.heap_39) := by k_fill; rfl
theorem kw71 : True := by (k_with "call ref" => (k_here; (with_reducible show wpAny _ _ (call (Value.ref 179) _) _ _ _); k_dflt (refine' Ctr.use metB2 ?k1z71 ?k2z71 ?k3z71 ?k4z71 (news_sw ?kNz71) (news_r2 ?kMz71) ?k6z71 ?k7z71 ?k8z71 ?k9z71 ?_; (case kNz71 => k_asm); (case kMz71 => k_asm); (case k1z71 => k_asm); (case k2z71 => k_asm); (case k3z71 => k_asm); (case k4z71 => k_asm); (case k6z71 => (intro w9q w9hq w9hn; cases w9hq)); (case k7z71 => exact rfl); (case k8z71 => ktr_room); (case k9z71 => ktr_units); k_whole; intro w9v9 w9out9 w9h9 w9tk9 w9gs9 w9hp9 w9F9 w9N9 w9d9 w9hb9; obtain ⟨e9, w9hp9⟩ := w9hp9; subst e9; simp only [List.nil_append] at w9N9; clear w9d9; rcases w9hp9 with ⟨hm9, x9, t9, e8⟩ | ⟨hm9, e8⟩ <;> subst e8))); trivial
theorem kw72 : True := by (k_with "call ref" => (k_here; (with_reducible show wpAny _ _ (call (Value.ref 179) _) _ _ _); k_dflt (refine' Ctr.use metC2 ?k1z72 ?k2z72 ?k3z72 ?k4z72 (news_sw ?kNz72) (news_r2 ?kMz72) ?k6z72 ?k7z72 ?k8z72 ?k9z72 ?_; (case kNz72 => k_asm); (case kMz72 => k_asm); (case k1z72 => k_asm); (case k2z72 => k_asm); (case k3z72 => k_asm); (case k4z72 => k_asm); (case k6z72 => (intro w9q w9hq w9hn; cases w9hq)); (case k7z72 => exact rfl); (case k8z72 => ktr_room); (case k9z72 => ktr_units); k_whole; intro w9v9 w9out9 w9h9 w9tk9 w9gs9 w9hp9 w9F9 w9N9 w9d9 w9hb9; obtain ⟨e9, w9hp9⟩ := w9hp9; subst e9; simp only [List.nil_append] at w9N9; clear w9d9; rcases w9hp9 with ⟨hm9, x9, t9, e8⟩ | ⟨hm9, e8⟩ <;> subst e8))); trivial
theorem q_true {Q : Flow → Shared → Prop} {b : Bool} {s : Shared} (hb : b = true) (hq : Q (.ret (.bool true)) s) : Q (.ret (.bool b)) s := by
  subst hb; exact hq
theorem end_true {a b : Bool} {x y : Int} {P R : Prop} (q3 : P ↔ x % 3 = 0) (q5 : R ↔ y % 5 = 0) (ha : (a = true) ↔ P) (hb : (b = true) ↔ R) : (a == (x.fmod 3 == 0) && b == (y.fmod 5 == 0)) = true := by
  rw [Int.fmod_eq_emod_of_nonneg _ (by decide), Int.fmod_eq_emod_of_nonneg _ (by decide)]
  have e3 : a = (x % 3 == 0) := by
    rw [Bool.eq_iff_iff, ha, q3]; simp
  have e5 : b = (y % 5 == 0) := by
    rw [Bool.eq_iff_iff, hb, q5]; simp
  rw [e3, e5]; simp
theorem law_p7 {prog : Program} {w : World} {p : Program} {loose : List Str} {mean : ExcName → Option Value} {mg mb : Str → Option Value} 
    {base g : Heap} {s : Shared} {Q : Flow → Shared → Prop}
    {L fa : Addr} {cd : Value} {u : Str → Option Value} {ot wh pa o e : Int} {t1 t2 t3 t4 t5 : Tok}
    (B : Below callerA base [] g) (X : (hd.heap_39 w.params).In g) (T : Top p loose mean mg mb g) 
    (F : Fr g L s.heap (fun y => if y = Str.ofString "other" then some (.int ot t1) else if y = Str.ofString "whole" then some (.int wh t2) else if y = Str.ofString "parted" then some (.int pa t3) else if y = Str.ofString "old" then some (.int o t4) else if y = Str.ofString "new" then some (.int e t5) else u y))
    (N : News g L s.heap [])
    (q3 : ot % 3 = wh % 3 ↔ (e - o) % 3 = 0) (q5 : ot % 5 = pa % 5 ↔ (e - o) % 5 = 0)
    (h : ∀ h' tk' gs' m', Fr g L h' m' → (AllBare s.gens → AllBare gs') → Q (.ret (.bool true)) { s with heap := h', toks := tk', gens := gs' }) :
    wpAny (model prog w) (callerA.deeper (lEnv L fa cd)) (execs lP7 (lEnv L fa cd)) Q (fun _ _ => False) s := by
  unfold lEnv
  conv in lP7 => whnf
  conv in (occs := *) lScope => all_goals whnf
  k_steps
  all_goals
    rename Fr g L _ _ => F9
    refine q_true (end_true q3 q5 ?_ ?_) (h _ _ _ _ F9 (by intro x; clear h; solve_by_elim (maxDepth := 8)))
  all_goals (constructor <;> intro z9 <;> first | assumption | rfl | contradiction)
end Mine
end
section
open PySem PySem.W PySem.Spec PySem.Calls PyProof.Rows
set_option maxRecDepth 100000
set_option maxHeartbeats 8000000
namespace Mine
theorem rsMLaw8 {M : Model} {A : Around} {Q : Flow → Shared → Prop} {E : Value → Shared → Prop} {s : Shared} {env : Env} (h : Q .next s) : wpAny M A (execs [] env) Q E s := by
  w_top off
  k_with_none
  walk1
  exact h
theorem fm_eq {a b k : Int} (h : 0 < k) (e : a % k = b % k) : a.fmod k = b.fmod k := by
  rw [Int.fmod_eq_emod_of_nonneg _ (by omega), Int.fmod_eq_emod_of_nonneg _ (by omega), e]
theorem down {a b k m : Int} (h : m ∣ k) (e : a % k = b % k) : a % m = b % m := by
  rw [← Int.emod_emod_of_dvd a h, e, Int.emod_emod_of_dvd b h]
theorem fr_back {g h : Heap} {L : Addr} {m : Str → Option Value} {ps : List (Str × Value)} (F : Fr g L h (kstB m ps)) (hk : ∀ p ∈ ps, m p.1 = some p.2) : Fr g L h m := by
  have e : kstB m ps = m := funext fun z => kstB_eq hk fun _ => rfl
  rw [e] at F; exact F
theorem law_all {prog : Program} {w : World} {p : Program} {loose : List Str} {mean : ExcName → Option Value} {mg mb : Str → Option Value} 
    {base g : Heap} {s : Shared} {Q : Flow → Shared → Prop}
    {L fa sc : Addr} {cd : Value} {m : Str → Option Value} {vs : List Value} {ns : List Int}
    (B : Below callerA base [] g) (X : (hd.heap_39 w.params).In g) (T : Top p loose mean mg mb g) 
    (F : Fr g L s.heap m) (hm : m (Str.ofString "script") = some (.ref sc)) (N : News g L s.heap [])
    (hl : g.IsList sc vs.toArray) (hv : IntsAre vs ns) (hn : ns.length ≤ 63)
    (h : ∀ h' tk' gs' m', Fr g L h' m' → (AllBare s.gens → AllBare gs') → Q (.ret (.bool true)) { s with heap := h', toks := tk', gens := gs' }) :
    wpAny (model prog w) (callerA.deeper (lEnv L fa cd)) (execs lBody (lEnv L fa cd)) Q (fun _ _ => False) s := by
  show wpAny _ _ (execs (lP0 ++ (lP1 ++ (lP2 ++ (lP3 ++ (lP4 ++ (lP5 ++ (lP6 ++ lP7))))))) (lEnv L fa cd)) _ _ _
  refine wp_execs_append (law_p0 B X T (fr_ifs F [(Str.ofString "script", .ref sc)] (by intro q hq; rw [List.mem_singleton.mp hq]; exact hm)) N hl hv hn (fun h1 tk1 m1 D n0 n1 n2 n3 k0 k1 k2 k3 F1 e1 N1 z0 z1 z2 z3 => ?_))
  dsimp only
  refine wp_execs_append (law_p1 B X T (fr_ifs F1 [(Str.ofString "numbers", .ref D)] (by intro q hq; rw [List.mem_singleton.mp hq]; exact e1)) N1 z0 z1 (fun h2 tk2 m2 b0 b1 b2 k t F2 e2 e3 e4 N2 => ?_))
  dsimp only
  refine wp_execs_append (law_p2 B X T (fr_ifs F2 [(Str.ofString "numbers", .ref D), (Str.ofString "number", _), (Str.ofString "row", _)] (by intro q hq; simp only [List.mem_cons, List.not_mem_nil, or_false] at hq; rcases hq with rfl | rfl | rfl; exact e2; exact e3; exact e4)) N2 rfl
    (fun h3 tk3 gs3 m3 c0 c1 c2 c3 c4 c5 d0 d1 d2 d3 pl cr db wh pa fo t0 t1 t2 t3 t4 t5 t6 t7 F3 f1 f2 f3 f4 f5 f6 f7 f8 f9 f10 N3 y0 y1 y2 y3 yn q1 q2 q3 q4 q5 q6 hb3 => ?_))
  dsimp only
  refine wp_execs_append (law_p3 B X T (fr_ifs F3 [(Str.ofString "shown", _), (Str.ofString "written", _), (Str.ofString "folded", _), (Str.ofString "number", _)] (by intro q hq; simp only [List.mem_cons, List.not_mem_nil, or_false] at hq; rcases hq with rfl | rfl | rfl | rfl; exact f3; exact f4; exact f10; exact f2)) N3 (fm_eq (by decide) q6)
    (fun h4 tk4 F4 N4 => ?_))
  dsimp only
  have F4' : Fr g L h4 m3 := fr_back (ps := [(Str.ofString "shown", _), (Str.ofString "written", _), (Str.ofString "folded", _), (Str.ofString "number", _)]) F4 (by intro q hq; simp only [List.mem_cons, List.not_mem_nil, or_false] at hq; rcases hq with rfl | rfl | rfl | rfl; exact f3; exact f4; exact f10; exact f2)
  refine wp_execs_append (law_p4 B X T (fr_ifs F4' [(Str.ofString "plain", _), (Str.ofString "crossed", _), (Str.ofString "doubled", _), (Str.ofString "whole", _), (Str.ofString "parted", _), (Str.ofString "number", _)] (by intro q hq; simp only [List.mem_cons, List.not_mem_nil, or_false] at hq; rcases hq with rfl | rfl | rfl | rfl | rfl | rfl; exact f5; exact f6; exact f7; exact f8; exact f9; exact f2)) N4 q1 q2 q3 q4 q5
    (fun h5 tk5 gs5 l5 F5 N5 hb5 => ?_))
  dsimp only
  have F5' : Fr g L h5 (fun y => if y = Str.ofString "met" then some (.ref l5) else m3 y) := by
    refine fr_back (ps := [(Str.ofString "met", _), (Str.ofString "plain", _), (Str.ofString "crossed", _), (Str.ofString "doubled", _), (Str.ofString "whole", _), (Str.ofString "parted", _), (Str.ofString "number", _)]) (m := fun y => if y = Str.ofString "met" then some (.ref l5) else m3 y) ?_ (by intro q hq; simp only [List.mem_cons, List.not_mem_nil, or_false] at hq; rcases hq with rfl | rfl | rfl | rfl | rfl | rfl | rfl; rfl; exact f5; exact f6; exact f7; exact f8; exact f9; exact f2)
    have e : (fun y => if y = Str.ofString "met" then some (Value.ref l5) else if y = Str.ofString "plain" then some (.int pl t2) else if y = Str.ofString "crossed" then some (.int cr t3) else if y = Str.ofString "doubled" then some (.int db t4) else if y = Str.ofString "whole" then some (.int wh t5) else if y = Str.ofString "parted" then some (.int pa t6) else if y = Str.ofString "number" then some (Value.int (b0.toNat * 65536 + b1.toNat * 256 + b2.toNat) k) else m3 y) =
        kstB (fun y => if y = Str.ofString "met" then some (.ref l5) else m3 y) [(Str.ofString "met", Value.ref l5), (Str.ofString "plain", .int pl t2), (Str.ofString "crossed", .int cr t3), (Str.ofString "doubled", .int db t4), (Str.ofString "whole", .int wh t5), (Str.ofString "parted", .int pa t6), (Str.ofString "number", .int (b0.toNat * 65536 + b1.toNat * 256 + b2.toNat) k)] := by
      funext y
      show (if y = Str.ofString "met" then _ else _) = (if y = Str.ofString "met" then _ else _)
      by_cases c : y = Str.ofString "met"
      · rw [if_pos c, if_pos c]
      · rw [if_neg c, if_neg c]
        show _ = (if y = _ then _ else if y = _ then _ else if y = _ then _ else if y = _ then _ else if y = _ then _ else if y = _ then _ else if y = Str.ofString "met" then _ else _)
        rw [if_neg c]
    exact e ▸ F5
  refine wp_execs_append (law_p5 B X T (fr_ifs F5' [(Str.ofString "whole", _), (Str.ofString "parted", _), (Str.ofString "written", _), (Str.ofString "numbers", _)] (by intro q hq; simp only [List.mem_cons, List.not_mem_nil, or_false] at hq; rcases hq with rfl | rfl | rfl | rfl; exact f8; exact f9; exact f4; exact f1)) N5 y0 y1 y2 y3 z2 z3
    (fun h6 tk6 m6 e0 e1 e2 e3 o e t to te F6 g1 g2 g3 g4 g5 x0 x1 x2 x3 w3 w5 => ?_))
  dsimp only
  refine wp_execs_append (law_p6 B X T (fr_ifs F6 [(Str.ofString "spoiled", _)] (by intro q hq; rw [List.mem_singleton.mp hq]; exact g3)) News.nil x0 x1 x2 x3 (fun h7 tk7 gs7 ot tt F7 qo hb7 => ?_))
  dsimp only
  refine law_p7 B X T (fr_ifs F7 [(Str.ofString "other", _), (Str.ofString "whole", _), (Str.ofString "parted", _), (Str.ofString "old", _), (Str.ofString "new", _)] (by intro q hq; simp only [List.mem_cons, List.not_mem_nil, or_false] at hq; rcases hq with rfl | rfl | rfl | rfl | rfl; rfl; exact g1; exact g2; exact g4; exact g5)) News.nil ?_ ?_
    (fun h8 tk8 gs8 m8 F8 hb8 => h h8 tk8 gs8 m8 F8 fun x => hb8 (hb7 (hb5 (hb3 x))))
  · rw [← w3, ← yn, down (m := 3) (by decide) qo, down (m := 3) (by decide) q4]
  · rw [← w5, ← yn, down (m := 5) (by decide) qo, down (m := 5) (by decide) q5]
end Mine
end
end
open PySem PySem.W PySem.Spec PySem.Calls PyProof.Rows
set_option maxRecDepth 100000
set_option maxHeartbeats 8000000
theorem PySem.Challenge.cw_qh0063_01_holds : PySem.Challenge.rw_qh0063_01.Holds :=
  Mine.hd (by
  k_fill
  intro w s₀ s₁ mg mb G Y fa o pm cd doc dV kV ho hdd hcd hD hmg hg args vals as hpre hlay hrd hwl hlo
  have KX := kIn_of Y
  refine Ground.open G ?_
  intro T B D TE TW
  have TA := at_of_top T
  wrow_args hpre hlay hrd hwl hlo
  all_goals (
    first | refine callC_kw (enter_call ?_) | refine enter_call ?_
    w_top on
    w_call any ho hdd hcd hD T F)
  rename IntsAre _ _ => hv9
  rename Heap.IsList _ _ _ => hl9
  rename ¬ (_ < _) => hc9
  refine wpAny_noRaise (Mine.law_all (below_caller s₁.heap) KX T F rfl News.nil hl9 hv9 (by omega) (fun h' tk' gs' m' F' hb => ?_))
  exact ⟨.inl ⟨_, _, [], rfl, fun _ => rfl, ReadsW.bool true, (by wrow_post), fun _ => ⟨List.nodup_nil, fun _ hm => nomatch hm⟩⟩, .of_keep F'.keep, rfl, hb (by rw [hg]; exact AllBare.empty)⟩)
