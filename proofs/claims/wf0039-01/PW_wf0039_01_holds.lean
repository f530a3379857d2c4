import PyProof.Rows.All
import Wide.All
import OpenK.AllK
import Wide.FinOn
import PySem.Challenge.RW_wf0039_01
set_option Elab.async false
set_option maxRecDepth 100000
set_option autoImplicit false
section PartHd
open PySem PySem.W PyProof.Rows
namespace Mine
set_option maxRecDepth 100000 in
set_option maxHeartbeats 8000000 in
open_top hd for PySem.Challenge.rw_wf0039_01
end Mine
end PartHd
namespace Mine
open PySem PySem.W PySem.Calls PyProof.Rows
section PartF0

structure Ext (s s' : Shared) : Prop where
  keep : ∀ b o, s.heap.get? b = some o → s'.heap.get? b = some o
  gens : ∀ (i : Nat) (x : GenState), s.gens[i]? = some x → s'.gens[i]? = some x
  bare : AllBare s.gens → AllBare s'.gens
  os : s'.os = s.os
theorem Ext.refl (s : Shared) : Ext s s := ⟨fun _ _ e => e, fun _ _ e => e, fun x => x, rfl⟩
theorem Ext.trans {s s' s'' : Shared} (x : Ext s s') (y : Ext s' s'') : Ext s s'' :=
  ⟨fun b o e => y.keep b o (x.keep b o e), fun i g e => y.gens i g (x.gens i g e), fun b => y.bare (x.bare b), y.os.trans x.os⟩
theorem Ext.heap {s : Shared} {h' : Heap} {tk : Nat} (k : ∀ b o, s.heap.get? b = some o → h'.get? b = some o) : Ext s { s with heap := h', toks := tk } :=
  ⟨k, fun _ _ e => e, fun x => x, rfl⟩


theorem binds_peek {K : Frag} {s : Shared} {fd : FuncData} {args : Args} {binds : List (Str × Value)} (X : K.In s.heap) (e : ∀ S, peek K S (bindArgs fd args) = some binds) : BindsTo s fd args binds :=
  fun M A E Q hq => Looks.of_peek (M := M) X (e _) A Q E s (fun _ _ e => e) hq

theorem enter {prog : Program} {w : World} {A : Around} {K : Frag} {R : Result → Shared → Prop} {s : Shared} {name qual : Str} {params : Arguments} {body : List Stmt} {scope : Scope} {dV kV doc pm cdv ct oc : Value} {an od : Option Addr} {osl : Array (Option Value)} {f : Addr} {args : Args} {binds : List (Str × Value)}
    (X : K.In s.heap) (T : s.heap.NoLimit)
    (ho : K.lookup f = some ⟨oc, od, .func (fnOf name qual params body scope dV kV doc pm an cdv ct), osl⟩) (hcd : codeIn K cdv qual = true) (hroom : A.depth < recursionLimit)
    (hbind : BindsTo s (fnOf name qual params body scope dV kV doc pm an cdv ct) args binds) (hloc : ∀ y ∈ binds, scope.names.lookup y.1 = some .local)
    (h : ∀ h₁, Fr s.heap s.heap.objs.size h₁ (fun y => binds.reverse.lookup y) → News s.heap s.heap.objs.size h₁ [] →
      wpAny (model prog w) (A.deeper (envOf qual scope s.heap.objs.size f cdv)) (execs body (envOf qual scope s.heap.objs.size f cdv))
        (fun fl s' => R (.ok (.ret (match fl with | .ret v => v | _ => .none))) s') (fun _ _ => False)
        { s with heap := h₁, toks := s.toks + binds.length })
    (hco : scope.isCoroutine = false) (hgen : scope.isGenerator = false) (hk : scope.kind = .function)
    (hcell : ∀ x ∈ scope.names, x.2 ≠ .cell) : codeAny (model prog w) A (.call (.ref f) args) R s := by
  refine codeAny_call_def (fd := fnOf name qual params body scope dV kV doc pm an cdv ct) (body := body) (binds := binds) hroom (X _ _ ho) rfl T (codeRec_of X hcd) rfl hbind hcell hloc (fun h₁ hns hk₁ => ?_) hco hgen hk
  exact wpAny_mono (h h₁ ⟨hns, hk₁, Nat.le_refl _⟩ News.nil) (fun fl s' hl => hl) fun _ _ x => x.elim

noncomputable abbrev Fls : Value → Shared → Prop := fun _ _ => False
theorem Fls.any {A : Around} {prog : Program} {w : World} {α : Type} {t : Sem α} {Q : α → Shared → Prop} {E : Value → Shared → Prop} {s : Shared} (h : wpAny (model prog w) A t Q Fls s) : wpAny (model prog w) A t Q E s :=
  wpAny_mono h (fun _ _ x => x) fun _ _ x => x.elim

section
variable {prog : Program} {w : World} {A : Around} {s : Shared} {env : Env}
/-- a turn's end: the word again, at a lesser number -/
noncomputable def Nxt (n : Nat) (I : Nat → Shared → Prop) (s : Shared) : Prop := ∃ m, m < n ∧ I m s
theorem while_I {test : PySem.Expr} {body : List Stmt} {pos : Pos} {Q : Flow → Shared → Prop} (I : Nat → Shared → Prop)
    (turn : ∀ n s, I n s → wpAny (model prog w) A (isTrue test env (eval test env)) (fun b s₂ =>
        if b = true then wpAny (model prog w) A (execs body env) (fun f s₃ => match f with
            | .next | .cont => Nxt n I s₃
            | .brk => Q .next s₃
            | .ret v => Q (.ret v) s₃) Fls s₂
        else Q .next s₂) Fls s)
    (n : Nat) (h : I n s) : wpAny (model prog w) A (exec (.While test body [] pos) env) Q Fls s := by
  refine wpAny_While (codeAny_whileLoop (A := A) I (fun n s hI => ?_) n h)
  refine Fls.any (wpAny_mono (turn n s hI) (fun b s₂ h₂ => ?_) fun _ _ x => x)
  cases b with
  | true => exact Fls.any (wpAny_mono h₂ (fun f s₃ h₃ => by cases f <;> exact h₃) fun _ _ x => x)
  | false => exact wpAny_execs_nil h₂

/-- what a for's own code is to come to -/
noncomputable def ForGo (prog : Program) (w : World) (A : Around) (target : PySem.Expr) (it : Value) (body : List Stmt) (env : Env) (Q : Flow → Shared → Prop) (s : Shared) : Prop :=
  codeAny (model prog w) A (.forLoop target it body [] env) (fun r s' => match r with | .ok f => Q f s' | .error _ => False) s

theorem for_exec {target iter : PySem.Expr} {body : List Stmt} {pos : Pos} {Q : Flow → Shared → Prop}
    (h : wpAny (model prog w) A (eval iter env) (fun x s₁ => wpAny (model prog w) A (pyIter x) (fun it s₂ => ForGo prog w A target it body env Q s₂) Fls s₁) Fls s)
    (hs : ∀ x, foldedSetIterable iter env x = pure x := by intro _; rfl) : wpAny (model prog w) A (exec (.For target iter body [] pos) env) Q Fls s := by
  refine wpAny_For (wpAny_mono h (fun x s₁ h₁ => wpAny_mono h₁ (fun it s₂ h₂ => ?_) fun _ _ x => x) fun _ _ x => x) hs
  exact codeAny_mono h₂ fun r s' q => by cases r with
    | ok f => exact q
    | error e => exact q.elim

theorem for_I {target : PySem.Expr} {it : Value} {body : List Stmt} {Q : Flow → Shared → Prop} (I : Nat → Shared → Prop)
    (turn : ∀ n s, I n s → wpAny (model prog w) A (pyNext it) (fun r s₁ => match r with
      | none => Q .next s₁
      | some v => wpAny (model prog w) A (letOwnedTupleGo target it v) (fun _ s₁' => wpAny (model prog w) A (assign target env v) (fun _ s₂ => wpAny (model prog w) A (execs body env) (fun f s₃ => match f with
          | .next | .cont => Nxt n I s₃
          | .brk => Q .next s₃
          | .ret v => Q (.ret v) s₃) Fls s₂) Fls s₁') Fls s₁) Fls s)
    (n : Nat) (h : I n s) : ForGo prog w A target it body env Q s := by
  refine codeAny_loop' rfl I (fun n s hI => ?_) n h
  show wpAny _ _ ((forTurn target it body [] env).onRaise (fun x => do noteFrame x env; theTreesLotGoes x)) _ _ s
  refine wpAny_noted (Fls.any ?_)
  simp only [forTurn]
  refine wpAny_bind (wpAny_standAt (wpAny_bind (wpAny_onRaise (wpAny_mono (turn n s hI) (fun r s₁ h₁ => ?_) fun _ _ h' => h'.elim))))
  cases r with
  | none => exact wpAny_pure (.inr ⟨rfl, codeAny_block (wpAny_execs_nil h₁)⟩)
  | some v =>
    refine wpAny_bind (wpAny_mono h₁ (fun _ s₂ h₂ => wpAny_bind (wpAny_mono h₂ (fun _ s₂ h₂ => wpAny_bind (wpAny_mono h₂ (fun f s₃ h₃ => ?_) fun _ _ h' => h')) fun _ _ h' => h')) fun _ _ h' => h')
    cases f with
    | next => exact wpAny_pure (.inl ⟨rfl, h₃⟩)
    | cont => exact wpAny_pure (.inl ⟨rfl, h₃⟩)
    | brk => exact wpAny_pure h₃
    | ret v => exact wpAny_pure h₃

theorem at_while {test : PySem.Expr} {body orelse : List Stmt} {pos : Pos} {Q : Flow → Shared → Prop} {E : Value → Shared → Prop} (h : wpAny (model prog w) A (exec (.While test body orelse pos) env) Q E s) : wpAny (model prog w) A (exec (.While test body orelse pos) env) Q E s := h
theorem at_for {t i : PySem.Expr} {body orelse : List Stmt} {pos : Pos} {Q : Flow → Shared → Prop} {E : Value → Shared → Prop} (h : wpAny (model prog w) A (exec (.For t i body orelse pos) env) Q E s) : wpAny (model prog w) A (exec (.For t i body orelse pos) env) Q E s := h
theorem at_comp {e : PySem.Expr} {gs : List Comprehension} {sc : Scope} {pos : Pos} {Q : Value → Shared → Prop} {E : Value → Shared → Prop} (h : wpAny (model prog w) A (eval (.ListComp e gs sc pos) env) Q E s) : wpAny (model prog w) A (eval (.ListComp e gs sc pos) env) Q E s := h
theorem at_call {f : Addr} {vs : List Value} {kw : List (Str × Value)} {Q : Value → Shared → Prop} {E : Value → Shared → Prop} (h : wpAny (model prog w) A (call (.ref f) vs kw) Q E s) : wpAny (model prog w) A (call (.ref f) vs kw) Q E s := h
end
theorem at_ex {α : Sort _} {p : α → Prop} (h : ∃ x, p x) : ∃ x, p x := h
end PartF0
section PartG1
open Sem (wp)

section
variable {M : Model} {A : Around} {R : GenEnd} {Y : Protocol} {n : Nat} {s₀ : Shared} {c : Code} {fs : List Frame} {s : Shared} {env : Env}
  {K : Flow → Sem Fin} {H : Value → Sem Fin} {gd : Bool → Bool} {lv : List Value → List Value}

/-- a statement that does not yield -/
theorem seg_plain {st : Stmt} (h : wpAny M (A.over c fs) (exec st env) (fun f s' => Seg M A R Y n s₀ c (K f) fs s') Fls s) :
    Seg M A R Y n s₀ c ((exec st env).wrap K H gd lv) fs s := seg_wrap (wpAny_mono h (fun _ _ x => x) fun _ _ x => x.elim)

theorem seg_If {test : PySem.Expr} {body orelse : List Stmt} {pos : Pos}
    (h : wpAny M (A.over c fs) (isTrue test env (eval test env)) (fun b s' => if b = true then Seg M A R Y n s₀ c ((execs body env).wrap K H gd lv) fs s' else Seg M A R Y n s₀ c ((execs orelse env).wrap K H gd lv) fs s') Fls s) :
    Seg M A R Y n s₀ c ((exec (.If test body orelse pos) env).wrap K H gd lv) fs s := by
  rw [exec_If]
  show Seg M A R Y n s₀ c (.at pos fun _ => (isTrue test env (eval test env) >>= fun b => if b = true then execs body env else execs orelse env).wrap K H gd lv) fs s
  refine seg_at ?_
  rw [Sem.bind_eq_wrap', Sem.wrap_wrap]
  refine seg_wrap (wpAny_mono h (fun b s' h' => ?_) fun _ _ x => x.elim)
  cases b with
  | true => exact h'
  | false => exact h'

theorem seg_execs_nil' (h : Seg M A R Y n s₀ c (K .next) fs s) : Seg M A R Y n s₀ c ((execs [] env).wrap K H gd lv) fs s := h

/-- what lies behind a loop's own code -/
noncomputable def loopBack (env : Env) (K : Flow → Sem Fin) (H : Value → Sem Fin) (gd : Bool → Bool) (lv : List Value → List Value) : Result → Sem Fin := fun r => ((match r with | .ok f => (.pure f : Sem Flow) | .error e => .raise e).onRaise fun (x : Value) => do
        if (← field x 1) == Value.none then unsupported "frame.own-activation:exception-without-traceback"
        setFlight x env.frame).wrap K H gd lv

theorem seg_For {target iter : PySem.Expr} {body orelse : List Stmt} {pos : Pos}
    (h : wpAny M (A.over c fs) (eval iter env) (fun x s₁ => wpAny M (A.over c fs) (pyIter x) (fun it s₂ => ∀ p, Seg M A R Y n s₀ (.forLoop target it body orelse env) (M.den (.forLoop target it body orelse env))
      (.ret (loopBack env K H gd lv) none (gd false) (lv []) c p [] :: fs) s₂) Fls s₁) Fls s)
    (hs : ∀ x, foldedSetIterable iter env x = pure x := by intro _; rfl) :
    Seg M A R Y n s₀ c ((exec (.For target iter body orelse pos) env).wrap K H gd lv) fs s := by
  have e : exec (.For target iter body orelse pos) env = (do
    standAt pos
    let x ← eval iter env
    let x ← foldedSetIterable iter env x
    standAt iter.pos
    let it ← holding [x] (pyIter x)
    runOwn (.forLoop target it body orelse env) env) := exec_For ..
  rw [e]
  show Seg M A R Y n s₀ c (.at pos fun _ => (eval iter env >>= fun x => _).wrap K H gd lv) fs s
  refine seg_at ?_
  rw [Sem.bind_eq_wrap', Sem.wrap_wrap]
  refine seg_wrap (wpAny_mono h (fun x s₁ h₁ => ?_) fun _ _ x => x.elim)
  rw [hs x]
  show Seg M A R Y n s₀ c (.at iter.pos fun _ => (holding [x] (pyIter x) >>= fun it => _).wrap _ _ _ _) fs s₁
  refine seg_at ?_
  rw [Sem.bind_eq_wrap', Sem.wrap_wrap]
  refine seg_wrap (wpAny_holding (wpAny_mono h₁ (fun it s₂ h₂ => ?_) fun _ _ x => x.elim))
  exact seg_call h₂

theorem seg_done {f : Flow} {g : Bool} {h : Option Value} {l : List Value} {c₁ : Code} {p₁ : Pos} {kp : List Value} {env : Env}
    (hk : Seg M A R Y n s₀ c₁ (K f) fs s) : Seg M A R Y n s₀ c (.pure (.done f)) (.ret (loopBack env K H gd lv) h g l c₁ p₁ kp :: fs) s :=
  seg_leaf (.ok f) hk
end

section
variable {prog : Program} {w : World} {A : Around} {R : GenEnd} {Y : Protocol} {n : Nat} {s₀ : Shared} {fs : List Frame} {s : Shared} {env : Env}

noncomputable abbrev loopH (env : Env) : Value → Sem Fin := fun e => (do noteFrame e env; theTreesLotGoes e : Sem Unit).wrap (fun _ => .raise e) .raise id id
noncomputable abbrev loopK (again : Code) : Flow → Sem Fin := fun f => match f with
            | .next | .cont => .pure (.again again)
            | .brk => .pure (.done .next)
            | .ret v => .pure (.done (.ret v))

theorem seg_forLoop {target : PySem.Expr} {it : Value} {body : List Stmt}
    (h : wpAny (model prog w) (A.over (.forLoop target it body [] env) fs) (pyNext it) (fun r s' => match r with
        | none => Seg (model prog w) A R Y n s₀ (.block [] env) (.pure (.done .next)) fs s'
        | some v => wpAny (model prog w) (A.over (.forLoop target it body [] env) fs) (letOwnedTupleGo target it v) (fun _ s₁ => wpAny (model prog w) (A.over (.forLoop target it body [] env) fs) (assign target env v) (fun _ s₂ =>
            Seg (model prog w) A R Y n s₀ (.forLoop target it body [] env) ((execs body env).wrap (loopK (.forLoop target it body [] env)) (loopH env) id id) fs s₂) Fls s₁) Fls s') Fls s) :
    Seg (model prog w) A R Y n s₀ (.forLoop target it body [] env) ((model prog w).den (.forLoop target it body [] env)) fs s := by
  show Seg _ A R Y n s₀ _ ((forTurn target it body [] env).onRaise (fun x => do noteFrame x env; theTreesLotGoes x)) fs s
  unfold forTurn
  rw [Sem.onRaise_eq_wrap]
  show Seg _ A R Y n s₀ _ (.at target.pos fun _ => ((pyNext it).onRaise (fun _ => standAt { target.pos with line := 0 }) >>= fun r => _).wrap _ _ _ _) fs s
  refine seg_at ?_
  rw [Sem.bind_eq_wrap', Sem.wrap_wrap]
  refine seg_wrap (wpAny_onRaise (wpAny_mono h (fun r s₁ h₁ => ?_) fun _ _ x => x.elim))
  cases r with
  | none =>
    show Seg _ A R Y n s₀ _ (.pure (.again (.block [] env))) fs s₁
    exact seg_again rfl h₁
  | some v =>
    show Seg _ A R Y n s₀ _ ((letOwnedTupleGo target it v >>= fun _ => assign target env v >>= fun _ => execs body env >>= fun f => _).wrap _ _ _ _) fs s₁
    rw [Sem.bind_eq_wrap', Sem.wrap_wrap]
    refine seg_wrap (wpAny_mono h₁ (fun _ s₂ h₂ => ?_) fun _ _ x => x.elim)
    show Seg _ A R Y n s₀ _ ((assign target env v >>= fun _ => execs body env >>= fun f => _).wrap _ _ _ _) fs s₂
    rw [Sem.bind_eq_wrap', Sem.wrap_wrap]
    refine seg_wrap (wpAny_mono h₂ (fun _ s₃ h₃ => ?_) fun _ _ x => x.elim)
    show Seg _ A R Y n s₀ _ ((execs body env >>= fun f => _).wrap _ _ _ _) fs s₃
    rw [Sem.bind_eq_wrap', Sem.wrap_wrap]
    rw [Sem.wrap_congr (execs body env) _ _ (K' := loopK (.forLoop target it body [] env)) (H' := loopH env)
        (fun f => by cases f <;> rfl)
        (fun e => by first | exact Sem.bind_eq_wrap _ _ | (show (do noteFrame e env; theTreesLotGoes e : Sem Unit).bind (fun _ => .raise e) = _; rw [Sem.bind_eq_wrap]))]
    exact h₃
end
end PartG1
section PartF1

/-- a frame over a base: its dict at L holds m; the base is kept; the dict is not of the base -/
structure Fz (g : Heap) (L : Addr) (h : Heap) (m : Str → Option Value) : Prop where
  ns : h.Ns L m
  keep : ∀ b o, g.get? b = some o → h.get? b = some o
  out : g.get? L = none
section
variable {g h h' : Heap} {L : Addr} {m m' : Str → Option Value} {news : List (Addr × Obj)} {s : Shared}
theorem Fz.of (F : Fr g L h m) : Fz g L h m := ⟨F.ns, F.keep, by
  cases q : g.get? L with
  | none => rfl
  | some o => exact absurd (Nat.lt_of_lt_of_le (Heap.lt_size q) F.above) (Nat.lt_irrefl _)⟩
theorem Fz.ne (F : Fz g L h m) {b : Addr} {o : Obj} (e : g.get? b = some o) : b ≠ L := fun q => by rw [q, F.out] at e; cases e
theorem Fz.lt (F : Fz g L h m) : L < h.objs.size := F.ns.lt
theorem Fz.set (F : Fz g L h m) (hn : h'.Ns L m') (hs : Heap.SameBut L h h') : Fz g L h' m' :=
  ⟨hn, fun b o e => (hs.2 b (F.ne e)).trans (F.keep b o e), F.out⟩
theorem Fz.keeps (F : Fz g L h m) (k : ∀ b o, h.get? b = some o → h'.get? b = some o) : Fz g L h' m := ⟨F.ns.keeps k, fun b o e => k b o (F.keep b o e), F.out⟩
theorem Fz.push (F : Fz g L h m) (o : Obj) : Fz g L (h.push o) m := F.keeps fun _ _ e => Heap.get?_push_of_some _ e
theorem Fz.pushN (F : Fz g L h m) (N : News g L h news) (o : Obj) (hf : o.isFreed = false := by rfl) : News g L (h.push o) ((h.objs.size, o) :: news) := by
  intro p hp
  rcases List.mem_cons.mp hp with rfl | hp
  · refine ⟨Heap.get?_push_size _ hf, Nat.ne_of_gt F.lt, ?_⟩
    cases hq : g.get? h.objs.size with
    | none => rfl
    | some o' => exact absurd (Heap.lt_size (F.keep _ _ hq)) (Nat.lt_irrefl _)
  · exact ⟨Heap.get?_push_of_some _ (N p hp).1, (N p hp).2.1, (N p hp).2.2⟩
theorem newsK (N : News g L h news) (k : ∀ b o, h.get? b = some o → h'.get? b = some o) : News g L h' news := fun p hp => ⟨k _ _ (N p hp).1, (N p hp).2⟩
/-- the base anew: all that stands, but the frame's dict and the ledger -/
theorem rebase (F : Fz g L h m) (N : News g L h news) : ∃ g', (∀ b o, g.get? b = some o → g'.get? b = some o) ∧ Fz g' L h m ∧ News g' L h news ∧
    (∀ b o, h.get? b = some o → b ≠ L → (∀ p ∈ news, p.1 ≠ b) → g'.get? b = some o) := by
  have key : ∀ b o, h.get? b = some o → b ≠ L → (∀ p ∈ news, p.1 ≠ b) → (hideAll h (L :: news.map (·.1))).get? b = some o := fun b o e h1 h2 =>
    hideAll_get _ e fun q => by
      rcases List.mem_cons.mp q with q | q
      · exact h1 q
      · obtain ⟨p, hp, e⟩ := List.mem_map.mp q; exact h2 p hp e
  refine ⟨hideAll h (L :: news.map (·.1)), fun b o e => key b o (F.keep b o e) (F.ne e) fun p hp q => ?_, ⟨F.ns, fun b o e => of_hideAll _ e, hideAll_none _ (.head _)⟩, fun p hp => ⟨(N p hp).1, (N p hp).2.1, hideAll_none _ (List.mem_cons_of_mem _ (List.mem_map_of_mem hp))⟩, key⟩
  rw [← q, (N p hp).2.2] at e; cases e
theorem Fz.self (hn : h.Ns L m) : ∃ g, Fz g L h m ∧ ∀ b o, h.get? b = some o → b ≠ L → g.get? b = some o :=
  ⟨hideAll h [L], ⟨hn, fun b o e => of_hideAll _ e, hideAll_none _ (.head _)⟩, fun b o e hb => hideAll_get _ e fun q => by
    rcases List.mem_cons.mp q with q | q
    · exact hb q
    · cases q⟩
end

section
variable {M : Model} {A : Around} {E : Value → Shared → Prop} {s : Shared} {g : Heap} {L : Addr} {m : Str → Option Value} {news : List (Addr × Obj)} {env : Env}
theorem z_ld {x : Str} {pos : Pos} {v : Value} {Q : Value → Shared → Prop} (F : Fz g L s.heap m) (hv : m x = some v) (h : Q v s)
    (hL : env.locals = L := by rfl) (hk : env.scope.kind = .function := by rfl) (hl : env.kindOf x = some .local := by rfl) (hd : (x == ("__debug__" : Str)) = false := by decide) :
    wpAny M A (eval (.Name x pos) env) Q E s := wpAny_Name (wpAny_loadName_local hk hl (hL ▸ F.ns) hv h) hd
theorem z_ldn {x : Str} {v : Value} {Q : Value → Shared → Prop} (F : Fz g L s.heap m) (hv : m x = some v) (h : Q v s)
    (hL : env.locals = L := by rfl) (hk : env.scope.kind = .function := by rfl) (hl : env.kindOf x = some .local := by rfl) :
    wpAny M A (loadName env x) Q E s := wpAny_loadName_local hk hl (hL ▸ F.ns) hv h
theorem z_st {x : Str} {v : Value} {Q : Unit → Shared → Prop} (F : Fz g L s.heap m) (N : News g L s.heap news)
    (h : ∀ h', Fz g L h' (fun y => if y = x then some v else m y) → News g L h' news → Q () { s with heap := h', toks := s.toks + 1 })
    (hL : env.locals = L := by rfl) (hk : env.scope.kind = .function := by rfl) (hl : env.kindOf x = some .local := by rfl) :
    wpAny M A (storeName env x v) Q E s := by
  subst hL
  exact wpAny_storeName_local hl F.ns (fun h' hn hs => h h' (F.set hn hs) (N.set hs)) (by rw [hk]; rfl)
theorem z_nameK {K : Frag} {mg mb : Str → Option Value} {p : Program} {loose : List Str} {x : Str} {pos : Pos} {v : Value} {Q : Value → Shared → Prop} (F : Fz g L s.heap m) (X : K.In g) (T : TopRead p loose mg mb g)
    (e : nsIn K mainGlobals x = some (some v)) (h : Q v s) (hg : env.globals = mainGlobals := by rfl) (hk : env.scope.kind = .function := by rfl) (hx : env.kindOf x = some .globalImplicit := by rfl) (hd : (x == ("__debug__" : Str)) = false := by decide) :
    wpAny M A (eval (.Name x pos) env) Q E s :=
  Name_function_global hk hx (loadGlobal_global (env := env) (by rw [hg]; exact T.g.keeps F.keep) (mg_of X T.g e) h) hd
theorem z_nameB {K : Frag} {mg mb : Str → Option Value} {p : Program} {loose : List Str} {x : Str} {pos : Pos} {v : Value} {Q : Value → Shared → Prop} (F : Fz g L s.heap m) (X : K.In g) (T : TopRead p loose mg mb g)
    (e : nsIn K mainGlobals x = some none) (hv : bootBuiltins x = some v) (h : Q v s) (hn : x ≠ "__name__" := by decide) (hg : env.globals = mainGlobals := by rfl) (hb : env.builtins = builtinsNs := by rfl) (hk : env.scope.kind = .function := by rfl) (hx : env.kindOf x = some .globalImplicit := by rfl) (hd : (x == ("__debug__" : Str)) = false := by decide) :
    wpAny M A (eval (.Name x pos) env) Q E s :=
  Name_function_global hk hx (loadGlobal_builtin (env := env) (by rw [hg]; exact T.g.keeps F.keep) (mg_none_of X T.g e) (by rw [hb]; exact T.b.keeps F.keep) ((T.builtins x hn).trans hv) h) hd
end

section
variable {prog : Program} {w : World} {A : Around} {E : Value → Shared → Prop} {s : Shared} {g : Heap} {L : Addr} {m : Str → Option Value} {news : List (Addr × Obj)} {env : Env}
theorem z_unpack2 {x y : Str} {px py pos : Pos} {k : Nat} {T : Addr} {a b : Value} {Q : Unit → Shared → Prop} (F : Fz g L s.heap m) (N : News g L s.heap news) (hh : A.handled = none) (ht : s.heap.IsTuple T #[a, b])
    (h : ∀ h' tk, Fz g L h' (fun z => if z = y then some b else if z = x then some a else m z) → News g L h' news → (∀ b o, b ≠ L → s.heap.get? b = some o → h'.get? b = some o) → Q () { s with heap := h', toks := tk })
    (hL : env.locals = L := by rfl) (hk : env.scope.kind = .function := by rfl) (hx : env.kindOf x = some .local := by rfl) (hy : env.kindOf y = some .local := by rfl) :
    wpAny (model prog w) A (assign (.Tuple [.Name x px, .Name y py] k pos) env (.ref T)) Q E s := by
  subst hL
  have hp : (env.scope.kind == .class || (env.scope.kind == .module && env.locals != env.globals)) = false := by rw [hk]; rfl
  refine wpAny_assign_Tuple hh ht rfl rfl fun h₃ hx₃ => ?_
  have k₃ : ∀ b o, s.heap.get? b = some o → h₃.get? b = some o := fun b o e => hx₃ b o (Nat.ne_of_lt (Heap.lt_size e)) e
  have F₃ := F.keeps k₃
  have N₃ := newsK N k₃
  show wpAny _ A (do holding [b] (assign (.Name x px) env a); do holding [] (assign (.Name y py) env b); pure ()) _ _ _
  refine wpAny_bind (wpAny_holding (wpAny_assign_Name (wpAny_storeName_local hx F₃.ns (fun h₄ hn₄ hs₄ => ?_) hp)))
  have F₄ := F₃.set hn₄ hs₄
  refine wpAny_bind (wpAny_holding (wpAny_assign_Name (wpAny_storeName_local hy F₄.ns (fun h₅ hn₅ hs₅ => wpAny_pure ?_) hp)))
  exact h _ _ (F₄.set hn₅ hs₅) ((N₃.set hs₄).set hs₅) fun c o hc e => hs₅.extBut c o hc (hs₄.extBut c o hc (k₃ c o e))

noncomputable abbrev tupOf (vs : Array Value) : Obj := { cls := .type "tuple", data := .seq vs }
theorem z_newTuple {vs : List Value} {Q : Value → Shared → Prop} (F : Fz g L s.heap m) (N : News g L s.heap news)
    (h : ∀ h', Fz g L h' m → News g L h' ((s.heap.objs.size, tupOf vs.toArray) :: news) → (∀ b o, s.heap.get? b = some o → h'.get? b = some o) → Q (.ref s.heap.objs.size) { s with heap := h' })
    (hz : vs.length ≤ sizeLine := by size_fits) : wpAny (model prog w) A (newTuple vs) Q E s := by
  refine wpAny_newTuple (h _ (F.push _) (F.pushN N _) fun _ _ e => Heap.get?_push_of_some _ e) hz
theorem z_newList {vs : List Value} {Q : Value → Shared → Prop} (F : Fz g L s.heap m) (N : News g L s.heap news)
    (h : ∀ h', Fz g L h' m → News g L h' ((s.heap.objs.size, listOf vs.toArray 0) :: news) → (∀ b o, s.heap.get? b = some o → h'.get? b = some o) → Q (.ref s.heap.objs.size) { s with heap := h' })
    (hz : vs.length ≤ sizeLine := by size_fits) : wpAny (model prog w) A (newList vs) Q E s := by
  refine wpAny_newList (h _ (F.push _) (F.pushN N _) fun _ _ e => Heap.get?_push_of_some _ e) hz
end

/-- drawing the signs of a text -/
theorem drawsStr {prog : Program} {w : World} {A : Around} (hh : A.handled = none) (it : Addr) (x : Str) (t : Tok) :
    Draws prog w A it [it] x.cps.size (fun i v => ∃ c u, x.cps[i]? = some c ∧ v = .str ⟨#[c]⟩ u) (fun i h => h.IsStrIter it (strIterType x) x t i) := by
  unfold strIterType
  split
  · exact Draws.strAscii hh it x t
  · exact Draws.strWide hh it x t
theorem letGo_gen {prog : Program} {w : World} {A : Around} {E : Value → Shared → Prop} {s : Shared} {es : List PySem.Expr} {k : Nat} {pos : Pos} {it a : Addr} {gi : Nat} {Q : Unit → Shared → Prop} (hg : s.heap.IsGen it gi) (h : Q () s) :
    wpAny (model prog w) A (letOwnedTupleGo (.Tuple es k pos) (.ref it) (.ref a)) Q E s := by
  obtain ⟨⟨c, d, dt, sl⟩, nm, qn, ho, hc, hd, _⟩ := hg
  cases hc
  cases hd
  have e : (["enumerate", "zip", "dict_itemiterator", "dict_reverseitemiterator", "odict_iterator", "itertools.zip_longest", "itertools.pairwise"] : List String).contains "generator" = false := by decide
  show wpAny _ _ (load it >>= _) _ _ s
  refine wpAny_bind (wpAny_load ho ?_)
  dsimp only
  rw [e]
  exact wpAny_pure h
end PartF1
section GroupB
local macro_rules | `(tactic| walk_at "w stop") => `(tactic| (fail_if_success (with_reducible refine at_while ?_)))
local macro_rules | `(tactic| walk_at "w go") => `(tactic| repeat' ((try dsimp only); walk_at "w stop"; walk1))
local macro_rules | `(tactic| walk_at "eval Name") => `(tactic| with_unfolding_all refine ld (by assumption) (by assumption) ?_)
section PartT2
noncomputable def blF (ns : List Int) (x : Int) : Nat → Int → Int → Int
  | 0, lo, _ => lo
  | n + 1, lo, hi => if lo < hi then (let mid := Int.fdiv (lo + hi) 2; if ns.getD mid.toNat 0 < x then blF ns x n (mid + 1) hi else blF ns x n lo mid) else lo
theorem blF_succ {ns : List Int} {x lo hi : Int} {n : Nat} : blF ns x (n + 1) lo hi = if lo < hi then (let mid := Int.fdiv (lo + hi) 2; if ns.getD mid.toNat 0 < x then blF ns x n (mid + 1) hi else blF ns x n lo mid) else lo := rfl
theorem half {lo hi : Int} (h : lo < hi) : lo ≤ Int.fdiv (lo + hi) 2 ∧ Int.fdiv (lo + hi) 2 < hi := by
  rw [Int.fdiv_eq_ediv_of_nonneg _ (by decide)]
  omega
theorem less_up {lo m hi : Int} (h1 : lo ≤ m) (h2 : m < hi) : (hi - (m + 1)).toNat < (hi - lo).toNat := by omega
theorem less_dn {lo m hi : Int} (h1 : lo ≤ m) (h2 : m < hi) : (m - lo).toNat < (hi - lo).toNat := by omega
theorem toNat_succ {lo hi : Int} (h : lo < hi) : ∃ k, (hi - lo).toNat = k + 1 := ⟨(hi - lo).toNat - 1, by omega⟩
theorem nn_up {lo m : Int} (h0 : 0 ≤ lo) (h1 : lo ≤ m) : 0 ≤ m + 1 := by omega
theorem blF_more {ns : List Int} {x : Int} : ∀ (n : Nat) (lo hi : Int), (hi - lo).toNat ≤ n → ∀ m, (hi - lo).toNat ≤ m → blF ns x n lo hi = blF ns x m lo hi := by
  have z : ∀ (m : Nat) (lo hi : Int), ¬ lo < hi → blF ns x m lo hi = lo := fun m lo hi h => by
    cases m with
    | zero => rfl
    | succ m => rw [blF_succ, if_neg h]
  intro n
  induction n with
  | zero =>
    intro lo hi h m hm
    rw [z 0 lo hi (fun q => by obtain ⟨k, e⟩ := toNat_succ q; rw [e] at h; cases h), z m lo hi (fun q => by obtain ⟨k, e⟩ := toNat_succ q; rw [e] at h; cases h)]
  | succ n ih =>
    intro lo hi h m hm
    by_cases hc : lo < hi
    · obtain ⟨g1, g2⟩ := half hc
      cases m with
      | zero => obtain ⟨k, e⟩ := toNat_succ hc; rw [e] at hm; cases hm
      | succ m =>
        simp only [blF_succ]
        rw [if_pos hc, if_pos hc, ih _ _ (Nat.le_of_lt_succ (Nat.lt_of_lt_of_le (less_up g1 g2) h)) m (Nat.le_of_lt_succ (Nat.lt_of_lt_of_le (less_up g1 g2) hm)),
          ih _ _ (Nat.le_of_lt_succ (Nat.lt_of_lt_of_le (less_dn g1 g2) h)) m (Nat.le_of_lt_succ (Nat.lt_of_lt_of_le (less_dn g1 g2) hm))]
    · rw [z _ _ _ hc, z _ _ _ hc]
theorem bl_step {ns : List Int} {x lo hi : Int} (h : lo < hi) : blF ns x (hi - lo).toNat lo hi = if ns.getD (Int.fdiv (lo + hi) 2).toNat 0 < x then blF ns x (hi - (Int.fdiv (lo + hi) 2 + 1)).toNat (Int.fdiv (lo + hi) 2 + 1) hi else blF ns x (Int.fdiv (lo + hi) 2 - lo).toNat lo (Int.fdiv (lo + hi) 2) := by
  obtain ⟨g1, g2⟩ := half h
  obtain ⟨k, e⟩ := toNat_succ h
  have a := less_up g1 g2
  have b := less_dn g1 g2
  rw [e] at a b ⊢
  simp only [blF_succ]
  rw [if_pos h, blF_more _ _ _ (Nat.le_refl _) k (Nat.le_of_lt_succ a), blF_more _ _ _ (Nat.le_refl _) k (Nat.le_of_lt_succ b)]
theorem bl_end {ns : List Int} {x lo hi : Int} (h : ¬ lo < hi) : blF ns x (hi - lo).toNat lo hi = lo := by
  cases (hi - lo).toNat with
  | zero => rfl
  | succ k => rw [blF_succ, if_neg h]
theorem kfill_T2 : (PySem.Challenge.rw_wf0039_01 = PySem.Challenge.rw_wf0039_01) ∧ (hd.heap_39 = hd.heap_39) := by
    k_fill
    exact ⟨rfl, rfl⟩
set_option maxHeartbeats 8000000 in
theorem bl_test {p : Program} {w : World} {A : Around} {loose : List Str} {mean : ExcName → Option Value} {mg mb : Str → Option Value} {l : Addr} {vs : List Value} {ns : List Int} {x : Int} {tx : Tok} {s : Shared} {R : Result → Shared → Prop}
   (X : (hd.heap_39 w.params).In s.heap) (T : Top p loose mean mg mb s.heap) (hd : A.depth + 1 < recursionLimit) (hu : A.units + 10 < cLine)
   (hl : s.heap.IsList l vs.toArray) (hi : IntsAre vs ns) (hf : ns.length < 2 ^ 62) 
   (h : ∀ t h' tk, (∀ b o, s.heap.get? b = some o → h'.get? b = some o) → R (.ok (.ret (.int (blF ns x ns.length 0 ns.length) t))) { s with heap := h', toks := tk }) :
   codeAny (model PySem.Challenge.pw_wf0039_01 w) A (.call (.ref 48) ⟨[.ref l, .int x tx], []⟩) R s := by
  refine enter X T.nolimit (by k_is) (by k_is) (by lia) (binds := [("a", .ref l), ("x", .int x tx), ("lo", .int 0 229), ("hi", .none), ("key", .none)]) (binds_peek X (fun S => rfl)) (locs rfl) ?_ rfl rfl rfl (by decide)
  intro h₁ F N
  walk_at "w go"
  refine while_I (fun n s' => ∃ m h' tk' lo hi t1 t2, s' = { s with heap := h', toks := tk' } ∧ Fr s.heap s.heap.objs.size h' m ∧ 
     m "a" = some (.ref l) ∧ m "x" = some (.int x tx) ∧ m "lo" = some (.int lo t1) ∧ m "hi" = some (.int hi t2) ∧ 
     0 ≤ lo ∧ hi ≤ ns.length ∧ lo ≤ hi ∧ n = (hi - lo).toNat ∧ blF ns x ns.length 0 ns.length = blF ns x n lo hi) ?turn ns.length ?start
  case start =>
    exact ⟨_, _, _, _, _, _, _, rfl, by assumption, rfl, rfl, rfl, rfl, Int.le_refl _, Int.le_refl _, Int.natCast_nonneg _, by rw [Int.sub_zero]; rfl, rfl⟩
  case turn =>
    rintro n s' ⟨m, h', tk', lo, hi', t1, t2, rfl, F', ma, mx, ml, mh, h1, h2, h3, rfl, h5⟩
    have N' : News s.heap s.heap.objs.size h' [] := News.nil
    walk_at "w go"
    · rename lo < hi' => hlt
      rename ns.getD _ 0 < x => hx
      rename Fr _ _ _ _ => F2
      obtain ⟨g1, g2⟩ := half hlt
      exact ⟨_, less_up g1 g2, _, _, _, _, _, _, _, rfl, F2, ma, mx, rfl, mh, nn_up h1 g1, h2, g2, rfl, by rw [h5, bl_step hlt, if_pos hx]⟩
    · rename lo < hi' => hlt
      rename ¬ (ns.getD _ 0 < x) => hx
      rename Fr _ _ _ _ => F2
      obtain ⟨g1, g2⟩ := half hlt
      exact ⟨_, less_dn g1 g2, _, _, _, _, _, _, _, rfl, F2, ma, mx, ml, rfl, h1, Int.le_trans (Int.le_of_lt g2) h2, g1, rfl, by rw [h5, bl_step hlt, if_neg hx]⟩
    · have e : blF ns x ns.length 0 ns.length = lo := by
        rw [h5, bl_end (by assumption)]
      rw [← e]
      exact h _ _ _ F'.keep
end PartT2
section PartT5
noncomputable def brF (ns : List Int) (x : Int) : Nat → Int → Int → Int
  | 0, lo, _ => lo
  | n + 1, lo, hi => if lo < hi then (let mid := Int.fdiv (lo + hi) 2; if x < ns.getD mid.toNat 0 then brF ns x n lo mid else brF ns x n (mid + 1) hi) else lo
theorem brF_succ {ns : List Int} {x lo hi : Int} {n : Nat} : brF ns x (n + 1) lo hi = if lo < hi then (let mid := Int.fdiv (lo + hi) 2; if x < ns.getD mid.toNat 0 then brF ns x n lo mid else brF ns x n (mid + 1) hi) else lo := rfl
theorem brF_more {ns : List Int} {x : Int} : ∀ (n : Nat) (lo hi : Int), (hi - lo).toNat ≤ n → ∀ m, (hi - lo).toNat ≤ m → brF ns x n lo hi = brF ns x m lo hi := by
  have z : ∀ (m : Nat) (lo hi : Int), ¬ lo < hi → brF ns x m lo hi = lo := fun m lo hi h => by
    cases m with
    | zero => rfl
    | succ m => rw [brF_succ, if_neg h]
  intro n
  induction n with
  | zero =>
    intro lo hi h m hm
    rw [z 0 lo hi (fun q => by obtain ⟨k, e⟩ := toNat_succ q; rw [e] at h; cases h), z m lo hi (fun q => by obtain ⟨k, e⟩ := toNat_succ q; rw [e] at h; cases h)]
  | succ n ih =>
    intro lo hi h m hm
    by_cases hc : lo < hi
    · obtain ⟨g1, g2⟩ := half hc
      cases m with
      | zero => obtain ⟨k, e⟩ := toNat_succ hc; rw [e] at hm; cases hm
      | succ m =>
        simp only [brF_succ]
        rw [if_pos hc, if_pos hc, ih _ _ (Nat.le_of_lt_succ (Nat.lt_of_lt_of_le (less_up g1 g2) h)) m (Nat.le_of_lt_succ (Nat.lt_of_lt_of_le (less_up g1 g2) hm)),
          ih _ _ (Nat.le_of_lt_succ (Nat.lt_of_lt_of_le (less_dn g1 g2) h)) m (Nat.le_of_lt_succ (Nat.lt_of_lt_of_le (less_dn g1 g2) hm))]
    · rw [z _ _ _ hc, z _ _ _ hc]
theorem br_step {ns : List Int} {x lo hi : Int} (h : lo < hi) : brF ns x (hi - lo).toNat lo hi = if x < ns.getD (Int.fdiv (lo + hi) 2).toNat 0 then brF ns x (Int.fdiv (lo + hi) 2 - lo).toNat lo (Int.fdiv (lo + hi) 2) else brF ns x (hi - (Int.fdiv (lo + hi) 2 + 1)).toNat (Int.fdiv (lo + hi) 2 + 1) hi := by
  obtain ⟨g1, g2⟩ := half h
  obtain ⟨k, e⟩ := toNat_succ h
  have a := less_up g1 g2
  have b := less_dn g1 g2
  rw [e] at a b ⊢
  simp only [brF_succ]
  rw [if_pos h, brF_more _ _ _ (Nat.le_refl _) k (Nat.le_of_lt_succ a), brF_more _ _ _ (Nat.le_refl _) k (Nat.le_of_lt_succ b)]
theorem br_end {ns : List Int} {x lo hi : Int} (h : ¬ lo < hi) : brF ns x (hi - lo).toNat lo hi = lo := by
  cases (hi - lo).toNat with
  | zero => rfl
  | succ k => rw [brF_succ, if_neg h]
theorem kfill_T5 : (PySem.Challenge.rw_wf0039_01 = PySem.Challenge.rw_wf0039_01) ∧ (hd.heap_39 = hd.heap_39) := by
    k_fill
    exact ⟨rfl, rfl⟩
set_option maxHeartbeats 8000000 in
theorem br_call {p : Program} {w : World} {A : Around} {loose : List Str} {mean : ExcName → Option Value} {mg mb : Str → Option Value} {l : Addr} {vs : List Value} {ns : List Int} {x : Int} {tx t0 : Tok} {vals : List Value} {s : Shared} {R : Result → Shared → Prop}
   (X : (hd.heap_39 w.params).In s.heap) (T : Top p loose mean mg mb s.heap) (hd : A.depth + 1 < recursionLimit) (hu : A.units + 10 < cLine)
   (hl : s.heap.IsList l vs.toArray) (hi : IntsAre vs ns) (hf : ns.length < 2 ^ 62) 
   (h : ∀ t h' tk, (∀ b o, s.heap.get? b = some o → h'.get? b = some o) → R (.ok (.ret (.int (brF ns x ns.length 0 ns.length) t))) { s with heap := h', toks := tk })
   (ha : (vals = [.ref l, .int x tx] ∧ t0 = 215) ∨ vals = [.ref l, .int x tx, .int 0 t0, .none]) :
   codeAny (model PySem.Challenge.pw_wf0039_01 w) A (.call (.ref 39) ⟨vals, []⟩) R s := by
  refine enter X T.nolimit (by k_is) (by k_is) (by lia) (binds := [("a", .ref l), ("x", .int x tx), ("lo", .int 0 t0), ("hi", .none), ("key", .none)]) (by rcases ha with ⟨rfl, rfl⟩ | rfl <;> exact binds_peek X (fun S => rfl)) (locs rfl) ?_ rfl rfl rfl (by decide)
  intro h₁ F N
  walk_at "w go"
  refine while_I (fun n s' => ∃ m h' tk' lo hi t1 t2, s' = { s with heap := h', toks := tk' } ∧ Fr s.heap s.heap.objs.size h' m ∧ 
     m "a" = some (.ref l) ∧ m "x" = some (.int x tx) ∧ m "lo" = some (.int lo t1) ∧ m "hi" = some (.int hi t2) ∧ 
     0 ≤ lo ∧ hi ≤ ns.length ∧ lo ≤ hi ∧ n = (hi - lo).toNat ∧ brF ns x ns.length 0 ns.length = brF ns x n lo hi) ?turn ns.length ?start
  case start =>
    exact ⟨_, _, _, _, _, _, _, rfl, by assumption, rfl, rfl, rfl, rfl, Int.le_refl _, Int.le_refl _, Int.natCast_nonneg _, by rw [Int.sub_zero]; rfl, rfl⟩
  case turn =>
    rintro n s' ⟨m, h', tk', lo, hi', t1, t2, rfl, F', ma, mx, ml, mh, h1, h2, h3, rfl, h5⟩
    have N' : News s.heap s.heap.objs.size h' [] := News.nil
    walk_at "w go"
    · rename lo < hi' => hlt
      rename x < ns.getD _ 0 => hx
      rename Fr _ _ _ _ => F2
      obtain ⟨g1, g2⟩ := half hlt
      exact ⟨_, less_dn g1 g2, _, _, _, _, _, _, _, rfl, F2, ma, mx, ml, rfl, h1, Int.le_trans (Int.le_of_lt g2) h2, g1, rfl, by rw [h5, br_step hlt, if_pos hx]⟩
    · rename lo < hi' => hlt
      rename ¬ (x < ns.getD _ 0) => hx
      rename Fr _ _ _ _ => F2
      obtain ⟨g1, g2⟩ := half hlt
      exact ⟨_, less_up g1 g2, _, _, _, _, _, _, _, rfl, F2, ma, mx, rfl, mh, nn_up h1 g1, h2, g2, rfl, by rw [h5, br_step hlt, if_neg hx]⟩
    · have e : brF ns x ns.length 0 ns.length = lo := by
        rw [h5, br_end (by assumption)]
      rw [← e]
      exact h _ _ _ F'.keep
theorem br_call2 {p : Program} {w : World} {A : Around} {loose : List Str} {mean : ExcName → Option Value} {mg mb : Str → Option Value} {l : Addr} {vs : List Value} {ns : List Int} {x : Int} {tx : Tok} {s : Shared} {R : Result → Shared → Prop}
   (X : (hd.heap_39 w.params).In s.heap) (T : Top p loose mean mg mb s.heap) (hd : A.depth + 1 < recursionLimit) (hu : A.units + 10 < cLine)
   (hl : s.heap.IsList l vs.toArray) (hi : IntsAre vs ns) (hf : ns.length < 2 ^ 62) 
   (h : ∀ t h' tk, (∀ b o, s.heap.get? b = some o → h'.get? b = some o) → R (.ok (.ret (.int (brF ns x ns.length 0 ns.length) t))) { s with heap := h', toks := tk }) :
   codeAny (model PySem.Challenge.pw_wf0039_01 w) A (.call (.ref 39) ⟨[.ref l, .int x tx], []⟩) R s :=
  br_call X T hd hu hl hi hf h (.inl ⟨rfl, rfl⟩)
theorem br_call4 {p : Program} {w : World} {A : Around} {loose : List Str} {mean : ExcName → Option Value} {mg mb : Str → Option Value} {l : Addr} {vs : List Value} {ns : List Int} {x : Int} {tx tl : Tok} {s : Shared} {R : Result → Shared → Prop}
   (X : (hd.heap_39 w.params).In s.heap) (T : Top p loose mean mg mb s.heap) (hd : A.depth + 1 < recursionLimit) (hu : A.units + 10 < cLine)
   (hl : s.heap.IsList l vs.toArray) (hi : IntsAre vs ns) (hf : ns.length < 2 ^ 62) 
   (h : ∀ t h' tk, (∀ b o, s.heap.get? b = some o → h'.get? b = some o) → R (.ok (.ret (.int (brF ns x ns.length 0 ns.length) t))) { s with heap := h', toks := tk }) :
   codeAny (model PySem.Challenge.pw_wf0039_01 w) A (.call (.ref 39) ⟨[.ref l, .int x tx, .int 0 tl, .none], []⟩) R s :=
  br_call X T hd hu hl hi hf h (.inr rfl)
end PartT5
end GroupB
section GroupG
local macro_rules | `(tactic| walk_at "w stop") => `(tactic| (fail_if_success (with_reducible refine at_while ?_)))
local macro_rules | `(tactic| walk_at "w go") => `(tactic| repeat' ((try dsimp only); walk_at "w stop"; walk1))
local macro_rules | `(tactic| walk_at "w 1") => `(tactic| ((try dsimp only); walk1))
local macro_rules | `(tactic| walk_at "eval Name") => `(tactic| with_unfolding_all first | refine z_ld (by assumption) (by rfl) ?_ | refine z_ld (by assumption) (by assumption) ?_ | refine z_nameK (by assumption) (by assumption) (topRead_of (by assumption)) (by k_is) ?_ | refine z_nameB (by assumption) (by assumption) (topRead_of (by assumption)) (by k_is) (by boot_by_name) ?_ | refine ld (by assumption) (by assumption) ?_)
set_option hygiene false in
local macro_rules | `(tactic| walk_at "storeName") => `(tactic| (with_unfolding_all refine z_st (by assumption) (by assumption) ?_; intro h' F' N'))
set_option hygiene false in
local macro_rules | `(tactic| walk_at "newTuple") => `(tactic| (with_unfolding_all refine z_newTuple (by assumption) (by assumption) ?_; intro h' F' N' K'))
set_option hygiene false in
local macro_rules | `(tactic| walk_at "newList") => `(tactic| (with_unfolding_all refine z_newList (by assumption) (by assumption) ?_; intro h' F' N' K'))
section PartG2
theorem kfill : (PySem.Challenge.rw_wf0039_01 = PySem.Challenge.rw_wf0039_01) ∧ (hd.heap_39 = hd.heap_39) := by
    k_fill
    exact ⟨rfl, rfl⟩
noncomputable abbrev PW : Program := PySem.Challenge.pw_wf0039_01
/-- an iterator's own object -/
noncomputable def pv (k : Bool) (o : Obj) : Bool := match o.cls, o.data with
  | .type n, .fields _ => if k then n == "list_iterator" else (n == "enumerate" || n == "str_ascii_iterator" || n == "str_iterator")
  | _, _ => false
noncomputable def Kept (k : Bool) (C : Addr) (h h' : Heap) : Prop := ∀ b o, b ≠ C → (C < b → pv k o = false) → h.get? b = some o → h'.get? b = some o
section
variable {k : Bool}
theorem Kept.refl (C : Addr) (h : Heap) : Kept k C h h := fun _ _ _ _ e => e
theorem Kept.trans {C : Addr} {h h' h'' : Heap} (x : Kept k C h h') (y : Kept k C h' h'') : Kept k C h h'' := fun b o hb hp e => y b o hb hp (x b o hb hp e)
theorem Kept.of {C : Addr} {h h' : Heap} (kk : ∀ b o, h.get? b = some o → h'.get? b = some o) : Kept k C h h' := fun b o _ _ e => kk b o e
/-- what stood before the generator's own things -/
theorem Kept.old {C : Addr} {h h' : Heap} (x : Kept k C h h') {b : Addr} {o : Obj} (hb : b < C) (e : h.get? b = some o) : h'.get? b = some o := x b o (Nat.ne_of_lt hb) (fun q => absurd (Nat.lt_trans hb q) (Nat.lt_irrefl _)) e
end

/-- the signs, an escape with the sign behind it -/
noncomputable def escP : List Nat → Bool → List Str
  | [], true => [⟨#[92]⟩]
  | [], false => []
  | c :: cs, true => (⟨#[92, c]⟩ : Str) :: escP cs false
  | c :: cs, false => if c = 92 then escP cs true else (⟨#[c]⟩ : Str) :: escP cs false

theorem escP_ct {c : Nat} {cs : List Nat} : escP (c :: cs) true = (⟨#[92, c]⟩ : Str) :: escP cs false := rfl
theorem escP_cf {c : Nat} {cs : List Nat} : escP (c :: cs) false = if c = 92 then escP cs true else (⟨#[c]⟩ : Str) :: escP cs false := rfl
theorem escP_nt : escP [] true = [⟨#[92]⟩] := rfl
theorem escP_nf : escP [] false = [] := rfl
noncomputable def RR (kd : Bool) (C : Addr) : GenEnd := fun n s₀ r s₁ => r = .ok (.ret .none) ∧ (n = 0 ∧ ∃ h tk, s₁ = { s₀ with heap := h, toks := tk } ∧ Kept kd C s₀.heap h)
noncomputable def YP (kd : Bool) (C : Addr) (B : Heap) (fin : Bool) (It : Nat → Value → Heap → Heap → Prop) : Protocol := fun m s₀ v s₁ kap => ∃ h tk, s₁ = { s₀ with heap := h, toks := tk } ∧ Kept kd C s₀.heap h ∧ It m v s₀.heap h ∧
  ∀ s'', (∀ b o, (b = C ∨ (C < b ∧ pv kd o = true)) → h.get? b = some o → s''.heap.get? b = some o) → (∀ b o, B.get? b = some o → s''.heap.get? b = some o) → (0 < m ∨ fin = true) → kap (.send .none) s''
noncomputable def ItE (C : Addr) (L : List Str) (m : Nat) (v : Value) (h₀ h : Heap) : Prop := ∃ ch T p t t2, L[L.length - (m + 1)]? = some ch ∧ v = .ref T ∧ (∀ o, h₀.get? T = some o → C < T ∧ pv false o = true) ∧ h.IsTuple T #[.int p t, .str ch t2]
noncomputable abbrev YE (C : Addr) (B : Heap) (L : List Str) : Protocol := YP false C B true (ItE C L)
theorem at_back {α : Type} {L done rest : List α} {a : α} (h : L = done ++ a :: rest) : L[L.length - (rest.length + 1)]? = some a := by
  subst h
  have : (done ++ a :: rest).length - (rest.length + 1) = done.length := by simp
  rw [this]
  simp
theorem esc_one (c : Nat) : (("\\" : Str) ++ (⟨#[c]⟩ : Str)) = ⟨#[92, c]⟩ := rfl
theorem one_eq {c : Nat} : (⟨#[c]⟩ : Str) = ("\\" : Str) ↔ c = 92 := ⟨fun h => by
  have e : (#[c] : Array Nat) = #[92] := congrArg Str.cps h
  simpa using e, fun h => by subst h; rfl⟩
theorem seg_loop {M : Model} {A : Around} {R : GenEnd} {Y : Protocol} {fs : List Frame} {target : PySem.Expr} {it : Value} {body : List Stmt} {env : Env} (I : Nat → Nat → Shared → Shared → Prop)
    (turn : ∀ k n s₀ s, I k n s₀ s → (∀ k' n' s₀' s', k' < k → I k' n' s₀' s' → Seg M A R Y n' s₀' (.forLoop target it body [] env) (M.den (.forLoop target it body [] env)) fs s') →
      Seg M A R Y n s₀ (.forLoop target it body [] env) (M.den (.forLoop target it body [] env)) fs s) :
    ∀ k n s₀ s, I k n s₀ s → Seg M A R Y n s₀ (.forLoop target it body [] env) (M.den (.forLoop target it body [] env)) fs s := by
  intro k
  induction k using Nat.strongRecOn with
  | ind k ih => exact fun n s₀ s hI => turn k n s₀ s hI fun k' n' s₀' s' hk hI' => ih k' hk n' s₀' s' hI'

theorem pv_enum {h : Heap} {e it : Addr} {i : Int} {old : Value} {o : Obj} (he : IsEnum h e it i old) (ho : h.get? e = some o) : pv false o = true := by
  have := ho.symm.trans he
  cases this
  rfl
theorem pv_str {h : Heap} {it i : Nat} {x : Str} {t : Tok} {o : Obj} (he : h.IsStrIter it (strIterType x) x t i) (ho : h.get? it = some o) : pv false o = true := by
  obtain ⟨o', h1, h2, h3⟩ := he
  cases ho.symm.trans h1
  obtain ⟨c, d, dt, sl⟩ := o
  replace h2 : c = _ := h2
  replace h3 : dt = _ := h3
  subst h2 h3
  show (strIterType x == "enumerate" || strIterType x == "str_ascii_iterator" || strIterType x == "str_iterator") = true
  unfold strIterType
  by_cases q : (x.cps.all fun x => decide (x < 128)) = true
  · rw [if_pos q]; decide
  · rw [if_neg q]; decide
structure GenOk (w : World) (A : Around) (Y : Protocol) (R : GenEnd) (kd : Bool) (C : Addr) (B : Heap) (fin : Bool) (a : Addr) (gi n : Nat) (h : Heap) (gens : Array GenState) : Prop where
  gen : h.IsGen a gi
  old : ∀ b o, B.get? b = some o → b < C
  go : ∃ gs, gens[gi]? = some gs ∧ gs.bare = true ∧ ∀ s'' : Shared, (∀ b o, (b = C ∨ (C < b ∧ pv kd o = true)) → h.get? b = some o → s''.heap.get? b = some o) → (∀ b o, B.get? b = some o → s''.heap.get? b = some o) → (0 < n ∨ fin = true) → gs.Goes (model PW w) A.in1 R Y n (.send .none) s''
theorem GenOk.move {w : World} {A : Around} {Y : Protocol} {R : GenEnd} {kd fin : Bool} {C : Addr} {B : Heap} {a : Addr} {gi n : Nat} {h h' : Heap} {gens gens' : Array GenState} (G : GenOk w A Y R kd C B fin a gi n h gens)
    (k : ∀ b o, (b = C ∨ (C < b ∧ pv kd o = true)) → h.get? b = some o → h'.get? b = some o) (ka : ∀ o, h.get? a = some o → h'.get? a = some o) (kg : ∀ x, gens[gi]? = some x → gens'[gi]? = some x) : GenOk w A Y R kd C B fin a gi n h' gens' := by
  obtain ⟨gs, h1, h2, h3⟩ := G.go
  refine ⟨?_, G.old, gs, kg _ h1, h2, fun s'' q1 q2 => h3 s'' (fun b o hb e => q1 b o hb (k b o hb e)) q2⟩
  obtain ⟨o, nm, qn, ho, r⟩ := G.gen
  exact ⟨o, nm, qn, ka o ho, r⟩

set_option maxHeartbeats 4000000 in
theorem iter_call {p : Program} {w : World} {A : Around} {loose : List Str} {mean : ExcName → Option Value} {mg mb : Str → Option Value} {x : Str} {t : Tok} {s : Shared} {R : Result → Shared → Prop}
    {B : Heap} (X : (hd.heap_39 w.params).In B) (T : Top p loose mean mg mb B) (hB : ∀ b o, B.get? b = some o → s.heap.get? b = some o) (hd : A.depth + 10 < recursionLimit)
    (h : ∀ C a gs h' tk, s.heap.objs.size ≤ C → s.heap.objs.size ≤ a → a ≠ C → (∀ b o, s.heap.get? b = some o → h'.get? b = some o) → gs.bare = true →
      (∀ A, A.handled = none → A.depth + 10 < recursionLimit → A.units + 40 < cLine → GenOk w A (YE C B (escP x.cps.toList false)) (RR false C) false C B true a s.gens.size (escP x.cps.toList false).length h' (s.gens.push gs)) →
      R (.ok (.ret (.ref a))) { s with heap := h', gens := s.gens.push gs, toks := tk }) :
    codeAny (model PW w) A (.call (.ref 55) ⟨[.str x t], []⟩) R s := by
  have X₀ := X.keeps hB
  refine codeAny_call_generator (by lia) (X₀ 55 _ (by k_is)) rfl rfl rfl rfl (codeRec_of X₀ (by k_is)) (BindsTo.of_eq (binds := [(Str.ofString "addr", .str x t)]) rfl _ _ _ _ ?_)
  refine wpAny_newFunctionEnv (by decide) (locs rfl) (fun h₁ hn hs => ?_) rfl
  have keep₁ : ∀ b o, s.heap.get? b = some o → h₁.get? b = some o := fun b o e => hs.extBut b o (Nat.ne_of_lt (Heap.lt_size e)) (Heap.get?_push_of_some _ e)
  have hsz : h₁.objs.size = s.heap.objs.size + 1 := by rw [hs.1, Heap.size_push]
  refine ⟨(T.nolimit.keeps hB).keeps keep₁, h s.heap.objs.size _ _ _ _ (Nat.le_refl _) (by rw [hsz]; exact Nat.le_succ _) (by rw [hsz]; exact Nat.succ_ne_self _) (fun b o e => Heap.get?_push_of_some _ (keep₁ b o e)) rfl fun A hA hd hu => ⟨⟨_, _, _, Heap.get?_push_size _ rfl, rfl, rfl, rfl⟩, (fun b o e => Heap.lt_size (hB b o e)), _, Array.getElem?_push_size .., rfl, fun s'' hk hB'' _ => ⟨rfl, ?_⟩⟩⟩
  have hn'' : s''.heap.Ns s.heap.objs.size (fun y => [(Str.ofString "addr", Value.str x t)].reverse.lookup y) := (hn.push _).at' fun o e => hk _ o (.inl rfl) e
  have F : Fz B s.heap.objs.size s''.heap (fun y => [(Str.ofString "addr", Value.str x t)].reverse.lookup y) := ⟨hn'', hB'', by
    cases q : B.get? s.heap.objs.size with
    | none => rfl
    | some o => exact absurd (Heap.lt_size (hB _ _ q)) (Nat.lt_irrefl _)⟩
  clear hn'' hn hs hk hB'' keep₁ hsz h X₀ hB
  generalize s.heap.objs.size = C at F ⊢
  generalize B = g at F X T

  have N : News g C s''.heap [] := News.nil
  obtain ⟨g', gg, F, N, hall⟩ := rebase F N
  replace X := X.keeps gg
  replace T := T.keeps gg
  clear gg
  refine seg_func (seg_execs_cons (seg_plain ?_))
  walk_at "w go"
  refine seg_execs_cons (seg_plain ?_)
  walk_at "w go"
  refine seg_execs_cons (seg_For ?_)
  walk_at "w go"
  have F2 := F'
  refine call_enumerate_str fun h₂ he hi hz hk => ?_
  dsimp only at he hi hz hk ⊢
  refine wpAny_pyIter_enum he ?_
  intro ps
  have hCl := F2.lt
  obtain ⟨g₂, F3, hall3⟩ := Fz.self (F2.keeps hk).ns
  have hEI : h'.objs.size + 1 ≠ h'.objs.size := Nat.succ_ne_self _
  have hEC : h'.objs.size + 1 ≠ C := Nat.ne_of_gt (Nat.lt_succ_of_lt hCl)
  have hIC : h'.objs.size ≠ C := Nat.ne_of_gt hCl
  have hCE : C < h'.objs.size + 1 := Nat.lt_succ_of_lt hCl
  have hCI : C < h'.objs.size := hCl
  generalize h'.objs.size + 1 = E at he hEI hEC hCE ⊢
  generalize h'.objs.size = It at he hi hEI hIC hCI
  refine seg_loop (fun k n s₀ s' => ∃ g m h tk i esc p tp old, s' = { s₀ with heap := h, toks := tk } ∧ Kept false C s₀.heap h ∧ Fz g C h m ∧ (∀ b o, h.get? b = some o → b ≠ C → g.get? b = some o) ∧
    m "escape" = some (.bool esc) ∧ m "pos" = some (.int p tp) ∧ IsEnum h E It ((i : Nat) : Int) old ∧ h.IsStrIter It (strIterType x) x t i ∧ i + k = x.cps.size ∧
    ∃ done, escP x.cps.toList false = done ++ escP (x.cps.toList.drop i) esc ∧ n = (escP (x.cps.toList.drop i) esc).length) ?turn x.cps.size _ _ _ ?start
  case start =>
    exact ⟨g₂, _, h₂, _, 0, false, 0, _, _, rfl, fun b o hb _ e => hk b o (F2.keep b o (hall b o e hb fun p hp => nomatch hp)), F3, hall3, rfl, rfl, he, hi, Nat.zero_add _, [], rfl, rfl⟩
  case turn =>
    clear F3 hall3 hk hz hi he hall
    rintro k n s₀ s' ⟨g, m, h, tk, i, esc, p, tp, old, rfl, hK, F, hall, me, mp, he, hi, hik, done, hd1, hn⟩ again
    refine seg_forLoop ?_
    rcases Nat.lt_or_ge i x.cps.size with hlt | hge
    · refine wpAny_pyNext_enum_itemD (drawsStr (by exact hA) It x t) he hi hlt hEI (by simpa using hEI) fun v h₁ tk₁ hv ho₁ hs₁ hT hsz hk₁ => ?_
      obtain ⟨c, u, hc, rfl⟩ := hv
      dsimp only at hT hsz hk₁ ho₁ ⊢
      refine wpAny_letOwnedTupleGo_enum ho₁ fun h₂ he₂ hs₂ => ?_
      replace hs₂ : Heap.SameBut E h₁ h₂ := hs₂
      have hEl : E < h.objs.size := Heap.lt_size he
      have hT₂ : h₂.IsTuple h.objs.size #[.int i tk₁, .str ⟨#[c]⟩ u] := ⟨_, (hs₂.2 _ (Nat.ne_of_gt hEl)).trans hT, rfl, _, rfl⟩
      have hn₂ : h₂.Ns C m := (F.ns.at' fun o e => hk₁ C o (Ne.symm hEC) (Ne.symm hIC) e).sameBut hs₂ (Ne.symm hEC)
      have hi₂ : h₂.IsStrIter It (strIterType x) x t (i + 1) := hs₁.extBut hs₂.extBut (Ne.symm hEI)
      have kE : Kept false C h h₂ := fun b o hb hp e => by
        have hbE : b ≠ E := fun q => by subst q; rw [pv_enum he e] at hp; cases hp hCE
        have hbI : b ≠ It := fun q => by subst q; rw [pv_str hi e] at hp; cases hp hCI
        exact hs₂.extBut b o hbE (hk₁ b o hbE hbI e)
      obtain ⟨g₂, F₂, hall₂⟩ := Fz.self hn₂
      have hdr : x.cps.toList.drop i = c :: x.cps.toList.drop (i + 1) := by
        obtain ⟨h1, h2⟩ := Array.getElem?_eq_some_iff.mp hc
        rw [List.drop_eq_getElem_cons (by simpa using h1)]
        simp [h2]
      clear hk₁ hT ho₁ hs₁ hsz
      refine z_unpack2 F₂ News.nil hA hT₂ fun h₃ tk₃ F₃ N₃ k₃ => ?_
      have K₃ : Kept false C s₀.heap h₃ := (hK.trans kE).trans fun b o hb _ e => k₃ b o hb e
      have he₃ : IsEnum h₃ E It ((i + 1 : Nat) : Int) (.str ⟨#[c]⟩ u) := k₃ E _ hEC he₂
      have hi₃ : h₃.IsStrIter It (strIterType x) x t (i + 1) := by obtain ⟨o, ho, r⟩ := hi₂; exact ⟨o, k₃ It o hIC ho, r⟩
      obtain ⟨g₃, F₄, hall₃⟩ := Fz.self F₃.ns
      clear k₃ N₃ hall₂ F₂ F₃ kE hi₂ hn₂ hT₂ he₂ hs₂ g₂
      dsimp only
      have N₃ : News g₃ C h₃ [] := News.nil
      cases esc with
      | true =>
        refine seg_execs_cons (seg_If ?_)
        walk_at "w go"
        refine seg_execs_cons ?_
        rw [hdr] at hd1 hn
        simp only [escP_ct, escP_cf, escP_nt, escP_nf, List.length_cons] at hd1 hn
        subst hn
        refine seg_Expr_Yield rfl rfl rfl ?_
        walk_at "w go"
        rename_i kap hkap
        refine ⟨h', _, rfl, K₃.trans (Kept.of K'), ⟨_, _, _, _, _, at_back (hd1.trans (by rw [← esc_one])), rfl, ?_, ⟨_, (N' _ (.head _)).1, rfl, _, rfl⟩⟩, fun s'' hs'' _ _ => hkap .none s'' ?_⟩
        · intro o ho
          cases q : pv false o with
          | true => exact ⟨F₄.lt, rfl⟩
          | false => exact absurd (Heap.lt_size (K₃ _ o (Nat.ne_of_gt F₄.lt) (fun _ => q) ho)) (Nat.lt_irrefl _)
        · dsimp only
          have hn₄ := F'.ns.at' (fun o e => hs'' C o (.inl rfl) e)
          have he₄ : IsEnum s''.heap E It ((i + 1 : Nat) : Int) (.str ⟨#[c]⟩ u) := hs'' E _ (.inr ⟨hCE, pv_enum he₃ he₃⟩) (K' _ _ he₃)
          have hi₄ : s''.heap.IsStrIter It (strIterType x) x t (i + 1) := by obtain ⟨o, ho, r⟩ := id hi₃; exact ⟨o, hs'' It o (.inr ⟨hCI, pv_str hi₃ ho⟩) (K' _ _ ho), r⟩
          obtain ⟨g₄, F₅, hall₄⟩ := Fz.self hn₄
          clear hn₄ hkap hs'' N' K' F' kap
          have N₅ : News g₄ C s''.heap [] := News.nil
          refine seg_execs_cons (seg_plain ?_)
          walk_at "w go"
          refine seg_execs_nil' (seg_again rfl ?_)
          obtain ⟨g₅, F₆, hall₆⟩ := Fz.self F'.ns
          refine again (k - 1) _ _ _ (by lia) ⟨g₅, _, h', _, i + 1, false, _, _, _, rfl, fun b o hb _ e => F'.keep b o (hall₄ b o e hb), F₆, hall₆, rfl, rfl, F'.keep E _ (hall₄ E _ he₄ hEC), ?_, by lia, done ++ [⟨#[92, c]⟩], by rw [List.append_assoc]; exact hd1, rfl⟩
          obtain ⟨o, ho, r⟩ := hi₄
          exact ⟨o, F'.keep It o (hall₄ It o ho hIC), r⟩
      | false =>
        refine seg_execs_cons (seg_If ?_)
        walk_at "w go"
        refine seg_execs_cons (seg_If ?_)
        walk_at "w go"
        · rename_i hq
          have hc92 : c = 92 := one_eq.mp (beq_iff_eq.mp hq)
          rw [hdr] at hd1 hn
          simp only [escP_ct, escP_cf, escP_nt, escP_nf, if_pos hc92] at hd1 hn
          refine seg_execs_cons (seg_plain ?_)
          walk_at "w go"
          refine seg_execs_nil' (seg_execs_nil' (seg_execs_nil' (seg_again rfl ?_)))
          obtain ⟨g₅, F₆, hall₆⟩ := Fz.self F'.ns
          refine again (k - 1) _ _ _ (by lia) ⟨g₅, _, h', _, i + 1, true, _, _, _, rfl, K₃.trans fun b o hb _ e => F'.keep b o (hall₃ b o e hb), F₆, hall₆, rfl, rfl, F'.keep E _ (hall₃ E _ he₃ hEC), ?_, by lia, done, hd1, hn⟩
          obtain ⟨o, ho, r⟩ := hi₃
          exact ⟨o, F'.keep It o (hall₃ It o ho hIC), r⟩
        · rename_i hq
          have hc92 : ¬ c = 92 := fun q => beq_eq_false_iff_ne.mp hq (one_eq.mpr q)
          rw [hdr] at hd1 hn
          simp only [escP_ct, escP_cf, escP_nt, escP_nf, if_neg hc92, List.length_cons] at hd1 hn
          subst hn
          refine seg_execs_cons ?_
          refine seg_Expr_Yield rfl rfl rfl ?_
          walk_at "w go"
          rename_i kap hkap
          refine ⟨h', _, rfl, K₃.trans (Kept.of K'), ⟨_, _, _, _, _, at_back hd1, rfl, ?_, ⟨_, (N' _ (.head _)).1, rfl, _, rfl⟩⟩, fun s'' hs'' _ _ => hkap .none s'' ?_⟩
          · intro o ho
            cases q : pv false o with
            | true => exact ⟨F₄.lt, rfl⟩
            | false => exact absurd (Heap.lt_size (K₃ _ o (Nat.ne_of_gt F₄.lt) (fun _ => q) ho)) (Nat.lt_irrefl _)
          · dsimp only
            have hn₄ := F'.ns.at' (fun o e => hs'' C o (.inl rfl) e)
            have he₄ : IsEnum s''.heap E It ((i + 1 : Nat) : Int) (.str ⟨#[c]⟩ u) := hs'' E _ (.inr ⟨hCE, pv_enum he₃ he₃⟩) (K' _ _ he₃)
            have hi₄ : s''.heap.IsStrIter It (strIterType x) x t (i + 1) := by obtain ⟨o, ho, r⟩ := id hi₃; exact ⟨o, hs'' It o (.inr ⟨hCI, pv_str hi₃ ho⟩) (K' _ _ ho), r⟩
            obtain ⟨g₄, F₅, hall₄⟩ := Fz.self hn₄
            clear hn₄ hkap hs'' N' K' F' kap
            refine seg_execs_nil' (seg_execs_nil' (seg_execs_nil' (seg_again rfl ?_)))
            exact again (k - 1) _ _ _ (by lia) ⟨g₄, _, s''.heap, _, i + 1, false, _, _, _, rfl, Kept.refl _ _, F₅, hall₄, me, rfl, he₄, hi₄, by lia, done ++ [⟨#[c]⟩], by rw [List.append_assoc]; exact hd1, rfl⟩
    · refine wpAny_pyNext_enum_endD (drawsStr (by exact hA) It x t) he (by rw [show x.cps.size = i by lia]; exact hi) fun h₁ hx₁ => ?_
      replace hx₁ : Heap.ExtBut It h h₁ := hx₁
      have hdr : x.cps.toList.drop i = [] := by simp; lia
      have K₃ : Kept false C s₀.heap h₁ := hK.trans fun b o hb hp e => hx₁ b o (fun q => by subst q; rw [pv_str hi e] at hp; cases hp hCI) e
      obtain ⟨g₃, F₄, hall₃⟩ := Fz.self (F.ns.extBut hx₁ (Ne.symm hIC))
      have N₃ : News g₃ C h₁ [] := News.nil
      rw [hdr] at hd1 hn
      dsimp only
      refine seg_done ?_
      cases esc with
      | true =>
        simp only [escP_ct, escP_cf, escP_nt, escP_nf, List.length_cons, List.length_nil] at hd1 hn
        subst hn
        refine seg_execs_cons (seg_If ?_)
        walk_at "w go"
        refine seg_execs_cons ?_
        refine seg_Expr_Yield rfl rfl rfl ?_
        walk_at "w go"
        rename_i kap hkap
        refine ⟨h', _, rfl, K₃.trans (Kept.of K'), ⟨_, _, _, _, _, at_back (rest := []) hd1, rfl, ?_, ⟨_, (N' _ (.head _)).1, rfl, _, rfl⟩⟩, fun s'' hs'' _ _ => hkap .none s'' ?_⟩
        · intro o ho
          cases q : pv false o with
          | true => exact ⟨F₄.lt, rfl⟩
          | false => exact absurd (Heap.lt_size (K₃ _ o (Nat.ne_of_gt F₄.lt) (fun _ => q) ho)) (Nat.lt_irrefl _)
        · dsimp only
          refine seg_execs_nil' (seg_execs_nil' ?_)
          exact seg_end (.ok (.ret .none)) ⟨rfl, rfl, _, _, rfl, Kept.refl _ _⟩
      | false =>
        simp only [escP_ct, escP_cf, escP_nt, escP_nf, List.length_nil] at hd1 hn
        subst hn
        refine seg_execs_cons (seg_If ?_)
        walk_at "w go"
        refine seg_execs_nil' (seg_execs_nil' ?_)
        exact seg_end (.ok (.ret .none)) ⟨rfl, rfl, _, _, rfl, K₃⟩
end PartG2
section PartG3
theorem gens_other {s : Shared} {gi : Nat} {x : GenState} (i : Nat) (y : GenState) (hi : i ≠ gi) (e : s.gens[i]? = some y) : (s.setGen gi x).gens[i]? = some y := by
  show (s.gens.setIfInBounds gi x)[i]? = some y
  rw [Array.getElem?_setIfInBounds, if_neg (Ne.symm hi)]; exact e
theorem gens_self {s : Shared} {gi : Nat} {x y : GenState} (e : s.gens[gi]? = some y) : (s.setGen gi x).gens[gi]? = some x := by
  obtain ⟨h, _⟩ := Array.getElem?_eq_some_iff.mp e
  show (s.gens.setIfInBounds gi x)[gi]? = some x
  rw [Array.getElem?_setIfInBounds, if_pos rfl, if_pos h]
theorem gens_bare {s : Shared} {gi : Nat} {x : GenState} (h : AllBare s.gens) (hx : x.bare = true) : AllBare (s.setGen gi x).gens := fun y hy => by
  rcases Array.mem_or_eq_of_mem_setIfInBounds hy with h' | rfl
  · exact h y h'
  · exact hx

/-- behind a step of a generator: the other generators, the outside -/
structure Stepd (gi : Nat) (s s' : Shared) : Prop where
  gens : ∀ (i : Nat) (x : GenState), i ≠ gi → s.gens[i]? = some x → s'.gens[i]? = some x
  bare : AllBare s.gens → AllBare s'.gens
  os : s'.os = s.os

theorem gen_pv {h : Heap} {a gi : Nat} {kd : Bool} {o : Obj} (G : h.IsGen a gi) (e : h.get? a = some o) : pv kd o = false := by
  obtain ⟨o', nm, qn, ho, hc, r⟩ := G
  cases ho.symm.trans e
  unfold pv
  rw [hc]
  cases o.data <;> first | rfl | (cases kd <;> rfl)
theorem iter_next {w : World} {A : Around} {E : Value → Shared → Prop} {s : Shared} {It : Nat → Value → Heap → Heap → Prop} {kd fin : Bool} {B : Heap} {C a : Addr} {gi n : Nat} {Q : Option Value → Shared → Prop}
    (hh : A.handled = none) (hroom : A.depth < recursionLimit) (nolim : s.heap.NoLimit) (hB : ∀ b o, B.get? b = some o → s.heap.get? b = some o) (haC : a ≠ C) (hfin : 0 < n ∨ fin = true)
    (G : GenOk w A (YP kd C B fin It) (RR kd C) kd C B fin a gi n s.heap s.gens)
    (item : ∀ k v s', n = k + 1 → It k v s.heap s'.heap → Kept kd C s.heap s'.heap → GenOk w A (YP kd C B fin It) (RR kd C) kd C B fin a gi k s'.heap s'.gens → Stepd gi s s' → Q (some v) s')
    (done : n = 0 → ∀ s', Kept kd C s.heap s'.heap → Stepd gi s s' → Q none s') :
    wpAny (model PW w) A (pyNext (.ref a)) Q E s := by
  obtain ⟨gs, hgs, hb, hgo⟩ := G.go
  have hgen : s.heap.IsGen a gi := G.gen
  have hgo' := hgo (s.setGen gi .running) (fun _ _ _ e => e) hB hfin
  unfold pyNext
  refine wpAny_bind (wpAny_attempt (wpAny_callSpecial?_slot (name := Str.ofString "__next__") hgen.typeIs slot_gen_next
    (wpAny_call_entry slot_gen_next hgen.typeIs entry_gen_next ?_ (args_gen_next _))))
  show wpAny _ A.in1 (Builtin.Generator.genWake (.ref a) (.send .none)) _ _ s
  unfold Builtin.Generator.genWake
  refine wpAny_bind (wpAny_holding (wpAny_genNumber hgen (wpAny_bind (wpAny_genState hgs ?_))))
  have ends : ∀ x s₁, RR kd C n (s.setGen gi .running) x s₁ → ∀ h', (∀ b o, s₁.heap.get? b = some o → h'.get? b = some o) → Q none { s₁.setGen gi .finished with heap := h' } := by
    rintro x s₁ ⟨rfl, hn, h, tk, rfl, hK⟩ h' hk
    exact done hn _ (Kept.trans (h' := h) hK (Kept.of hk)) ⟨fun i y hi e => gens_other i y hi (gens_other i y hi e), fun hB => gens_bare (gens_bare hB rfl) rfl, rfl⟩
  have goes : ∀ v s₁ gs', gs'.bare = true → YP kd C B fin It (n - 1) (s.setGen gi .running) v s₁ (fun r' s'' => match n with
        | 0 => False
        | k + 1 => gs'.Goes (model PW w) A.in1 (RR kd C) (YP kd C B fin It) k r' s'') → Q (some v) (s₁.setGen gi gs') := by
    rintro v s₁ gs' hb' ⟨h, tk, rfl, hK, hI, hkap⟩
    cases n with
    | zero => exact (hkap { s.setGen gi .running with heap := h, toks := tk } (fun _ _ _ e => e) (fun b o e => hK.old (G.old b o e) (hB b o e)) (.inr (hfin.elim (fun q => absurd q (Nat.lt_irrefl _)) id)) : False).elim
    | succ k =>
      refine item k v _ rfl hI hK ⟨?_, G.old, gs', gens_self (x := gs') (y := .running) (gens_self (s := s) (x := .running) hgs), hb', fun s'' hk hk2 hk3 => hkap s'' hk hk2 hk3⟩
        ⟨fun i y hi e => gens_other i y hi (gens_other i y hi e), fun hB => gens_bare (gens_bare hB rfl) hb', rfl⟩
      obtain ⟨o, nm, qn, ho, r⟩ := id hgen
      exact ⟨o, nm, qn, hK a o haC (fun _ => gen_pv hgen ho) ho, r⟩
  cases gs with
  | running => exact hgo'.elim
  | finished => exact hgo'.elim
  | _ =>
    refine wpAny_bind (wpAny_roomToWake nolim hroom ?_)
    show wpAny _ A.in1 (.resume gi (.send .none) [] _) _ _ s
    refine wpAny_resumeQ hgs hgo' (fun x s₁ hx => ?_) (fun v s₁ gs' hb' hv => ?_)
    · have hx' := ends x s₁ hx
      obtain ⟨rfl, _⟩ := hx
      show wpAny _ A.in1 (newExc (.type "StopIteration") [] >>= _) _ _ _
      refine wpAny_bind ?_
      simp only [newExc, PySem.newTuple]
      refine wpAny_bind (wpAny_newObj_type ?_ (by size_fits))
      refine wpAny_bind (m := firstArgMember _ _) (wpAny_of_eq (a := Value.none) (by first | rfl | (simp only [firstArgMember]; rfl)) ?_)
      refine wpAny_newObj_type ?_ (by size_fits)
      simp only [raiseNew]
      refine wpAny_bind (wpAny_bind (wpAny_handled ?_))
      rw [show A.in1.handled = none from hh]
      refine wpAny_throw ?_
      refine wpAny_bind (wpAny_isInstance (T := "StopIteration") (b := true) ⟨_, Heap.get?_push_size _ rfl, rfl⟩ isSubtype_stop ?_)
      exact wpAny_pure (hx' _ fun b o hb => Heap.get?_push_of_some _ (Heap.get?_push_of_some _ hb))
    · exact wpAny_pure ⟨v, rfl, wpAny_pure (goes v s₁ gs' hb' hv)⟩
end PartG3
end GroupG
section PartF2

noncomputable def Own (L : Addr) (cl : List (Str × Addr)) (la : Option Addr) (a : Addr) : Prop := a = L ∨ (∃ x ∈ cl, x.2 = a) ∨ la = some a
noncomputable def ownL (L : Addr) (cl : List (Str × Addr)) (la : Option Addr) : List Addr := L :: (cl.map (·.2) ++ la.toList)
theorem ownL_iff {L : Addr} {cl : List (Str × Addr)} {la : Option Addr} {a : Addr} : a ∈ ownL L cl la ↔ Own L cl la a := by
  unfold ownL Own
  simp only [List.mem_cons, List.mem_append, List.mem_map, Option.mem_toList]

/-- a frame: its dict, its cells, one list of its own, over a base -/
structure Fo (g : Heap) (L : Addr) (cl : List (Str × Addr)) (la : Option Addr) (h : Heap) (m : Str → Option Value) (us : Array Value) : Prop where
  ns : ∃ ml, h.Ns L ml ∧ ∀ x, cl.lookup x = none → ml x = m x
  cell : ∀ x ∈ cl, h.IsCell x.2 (m x.1)
  uniq : ∀ x ∈ cl, cl.lookup x.1 = some x.2
  apart : cl.Pairwise fun x y => x.2 ≠ y.2
  cL : ∀ x ∈ cl, x.2 ≠ L
  lst : ∀ a, la = some a → h.PlainList a us ∧ a ≠ L ∧ ∀ x ∈ cl, x.2 ≠ a
  keep : ∀ b o, g.get? b = some o → h.get? b = some o
  out : ∀ a, Own L cl la a → g.get? a = none

section
variable {g g' h h' : Heap} {L : Addr} {cl : List (Str × Addr)} {la : Option Addr} {m : Str → Option Value} {us us' : Array Value}
theorem Fo.moves (F : Fo g L cl la h m us) (ko : ∀ b o, Own L cl la b → h.get? b = some o → h'.get? b = some o) (kg : ∀ b o, g'.get? b = some o → h'.get? b = some o) (ho : ∀ a, Own L cl la a → g'.get? a = none) : Fo g' L cl la h' m us where
  ns := by
    obtain ⟨ml, h1, h2⟩ := F.ns
    exact ⟨ml, h1.at' fun o e => ko L o (.inl rfl) e, h2⟩
  cell := fun x e => by
    obtain ⟨o, h1, h2⟩ := F.cell x e
    exact ⟨o, ko _ o (.inr (.inl ⟨x, e, rfl⟩)) h1, h2⟩
  uniq := F.uniq
  apart := F.apart
  cL := F.cL
  lst := fun a e => by
    obtain ⟨h1, h3⟩ := F.lst a e
    exact ⟨h1.at fun o q => ko a o (.inr (.inr e)) q, h3⟩
  keep := kg
  out := ho
theorem Fo.keeps (F : Fo g L cl la h m us) (k : ∀ b o, h.get? b = some o → h'.get? b = some o) : Fo g L cl la h' m us :=
  F.moves (fun b o _ e => k b o e) (fun b o e => k b o (F.keep b o e)) F.out
theorem Fo.own_ne (F : Fo g L cl la h m us) {b : Addr} {o : Obj} (e : g.get? b = some o) : ¬ Own L cl la b := fun q => by rw [F.out b q] at e; cases e
theorem Fo.based (F : Fo g L cl la h m us) (k : ∀ b o, g'.get? b = some o → h.get? b = some o) (ho : ∀ a, Own L cl la a → g'.get? a = none) : Fo g' L cl la h m us :=
  F.moves (fun _ _ _ e => e) k ho
theorem Fo.lt (F : Fo g L cl la h m us) {a : Addr} (q : Own L cl la a) : a < h.objs.size := by
  rcases q with rfl | ⟨x, hx, rfl⟩ | q
  · obtain ⟨ml, h1, _⟩ := F.ns; exact h1.lt
  · exact (F.cell x hx).lt
  · obtain ⟨⟨n, h2⟩, _⟩ := F.lst a q
    exact Heap.lt_size h2
theorem Fo.new_ne (F : Fo g L cl la h m us) {a : Addr} (ha : h.objs.size ≤ a) : ¬ Own L cl la a := fun q => Nat.lt_irrefl _ (Nat.lt_of_lt_of_le (F.lt q) ha)
theorem Fo.push (F : Fo g L cl la h m us) (o : Obj) : Fo g L cl la (h.push o) m us := F.keeps fun _ _ e => Heap.get?_push_of_some _ e
/-- the base anew: all that stands, but what is the frame's own -/
theorem Fo.all (F : Fo g L cl la h m us) : ∃ g', (∀ b o, g.get? b = some o → g'.get? b = some o) ∧ Fo g' L cl la h m us ∧ (∀ b o, h.get? b = some o → ¬ Own L cl la b → g'.get? b = some o) :=
  ⟨hideAll h (ownL L cl la), fun b o e => hideAll_get _ (F.keep b o e) fun q => F.own_ne e (ownL_iff.mp q), F.based (fun b o e => of_hideAll _ e) fun a q => hideAll_none _ (ownL_iff.mpr q),
    fun b o e n => hideAll_get _ e fun q => n (ownL_iff.mp q)⟩
/-- behind a step that keeps all -/
theorem Fo.after (F : Fo g L cl la h m us) (k : ∀ b o, h.get? b = some o → h'.get? b = some o) : ∃ g', (∀ b o, g.get? b = some o → g'.get? b = some o) ∧ Fo g' L cl la h' m us ∧ (∀ b o, h'.get? b = some o → ¬ Own L cl la b → g'.get? b = some o) := (F.keeps k).all
/-- a step that keeps all but some things that are not the frame's own -/
theorem Fo.stepped {wr : Addr → Obj → Prop} (F : Fo g L cl la h m us) (hw : ∀ b o, Own L cl la b → h.get? b = some o → ¬ wr b o) (k : ∀ b o, ¬ wr b o → h.get? b = some o → h'.get? b = some o) :
    ∃ g', (∀ b o, ¬ wr b o → g.get? b = some o → g'.get? b = some o) ∧ Fo g' L cl la h' m us ∧ (∀ b o, h'.get? b = some o → ¬ Own L cl la b → g'.get? b = some o) := by
  have key : ∀ b o, h'.get? b = some o → ¬ Own L cl la b → (hideAll h' (ownL L cl la)).get? b = some o := fun b o e n => hideAll_get _ e fun q => n (ownL_iff.mp q)
  refine ⟨hideAll h' (ownL L cl la), fun b o hb e => key b o (k b o hb (F.keep b o e)) (F.own_ne e), ?_, key⟩
  exact F.moves (fun b o q e => k b o (hw b o q e) e) (fun b o e => of_hideAll _ e) fun a q => hideAll_none _ (ownL_iff.mpr q)
/-- a list of its own gets other things -/
theorem Fo.wrote {a : Addr} (F : Fo g L cl (some a) h m us) (hl : h'.PlainList a us') (k : ∀ b o, b ≠ a → h.get? b = some o → h'.get? b = some o) : Fo g L cl (some a) h' m us' where
  ns := by
    obtain ⟨ml, h1, h2⟩ := F.ns
    exact ⟨ml, h1.at' fun o e => k L o (Ne.symm (F.lst a rfl).2.1) e, h2⟩
  cell := fun x e => by
    obtain ⟨o, h1, h2⟩ := F.cell x e
    exact ⟨o, k _ o ((F.lst a rfl).2.2 x e) h1, h2⟩
  uniq := F.uniq
  apart := F.apart
  cL := F.cL
  lst := fun b e => by cases e; exact ⟨hl, (F.lst a rfl).2⟩
  keep := fun b o e => k b o (fun q => F.own_ne e (.inr (.inr (by rw [q])))) (F.keep b o e)
  out := F.out
/-- the list goes to the others -/
theorem Fo.give {a : Addr} (F : Fo g L cl (some a) h m us) : ∃ g', (∀ b o, g.get? b = some o → g'.get? b = some o) ∧ Fo g' L cl none h m us ∧ g'.PlainList a us := by
  have F' : Fo g L cl none h m us := ⟨F.ns, F.cell, F.uniq, F.apart, F.cL, (fun _ e => nomatch e), F.keep, fun b q => F.out b (q.elim .inl fun q => q.elim (fun q => .inr (.inl q)) fun q => nomatch q)⟩
  obtain ⟨g', h1, h2, h3⟩ := F'.all
  obtain ⟨hp, hL, hc⟩ := F.lst a rfl
  exact ⟨g', h1, h2, hp.at fun o ho => h3 a o ho fun q => q.elim hL fun q => q.elim (fun ⟨x, hx, q⟩ => hc x hx q) fun q => (nomatch q)⟩
/-- a list of the base becomes the frame's own -/
theorem Fo.take {a : Addr} (F : Fo g L cl none h m us) (hg : g.get? a = none) (hl : h.PlainList a us') (hn : ¬ Own L cl none a) : Fo g L cl (some a) h m us' :=
  ⟨F.ns, F.cell, F.uniq, F.apart, F.cL, fun b e => by cases e; exact ⟨hl, fun q => hn (.inl q), fun x hx q => hn (.inr (.inl ⟨x, hx, q⟩))⟩, F.keep, fun b q => by
    rcases q with q | q | q
    · exact F.out b (.inl q)
    · exact F.out b (.inr (.inl q))
    · cases q; exact hg⟩
theorem Fo.of (F : Fr g L h m) : Fo g L [] none h m #[] :=
  ⟨⟨m, F.ns, fun _ _ => rfl⟩, (fun _ h => nomatch h), (fun _ h => nomatch h), .nil, (fun _ h => nomatch h), (fun _ h => nomatch h), F.keep, fun a q => by
    rcases q with rfl | ⟨_, q, _⟩ | q
    · exact (Fz.of F).out
    · cases q
    · cases q⟩
end

section
variable {M : Model} {A : Around} {E : Value → Shared → Prop} {s : Shared} {g : Heap} {L : Addr} {cl : List (Str × Addr)} {la : Option Addr} {m : Str → Option Value} {us : Array Value} {env : Env}
theorem o_ldn {x : Str} {v : Value} {Q : Value → Shared → Prop} (F : Fo g L cl la s.heap m us) (hv : m x = some v) (h : Q v s)
    (hL : env.locals = L := by rfl) (hk : env.scope.kind = .function := by rfl) (hl : env.kindOf x = some .local := by rfl) (hc : cl.lookup x = none := by rfl) :
    wpAny M A (loadName env x) Q E s := by
  obtain ⟨ml, h1, h2⟩ := F.ns
  exact wpAny_loadName_local hk hl (hL ▸ h1) ((h2 x hc).trans hv) h
theorem o_ld {x : Str} {pos : Pos} {v : Value} {Q : Value → Shared → Prop} (F : Fo g L cl la s.heap m us) (hv : m x = some v) (h : Q v s)
    (hL : env.locals = L := by rfl) (hk : env.scope.kind = .function := by rfl) (hl : env.kindOf x = some .local := by rfl) (hc : cl.lookup x = none := by rfl) (hd : (x == ("__debug__" : Str)) = false := by decide) :
    wpAny M A (eval (.Name x pos) env) Q E s := wpAny_Name (o_ldn F hv h hL hk hl hc) hd
theorem o_ldcn {x : Str} {c : Addr} {v : Value} {Q : Value → Shared → Prop} (F : Fo g L cl la s.heap m us) (hv : m x = some v) (h : Q v s)
    (hcl : env.cells = cl := by rfl) (hk : env.scope.kind = .function := by rfl) (hl : env.kindOf x = some .cell := by rfl) (hc : cl.lookup x = some c := by rfl) :
    wpAny M A (loadName env x) Q E s := wpAny_loadName_cell hk hl (hcl ▸ hc) (hv ▸ F.cell _ (mem_of_lookup hc)) h
theorem o_ldc {x : Str} {pos : Pos} {c : Addr} {v : Value} {Q : Value → Shared → Prop} (F : Fo g L cl la s.heap m us) (hv : m x = some v) (h : Q v s)
    (hcl : env.cells = cl := by rfl) (hk : env.scope.kind = .function := by rfl) (hl : env.kindOf x = some .cell := by rfl) (hc : cl.lookup x = some c := by rfl) (hd : (x == ("__debug__" : Str)) = false := by decide) :
    wpAny M A (eval (.Name x pos) env) Q E s := wpAny_Name (o_ldcn F hv h hcl hk hl hc) hd
/-- a name of the frame around, through its cell -/
theorem o_cap {x : Str} {pos : Pos} {c : Addr} {v : Value} {Q : Value → Shared → Prop} (F : Fo g L cl la s.heap m us) (hv : g.IsCell c (some v)) (h : Q v s)
    (hc : env.cells.lookup x = some c := by rfl) (hk : env.scope.kind = .function := by rfl) (hl : env.kindOf x = some .cell := by rfl) (hd : (x == ("__debug__" : Str)) = false := by decide) :
    wpAny M A (eval (.Name x pos) env) Q E s := wpAny_Name (wpAny_loadName_cell hk hl hc (hv.keeps F.keep) h) hd
theorem o_st {x : Str} {v : Value} {Q : Unit → Shared → Prop} (F : Fo g L cl la s.heap m us)
    (h : ∀ h', Fo g L cl la h' (fun y => if y = x then some v else m y) us → Q () { s with heap := h', toks := s.toks + 1 })
    (hL : env.locals = L := by rfl) (hk : env.scope.kind = .function := by rfl) (hl : env.kindOf x = some .local := by rfl) (hc : cl.lookup x = none := by rfl) :
    wpAny M A (storeName env x v) Q E s := by
  subst hL
  obtain ⟨ml, h1, h2⟩ := F.ns
  refine wpAny_storeName_local hl h1 (fun h' hn hs => h h' ⟨⟨_, hn, fun y hy => ?_⟩, fun y hy => ?_, F.uniq, F.apart, F.cL, fun a e => ?_, fun b o e => (hs.2 b fun q => F.own_ne e (.inl q)).trans (F.keep b o e), F.out⟩) (by rw [hk]; rfl)
  · try dsimp only
    rw [h2 y hy]
  · have hyx : y.1 ≠ x := fun q => by rw [← q, F.uniq y hy] at hc; cases hc
    try dsimp only
    rw [if_neg hyx]
    exact (F.cell y hy).sameBut hs (F.cL y hy)
  · obtain ⟨h3, h4⟩ := F.lst a e
    exact ⟨h3.extBut hs.extBut h4.1, h4⟩
theorem o_stc {x : Str} {c : Addr} {v : Value} {Q : Unit → Shared → Prop} (F : Fo g L cl la s.heap m us)
    (h : ∀ h', Fo g L cl la h' (fun y => if y = x then some v else m y) us → Q () { s with heap := h' })
    (hcl : env.cells = cl := by rfl) (hk : env.scope.kind = .function := by rfl) (hl : env.kindOf x = some .cell := by rfl) (hc : cl.lookup x = some c := by rfl) :
    wpAny M A (storeName env x v) Q E s := by
  have hm := mem_of_lookup hc
  refine wpAny_storeName_cell hk hl (hcl ▸ hc) (F.cell _ hm) (fun h' hn hs => h h' ⟨?_, fun y hy => ?_, F.uniq, F.apart, F.cL, fun a e => ?_, fun b o e => (hs.2 b fun q => F.own_ne e (.inr (.inl ⟨_, hm, q.symm⟩))).trans (F.keep b o e), F.out⟩)
  · obtain ⟨ml, h1, h2⟩ := F.ns
    refine ⟨ml, h1.sameBut hs (Ne.symm (F.cL _ hm)), fun y hy => ?_⟩
    try dsimp only
    rw [if_neg fun q => by rw [q, hc] at hy; cases hy]
    exact h2 y hy
  · try dsimp only
    by_cases hyx : y.1 = x
    · rw [if_pos hyx]
      have := F.uniq y hy
      rw [hyx, hc] at this
      cases this
      exact hn
    · rw [if_neg hyx]
      exact (F.cell y hy).sameBut hs fun q => hyx (name_of_addr F.apart (c := c) (show (y.1, c) ∈ cl from by rw [← (show y.2 = c from q)]; exact hy) hm)
  · obtain ⟨h3, h4⟩ := F.lst a e
    exact ⟨h3.extBut hs.extBut (Ne.symm (h4.2 _ hm)), h4⟩
theorem o_nameK {K : Frag} {mg mb : Str → Option Value} {p : Program} {loose : List Str} {x : Str} {pos : Pos} {v : Value} {Q : Value → Shared → Prop} (F : Fo g L cl la s.heap m us) (X : K.In g) (T : TopRead p loose mg mb g)
    (e : nsIn K mainGlobals x = some (some v)) (h : Q v s) (hg : env.globals = mainGlobals := by rfl) (hk : env.scope.kind = .function := by rfl) (hx : env.kindOf x = some .globalImplicit := by rfl) (hd : (x == ("__debug__" : Str)) = false := by decide) :
    wpAny M A (eval (.Name x pos) env) Q E s :=
  Name_function_global hk hx (loadGlobal_global (env := env) (by rw [hg]; exact T.g.keeps F.keep) (mg_of X T.g e) h) hd
theorem o_nameB {K : Frag} {mg mb : Str → Option Value} {p : Program} {loose : List Str} {x : Str} {pos : Pos} {v : Value} {Q : Value → Shared → Prop} (F : Fo g L cl la s.heap m us) (X : K.In g) (T : TopRead p loose mg mb g)
    (e : nsIn K mainGlobals x = some none) (hv : bootBuiltins x = some v) (h : Q v s) (hn : x ≠ "__name__" := by decide) (hg : env.globals = mainGlobals := by rfl) (hb : env.builtins = builtinsNs := by rfl) (hk : env.scope.kind = .function := by rfl) (hx : env.kindOf x = some .globalImplicit := by rfl) (hd : (x == ("__debug__" : Str)) = false := by decide) :
    wpAny M A (eval (.Name x pos) env) Q E s :=
  Name_function_global hk hx (loadGlobal_builtin (env := env) (by rw [hg]; exact T.g.keeps F.keep) (mg_none_of X T.g e) (by rw [hb]; exact T.b.keeps F.keep) ((T.builtins x hn).trans hv) h) hd
end

section
variable {prog : Program} {w : World} {A : Around} {E : Value → Shared → Prop} {s : Shared} {g : Heap} {L : Addr} {cl : List (Str × Addr)} {la : Option Addr} {m : Str → Option Value} {us : Array Value} {env : Env}
theorem o_newTuple {vs : List Value} {Q : Value → Shared → Prop} (F : Fo g L cl la s.heap m us)
    (h : ∀ h' g', Fo g' L cl la h' m us → (∀ b o, g.get? b = some o → g'.get? b = some o) → g'.IsTuple s.heap.objs.size vs.toArray → (∀ b o, s.heap.get? b = some o → h'.get? b = some o) → Q (.ref s.heap.objs.size) { s with heap := h' })
    (hz : vs.length ≤ sizeLine := by size_fits) : wpAny (model prog w) A (newTuple vs) Q E s := by
  obtain ⟨g', h1, h2, h3⟩ := (F.push (tupOf vs.toArray)).all
  exact wpAny_newTuple (h _ g' h2 h1 ⟨_, h3 _ _ (Heap.get?_push_size _ rfl) (F.new_ne (Nat.le_refl _)), rfl, _, rfl⟩ fun _ _ e => Heap.get?_push_of_some _ e) hz
theorem o_newList {vs : List Value} {Q : Value → Shared → Prop} (F : Fo g L cl la s.heap m us)
    (h : ∀ h' g', Fo g' L cl la h' m us → (∀ b o, g.get? b = some o → g'.get? b = some o) → g'.PlainList s.heap.objs.size vs.toArray → (∀ b o, s.heap.get? b = some o → h'.get? b = some o) → Q (.ref s.heap.objs.size) { s with heap := h' })
    (hz : vs.length ≤ sizeLine := by size_fits) : wpAny (model prog w) A (newList vs) Q E s := by
  obtain ⟨g', h1, h2, h3⟩ := (F.push (listOf vs.toArray 0)).all
  exact wpAny_newList (h _ g' h2 h1 ⟨_, h3 _ _ (Heap.get?_push_size _ rfl) (F.new_ne (Nat.le_refl _))⟩ fun _ _ e => Heap.get?_push_of_some _ e) hz
/-- a new list that is to be the frame's own -/
theorem o_newOwn {vs : List Value} {Q : Value → Shared → Prop} (F : Fo g L cl none s.heap m us)
    (h : ∀ h', Fo g L cl (some s.heap.objs.size) h' m vs.toArray → (∀ b o, s.heap.get? b = some o → h'.get? b = some o) → Q (.ref s.heap.objs.size) { s with heap := h' })
    (hz : vs.length ≤ sizeLine := by size_fits) : wpAny (model prog w) A (newList vs) Q E s := by
  refine wpAny_newList (h _ ((F.push _).take ?_ ⟨_, Heap.get?_push_size _ rfl⟩ (F.new_ne (Nat.le_refl _))) fun _ _ e => Heap.get?_push_of_some _ e) hz
  cases q : g.get? s.heap.objs.size with
  | none => rfl
  | some o' => exact absurd (Heap.lt_size (F.keep _ _ q)) (Nat.lt_irrefl _)

theorem enterC {K : Frag} {R : Result → Shared → Prop} {name qual : Str} {params : Arguments} {body : List Stmt} {scope : Scope} {dV kV doc pm cdv ct oc : Value} {an od : Option Addr} {osl : Array (Option Value)} {f : Addr} {vals : List Value} {binds : List (Str × Value)}
    (X : K.In s.heap) (T : s.heap.NoLimit)
    (ho : K.lookup f = some ⟨oc, od, .func (fnOf name qual params body scope dV kV doc pm an cdv ct), osl⟩) (hcd : codeIn K cdv qual = true) (hroom : A.depth < recursionLimit)
    (hbind : bindArgs (fnOf name qual params body scope dV kV doc pm an cdv ct) ⟨vals, []⟩ = pure binds)
    (hloc : (binds.all fun y => scope.names.lookup y.1 == some .local || scope.names.lookup y.1 == some .cell) = true)
    (huniq : ∀ n, ∀ x ∈ cellsFrom n scope.names [], (cellsFrom n scope.names []).lookup x.1 = some x.2)
    (h : ∀ h₁ tk, Fo s.heap s.heap.objs.size (cellsFrom (s.heap.objs.size + 1) scope.names []) none h₁ (fun y => if ((cellsFrom (s.heap.objs.size + 1) scope.names []).lookup y).isSome then bindC (fun y => scope.names.lookup y) binds (fun _ => none) y else bindL (fun y => scope.names.lookup y) binds (fun _ => none) y) #[] →
      wpAny (model prog w) (A.deeper (callEnvC (fnOf name qual params body scope dV kV doc pm an cdv ct) s.heap.objs.size f)) (execs body (callEnvC (fnOf name qual params body scope dV kV doc pm an cdv ct) s.heap.objs.size f))
        (fun fl s' => R (.ok (.ret (match fl with | .ret v => v | _ => .none))) s') (fun _ _ => False)
        { s with heap := h₁, toks := tk })
    (hco : scope.isCoroutine = false := by rfl) (hgen : scope.isGenerator = false := by rfl) (hk : scope.kind = .function := by rfl) : codeAny (model prog w) A (.call (.ref f) ⟨vals, []⟩) R s := by
  refine codeAny_call_cells (fd := fnOf name qual params body scope dV kV doc pm an cdv ct) (body := body) (binds := binds) hroom (X _ _ ho) rfl T (codeRec_of X hcd) rfl hbind rfl (fun x hx => ?_) (fun s₁ I => ?_) hco hgen hk
  · have := List.all_eq_true.mp hloc x hx
    rcases Bool.or_eq_true_iff.mp this with q | q
    · exact .inl (beq_iff_eq.mp q)
    · exact .inr ⟨beq_iff_eq.mp q, cellsFrom_some _ _ _ (.inl (beq_iff_eq.mp q))⟩
  · obtain ⟨h₁, tk, rfl, _⟩ := I.done
    have hb := I.above
    refine wpAny_mono (h h₁ tk ⟨⟨_, I.toInCall.ns, fun x hx => ?_⟩, fun x hx => ?_, huniq _, I.apart, fun x hx q => ?_, (fun _ e => nomatch e), I.toInCall.keep, fun a q => ?_⟩) (fun fl s' hl => hl) fun _ _ x => x.elim
    · try dsimp only
      rw [hx]
      rfl
    · try dsimp only
      have := huniq (s.heap.objs.size + 1) x hx
      rw [this]
      exact I.cell _ _ this
    · have := hb x.1 x.2 hx
      rw [q] at this
      exact Nat.lt_irrefl _ this
    · cases e : s.heap.get? a with
      | none => rfl
      | some o =>
        have hlt := Heap.lt_size e
        rcases q with rfl | ⟨x, hx, rfl⟩ | q
        · exact absurd hlt (Nat.lt_irrefl _)
        · exact absurd (Nat.lt_trans hlt (hb x.1 x.2 hx)) (Nat.lt_irrefl _)
        · cases q
end
end PartF2
section PartF3

section
variable {prog : Program} {w : World} {A : Around} {s : Shared} {env : Env} {I : Addr} {fp wr : List Addr} {n : Nat} {P : Nat → Value → Prop} {St : Nat → Heap → Prop}

theorem tests_nil {Q : Bool → Shared → Prop} {E : Value → Shared → Prop} (h : Q true s) :
    wpAny (model prog w) A (forIn ([] : List PySem.Expr) true fun c r => if r = true then do let ok ← isTrue c env (eval c env); pure (ForInStep.yield ok) else pure (ForInStep.yield r)) Q E s := wpAny_tests_nil h
end
end PartF3
section PartF4
section
variable {prog : Program} {w : World} {A : Around} {E : Value → Shared → Prop} {s : Shared} {g : Heap} {L : Addr} {cl : List (Str × Addr)} {la : Option Addr} {m : Str → Option Value} {us : Array Value} {env : Env}
theorem o_unpack2 {x y : Str} {px py pos : Pos} {k : Nat} {T : Addr} {a b : Value} {Q : Unit → Shared → Prop} (F : Fo g L cl la s.heap m us) (hh : A.handled = none) (ht : s.heap.IsTuple T #[a, b])
    (h : ∀ h' tk, Fo g L cl la h' (fun z => if z = y then some b else if z = x then some a else m z) us → Q () { s with heap := h', toks := tk })
    (hL : env.locals = L := by rfl) (hk : env.scope.kind = .function := by rfl) (hx : env.kindOf x = some .local := by rfl) (hy : env.kindOf y = some .local := by rfl) (hcx : cl.lookup x = none := by rfl) (hcy : cl.lookup y = none := by rfl) :
    wpAny (model prog w) A (assign (.Tuple [.Name x px, .Name y py] k pos) env (.ref T)) Q E s := by
  refine wpAny_assign_Tuple hh ht rfl rfl fun h₃ hx₃ => ?_
  have k₃ : ∀ b o, s.heap.get? b = some o → h₃.get? b = some o := fun b o e => hx₃ b o (Nat.ne_of_lt (Heap.lt_size e)) e
  have F₃ := F.keeps k₃
  show wpAny _ A (do holding [b] (assign (.Name x px) env a); do holding [] (assign (.Name y py) env b); pure ()) _ _ _
  refine wpAny_bind (wpAny_holding (wpAny_assign_Name (o_st F₃ (fun h₄ F₄ => ?_) hL hk hx hcx)))
  refine wpAny_bind (wpAny_holding (wpAny_assign_Name (o_st F₄ (fun h₅ F₅ => wpAny_pure ?_) hL hk hy hcy)))
  exact h _ _ F₅
end
section
variable {prog : Program} {w : World} {A : Around} {E : Value → Shared → Prop} {s : Shared}
theorem plain_method {name : Str} {id : String} {pl : Sem Bool} {l : Addr} {items : Array Value} {Q : Value × List Value → Shared → Prop} (hp : s.heap.PlainList l items) (slot : Slot "list" name id)
    (hty : typeOf (.builtin id) = pure (.type "method_descriptor")) (h : Q (.builtin id, [.ref l]) s) : wpAny (model prog w) A (getMethod (.ref l) name pl) Q E s :=
  let ⟨_, e⟩ := hp
  getMethod_list_of slot hty hp.isList ⟨_, e, rfl⟩ h
theorem plain_insert {l : Addr} {vs : List Value} {x : Int} {u : Tok} {y : Value} {Q : Value → Shared → Prop} (hp : s.heap.PlainList l vs.toArray) (hf : Builtin.List.listFitsIndex x = true) (hz : vs.length ≤ sizeLine)
    (h : ∀ h', h'.PlainList l (kl_ins vs x y).toArray → Heap.SameBut l s.heap h' → Q .none { s with heap := h' }) :
    wpAny (model prog w) A (call (.builtin "list.insert") [.ref l, .int x u, y]) Q E s := by
  obtain ⟨n, ho⟩ := hp
  refine call_meets PySem.F.slot_list_insert ⟨_, ho, rfl⟩ PySem.F.entry_list_insert (PySem.F.args_list_insert_3 _ _ _) (PySem.AutoSeq1.list_insert_list_int_val_1 l _ n x u y (by simp [hf]) (by rw [List.size_toArray]; exact hz)) ⟨ho, h _ ?_ (Heap.SameBut.update ..)⟩
  refine ⟨n + 1, ?_⟩
  have e : (vs.toArray.extract 0 (if x < 0 then (x + (vs.toArray.size : Int)).toNat else min x.toNat vs.toArray.size)).push y ++ vs.toArray.extract (if x < 0 then (x + (vs.toArray.size : Int)).toNat else min x.toNat vs.toArray.size) = (kl_ins vs x y).toArray := by
    rw [kl_ins_eq, List.size_toArray]
    rfl
  have q := PySem.IsL.update ho (fun xs : Array Value => (xs.extract 0 (if x < 0 then (x + (xs.size : Int)).toNat else min x.toNat xs.size)).push y ++ xs.extract (if x < 0 then (x + (xs.size : Int)).toNat else min x.toNat xs.size))
  rw [e, if_neg (by rw [List.size_toArray, List.size_toArray, kl_ins_length]; simp)] at q
  exact q
end
theorem lkeeps {h h' : Heap} {a : Addr} {v : Array Value} (x : h.IsList a v) (k : ∀ b o, h.get? b = some o → h'.get? b = some o) : h'.IsList a v :=
  let ⟨o, ho, r⟩ := x; ⟨o, k _ _ ho, r⟩
theorem pkeeps {h h' : Heap} {a : Addr} {v : Array Value} (x : h.PlainList a v) (k : ∀ b o, h.get? b = some o → h'.get? b = some o) : h'.PlainList a v :=
  let ⟨o, ho⟩ := x; ⟨o, k _ _ ho⟩
theorem at_meth {prog : Program} {w : World} {A : Around} {s : Shared} {l : Addr} {n : Str} {pl : Sem Bool} {Q : Value × List Value → Shared → Prop} {E : Value → Shared → Prop} (h : wpAny (model prog w) A (getMethod (.ref l) n pl) Q E s) : wpAny (model prog w) A (getMethod (.ref l) n pl) Q E s := h
theorem at_ins {prog : Program} {w : World} {A : Around} {s : Shared} {l : Addr} {vs : List Value} {Q : Value → Shared → Prop} {E : Value → Shared → Prop} (h : wpAny (model prog w) A (call (.builtin "list.insert") (.ref l :: vs)) Q E s) : wpAny (model prog w) A (call (.builtin "list.insert") (.ref l :: vs)) Q E s := h
theorem at_app {prog : Program} {w : World} {A : Around} {s : Shared} {l : Addr} {vs : List Value} {Q : Value → Shared → Prop} {E : Value → Shared → Prop} (h : wpAny (model prog w) A (call (.builtin "list.append") (.ref l :: vs)) Q E s) : wpAny (model prog w) A (call (.builtin "list.append") (.ref l :: vs)) Q E s := h
theorem Ext.push {s : Shared} {h' : Heap} {gs : GenState} {tk : Nat} (k : ∀ b o, s.heap.get? b = some o → h'.get? b = some o) (hb : gs.bare = true) : Ext s { s with heap := h', gens := s.gens.push gs, toks := tk } :=
  ⟨k, fun i x e => by
    have : i < s.gens.size := (Array.getElem?_eq_some_iff.mp e).1
    show (s.gens.push gs)[i]? = some x
    rw [Array.getElem?_push, if_neg (Nat.ne_of_lt this)]; exact e, fun hB y hy => by
    rcases Array.mem_push.mp hy with h | rfl
    · exact hB y h
    · exact hb, rfl⟩
/-- a step of a generator that was made since -/
theorem Ext.step {s₀ s s' : Shared} {kd : Bool} {C : Addr} {gi : Nat} (x : Ext s₀ s) (hC : ∀ b o, s₀.heap.get? b = some o → b < C) (hg : ∀ (i : Nat) (y : GenState), s₀.gens[i]? = some y → i ≠ gi) (K : Kept kd C s.heap s'.heap) (S : Stepd gi s s') : Ext s₀ s' :=
  ⟨fun b o e => K.old (hC b o e) (x.keep b o e), fun i y e => S.gens i y (hg i y e) (x.gens i y e), fun b => S.bare (x.bare b), S.os.trans x.os⟩
theorem Ext.re {s s₁ : Shared} (x : Ext s s₁) {h : Heap} {tk : Nat} (k : ∀ b o, s.heap.get? b = some o → h.get? b = some o) : Ext s { s₁ with heap := h, toks := tk } := ⟨k, x.gens, x.bare, x.os⟩

theorem enterO {prog : Program} {w : World} {A : Around} {K : Frag} {R : Result → Shared → Prop} {s : Shared} {name qual : Str} {params : Arguments} {body : List Stmt} {scope : Scope} {dV kV doc pm cdv ct oc : Value} {an od : Option Addr} {osl : Array (Option Value)} {f : Addr} {args : Args} {binds : List (Str × Value)} {dk uk : Nat}
    (X : K.In s.heap) (T : s.heap.NoLimit) (hh : A.handled = none) (hd : A.depth + (dk + 1) < recursionLimit) (hu : A.units + (uk + 3) < cLine)
    (ho : K.lookup f = some ⟨oc, od, .func (fnOf name qual params body scope dV kV doc pm an cdv ct), osl⟩) (hcd : codeIn K cdv qual = true)
    (hbind : BindsTo s (fnOf name qual params body scope dV kV doc pm an cdv ct) args binds) (hloc : ∀ y ∈ binds, scope.names.lookup y.1 = some .local)
    (h : ∀ h₁ A' tk, A'.handled = none → A'.depth + dk < recursionLimit → A'.units + uk < cLine → Fo s.heap s.heap.objs.size [] none h₁ (fun y => binds.reverse.lookup y) #[] →
      wpAny (model prog w) A' (execs body (envOf qual scope s.heap.objs.size f cdv))
        (fun fl s' => R (.ok (.ret (match fl with | .ret v => v | _ => .none))) s') Fls { s with heap := h₁, toks := tk })
    (hcell : ∀ x ∈ scope.names, x.2 ≠ .cell := by decide) (hco : scope.isCoroutine = false := by rfl) (hgen : scope.isGenerator = false := by rfl) (hk : scope.kind = .function := by rfl) : codeAny (model prog w) A (.call (.ref f) args) R s :=
  enter X T ho hcd (by omega) hbind hloc (fun h₁ F _ => h h₁ _ _ hh (by simp only [Around.deeper]; omega) (by simp only [Around.deeper]; omega) (Fo.of F)) hco hgen hk hcell
theorem enterOC {prog : Program} {w : World} {A : Around} {K : Frag} {R : Result → Shared → Prop} {s : Shared} {name qual : Str} {params : Arguments} {body : List Stmt} {scope : Scope} {dV kV doc pm cdv ct oc : Value} {an od : Option Addr} {osl : Array (Option Value)} {f : Addr} {vals : List Value} {binds : List (Str × Value)} {dk uk : Nat}
    (X : K.In s.heap) (T : s.heap.NoLimit) (hh : A.handled = none) (hd : A.depth + (dk + 1) < recursionLimit) (hu : A.units + (uk + 3) < cLine)
    (ho : K.lookup f = some ⟨oc, od, .func (fnOf name qual params body scope dV kV doc pm an cdv ct), osl⟩) (hcd : codeIn K cdv qual = true)
    (hbind : bindArgs (fnOf name qual params body scope dV kV doc pm an cdv ct) ⟨vals, []⟩ = pure binds)
    (hloc : (binds.all fun y => scope.names.lookup y.1 == some .local || scope.names.lookup y.1 == some .cell) = true)
    (huniq : ∀ n, ∀ x ∈ cellsFrom n scope.names [], (cellsFrom n scope.names []).lookup x.1 = some x.2)
    (h : ∀ h₁ A' tk, A'.handled = none → A'.depth + dk < recursionLimit → A'.units + uk < cLine → Fo s.heap s.heap.objs.size (cellsFrom (s.heap.objs.size + 1) scope.names []) none h₁ (fun y => if ((cellsFrom (s.heap.objs.size + 1) scope.names []).lookup y).isSome then bindC (fun y => scope.names.lookup y) binds (fun _ => none) y else bindL (fun y => scope.names.lookup y) binds (fun _ => none) y) #[] →
      wpAny (model prog w) A' (execs body (callEnvC (fnOf name qual params body scope dV kV doc pm an cdv ct) s.heap.objs.size f))
        (fun fl s' => R (.ok (.ret (match fl with | .ret v => v | _ => .none))) s') Fls { s with heap := h₁, toks := tk })
    (hco : scope.isCoroutine = false := by rfl) (hgen : scope.isGenerator = false := by rfl) (hk : scope.kind = .function := by rfl) : codeAny (model prog w) A (.call (.ref f) ⟨vals, []⟩) R s :=
  enterC X T ho hcd (by omega) hbind hloc huniq (fun h₁ tk F => h h₁ _ tk hh (by simp only [Around.deeper]; omega) (by simp only [Around.deeper]; omega) F) hco hgen hk
theorem dn {a k m l : Nat} (h : a + m < l) (e : k ≤ m) : a + k < l := Nat.lt_of_le_of_lt (Nat.add_le_add_left e a) h
/-- a statement's end: what is to be done behind it stands as a letter -/
structure Nx (Q' : Flow → Shared → Prop) (P : Shared → Prop) : Prop where
  go : ∀ s, P s → Q' .next s
structure Rt (Q' Q : Flow → Shared → Prop) : Prop where
  go : ∀ fl s, fl ≠ .next → Q fl s → Q' fl s
theorem nx {Q' : Flow → Shared → Prop} {P : Shared → Prop} {s : Shared} (N : Nx Q' P) (h : P s) : Q' .next s := N.go s h
theorem rt {Q' Q : Flow → Shared → Prop} {v : Value} {s : Shared} (N : Rt Q' Q) (h : Q (.ret v) s) : Q' (.ret v) s := N.go _ _ (by nofun) h
theorem cons_abs {M : Model} {A : Around} {st : Stmt} {rest : List Stmt} {env : Env} {Q : Flow → Shared → Prop} {E : Value → Shared → Prop} {s : Shared}
    (h : ∀ Q' : Flow → Shared → Prop, Nx Q' (fun s' => wpAny M A (execs rest env) Q E s') → Rt Q' Q → wpAny M A (exec st env) Q' E s) : wpAny M A (execs (st :: rest) env) Q E s := by
  refine wpAny_execs_cons (h _ ⟨fun s h => h⟩ ⟨fun fl s hn h => ?_⟩)
  cases fl with
  | next => exact absurd rfl hn
  | _ => exact h
end PartF4
section PartF5
noncomputable abbrev PWx : Program := PySem.Challenge.pw_wf0039_01
noncomputable def nit (o : Obj) : Bool := match o.cls with | .type n => n == "list" | _ => false
noncomputable def Kp (g g' : Heap) : Prop := ∀ b o, nit o = true → g.get? b = some o → g'.get? b = some o
theorem Kp.of {g g' : Heap} (k : ∀ b o, g.get? b = some o → g'.get? b = some o) : Kp g g' := fun b o _ e => k b o e
theorem Kp.plain {g g' : Heap} {a : Addr} {vs : Array Value} (k : Kp g g') (h : g.PlainList a vs) : g'.PlainList a vs := let ⟨n, e⟩ := h; ⟨n, k _ _ rfl e⟩

/-- generators and the outside -/
structure Gx (s s' : Shared) : Prop where
  gens : ∀ (i : Nat) (x : GenState), s.gens[i]? = some x → s'.gens[i]? = some x
  bare : AllBare s.gens → AllBare s'.gens
  os : s'.os = s.os
theorem Gx.refl (s : Shared) : Gx s s := ⟨fun _ _ e => e, id, rfl⟩
theorem Gx.trans {s s' s'' : Shared} (x : Gx s s') (y : Gx s' s'') : Gx s s'' := ⟨fun i g e => y.gens i g (x.gens i g e), fun b => y.bare (x.bare b), y.os.trans x.os⟩
theorem Gx.re {s s' : Shared} (x : Gx s s') (h : Heap) (tk : Nat) : Gx s { s' with heap := h, toks := tk } := ⟨x.gens, x.bare, x.os⟩
theorem Ext.gx {s s' : Shared} (x : Ext s s') : Gx s s' := ⟨x.gens, x.bare, x.os⟩
theorem Gx.ext {s s' : Shared} (x : Gx s s') (k : ∀ b o, s.heap.get? b = some o → s'.heap.get? b = some o) : Ext s s' := ⟨k, x.gens, x.bare, x.os⟩

/-- a turn's end -/
noncomputable def Bk (g₁ : Heap) (L : Addr) (cl : List (Str × Addr)) (la : Option Addr) (s₀ : Shared) (K : Heap → (Str → Option Value) → Array Value → Prop) (s : Shared) : Prop :=
  ∃ g' m' us', (∀ b o, g₁.get? b = some o → g'.get? b = some o) ∧ Fo g' L cl la s.heap m' us' ∧ Gx s₀ s ∧ K g' m' us'
noncomputable def BkC (g₁ : Heap) (C D : Addr) (us : Array Value) (s₀ : Shared) (K : Heap → Prop) (s : Shared) : Prop :=
  ∃ g' m', (∀ b o, g₁.get? b = some o → g'.get? b = some o) ∧ Fo g' C [] (some D) s.heap m' us ∧ Gx s₀ s ∧ K g'

section
variable {w : World} {A : Around} {s : Shared} {env : Env} {g : Heap} {L : Addr} {cl : List (Str × Addr)} {la : Option Addr} {m : Str → Option Value} {us : Array Value} {I : Addr} {n : Nat} {P : Nat → Value → Prop}

/-- what a loop takes its things from -/
noncomputable def Src (w : World) (A : Around) (g : Heap) (L : Addr) (cl : List (Str × Addr)) (la : Option Addr) (h : Heap) (I : Addr) (n : Nat) (P : Nat → Value → Prop) : Prop :=
  ∃ fp St, Walks PWx w A I fp [I] n P St ∧ St 0 h ∧ (∀ b ∈ fp, ¬ Own L cl la b) ∧ (∀ b ∈ fp, b < h.objs.size) ∧ g.get? I = none ∧ ∀ i h' o, St i h' → h'.get? I = some o → nit o = false

theorem for_S {target : PySem.Expr} {body : List Stmt} {Q : Flow → Shared → Prop} {s₀ : Shared} (S : Src w A g L cl la s.heap I n P) (F : Fo g L cl la s.heap m us) (gx : Gx s₀ s)
    (J : Nat → Heap → (Str → Option Value) → Array Value → Prop)
    (tr : ∀ i g g' m us, Kp g g' → J i g m us → J i g' m us)
    (turn : ∀ i v s g₁ m us, i < n → P i v → (∀ b o, g.get? b = some o → g₁.get? b = some o) → Fo g₁ L cl la s.heap m us → Gx s₀ s → J i g₁ m us →
      wpAny (model PWx w) A (assign target env v) (fun _ s₂ => wpAny (model PWx w) A (execs body env) (fun f s₃ => match f with
          | .next | .cont => Bk g₁ L cl la s₀ (J (i + 1)) s₃
          | .brk => Q .next s₃
          | .ret v => Q (.ret v) s₃) Fls s₂) Fls s)
    (done : ∀ s g₁ m us, (∀ b o, g.get? b = some o → g₁.get? b = some o) → Fo g₁ L cl la s.heap m us → Gx s₀ s → J n g₁ m us → Q .next s)
    (hj : J 0 g m us) (ht : ∀ v, letOwnedTupleGo target (.ref I) v = pure () := by intro _; rfl) :
    ForGo PWx w A target (.ref I) body env Q s := by
  obtain ⟨fp, St, W, hst, hown, hlt, hgI, hni⟩ := S
  have hIf : I ∈ fp := W.sub I (.head _)
  refine for_I (fun k s => ∃ i g₁ m us, i ≤ n ∧ k = n - i ∧ (∀ b o, g.get? b = some o → g₁.get? b = some o) ∧ Fo g₁ L cl la s.heap m us ∧ St i s.heap ∧ Gx s₀ s ∧ J i g₁ m us) (fun k s hI => ?_) n
    ⟨0, g, m, us, Nat.zero_le _, rfl, fun _ _ e => e, F, hst, gx, hj⟩
  clear F hst gx hj
  obtain ⟨i, g₁, m, us, hi, hk, hg, F, hst, gx, hj⟩ := hI
  have step : ∀ h', (∀ b o, b ∉ [I] → s.heap.get? b = some o → h'.get? b = some o) → ∃ g', Kp g₁ g' ∧ Fo g' L cl la h' m us ∧ (∀ b o, h'.get? b = some o → ¬ Own L cl la b → g'.get? b = some o) ∧
      (∀ b o, g.get? b = some o → g'.get? b = some o) := fun h' hk => by
    obtain ⟨g', k1, k2, k3⟩ := F.stepped (wr := fun b _ => b ∈ [I]) (fun b _ q _ hb => hown b (W.sub b hb) q) (fun b o hb e => hk b o hb e)
    refine ⟨g', fun b o no e => k1 b o (fun hb => ?_) e, k2, k3, fun b o e => k1 b o (fun hb => ?_) (hg b o e)⟩
    · rw [List.mem_singleton] at hb
      subst hb
      rw [hni _ _ _ hst (F.keep _ _ e)] at no
      cases no
    · rw [List.mem_singleton] at hb
      rw [hb, hgI] at e
      cases e
  rcases Nat.lt_or_ge i n with hlt | hge
  · refine W.item i s _ _ hlt hst fun v h' tk hP hst' hkeep => ?_
    obtain ⟨g', k1, k2, k3, k4⟩ := step h' hkeep
    dsimp only
    refine wpAny_of_eq (ht v) ?_
    refine wpAny_mono (turn i v { s with heap := h', toks := tk } g' m us hlt hP k4 k2 (gx.re _ _) (tr _ _ _ _ _ k1 hj)) (fun _ s₂ h₂ => wpAny_mono h₂ (fun f s₃ h₃ => ?_) fun _ _ x => x) fun _ _ x => x
    have back : (∃ g'' m' us', (∀ b o, g'.get? b = some o → g''.get? b = some o) ∧ Fo g'' L cl la s₃.heap m' us' ∧ Gx s₀ s₃ ∧ J (i + 1) g'' m' us') → Nxt k (fun k s => ∃ i g₁ m us, i ≤ n ∧ k = n - i ∧ (∀ b o, g.get? b = some o → g₁.get? b = some o) ∧ Fo g₁ L cl la s.heap m us ∧ St i s.heap ∧ Gx s₀ s ∧ J i g₁ m us) s₃ := by
      rintro ⟨g'', m', us', q1, q2, q3, q4⟩
      exact ⟨n - (i + 1), by lia, i + 1, g'', m', us', hlt, rfl, fun b o e => q1 b o (k4 b o e), q2, W.frame _ _ _ hst' fun b hb o e => q2.keep b o (q1 b o (k3 b o e (hown b hb))), q3, q4⟩
    cases f with
    | next => exact back h₃
    | cont => exact back h₃
    | brk => exact h₃
    | ret v => exact h₃
  · have : i = n := by lia
    subst this
    refine W.done s _ _ hst fun h' tk hkeep => ?_
    obtain ⟨g', k1, k2, k3, k4⟩ := step h' hkeep
    exact done { s with heap := h', toks := tk } g' m us k4 k2 (gx.re _ _) (tr _ _ _ _ _ k1 hj)

/-- what a list's own code is to come to, with what is done with the list -/
noncomputable def CompGoU (w : World) (A : Around) (elt target iter : PySem.Expr) (ifs : List PySem.Expr) (scope : Scope) (pos : Pos) (env : Env) (cl' : List (Str × Addr)) (use : Option (Value → Sem Unit)) (it : Value) (Q : Value → Shared → Prop) (s : Shared) : Prop :=
  wpAny (model PWx w) A (newList []) (fun acc s₃ => wpAny (model PWx w) A (newFunctionEnv scope env.globals cl' [] env.qual none .none (some env)) (fun cenv s₄ =>
      codeAny (model PWx w) A (.compStart (.ListComp elt [⟨target, iter, ifs, 0⟩] scope pos) 0 it acc { cenv with scope := relabel scope env }) (compPost (model PWx w) A Fls use Q acc cenv.locals) s₄) Fls s₃) Fls s

theorem compN_eval {elt target iter : PySem.Expr} {ifs : List PySem.Expr} {scope : Scope} {pos : Pos} {cl' : List (Str × Addr)} {Q : Value → Shared → Prop}
    (hclos : closureFor scope env = pure cl')
    (h : wpAny (model PWx w) A (eval iter env) (fun x s₁ => wpAny (model PWx w) A (pyIter x) (fun it s₂ => CompGoU w A elt target iter ifs scope pos env cl' none it Q s₂) Fls s₁) Fls s)
    (hkind : scope.kind = .function := by rfl) (hnames : ∀ x ∈ scope.names, x.2 = .local → scope.names.lookup x.1 = some .local := by decide)
    (hs : ∀ x, foldedSetIterable iter env x = pure x := by intro _; rfl) :
    wpAny (model PWx w) A (eval (.ListComp elt [⟨target, iter, ifs, 0⟩] scope pos) env) Q Fls s := by
  rw [eval_ListComp]
  exact wpAny_comprehension_free (use := none) rfl hs hclos hkind hnames h
theorem compA_eval {elt target iter : PySem.Expr} {ifs : List PySem.Expr} {scope : Scope} {pos spos : Pos} {y : Str} {py : Pos} {cl' : List (Str × Addr)} {Q : Flow → Shared → Prop}
    (hsw : swapsWith (.ListComp elt [⟨target, iter, ifs, 0⟩] scope pos) (some (.Name y py)) spos.line env = pure true) (hclos : closureFor scope env = pure cl')
    (h : wpAny (model PWx w) A (eval iter env) (fun x s₁ => wpAny (model PWx w) A (pyIter x) (fun it s₂ => CompGoU w A elt target iter ifs scope pos env cl' (some (assign (.Name y py) env)) it (fun _ s' => Q .next s') s₂) Fls s₁) Fls s)
    (hkind : scope.kind = .function := by rfl) (hnames : ∀ x ∈ scope.names, x.2 = .local → scope.names.lookup x.1 = some .local := by decide)
    (hs : ∀ x, foldedSetIterable iter env x = pure x := by intro _; rfl) :
    wpAny (model PWx w) A (exec (.Assign [.Name y py] (.ListComp elt [⟨target, iter, ifs, 0⟩] scope pos) spos) env) Q Fls s := by
  rw [exec_Assign_Name_used _ _ _ _ hsw]
  refine wpAny_bind (wpAny_standAt (wpAny_bind ?_))
  show wpAny _ A (do let _ ← comprehension (.ListComp elt [⟨target, iter, ifs, 0⟩] scope pos) scope env _ (newList []) false (eval iter env) (some (assign (.Name y py) env))) _ _ s
  exact wpAny_bind (wpAny_mono (wpAny_comprehension_free (use := some (assign (.Name y py) env)) (Q := fun _ s' => Q .next s') rfl hs hclos hkind hnames h) (fun _ s' hq => wpAny_pure (wpAny_pure hq)) fun _ _ e => e)

/-- the base without what is the outer frame's own -/
noncomputable abbrev hid (L : Addr) (cl : List (Str × Addr)) (la : Option Addr) (g : Heap) : Heap := hideAll g (ownL L cl la)
theorem hid_get {h : Heap} {b : Addr} {o : Obj} (e : h.get? b = some o) (n : ¬ Own L cl la b) : (hid L cl la h).get? b = some o := hideAll_get _ e fun q => n (ownL_iff.mp q)
theorem hid_of {h : Heap} {b : Addr} {o : Obj} (e : (hid L cl la h).get? b = some o) : h.get? b = some o ∧ ¬ Own L cl la b := ⟨of_hideAll _ e, fun q => by rw [hideAll_none _ (ownL_iff.mpr q)] at e; cases e⟩
theorem hid_mono {h h' : Heap} (k : ∀ b o, h.get? b = some o → h'.get? b = some o) : ∀ b o, (hid L cl la h).get? b = some o → (hid L cl la h').get? b = some o := fun b o e => hid_get (k b o (hid_of e).1) (hid_of e).2

theorem comp_core {elt iter : PySem.Expr} {ifs : List PySem.Expr} {x : Str} {px : Pos} {scope : Scope} {pos : Pos} {cl' : List (Str × Addr)} {use : Option (Value → Sem Unit)} {Q : Value → Shared → Prop} {s₀ : Shared}
    (S : Src w A g L cl la s.heap I n P) (F : Fo g L cl la s.heap m us) (gx : Gx s₀ s) (hsz : n ≤ sizeLine)
    (J : Nat → Heap → Array Value → Prop)
    (tr : ∀ i g g' us, Kp g g' → J i g us → J i g' us)
    (turn : ∀ C D i v s₁ g₁ m₁ us₁, i < n → P i v → m₁ x = some v → (∀ b o, g.get? b = some o → g₁.get? b = some o) → (∀ x ∈ cl, g₁.IsCell x.2 (m x.1)) → (∀ b, Own L cl la b → ∃ o, g₁.get? b = some o) →
      Fo g₁ C [] (some D) s₁.heap m₁ us₁ → Gx s₀ s₁ → J i (hid L cl la g₁) us₁ → us₁.size ≤ i →
      wpAny (model PWx w) A (forIn ifs true fun c r => if r = true then do let ok ← isTrue c (compEnvC scope cl' C env) (eval c (compEnvC scope cl' C env)); pure (ForInStep.yield ok) else pure (ForInStep.yield r)) (fun ok s₃ =>
        if ok = true then wpAny (model PWx w) A (eval elt (compEnvC scope cl' C env)) (fun y s₄ => BkC g₁ C D us₁ s₀ (fun g' => J (i + 1) (hid L cl la g') (us₁.push y)) s₄) Fls s₃
        else BkC g₁ C D us₁ s₀ (fun g' => J (i + 1) (hid L cl la g') us₁) s₃) Fls s₁)
    (fin : ∀ s' g' us' C D mc, (∀ b o, g.get? b = some o → g'.get? b = some o) → Fo g' L cl la s'.heap m us → Gx s₀ s' → g'.PlainList D us' → us'.size ≤ n → J n g' us' → s'.heap.Ns C mc → g'.get? C = none → ¬ Own L cl la C → s.heap.get? D = none → compPost (model PWx w) A Fls use Q (.ref D) C (.ok .next) s')
    (hj : J 0 g #[])
    (hcell : ∀ y ∈ scope.names, y.2 ≠ .cell := by decide) (hkind : scope.kind = .function := by rfl) (hx : scope.names.lookup x = some .local := by rfl) :
    CompGoU w A elt (.Name x px) iter ifs scope pos env cl' use (.ref I) Q s := by
  obtain ⟨fp, St, W, hst, hown, hlt, hgI, hni⟩ := S
  have hIf : I ∈ fp := W.sub I (.head _)
  unfold CompGoU
  refine wpAny_newObj_type (wpAny_newFunctionEnv hcell (by intro y hy; simp at hy) (fun h₁ hns₁ hsb₁ => ?_) hkind)
  dsimp only at hns₁ hsb₁ ⊢
  generalize hH2 : s.heap.push { cls := .type "list", dict := none, data := .seq ([] : List Value).toArray } = H2 at hns₁ hsb₁ ⊢
  have hC : H2.objs.size = s.heap.objs.size + 1 := by rw [← hH2, Heap.size_push]
  have hCle : s.heap.objs.size ≤ H2.objs.size := by rw [hC]; exact Nat.le_succ _
  have hDC : s.heap.objs.size ≠ H2.objs.size := by rw [hC]; exact Nat.ne_of_lt (Nat.lt_succ_self _)
  have old : ∀ b o, s.heap.get? b = some o → h₁.get? b = some o := fun b o e => hsb₁.extBut b o (by rw [hC]; exact Nat.ne_of_lt (Nat.lt_succ_of_lt (Heap.lt_size e))) (Heap.get?_push_of_some _ (hH2 ▸ Heap.get?_push_of_some _ e))
  have hacc : h₁.PlainList s.heap.objs.size #[] := ⟨_, hsb₁.extBut _ _ hDC (Heap.get?_push_of_some _ (hH2 ▸ Heap.get?_push_size _ rfl))⟩
  have ownlt : ∀ b, Own H2.objs.size [] (some s.heap.objs.size) b → s.heap.objs.size ≤ b := fun b q => by
    rcases q with rfl | ⟨_, q, _⟩ | q
    · exact hCle
    · cases q
    · cases q; exact Nat.le_refl _
  have nown : ∀ b ∈ fp, ¬ Own H2.objs.size [] (some s.heap.objs.size) b := fun b hb q => Nat.lt_irrefl _ (Nat.lt_of_lt_of_le (hlt b hb) (ownlt b q))
  have outer : ∀ b, Own L cl la b → b ≠ I ∧ ∃ o, s.heap.get? b = some o := fun b q => ⟨fun e => hown I hIf (e ▸ q), by
    rcases q with rfl | ⟨x, hx, rfl⟩ | q
    · obtain ⟨ml, ⟨o, _, _, ho, _⟩, _⟩ := F.ns; exact ⟨o, ho⟩
    · obtain ⟨o, ho, _⟩ := F.cell x hx; exact ⟨o, ho⟩
    · obtain ⟨⟨n, ho⟩, _⟩ := F.lst b q; exact ⟨_, ho⟩⟩
  have F₁ : Fo s.heap H2.objs.size [] (some s.heap.objs.size) h₁ (fun _ => none) #[] :=
    ⟨⟨_, hns₁, fun _ _ => rfl⟩, (fun _ h => nomatch h), (fun _ h => nomatch h), .nil, (fun _ h => nomatch h), fun a e => by cases e; exact ⟨hacc, hDC, fun _ h => nomatch h⟩, old, fun a q => by
      cases e : s.heap.get? a with
      | none => rfl
      | some o => exact absurd (Nat.lt_of_lt_of_le (Heap.lt_size e) (ownlt a q)) (Nat.lt_irrefl _)⟩
  have loop : ∀ s₃ : Shared, s₃ = { s with heap := h₁, toks := s.toks + ([] : List (Str × Value)).length } →
      codeAny (model PWx w) A (.compLoop (.ListComp elt [⟨.Name x px, iter, ifs, 0⟩] scope pos) 0 (.ref I) (.ref s.heap.objs.size) (compEnvC scope cl' H2.objs.size env))
        (compPost (model PWx w) A Fls use Q (.ref s.heap.objs.size) H2.objs.size) s₃ := by
    rintro s₃ rfl
    refine codeAny_compLoop_tests (fun k s₁ => ∃ i g₁ m₁ us₁, i ≤ n ∧ us₁.size ≤ i ∧ k = n - i ∧ (∀ b o, b ≠ I → s.heap.get? b = some o → g₁.get? b = some o) ∧ Fo g₁ H2.objs.size [] (some s.heap.objs.size) s₁.heap m₁ us₁ ∧ St i s₁.heap ∧ Gx s₀ s₁ ∧ J i (hid L cl la g₁) us₁)
      (fun k s₁ hI => ?_) n ⟨0, s.heap, _, #[], Nat.zero_le _, Nat.le_refl _, rfl, fun b o _ e => e, F₁, W.frame _ _ _ hst fun b _ o e => old b o e, gx.re _ _, tr _ _ _ _ (Kp.of fun b o e => hid_get (F.keep b o e) (F.own_ne e)) hj⟩
    obtain ⟨i, g₁, m₁, us₁, hi, hus, hk, hg, F, hst, gx, hj⟩ := hI
    have step : ∀ h', (∀ b o, b ∉ [I] → s₁.heap.get? b = some o → h'.get? b = some o) → ∃ g', Kp g₁ g' ∧ Fo g' H2.objs.size [] (some s.heap.objs.size) h' m₁ us₁ ∧ (∀ b o, h'.get? b = some o → ¬ Own H2.objs.size [] (some s.heap.objs.size) b → g'.get? b = some o) ∧
        (∀ b o, b ≠ I → s.heap.get? b = some o → g'.get? b = some o) := fun h' hk => by
      obtain ⟨g', k1, k2, k3⟩ := F.stepped (wr := fun b _ => b ∈ [I]) (fun b _ q _ hb => nown b (W.sub b hb) q) (fun b o hb e => hk b o hb e)
      refine ⟨g', fun b o no e => k1 b o (fun hb => ?_) e, k2, k3, fun b o hb e => k1 b o (fun q => hb (List.mem_singleton.mp q)) (hg b o hb e)⟩
      rw [List.mem_singleton] at hb
      subst hb
      rw [hni _ _ _ hst (F.keep _ _ e)] at no
      cases no
    have kh : ∀ {a b : Heap}, Kp a b → Kp (hid L cl la a) (hid L cl la b) := fun k b o no e => hid_get (k b o no (hid_of e).1) (hid_of e).2
    rcases Nat.lt_or_ge i n with hlt' | hge
    · refine W.item i s₁ _ _ hlt' hst fun v h' tk hP hst' hkeep => ?_
      obtain ⟨g', k1, k2, k3, k4⟩ := step h' hkeep
      dsimp only
      refine wpAny_assign_Name (o_st (env := compEnvC scope cl' H2.objs.size env) k2 (fun h₂ F₂ => ?_) rfl (by simp [compEnvC, relabel, hkind]) (lookup_relabel_local hx) rfl)
      have hm : (fun y => if y = x then some v else m₁ y) x = some v := if_pos rfl
      refine wpAny_mono (turn H2.objs.size s.heap.objs.size i v { s₁ with heap := h₂, toks := tk + 1 } g' _ us₁ hlt' hP hm (fun b o e => k4 b o (fun q => by rw [q, hgI] at e; cases e) (‹Fo g L cl la s.heap m us›.keep b o e))
        (fun x hx => by
          obtain ⟨o, ho, hd⟩ := ‹Fo g L cl la s.heap m us›.cell x hx
          exact ⟨o, k4 _ o (outer _ (.inr (.inl ⟨x, hx, rfl⟩))).1 ho, hd⟩)
        (fun b q => by obtain ⟨q1, o, ho⟩ := outer b q; exact ⟨o, k4 b o q1 ho⟩) F₂ (gx.re _ _) (tr _ _ _ _ (kh k1) hj) hus) (fun ok s₃ h₃ => ?_) fun _ _ x => x.elim
      have back : ∀ s₄ g'' m' us', us'.size ≤ i + 1 → (∀ b o, g'.get? b = some o → g''.get? b = some o) → Fo g'' H2.objs.size [] (some s.heap.objs.size) s₄.heap m' us' → Gx s₀ s₄ → J (i + 1) (hid L cl la g'') us' →
          ∃ m, m < k ∧ ∃ i g₁ m₁ us₁, i ≤ n ∧ us₁.size ≤ i ∧ m = n - i ∧ (∀ b o, b ≠ I → s.heap.get? b = some o → g₁.get? b = some o) ∧ Fo g₁ H2.objs.size [] (some s.heap.objs.size) s₄.heap m₁ us₁ ∧ St i s₄.heap ∧ Gx s₀ s₄ ∧ J i (hid L cl la g₁) us₁ := by
        intro s₄ g'' m' us' q0 q1 q2 q3 q4
        exact ⟨n - (i + 1), by lia, i + 1, g'', m', us', hlt', q0, rfl, fun b o hb e => q1 b o (k4 b o hb e), q2, W.frame _ _ _ hst' fun b hb o e => q2.keep b o (q1 b o (k3 b o e (nown b hb))), q3, q4⟩
      cases ok with
      | false =>
        rw [if_neg (by decide)] at h₃ ⊢
        obtain ⟨g'', m', q1, q2, q3, q4⟩ := h₃
        exact back s₃ g'' m' us₁ (by lia) q1 q2 q3 q4
      | true =>
        rw [if_pos rfl] at h₃ ⊢
        refine wpAny_mono h₃ (fun y s₄ h₄ => ?_) fun _ _ x => x.elim
        obtain ⟨g'', m', q1, q2, q3, q4⟩ := h₄
        refine wpAny_list_append_plain (q2.lst _ rfl).1 (fun h₅ hl₅ hs₅ => ?_) (by lia)
        exact back { s₄ with heap := h₅ } g'' m' (us₁.push y) (by rw [Array.size_push]; lia) q1 (q2.wrote hl₅ fun b o hb e => hs₅.extBut b o hb e) (q3.re _ _) q4
    · have : i = n := by lia
      subst this
      refine W.done s₁ _ _ hst fun h' tk hkeep => ?_
      obtain ⟨g', k1, k2, k3, k4⟩ := step h' hkeep
      obtain ⟨ml, hml, _⟩ := k2.ns
      have hCown : ¬ Own L cl la H2.objs.size := fun q => by
        obtain ⟨_, o, ho⟩ := outer _ q
        exact Nat.lt_irrefl _ (Nat.lt_of_lt_of_le (Heap.lt_size ho) hCle)
      have hDown : ¬ Own L cl la s.heap.objs.size := fun q => by
        obtain ⟨_, o, ho⟩ := outer _ q
        exact Nat.lt_irrefl _ (Heap.lt_size ho)
      have Fz := ‹Fo g L cl la s.heap m us›.moves (g' := hideAll h' (H2.objs.size :: ownL L cl la)) (h' := h') (fun b o q e => k2.keep b o (k4 b o (outer b q).1 e)) (fun b o e => of_hideAll _ e) (fun a q => hideAll_none _ (.tail _ (ownL_iff.mpr q)))
      have up : ∀ b o, h'.get? b = some o → b ≠ H2.objs.size → ¬ Own L cl la b → (hideAll h' (H2.objs.size :: ownL L cl la)).get? b = some o := fun b o e n1 n2 => hideAll_get _ e fun q => by
        rcases List.mem_cons.mp q with q | q
        · exact n1 q
        · exact n2 (ownL_iff.mp q)
      refine fin { s₁ with heap := h', toks := tk } _ us₁ _ _ ml (fun b o e => ?_) Fz (gx.re _ _) ?_ hus (tr _ _ _ _ (fun b o no e => ?_) hj) hml (hideAll_none _ (.head _)) hCown (by
        cases e : s.heap.get? s.heap.objs.size with
        | none => rfl
        | some o => exact absurd (Heap.lt_size e) (Nat.lt_irrefl _))
      · have e' := ‹Fo g L cl la s.heap m us›.keep b o e
        refine up b o (k2.keep b o (k4 b o (fun q => by rw [q, hgI] at e; cases e) e')) (fun q => ?_) (‹Fo g L cl la s.heap m us›.own_ne e)
        rw [q] at e'
        exact Nat.lt_irrefl _ (Nat.lt_of_lt_of_le (Heap.lt_size e') hCle)
      · obtain ⟨n', hn'⟩ := (k2.lst _ rfl).1
        exact ⟨n', up _ _ hn' hDC hDown⟩
      · obtain ⟨e1, e2⟩ := hid_of e
        refine up b o (k2.keep b o (k1 b o no e1)) (fun q => ?_) e2
        subst q
        exact k2.own_ne (k1 _ o no e1) (.inl rfl)
  exact codeAny_compStart_list (loop _ rfl) (W.self 0 _ _ _ (W.frame _ _ _ hst fun b _ o e => old b o e) (loop _ rfl))
theorem fo_sameBut {h h' : Heap} {C : Addr} (F : Fo g L cl la h m us) (hC : ¬ Own L cl la C) (hg : g.get? C = none) (hs : Heap.SameBut C h h') : Fo g L cl la h' m us :=
  F.moves (fun b o q e => hs.extBut b o (fun q' => hC (q' ▸ q)) e) (fun b o e => hs.extBut b o (fun q => by rw [q, hg] at e; cases e) (F.keep b o e)) F.out
theorem comp_N {elt iter : PySem.Expr} {ifs : List PySem.Expr} {x : Str} {px : Pos} {scope : Scope} {pos : Pos} {cl' : List (Str × Addr)} {Q : Value → Shared → Prop} {s₀ : Shared}
    (S : Src w A g L cl la s.heap I n P) (F : Fo g L cl la s.heap m us) (gx : Gx s₀ s) (hsz : n ≤ sizeLine)
    (J : Nat → Heap → Array Value → Prop)
    (tr : ∀ i g g' us, Kp g g' → J i g us → J i g' us)
    (turn : ∀ C D i v s₁ g₁ m₁ us₁, i < n → P i v → m₁ x = some v → (∀ b o, g.get? b = some o → g₁.get? b = some o) → (∀ x ∈ cl, g₁.IsCell x.2 (m x.1)) → (∀ b, Own L cl la b → ∃ o, g₁.get? b = some o) →
      Fo g₁ C [] (some D) s₁.heap m₁ us₁ → Gx s₀ s₁ → J i (hid L cl la g₁) us₁ → us₁.size ≤ i →
      wpAny (model PWx w) A (forIn ifs true fun c r => if r = true then do let ok ← isTrue c (compEnvC scope cl' C env) (eval c (compEnvC scope cl' C env)); pure (ForInStep.yield ok) else pure (ForInStep.yield r)) (fun ok s₃ =>
        if ok = true then wpAny (model PWx w) A (eval elt (compEnvC scope cl' C env)) (fun y s₄ => BkC g₁ C D us₁ s₀ (fun g' => J (i + 1) (hid L cl la g') (us₁.push y)) s₄) Fls s₃
        else BkC g₁ C D us₁ s₀ (fun g' => J (i + 1) (hid L cl la g') us₁) s₃) Fls s₁)
    (done : ∀ s' g' us' D, (∀ b o, g.get? b = some o → g'.get? b = some o) → Fo g' L cl la s'.heap m us → Gx s₀ s' → g'.PlainList D us' → us'.size ≤ n → J n g' us' → s.heap.get? D = none → Q (.ref D) s')
    (hj : J 0 g #[])
    (hcell : ∀ y ∈ scope.names, y.2 ≠ .cell := by decide) (hkind : scope.kind = .function := by rfl) (hx : scope.names.lookup x = some .local := by rfl) :
    CompGoU w A elt (.Name x px) iter ifs scope pos env cl' none (.ref I) Q s :=
  comp_core S F gx hsz J tr turn (fun s' g' us' C D mc k F' gx' hp hz hJ hns hgC hC hD => ⟨mc, hns, fun h' hs => done { s' with heap := h' } g' us' D k (fo_sameBut F' hC hgC hs) (gx'.re _ _) hp hz hJ hD⟩) hj hcell hkind hx
theorem comp_A {elt iter : PySem.Expr} {ifs : List PySem.Expr} {x y : Str} {px py : Pos} {scope : Scope} {pos : Pos} {cl' : List (Str × Addr)} {Q : Value → Shared → Prop} {s₀ : Shared}
    (S : Src w A g L cl la s.heap I n P) (F : Fo g L cl la s.heap m us) (gx : Gx s₀ s) (hsz : n ≤ sizeLine)
    (J : Nat → Heap → Array Value → Prop)
    (tr : ∀ i g g' us, Kp g g' → J i g us → J i g' us)
    (turn : ∀ C D i v s₁ g₁ m₁ us₁, i < n → P i v → m₁ x = some v → (∀ b o, g.get? b = some o → g₁.get? b = some o) → (∀ x ∈ cl, g₁.IsCell x.2 (m x.1)) → (∀ b, Own L cl la b → ∃ o, g₁.get? b = some o) →
      Fo g₁ C [] (some D) s₁.heap m₁ us₁ → Gx s₀ s₁ → J i (hid L cl la g₁) us₁ → us₁.size ≤ i →
      wpAny (model PWx w) A (forIn ifs true fun c r => if r = true then do let ok ← isTrue c (compEnvC scope cl' C env) (eval c (compEnvC scope cl' C env)); pure (ForInStep.yield ok) else pure (ForInStep.yield r)) (fun ok s₃ =>
        if ok = true then wpAny (model PWx w) A (eval elt (compEnvC scope cl' C env)) (fun y s₄ => BkC g₁ C D us₁ s₀ (fun g' => J (i + 1) (hid L cl la g') (us₁.push y)) s₄) Fls s₃
        else BkC g₁ C D us₁ s₀ (fun g' => J (i + 1) (hid L cl la g') us₁) s₃) Fls s₁)
    (done : ∀ s' g' us' D, (∀ b o, g.get? b = some o → g'.get? b = some o) → Fo g' L cl la s'.heap (fun z => if z = y then some (.ref D) else m z) us → Gx s₀ s' → g'.PlainList D us' → us'.size ≤ n → J n g' us' → s.heap.get? D = none → Q .none s')
    (hj : J 0 g #[])
    (hcell : ∀ y ∈ scope.names, y.2 ≠ .cell := by decide) (hkind : scope.kind = .function := by rfl) (hx : scope.names.lookup x = some .local := by rfl)
    (hL : env.locals = L := by rfl) (hk : env.scope.kind = .function := by rfl) (hl : env.kindOf y = some .local := by rfl) (hc : cl.lookup y = none := by rfl) :
    CompGoU w A elt (.Name x px) iter ifs scope pos env cl' (some (assign (.Name y py) env)) (.ref I) Q s :=
  comp_core S F gx hsz J tr turn (fun s' g' us' C D mc k F' gx' hp hz hJ hns hgC hC hD => by
    show wpAny _ A (assign (.Name y py) env (.ref D)) _ _ _
    refine wpAny_assign_Name ?_
    have F'' : Fo g' L cl la s'.heap m us := F'
    subst hL
    obtain ⟨ml, h1, h2⟩ := F''.ns
    refine wpAny_storeName_local hl h1 (fun h₂ hn₂ hs₂ => ?_) (by rw [hk]; rfl)
    have hLC : C ≠ env.locals := fun q => hC (.inl q)
    refine ⟨mc, hns.sameBut hs₂ hLC, fun h₃ hs₃ => ?_⟩
    have Fn : Fo g' env.locals cl la h₂ (fun z => if z = y then some (.ref D) else m z) us := ⟨⟨_, hn₂, fun z hz => by
        try dsimp only
        rw [h2 z hz]⟩, fun z hz => by
        have hyx : z.1 ≠ y := fun q => by rw [← q, F''.uniq z hz] at hc; cases hc
        try dsimp only
        rw [if_neg hyx]
        exact (F''.cell z hz).sameBut hs₂ (F''.cL z hz), F''.uniq, F''.apart, F''.cL, fun a e => by
        obtain ⟨h3, h4⟩ := F''.lst a e
        exact ⟨h3.extBut hs₂.extBut h4.1, h4⟩, fun b o e => hs₂.extBut b o (fun q => F''.own_ne e (.inl q)) (F''.keep b o e), F''.out⟩
    exact done { s' with heap := h₃, toks := _ } g' us' D k (fo_sameBut Fn hC hgC hs₃) (gx'.re _ _) hp hz hJ hD) hj hcell hkind hx
end
end PartF5
section PartF6

/-- lists of ints -/
noncomputable def RowAt (h : Heap) (v : Value) (r : List Int) : Prop := ∃ a vs, v = .ref a ∧ h.PlainList a vs ∧ IntsAre vs.toList r
inductive RowsAre (h : Heap) : List Value → List (List Int) → Prop
  | nil : RowsAre h [] []
  | cons {v : Value} {r : List Int} {vs : List Value} {rs : List (List Int)} : RowAt h v r → RowsAre h vs rs → RowsAre h (v :: vs) (r :: rs)
section
variable {h h' : Heap}
theorem RowAt.kp {v : Value} {r : List Int} (x : RowAt h v r) (k : Kp h h') : RowAt h' v r := let ⟨a, vs, e, p, i⟩ := x; ⟨a, vs, e, k.plain p, i⟩
theorem RowsAre.kp {vs : List Value} {rs : List (List Int)} (x : RowsAre h vs rs) (k : Kp h h') : RowsAre h' vs rs := by
  induction x with
  | nil => exact .nil
  | cons x _ ih => exact .cons (x.kp k) ih
theorem RowsAre.length {vs : List Value} {rs : List (List Int)} (x : RowsAre h vs rs) : vs.length = rs.length := by
  induction x with
  | nil => rfl
  | cons _ _ ih => exact congrArg Nat.succ ih
theorem RowsAre.append {vs ws : List Value} {rs ts : List (List Int)} (x : RowsAre h vs rs) (y : RowsAre h ws ts) : RowsAre h (vs ++ ws) (rs ++ ts) := by
  induction x with
  | nil => exact y
  | cons x _ ih => exact .cons x ih
theorem RowsAre.snoc {vs : List Value} {rs : List (List Int)} {v : Value} {r : List Int} (x : RowsAre h vs rs) (y : RowAt h v r) : RowsAre h (vs ++ [v]) (rs ++ [r]) := x.append (.cons y .nil)
theorem RowsAre.push {vs : Array Value} {rs : List (List Int)} {v : Value} {r : List Int} (x : RowsAre h vs.toList rs) (y : RowAt h v r) : RowsAre h (vs.push v).toList (rs ++ [r]) := by
  rw [Array.toList_push]; exact x.snoc y
theorem RowsAre.get {vs : List Value} {rs : List (List Int)} (x : RowsAre h vs rs) : ∀ {i : Nat} {v : Value}, vs[i]? = some v → ∃ r, rs[i]? = some r ∧ RowAt h v r := by
  induction x with
  | nil => intro i v e; cases e
  | cons x _ ih =>
    intro i v e
    cases i with
    | zero => cases e; exact ⟨_, rfl, x⟩
    | succ i => exact ih (i := i) e
theorem ints_push {vs : Array Value} {ns : List Int} {n : Int} {t : Tok} (x : IntsAre vs.toList ns) : IntsAre (vs.push (.int n t)).toList (ns ++ [n]) := by
  rw [Array.toList_push]; exact x.append (.cons n t .nil)
theorem strs_push {vs : Array Value} {ns : List Str} {n : Str} {t : Tok} (x : StrsAre vs.toList ns) : StrsAre (vs.push (.str n t)).toList (ns ++ [n]) := by
  rw [Array.toList_push]; exact x.append' (.cons n t .nil)
theorem strs_get {vs : List Value} {rs : List Str} (x : StrsAre vs rs) : ∀ {i : Nat} {v : Value}, vs[i]? = some v → ∃ r t, rs[i]? = some r ∧ v = .str r t := by
  induction x with
  | nil => intro i v e; cases e
  | cons _ _ _ ih =>
    intro i v e
    cases i with
    | zero => cases e; exact ⟨_, _, rfl, rfl⟩
    | succ i => exact ih (i := i) e
theorem ints_get {vs : List Value} {rs : List Int} (x : IntsAre vs rs) : ∀ {i : Nat} {v : Value}, vs[i]? = some v → ∃ r t, rs[i]? = some r ∧ v = .int r t := by
  induction x with
  | nil => intro i v e; cases e
  | cons _ _ _ ih =>
    intro i v e
    cases i with
    | zero => cases e; exact ⟨_, _, rfl, rfl⟩
    | succ i => exact ih (i := i) e
end
theorem take_snoc {α : Type} {L : List α} {i : Nat} {x : α} (e : L[i]? = some x) : L.take (i + 1) = L.take i ++ [x] := by
  obtain ⟨h1, h2⟩ := List.getElem?_eq_some_iff.mp e
  rw [List.take_succ_eq_append_getElem h1, h2]

section
variable {w : World} {A : Around} {s : Shared} {E : Value → Shared → Prop} {g : Heap} {L : Addr} {cl : List (Str × Addr)} {la : Option Addr} {m : Str → Option Value} {us : Array Value}
theorem Fo.none_at (F : Fo g L cl la s.heap m us) {a : Addr} (ha : s.heap.objs.size ≤ a) : g.get? a = none := by
  cases e : g.get? a with
  | none => rfl
  | some o => exact absurd (Nat.lt_of_lt_of_le (Heap.lt_size (F.keep _ _ e)) ha) (Nat.lt_irrefl _)
theorem Fo.up (F : Fo g L cl la s.heap m us) {b : Addr} {o : Obj} (e : g.get? b = some o) : s.heap.get? b = some o := F.keep _ _ e
/-- a call is over that keeps all and hands on a new list -/
theorem Fo.got {s' : Shared} (F : Fo g L cl la s.heap m us) (k : ∀ b o, s.heap.get? b = some o → s'.heap.get? b = some o) : ∃ g', (∀ b o, g.get? b = some o → g'.get? b = some o) ∧ Fo g' L cl la s'.heap m us ∧
    (∀ b o, s'.heap.get? b = some o → ¬ Own L cl la b → g'.get? b = some o) ∧ ∀ b, s.heap.get? b = none → ¬ Own L cl la b := by
  obtain ⟨g', k1, k2, k3⟩ := F.after k
  refine ⟨g', k1, k2, k3, fun b e q => ?_⟩
  rcases q with rfl | ⟨x, hx, rfl⟩ | q
  · obtain ⟨ml, ⟨o, _, _, ho, _⟩, _⟩ := F.ns; rw [ho] at e; cases e
  · obtain ⟨o, ho, _⟩ := F.cell x hx; rw [ho] at e; cases e
  · obtain ⟨⟨n, ho⟩, _⟩ := F.lst b q; rw [ho] at e; cases e

theorem src_list {l : Addr} {items : Array Value} {Q : Value → Shared → Prop} (F : Fo g L cl la s.heap m us) (hh : A.handled = none) (hl : g.IsList l items)
    (h : ∀ I h', Fo g L cl la h' m us → (∀ b o, s.heap.get? b = some o → h'.get? b = some o) → Src w A g L cl la h' I items.size (fun i v => items[i]? = some v) → Q (.ref I) { s with heap := h' }) :
    wpAny (model PWx w) A (pyIter (.ref l)) Q E s := by
  have hl' : s.heap.IsList l items := lkeeps hl F.keep
  have hll : l < s.heap.objs.size := by obtain ⟨o, ho, _⟩ := hl'; exact Heap.lt_size ho
  refine wpAny_pyIter_list hl' (h _ _ (F.push _) (fun b o e => Heap.get?_push_of_some _ e) ⟨_, _, Walks.list hh _ l (Nat.ne_of_lt hll) items, ⟨⟨_, Heap.get?_push_size _ rfl, rfl, rfl⟩, hl'.push _⟩, fun b hb q => ?_, fun b hb => ?_, F.none_at (Nat.le_refl _), fun i h' o st e => ?_⟩)
  · rcases List.mem_cons.mp hb with rfl | hb
    · exact F.new_ne (Nat.le_refl _) q
    · rw [List.mem_singleton] at hb
      subst hb
      obtain ⟨o, ho, _⟩ := hl
      exact F.own_ne ho q
  · rw [Heap.size_push]
    rcases List.mem_cons.mp hb with rfl | hb
    · exact Nat.lt_succ_self _
    · rw [List.mem_singleton] at hb
      subst hb
      exact Nat.lt_succ_of_lt hll
  · obtain ⟨⟨o', ho', hc, hd⟩, _⟩ := st
    cases ho'.symm.trans e
    unfold nit
    rw [hc]
    decide
theorem src_str {x : Str} {t : Tok} {Q : Value → Shared → Prop} (F : Fo g L cl la s.heap m us) (hh : A.handled = none)
    (h : ∀ I h', Fo g L cl la h' m us → (∀ b o, s.heap.get? b = some o → h'.get? b = some o) → Src w A g L cl la h' I x.cps.size (SignAt x) → Q (.ref I) { s with heap := h' }) :
    wpAny (model PWx w) A (pyIter (.str x t)) Q E s := by
  have hn : ∀ b ∈ [s.heap.objs.size], ¬ Own L cl la b := fun b hb q => by
    rw [List.mem_singleton] at hb
    subst hb
    exact F.new_ne (Nat.le_refl _) q
  have hlt : ∀ o, ∀ b ∈ [s.heap.objs.size], b < (s.heap.push o).objs.size := fun o b hb => by
    rw [List.mem_singleton] at hb
    rw [Heap.size_push, hb]
    exact Nat.lt_succ_self _
  cases ha : x.cps.all (· < 128)
  · refine wpAny_pyIter_wide ha (h _ _ (F.push _) (fun b o e => Heap.get?_push_of_some _ e) ⟨_, _, Walks.strWide hh _ x t, ⟨_, Heap.get?_push_size _ rfl, rfl, rfl⟩, hn, hlt _, F.none_at (Nat.le_refl _), fun i h' o st e => ?_⟩)
    obtain ⟨o', ho', hc, hd⟩ := st
    cases ho'.symm.trans e
    unfold nit
    rw [hc]
    decide
  · refine wpAny_pyIter_ascii ha (h _ _ (F.push _) (fun b o e => Heap.get?_push_of_some _ e) ⟨_, _, Walks.strAscii hh _ x t, ⟨_, Heap.get?_push_size _ rfl, rfl, rfl⟩, hn, hlt _, F.none_at (Nat.le_refl _), fun i h' o st e => ?_⟩)
    obtain ⟨o', ho', hc, hd⟩ := st
    cases ho'.symm.trans e
    unfold nit
    rw [hc]
    decide
theorem src_rangeO {r : Addr} {a b c : Int} {t u v : Tok} {n : Nat} {Q : Value → Shared → Prop} (F : Fo g L cl la s.heap m us) (hh : A.handled = none) (hr : IsRange s.heap r a b c t u v)
    (hsm : Builtin.Range.small a b c = true) (hn : Builtin.Range.rangeSize a b c = n)
    (h : ∀ I h', Fo g L cl la h' m us → (∀ b o, s.heap.get? b = some o → h'.get? b = some o) → Src w A g L cl la h' I n (fun i v => ∃ t, v = .int (a + i * c) t) → Q (.ref I) { s with heap := h' }) :
    wpAny (model PWx w) A (pyIter (.ref r)) Q E s := by
  refine wpAny_pyIter_range hr hsm (h _ _ (F.push _) (fun b o e => Heap.get?_push_of_some _ e) ⟨_, _, Walks.range hh _ a c n, ?_, fun b hb q => ?_, fun b hb => ?_, F.none_at (Nat.le_refl _), fun i h' o st e => ?_⟩)
  · rw [hn]
    have e : IsRangeIter (s.heap.push { cls := .type "range_iterator", data := .fields #[rawInt a, rawInt n, rawInt c] }) s.heap.objs.size a n c := Heap.get?_push_size _ rfl
    simpa using e
  · rw [List.mem_singleton] at hb
    subst hb
    exact F.new_ne (Nat.le_refl _) q
  · rw [List.mem_singleton] at hb
    rw [Heap.size_push, hb]
    exact Nat.lt_succ_self _
  · cases st.symm.trans e
    rfl
/-- range(a, b), walked -/
theorem src_range2 {a b : Int} {t u : Tok} {Q : Value → Shared → Prop} (F : Fo g L cl la s.heap m us) (hh : A.handled = none) (h1 : -(2 ^ 62) ≤ a) (h2 : a < 2 ^ 62) (h3 : -(2 ^ 62) ≤ b) (h4 : b < 2 ^ 62)
    (h : ∀ I h' tk, Fo g L cl la h' m us → (∀ b o, s.heap.get? b = some o → h'.get? b = some o) → Src w A g L cl la h' I (b - a).toNat (fun i v => ∃ t, v = .int (a + i * 1) t) → Q (.ref I) { s with heap := h', toks := tk }) :
    wpAny (model PWx w) A (call (.type "range") [.int a t, .int b u]) (fun x s₁ => wpAny (model PWx w) A (pyIter x) Q E s₁) E s := by
  refine call_range_2 ?_
  refine src_rangeO (s := { s with heap := _, toks := s.toks + 1 }) (F.push _) hh (IsRange.new s.heap a b 1 t u s.toks) (small_one h1 h2 h3 h4) (rangeSize_nat a b) fun I h' F' k S => h I h' _ F' (fun b o e => k b o (Heap.get?_push_of_some _ e)) S
theorem src_range1 {b : Int} {u : Tok} {Q : Value → Shared → Prop} (F : Fo g L cl la s.heap m us) (hh : A.handled = none) (h3 : -(2 ^ 62) ≤ b) (h4 : b < 2 ^ 62)
    (h : ∀ I h' tk, Fo g L cl la h' m us → (∀ b o, s.heap.get? b = some o → h'.get? b = some o) → Src w A g L cl la h' I (b - 0).toNat (fun i v => ∃ t, v = .int (0 + i * 1) t) → Q (.ref I) { s with heap := h', toks := tk }) :
    wpAny (model PWx w) A (call (.type "range") [.int b u]) (fun x s₁ => wpAny (model PWx w) A (pyIter x) Q E s₁) E s := by
  refine call_range_1 ?_
  exact src_rangeO (s := { s with heap := _, toks := s.toks + 1 + 1 }) (F.push _) hh (IsRange.new s.heap 0 b 1 _ _ _) (small_one (by decide) (by decide) h3 h4) (rangeSize_nat 0 b) fun I h' F' k S => h I h' _ F' (fun b o e => k b o (Heap.get?_push_of_some _ e)) S
/-- a list and a list -/
theorem o_add {l b : Addr} {vs ws : List Value} {Q : Value → Shared → Prop} (F : Fo g L cl la s.heap m us) (hl : s.heap.IsList l vs.toArray) (hb : s.heap.IsList b ws.toArray)
    (h : ∀ h' g', Fo g' L cl la h' m us → (∀ b o, g.get? b = some o → g'.get? b = some o) → g'.PlainList s.heap.objs.size (vs ++ ws).toArray → (∀ b o, s.heap.get? b = some o → h'.get? b = some o) → ¬ Own L cl la s.heap.objs.size → s.heap.get? s.heap.objs.size = none → Q (.ref s.heap.objs.size) { s with heap := h' })
    (hsz : vs.length + ws.length ≤ sizeLine) :
    wpAny (model PWx w) A (binaryOp .Add (.ref l) (.ref b)) Q E s := by
  obtain ⟨⟨cls, dd, data, sl⟩, ho, hc, n, hd⟩ := id hl
  obtain ⟨⟨cls2, dd2, data2, sl2⟩, ho2, hc2, n2, hd2⟩ := id hb
  simp only at hc hd hc2 hd2
  subst hc hd hc2 hd2
  have e : vs.toArray ++ ws.toArray = (vs ++ ws).toArray := by simp
  refine concat_meets ⟨_, ho, rfl⟩ ⟨_, ho2, rfl⟩ noFill_list_add seq_list_add PySem.F.slot_list_add PySem.F.entry_list_add (PySem.F.args_list_add_2 _ _) (list_addW l b vs.toArray ws.toArray n n2 dd dd2 sl sl2 (by simpa using hsz)) ⟨ho, ho2, ?_⟩
  rw [e]
  obtain ⟨g', h1, h2, h3⟩ := (F.push { cls := .type "list", data := .seq (vs ++ ws).toArray }).all
  refine h _ g' h2 h1 ⟨_, h3 _ _ (Heap.get?_push_size _ rfl) (F.new_ne (Nat.le_refl _))⟩ (fun _ _ e => Heap.get?_push_of_some _ e) (F.new_ne (Nat.le_refl _)) ?_
  cases e : s.heap.get? s.heap.objs.size with
  | none => rfl
  | some o => exact absurd (Heap.lt_size e) (Nat.lt_irrefl _)
/-- an item -/
theorem o_item {value slice : PySem.Expr} {l : Addr} {vs : Array Value} {k : Int} {u : Tok} {v : Value} {Q : Value → Shared → Prop} 
    (hl : s.heap.IsList l vs) (h0 : 0 ≤ k) (hhi : k < 2 ^ 63) (hx : vs[k.toNat]? = some v) (h : Q v s)
    (hs : subscripted slice false (.ref l) (.int k u) = operate [.ref l, .int k u] (getItem (.ref l) (.int k u)) := by with_unfolding_all rfl) :
    wpAny (model PWx w) A (subscriptTail value slice (.ref l) (.int k u)) Q E s :=
  tail_any hl.typeIs slot_list_getitem.lookup (wpAny_getItem_list hl h0 hhi hx h) hs
end
end PartF6
section PartF7
section
variable {prog : Program} {w : World} {A : Around} {s : Shared} {E : Value → Shared → Prop} {env : Env}
theorem at_iter {x : Value} {Q : Value → Shared → Prop} (h : wpAny (model prog w) A (pyIter x) Q E s) : wpAny (model prog w) A (pyIter x) Q E s := h
theorem at_sub {v l : PySem.Expr} {x y : Value} {Q : Value → Shared → Prop} (h : wpAny (model prog w) A (subscriptTail v l x y) Q E s) : wpAny (model prog w) A (subscriptTail v l x y) Q E s := h
theorem at_bin {op : Operator} {l b : Addr} {Q : Value → Shared → Prop} (h : wpAny (model prog w) A (binaryOp op (.ref l) (.ref b)) Q E s) : wpAny (model prog w) A (binaryOp op (.ref l) (.ref b)) Q E s := h
theorem at_bin2 {op : Operator} {x : Str} {t : Tok} {b : Value} {Q : Value → Shared → Prop} (h : wpAny (model prog w) A (binaryOp op (.str x t) b) Q E s) : wpAny (model prog w) A (binaryOp op (.str x t) b) Q E s := h
theorem at_callb {id : String} {vs : List Value} {kw : List (Str × Value)} {Q : Value → Shared → Prop} (h : wpAny (model prog w) A (call (.builtin id) vs kw) Q E s) : wpAny (model prog w) A (call (.builtin id) vs kw) Q E s := h
theorem at_callt {id : String} {vs : List Value} {kw : List (Str × Value)} {Q : Value → Shared → Prop} (h : wpAny (model prog w) A (call (.type id) vs kw) Q E s) : wpAny (model prog w) A (call (.type id) vs kw) Q E s := h
theorem at_cmp {op : CmpOp} {x : Value} {b : Addr} {Q : Value → Shared → Prop} (h : wpAny (model prog w) A (compareOp op x (.ref b)) Q E s) : wpAny (model prog w) A (compareOp op x (.ref b)) Q E s := h
theorem at_inp {op : Operator} {l : Addr} {b : Value} {Q : Value → Shared → Prop} (h : wpAny (model prog w) A (inplaceOp op (.ref l) b) Q E s) : wpAny (model prog w) A (inplaceOp op (.ref l) b) Q E s := h
theorem at_methv {v : Value} {n : Str} {pl : Sem Bool} {Q : Value × List Value → Shared → Prop} (h : wpAny (model prog w) A (getMethod v n pl) Q E s) : wpAny (model prog w) A (getMethod v n pl) Q E s := h
theorem at_asg {y : Str} {py pos spos : Pos} {e : PySem.Expr} {gs : List Comprehension} {sc : Scope} {Q : Flow → Shared → Prop} (h : wpAny (model prog w) A (exec (.Assign [.Name y py] (.ListComp e gs sc pos) spos) env) Q E s) : wpAny (model prog w) A (exec (.Assign [.Name y py] (.ListComp e gs sc pos) spos) env) Q E s := h
theorem at_tests {ifs : List PySem.Expr} {Q : Bool → Shared → Prop} (h : wpAny (model prog w) A (forIn ifs true fun c r => if r = true then do let ok ← isTrue c env (eval c env); pure (ForInStep.yield ok) else pure (ForInStep.yield r)) Q E s) : wpAny (model prog w) A (forIn ifs true fun c r => if r = true then do let ok ← isTrue c env (eval c env); pure (ForInStep.yield ok) else pure (ForInStep.yield r)) Q E s := h
end
theorem at_R {R : Result → Shared → Prop} {r : Result} {s : Shared} (h : R r s) : R r s := h
end PartF7
section PartF8
noncomputable def maxP : List Int → Int
  | [] => 0
  | [x] => x
  | x :: y :: r => max x (maxP (y :: r))
theorem maxP_spec : ∀ (l : List Int), l ≠ [] → maxP l ∈ l ∧ ∀ a ∈ l, a ≤ maxP l
  | [], h => absurd rfl h
  | [x], _ => ⟨.head _, fun a h => by rw [List.mem_singleton] at h; rw [h]; exact Int.le_refl _⟩
  | x :: y :: r, _ => by
    obtain ⟨h1, h2⟩ := maxP_spec (y :: r) (by simp)
    refine ⟨?_, fun a h => ?_⟩
    · show max x (maxP (y :: r)) ∈ _
      rcases Int.le_total x (maxP (y :: r)) with q | q
      · rw [Int.max_eq_right q]; exact .tail _ h1
      · rw [Int.max_eq_left q]; exact .head _
    · show a ≤ max x (maxP (y :: r))
      rcases List.mem_cons.mp h with rfl | h
      · exact Int.le_max_left ..
      · exact Int.le_trans (h2 a h) (Int.le_max_right ..)
theorem maxP_eq {l : List Int} {M : Int} (h1 : M ∈ l) (h2 : ∀ a ∈ l, a ≤ M) : M = maxP l := by
  obtain ⟨h3, h4⟩ := maxP_spec l (List.ne_nil_of_mem h1)
  exact Int.le_antisymm (h4 _ h1) (h2 _ h3)
theorem none_back {h h' : Heap} {a : Addr} (k : ∀ b o, h.get? b = some o → h'.get? b = some o) (e : h'.get? a = none) : h.get? a = none := by
  cases q : h.get? a with
  | none => rfl
  | some o => rw [k _ _ q] at e; cases e
section
variable {w : World} {A : Around} {s : Shared} {E : Value → Shared → Prop} {g : Heap} {L : Addr} {cl : List (Str × Addr)} {la : Option Addr} {m : Str → Option Value} {us : Array Value} {l : Addr} {vs : List Value} {ns : List Int}
theorem o_sum {Q : Value → Shared → Prop} (hh : A.handled = none) (hl : s.heap.IsList l vs.toArray) (hi : IntsAre vs ns)
    (h : ∀ h' tk t, (∀ b o, s.heap.get? b = some o → h'.get? b = some o) → Q (.int ns.sum t) { s with heap := h', toks := tk }) : wpAny (model PWx w) A (call (.builtin "sum") [.ref l]) Q E s := by
  obtain ⟨xs, hx⟩ := hi.allInts.items
  have hn := hi.numsOf
  have hv : vs = (intItems xs).toList := by rw [← hx]
  rw [hv, nums_intItems] at hn
  rw [hx] at hl
  refine sum_intListG hh hl fun h' tk t' hk => ?_
  have := h h' tk t' hk
  rw [preSum_eq, List.take_of_length_le (by simp), hn]
  exact this
theorem o_max {Q : Value → Shared → Prop} (hh : A.handled = none) (hl : s.heap.IsList l vs.toArray) (hi : IntsAre vs ns) (hne : ns ≠ [])
    (h : ∀ h' tk t, (∀ b o, s.heap.get? b = some o → h'.get? b = some o) → Q (.int (maxP ns) t) { s with heap := h', toks := tk }) : wpAny (model PWx w) A (call (.builtin "max") [.ref l]) Q E s := by
  obtain ⟨xs, hx⟩ := hi.allInts.items
  have hn := hi.numsOf
  have hv : vs = (intItems xs).toList := by rw [← hx]
  rw [hv, nums_intItems] at hn
  rw [hx] at hl
  have hsz : 0 < xs.size := by
    have : ns.length = xs.size := by rw [← hn]; simp
    rw [← this]
    exact List.length_pos_iff.mpr hne
  refine max_intList hh hl hsz fun v h' tk hv hk => ?_
  obtain ⟨t, rfl⟩ := intItems_at hv
  obtain ⟨h1, h2⟩ := argBest_gt (numAt xs) (xs.size - 1)
  have e : numAt xs (argBest (fun i j => decide (numAt xs i > numAt xs j)) (xs.size - 1)) = maxP ns := by
    refine maxP_eq ?_ fun a ha => ?_
    · rw [numAt_eq, hn]
      refine getD_mem ?_
      have : ns.length = xs.size := by rw [← hn]; simp
      lia
    · rw [← hn] at ha
      obtain ⟨j, hj, rfl⟩ := mem_getD ha
      rw [List.length_map, Array.length_toList] at hj
      rw [← numAt_eq]; exact h2 j (by lia)
  rw [e]
  exact h h' tk t hk
theorem o_len {items : Array Value} {Q : Value → Shared → Prop} (hl : s.heap.IsList l items) (hf : items.size < 2 ^ 20) (h : ∀ tk t, Q (.int items.size t) { s with toks := tk }) : wpAny (model PWx w) A (call (.builtin "len") [.ref l]) Q E s :=
  Calls.call_len_list hl (by lia) (h _ _)
theorem rangeSize_neg (a : Int) (c : Int) (hc : 0 < c) : Builtin.Range.rangeSize a 0 (-c) = (if 0 < a then ((a - 1) / c + 1).toNat else 0 : Nat) := by
  unfold Builtin.Range.rangeSize
  rw [if_neg (by lia)]
  by_cases h : 0 < a
  · have : 0 ≤ (a - 1) / c := Int.ediv_nonneg (by lia) (by lia)
    rw [if_pos h, if_pos h, Int.neg_neg, show a - 0 - 1 = a - 1 by lia]
    lia
  · rw [if_neg h, if_neg h]
    rfl
theorem small_neg {a c : Int} (h1 : -(2 ^ 30) ≤ a) (h2 : a < 2 ^ 30) (hc : 0 < c) (hc' : c < 2 ^ 30) : Builtin.Range.small a 0 (-c) = true := by
  unfold Builtin.Range.small
  rw [rangeSize_neg a c hc]
  have h4 : 0 < a → (a - 1) / c ≤ a - 1 := fun h => Int.ediv_le_self _ (by lia)
  have h3 : 0 < a → 0 ≤ (a - 1) / c := fun h => Int.ediv_nonneg (by lia) (by lia)
  have h5 : (0 : Int) ≤ ((if 0 < a then ((a - 1) / c + 1).toNat else 0 : Nat) : Int) ∧ ((if 0 < a then ((a - 1) / c + 1).toNat else 0 : Nat) : Int) < 2 ^ 31 := by
    by_cases h : 0 < a
    · rw [if_pos h]
      have := h4 h
      have := h3 h
      generalize (a - 1) / c = q at *
      lia
    · rw [if_neg h]
      decide
  generalize ((if 0 < a then ((a - 1) / c + 1).toNat else 0 : Nat) : Int) = n at h5
  have hn : ¬ (-c > 0) := by lia
  simp only [Builtin.Range.rangeFitsLong, Bool.and_eq_true, Bool.or_eq_true, decide_eq_true_eq, beq_iff_eq, if_neg hn]
  lia
/-- range(a, 0, -c), walked -/
theorem src_range3 {a c : Int} {t u v : Tok} {Q : Value → Shared → Prop} (F : Fo g L cl la s.heap m us) (hh : A.handled = none) (h1 : -(2 ^ 30) ≤ a) (h2 : a < 2 ^ 30) (hc : 0 < c) (hc' : c < 2 ^ 30)
    (hp : Builtin.divisionGoesByPylong (0 - a) (-c) = false ∨ PySem.PylongRoom (model PWx w) A s)
    (h : ∀ I h' tk, Fo g L cl la h' m us → (∀ b o, s.heap.get? b = some o → h'.get? b = some o) → Src w A g L cl la h' I (if 0 < a then ((a - 1) / c + 1).toNat else 0) (fun i v => ∃ t, v = .int (a + i * -c) t) → Q (.ref I) { s with heap := h', toks := tk }) :
    wpAny (model PWx w) A (call (.type "range") [.int a t, .int 0 u, .int (-c) v]) (fun x s₁ => wpAny (model PWx w) A (pyIter x) Q E s₁) E s := by
  refine call_range_3 (by lia) ?_ hp
  exact src_rangeO (s := { s with heap := _, toks := s.toks }) (F.push _) hh (IsRange.new s.heap a 0 (-c) _ _ _) (small_neg h1 h2 hc hc') (rangeSize_neg a c hc) fun I h' F' k S => h I h' _ F' (fun b o e => k b o (Heap.get?_push_of_some _ e)) S
end
theorem size_none (h : Heap) : h.get? h.objs.size = none := by
  cases e : h.get? h.objs.size with
  | none => rfl
  | some o => exact absurd (Heap.lt_size e) (Nat.lt_irrefl _)
theorem ge_none {h : Heap} {a : Addr} (q : h.objs.size ≤ a) : h.get? a = none := by
  cases e : h.get? a with
  | none => rfl
  | some o => exact absurd (Nat.lt_of_lt_of_le (Heap.lt_size e) q) (Nat.lt_irrefl _)
theorem Fo.fresh {s : Shared} {g h : Heap} {cl : List (Str × Addr)} {la : Option Addr} {m : Str → Option Value} {us : Array Value} (F : Fo g s.heap.objs.size cl la h m us) : s.heap.get? h.objs.size = none := ge_none (Nat.le_of_lt (F.lt (.inl rfl)))
/-- something new is not the outer frame's own -/
theorem hid_plain {L : Addr} {cl : List (Str × Addr)} {la : Option Addr} {g₁ g' h : Heap} {a : Addr} {vs : Array Value} {C : Addr} {cl' : List (Str × Addr)} {la' : Option Addr} {m : Str → Option Value} {us : Array Value}
    (F : Fo g₁ C cl' la' h m us) (hown : ∀ b, Own L cl la b → ∃ o, g₁.get? b = some o) (hn : h.get? a = none) (hp : g'.PlainList a vs) : (hid L cl la g').PlainList a vs := by
  obtain ⟨n, e⟩ := hp
  refine ⟨n, hid_get e fun q => ?_⟩
  obtain ⟨o, ho⟩ := hown a q
  rw [F.keep _ _ ho] at hn
  cases hn
end PartF8
section PartF9
theorem lookup_iadd : typeLookup (.type "list") (dunderI "add") = pure (some (.builtin "list.__iadd__")) := PySem.F.slot_list_iadd.lookup
theorem seq_iadd : isSeqSlot (some (.builtin "list.__iadd__")) = true := by decide +kernel
section
variable {prog : Program} {w : World} {A : Around} {E : Value → Shared → Prop} {s : Shared}
theorem o_iadd {l b : Addr} {vs ws : Array Value} {Q : Value → Shared → Prop} (hl : s.heap.PlainList l vs) (hb : s.heap.PlainList b ws) (hsz : vs.size + ws.size ≤ sizeLine)
    (h : ∀ h', h'.PlainList l (vs ++ ws) → Heap.SameBut l s.heap h' → Q (.ref l) { s with heap := h' }) : wpAny (model prog w) A (inplaceOp .Add (.ref l) (.ref b)) Q E s := by
  have ha : s.TypeIs (.ref l) "list" := hl.isList.typeIs
  have hb' : s.TypeIs (.ref b) "list" := hb.isList.typeIs
  unfold inplaceOp
  refine wpAny_holding ?_
  have hfi : fillsInplaceSlot (.type "list") "add" (Operator.Add == .Add) = pure false := by
    unfold fillsInplaceSlot
    show (typeLookup (.type "list") (dunderI "add") >>= fun fi => pure (fi.isSome && !isSeqSlot fi)) = pure false
    rw [lookup_iadd]
    show pure ((some (Value.builtin "list.__iadd__")).isSome && !isSeqSlot (some (.builtin "list.__iadd__"))) = (pure false : Sem Bool)
    rw [seq_iadd]
    rfl
  have hsi : seqSlot? (.type "list") (dunderI "add") = pure (some (.builtin "list.__iadd__")) := by
    unfold seqSlot?
    rw [lookup_iadd]
    show pure (if isSeqSlot (some (Value.builtin "list.__iadd__")) = true then some (Value.builtin "list.__iadd__") else none) = (pure (some (.builtin "list.__iadd__")) : Sem (Option Value))
    rw [seq_iadd]
    rfl
  refine wpAny_bind (wpAny_typeOf ha (wpAny_bind (wpAny_of_eq hfi ?_)))
  show wpAny _ A (if false = true then _ else _) Q E s
  rw [if_neg Bool.false_ne_true]
  refine wpAny_bind (wpAny_binaryOp1_none (nm := "add") ha hb' noFill_list_add ?_)
  refine wpAny_bind (wpAny_of_eq hsi ?_)
  refine wpAny_bind (wpAny_rule ?_)
  obtain ⟨n, ho⟩ := hl
  obtain ⟨n2, ho2⟩ := hb
  refine (call_meets PySem.F.slot_list_iadd ha PySem.F.entry_list_iadd (PySem.F.args_list_iadd_2 _ _) (AutoSeq1.list___iadd___list_list_0 l vs n b ws n2 (extend_door hsz) (Nat.le_trans (Nat.le_add_right _ _) hsz) (Nat.le_succ_of_le hsz)) ⟨ho, ho2, (h _ ⟨if (vs ++ ws).size == vs.size then n else n + 1, ?_⟩ (Heap.SameBut.update ..))⟩)
  exact (Heap.get?_update_self _ ho (by rw [mapSeq_app]; rfl)).trans (by rw [mapSeq_app])
end
noncomputable def isK (k : Int) : Value → Bool
  | .int i _ => i == k
  | _ => false
theorem any_isK (k : Int) {vs : List Value} {ns : List Int} (x : IntsAre vs ns) : vs.any (isK k) = ns.contains k := by
  induction x with
  | nil => rfl
  | cons n t _ ih =>
    rw [List.any_cons, List.contains_cons, ih, Bool.beq_comm (a := k)]
    rfl
section
variable {prog : Program} {w : World} {A : Around} {E : Value → Shared → Prop} {s : Shared}
theorem o_notIn {l : Addr} {vs : List Value} {ns : List Int} {k : Int} {t : Tok} {Q : Value → Shared → Prop} (hl : s.heap.IsList l vs.toArray) (hi : IntsAre vs ns) (h : Q (.bool (!ns.contains k)) s) :
    wpAny (model prog w) A (compareOp .NotIn (.int k t) (.ref l)) Q E s := by
  refine SeqInW.notIn_listW (isK k) (fun y hy => ?_) hl ?_
  · obtain ⟨a, u, rfl⟩ := hi.all y (by simpa using hy)
    exact MeetsSeq.EqGives.int a k u t
  · rw [← Array.any_toList, List.toList_toArray, any_isK k hi]; exact h
end
theorem at_if {prog : Program} {w : World} {A : Around} {s : Shared} {E : Value → Shared → Prop} {env : Env} {t : PySem.Expr} {b o : List Stmt} {pos : Pos} {Q : Flow → Shared → Prop} (h : wpAny (model prog w) A (exec (.If t b o pos) env) Q E s) : wpAny (model prog w) A (exec (.If t b o pos) env) Q E s := h
structure Cap (x : Str) (g : Heap) (c : Addr) (v : Option Value) : Prop where
  is : g.IsCell c v
/-- a captured name, by its name -/
theorem o_capN {M : Model} {A : Around} {E : Value → Shared → Prop} {s : Shared} {g : Heap} {L : Addr} {cl : List (Str × Addr)} {la : Option Addr} {m : Str → Option Value} {us : Array Value} {env : Env} {x : Str} {pos : Pos} {c : Addr} {v : Value} {Q : Value → Shared → Prop} (F : Fo g L cl la s.heap m us) (hv : Cap x g c (some v)) (h : Q v s)
    (hc : env.cells.lookup x = some c := by rfl) (hk : env.scope.kind = .function := by rfl) (hl : env.kindOf x = some .cell := by rfl) (hd : (x == ("__debug__" : Str)) = false := by decide) :
    wpAny M A (eval (.Name x pos) env) Q E s := o_cap F hv.is h hc hk hl hd
theorem o_slice {w : World} {A : Around} {E : Value → Shared → Prop} {s : Shared} {g : Heap} {L : Addr} {cl : List (Str × Addr)} {la : Option Addr} {m : Str → Option Value} {us : Array Value} {value slice : PySem.Expr} {l : Addr} {items : Array Value} {vl vu vk : Value} {lo hi st : Option Int} {ops : List Value} {Q : Value → Shared → Prop}
    (F : Fo g L cl la s.heap m us) (hl : s.heap.IsList l items) (pl : IsPart vl lo) (pu : IsPart vu hi) (pk : IsPart vk st) (h0 : st ≠ some 0) (hsz : items.size ≤ sizeLine)
    (h : ∀ c h' g', Fo g' L cl la h' m us → (∀ b o, g.get? b = some o → g'.get? b = some o) → g'.PlainList c (slicePick items lo hi st) → (∀ b o, s.heap.get? b = some o → h'.get? b = some o) → s.heap.get? c = none → Q (.ref c) { s with heap := h' })
    (hs : subscripted slice false (.ref l) (.ref s.heap.objs.size) = operate ops (getItem (.ref l) (.ref s.heap.objs.size)) := by with_unfolding_all rfl)
    (ht : ∀ r, letTemporaryGo value (.ref l) r = pure () := by intro _; with_unfolding_all rfl) :
    wpAny (model PWx w) A (subscriptTail value slice (.ref l) (.ref s.heap.objs.size)) Q E { s with heap := s.heap.push { cls := .type "slice", data := .fields #[vl, vu, vk] } } := by
  refine subscriptTail_ops (Heap.IsList.typeIs (s := { s with heap := s.heap.push { cls := .type "slice", data := .fields #[vl, vu, vk] } }) (hl.push _)) list_getitem_lookup
    (wpAny_getItem_list_slice (hl.push _) (Heap.IsSliceOf.new ..) pl pu pk h0 ?_ hsz) hs ht
  have F1 := F.push { cls := .type "slice", data := .fields #[vl, vu, vk] }
  obtain ⟨g', h1, h2, h3⟩ := (F1.push { cls := .type "list", data := .seq (slicePick items lo hi st) }).all
  refine h _ _ g' h2 h1 ⟨_, h3 _ _ (Heap.get?_push_size _ rfl) (F1.new_ne (Nat.le_refl _))⟩ (fun _ _ e => Heap.get?_push_of_some _ (Heap.get?_push_of_some _ e)) (ge_none (by rw [Heap.size_push]; exact Nat.le_succ _))
section
variable {w : World} {A : Around} {E : Value → Shared → Prop} {s : Shared} {g : Heap} {L : Addr} {cl : List (Str × Addr)} {la : Option Addr} {m : Str → Option Value} {us : Array Value} {env : Env}
theorem at_list {prog : Program} {es : List PySem.Expr} {pos : Pos} {Q : Value → Shared → Prop} (h : wpAny (model prog w) A (eval (.List es pos) env) Q E s) : wpAny (model prog w) A (eval (.List es pos) env) Q E s := h
theorem o_unpackItems {t : Addr} {items : Array Value} {n : Nat} {Q : List Value → Shared → Prop} (F : Fo g L cl la s.heap m us) (hh : A.handled = none) (ht : s.heap.IsTuple t items) (hn : n = items.size)
    (h : ∀ h', Fo g L cl la h' m us → (∀ b o, s.heap.get? b = some o → h'.get? b = some o) → Q items.toList { s with heap := h' }) : wpAny (model PWx w) A (unpackItems (.ref t) n none) Q E s := by
  subst hn
  refine wpAny_unpackItems_tuple hh ht fun h' he => ?_
  have k : ∀ b o, s.heap.get? b = some o → h'.get? b = some o := fun b o e => he b o (Nat.ne_of_lt (Heap.lt_size e)) e
  exact h h' (F.keeps k) k
theorem two_list {a b : Int} {p1 p2 pos : Pos} {Q : Value → Shared → Prop} (F : Fo g L cl la s.heap m us)
    (h : ∀ c h' g' tk t1 t2, Fo g' L cl la h' m us → (∀ b o, g.get? b = some o → g'.get? b = some o) → g'.PlainList c #[.int a t1, .int b t2] → (∀ b o, s.heap.get? b = some o → h'.get? b = some o) → s.heap.get? c = none → Q (.ref c) { s with heap := h', toks := tk }) :
    wpAny (model PWx w) A (eval (.List [.Constant (.int a) 0 p1, .Constant (.int b) 0 p2] pos) env) Q E s := by
  refine List_ ?_
  refine spliced_more ?_
  walk1
  refine spliced_more ?_
  walk1
  refine spliced_none ?_
  refine o_newList F fun h' g' F' kg' IL K => ?_
  exact h _ _ _ _ _ _ F' kg' IL K (size_none _)
theorem no_list {pos : Pos} {Q : Value → Shared → Prop} (F : Fo g L cl la s.heap m us)
    (h : ∀ c h' g' tk, Fo g' L cl la h' m us → (∀ b o, g.get? b = some o → g'.get? b = some o) → g'.PlainList c #[] → (∀ b o, s.heap.get? b = some o → h'.get? b = some o) → s.heap.get? c = none → Q (.ref c) { s with heap := h', toks := tk }) :
    wpAny (model PWx w) A (eval (.List [] pos) env) Q E s := by
  refine List_ ?_
  refine spliced_none ?_
  refine o_newList F fun h' g' F' kg' IL K => ?_
  exact h _ _ _ _ F' kg' IL K (size_none _)
theorem spl_list {M : Model} {es rest : List PySem.Expr} {pos' pos : Pos} {Q : List Value → Shared → Prop}
    (h : wpAny M A (eval (.List es pos') env) (fun v s₁ => wpAny M A (spliced (backTo pos (starEach rest env))) (fun vs s₂ => Q (v :: vs) s₂) E s₁) E s) : wpAny M A (spliced (backTo pos (starEach (.List es pos' :: rest) env))) Q E s := spliced_more h
theorem list_ {es : List PySem.Expr} {pos : Pos} {Q : Value → Shared → Prop} (h : wpAny (model PWx w) A (spliced (backTo pos (starEach es env))) (fun vs s₁ => wpAny (model PWx w) A (newList vs) Q E s₁) E s) : wpAny (model PWx w) A (eval (.List es pos) env) Q E s := List_ h
end
theorem Fo.notOwn {g h : Heap} {L : Addr} {cl : List (Str × Addr)} {la : Option Addr} {m : Str → Option Value} {us : Array Value} (F : Fo g L cl la h m us) {b : Addr} (e : h.get? b = none) : ¬ Own L cl la b := fun q => by
  rcases q with rfl | ⟨x, hx, rfl⟩ | q
  · obtain ⟨ml, ⟨o, _, _, ho, _⟩, _⟩ := F.ns; rw [ho] at e; cases e
  · obtain ⟨o, ho, _⟩ := F.cell x hx; rw [ho] at e; cases e
  · obtain ⟨⟨n, ho⟩, _⟩ := F.lst b q; rw [ho] at e; cases e
/-- back to an elder base, and a new list the frame's own -/
theorem Fo.own {g g' h : Heap} {L : Addr} {cl : List (Str × Addr)} {m : Str → Option Value} {us : Array Value} {a : Addr} {vs : Array Value} (F : Fo g' L cl none h m us) (k : ∀ b o, g.get? b = some o → g'.get? b = some o) (hl : g'.PlainList a vs) (hg : g.get? a = none) : Fo g L cl (some a) h m vs :=
  (F.based (fun b o e => F.keep b o (k b o e)) (fun a q => none_back k (F.out a q))).take hg (pkeeps hl F.keep) (fun q => by
    obtain ⟨n, e⟩ := hl
    rw [F.out a q] at e; cases e)
theorem Gx.size {s s' : Shared} (x : Gx s s') : s.gens.size ≤ s'.gens.size := by
  rcases Nat.lt_or_ge s'.gens.size s.gens.size with h | h
  · have e : s.gens[s'.gens.size]? = some s.gens[s'.gens.size] := Array.getElem?_eq_getElem h
    have := x.gens _ _ e
    rw [Array.getElem?_eq_none (Nat.le_refl _)] at this
    cases this
  · exact h
end PartF9
section PartS1
open PySem.SeqAt PySem.MeetsSeq
theorem ints_inj {vs : List Value} {xs : List Int} (x : IntsAre vs xs) : ∀ {ys : List Int}, IntsAre vs ys → xs = ys := by
  induction x with
  | nil => intro ys y; cases y; rfl
  | cons _ _ _ ih => intro ys y; cases y with | cons _ _ y => rw [ih y]
theorem all_eq_beq {α : Type} [BEq α] [LawfulBEq α] (xs : List α) : ∀ (ys : List α) (e : Nat → Bool), xs.length = ys.length → (∀ j a b, xs[j]? = some a → ys[j]? = some b → e j = (a == b)) → (List.range xs.length).all e = (xs == ys) := by
  induction xs with
  | nil => intro ys e h he; cases ys with
    | nil => rfl
    | cons _ _ => cases h
  | cons x xs ih => intro ys e h he; cases ys with
    | nil => cases h
    | cons y ys =>
      rw [List.length_cons, List.range_succ_eq_map, List.all_cons, List.all_map, he 0 x y rfl rfl]
      show ((x == y) && (List.range xs.length).all fun j => e (j + 1)) = _
      rw [ih ys (fun j => e (j + 1)) (Nat.succ.inj h) (fun j a b ha hb => he (j + 1) a b ha hb)]
      rfl
section
variable {A : Around} {s : Shared} {l b : Addr} {vs ws : Array Value} {xs ys : List Int}
noncomputable def getI : Value → Int
  | .int i _ => i
  | _ => 0
theorem ints_eqAt (hi : IntsAre vs.toList xs) (hj : IntsAre ws.toList ys) : ∀ j (h1 : j < vs.size) (h2 : j < ws.size), EqAt A s vs[j] ws[j] (getI (vs[j]!) == getI (ws[j]!)) := fun j h1 h2 => by
  obtain ⟨a, t, ha, ea⟩ := ints_get (i := j) (v := vs[j]) hi (by simp [h1])
  obtain ⟨c, u, hc, ec⟩ := ints_get (i := j) (v := ws[j]) hj (by simp [h2])
  have e1 : vs[j]! = vs[j] := by simp [h1]
  have e2 : ws[j]! = ws[j] := by simp [h2]
  rw [e1, e2, ea, ec]
  exact EqAt.int_int a t c u
theorem ints_all (hi : IntsAre vs.toList xs) (hj : IntsAre ws.toList ys) (hsz : vs.size = ws.size) : (List.range vs.size).all (fun j => getI (vs[j]!) == getI (ws[j]!)) = (xs == ys) := by
  have l1 : xs.length = vs.size := by rw [← hi.length, Array.length_toList]
  have l2 : ys.length = ws.size := by rw [← hj.length, Array.length_toList]
  rw [← l1]
  refine all_eq_beq xs ys _ (by rw [l1, l2, hsz]) fun j a c ha hc => ?_
  have h1 : j < vs.size := by rw [← l1]; exact (List.getElem?_eq_some_iff.mp ha).1
  have h2 : j < ws.size := by rw [← l2]; exact (List.getElem?_eq_some_iff.mp hc).1
  obtain ⟨a', t, ha', ea⟩ := ints_get (i := j) (v := vs[j]) hi (by simp [h1])
  obtain ⟨c', u, hc', ec⟩ := ints_get (i := j) (v := ws[j]) hj (by simp [h2])
  have e1 : vs[j]! = vs[j] := by simp [h1]
  have e2 : ws[j]! = ws[j] := by simp [h2]
  rw [e1, e2, ea, ec]
  rw [ha] at ha'
  rw [hc] at hc'
  cases ha'
  cases hc'
  rfl
theorem ints_ne (hi : IntsAre vs.toList xs) (hj : IntsAre ws.toList ys) (h : ¬ vs.size = ws.size) : (xs == ys) = false := beq_eq_false_iff_ne.mpr fun e => h (by
  rw [← Array.length_toList, hi.length, e, ← hj.length, Array.length_toList])
theorem rc_ints (hl : s.heap.IsList l vs) (hb : s.heap.IsList b ws) (hi : IntsAre vs.toList xs) (hj : IntsAre ws.toList ys) (hu : A.units < cLine) : RcAt A s (.ref l) (.ref b) (xs == ys) := by
  by_cases h : vs.size = ws.size
  · rw [← ints_all hi hj h]
    exact RcAt.lists hl hb h hu (ints_eqAt hi hj)
  · rw [ints_ne hi hj h]
    exact RcAt.lists_lengths hl hb (by simpa using h) hu
theorem rcne_ints (hl : s.heap.IsList l vs) (hb : s.heap.IsList b ws) (hi : IntsAre vs.toList xs) (hj : IntsAre ws.toList ys) (hu : A.units < cLine) : RcNeAt A s (.ref l) (.ref b) (!(xs == ys)) := by
  by_cases h : vs.size = ws.size
  · rw [← ints_all hi hj h]
    exact RcNeAt.lists hl hb h hu (ints_eqAt hi hj)
  · rw [ints_ne hi hj h]
    exact RcNeAt.lists_lengths hl hb (by simpa using h) hu
theorem eq_ints (hl : s.heap.IsList l vs) (hb : s.heap.IsList b ws) (hi : IntsAre vs.toList xs) (hj : IntsAre ws.toList ys) (hu : A.units < cLine) : EqAt A s (.ref l) (.ref b) (xs == ys) := by
  by_cases h : l = b
  · subst h
    obtain ⟨o, ho, hc, n, hd⟩ := hl
    obtain ⟨o', ho', hc', n', hd'⟩ := hb
    cases ho.symm.trans ho'
    cases hd.symm.trans hd'
    have := ints_inj hi hj
    subst this
    rw [show (xs == xs) = true from beq_self_eq_true _]
    exact EqAt.same _
  · exact EqAt.of_refs h (rc_ints hl hb hi hj hu)
/-- lists of lists of ints -/
theorem rcne_rows {rs ts : List (List Int)} (hl : s.heap.IsList l vs) (hb : s.heap.IsList b ws) (hi : RowsAre s.heap vs.toList rs) (hj : RowsAre s.heap ws.toList ts) (hu : A.units + 5 < cLine) : RcNeAt A s (.ref l) (.ref b) (!(rs == ts)) := by
  have l1 : rs.length = vs.size := by rw [← hi.length, Array.length_toList]
  have l2 : ts.length = ws.size := by rw [← hj.length, Array.length_toList]
  by_cases h : vs.size = ws.size
  · have e : (List.range rs.length).all (fun j => rs.getD j [] == ts.getD j []) = (rs == ts) := all_eq_beq rs ts _ (by rw [l1, l2, h]) fun j a c ha hc => by simp [ha, hc]
    rw [← e, l1]
    refine RcNeAt.lists hl hb h (by lia) fun j h1 h2 => ?_
    obtain ⟨r, hr, a1, v1, ea, p1, i1⟩ := hi.get (i := j) (v := vs[j]) (by simp [h1])
    obtain ⟨t, ht, a2, v2, ec, p2, i2⟩ := hj.get (i := j) (v := ws[j]) (by simp [h2])
    rw [ea, ec, show rs.getD j [] = r by simp [hr], show ts.getD j [] = t by simp [ht]]
    exact eq_ints p1.isList p2.isList i1 i2 (by have := units_in1 A; lia)
  · have : (rs == ts) = false := beq_eq_false_iff_ne.mpr fun e => h (by rw [← l1, e, l2])
    rw [this]
    exact RcNeAt.lists_lengths hl hb (by simpa using h) (by lia)
end
section
variable {prog : Program} {w : World} {A : Around} {E : Value → Shared → Prop} {s : Shared} {l b : Addr} {vs ws : Array Value} {xs ys : List Int}
theorem o_neInts {Q : Value → Shared → Prop} (hl : s.heap.IsList l vs) (hb : s.heap.IsList b ws) (hi : IntsAre vs.toList xs) (hj : IntsAre ws.toList ys) (hu : A.units < cLine) (h : Q (.bool (!(xs == ys))) s) :
    wpAny (model prog w) A (compareOp .NotEq (.ref l) (.ref b)) Q E s := rcne_ints hl hb hi hj hu prog w E Q h
theorem o_eqInts {Q : Value → Shared → Prop} (hl : s.heap.IsList l vs) (hb : s.heap.IsList b ws) (hi : IntsAre vs.toList xs) (hj : IntsAre ws.toList ys) (hu : A.units < cLine) (h : Q (.bool (xs == ys)) s) :
    wpAny (model prog w) A (compareOp .Eq (.ref l) (.ref b)) Q E s := rc_ints hl hb hi hj hu prog w E Q h
theorem o_neRows {rs ts : List (List Int)} {Q : Value → Shared → Prop} (hl : s.heap.IsList l vs) (hb : s.heap.IsList b ws) (hi : RowsAre s.heap vs.toList rs) (hj : RowsAre s.heap ws.toList ts) (hu : A.units + 5 < cLine) (h : Q (.bool (!(rs == ts))) s) :
    wpAny (model prog w) A (compareOp .NotEq (.ref l) (.ref b)) Q E s := rcne_rows hl hb hi hj hu prog w E Q h
theorem o_neBools {x1 x2 y1 y2 : Bool} {Q : Value → Shared → Prop} (hl : s.heap.IsList l #[.bool x1, .bool x2]) (hb : s.heap.IsList b #[.bool y1, .bool y2]) (hu : A.units < cLine) (h : Q (.bool (!(x1 == y1 && x2 == y2))) s) :
    wpAny (model prog w) A (compareOp .NotEq (.ref l) (.ref b)) Q E s := by
  have := RcNeAt.lists (A := A) (e := fun j => if j = 0 then x1 == y1 else x2 == y2) hl hb rfl hu fun j h1 h2 => by
    have : j = 0 ∨ j = 1 := by
      have : j < 2 := h1
      lia
    rcases this with rfl | rfl
    · exact EqAt.bool_bool x1 y1
    · exact EqAt.bool_bool x2 y2
  refine this prog w E Q ?_
  have e : (List.range (#[Value.bool x1, Value.bool x2] : Array Value).size).all (fun j => if j = 0 then x1 == y1 else x2 == y2) = (x1 == y1 && x2 == y2) := by
    show (List.range 2).all _ = _
    simp [List.range, List.range.loop]
  rw [e]
  exact h
end
end PartS1
section PartS2
open PySem.SeqAt PySem.MeetsSeq PySem.MeetsSeq3
open AutoSeq1 (wpAny_loadPart')
noncomputable def lexLt : List Int → List Int → Bool
  | [], [] => false
  | [], _ :: _ => true
  | _ :: _, [] => false
  | x :: xs, y :: ys => if x = y then lexLt xs ys else decide (x < y)
theorem lexLt_cc {x y : Int} {xs ys : List Int} : lexLt (x :: xs) (y :: ys) = if x = y then lexLt xs ys else decide (x < y) := rfl
set_option maxHeartbeats 1000000 in
theorem lt_loop (l b : Addr) (xs ys : Array Value) (n n2 : Nat) (ns ms : List Int) (hi : IntsAre xs.toList ns) (hj : IntsAre ys.toList ms) (k : Nat) :
    ∀ i : Nat, xs.size + ys.size - 2 * i ≤ k → i ≤ xs.size → i ≤ ys.size → Meets (Builtin.«list.__eq__.loop» ⟨[.ref l, .ref b, rawInt i, rawInt 0], []⟩)
      (fun _ R s => s.heap.get? l = some { cls := .type "list", data := .seq xs n } ∧ s.heap.get? b = some { cls := .type "list", data := .seq ys n2 } ∧
        R (.ok (.ret (.bool (lexLt (ns.drop i) (ms.drop i))))) s) := by
  have l1 : ns.length = xs.size := by rw [← hi.length, Array.length_toList]
  have l2 : ms.length = ys.size := by rw [← hj.length, Array.length_toList]
  induction k with
  | zero =>
    intro i hk h1 h2 prog w A R s h
    obtain ⟨hp, g, d, tk, os⟩ := s; obtain ⟨hl, hb, h⟩ := h
    wp_walk using wpAny_loadPart' hl, wpAny_loadPart' hb
    have hi1 : xs[((i : Nat) : Int).toNat]? = none := by simp; omega
    have hi2 : ys[((i : Nat) : Int).toNat]? = none := by simp; omega
    have d1 : ns.drop i = [] := List.drop_eq_nil_of_le (by omega)
    have d2 : ms.drop i = [] := List.drop_eq_nil_of_le (by omega)
    rw [d1, d2] at h
    rw [hi1, hi2]
    wp_walk using wpAny_loadPart' hl, wpAny_loadPart' hb
    show R (.ok (.ret (.bool (decide (xs.size < ys.size))))) _
    rw [show decide (xs.size < ys.size) = lexLt [] [] from decide_eq_false (by omega)]
    exact h
  | succ k ih =>
    intro i hk h1 h2 prog w A R s h
    obtain ⟨hp, g, d, tk, os⟩ := s; obtain ⟨hl, hb, h⟩ := h
    wp_walk using wpAny_loadPart' hl, wpAny_loadPart' hb
    by_cases c1 : i < xs.size
    · by_cases c2 : i < ys.size
      · have hi1 : xs[((i : Nat) : Int).toNat]? = some xs[i] := by simp [c1]
        have hi2 : ys[((i : Nat) : Int).toNat]? = some ys[i] := by simp [c2]
        obtain ⟨x, tx, hx, ex⟩ := ints_get (i := i) (v := xs[i]) hi (by simp [c1])
        obtain ⟨y, ty, hy, ey⟩ := ints_get (i := i) (v := ys[i]) hj (by simp [c2])
        have d1 : ns.drop i = x :: ns.drop (i + 1) := by
          obtain ⟨q1, q2⟩ := List.getElem?_eq_some_iff.mp hx
          rw [List.drop_eq_getElem_cons q1, q2]
        have d2 : ms.drop i = y :: ms.drop (i + 1) := by
          obtain ⟨q1, q2⟩ := List.getElem?_eq_some_iff.mp hy
          rw [List.drop_eq_getElem_cons q1, q2]
        rw [d1, d2, lexLt_cc] at h
        have hc : ((i : Int) + 1) = ((i + 1 : Nat) : Int) := by push_cast; rfl
        rw [hi1, hi2, ex, ey]
        refine wpAny_bind (EqAt.int_int x tx y ty prog w _ _ ?_)
        by_cases hxy : x = y
        · rw [if_pos hxy] at h
          rw [show (x == y) = true from beq_iff_eq.mpr hxy]
          wp_walk
          rw [hc]
          exact ⟨plainId_quiet plain_eq_loop _, codeAny_builtin entry_eq_loop (by
            rw [Around.under_plainId plain_eq_loop _]
            exact ih (i + 1) (by omega) c1 c2 prog w A R _ ⟨hl, hb, h⟩)⟩
        · rw [if_neg hxy] at h
          rw [show (x == y) = false from beq_eq_false_iff_ne.mpr hxy]
          wp_walk using wpAny_loadPart' hl, wpAny_loadPart' hb
          rw [hi1, hi2, ex, ey]
          refine wpAny_bind ?_
          show wpAny _ _ (compareOp .Lt (.int x tx) (.int y ty)) _ _ _
          refine wpAny_lt_int ?_
          wp_walk
          exact h
      · have hi1 : xs[((i : Nat) : Int).toNat]? = some xs[i] := by simp [c1]
        have hi2 : ys[((i : Nat) : Int).toNat]? = none := by simp; omega
        have d2 : ms.drop i = [] := List.drop_eq_nil_of_le (by omega)
        have d1 : ∃ x r, ns.drop i = x :: r := by
          cases q : ns.drop i with
          | nil => have := congrArg List.length q; rw [List.length_drop] at this; simp at this; omega
          | cons x r => exact ⟨x, r, rfl⟩
        obtain ⟨x, r, d1⟩ := d1
        rw [d1, d2, show lexLt (x :: r) [] = false from rfl] at h
        rw [hi1, hi2]
        wp_walk using wpAny_loadPart' hl, wpAny_loadPart' hb
        show R (.ok (.ret (.bool (decide (xs.size < ys.size))))) _
        rw [show decide (xs.size < ys.size) = false from decide_eq_false (by omega)]
        exact h
    · have hi1 : xs[((i : Nat) : Int).toNat]? = none := by simp; omega
      have d1 : ns.drop i = [] := List.drop_eq_nil_of_le (by omega)
      rw [hi1]
      wp_walk using wpAny_loadPart' hl, wpAny_loadPart' hb
      show R (.ok (.ret (.bool (decide (xs.size < ys.size))))) _
      rw [d1] at h
      by_cases c2 : i < ys.size
      · have d2 : ∃ x r, ms.drop i = x :: r := by
          cases q : ms.drop i with
          | nil => have := congrArg List.length q; rw [List.length_drop] at this; simp at this; omega
          | cons x r => exact ⟨x, r, rfl⟩
        obtain ⟨x, r, d2⟩ := d2
        rw [d2, show lexLt [] (x :: r) = true from rfl] at h
        rw [show decide (xs.size < ys.size) = true from decide_eq_true (by omega)]
        exact h
      · have d2 : ms.drop i = [] := List.drop_eq_nil_of_le (by omega)
        rw [d2, show lexLt [] [] = false from rfl] at h
        rw [show decide (xs.size < ys.size) = false from decide_eq_false (by omega)]
        exact h
set_option maxHeartbeats 1000000 in
theorem list_lt (l b : Addr) (xs ys : Array Value) (n n2 : Nat) (ns ms : List Int) (hi : IntsAre xs.toList ns) (hj : IntsAre ys.toList ms) :
    Meets (Builtin.«list.__lt__» ⟨[.ref l, .ref b], []⟩)
      (fun _ R s => s.heap.get? l = some { cls := .type "list", data := .seq xs n } ∧ s.heap.get? b = some { cls := .type "list", data := .seq ys n2 } ∧
        R (.ok (.ret (.bool (lexLt ns ms)))) s) := by
  intro prog w A R s h
  obtain ⟨hp, g, d, tk, os⟩ := s; obtain ⟨hl, hb, h⟩ := h
  have f3 := AutoSeq1.sub_list_list
  wp_walk using wpAny_loadPart' hl, wpAny_loadPart' hb
  exact ⟨plainId_quiet plain_eq_loop _, codeAny_builtin entry_eq_loop (by
    rw [Around.under_plainId plain_eq_loop _]
    exact lt_loop l b xs ys n n2 ns ms hi hj _ 0 (Nat.le_refl _) (Nat.zero_le _) (Nat.zero_le _) prog w A R _ ⟨hl, hb, h⟩)⟩
section
variable {prog : Program} {w : World} {A : Around} {E : Value → Shared → Prop} {s : Shared}
theorem one_lt {l b : Addr} {xs ys : Array Value} {ns ms : List Int} {Q : Bool → Shared → Prop} (hu : A.units < cLine) (hl : s.heap.PlainList l xs) (hb : s.heap.PlainList b ys) (hi : IntsAre xs.toList ns) (hj : IntsAre ys.toList ms) (h : Q (lexLt ns ms) s) :
    wpAny (model prog w) A (keyLt' oneType' (.ref l) (.ref b)) Q E s := by
  obtain ⟨n, ho⟩ := hl
  obtain ⟨n2, ho2⟩ := hb
  rw [keyLt'_oneType, oneLt'_eq]
  simp only [if_true]
  refine wpAny_bind (wpAny_cRoomFor hu ?_)
  refine wpAny_bind (wpAny_callSpecialIfBound?_slot (T := "list") ⟨_, ho, rfl⟩ PySem.F.slot_list_lt (call_meets PySem.F.slot_list_lt ⟨_, ho, rfl⟩ PySem.F.entry_list_lt (PySem.F.args_list_lt_2 _ _) (list_lt l b xs ys n n2 ns ms hi hj) ⟨ho, ho2, ?_⟩))
  exact wpAny_truthy_bool h
end
end PartS2
section PartS3
noncomputable def kRun {α : Type} (lt : Nat → Nat → Bool) : KasT α → α
  | .ret a => a
  | .ask i j k => kRun lt (k (lt i j))
noncomputable def kOk {α : Type} (n : Nat) : KasT α → Bool
  | .ret _ => true
  | .ask i j k => decide (i < n) && decide (j < n) && kOk n (k true) && kOk n (k false)
theorem kOk_ask {α : Type} {n i j : Nat} {k : Bool → KasT α} : kOk n (.ask i j k) = (decide (i < n) && decide (j < n) && kOk n (k true) && kOk n (k false)) := rfl
theorem kas_ok : kOk 2 (kas_sort 2) = true ∧ kOk 3 (kas_sort 3) = true ∧ kOk 4 (kas_sort 4) = true ∧ kOk 5 (kas_sort 5) = true := by decide +kernel
theorem kas_run {α : Type} {n : Nat} {lt : Nat → Nat → Bool} {cmp : Nat → Nat → (Bool → Shared → Prop) → Shared → Prop} {s : Shared} (hcmp : ∀ i j C, i < n → j < n → C (lt i j) s → cmp i j C s) :
    ∀ (t : KasT α) {Q : α → Shared → Prop}, kOk n t = true → Q (kRun lt t) s → t.kasWp cmp Q s
  | .ret _, _, _, h => h
  | .ask i j k, Q, hok, h => by
    simp only [kOk_ask, Bool.and_eq_true, decide_eq_true_eq] at hok
    obtain ⟨⟨⟨h1, h2⟩, h3⟩, h4⟩ := hok
    refine hcmp i j _ h1 h2 ?_
    refine kas_run hcmp (k (lt i j)) ?_ h
    cases lt i j with
    | true => exact h3
    | false => exact h4
noncomputable def sortIx (rs : List (List Int)) : List Nat := (kRun (fun i j => lexLt (rs.getD i []) (rs.getD j [])) (kas_sort rs.length)).toList
noncomputable def sortP (rs : List (List Int)) : List (List Int) := (sortIx rs).map fun i => rs.getD i []
noncomputable def ixOk (rs : List (List Int)) : Bool := (sortIx rs).all fun i => decide (i < rs.length)
noncomputable def allObjs (h : Heap) (L : Addr) : List (Addr × Obj) := (List.range h.objs.size).filterMap fun b => if b = L then none else (h.get? b).map fun o => (b, o)
theorem allObjs_iff {h : Heap} {L b : Addr} {o : Obj} : (b, o) ∈ allObjs h L ↔ b ≠ L ∧ h.get? b = some o := by
  unfold allObjs
  rw [List.mem_filterMap]
  constructor
  · rintro ⟨c, _, hc⟩
    by_cases q : c = L
    · rw [if_pos q] at hc; cases hc
    · rw [if_neg q] at hc
      cases e : h.get? c with
      | none => rw [e] at hc; cases hc
      | some o' => rw [e] at hc; cases hc; exact ⟨q, e⟩
  · rintro ⟨q, e⟩
    exact ⟨b, List.mem_range.mpr (Heap.lt_size e), by rw [if_neg q, e]; rfl⟩
theorem rows_map {h : Heap} {vs : List Value} {rs : List (List Int)} (hr : RowsAre h vs rs) : ∀ ix : List Nat, (∀ i ∈ ix, i < rs.length) → RowsAre h (ix.map fun i => vs.getD i .none) (ix.map fun i => rs.getD i [])
  | [], _ => .nil
  | i :: ix, hk => by
    have hi := hk i (.head _)
    have hv : vs[i]? = some (vs.getD i .none) := by
      have : i < vs.length := by rw [hr.length]; exact hi
      simp [this]
    obtain ⟨r, e, hrow⟩ := hr.get hv
    rw [List.map_cons, List.map_cons, show rs.getD i [] = r by simp [e]]
    exact .cons hrow (rows_map hr ix fun j hj => hk j (.tail _ hj))
section
variable {w : World} {A : Around} {E : Value → Shared → Prop} {s : Shared} {g : Heap} {L : Addr} {cl : List (Str × Addr)} {la : Option Addr} {m : Str → Option Value} {us : Array Value}
theorem o_sorted {l : Addr} {vs : Array Value} {rs : List (List Int)} {Q : Value → Shared → Prop} (F : Fo g L cl la s.heap m us) (hl : g.IsList l vs) (hr : RowsAre g vs.toList rs) (h2 : 2 ≤ rs.length) (h5 : rs.length ≤ 5) (hix : ixOk rs = true) (hu : A.units + 10 < cLine)
    (h : ∀ D h' g' ws, Fo g' L cl la h' m us → (∀ b o, g.get? b = some o → g'.get? b = some o) → g'.PlainList D ws → RowsAre g' ws.toList (sortP rs) → Q (.ref D) { s with heap := h' }) :
    wpAny (model PWx w) A (call (.builtin "sorted") [.ref l]) Q E s := by
  have hlen := hr.length
  obtain ⟨ml, hns, hml⟩ := F.ns
  have hrs : RowsAre s.heap vs.toList rs := hr.kp (Kp.of F.keep)
  have Fr0 : Fr ({} : Heap) L s.heap ml := ⟨hns, (fun b o e => by simp [Heap.get?] at e), Nat.zero_le _⟩
  have N0 : News ({} : Heap) L s.heap (allObjs s.heap L) := fun p hp => by
    obtain ⟨q1, q2⟩ := allObjs_iff.mp (show (p.1, p.2) ∈ _ from hp)
    exact ⟨q2, q1, by simp [Heap.get?]⟩
  have up : ∀ {h' : Heap} {b : Addr} {o : Obj}, News ({} : Heap) L h' (allObjs s.heap L) → b ≠ L → s.heap.get? b = some o → h'.get? b = some o := fun N q e => (N _ (allObjs_iff.mpr ⟨q, e⟩)).1
  have rowsUp : ∀ {h' : Heap}, News ({} : Heap) L h' (allObjs s.heap L) → RowsAre h' vs.toList rs := fun {h'} N => by
    -- rows lie in the base: none of them is the frame's dict
    refine hr.kp fun b o _ e => up N (fun q => F.own_ne e (.inl q)) (F.keep b o e)
  refine kas_sorted (T := .type "list") (vs := vs.toList) Fr0 N0 (by simpa using lkeeps hl F.keep) (by rw [hlen]; exact h2) (by rw [hlen]; lia) (fun h' F' N' v hv => ?_) (by decide) fun D e1 h' F' N' hD => ?_
  · obtain ⟨i, hi, hv'⟩ := List.mem_iff_getElem.mp hv
    obtain ⟨r, _, a, vs', rfl, ⟨n, hp⟩, _⟩ := (rowsUp N').get (i := i) (v := v) (by rw [List.getElem?_eq_getElem hi, hv'])
    exact (Looks.ld hp).andThen .now
  · have NA : News ({} : Heap) L h' (allObjs s.heap L) := fun p hp => N' p (.tail _ hp)
    have hDL : D ≠ L := (N' _ (.head _)).2.1
    have hok : kOk rs.length (kas_sort rs.length) = true := by
      have : rs.length = 2 ∨ rs.length = 3 ∨ rs.length = 4 ∨ rs.length = 5 := by lia
      obtain ⟨k2, k3, k4, k5⟩ := kas_ok
      rcases this with e | e | e | e <;> rw [e] <;> assumption
    rw [hlen]
    refine kas_run (n := rs.length) (lt := fun i j => lexLt (rs.getD i []) (rs.getD j [])) (fun i j C h1 h2 hC => ?_) _ hok ?_
    · have hv : ∀ i, i < rs.length → vs.toList[i]? = some (vs.toList.getD i .none) := fun i hi => by
        have : i < vs.toList.length := by rw [hlen]; exact hi
        simp only [List.getD_eq_getElem?_getD, List.getElem?_eq_getElem this, Option.getD_some]
      obtain ⟨r1, e1, a1, v1, q1, p1, i1⟩ := (rowsUp NA).get (hv i h1)
      obtain ⟨r2, e2, a2, v2, q2, p2, i2⟩ := (rowsUp NA).get (hv j h2)
      unfold kas_ask
      rw [q1, q2]
      refine one_lt (by have := units_in1 A; have := units_in1 A.in1; lia) p1 p2 i1 i2 ?_
      have e1' : rs.getD i [] = r1 := by simp [e1]
      have e2' : rs.getD j [] = r2 := by simp [e2]
      rw [← e1', ← e2']
      exact hC
    · refine KasFin.intro F' N' (UpdF.head fun p hp => Nat.ne_of_lt (hD p hp)) fun h'' c F'' N'' => ?_
      have NB : News ({} : Heap) L h'' (allObjs s.heap L) := fun p hp => N'' p (.tail _ hp)
      have Fn : Fo g L cl la h'' m us := ⟨⟨ml, F''.ns, hml⟩, fun x hx => by
          obtain ⟨o, ho, hd⟩ := F.cell x hx
          exact ⟨o, up NB (F.cL x hx) ho, hd⟩, F.uniq, F.apart, F.cL, fun a e => by
          obtain ⟨⟨n, hp⟩, h4⟩ := F.lst a e
          exact ⟨⟨n, up NB h4.1 hp⟩, h4⟩, fun b o e => up NB (fun q => F.own_ne e (.inl q)) (F.keep b o e), F.out⟩
      have hDn : ¬ Own L cl la D := fun q => by
        have : ∃ o, s.heap.get? D = some o := by
          rcases q with q | ⟨x, hx, q⟩ | q
          · exact absurd q hDL
          · obtain ⟨o, ho, _⟩ := F.cell x hx; exact ⟨o, q ▸ ho⟩
          · obtain ⟨⟨n, ho⟩, _⟩ := F.lst D q; exact ⟨_, ho⟩
        obtain ⟨o, ho⟩ := this
        exact Nat.lt_irrefl _ (hD _ (allObjs_iff.mpr ⟨hDL, ho⟩))
      obtain ⟨g', k1, k2, k3⟩ := Fn.all
      have hDo := (N'' _ (.head _)).1
      refine h D h'' g' _ k2 k1 ⟨_, k3 _ _ hDo hDn⟩ ?_
      rw [List.toList_toArray]
      exact rows_map (hr.kp (Kp.of k1)) (sortIx rs) (fun i hi => of_decide_eq_true (List.all_eq_true.mp hix i hi))
end
end PartS3
section PartF11
section
variable {w : World} {A : Around} {s : Shared} {env : Env} {g : Heap} {L : Addr} {cl : List (Str × Addr)} {la : Option Addr} {m : Str → Option Value} {us : Array Value} {I : Addr} {n : Nat} {Pt : Nat → Array Value → Prop}
theorem codeAny_compLoop_U {elt target iter : PySem.Expr} {ifs : List PySem.Expr} {scope : Scope} {pos : Pos} {it acc : Value} {R : Result → Shared → Prop} (J : Nat → Shared → Prop)
    (turn : ∀ n s, J n s → wpAny (model PWx w) A (pyNext it) (fun r s₁ => match r with
      | none => R (.ok .next) s₁
      | some v => wpAny (model PWx w) A (letOwnedTupleGo target it v) (fun _ s₁' => wpAny (model PWx w) A (assign target env v) (fun _ s₂ =>
          wpAny (model PWx w) A (forIn ifs true fun c r => if r = true then do let ok ← isTrue c env (eval c env); pure (ForInStep.yield ok) else pure (ForInStep.yield r)) (fun ok s₃ =>
            if ok = true then wpAny (model PWx w) A (eval elt env) (fun x s₄ =>
              wpAny (model PWx w) A (call (.builtin "list.append") [acc, x]) (fun _ s₅ => ∃ m, m < n ∧ J m s₅) Fls s₄) Fls s₃
            else ∃ m, m < n ∧ J m s₃) Fls s₂) Fls s₁') Fls s₁) Fls s)
    (n : Nat) (h : J n s) :
    codeAny (model PWx w) A (.compLoop (.ListComp elt [⟨target, iter, ifs, 0⟩] scope pos) 0 it acc env) R s := by
  refine codeAny_loop rfl J (fun n s hI => ?_) n h
  show wpAny _ A ((compTurn (.ListComp elt [⟨target, iter, ifs, 0⟩] scope pos) 0 it acc env).onRaise (fun x => do noteFrame x env; theTreesLotGoes x)) _ _ s
  refine wpAny_noted ?_
  rw [compTurn_list]
  refine Fls.any ?_
  refine wpAny_bind (wpAny_standAt (wpAny_bind (wpAny_mono (turn n s hI) (fun r s₁ h₁ => ?_) fun _ _ h' => h')))
  cases r with
  | none => exact wpAny_pure h₁
  | some v =>
    refine wpAny_bind (wpAny_mono h₁ (fun _ s₁' h₁' => ?_) fun _ _ h' => h')
    refine wpAny_bind (wpAny_mono h₁' (fun _ s₂ h₂ => wpAny_bind (wpAny_mono h₂ (fun ok s₃ h₃ => ?_) fun _ _ h' => h')) fun _ _ h' => h')
    cases ok with
    | false => exact wpAny_pure ⟨rfl, h₃⟩
    | true =>
      exact wpAny_bind (wpAny_bind (wpAny_mono h₃ (fun x s₄ h₄ => wpAny_bind (wpAny_mono h₄ (fun _ s₅ h₅ => wpAny_pure (wpAny_pure ⟨rfl, h₅⟩)) fun _ _ h' => h')) fun _ _ h' => h'))

/-- what a loop over pairs takes its things from -/
noncomputable def SrcU (w : World) (A : Around) (g : Heap) (L : Addr) (cl : List (Str × Addr)) (la : Option Addr) (h : Heap) (I : Addr) (n : Nat) (Pt : Nat → Array Value → Prop) : Prop :=
  ∃ fp wr St Mid, WalksU PWx w A I fp wr n Pt St Mid ∧ St 0 h ∧ (∀ b ∈ fp, ¬ Own L cl la b) ∧ (∀ b ∈ fp, b < h.objs.size) ∧ (∀ b ∈ wr, g.get? b = none) ∧
    (∀ i h' b o, b ∈ wr → St i h' → h'.get? b = some o → nit o = false) ∧ (∀ i T h' b o, b ∈ wr → Mid i T h' → h'.get? b = some o → nit o = false)

theorem comp_coreU {elt iter : PySem.Expr} {ifs : List PySem.Expr} {x y : Str} {px py tpos : Pos} {tk0 : Nat} {scope : Scope} {pos : Pos} {cl' : List (Str × Addr)} {use : Option (Value → Sem Unit)} {Q : Value → Shared → Prop} {s₀ : Shared}
    (S : SrcU w A g L cl la s.heap I n Pt) (F : Fo g L cl la s.heap m us) (gx : Gx s₀ s) (hh : A.handled = none) (hsz : n ≤ sizeLine) (h2 : ∀ i v, Pt i v → ∃ a b, v = #[a, b])
    (J : Nat → Heap → Array Value → Prop)
    (tr : ∀ i g g' us, Kp g g' → J i g us → J i g' us)
    (turn : ∀ C D i a b s₁ g₁ m₁ us₁, i < n → Pt i #[a, b] → m₁ x = some a → m₁ y = some b → (∀ b o, g.get? b = some o → g₁.get? b = some o) → (∀ x ∈ cl, g₁.IsCell x.2 (m x.1)) → (∀ b, Own L cl la b → ∃ o, g₁.get? b = some o) →
      Fo g₁ C [] (some D) s₁.heap m₁ us₁ → Gx s₀ s₁ → J i (hid L cl la g₁) us₁ → us₁.size ≤ i →
      wpAny (model PWx w) A (forIn ifs true fun c r => if r = true then do let ok ← isTrue c (compEnvC scope cl' C env) (eval c (compEnvC scope cl' C env)); pure (ForInStep.yield ok) else pure (ForInStep.yield r)) (fun ok s₃ =>
        if ok = true then wpAny (model PWx w) A (eval elt (compEnvC scope cl' C env)) (fun y s₄ => BkC g₁ C D us₁ s₀ (fun g' => J (i + 1) (hid L cl la g') (us₁.push y)) s₄) Fls s₃
        else BkC g₁ C D us₁ s₀ (fun g' => J (i + 1) (hid L cl la g') us₁) s₃) Fls s₁)
    (fin : ∀ s' g' us' C D mc, (∀ b o, g.get? b = some o → g'.get? b = some o) → Fo g' L cl la s'.heap m us → Gx s₀ s' → g'.PlainList D us' → us'.size ≤ n → J n g' us' → s'.heap.Ns C mc → g'.get? C = none → ¬ Own L cl la C → s.heap.get? D = none → compPost (model PWx w) A Fls use Q (.ref D) C (.ok .next) s')
    (hj : J 0 g #[]) (hxy : x ≠ y)
    (hcell : ∀ y ∈ scope.names, y.2 ≠ .cell := by decide) (hkind : scope.kind = .function := by rfl) (hx : scope.names.lookup x = some .local := by rfl) (hy : scope.names.lookup y = some .local := by rfl) :
    CompGoU w A elt (.Tuple [.Name x px, .Name y py] tk0 tpos) iter ifs scope pos env cl' use (.ref I) Q s := by
  obtain ⟨fp, wr, St, Mid, W, hst, hown, hlt, hgI, hni, hnm⟩ := S
  unfold CompGoU
  refine wpAny_newObj_type (wpAny_newFunctionEnv hcell (by intro y hy; simp at hy) (fun h₁ hns₁ hsb₁ => ?_) hkind)
  dsimp only at hns₁ hsb₁ ⊢
  generalize hH2 : s.heap.push { cls := .type "list", dict := none, data := .seq ([] : List Value).toArray } = H2 at hns₁ hsb₁ ⊢
  have hC : H2.objs.size = s.heap.objs.size + 1 := by rw [← hH2, Heap.size_push]
  have hCle : s.heap.objs.size ≤ H2.objs.size := by rw [hC]; exact Nat.le_succ _
  have hDC : s.heap.objs.size ≠ H2.objs.size := by rw [hC]; exact Nat.ne_of_lt (Nat.lt_succ_self _)
  have old : ∀ b o, s.heap.get? b = some o → h₁.get? b = some o := fun b o e => hsb₁.extBut b o (by rw [hC]; exact Nat.ne_of_lt (Nat.lt_succ_of_lt (Heap.lt_size e))) (Heap.get?_push_of_some _ (hH2 ▸ Heap.get?_push_of_some _ e))
  have hacc : h₁.PlainList s.heap.objs.size #[] := ⟨_, hsb₁.extBut _ _ hDC (Heap.get?_push_of_some _ (hH2 ▸ Heap.get?_push_size _ rfl))⟩
  have ownlt : ∀ b, Own H2.objs.size [] (some s.heap.objs.size) b → s.heap.objs.size ≤ b := fun b q => by
    rcases q with rfl | ⟨_, q, _⟩ | q
    · exact hCle
    · cases q
    · cases q; exact Nat.le_refl _
  have nown : ∀ b ∈ fp, ¬ Own H2.objs.size [] (some s.heap.objs.size) b := fun b hb q => Nat.lt_irrefl _ (Nat.lt_of_lt_of_le (hlt b hb) (ownlt b q))
  have outer : ∀ b, Own L cl la b → b ∉ wr ∧ ∃ o, s.heap.get? b = some o := fun b q => ⟨fun e => hown b (W.sub b e) q, by
    rcases q with rfl | ⟨x, hx, rfl⟩ | q
    · obtain ⟨ml, ⟨o, _, _, ho, _⟩, _⟩ := F.ns; exact ⟨o, ho⟩
    · obtain ⟨o, ho, _⟩ := F.cell x hx; exact ⟨o, ho⟩
    · obtain ⟨⟨n, ho⟩, _⟩ := F.lst b q; exact ⟨_, ho⟩⟩
  have F₁ : Fo s.heap H2.objs.size [] (some s.heap.objs.size) h₁ (fun _ => none) #[] :=
    ⟨⟨_, hns₁, fun _ _ => rfl⟩, (fun _ h => nomatch h), (fun _ h => nomatch h), .nil, (fun _ h => nomatch h), fun a e => by cases e; exact ⟨hacc, hDC, fun _ h => nomatch h⟩, old, fun a q => by
      cases e : s.heap.get? a with
      | none => rfl
      | some o => exact absurd (Nat.lt_of_lt_of_le (Heap.lt_size e) (ownlt a q)) (Nat.lt_irrefl _)⟩
  have Fout := F
  have loop : ∀ s₃ : Shared, s₃ = { s with heap := h₁, toks := s.toks + ([] : List (Str × Value)).length } →
      codeAny (model PWx w) A (.compLoop (.ListComp elt [⟨.Tuple [.Name x px, .Name y py] tk0 tpos, iter, ifs, 0⟩] scope pos) 0 (.ref I) (.ref s.heap.objs.size) (compEnvC scope cl' H2.objs.size env))
        (compPost (model PWx w) A Fls use Q (.ref s.heap.objs.size) H2.objs.size) s₃ := by
    rintro s₃ rfl
    refine codeAny_compLoop_U (fun k s₁ => ∃ i g₁ m₁ us₁, i ≤ n ∧ us₁.size ≤ i ∧ k = n - i ∧ (∀ b o, b ∉ wr → s.heap.get? b = some o → g₁.get? b = some o) ∧ Fo g₁ H2.objs.size [] (some s.heap.objs.size) s₁.heap m₁ us₁ ∧ St i s₁.heap ∧ Gx s₀ s₁ ∧ J i (hid L cl la g₁) us₁)
      (fun k s₁ hI => ?_) n ⟨0, s.heap, _, #[], Nat.zero_le _, Nat.le_refl _, rfl, fun b o _ e => e, F₁, W.frame _ _ _ hst fun b _ o e => old b o e, gx.re _ _, tr _ _ _ _ (Kp.of fun b o e => hid_get (F.keep b o e) (F.own_ne e)) hj⟩
    obtain ⟨i, g₁, m₁, us₁, hi, hus, hk, hg, F, hst, gx, hj⟩ := hI
    have stepG : ∀ (g₁ : Heap) (m₁ : Str → Option Value) (h h' : Heap), Fo g₁ H2.objs.size [] (some s.heap.objs.size) h m₁ us₁ → (∀ b o, b ∈ wr → h.get? b = some o → nit o = false) → (∀ b o, b ∉ wr → s.heap.get? b = some o → g₁.get? b = some o) → (∀ b o, b ∉ wr → h.get? b = some o → h'.get? b = some o) →
        ∃ g', Kp g₁ g' ∧ Fo g' H2.objs.size [] (some s.heap.objs.size) h' m₁ us₁ ∧ (∀ b o, h'.get? b = some o → ¬ Own H2.objs.size [] (some s.heap.objs.size) b → g'.get? b = some o) ∧
        (∀ b o, b ∉ wr → s.heap.get? b = some o → g'.get? b = some o) := fun g₁ m₁ h h' F hn hg hk => by
      obtain ⟨g', k1, k2, k3⟩ := F.stepped (wr := fun b _ => b ∈ wr) (fun b _ q _ hb => nown b (W.sub b hb) q) (fun b o hb e => hk b o hb e)
      refine ⟨g', fun b o no e => k1 b o (fun hb => ?_) e, k2, k3, fun b o hb e => k1 b o hb (hg b o hb e)⟩
      rw [hn b o hb (F.keep _ _ e)] at no
      cases no
    have kh : ∀ {a b : Heap}, Kp a b → Kp (hid L cl la a) (hid L cl la b) := fun k b o no e => hid_get (k b o no (hid_of e).1) (hid_of e).2
    rcases Nat.lt_or_ge i n with hlt' | hge
    · refine W.item i s₁ _ _ hlt' hst fun T vals h' tk hP hT hmid hkeep => ?_
      obtain ⟨g', k1, k2, k3, k4⟩ := stepG g₁ m₁ _ h' F (fun b o hb e => hni i _ b o hb hst e) hg hkeep
      obtain ⟨a, b, rfl⟩ := h2 i vals hP
      dsimp only
      refine W.go _ _ _ i T _ _ _ hmid fun h₅ hst₅ hk₅ => ?_
      obtain ⟨g₅, j1, j2, j3, j4⟩ := stepG g' m₁ _ h₅ k2 (fun b o hb e => hnm i T _ b o hb hmid e) k4 hk₅
      have hT₅ : h₅.IsTuple T #[a, b] := by
        obtain ⟨o, ho, r⟩ := hT
        exact ⟨o, hk₅ _ o (W.apart i T _ hmid) ho, r⟩
      refine o_unpack2 (env := compEnvC scope cl' H2.objs.size env) j2 hh hT₅ (fun h₂ tk₂ F₂ => ?_) rfl (by simp [compEnvC, relabel, hkind]) (lookup_relabel_local hx) (lookup_relabel_local hy) rfl rfl
      have hmy : (fun z => if z = y then some b else if z = x then some a else m₁ z) y = some b := if_pos rfl
      have hmx : (fun z => if z = y then some b else if z = x then some a else m₁ z) x = some a := by
        show (if x = y then some b else if x = x then some a else m₁ x) = some a
        rw [if_neg hxy, if_pos rfl]
      refine wpAny_mono (turn H2.objs.size s.heap.objs.size i a b { s₁ with heap := h₂, toks := tk₂ } g₅ _ us₁ hlt' hP hmx hmy (fun b o e => j4 b o (fun q => by rw [hgI b q] at e; cases e) (Fout.keep b o e))
        (fun x hx => by
          obtain ⟨o, ho, hd⟩ := Fout.cell x hx
          exact ⟨o, j4 _ o (outer _ (.inr (.inl ⟨x, hx, rfl⟩))).1 ho, hd⟩)
        (fun b q => by obtain ⟨q1, o, ho⟩ := outer b q; exact ⟨o, j4 b o q1 ho⟩) F₂ (gx.re _ _) (tr _ _ _ _ (kh j1) (tr _ _ _ _ (kh k1) hj)) hus) (fun ok s₃ h₃ => ?_) fun _ _ x => x.elim
      have back : ∀ s₄ g'' m' us', us'.size ≤ i + 1 → (∀ b o, g₅.get? b = some o → g''.get? b = some o) → Fo g'' H2.objs.size [] (some s.heap.objs.size) s₄.heap m' us' → Gx s₀ s₄ → J (i + 1) (hid L cl la g'') us' →
          ∃ m, m < k ∧ ∃ i g₁ m₁ us₁, i ≤ n ∧ us₁.size ≤ i ∧ m = n - i ∧ (∀ b o, b ∉ wr → s.heap.get? b = some o → g₁.get? b = some o) ∧ Fo g₁ H2.objs.size [] (some s.heap.objs.size) s₄.heap m₁ us₁ ∧ St i s₄.heap ∧ Gx s₀ s₄ ∧ J i (hid L cl la g₁) us₁ := by
        intro s₄ g'' m' us' q0 q1 q2 q3 q4
        exact ⟨n - (i + 1), by lia, i + 1, g'', m', us', hlt', q0, rfl, fun b o hb e => q1 b o (j4 b o hb e), q2, W.frame _ _ _ hst₅ fun b hb o e => q2.keep b o (q1 b o (j3 b o e (nown b hb))), q3, q4⟩
      cases ok with
      | false =>
        rw [if_neg (by decide)] at h₃ ⊢
        obtain ⟨g'', m', q1, q2, q3, q4⟩ := h₃
        exact back s₃ g'' m' us₁ (by lia) q1 q2 q3 q4
      | true =>
        rw [if_pos rfl] at h₃ ⊢
        refine wpAny_mono h₃ (fun y s₄ h₄ => ?_) fun _ _ x => x.elim
        obtain ⟨g'', m', q1, q2, q3, q4⟩ := h₄
        refine wpAny_list_append_plain (q2.lst _ rfl).1 (fun h₅ hl₅ hs₅ => ?_) (by lia)
        exact back { s₄ with heap := h₅ } g'' m' (us₁.push y) (by rw [Array.size_push]; lia) q1 (q2.wrote hl₅ fun b o hb e => hs₅.extBut b o hb e) (q3.re _ _) q4
    · have : i = n := by lia
      subst this
      refine W.done s₁ _ _ hst fun h' tk hkeep => ?_
      obtain ⟨g', k1, k2, k3, k4⟩ := stepG g₁ m₁ _ h' F (fun b o hb e => hni i _ b o hb hst e) hg hkeep
      obtain ⟨ml, hml, _⟩ := k2.ns
      have hCown : ¬ Own L cl la H2.objs.size := fun q => by
        obtain ⟨_, o, ho⟩ := outer _ q
        exact Nat.lt_irrefl _ (Nat.lt_of_lt_of_le (Heap.lt_size ho) hCle)
      have hDown : ¬ Own L cl la s.heap.objs.size := fun q => by
        obtain ⟨_, o, ho⟩ := outer _ q
        exact Nat.lt_irrefl _ (Heap.lt_size ho)
      have Fz := Fout.moves (g' := hideAll h' (H2.objs.size :: ownL L cl la)) (h' := h') (fun b o q e => k2.keep b o (k4 b o (outer b q).1 e)) (fun b o e => of_hideAll _ e) (fun a q => hideAll_none _ (.tail _ (ownL_iff.mpr q)))
      have up : ∀ b o, h'.get? b = some o → b ≠ H2.objs.size → ¬ Own L cl la b → (hideAll h' (H2.objs.size :: ownL L cl la)).get? b = some o := fun b o e n1 n2 => hideAll_get _ e fun q => by
        rcases List.mem_cons.mp q with q | q
        · exact n1 q
        · exact n2 (ownL_iff.mp q)
      refine fin { s₁ with heap := h', toks := tk } _ us₁ _ _ ml (fun b o e => ?_) Fz (gx.re _ _) ?_ hus (tr _ _ _ _ (fun b o no e => ?_) hj) hml (hideAll_none _ (.head _)) hCown (size_none _)
      · have e' := Fout.keep b o e
        refine up b o (k2.keep b o (k4 b o (fun q => by rw [hgI b q] at e; cases e) e')) (fun q => ?_) (Fout.own_ne e)
        rw [q] at e'
        exact Nat.lt_irrefl _ (Nat.lt_of_lt_of_le (Heap.lt_size e') hCle)
      · obtain ⟨n', hn'⟩ := (k2.lst _ rfl).1
        exact ⟨n', up _ _ hn' hDC hDown⟩
      · obtain ⟨e1, e2⟩ := hid_of e
        refine up b o (k2.keep b o (k1 b o no e1)) (fun q => ?_) e2
        subst q
        exact k2.own_ne (k1 _ o no e1) (.inl rfl)
  exact codeAny_compStart_list (loop _ rfl) (W.self 0 _ _ _ (W.frame _ _ _ hst fun b _ o e => old b o e) (loop _ rfl))
theorem comp_AU {elt iter : PySem.Expr} {ifs : List PySem.Expr} {x y z : Str} {px py pz tpos : Pos} {tk0 : Nat} {scope : Scope} {pos : Pos} {cl' : List (Str × Addr)} {Q : Value → Shared → Prop} {s₀ : Shared}
    (S : SrcU w A g L cl la s.heap I n Pt) (F : Fo g L cl la s.heap m us) (gx : Gx s₀ s) (hh : A.handled = none) (hsz : n ≤ sizeLine) (h2 : ∀ i v, Pt i v → ∃ a b, v = #[a, b])
    (J : Nat → Heap → Array Value → Prop)
    (tr : ∀ i g g' us, Kp g g' → J i g us → J i g' us)
    (turn : ∀ C D i a b s₁ g₁ m₁ us₁, i < n → Pt i #[a, b] → m₁ x = some a → m₁ y = some b → (∀ b o, g.get? b = some o → g₁.get? b = some o) → (∀ x ∈ cl, g₁.IsCell x.2 (m x.1)) → (∀ b, Own L cl la b → ∃ o, g₁.get? b = some o) →
      Fo g₁ C [] (some D) s₁.heap m₁ us₁ → Gx s₀ s₁ → J i (hid L cl la g₁) us₁ → us₁.size ≤ i →
      wpAny (model PWx w) A (forIn ifs true fun c r => if r = true then do let ok ← isTrue c (compEnvC scope cl' C env) (eval c (compEnvC scope cl' C env)); pure (ForInStep.yield ok) else pure (ForInStep.yield r)) (fun ok s₃ =>
        if ok = true then wpAny (model PWx w) A (eval elt (compEnvC scope cl' C env)) (fun y s₄ => BkC g₁ C D us₁ s₀ (fun g' => J (i + 1) (hid L cl la g') (us₁.push y)) s₄) Fls s₃
        else BkC g₁ C D us₁ s₀ (fun g' => J (i + 1) (hid L cl la g') us₁) s₃) Fls s₁)
    (done : ∀ s' g' us' D, (∀ b o, g.get? b = some o → g'.get? b = some o) → Fo g' L cl la s'.heap (fun q => if q = z then some (.ref D) else m q) us → Gx s₀ s' → g'.PlainList D us' → us'.size ≤ n → J n g' us' → s.heap.get? D = none → Q .none s')
    (hj : J 0 g #[]) (hxy : x ≠ y)
    (hcell : ∀ y ∈ scope.names, y.2 ≠ .cell := by decide) (hkind : scope.kind = .function := by rfl) (hx : scope.names.lookup x = some .local := by rfl) (hy : scope.names.lookup y = some .local := by rfl)
    (hL : env.locals = L := by rfl) (hk : env.scope.kind = .function := by rfl) (hl : env.kindOf z = some .local := by rfl) (hc : cl.lookup z = none := by rfl) :
    CompGoU w A elt (.Tuple [.Name x px, .Name y py] tk0 tpos) iter ifs scope pos env cl' (some (assign (.Name z pz) env)) (.ref I) Q s :=
  comp_coreU S F gx hh hsz h2 J tr turn (fun s' g' us' C D mc k F' gx' hp hz hJ hns hgC hC hD => by
    show wpAny _ A (assign (.Name z pz) env (.ref D)) _ _ _
    refine wpAny_assign_Name ?_
    have F'' : Fo g' L cl la s'.heap m us := F'
    subst hL
    obtain ⟨ml, h1, h2⟩ := F''.ns
    refine wpAny_storeName_local hl h1 (fun h₂ hn₂ hs₂ => ?_) (by rw [hk]; rfl)
    have hLC : C ≠ env.locals := fun q => hC (.inl q)
    refine ⟨mc, hns.sameBut hs₂ hLC, fun h₃ hs₃ => ?_⟩
    have Fn : Fo g' env.locals cl la h₂ (fun q => if q = z then some (.ref D) else m q) us := ⟨⟨_, hn₂, fun q hq => by
        try dsimp only
        rw [h2 q hq]⟩, fun q hq => by
        have hyx : q.1 ≠ z := fun e => by rw [← e, F''.uniq q hq] at hc; cases hc
        try dsimp only
        rw [if_neg hyx]
        exact (F''.cell q hq).sameBut hs₂ (F''.cL q hq), F''.uniq, F''.apart, F''.cL, fun a e => by
        obtain ⟨h3, h4⟩ := F''.lst a e
        exact ⟨h3.extBut hs₂.extBut h4.1, h4⟩, fun b o e => hs₂.extBut b o (fun q => F''.own_ne e (.inl q)) (F''.keep b o e), F''.out⟩
    exact done { s' with heap := h₃, toks := _ } g' us' D k (fo_sameBut Fn hC hgC hs₃) (gx'.re _ _) hp hz hJ hD) hj hxy hcell hkind hx hy
theorem src_enum {l : Addr} {items : Array Value} {Q : Value → Shared → Prop} {E : Value → Shared → Prop} (F : Fo g L cl la s.heap m us) (hh : A.handled = none) (hl : g.IsList l items)
    (h : ∀ I h', Fo g L cl la h' m us → (∀ b o, s.heap.get? b = some o → h'.get? b = some o) → SrcU w A g L cl la h' I items.size (fun i vals => ∃ t x, items[i]? = some x ∧ vals = #[.int (i : Nat) t, x]) → Q (.ref I) { s with heap := h' }) :
    wpAny (model PWx w) A (call (.type "enumerate") [.ref l]) (fun x s₁ => wpAny (model PWx w) A (pyIter x) Q E s₁) E s := by
  have hl' : s.heap.IsList l items := lkeeps hl F.keep
  have hll : l < s.heap.objs.size := by obtain ⟨o, ho, _⟩ := hl'; exact Heap.lt_size ho
  refine call_enumerate_list hl' fun h' he hit hz hk => ?_
  refine wpAny_pyIter_enum he ?_
  have F' := F.keeps hk
  have hown : ∀ b, s.heap.objs.size ≤ b → ¬ Own L cl la b := fun b hb => F.new_ne hb
  refine h _ h' F' hk ⟨[s.heap.objs.size + 1, s.heap.objs.size, l], [s.heap.objs.size + 1, s.heap.objs.size], _, _, (WalksT.enumerate hh (s.heap.objs.size + 1) s.heap.objs.size l (Nat.succ_ne_self _) (Nat.ne_of_lt (Nat.lt_succ_of_lt hll)) (Nat.ne_of_lt hll) items).toU, ⟨⟨_, he⟩, hit, lkeeps hl' hk⟩, fun b hb q => ?_, fun b hb => ?_, fun b hb => ?_, fun i h'' b o hb st e => ?_, fun i T h'' b o hb st e => ?_⟩
  · rcases List.mem_cons.mp hb with rfl | hb
    · exact hown _ (Nat.le_succ _) q
    · rcases List.mem_cons.mp hb with rfl | hb
      · exact hown _ (Nat.le_refl _) q
      · rw [List.mem_singleton] at hb
        subst hb
        obtain ⟨o, ho, _⟩ := hl
        exact F.own_ne ho q
  · rw [hz]
    rcases List.mem_cons.mp hb with rfl | hb
    · exact Nat.lt_succ_self _
    · rcases List.mem_cons.mp hb with rfl | hb
      · exact Nat.lt_succ_of_lt (Nat.lt_succ_self _)
      · rw [List.mem_singleton] at hb
        subst hb
        exact Nat.lt_succ_of_lt (Nat.lt_succ_of_lt hll)
  · rcases List.mem_cons.mp hb with rfl | hb
    · exact F.none_at (Nat.le_succ _)
    · rw [List.mem_singleton] at hb
      subst hb
      exact F.none_at (Nat.le_refl _)
  · obtain ⟨⟨old, he'⟩, ⟨o', ho', hc, _⟩, _⟩ := st
    rcases List.mem_cons.mp hb with rfl | hb
    · cases he'.symm.trans e; rfl
    · rw [List.mem_singleton] at hb
      subst hb
      cases ho'.symm.trans e
      unfold nit
      rw [hc]
      decide
  · obtain ⟨⟨old, he'⟩, ⟨o', ho', hc, _⟩, _⟩ := st
    rcases List.mem_cons.mp hb with rfl | hb
    · cases he'.symm.trans e; rfl
    · rw [List.mem_singleton] at hb
      subst hb
      cases ho'.symm.trans e
      unfold nit
      rw [hc]
      decide
theorem mkZip {n l1 l2 : Nat} (h1 : l1 < n) (h2 : l2 < n) : ZipApart (n + 4) (n + 2) (n + 3) n (n + 1) l1 l2 :=
  ⟨Nat.ne_of_lt (by lia), Nat.ne_of_lt (by lia), Nat.ne_of_lt (by lia), Nat.ne_of_lt (by lia), Nat.ne_of_lt (by lia), Nat.ne_of_gt (by lia), Nat.ne_of_gt (by lia), Nat.ne_of_gt (by lia), Nat.ne_of_gt (by lia), Nat.ne_of_lt (by lia),
    Nat.ne_of_lt (by lia), Nat.ne_of_lt (by lia), Nat.ne_of_lt (by lia), Nat.ne_of_lt (by lia), Nat.ne_of_lt (by lia), Nat.ne_of_lt (by lia), Nat.ne_of_lt (by lia), Nat.ne_of_lt (by lia)⟩
theorem src_zip {l1 l2 : Addr} {xs ys : Array Value} {Q : Value → Shared → Prop} {E : Value → Shared → Prop} (F : Fo g L cl la s.heap m us) (hh : A.handled = none) (hl1 : g.IsList l1 xs) (hl2 : g.IsList l2 ys)
    (h : ∀ I h', Fo g L cl la h' m us → (∀ b o, s.heap.get? b = some o → h'.get? b = some o) → SrcU w A g L cl la h' I (min xs.size ys.size) (fun i vals => ∃ x y, xs[i]? = some x ∧ ys[i]? = some y ∧ vals = #[x, y]) → Q (.ref I) { s with heap := h' }) :
    wpAny (model PWx w) A (call (.type "zip") [.ref l1, .ref l2]) (fun x s₁ => wpAny (model PWx w) A (pyIter x) Q E s₁) E s := by
  have hl1' : s.heap.IsList l1 xs := lkeeps hl1 F.keep
  have hl2' : s.heap.IsList l2 ys := lkeeps hl2 F.keep
  have hll1 : l1 < s.heap.objs.size := by obtain ⟨o, ho, _⟩ := hl1'; exact Heap.lt_size ho
  have hll2 : l2 < s.heap.objs.size := by obtain ⟨o, ho, _⟩ := hl2'; exact Heap.lt_size ho
  refine call_zip_2 hl1' hl2' fun h' hz hTI hTO hi1 hi2 hsz hk => ?_
  refine wpAny_pyIter_zip hz ?_
  have F' := F.keeps hk
  have hown : ∀ b, s.heap.objs.size ≤ b → ¬ Own L cl la b := fun b hb => F.new_ne hb
  have nl1 : ¬ Own L cl la l1 := by obtain ⟨o, ho, _⟩ := hl1; exact F.own_ne ho
  have nl2 : ¬ Own L cl la l2 := by obtain ⟨o, ho, _⟩ := hl2; exact F.own_ne ho
  have hn : ∀ h'' b o, (IsZip h'' (s.heap.objs.size + 4) (s.heap.objs.size + 2) (s.heap.objs.size + 3) .none ∨ ∃ T : Nat, IsZip h'' (s.heap.objs.size + 4) (s.heap.objs.size + 2) (s.heap.objs.size + 3) (rawInt T)) → (∃ a b, IsPair h'' (s.heap.objs.size + 3) a b) →
      (∃ k, h''.IsListIter s.heap.objs.size l1 k) → (∃ k, h''.IsListIter (s.heap.objs.size + 1) l2 k) → b ∈ [s.heap.objs.size + 4, s.heap.objs.size + 3, s.heap.objs.size, s.heap.objs.size + 1] → h''.get? b = some o → nit o = false := by
    rintro h'' b o hz ⟨_, _, hT⟩ ⟨_, o1, ho1, hc1, _⟩ ⟨_, o2, ho2, hc2, _⟩ hb e
    rcases List.mem_cons.mp hb with rfl | hb
    · rcases hz with hz | ⟨T, hz⟩
      · cases hz.symm.trans e; rfl
      · cases hz.symm.trans e; rfl
    · rcases List.mem_cons.mp hb with rfl | hb
      · cases hT.symm.trans e; rfl
      · rcases List.mem_cons.mp hb with rfl | hb
        · cases ho1.symm.trans e
          unfold nit
          rw [hc1]
          decide
        · rw [List.mem_singleton] at hb
          subst hb
          cases ho2.symm.trans e
          unfold nit
          rw [hc2]
          decide
  refine h _ h' F' hk ⟨[s.heap.objs.size + 4, s.heap.objs.size + 2, s.heap.objs.size + 3, s.heap.objs.size, s.heap.objs.size + 1, l1, l2], [s.heap.objs.size + 4, s.heap.objs.size + 3, s.heap.objs.size, s.heap.objs.size + 1], _, _, (WalksT.zip2 hh _ _ _ _ _ l1 l2 (mkZip hll1 hll2) xs ys).toU, ⟨hz, hTI, ⟨_, _, hTO⟩, hi1, hi2, lkeeps hl1' hk, lkeeps hl2' hk⟩, fun b hb q => ?_, fun b hb => ?_, fun b hb => ?_, fun i h'' b o hb st e => ?_, fun i T h'' b o hb st e => ?_⟩
  · simp only [List.mem_cons, List.not_mem_nil, or_false] at hb
    rcases hb with rfl | rfl | rfl | rfl | rfl | rfl | rfl
    · exact hown _ (Nat.le_add_right ..) q
    · exact hown _ (Nat.le_add_right ..) q
    · exact hown _ (Nat.le_add_right ..) q
    · exact hown _ (Nat.le_refl _) q
    · exact hown _ (Nat.le_add_right ..) q
    · exact nl1 q
    · exact nl2 q
  · rw [hsz]
    simp only [List.mem_cons, List.not_mem_nil, or_false] at hb
    rcases hb with rfl | rfl | rfl | rfl | rfl | rfl | rfl
    · exact Nat.add_lt_add_left (by decide) _
    · exact Nat.add_lt_add_left (by decide) _
    · exact Nat.add_lt_add_left (by decide) _
    · exact Nat.lt_add_of_pos_right (by decide)
    · exact Nat.add_lt_add_left (by decide) _
    · exact Nat.lt_of_lt_of_le hll1 (Nat.le_add_right ..)
    · exact Nat.lt_of_lt_of_le hll2 (Nat.le_add_right ..)
  · simp only [List.mem_cons, List.not_mem_nil, or_false] at hb
    rcases hb with rfl | rfl | rfl | rfl
    · exact F.none_at (Nat.le_add_right ..)
    · exact F.none_at (Nat.le_add_right ..)
    · exact F.none_at (Nat.le_refl _)
    · exact F.none_at (Nat.le_add_right ..)
  · obtain ⟨q1, q2, q3, q4, q5, _⟩ := st
    exact hn h'' b o (.inl q1) q3 ⟨_, q4⟩ ⟨_, q5⟩ hb e
  · obtain ⟨q1, q2, q3, q4, q5, _⟩ := st
    exact hn h'' b o (.inr ⟨_, q1⟩) q3 ⟨_, q4⟩ ⟨_, q5⟩ hb e
theorem o_unpackC2 {x y : Str} {px py pos : Pos} {k : Nat} {l : Addr} {a b : Value} {cx cy : Addr} {Q : Unit → Shared → Prop} {E : Value → Shared → Prop} (F : Fo g L cl la s.heap m us) (hh : A.handled = none) (hl : s.heap.IsList l #[a, b])
    (h : ∀ h', Fo g L cl la h' (fun z => if z = y then some b else if z = x then some a else m z) us → Q () { s with heap := h' })
    (hcl : env.cells = cl := by rfl) (hk : env.scope.kind = .function := by rfl) (hx : env.kindOf x = some .cell := by rfl) (hy : env.kindOf y = some .cell := by rfl) (hcx : cl.lookup x = some cx := by rfl) (hcy : cl.lookup y = some cy := by rfl) :
    wpAny (model PWx w) A (assign (.Tuple [.Name x px, .Name y py] k pos) env (.ref l)) Q E s := by
  rw [arm_assign_Tuple]
  refine wpAny_bind (wpAny_standAt ?_)
  unfold unpack
  refine wpAny_bind (wpAny_holding (kun_itemsOf (items := #[a, b]) hh hl fun h₃ hx₃ => ?_))
  have k₃ : ∀ b o, s.heap.get? b = some o → h₃.get? b = some o := fun b o e => hx₃ b o (Nat.ne_of_lt (Heap.lt_size e)) e
  have F₃ := F.keeps k₃
  show wpAny _ A (do holding [b] (assign (.Name x px) env a); do holding [] (assign (.Name y py) env b); pure ()) _ _ _
  refine wpAny_bind (wpAny_holding (wpAny_assign_Name (o_stc F₃ (fun h₄ F₄ => ?_) hcl hk hx hcx)))
  refine wpAny_bind (wpAny_holding (wpAny_assign_Name (o_stc F₄ (fun h₅ F₅ => wpAny_pure ?_) hcl hk hy hcy)))
  exact h _ F₅
end
end PartF11
section PartF12
section
variable {w : World} {A : Around} {s : Shared} {env : Env} {g : Heap} {L : Addr} {cl : List (Str × Addr)} {la : Option Addr} {m : Str → Option Value} {us : Array Value} {I : Addr} {n : Nat} {P : Nat → Value → Prop}
theorem for_ST {target : PySem.Expr} {body : List Stmt} {Q : Flow → Shared → Prop} {s₀ : Shared} (n0 : Nat) (h0 : n0 ≤ s.toks) (S : Src w A g L cl la s.heap I n P) (F : Fo g L cl la s.heap m us) (gx : Gx s₀ s)
    (J : Nat → Heap → (Str → Option Value) → Array Value → Prop)
    (tr : ∀ i g g' m us, Kp g g' → J i g m us → J i g' m us)
    (turn : ∀ i v s g₁ m us, i < n → P i v → (∀ b o, g.get? b = some o → g₁.get? b = some o) → Fo g₁ L cl la s.heap m us → Gx s₀ s → J i g₁ m us → n0 ≤ s.toks →
      wpAny (model PWx w) A (assign target env v) (fun _ s₂ => wpAny (model PWx w) A (execs body env) (fun f s₃ => match f with
          | .next | .cont => Bk g₁ L cl la s₀ (J (i + 1)) s₃
          | .brk => Q .next s₃
          | .ret v => Q (.ret v) s₃) Fls s₂) Fls s)
    (done : ∀ s g₁ m us, (∀ b o, g.get? b = some o → g₁.get? b = some o) → Fo g₁ L cl la s.heap m us → Gx s₀ s → J n g₁ m us → n0 ≤ s.toks → Q .next s)
    (hj : J 0 g m us) (ht : ∀ v, letOwnedTupleGo target (.ref I) v = pure () := by intro _; rfl) :
    ForGo PWx w A target (.ref I) body env Q s := by
  obtain ⟨fp, St, W, hst, hown, hlt, hgI, hni⟩ := S
  have hIf : I ∈ fp := W.sub I (.head _)
  refine for_I (fun k s => ∃ i g₁ m us, i ≤ n ∧ k = n - i ∧ (∀ b o, g.get? b = some o → g₁.get? b = some o) ∧ Fo g₁ L cl la s.heap m us ∧ St i s.heap ∧ Gx s₀ s ∧ J i g₁ m us ∧ n0 ≤ s.toks) (fun k s hI => ?_) n
    ⟨0, g, m, us, Nat.zero_le _, rfl, fun _ _ e => e, F, hst, gx, hj, h0⟩
  clear F hst gx hj h0
  obtain ⟨i, g₁, m, us, hi, hk, hg, F, hst, gx, hj, h0⟩ := hI
  have step : ∀ h', (∀ b o, b ∉ [I] → s.heap.get? b = some o → h'.get? b = some o) → ∃ g', Kp g₁ g' ∧ Fo g' L cl la h' m us ∧ (∀ b o, h'.get? b = some o → ¬ Own L cl la b → g'.get? b = some o) ∧
      (∀ b o, g.get? b = some o → g'.get? b = some o) := fun h' hk => by
    obtain ⟨g', k1, k2, k3⟩ := F.stepped (wr := fun b _ => b ∈ [I]) (fun b _ q _ hb => hown b (W.sub b hb) q) (fun b o hb e => hk b o hb e)
    refine ⟨g', fun b o no e => k1 b o (fun hb => ?_) e, k2, k3, fun b o e => k1 b o (fun hb => ?_) (hg b o e)⟩
    · rw [List.mem_singleton] at hb
      subst hb
      rw [hni _ _ _ hst (F.keep _ _ e)] at no
      cases no
    · rw [List.mem_singleton] at hb
      rw [hb, hgI] at e
      cases e
  rcases Nat.lt_or_ge i n with hlt | hge
  · refine wpAny_with_toks h0 (W.item i s _ _ hlt hst fun v h' tk hP hst' hkeep htk => ?_)
    replace htk : n0 ≤ tk := htk
    obtain ⟨g', k1, k2, k3, k4⟩ := step h' hkeep
    dsimp only
    refine wpAny_of_eq (ht v) ?_
    refine wpAny_mono (wpAny_toks_of (n := n0) htk (turn i v { s with heap := h', toks := tk } g' m us hlt hP k4 k2 (gx.re _ _) (tr _ _ _ _ _ k1 hj) htk)) (fun _ s₂ h₂ => wpAny_mono (wpAny_toks_of h₂.1 h₂.2) (fun f s₃ h₃ => ?_) fun _ _ x => x.2) fun _ _ x => x.2
    obtain ⟨htk3, h₃⟩ := h₃
    have back : (∃ g'' m' us', (∀ b o, g'.get? b = some o → g''.get? b = some o) ∧ Fo g'' L cl la s₃.heap m' us' ∧ Gx s₀ s₃ ∧ J (i + 1) g'' m' us') → Nxt k (fun k s => ∃ i g₁ m us, i ≤ n ∧ k = n - i ∧ (∀ b o, g.get? b = some o → g₁.get? b = some o) ∧ Fo g₁ L cl la s.heap m us ∧ St i s.heap ∧ Gx s₀ s ∧ J i g₁ m us ∧ n0 ≤ s.toks) s₃ := by
      rintro ⟨g'', m', us', q1, q2, q3, q4⟩
      exact ⟨n - (i + 1), by lia, i + 1, g'', m', us', hlt, rfl, fun b o e => q1 b o (k4 b o e), q2, W.frame _ _ _ hst' fun b hb o e => q2.keep b o (q1 b o (k3 b o e (hown b hb))), q3, q4, htk3⟩
    cases f with
    | next => exact back h₃
    | cont => exact back h₃
    | brk => exact h₃
    | ret v => exact h₃
  · have : i = n := by lia
    subst this
    refine wpAny_with_toks h0 (W.done s _ _ hst fun h' tk hkeep htk => ?_)
    replace htk : n0 ≤ tk := htk
    obtain ⟨g', k1, k2, k3, k4⟩ := step h' hkeep
    exact done { s with heap := h', toks := tk } g' m us k4 k2 (gx.re _ _) (tr _ _ _ _ _ k1 hj) htk

end
section
variable {prog : Program} {w : World} {A : Around} {E : Value → Shared → Prop} {s : Shared} {x y : Str} {t u : Tok}
theorem upTo9 {n : Int} (h0 : 2 ≤ n) (h : n ≤ 9) : n = 2 ∨ n = 3 ∨ n = 4 ∨ n = 5 ∨ n = 6 ∨ n = 7 ∨ n = 8 ∨ n = 9 := by lia
theorem o_mulS {n : Int} {Q : Value → Shared → Prop} (hx : x.length = 1) (h0 : 2 ≤ n) (h9 : n ≤ 9) (h : (Txt.mul x n).length = n.toNat → Q (.str (Txt.mul x n) s.toks) { s with toks := s.toks + 1 }) :
    wpAny (model prog w) A (binaryOp .Mult (.str x t) (.int n u)) Q E s := by
  have e1 : ¬ n < 1 := by lia
  have e2 : (n == 1 || x.length == 0) = false := by
    rw [hx, show (n == 1) = false from beq_eq_false_iff_ne.mpr (by lia)]
    rfl
  have hm : Txt.mul x n = ⟨(List.replicate n.toNat x.cps).foldl (· ++ ·) #[]⟩ := by
    unfold Txt.mul
    rw [if_neg e1, e2]
    rfl
  have hlen : (Txt.mul x n).length = n.toNat := by
    rw [hm]
    have hc : x.cps.size = 1 := hx
    rcases upTo9 h0 h9 with rfl | rfl | rfl | rfl | rfl | rfl | rfl | rfl <;>
    · show (Array.size _) = _
      simp [List.replicate, hc]
  refine P.mul_str ?_ (fun _ _ => ?_) (fun _ _ => ?_) ?_
  · rcases upTo9 h0 h9 with rfl | rfl | rfl | rfl | rfl | rfl | rfl | rfl <;> decide
  · rw [hx]
    rcases upTo9 h0 h9 with rfl | rfl | rfl | rfl | rfl | rfl | rfl | rfl <;> decide
  · rw [hx]
    rcases upTo9 h0 h9 with rfl | rfl | rfl | rfl | rfl | rfl | rfl | rfl <;> decide
  · rw [if_neg e1, e2, if_neg Bool.false_ne_true, ← hm]
    refine ⟨?_, h hlen⟩
    rw [hlen, sizeLine_eq]
    lia
theorem str_append_nil {x y : Str} (h : y.length = 0) : x ++ y = x := by
  refine Str.ext' ?_
  rw [Str.cps_append]
  have : y.cps = #[] := Array.eq_empty_of_size_eq_zero h
  rw [this]
  simp
theorem o_addS {Q : Value → Shared → Prop} (hx : 0 < x.length) (hsz : x.length + y.length ≤ sizeLine) (h1 : 1 ≤ t) (h2 : t < s.toks) (h : ∀ t' tk, 1 ≤ t' → t' < tk → s.toks ≤ tk → Q (.str (x ++ y) t') { s with toks := tk }) :
    wpAny (model prog w) A (binaryOp .Add (.str x t) (.str y u)) Q E s := by
  refine P.add_str ?_
  rw [show (x.length == 0) = false from beq_eq_false_iff_ne.mpr (by lia), if_neg Bool.false_ne_true]
  by_cases hy : y.length = 0
  · rw [show (y.length == 0) = true from beq_iff_eq.mpr hy, if_pos rfl]
    have := h t s.toks h1 h2 (Nat.le_refl _)
    rw [str_append_nil hy] at this
    exact this
  · rw [show (y.length == 0) = false from beq_eq_false_iff_ne.mpr hy, if_neg Bool.false_ne_true]
    refine ⟨?_, h s.toks (s.toks + 1) (Nat.le_trans h1 (Nat.le_of_lt h2)) (Nat.lt_succ_self _) (Nat.le_succ _)⟩
    rw [Str.length_append]
    exact hsz
theorem ne_len {x y : Str} (h : x.length ≠ y.length) : (x == y) = false := beq_eq_false_iff_ne.mpr fun e => h (by rw [e])
/-- replace, the two texts' tokens known to differ -/
theorem o_replaceS {x y z : Str} {t : Tok} {k v : Nat} {Q : Value → Shared → Prop} (hkv : v + 1 ≤ k ∨ k + 1 ≤ v) (hv : 1 ≤ v) (hk : 1 ≤ k) (hyz : y.length ≠ z.length) (hb : x.length + (x.length + 1) * z.length ≤ 16777216)
    (h : ∀ t' k, Q (.str (Txt.replace x y z) t') { s with toks := k }) : wpAny (model prog w) A (call (.builtin "str.replace") [.str x t, .str y k, .str z v]) Q E s := by
  have h1 : ¬ (k : Nat) = 0 := by lia
  have h2 : ¬ (v : Nat) = 0 := by lia
  have h3 : ¬ (k : Nat) = v := by lia
  exact SC.replace h1 h2 h3 (ne_len hyz) hb h
end
end PartF12
section PartF13
theorem Fo.listNotOwn {g h : Heap} {L : Addr} {cl : List (Str × Addr)} {m : Str → Option Value} {us : Array Value} {b : Addr} {vs : Array Value} (F : Fo g L cl none h m us) (e : h.PlainList b vs) : ¬ Own L cl none b := fun q => by
  obtain ⟨n, e⟩ := e
  rcases q with rfl | ⟨x, hx, rfl⟩ | q
  · obtain ⟨ml, ⟨o, _, _, ho, hd, _⟩, _⟩ := F.ns
    rw [ho] at e; cases e; cases hd
  · obtain ⟨o, ho, hd⟩ := F.cell x hx
    rw [ho] at e; cases e; cases hd
  · cases q
theorem rows_down {g h : Heap} {L : Addr} {cl : List (Str × Addr)} {m : Str → Option Value} {us : Array Value} (F : Fo g L cl none h m us) (k3 : ∀ b o, h.get? b = some o → ¬ Own L cl none b → g.get? b = some o)
    {vs : List Value} {rs : List (List Int)} (x : RowsAre h vs rs) : RowsAre g vs rs := by
  induction x with
  | nil => exact .nil
  | cons x _ ih =>
    obtain ⟨a, ws, e, p, i⟩ := x
    exact .cons ⟨a, ws, e, p.at fun o e' => k3 a o e' (F.listNotOwn p), i⟩ ih
section
theorem compTurn_two0 (elt t1 i1 t2 i2 : PySem.Expr) (ifs : List PySem.Expr) (scope : Scope) (pos : Pos) (it acc : Value) (env : Env) :
    compTurn (.ListComp elt [⟨t1, i1, [], 0⟩, ⟨t2, i2, ifs, 0⟩] scope pos) 0 it acc env = (do
      standAt i1.pos
      match ← pyNext it with
      | none => pure (.done .next)
      | some v =>
        letOwnedTupleGo t1 it v
        assign t1 env v
        let x ← eval i2 env
        standAt i2.pos
        let x ← foldedSetIterable i2 env x
        let it2 ← holding [x] (pyIter x)
        let _ ← runOwn (.compStart (.ListComp elt [⟨t1, i1, [], 0⟩, ⟨t2, i2, ifs, 0⟩] scope pos) 1 it2 acc env) env
        again (.compLoop (.ListComp elt [⟨t1, i1, [], 0⟩, ⟨t2, i2, ifs, 0⟩] scope pos) 0 it acc env)) := by rfl
theorem compTurn_two1 (elt t1 i1 t2 i2 : PySem.Expr) (ifs : List PySem.Expr) (scope : Scope) (pos : Pos) (it acc : Value) (env : Env) :
    compTurn (.ListComp elt [⟨t1, i1, [], 0⟩, ⟨t2, i2, ifs, 0⟩] scope pos) 1 it acc env = (do
      standAt i2.pos
      match ← pyNext it with
      | none => pure (.done .next)
      | some v =>
        letOwnedTupleGo t2 it v
        assign t2 env v
        let mut ok := true
        for c in ifs do
          if ok then ok ← isTrue c env (eval c env)
        if ok then
          (do let _ ← call (.builtin "list.append") [acc, ← eval elt env])
        again (.compLoop (.ListComp elt [⟨t1, i1, [], 0⟩, ⟨t2, i2, ifs, 0⟩] scope pos) 1 it acc env)) := by rfl
variable {w : World} {A : Around} {s : Shared} {env : Env}
theorem codeAny_compLoop_two {elt t1 i1 t2 i2 : PySem.Expr} {ifs : List PySem.Expr} {scope : Scope} {pos : Pos} {it acc : Value} {R : Result → Shared → Prop} (J : Nat → Shared → Prop)
    (turn : ∀ n s, J n s → wpAny (model PWx w) A (pyNext it) (fun r s₁ => match r with
      | none => R (.ok .next) s₁
      | some v => wpAny (model PWx w) A (assign t1 env v) (fun _ s₂ => wpAny (model PWx w) A (eval i2 env) (fun x s₃ => wpAny (model PWx w) A (pyIter x) (fun it2 s₄ =>
          codeAny (model PWx w) A (.compStart (.ListComp elt [⟨t1, i1, [], 0⟩, ⟨t2, i2, ifs, 0⟩] scope pos) 1 it2 acc env) (fun r s₅ => match r with | .ok _ => ∃ m, m < n ∧ J m s₅ | .error _ => False) s₄) Fls s₃) Fls s₂) Fls s₁) Fls s)
    (n : Nat) (h : J n s) (ht : ∀ v, letOwnedTupleGo t1 it v = pure () := by intro _; rfl) (hs : ∀ x, foldedSetIterable i2 env x = pure x := by intro _; rfl) :
    codeAny (model PWx w) A (.compLoop (.ListComp elt [⟨t1, i1, [], 0⟩, ⟨t2, i2, ifs, 0⟩] scope pos) 0 it acc env) R s := by
  refine codeAny_loop rfl J (fun n s hI => ?_) n h
  show wpAny _ A ((compTurn (.ListComp elt [⟨t1, i1, [], 0⟩, ⟨t2, i2, ifs, 0⟩] scope pos) 0 it acc env).onRaise (fun x => do noteFrame x env; theTreesLotGoes x)) _ _ s
  refine wpAny_noted ?_
  rw [compTurn_two0]
  refine Fls.any ?_
  refine wpAny_bind (wpAny_standAt (wpAny_bind (wpAny_mono (turn n s hI) (fun r s₁ h₁ => ?_) fun _ _ h' => h')))
  cases r with
  | none => exact wpAny_pure h₁
  | some v =>
    refine wpAny_bind (wpAny_of_eq (ht v) ?_)
    refine wpAny_bind (wpAny_mono h₁ (fun _ s₂ h₂ => wpAny_bind (wpAny_mono h₂ (fun x s₃ h₃ => wpAny_bind (wpAny_standAt (wpAny_bind (wpAny_of_eq (hs x) ?_)))) fun _ _ h' => h')) fun _ _ h' => h')
    refine wpAny_bind (wpAny_holding (wpAny_mono h₃ (fun it2 s₄ h₄ => wpAny_bind (wpAny_runOwn (codeAny_mono h₄ (fun r s₅ h₅ => ?_)))) fun _ _ h' => h'))
    cases r with
    | ok f => exact wpAny_pure ⟨rfl, h₅⟩
    | error e => exact h₅.elim
theorem codeAny_compLoop_two1 {elt t1 i1 t2 i2 : PySem.Expr} {ifs : List PySem.Expr} {scope : Scope} {pos : Pos} {it acc : Value} {R : Result → Shared → Prop} (J : Nat → Shared → Prop)
    (turn : ∀ n s, J n s → wpAny (model PWx w) A (pyNext it) (fun r s₁ => match r with
      | none => R (.ok .next) s₁
      | some v => wpAny (model PWx w) A (assign t2 env v) (fun _ s₂ =>
          wpAny (model PWx w) A (forIn ifs true fun c r => if r = true then do let ok ← isTrue c env (eval c env); pure (ForInStep.yield ok) else pure (ForInStep.yield r)) (fun ok s₃ => ok = false ∧ ∃ m, m < n ∧ J m s₃) Fls s₂) Fls s₁) Fls s)
    (n : Nat) (h : J n s) (ht : ∀ v, letOwnedTupleGo t2 it v = pure () := by intro _; rfl) :
    codeAny (model PWx w) A (.compLoop (.ListComp elt [⟨t1, i1, [], 0⟩, ⟨t2, i2, ifs, 0⟩] scope pos) 1 it acc env) R s := by
  refine codeAny_loop rfl J (fun n s hI => ?_) n h
  show wpAny _ A ((compTurn (.ListComp elt [⟨t1, i1, [], 0⟩, ⟨t2, i2, ifs, 0⟩] scope pos) 1 it acc env).onRaise (fun x => do noteFrame x env; theTreesLotGoes x)) _ _ s
  refine wpAny_noted ?_
  rw [compTurn_two1]
  refine Fls.any ?_
  refine wpAny_bind (wpAny_standAt (wpAny_bind (wpAny_mono (turn n s hI) (fun r s₁ h₁ => ?_) fun _ _ h' => h')))
  cases r with
  | none => exact wpAny_pure h₁
  | some v =>
    refine wpAny_bind (wpAny_of_eq (ht v) ?_)
    refine wpAny_bind (wpAny_mono h₁ (fun _ s₂ h₂ => wpAny_bind (wpAny_mono h₂ (fun ok s₃ h₃ => ?_) fun _ _ h' => h')) fun _ _ h' => h')
    obtain ⟨rfl, h₃⟩ := h₃
    exact wpAny_pure ⟨rfl, h₃⟩
theorem codeAny_compStart_two1 {elt t1 i1 t2 i2 : PySem.Expr} {ifs : List PySem.Expr} {scope : Scope} {pos : Pos} {it acc : Value} {R : Result → Shared → Prop}
    (h0 : codeAny (model PWx w) A (.compLoop (.ListComp elt [⟨t1, i1, [], 0⟩, ⟨t2, i2, ifs, 0⟩] scope pos) 1 it acc env) R s)
    (h : wpAny (model PWx w) A (pyIter it) (fun it' s' => codeAny (model PWx w) A (.compLoop (.ListComp elt [⟨t1, i1, [], 0⟩, ⟨t2, i2, ifs, 0⟩] scope pos) 1 it' acc env) R s')
      (notedBy (model PWx w) A env fun x s' => R (.error x) s') s) :
    codeAny (model PWx w) A (.compStart (.ListComp elt [⟨t1, i1, [], 0⟩, ⟨t2, i2, ifs, 0⟩] scope pos) 1 it acc env) R s := by
  refine codeAny_of_tree ?_
  show wpAny _ _ ((compStart (.ListComp elt [⟨t1, i1, [], 0⟩, ⟨t2, i2, ifs, 0⟩] scope pos) 1 it acc env).onRaise (fun x => do noteFrame x env; standAt theWindowsPlace)) _ _ s
  refine wpAny_notedAt ?_
  unfold compStart
  show wpAny _ _ (ask >>= _) _ _ s
  refine wpAny_bind (wpAny_askSetting (wpAny_ite ?_))
  split
  · first
      | exact wpAny_bind (wpAny_pure (wpAny_pure (And.intro rfl h0)))
      | exact wpAny_pure (And.intro rfl h0)
  · first
      | exact wpAny_bind (wpAny_rule (wpAny_bind (wpAny_standAt (wpAny_bind (wpAny_mono h (fun it' s' h' => wpAny_pure (And.intro rfl h')) fun _ _ x => x)))))
      | (refine wpAny_bind (wpAny_rule ?_); show wpAny _ _ (standAt i2.pos >>= _) _ _ s; exact wpAny_bind (wpAny_standAt (wpAny_bind (wpAny_mono h (fun it' s' h' => wpAny_pure (And.intro rfl h')) fun _ _ x => x))))
end
section
variable {w : World} {A : Around} {s : Shared} {env : Env} {g : Heap} {L : Addr} {cl : List (Str × Addr)} {la : Option Addr} {m : Str → Option Value} {us : Array Value} {I : Addr} {n : Nat} {P : Nat → Value → Prop}
noncomputable def CompGo2 (w : World) (A : Around) (elt t1 i1 t2 i2 : PySem.Expr) (ifs : List PySem.Expr) (scope : Scope) (pos : Pos) (env : Env) (cl' : List (Str × Addr)) (it : Value) (Q : Value → Shared → Prop) (s : Shared) : Prop :=
  wpAny (model PWx w) A (newList []) (fun acc s₃ => wpAny (model PWx w) A (newFunctionEnv scope env.globals cl' [] env.qual none .none (some env)) (fun cenv s₄ =>
      codeAny (model PWx w) A (.compStart (.ListComp elt [⟨t1, i1, [], 0⟩, ⟨t2, i2, ifs, 0⟩] scope pos) 0 it acc { cenv with scope := relabel scope env }) (compPost (model PWx w) A Fls none Q acc cenv.locals) s₄) Fls s₃) Fls s
theorem comp2_eval {elt t1 i1 t2 i2 : PySem.Expr} {ifs : List PySem.Expr} {scope : Scope} {pos : Pos} {cl' : List (Str × Addr)} {Q : Value → Shared → Prop}
    (hclos : closureFor scope env = pure cl')
    (h : wpAny (model PWx w) A (eval i1 env) (fun x s₁ => wpAny (model PWx w) A (pyIter x) (fun it s₂ => CompGo2 w A elt t1 i1 t2 i2 ifs scope pos env cl' it Q s₂) Fls s₁) Fls s)
    (hkind : scope.kind = .function := by rfl) (hnames : ∀ x ∈ scope.names, x.2 = .local → scope.names.lookup x.1 = some .local := by decide)
    (hs : ∀ x, foldedSetIterable i1 env x = pure x := by intro _; rfl) :
    wpAny (model PWx w) A (eval (.ListComp elt [⟨t1, i1, [], 0⟩, ⟨t2, i2, ifs, 0⟩] scope pos) env) Q Fls s := by
  rw [eval_ListComp]
  exact wpAny_comprehension_free (use := none) rfl hs hclos hkind hnames h
theorem comp_two {elt i1 : PySem.Expr} {ifs : List PySem.Expr} {x y : Str} {px py pz : Pos} {scope : Scope} {pos : Pos} {cl' : List (Str × Addr)} {Q : Value → Shared → Prop} {s₀ : Shared} {Pz : Value → Prop}
    (S : Src w A g L cl la s.heap I n P) (F : Fo g L cl la s.heap m us) (gx : Gx s₀ s) (hh : A.handled = none)
    (rows : ∀ i v, P i v → ∃ a ws, v = .ref a ∧ g.PlainList a ws ∧ ∀ (j : Nat) z, ws[j]? = some z → Pz z)
    (turn : ∀ C D z s₁ g₁ m₁, Pz z → m₁ y = some z → (∀ b o, g.get? b = some o → g₁.get? b = some o) → (∀ x ∈ cl, g₁.IsCell x.2 (m x.1)) →
      Fo g₁ C [] (some D) s₁.heap m₁ #[] → Gx s₀ s₁ →
      wpAny (model PWx w) A (forIn ifs true fun c r => if r = true then do let ok ← isTrue c (compEnvC scope cl' C env) (eval c (compEnvC scope cl' C env)); pure (ForInStep.yield ok) else pure (ForInStep.yield r)) (fun ok s₃ => ok = false ∧ BkC g₁ C D #[] s₀ (fun _ => True) s₃) Fls s₁)
    (done : ∀ s' g' D, (∀ b o, g.get? b = some o → g'.get? b = some o) → Fo g' L cl la s'.heap m us → Gx s₀ s' → g'.PlainList D #[] → Q (.ref D) s')
    (hcell : ∀ y ∈ scope.names, y.2 ≠ .cell := by decide) (hkind : scope.kind = .function := by rfl) (hx : scope.names.lookup x = some .local := by rfl) (hy : scope.names.lookup y = some .local := by rfl) (hdx : (x == ("__debug__" : Str)) = false := by decide) :
    CompGo2 w A elt (.Name x px) i1 (.Name y py) (.Name x pz) ifs scope pos env cl' (.ref I) Q s := by
  obtain ⟨fp, St, W, hst, hown, hlt, hgI, hni⟩ := S
  have hIf : I ∈ fp := W.sub I (.head _)
  unfold CompGo2
  refine wpAny_newObj_type (wpAny_newFunctionEnv hcell (by intro y hy; simp at hy) (fun h₁ hns₁ hsb₁ => ?_) hkind)
  dsimp only at hns₁ hsb₁ ⊢
  generalize hH2 : s.heap.push { cls := .type "list", dict := none, data := .seq ([] : List Value).toArray } = H2 at hns₁ hsb₁ ⊢
  have hC : H2.objs.size = s.heap.objs.size + 1 := by rw [← hH2, Heap.size_push]
  have hCle : s.heap.objs.size ≤ H2.objs.size := by rw [hC]; exact Nat.le_succ _
  have hDC : s.heap.objs.size ≠ H2.objs.size := by rw [hC]; exact Nat.ne_of_lt (Nat.lt_succ_self _)
  have old : ∀ b o, s.heap.get? b = some o → h₁.get? b = some o := fun b o e => hsb₁.extBut b o (by rw [hC]; exact Nat.ne_of_lt (Nat.lt_succ_of_lt (Heap.lt_size e))) (Heap.get?_push_of_some _ (hH2 ▸ Heap.get?_push_of_some _ e))
  have hacc : h₁.PlainList s.heap.objs.size #[] := ⟨_, hsb₁.extBut _ _ hDC (Heap.get?_push_of_some _ (hH2 ▸ Heap.get?_push_size _ rfl))⟩
  have ownlt : ∀ b, Own H2.objs.size [] (some s.heap.objs.size) b → s.heap.objs.size ≤ b := fun b q => by
    rcases q with rfl | ⟨_, q, _⟩ | q
    · exact hCle
    · cases q
    · cases q; exact Nat.le_refl _
  have nown : ∀ b ∈ fp, ¬ Own H2.objs.size [] (some s.heap.objs.size) b := fun b hb q => Nat.lt_irrefl _ (Nat.lt_of_lt_of_le (hlt b hb) (ownlt b q))
  have outer : ∀ b, Own L cl la b → b ≠ I ∧ ∃ o, s.heap.get? b = some o := fun b q => ⟨fun e => hown I hIf (e ▸ q), by
    rcases q with rfl | ⟨x, hx, rfl⟩ | q
    · obtain ⟨ml, ⟨o, _, _, ho, _⟩, _⟩ := F.ns; exact ⟨o, ho⟩
    · obtain ⟨o, ho, _⟩ := F.cell x hx; exact ⟨o, ho⟩
    · obtain ⟨⟨n, ho⟩, _⟩ := F.lst b q; exact ⟨_, ho⟩⟩
  have F₁ : Fo s.heap H2.objs.size [] (some s.heap.objs.size) h₁ (fun _ => none) #[] :=
    ⟨⟨_, hns₁, fun _ _ => rfl⟩, (fun _ h => nomatch h), (fun _ h => nomatch h), .nil, (fun _ h => nomatch h), fun a e => by cases e; exact ⟨hacc, hDC, fun _ h => nomatch h⟩, old, fun a q => by
      cases e : s.heap.get? a with
      | none => rfl
      | some o => exact absurd (Nat.lt_of_lt_of_le (Heap.lt_size e) (ownlt a q)) (Nat.lt_irrefl _)⟩
  have loop : ∀ s₃ : Shared, s₃ = { s with heap := h₁, toks := s.toks + ([] : List (Str × Value)).length } →
      codeAny (model PWx w) A (.compLoop (.ListComp elt [⟨.Name x px, i1, [], 0⟩, ⟨.Name y py, .Name x pz, ifs, 0⟩] scope pos) 0 (.ref I) (.ref s.heap.objs.size) (compEnvC scope cl' H2.objs.size env))
        (compPost (model PWx w) A Fls none Q (.ref s.heap.objs.size) H2.objs.size) s₃ := by
    rintro s₃ rfl
    refine codeAny_compLoop_two (fun k s₁ => ∃ i g₁ m₁, i ≤ n ∧ k = n - i ∧ (∀ b o, b ≠ I → s.heap.get? b = some o → g₁.get? b = some o) ∧ Fo g₁ H2.objs.size [] (some s.heap.objs.size) s₁.heap m₁ #[] ∧ St i s₁.heap ∧ Gx s₀ s₁)
      (fun k s₁ hI => ?_) n ⟨0, s.heap, _, Nat.zero_le _, rfl, fun b o _ e => e, F₁, W.frame _ _ _ hst fun b _ o e => old b o e, gx.re _ _⟩
    obtain ⟨i, g₁, m₁, hi, hk, hg, F, hst, gx⟩ := hI
    have step : ∀ h', (∀ b o, b ∉ [I] → s₁.heap.get? b = some o → h'.get? b = some o) → ∃ g', Kp g₁ g' ∧ Fo g' H2.objs.size [] (some s.heap.objs.size) h' m₁ #[] ∧ (∀ b o, h'.get? b = some o → ¬ Own H2.objs.size [] (some s.heap.objs.size) b → g'.get? b = some o) ∧
        (∀ b o, b ≠ I → s.heap.get? b = some o → g'.get? b = some o) := fun h' hk => by
      obtain ⟨g', k1, k2, k3⟩ := F.stepped (wr := fun b _ => b ∈ [I]) (fun b _ q _ hb => nown b (W.sub b hb) q) (fun b o hb e => hk b o hb e)
      refine ⟨g', fun b o no e => k1 b o (fun hb => ?_) e, k2, k3, fun b o hb e => k1 b o (fun q => hb (List.mem_singleton.mp q)) (hg b o hb e)⟩
      rw [List.mem_singleton] at hb
      subst hb
      rw [hni _ _ _ hst (F.keep _ _ e)] at no
      cases no
    rcases Nat.lt_or_ge i n with hlt' | hge
    · refine W.item i s₁ _ _ hlt' hst fun v h' tk hP hst' hkeep => ?_
      obtain ⟨g', k1, k2, k3, k4⟩ := step h' hkeep
      dsimp only
      refine wpAny_assign_Name (o_st (env := compEnvC scope cl' H2.objs.size env) k2 (fun h₂ F₂ => ?_) rfl (by simp [compEnvC, relabel, hkind]) (lookup_relabel_local hx) rfl)
      have hm : (fun y => if y = x then some v else m₁ y) x = some v := if_pos rfl
      refine o_ld (env := compEnvC scope cl' H2.objs.size env) F₂ hm ?_ rfl (by simp [compEnvC, relabel, hkind]) (lookup_relabel_local hx) rfl hdx
      obtain ⟨a, ws, rfl, hpa, hz⟩ := rows i v hP
      have up : ∀ b o, g.get? b = some o → g'.get? b = some o := fun b o e => k4 b o (fun q => by rw [q, hgI] at e; cases e) (‹Fo g L cl la s.heap m us›.keep b o e)
      have hpa' : g'.PlainList a ws := pkeeps hpa up
      have cells : ∀ x ∈ cl, g'.IsCell x.2 (m x.1) := fun x hx => by
        obtain ⟨o, ho, hd⟩ := ‹Fo g L cl la s.heap m us›.cell x hx
        exact ⟨o, k4 _ o (outer _ (.inr (.inl ⟨x, hx, rfl⟩))).1 ho, hd⟩
      refine src_list F₂ hh hpa'.isList fun I2 h₃ F₃ k₃ S₃ => ?_
      obtain ⟨fp2, St2, W2, hst2, hown2, hlt2, hgI2, hni2⟩ := S₃
      have back : ∀ s₄ g'' m', (∀ b o, g'.get? b = some o → g''.get? b = some o) → Fo g'' H2.objs.size [] (some s.heap.objs.size) s₄.heap m' #[] → Gx s₀ s₄ →
          ∃ m, m < k ∧ ∃ i g₁ m₁, i ≤ n ∧ m = n - i ∧ (∀ b o, b ≠ I → s.heap.get? b = some o → g₁.get? b = some o) ∧ Fo g₁ H2.objs.size [] (some s.heap.objs.size) s₄.heap m₁ #[] ∧ St i s₄.heap ∧ Gx s₀ s₄ := by
        intro s₄ g'' m' q1 q2 q3
        exact ⟨n - (i + 1), by lia, i + 1, g'', m', hlt', rfl, fun b o hb e => q1 b o (k4 b o hb e), q2, W.frame _ _ _ hst' fun b hb o e => q2.keep b o (q1 b o (k3 b o e (nown b hb))), q3⟩
      have loop2 : codeAny (model PWx w) A (.compLoop (.ListComp elt [⟨.Name x px, i1, [], 0⟩, ⟨.Name y py, .Name x pz, ifs, 0⟩] scope pos) 1 (.ref I2) (.ref s.heap.objs.size) (compEnvC scope cl' H2.objs.size env))
          (fun r s₅ => match r with | .ok _ => ∃ m, m < k ∧ ∃ i g₁ m₁, i ≤ n ∧ m = n - i ∧ (∀ b o, b ≠ I → s.heap.get? b = some o → g₁.get? b = some o) ∧ Fo g₁ H2.objs.size [] (some s.heap.objs.size) s₅.heap m₁ #[] ∧ St i s₅.heap ∧ Gx s₀ s₅ | .error _ => False) { s₁ with heap := h₃, toks := tk + 1 } := by
        refine codeAny_compLoop_two1 (fun k2 s₅ => ∃ j g₂ m₂, j ≤ ws.size ∧ k2 = ws.size - j ∧ (∀ b o, g'.get? b = some o → g₂.get? b = some o) ∧ Fo g₂ H2.objs.size [] (some s.heap.objs.size) s₅.heap m₂ #[] ∧ St2 j s₅.heap ∧ Gx s₀ s₅)
          (fun k2 s₅ hI => ?_) ws.size ⟨0, g', _, Nat.zero_le _, rfl, fun _ _ e => e, F₃, hst2, gx.re _ _⟩
        obtain ⟨j, g₂, m₂, hj, hk2, hg2, F₅, hst5, gx5⟩ := hI
        have step2 : ∀ h', (∀ b o, b ∉ [I2] → s₅.heap.get? b = some o → h'.get? b = some o) → ∃ g', Kp g₂ g' ∧ Fo g' H2.objs.size [] (some s.heap.objs.size) h' m₂ #[] ∧ (∀ b o, h'.get? b = some o → ¬ Own H2.objs.size [] (some s.heap.objs.size) b → g'.get? b = some o) ∧
            (∀ b o, b ≠ I2 → g₂.get? b = some o → g'.get? b = some o) := fun h' hk => by
          obtain ⟨g', k1, k2, k3⟩ := F₅.stepped (wr := fun b _ => b ∈ [I2]) (fun b _ q _ hb => hown2 b (W2.sub b hb) q) (fun b o hb e => hk b o hb e)
          refine ⟨g', fun b o no e => k1 b o (fun hb => ?_) e, k2, k3, fun b o hb e => k1 b o (fun q => hb (List.mem_singleton.mp q)) e⟩
          rw [List.mem_singleton] at hb
          subst hb
          rw [hni2 _ _ _ hst5 (F₅.keep _ _ e)] at no
          cases no
        rcases Nat.lt_or_ge j ws.size with hlt2' | hge2
        · refine W2.item j s₅ _ _ hlt2' hst5 fun z h₆ tk₆ hPz hst6 hkeep6 => ?_
          obtain ⟨g₆, q1, q2, q3, q4⟩ := step2 h₆ hkeep6
          have up6 : ∀ b o, g'.get? b = some o → g₆.get? b = some o := fun b o e => q4 b o (fun q => by rw [q, hgI2] at e; cases e) (hg2 b o e)
          dsimp only
          refine wpAny_assign_Name (o_st (env := compEnvC scope cl' H2.objs.size env) q2 (fun h₇ F₇ => ?_) rfl (by simp [compEnvC, relabel, hkind]) (lookup_relabel_local hy) rfl)
          have hmz : (fun q => if q = y then some z else m₂ q) y = some z := if_pos rfl
          refine wpAny_mono (turn H2.objs.size s.heap.objs.size z { s₅ with heap := h₇, toks := tk₆ + 1 } g₆ _ (hz j z hPz) hmz (fun b o e => up6 b o (up b o e)) (fun x hx => (cells x hx).keeps up6) F₇ (gx5.re _ _)) (fun ok s₈ h₈ => ?_) fun _ _ e => e
          obtain ⟨hok, g₈, m₈, r1, r2, r3, _⟩ := h₈
          exact ⟨hok, ws.size - (j + 1), by lia, j + 1, g₈, m₈, hlt2', rfl, fun b o e => r1 b o (up6 b o e), r2, W2.frame _ _ _ hst6 fun b hb o e => r2.keep b o (r1 b o (q3 b o e (hown2 b hb))), r3⟩
        · have : j = ws.size := by lia
          subst this
          refine W2.done s₅ _ _ hst5 fun h₆ tk₆ hkeep6 => ?_
          obtain ⟨g₆, q1, q2, q3, q4⟩ := step2 h₆ hkeep6
          exact back { s₅ with heap := h₆, toks := tk₆ } g₆ m₂ (fun b o e => q4 b o (fun q => by rw [q, hgI2] at e; cases e) (hg2 b o e)) q2 (gx5.re _ _)
      exact codeAny_compStart_two1 loop2 (W2.self 0 _ _ _ hst2 loop2)
    · have : i = n := by lia
      subst this
      refine W.done s₁ _ _ hst fun h' tk hkeep => ?_
      obtain ⟨g', k1, k2, k3, k4⟩ := step h' hkeep
      obtain ⟨ml, hml, _⟩ := k2.ns
      have hCown : ¬ Own L cl la H2.objs.size := fun q => by
        obtain ⟨_, o, ho⟩ := outer _ q
        exact Nat.lt_irrefl _ (Nat.lt_of_lt_of_le (Heap.lt_size ho) hCle)
      have hDown : ¬ Own L cl la s.heap.objs.size := fun q => by
        obtain ⟨_, o, ho⟩ := outer _ q
        exact Nat.lt_irrefl _ (Heap.lt_size ho)
      have Fz := ‹Fo g L cl la s.heap m us›.moves (g' := hideAll h' (H2.objs.size :: ownL L cl la)) (h' := h') (fun b o q e => k2.keep b o (k4 b o (outer b q).1 e)) (fun b o e => of_hideAll _ e) (fun a q => hideAll_none _ (.tail _ (ownL_iff.mpr q)))
      have up : ∀ b o, h'.get? b = some o → b ≠ H2.objs.size → ¬ Own L cl la b → (hideAll h' (H2.objs.size :: ownL L cl la)).get? b = some o := fun b o e n1 n2 => hideAll_get _ e fun q => by
        rcases List.mem_cons.mp q with q | q
        · exact n1 q
        · exact n2 (ownL_iff.mp q)
      refine ⟨ml, hml, fun h₉ hs₉ => done { s₁ with heap := h₉, toks := tk } _ s.heap.objs.size (fun b o e => ?_) (fo_sameBut Fz hCown (hideAll_none _ (.head _)) hs₉) (gx.re _ _) ?_⟩
      · have e' := ‹Fo g L cl la s.heap m us›.keep b o e
        refine up b o (k2.keep b o (k4 b o (fun q => by rw [q, hgI] at e; cases e) e')) (fun q => ?_) (‹Fo g L cl la s.heap m us›.own_ne e)
        rw [q] at e'
        exact Nat.lt_irrefl _ (Nat.lt_of_lt_of_le (Heap.lt_size e') hCle)
      · obtain ⟨n', hn'⟩ := (k2.lst _ rfl).1
        exact ⟨n', up _ _ hn' hDC hDown⟩
  exact codeAny_compStart_list (loop _ rfl) (W.self 0 _ _ _ (W.frame _ _ _ hst fun b _ o e => old b o e) (loop _ rfl))
end
end PartF13
section GroupP
local macro_rules | `(tactic| walk_at "w s") => `(tactic| with_reducible first | refine at_while ?_ | refine at_for ?_ | refine at_comp ?_ | refine at_call ?_ | refine at_meth ?_ | refine at_ins ?_ | refine at_app ?_ | refine at_ex ?_ | refine at_iter ?_ | refine at_sub ?_ | refine at_bin ?_ | refine at_callb ?_ | refine at_callt ?_ | refine at_cmp ?_ | refine at_inp ?_ | refine at_asg ?_ | refine at_tests ?_)
local macro_rules | `(tactic| walk_at "w stop") => `(tactic| ((fail_if_success walk_at "w s"); (fail_if_success walk_at "w s2")))
set_option hygiene false in
local macro_rules | `(tactic| walk_at "w kin") => `(tactic| first | exact X | exact X.keeps (Fo.keep (by assumption)))
set_option hygiene false in
local macro_rules | `(tactic| walk_at "w go") => `(tactic| repeat' ((try dsimp only); first | walk_at "w kin" | walk_at "w nx" | (walk_at "w stop"; walk1)))
set_option hygiene false in
local macro_rules | `(tactic| walk_at "w nx") => `(tactic| ((with_reducible first | refine nx NX ?_ | refine rt RT ?_); try clear NX RT Q'))
set_option hygiene false in
local macro_rules | `(tactic| walk_at "execs cons") => `(tactic| ((with_reducible refine cons_abs ?_); intro Q' NX RT))
local macro_rules | `(tactic| walk_at "w 1") => `(tactic| ((try dsimp only); walk1))
local macro_rules | `(tactic| walk_at "eval Name") => `(tactic| with_unfolding_all first | refine o_ld (by assumption) (by rfl) ?_ | refine o_ld (by assumption) (by assumption) ?_ | refine o_ldc (by assumption) (by rfl) ?_ | refine o_ldc (by assumption) (by assumption) ?_ | refine o_capN (by assumption) (by assumption) ?_ | refine o_cap (by assumption) (by assumption) ?_ | refine o_nameK (by assumption) (by assumption) (topRead_of (by assumption)) (by k_is) ?_ | refine o_nameB (by assumption) (by assumption) (topRead_of (by assumption)) (by k_is) (by boot_by_name) ?_ | refine ld (by assumption) (by assumption) ?_)
set_option hygiene false in
local macro_rules | `(tactic| walk_at "storeName") => `(tactic| ((with_unfolding_all first | refine o_st (by assumption) ?_ | refine o_stc (by assumption) ?_); intro h' F'))
set_option hygiene false in
local macro_rules | `(tactic| walk_at "newTuple") => `(tactic| (with_unfolding_all refine o_newTuple (by assumption) ?_; intro h' g' F' kg' IT' K'; replace X := X.keeps kg'; replace T := T.keeps kg'))
set_option hygiene false in
local macro_rules | `(tactic| walk_at "newList") => `(tactic| (with_unfolding_all refine o_newList (by assumption) ?_; intro h' g' F' kg' IL' K'; replace X := X.keeps kg'; replace T := T.keeps kg'))
local macro_rules | `(tactic| walk_at "eval Call") => `(tactic| ((with_reducible show wpAny _ _ (eval (Expr.Call (Expr.Name _ _) _ [] _) _) _ _ _); refine Call_ ?_))
local macro_rules | `(tactic| walk_at "loadName") => `(tactic| with_unfolding_all first | refine o_ldn (by assumption) (by assumption) ?_ | refine o_ldn (by assumption) (by rfl) ?_ | refine o_ldcn (by assumption) (by assumption) ?_ | refine o_ldcn (by assumption) (by rfl) ?_)
section StopT
local macro_rules | `(tactic| walk_at "w stop") => `(tactic| (fail_if_success (with_reducible refine at_while ?_)))
section PartT3
set_option maxHeartbeats 4000000 in
theorem strip_call {p : Program} {w : World} {A : Around} {loose : List Str} {mean : ExcName → Option Value} {mg mb : Str → Option Value} {x : Str} {t : Tok} {s : Shared} {R : Result → Shared → Prop}
   (X : (hd.heap_39 w.params).In s.heap) (T : Top p loose mean mg mb s.heap) (hh : A.handled = none) (hd : A.depth + (1 + 1) < recursionLimit) (hu : A.units + (20 + 3) < cLine)
   (hq : (Builtin.Str.occurrences x ("\"") 0 x.length 1).isEmpty = true)
   (h : ∀ s', Ext s s' → R (.ok (.ret (.str x t))) s') :
   codeAny (model PW w) A (.call (.ref 62) ⟨[.str x t], []⟩) R s := by
  refine enterO X T.nolimit hh hd hu (by k_is) (by k_is) (binds := [("addr", .str x t)]) (binds_peek X (fun S => rfl)) (locs rfl) ?_
  clear hh hd hu
  intro h₁ A' tk hh hd hu F
  walk_at "w go"
  exact h _ (Ext.heap F.keep)
noncomputable def chkP : List Str → Int → Bool
  | [], o => decide (o = 0)
  | c :: cs, o => if c = ("(" : Str) then chkP cs (o + 1) else if c = (")" : Str) then (if o - 1 < 0 then false else chkP cs (o - 1)) else chkP cs o
theorem drop_back {α : Type} {L : List α} {k : Nat} {c : α} (e : L[L.length - (k + 1)]? = some c) (h : k + 1 ≤ L.length) : L.drop (L.length - (k + 1)) = c :: L.drop (L.length - k) := by
  obtain ⟨h1, h2⟩ := List.getElem?_eq_some_iff.mp e
  rw [List.drop_eq_getElem_cons h1, h2, show L.length - (k + 1) + 1 = L.length - k by lia]
set_option maxHeartbeats 4000000 in
theorem check_call {p : Program} {w : World} {A : Around} {loose : List Str} {mean : ExcName → Option Value} {mg mb : Str → Option Value} {x : Str} {t : Tok} {s : Shared} {R : Result → Shared → Prop}
   (X : (hd.heap_39 w.params).In s.heap) (T : Top p loose mean mg mb s.heap) (hh : A.handled = none) (hd : A.depth + (20 + 1) < recursionLimit) (hu : A.units + (100 + 3) < cLine)
   (hq : (Builtin.Str.occurrences x ("\"") 0 x.length 1).isEmpty = true)
   (h : ∀ s', Ext s s' → R (.ok (.ret (.bool (chkP (escP x.cps.toList false) 0)))) s') :
   codeAny (model PW w) A (.call (.ref 69) ⟨[.str x t], []⟩) R s := by
  refine enterO X T.nolimit hh hd hu (by k_is) (by k_is) (binds := [("addr", .str x t)]) (binds_peek X (fun S => rfl)) (locs rfl) ?_
  clear hh hd hu
  intro h₁ A' tk hh hd hu F
  walk_at "w go"
  refine wpAny_call ?_
  refine strip_call (X.keeps F.keep) (T.keeps F.keep) hh (by lia) (by lia) hq fun s₁ e₁ => ?_
  have F₁ := F.keeps e₁.keep
  have E₁ : Ext s s₁ := Ext.trans (Ext.heap (tk := 0) F.keep) ⟨e₁.keep, e₁.gens, e₁.bare, e₁.os⟩
  clear F e₁
  walk_at "w go"
  refine for_exec ?_
  walk_at "w go"
  refine wpAny_call ?_
  refine iter_call X T (by exact F'.keep) (by lia) fun C a gs h₂ tk₂ hC ha hne k₂ hb G => ?_
  have G := G A' hh (by lia) (by lia)
  have E₂ := (E₁.re (tk := tk) F'.keep).trans (Ext.push (tk := tk₂) (by exact k₂) hb)
  have F₂ := F'.keeps k₂
  have hgi : ∀ (i : Nat) (y : GenState), s.gens[i]? = some y → i ≠ s₁.gens.size := fun i y e => Nat.ne_of_lt (Array.getElem?_eq_some_iff.mp (E₁.gens i y e)).1
  have hLC : s.heap.objs.size < C := Nat.lt_of_lt_of_le (F'.lt (.inl rfl)) hC
  have hLa : s.heap.objs.size < a := Nat.lt_of_lt_of_le (F'.lt (.inl rfl)) ha
  have hsC : ∀ b o, s.heap.get? b = some o → b < C := fun b o e => Nat.lt_trans (Heap.lt_size e) hLC
  clear F' E₁ F₁ k₂ hC ha hb
  dsimp only at G E₂ F₂ ⊢
  refine wpAny_pyIter_gen G.gen ?_
  generalize hLst : escP x.cps.toList false = Lst at G h
  refine for_I (fun k s' => ∃ g m op t2, Fo g s.heap.objs.size [] none s'.heap m #[] ∧ (∀ b o, s.heap.get? b = some o → g.get? b = some o) ∧ GenOk w A' (YE C s.heap Lst) (RR false C) false C s.heap true a s₁.gens.size k s'.heap s'.gens ∧ Ext s s' ∧
    m "opens" = some (.int op t2) ∧ k ≤ Lst.length ∧ chkP (Lst.drop (Lst.length - k)) op = chkP Lst 0) ?turn Lst.length ⟨_, _, _, _, F₂, fun _ _ e => e, G, E₂, rfl, Nat.le_refl _, by rw [Nat.sub_self]; rfl⟩
  case turn =>
    clear F₂ G E₂
    rintro k s' ⟨g, m, op, t2, F, hg, G, E, mo, hk, hc⟩
    have own : ∀ b o, Own s.heap.objs.size [] none b → s'.heap.get? b = some o → ¬ (b = C ∨ (C < b ∧ pv false o = true)) := by
      rintro b o (rfl | ⟨_, q, _⟩ | q) e q'
      · rcases q' with q' | q'
        · exact absurd hLC (by rw [q']; exact Nat.lt_irrefl _)
        · exact absurd (Nat.lt_trans hLC q'.1) (Nat.lt_irrefl _)
      · cases q
      · cases q
    refine iter_next hh (by lia) (T.nolimit.keeps E.keep) E.keep hne (.inr rfl) G (fun k' v s'' hn hI hK G' S => ?_) fun hn s'' hK S => ?_
    · subst hn
      have E' := E.step hsC hgi hK S
      obtain ⟨g', k1, F', k3⟩ := F.stepped (wr := fun b o => b = C ∨ (C < b ∧ pv false o = true)) own (fun b o hb e => hK b o (fun q => hb (.inl q)) (fun q => by
        cases q2 : pv false o with
        | false => rfl
        | true => exact absurd (.inr ⟨q, q2⟩) hb) e)
      obtain ⟨ch, T, p', t', t2', hch, rfl, hT, hTT⟩ := hI
      dsimp only
      refine letGo_gen G'.gen ?_
      refine o_unpack2 F' hh hTT fun h₃ tk₃ F₃ => ?_
      have nown : ∀ b, s.heap.objs.size < b → ¬ Own s.heap.objs.size [] none b := by
        rintro b hb (rfl | ⟨_, q, _⟩ | q)
        · exact Nat.lt_irrefl _ hb
        · cases q
        · cases q
      have hg' : ∀ b o, s.heap.get? b = some o → g'.get? b = some o := fun b o e => k1 b o (fun q => by
        rcases q with rfl | q
        · exact Nat.lt_irrefl _ (hsC _ o e)
        · exact Nat.lt_irrefl _ (Nat.lt_trans q.1 (hsC _ o e))) (hg b o e)
      have close : ∀ h₄ m' op' t' tk, Fo g' s.heap.objs.size [] none h₄ m' #[] → m' "opens" = some (.int op' t') → chkP (Lst.drop (Lst.length - k')) op' = chkP Lst 0 →
          Nxt (k' + 1) (fun k s' => ∃ g m op t2, Fo g s.heap.objs.size [] none s'.heap m #[] ∧ (∀ (b : Addr) (o : Obj), s.heap.get? b = some o → g.get? b = some o) ∧ GenOk w A' (YE C s.heap Lst) (RR false C) false C s.heap true a s₁.gens.size k s'.heap s'.gens ∧ Ext s s' ∧ m "opens" = some (Value.int op t2) ∧ k ≤ Lst.length ∧ chkP (List.drop (Lst.length - k) Lst) op = chkP Lst 0)
            { s'' with heap := h₄, toks := tk } := fun h₄ m' op' t' tk F₄ mo' hc' =>
        ⟨k', Nat.lt_succ_self _, g', m', op', t', F₄, hg', G'.move (fun b o hb e => F₄.keep b o (k3 b o e (nown b (by
          rcases hb with rfl | hb
          · exact hLC
          · exact Nat.lt_trans hLC hb.1)))) (fun o e => F₄.keep a o (k3 a o e (nown a hLa))) (fun _ e => e), E'.re (fun b o e => F₄.keep b o (hg' b o e)), mo', by lia, hc'⟩
      rw [drop_back hch hk] at hc
      clear own k1 k3 hT hTT
      have h1 : ∀ c op, chkP (c :: Lst.drop (Lst.length - k')) op = if c = ("(" : Str) then chkP (Lst.drop (Lst.length - k')) (op + 1) else if c = (")" : Str) then (if op - 1 < 0 then false else chkP (Lst.drop (Lst.length - k')) (op - 1)) else chkP (Lst.drop (Lst.length - k')) op := fun _ _ => rfl
      rw [h1] at hc
      walk_at "w go"
      · rename (ch == _) = true => q
        rw [if_pos (beq_iff_eq.mp q)] at hc
        exact close _ _ _ _ _ F' rfl hc
      · rename (ch == ")") = true => q
        rename (ch == "(") = false => q'
        rename op - 1 < 0 => q''
        rw [if_neg (beq_eq_false_iff_ne.mp q'), if_pos (beq_iff_eq.mp q), if_pos q''] at hc
        rw [hc]
        exact h _ (E'.re fun b o e => F'.keep b o (hg' b o e))
      · rename (ch == ")") = true => q
        rename (ch == "(") = false => q'
        rename ¬ (op - 1 < 0) => q''
        rw [if_neg (beq_eq_false_iff_ne.mp q'), if_pos (beq_iff_eq.mp q), if_neg q''] at hc
        exact close _ _ _ _ _ F' rfl hc
      · rename (ch == ")") = false => q
        rename (ch == "(") = false => q'
        rw [if_neg (beq_eq_false_iff_ne.mp q'), if_neg (beq_eq_false_iff_ne.mp q)] at hc
        exact close _ _ _ _ _ F₃ mo hc
    · subst hn
      have E' := E.step hsC hgi hK S
      obtain ⟨g', k1, F', k3⟩ := F.stepped (wr := fun b o => b = C ∨ (C < b ∧ pv false o = true)) own (fun b o hb e => hK b o (fun q => hb (.inl q)) (fun q => by
        cases q2 : pv false o with
        | false => rfl
        | true => exact absurd (.inr ⟨q, q2⟩) hb) e)
      have hc' : decide (op = 0) = chkP Lst 0 := by
        rw [← hc, Nat.sub_zero, List.drop_length]
        rfl
      dsimp only
      walk_at "w go"
      rw [show (op == 0) = chkP Lst 0 from hc']
      exact h _ (E'.re E'.keep)
end PartT3
section PartT6
noncomputable def insAt (ns : List Int) (x : Int) : Int := brF ns x ns.length 0 ns.length
noncomputable def insP (ns : List Int) (x : Int) : List Int :=
  ns.take (if insAt ns x < 0 then (insAt ns x + (ns.length : Int)).toNat else min (insAt ns x).toNat ns.length) ++ x :: ns.drop (if insAt ns x < 0 then (insAt ns x + (ns.length : Int)).toNat else min (insAt ns x).toNat ns.length)
theorem brF_le (ns : List Int) (x : Int) : ∀ n (lo hi : Int), 0 ≤ lo → lo ≤ hi → lo ≤ brF ns x n lo hi ∧ brF ns x n lo hi ≤ hi := by
  intro n
  induction n with
  | zero => intro lo hi h1 h2; exact ⟨Int.le_refl _, h2⟩
  | succ n ih =>
    intro lo hi h1 h2
    simp only [brF_succ]
    split
    · have e : Int.fdiv (lo + hi) 2 = (lo + hi) / 2 := Int.fdiv_eq_ediv_of_nonneg _ (by decide)
      rw [e]
      split
      · have := ih lo ((lo + hi) / 2) h1 (by lia)
        lia
      · have := ih ((lo + hi) / 2 + 1) hi (by lia) (by lia)
        lia
    · exact ⟨Int.le_refl _, h2⟩
set_option maxHeartbeats 4000000 in
theorem insort_call {p : Program} {w : World} {A : Around} {loose : List Str} {mean : ExcName → Option Value} {mg mb : Str → Option Value} {l : Addr} {vs : List Value} {ns : List Int} {x : Int} {tx : Tok} {s : Shared} {R : Result → Shared → Prop}
   (X : (hd.heap_39 w.params).In s.heap) (T : Top p loose mean mg mb s.heap) (hh : A.handled = none) (hd : A.depth + (3 + 1) < recursionLimit) (hu : A.units + (20 + 3) < cLine)
   (hl : s.heap.PlainList l vs.toArray) (hi : IntsAre vs ns) (hf : ns.length < 2 ^ 20)
   (h : ∀ h' tk vs', h'.PlainList l vs'.toArray → IntsAre vs' (insP ns x) → (∀ b o, b ≠ l → s.heap.get? b = some o → h'.get? b = some o) → R (.ok (.ret .none)) { s with heap := h', toks := tk }) :
   codeAny (model PW w) A (.call (.ref 30) ⟨[.ref l, .int x tx], []⟩) R s := by
  refine enterO X T.nolimit hh hd hu (by k_is) (by k_is) (binds := [("a", .ref l), ("x", .int x tx), ("lo", .int 0 202), ("hi", .none), ("key", .none)]) (binds_peek X (fun S => rfl)) (locs rfl) ?_
  clear hh hd hu
  intro h₁ A' tk hh hd hu F
  walk_at "w go"
  refine wpAny_call ?_
  refine br_call4 (X.keeps F.keep) (T.keeps F.keep) (by lia) (by lia) (lkeeps hl.isList F.keep) hi (by lia) fun t h₂ tk₂ k₂ => ?_
  have F₂ := F.keeps k₂
  dsimp only at F₂ ⊢
  walk_at "w go"
  refine plain_method (hl.at fun o e => F'.keep l o e) PySem.F.slot_list_insert PySem.F.type_list_insert ?_
  walk_at "w go"
  have hb := brF_le ns x ns.length 0 ns.length (Int.le_refl _) (by lia)
  refine plain_insert (hl.at fun o e => F'.keep l o e) ?_ ?_ fun h₃ hp₃ hs₃ => ?_
  · unfold Builtin.List.listFitsIndex
    simp only [Bool.and_eq_true, decide_eq_true_eq]
    lia
  · rw [hi.length]
    exact Nat.le_trans (Nat.le_of_lt hf) (by decide)
  · walk_at "w go"
    refine h _ _ _ hp₃ ?_ fun b o hb e => hs₃.extBut b o hb (F'.keep b o e)
    unfold insP insAt kl_ins
    rw [hi.length]
    exact IntsAre.append (hi.take _) (.cons _ _ (hi.drop _))
end PartT6
section PartG4
/-- the widths, an endless tail cut at N -/
noncomputable def giP (N : Nat) : List Int → Option Int → List Int
  | [], _ => []
  | x :: r, last => if x = 127 then [] else if x = 0 then (match last with | some v => List.replicate N v | none => []) else x :: giP N r (some x)
theorem giP_cons {N : Nat} {x : Int} {r : List Int} {last : Option Int} : giP N (x :: r) last = if x = 127 then [] else if x = 0 then (match last with | some v => List.replicate N v | none => []) else x :: giP N r (some x) := rfl
noncomputable def giFin : List Int → Bool
  | [] => true
  | x :: r => if x = 127 then true else if x = 0 then false else giFin r
theorem giFin_cons {x : Int} {r : List Int} : giFin (x :: r) = if x = 127 then true else if x = 0 then false else giFin r := rfl
noncomputable def ItI (V : List Int) (m : Nat) (v : Value) (_ _ : Heap) : Prop := ∃ x t, V[V.length - (m + 1)]? = some x ∧ v = .int x t
noncomputable def lastV : Option Int → Tok → Value
  | none, _ => .none
  | some v, t => .int v t
theorem pv_list {h : Heap} {it l : Addr} {i : Nat} {o : Obj} (he : h.IsListIter it l i) (ho : h.get? it = some o) : pv true o = true := by
  obtain ⟨o', h1, h2, h3⟩ := he
  cases ho.symm.trans h1
  unfold pv
  rw [h2, h3]
  rfl
noncomputable abbrev YI (C : Addr) (B : Heap) (fin : Bool) (V : List Int) : Protocol := YP true C B fin (ItI V)
theorem seg_wloop {M : Model} {A : Around} {R : GenEnd} {Y : Protocol} {fs : List Frame} {test : PySem.Expr} {body : List Stmt} {env : Env} (I : Nat → Shared → Shared → Prop)
    (turn : ∀ n s₀ s, I n s₀ s → (∀ n' s₀' s', n' < n → I n' s₀' s' → Seg M A R Y n' s₀' (.whileLoop test body [] env) (M.den (.whileLoop test body [] env)) fs s') →
      Seg M A R Y n s₀ (.whileLoop test body [] env) (M.den (.whileLoop test body [] env)) fs s) :
    ∀ n s₀ s, I n s₀ s → Seg M A R Y n s₀ (.whileLoop test body [] env) (M.den (.whileLoop test body [] env)) fs s := by
  intro n
  induction n using Nat.strongRecOn with
  | ind n ih => exact fun s₀ s hI => turn n s₀ s hI fun n' s₀' s' hk hI' => ih n' hk s₀' s' hI'
theorem rep_at {done : List Int} {N k : Nat} {v : Int} (h : k + 1 ≤ N) : (done ++ List.replicate N v)[(done ++ List.replicate N v).length - (k + 1)]? = some v := by
  rw [List.length_append, List.length_replicate, List.getElem?_append_right (by omega), List.getElem?_replicate, if_pos (by omega)]
set_option maxHeartbeats 4000000 in
theorem iv_call {p : Program} {w : World} {A : Around} {loose : List Str} {mean : ExcName → Option Value} {mg mb : Str → Option Value} {l : Addr} {vs : List Value} {ns : List Int} {s : Shared} {R : Result → Shared → Prop}
    {B : Heap} (X : (hd.heap_39 w.params).In B) (T : Top p loose mean mg mb B) (hB : ∀ b o, B.get? b = some o → s.heap.get? b = some o) (hd : A.depth + 10 < recursionLimit)
    (hl : B.IsList l vs.toArray) (hi : IntsAre vs ns) (h0 : ns.head? ≠ some 0) (N : Nat)
    (h : ∀ C a gs h' tk, s.heap.objs.size ≤ C → s.heap.objs.size ≤ a → C < a → (∀ b o, s.heap.get? b = some o → h'.get? b = some o) → gs.bare = true →
      (∀ A, A.handled = none → A.depth + 10 < recursionLimit → A.units + 40 < cLine → GenOk w A (YI C B (giFin ns) (giP N ns none)) (RR true C) true C B (giFin ns) a s.gens.size (giP N ns none).length h' (s.gens.push gs)) →
      R (.ok (.ret (.ref a))) { s with heap := h', gens := s.gens.push gs, toks := tk }) :
    codeAny (model PW w) A (.call (.ref 21) ⟨[.ref l], []⟩) R s := by
  have X₀ := X.keeps hB
  refine codeAny_call_generator (by omega) (X₀ 21 _ (by k_is)) rfl rfl rfl rfl (codeRec_of X₀ (by k_is)) (BindsTo.of_eq (binds := [(Str.ofString "grouping", .ref l)]) rfl _ _ _ _ ?_)
  refine wpAny_newFunctionEnv (by decide) (locs rfl) (fun h₁ hn hs => ?_) rfl
  have keep₁ : ∀ b o, s.heap.get? b = some o → h₁.get? b = some o := fun b o e => hs.extBut b o (Nat.ne_of_lt (Heap.lt_size e)) (Heap.get?_push_of_some _ e)
  have hsz : h₁.objs.size = s.heap.objs.size + 1 := by rw [hs.1, Heap.size_push]
  refine ⟨(T.nolimit.keeps hB).keeps keep₁, h s.heap.objs.size _ _ _ _ (Nat.le_refl _) (by rw [hsz]; exact Nat.le_succ _) (by rw [hsz]; exact Nat.lt_succ_self _) (fun b o e => Heap.get?_push_of_some _ (keep₁ b o e)) rfl fun A hA hd hu => ⟨⟨_, _, _, Heap.get?_push_size _ rfl, rfl, rfl, rfl⟩, (fun b o e => Heap.lt_size (hB b o e)), _, Array.getElem?_push_size .., rfl, fun s'' hk hB'' hfin => ⟨rfl, ?_⟩⟩⟩
  have hn'' : s''.heap.Ns s.heap.objs.size (fun y => [(Str.ofString "grouping", Value.ref l)].reverse.lookup y) := (hn.push _).at' fun o e => hk _ o (.inl rfl) e
  have F : Fo B s.heap.objs.size [] none s''.heap (fun y => [(Str.ofString "grouping", Value.ref l)].reverse.lookup y) #[] := ⟨⟨_, hn'', fun _ _ => rfl⟩, (fun _ h => nomatch h), (fun _ h => nomatch h), .nil, (fun _ h => nomatch h), (fun _ h => nomatch h), hB'', fun a q => by
    have : a = s.heap.objs.size := by
      rcases q with q | ⟨_, q, _⟩ | q
      · exact q
      · cases q
      · cases q
    subst this
    cases q : B.get? s.heap.objs.size with
    | none => rfl
    | some o => exact absurd (Heap.lt_size (hB _ _ q)) (Nat.lt_irrefl _)⟩
  have hBC : ∀ b o, B.get? b = some o → b < s.heap.objs.size := fun b o e => Heap.lt_size (hB b o e)
  clear hn'' hn hs hk hB'' keep₁ hsz h X₀ hB
  generalize s.heap.objs.size = C at F hBC ⊢
  have ownC : ∀ b, Own C [] none b → b = C := fun b q => by
    rcases q with q | ⟨_, q, _⟩ | q
    · exact q
    · cases q
    · cases q
  have XB := X
  have TB := T
  obtain ⟨g₀, k0, F, k1⟩ := F.all
  replace X := X.keeps k0
  replace T := T.keeps k0
  refine seg_func (seg_execs_cons (seg_plain ?_))
  walk_at "w go"
  refine seg_execs_cons (seg_For ?_)
  walk_at "w go"
  refine wpAny_pyIter_list (lkeeps hl (fun b o e => F'.keep b o (k0 b o e))) ?_
  intro ps
  have F₂ := F'.push { cls := .type "list_iterator", data := .fields #[.ref l, .int 0 0] }
  have hIt : (h'.push { cls := .type "list_iterator", data := .fields #[.ref l, .int 0 0] }).IsListIter h'.objs.size l 0 := ⟨_, Heap.get?_push_size _ rfl, rfl, rfl⟩
  have hCI : C < h'.objs.size := F'.lt (.inl rfl)
  dsimp only at F₂ hIt ⊢
  have K₂ : Kept true C s''.heap (h'.push { cls := .type "list_iterator", data := .fields #[.ref l, .int 0 0] }) := fun b o hb _ e => Heap.get?_push_of_some _ (F'.keep b o (k1 b o e fun q => hb (ownC b q)))
  generalize h'.push { cls := .type "list_iterator", data := .fields #[.ref l, .int 0 0] } = h₂ at F₂ hIt K₂ ⊢
  generalize h'.objs.size = It at hIt hCI ⊢
  have hB₂ : ∀ b o, B.get? b = some o → h₂.get? b = some o := fun b o e => F₂.keep b o (k0 b o e)
  obtain ⟨g₂, k2, F₂, k3⟩ := F₂.all
  clear k1 F F' k3 X T
  refine seg_loop (fun k n s₀ s' => ∃ g m h tk i last tl, s' = { s₀ with heap := h, toks := tk } ∧ Kept true C s₀.heap h ∧ Fo g C [] none h m #[] ∧ (∀ b o, B.get? b = some o → g.get? b = some o) ∧
    m "last_interval" = some (lastV last tl) ∧ h.IsListIter It l i ∧ i + k = ns.length ∧ (last = none → ∀ r, ns.drop i ≠ 0 :: r) ∧ giFin (ns.drop i) = giFin ns ∧ (0 < n ∨ giFin ns = true) ∧
    n = (giP N (ns.drop i) last).length ∧ ∃ done, giP N ns none = done ++ giP N (ns.drop i) last) ?turn ns.length _ _ _ ⟨g₂, _, h₂, _, 0, none, 0, rfl, K₂, F₂, (fun b o e => k2 b o (k0 b o e)), rfl, hIt, Nat.zero_add _, ?hz0, rfl, hfin, rfl, [], rfl⟩
  case hz0 =>
    intro _ r q
    rw [List.drop_zero] at q
    rw [q] at h0
    exact h0 rfl
  case turn =>
    clear F₂ hIt K₂ k2 hB₂ hfin k0
    rintro k n s₀ s' ⟨g, m, h, tk, i, last, tl, rfl, hK, F, hBg, ml, hit, hik, hz, hfn, hf, hn, done, hd1⟩ again
    have hlh := lkeeps hl (fun b o e => F.keep b o (hBg b o e))
    have hIC : It ≠ C := Nat.ne_of_gt hCI
    refine seg_forLoop ?_
    rcases Nat.lt_or_ge i ns.length with hlt | hge
    · obtain ⟨x, hx⟩ : ∃ x, ns[i]? = some x := ⟨_, List.getElem?_eq_getElem hlt⟩
      obtain ⟨tx, hv⟩ := hi.get i x hx
      refine wpAny_pyNext_list_item hit hlh (by simpa using hv) fun h₃ hit₃ hs₃ => ?_
      have hdr : ns.drop i = x :: ns.drop (i + 1) := by
        obtain ⟨h1, h2⟩ := List.getElem?_eq_some_iff.mp hx
        rw [List.drop_eq_getElem_cons h1, h2]
      have hBIt : ∀ b o, B.get? b = some o → b ≠ It := fun b o e q => by subst q; exact Nat.lt_irrefl _ (Nat.lt_trans hCI (hBC _ o e))
      have F₃ : Fo B C [] none h₃ m #[] := F.moves (fun b o q e => hs₃.extBut b o (by rw [ownC b q]; exact Ne.symm hIC) e) (fun b o e => hs₃.extBut b o (hBIt b o e) (F.keep b o (hBg b o e))) (fun a q => by
        cases e : B.get? a with
        | none => rfl
        | some o => exact absurd q (F.own_ne (hBg a o e)))
      have K₃ : Kept true C s₀.heap h₃ := hK.trans fun b o hb hp e => hs₃.extBut b o (fun q => by subst q; rw [pv_list hit e] at hp; cases hp hCI) e
      obtain ⟨g₃, k3, F₃, k4⟩ := F₃.all
      have X := XB.keeps k3
      have T := TB.keeps k3
      dsimp only
      rw [hdr] at hn hd1 hfn hz
      clear hs₃ hit hlh hBIt F hK
      refine wpAny_of_eq (a := ()) rfl ?_
      walk_at "w go"
      refine seg_execs_cons (seg_If ?_)
      walk_at "w go"
      · rename x = 127 => hq
        rw [giP_cons, if_pos hq] at hn
        refine seg_execs_cons (seg_plain ?_)
        walk_at "w go"
        refine seg_done ?_
        exact seg_end (.ok (.ret .none)) ⟨rfl, hn, _, _, rfl, K₃.trans fun b o hb _ e => F'.keep b o (k4 b o e fun q => hb (ownC b q))⟩
      · refine seg_execs_cons (seg_If ?_)
        walk_at "w go"
        · rename x = 0 => hq
          rename x ≠ 127 => hq'
          rw [giFin_cons, if_neg hq', if_pos hq] at hfn
          rw [giP_cons, if_neg hq', if_pos hq] at hn hd1
          have hn0 : 0 < n := hf.elim id fun q => by rw [← hfn] at q; cases q
          cases last with
          | none => exact absurd (by rw [hq]) (hz rfl _)
          | some v =>
            replace ml : m "last_interval" = some (.int v tl) := ml
            dsimp only at hn hd1
            refine seg_execs_cons (seg_If ?_)
            walk_at "w go"
            refine seg_execs_cons (seg_While fun p => ?_)
            refine seg_wloop (fun n s₀ s => ∃ g m h tk, s = { s₀ with heap := h, toks := tk } ∧ Kept true C s₀.heap h ∧ Fo g C [] none h m #[] ∧ (∀ b o, B.get? b = some o → g.get? b = some o) ∧ m "last_interval" = some (.int v tl) ∧ 0 < n ∧ n ≤ N) ?turn2 n _ _
              ⟨g₃, _, h', _, rfl, K₃.trans fun b o hb _ e => F'.keep b o (k4 b o e fun q => hb (ownC b q)), F', k3, ml, hn0, by rw [hn, List.length_replicate]; exact Nat.le_refl _⟩
            case turn2 =>
              clear F' F₃ K₃ again hn0 ml X T k3 k4
              rintro n s₀ s' ⟨g, m, h, tk, rfl, hK, F, hBg, ml, hn0, hnN⟩ again
              have X := XB.keeps hBg
              have T := TB.keeps hBg
              obtain ⟨k, rfl⟩ : ∃ k, n = k + 1 := ⟨n - 1, by omega⟩
              refine seg_whileLoop ?_
              walk_at "w go"
              refine seg_execs_cons ?_
              refine seg_Expr_Yield rfl rfl rfl ?_
              walk_at "w go"
              rename_i kap hkap
              refine ⟨_, _, rfl, hK, ⟨v, _, ?_, rfl⟩, fun s'' hs'' hsB hsf => hkap .none s'' ?_⟩
              · rw [hd1]
                exact rep_at hnN
              · dsimp only
                refine seg_execs_nil' (seg_again rfl ?_)
                obtain ⟨g₄, k5, F₄, k6⟩ := Fo.all (g := B) (L := C) (cl := []) (la := none) (h := s''.heap) (m := m) (us := #[])
                  ⟨(by obtain ⟨ml', h1, h2⟩ := F.ns; exact ⟨ml', h1.at' fun o e => hs'' C o (.inl rfl) e, h2⟩), (fun _ h => nomatch h), (fun _ h => nomatch h), .nil, (fun _ h => nomatch h), (fun _ h => nomatch h), hsB, fun a q => by
                    cases e : B.get? a with
                    | none => rfl
                    | some o => exact absurd q (F.own_ne (hBg a o e))⟩
                exact again k _ _ (by omega) ⟨g₄, m, s''.heap, s''.toks, rfl, Kept.refl _ _, F₄, k5, ml, hsf.elim id fun q => (by rw [← hfn] at q; cases q), by omega⟩
        · rename x ≠ 0 => hq
          rename x ≠ 127 => hq'
          rw [giFin_cons, if_neg hq', if_neg hq] at hfn
          rw [giP_cons, if_neg hq', if_neg hq] at hn hd1
          rw [List.length_cons] at hn
          subst hn
          refine seg_execs_cons ?_
          refine seg_Expr_Yield rfl rfl rfl ?_
          walk_at "w go"
          rename_i kap hkap
          refine ⟨_, _, rfl, K₃.trans fun b o hb _ e => F'.keep b o (k4 b o e fun q => hb (ownC b q)), ⟨x, _, at_back hd1, rfl⟩, fun s'' hs'' hsB hsf => hkap .none s'' ?_⟩
          dsimp only
          have hit₄ : s''.heap.IsListIter It l (i + 1) := by
            obtain ⟨o, ho, r⟩ := id hit₃
            exact ⟨o, hs'' It o (.inr ⟨hCI, pv_list hit₃ ho⟩) (F'.keep _ _ (k4 It o ho fun q => hIC (ownC _ q))), r⟩
          obtain ⟨g₄, k5, F₄, k6⟩ := Fo.all (g := B) (L := C) (cl := []) (la := none) (h := s''.heap) (us := #[])
            ⟨(by obtain ⟨ml', h1, h2⟩ := F'.ns; exact ⟨ml', h1.at' fun o e => hs'' C o (.inl rfl) e, h2⟩), (fun _ h => nomatch h), (fun _ h => nomatch h), .nil, (fun _ h => nomatch h), (fun _ h => nomatch h), hsB, fun a q => by
              cases e : B.get? a with
              | none => rfl
              | some o => exact absurd q (F'.own_ne (k3 a o e))⟩
          replace X := XB.keeps k5
          replace T := TB.keeps k5
          clear F' F₃ K₃ k3 k4
          refine seg_execs_cons (seg_plain ?_)
          walk_at "w go"
          refine seg_execs_nil' (seg_again rfl ?_)
          have hit₅ : h'.IsListIter It l (i + 1) := by
            obtain ⟨o, ho, r⟩ := hit₄
            exact ⟨o, F'.keep _ _ (k6 It o ho fun q => hIC (ownC _ q)), r⟩
          exact again (k - 1) _ _ _ (by omega) ⟨g₄, _, h', _, i + 1, some x, tx, rfl, fun b o hb _ e => F'.keep b o (k6 b o e fun q => hb (ownC b q)), F', k5, rfl, hit₅, by omega, (fun q => nomatch q), hfn, hsf, rfl, done ++ [x], by rw [List.append_assoc]; exact hd1⟩
    · refine wpAny_pyNext_list_end (by exact hA) hit hlh (by rw [Array.getElem?_eq_none_iff, List.size_toArray, hi.length]; omega) fun h₃ hs₃ => ?_
      have hdr : ns.drop i = [] := List.drop_eq_nil_of_le hge
      rw [hdr] at hn
      have K₃ : Kept true C s₀.heap h₃ := hK.trans fun b o hb hp e => hs₃ b o (fun q => by subst q; rw [pv_list hit e] at hp; cases hp hCI) e
      dsimp only
      refine seg_done ?_
      refine seg_execs_nil' ?_
      exact seg_end (.ok (.ret .none)) ⟨rfl, hn, _, _, rfl, K₃⟩
end PartG4
end StopT
section PartZ1

theorem gen_nextOf {w : World} {A : Around} {E : Value → Shared → Prop} {s : Shared} {It : Nat → Value → Heap → Heap → Prop} {kd fin : Bool} {B : Heap} {C a : Addr} {gi n : Nat} {Q : Value → Shared → Prop}
    (hh : A.handled = none) (hroom : A.depth < recursionLimit) (nolim : s.heap.NoLimit) (hB : ∀ b o, B.get? b = some o → s.heap.get? b = some o) (haC : a ≠ C) (hfin : 0 < n ∨ fin = true)
    (G : GenOk w A (YP kd C B fin It) (RR kd C) kd C B fin a gi n s.heap s.gens)
    (item : ∀ k v s', n = k + 1 → It k v s.heap s'.heap → Kept kd C s.heap s'.heap → GenOk w A (YP kd C B fin It) (RR kd C) kd C B fin a gi k s'.heap s'.gens → Stepd gi s s' → Q v s')
    (done : n = 0 → ∀ s' e, Kept kd C s.heap s'.heap → Stepd gi s s' → (∃ o, s'.heap.get? e = some o ∧ o.cls = .type "StopIteration") → E (.ref e) s') :
    wpAny (model PW w) A (Builtin.SmallTypes.nextOf (.ref a)) Q E s := by
  obtain ⟨gs, hgs, hb, hgo⟩ := G.go
  have hgen : s.heap.IsGen a gi := G.gen
  have hgo' := hgo (s.setGen gi .running) (fun _ _ _ e => e) hB hfin
  unfold Builtin.SmallTypes.nextOf
  refine wpAny_bind (wpAny_callSpecial?_slot (name := Str.ofString "__next__") hgen.typeIs slot_gen_next
    (wpAny_call_entry slot_gen_next hgen.typeIs entry_gen_next ?_ (args_gen_next _)))
  show wpAny _ A.in1 (Builtin.Generator.genWake (.ref a) (.send .none)) _ _ s
  unfold Builtin.Generator.genWake
  refine wpAny_bind (wpAny_holding (wpAny_genNumber hgen (wpAny_bind (wpAny_genState hgs ?_))))
  have ends : ∀ x s₁, RR kd C n (s.setGen gi .running) x s₁ → ∀ h' e, (∀ b o, s₁.heap.get? b = some o → h'.get? b = some o) → (∃ o, h'.get? e = some o ∧ o.cls = .type "StopIteration") → E (.ref e) { s₁.setGen gi .finished with heap := h' } := by
    rintro x s₁ ⟨rfl, hn, h, tk, rfl, hK⟩ h' e hk he
    exact done hn _ e (Kept.trans (h' := h) hK (Kept.of hk)) ⟨fun i y hi e => gens_other i y hi (gens_other i y hi e), fun hB => gens_bare (gens_bare hB rfl) rfl, rfl⟩ he
  have goes : ∀ v s₁ gs', gs'.bare = true → YP kd C B fin It (n - 1) (s.setGen gi .running) v s₁ (fun r' s'' => match n with
        | 0 => False
        | k + 1 => gs'.Goes (model PW w) A.in1 (RR kd C) (YP kd C B fin It) k r' s'') → Q v (s₁.setGen gi gs') := by
    rintro v s₁ gs' hb' ⟨h, tk, rfl, hK, hI, hkap⟩
    cases n with
    | zero => exact (hkap { s.setGen gi .running with heap := h, toks := tk } (fun _ _ _ e => e) (fun b o e => hK.old (G.old b o e) (hB b o e)) (.inr (hfin.elim (fun q => absurd q (Nat.lt_irrefl _)) id)) : False).elim
    | succ k =>
      refine item k v _ rfl hI hK ⟨?_, G.old, gs', gens_self (x := gs') (y := .running) (gens_self (s := s) (x := .running) hgs), hb', fun s'' hk hk2 hk3 => hkap s'' hk hk2 hk3⟩
        ⟨fun i y hi e => gens_other i y hi (gens_other i y hi e), fun hB => gens_bare (gens_bare hB rfl) hb', rfl⟩
      obtain ⟨o, nm, qn, ho, r⟩ := id hgen
      exact ⟨o, nm, qn, hK a o haC (fun _ => gen_pv hgen ho) ho, r⟩
  cases gs with
  | running => exact hgo'.elim
  | finished => exact hgo'.elim
  | _ =>
    refine wpAny_bind (wpAny_roomToWake nolim hroom ?_)
    show wpAny _ A.in1 (.resume gi (.send .none) [] _) _ _ s
    refine wpAny_resumeQ hgs hgo' (fun x s₁ hx => ?_) (fun v s₁ gs' hb' hv => ?_)
    · have hx' := ends x s₁ hx
      obtain ⟨rfl, _⟩ := hx
      show wpAny _ A.in1 (newExc (.type "StopIteration") [] >>= _) _ _ _
      refine wpAny_bind ?_
      simp only [newExc, PySem.newTuple]
      refine wpAny_bind (wpAny_newObj_type ?_ (by size_fits))
      refine wpAny_bind (m := firstArgMember _ _) (wpAny_of_eq (a := Value.none) (by first | rfl | (simp only [firstArgMember]; rfl)) ?_)
      refine wpAny_newObj_type ?_ (by size_fits)
      simp only [raiseNew]
      refine wpAny_bind (wpAny_bind (wpAny_handled ?_))
      rw [show A.in1.handled = none from hh]
      refine wpAny_throw ?_
      exact hx' _ _ (fun b o hb => Heap.get?_push_of_some _ (Heap.get?_push_of_some _ hb)) ⟨_, Heap.get?_push_size _ rfl, rfl⟩
    · exact wpAny_pure ⟨v, rfl, wpAny_pure (goes v s₁ gs' hb' hv)⟩

structure ZA (z TI TO i1 a C : Addr) : Prop where
  TIz : TI ≠ z
  TOz : TO ≠ z
  i1z : i1 ≠ z
  TITO : TI ≠ TO
  TIi1 : TI ≠ i1
  TOi1 : TO ≠ i1
  zC : z ≠ C
  TIC : TI ≠ C
  TOC : TO ≠ C
  i1C : i1 ≠ C
  az : a ≠ z
  aTO : a ≠ TO
  ai1 : a ≠ i1
  aC : a ≠ C

theorem pv_zip {h : Heap} {z TI TO : Addr} {f : Value} {o : Obj} (hz : IsZip h z TI TO f) (ho : h.get? z = some o) : pv true o = false := by
  cases hz.symm.trans ho
  rfl
theorem pv_pair {h : Heap} {T : Addr} {a b : Value} {o : Obj} (hz : IsPair h T a b) (ho : h.get? T = some o) : pv true o = false := by
  cases hz.symm.trans ho
  rfl

set_option maxHeartbeats 1000000 in
/-- zip of something drawn and a generator -/
theorem zip_gen_next {w : World} {A : Around} {s : Shared} {It : Nat → Value → Heap → Heap → Prop} {fin : Bool} {B : Heap} {C a z TI TO i1 : Addr} {fp : List Addr} {gi n n1 i : Nat} {P1 : Nat → Value → Prop} {St1 : Nat → Heap → Prop} {u v : Value} {Q : Option Value → Shared → Prop}
    (hh : A.handled = none) (hroom : A.depth < recursionLimit) (nolim : B.NoLimit) (hB : ∀ b o, B.get? b = some o → s.heap.get? b = some o) (D : ZA z TI TO i1 a C)
    (D1 : Draws PW w A.in1 i1 fp n1 P1 St1) (hfp : ∀ b ∈ fp, b = i1) (hpv : ∀ k h o, St1 k h → h.get? i1 = some o → pv true o = false) (hBz : ∀ b o, B.get? b = some o → b ≠ z ∧ b ≠ TO ∧ b ≠ i1)
    (hfin : 0 < n ∨ fin = true) (hn1 : i ≤ n1)
    (hz : IsZip s.heap z TI TO .none) (hTI : IsPair s.heap TI (.ref i1) (.ref a)) (hTO : IsPair s.heap TO u v) (h1 : St1 i s.heap)
    (G : GenOk w A.in1 (YP true C B fin It) (RR true C) true C B fin a gi n s.heap s.gens)
    (item : ∀ k x y s' (T : Addr) h₀ h₁, i < n1 → n = k + 1 → P1 i x → It k y h₀ h₁ → IsZip s'.heap z TI TO (rawInt (T : Nat)) → IsPair s'.heap TI (.ref i1) (.ref a) → IsPair s'.heap TO x y → St1 (i + 1) s'.heap → IsPair s'.heap T x y → T ≠ z →
      GenOk w A.in1 (YP true C B fin It) (RR true C) true C B fin a gi k s'.heap s'.gens → Stepd gi s s' →
      (∀ b o, b ≠ z → b ≠ TO → b ≠ i1 → b ≠ C → (C < b → pv true o = false) → s.heap.get? b = some o → s'.heap.get? b = some o) → Q (some (.ref T)) s')
    (done : (i = n1 ∨ n = 0) → ∀ s', Stepd gi s s' → (∀ b o, b ≠ z → b ≠ TO → b ≠ i1 → b ≠ C → (C < b → pv true o = false) → s.heap.get? b = some o → s'.heap.get? b = some o) → Q none s') :
    wpAny (model PW w) A (pyNext (.ref z)) Q Fls s := by
  have hT : s.TypeIs (.ref z) "zip" := ⟨_, hz, rfl⟩
  unfold pyNext
  refine wpAny_bind (wpAny_attempt (wpAny_callSpecial?_slot (name := Str.ofString "__next__") hT F.slot_zip_next
    (wpAny_call_entry F.slot_zip_next hT F.entry_zip_next ?_ (F.args_zip_next_1 _))))
  show wpAny _ A.in1 (field (.ref z) 2 >>= _) _ _ _
  refine wpAny_bind (wpAny_field hz rfl (x := .bool false) rfl ?_)
  show wpAny _ _ (field (.ref z) 3 >>= _) _ _ _
  refine wpAny_bind (wpAny_field hz rfl (x := .ref TI) rfl ?_)
  refine wpAny_bind (wpAny_seqItems hTI rfl ?_)
  show wpAny _ _ (Builtin.SmallTypes.ownedTupleIsFree (.ref z) >>= _) _ _ _
  refine wpAny_bind ?_
  unfold Builtin.SmallTypes.ownedTupleIsFree
  refine wpAny_bind (wpAny_field hz rfl (x := .none) rfl (wpAny_pure ?_))
  simp only [if_true]
  refine wpAny_bind (wpAny_rule ?_)
  refine wpAny_bind (wpAny_field hz rfl (x := .ref TO) rfl ?_)
  refine wpAny_bind (wpAny_setField_rec hz (by simp) fun h₁ hz₁ hs₁ => ?_)
  replace hz₁ : IsZip h₁ z TI TO .ellipsis := hz₁
  refine wpAny_bind ?_
  simp only [List.zipIdx_cons, List.zipIdx_nil, List.forIn_cons, List.forIn_nil]
  refine wpAny_bind (wpAny_bind (wpAny_onRaise ?_))
  show wpAny _ _ (Builtin.SmallTypes.nextOf (.ref i1) >>= _) _ _ _
  have h1₁ : St1 i h₁ := D1.frame i _ _ h1 fun b hb o e => hs₁.extBut b o (by rw [hfp b hb]; exact D.i1z) e
  rcases Nat.lt_or_ge i n1 with hlt | hge
  · refine wpAny_bind (D1.item i _ _ _ hlt h1₁ fun x h₂ tk₂ hx h1₂ hs₂ => ?_)
    refine wpAny_pure ?_
    have hTO₂ : IsPair h₂ TO u v := hs₂.extBut _ _ D.TOi1 (hs₁.extBut _ _ D.TOz hTO)
    refine wpAny_bind (wpAny_seqItems hTO₂ rfl ?_)
    refine wpAny_bind (wpAny_updateSeq_pair hTO₂ fun h₃ hTO₃ hs₃ => ?_)
    replace hTO₃ : IsPair h₃ TO x v := hTO₃
    refine wpAny_bind (wpAny_letGo (wpAny_pure ?_))
    refine wpAny_bind (wpAny_bind (wpAny_onRaise ?_))
    show wpAny _ _ (Builtin.SmallTypes.nextOf (.ref a) >>= _) _ _ _
    have hz₃ : IsZip h₃ z TI TO .ellipsis := hs₃.extBut _ _ D.TOz.symm (hs₂.extBut _ _ D.i1z.symm hz₁)
    have h1₃ : St1 (i + 1) h₃ := D1.frame _ _ _ h1₂ fun b hb o e => hs₃.extBut b o (by rw [hfp b hb]; exact D.TOi1.symm) e
    have keep₃ : ∀ b o, b ≠ z → b ≠ TO → b ≠ i1 → s.heap.get? b = some o → h₃.get? b = some o := fun b o b1 b2 b3 e => hs₃.extBut b o b2 (hs₂.extBut b o b3 (hs₁.extBut b o b1 e))
    have hTI₃ : IsPair h₃ TI (.ref i1) (.ref a) := keep₃ _ _ D.TIz D.TITO D.TIi1 hTI
    have G₃ : GenOk w A.in1 (YP true C B fin It) (RR true C) true C B fin a gi n h₃ s.gens := G.move (fun b o hb e => by
      refine keep₃ b o (fun q => ?_) (fun q => ?_) (fun q => ?_) e
      · subst q
        rcases hb with hb | hb
        · exact D.zC hb
        · rw [pv_zip hz e] at hb; cases hb.2
      · subst q
        rcases hb with hb | hb
        · exact D.TOC hb
        · rw [pv_pair hTO e] at hb; cases hb.2
      · subst q
        rcases hb with hb | hb
        · exact D.i1C hb
        · rw [hpv _ _ _ h1 e] at hb; cases hb.2) (fun o e => keep₃ a o D.az D.aTO D.ai1 e) fun _ e => e
    have hpvi : ∀ o, h₃.get? i1 = some o → pv true o = false := fun o e => hpv _ _ _ h1₃ e
    refine wpAny_bind (gen_nextOf (s := { s with heap := h₃, toks := tk₂ }) hh hroom ?_ (fun b o e => ?_) D.aC hfin G₃ (fun k y s₄ hn hI hK₄ G₄ S₄ => wpAny_pure ?_) (fun hn s₄ e hK₄ S₄ he => ?_))
    · exact nolim.keeps fun b o e => by
        obtain ⟨q1, q2, q3⟩ := hBz b o e
        exact keep₃ b o q1 q2 q3 (hB b o e)
    · obtain ⟨q1, q2, q3⟩ := hBz b o e
      exact keep₃ b o q1 q2 q3 (hB b o e)
    · have hTO₄ : IsPair s₄.heap TO x v := hK₄ _ _ D.TOC (fun _ => pv_pair hTO₃ hTO₃) hTO₃
      have hTI₄ : IsPair s₄.heap TI (.ref i1) (.ref a) := hK₄ _ _ D.TIC (fun _ => pv_pair hTI₃ hTI₃) hTI₃
      have hz₄ : IsZip s₄.heap z TI TO .ellipsis := hK₄ _ _ D.zC (fun _ => pv_zip hz₃ hz₃) hz₃
      have h1₄ : St1 (i + 1) s₄.heap := D1.frame _ _ _ h1₃ fun b hb o e => by
        rw [hfp b hb] at e ⊢
        exact hK₄ _ _ D.i1C (fun _ => hpvi o e) e
      refine wpAny_bind (wpAny_seqItems hTO₄ rfl ?_)
      refine wpAny_bind (wpAny_updateSeq_pair hTO₄ fun h₅ hTO₅ hs₅ => ?_)
      replace hTO₅ : IsPair h₅ TO x y := hTO₅
      refine wpAny_bind (wpAny_letGo (wpAny_pure (wpAny_pure ?_)))
      refine wpAny_bind (wpAny_seqItems hTO₅ rfl ?_)
      refine wpAny_bind (wpAny_newTuple ?_)
      have hz₅ : IsZip h₅ z TI TO .ellipsis := hs₅.extBut _ _ D.TOz.symm hz₄
      have hzlt : z < h₅.objs.size := Heap.lt_size hz₅
      show wpAny _ _ (Builtin.SmallTypes.ownedTupleHandOut (.ref z) (.ref h₅.objs.size) >>= _) _ _ _
      refine wpAny_bind ?_
      unfold Builtin.SmallTypes.ownedTupleHandOut
      have hz₆ : IsZip (h₅.push { cls := .type "tuple", data := .seq #[x, y] }) z TI TO .ellipsis := Heap.get?_push_of_some _ hz₅
      refine wpAny_bind (wpAny_setField_rec hz₆ (by simp) fun h₇ hz₇ hs₇ => ?_)
      replace hz₇ : IsZip h₇ z TI TO (rawInt h₅.objs.size) := hz₇
      refine wpAny_setField_rec hz₇ (by simp) fun h₈ hz₈ hs₈ => ?_
      replace hz₈ : IsZip h₈ z TI TO (rawInt h₅.objs.size) := hz₈
      have up : ∀ c o, c ≠ z → h₅.get? c = some o → h₈.get? c = some o := fun c o c1 e => hs₈.extBut _ _ c1 (hs₇.extBut _ _ c1 (Heap.get?_push_of_some _ e))
      have hT₈ : IsPair h₈ h₅.objs.size x y := hs₈.extBut _ _ (Nat.ne_of_gt hzlt) (hs₇.extBut _ _ (Nat.ne_of_gt hzlt) (Heap.get?_push_size _ rfl))
      have up₄ : ∀ c o, c ≠ z → c ≠ TO → s₄.heap.get? c = some o → h₈.get? c = some o := fun c o c1 c2 e => up c o c1 (hs₅.extBut _ _ c2 e)
      refine wpAny_pure ⟨_, rfl, wpAny_pure ?_⟩
      have S' : Stepd gi s { s₄ with heap := h₈ } := ⟨fun j y' hj e => S₄.gens j y' hj e, fun hB => S₄.bare hB, S₄.os⟩
      refine item k x y { s₄ with heap := h₈ } h₅.objs.size _ _ hlt hn hx hI hz₈ (up₄ _ _ D.TIz D.TITO hTI₄) (up _ _ D.TOz hTO₅)
        (D1.frame _ _ _ h1₄ fun b hb o e => up₄ b o (by rw [hfp b hb]; exact D.i1z) (by rw [hfp b hb]; exact D.TOi1.symm) e) hT₈ (Nat.ne_of_gt hzlt)
        (G₄.move (fun b o hb e => up₄ b o (fun q => by
          subst q
          rcases hb with hb | hb
          · exact D.zC hb
          · rw [pv_zip hz₄ e] at hb; cases hb.2) (fun q => by
          subst q
          rcases hb with hb | hb
          · exact D.TOC hb
          · rw [pv_pair hTO₄ e] at hb; cases hb.2) e) (fun o e => up₄ a o D.az D.aTO e) fun _ e => e) S'
        fun b o b1 b2 b3 b4 b5 e => up₄ b o b1 b2 (hK₄ b o b4 b5 (keep₃ b o b1 b2 b3 e))
    · have hz₄ : IsZip s₄.heap z TI TO .ellipsis := hK₄ _ _ D.zC (fun _ => pv_zip hz₃ hz₃) hz₃
      obtain ⟨oe, hoe, hce⟩ := he
      have hez : e ≠ z := fun x => by subst x; rw [hz₄] at hoe; cases hoe; simp at hce
      refine wpAny_setField_rec hz₄ (by simp) fun h₅ _ hs₅ => ?_
      refine wpAny_bind (wpAny_isInstance (T := "StopIteration") (b := true) ⟨oe, hs₅.extBut _ _ hez hoe, hce⟩ isSubtype_stop ?_)
      refine wpAny_pure (done (.inr hn) { s₄ with heap := h₅ } ⟨fun j y' hj e => S₄.gens j y' hj e, fun hB => S₄.bare hB, S₄.os⟩ fun b o b1 b2 b3 b4 b5 e => hs₅.extBut b o b1 (hK₄ b o b4 b5 (keep₃ b o b1 b2 b3 e)))
  · have : i = n1 := Nat.le_antisymm hn1 hge
    subst this
    refine wpAny_bind (D1.done _ _ _ h1₁ fun h₂ e hs₂ he => ?_)
    obtain ⟨oe, hoe, hce⟩ := he
    have hz₂ : IsZip h₂ z TI TO .ellipsis := hs₂ _ _ D.i1z.symm hz₁
    have hez : e ≠ z := fun x => by subst x; rw [hz₂] at hoe; cases hoe; simp at hce
    refine wpAny_setField_rec hz₂ (by simp) fun h₃ _ hs₃ => ?_
    refine wpAny_bind (wpAny_isInstance (T := "StopIteration") (b := true) ⟨oe, hs₃.extBut _ _ hez hoe, hce⟩ isSubtype_stop ?_)
    exact wpAny_pure (done (.inl rfl) { s with heap := h₃ } ⟨fun _ _ _ e => e, fun hB => hB, rfl⟩ fun b o b1 b2 b3 b4 b5 e => hs₃.extBut b o b1 (hs₂ b o b3 (hs₁.extBut b o b1 e)))
end PartZ1
section PartZ2
noncomputable abbrev zg1 (ty : String) (h : Heap) (x : Str) (t : Tok) : Heap := h.push { cls := .type ty, data := .fields #[.str x t, .int 0 0] }
noncomputable abbrev zg2 (ty : String) (h : Heap) (x : Str) (t : Tok) (a : Addr) : Heap := (zg1 ty h x t).push { cls := .type "tuple", data := .seq #[.ref h.objs.size, .ref a] }
noncomputable abbrev zg3 (ty : String) (h : Heap) (x : Str) (t : Tok) (a : Addr) : Heap := (zg2 ty h x t a).push { cls := .type "tuple", data := .seq #[.none, .none] }
noncomputable abbrev zg4 (ty : String) (h : Heap) (x : Str) (t : Tok) (a : Addr) : Heap := (zg3 ty h x t a).push { cls := .type "zip", data := .fields #[.none, .bool false, .bool false, .ref (zg1 ty h x t).objs.size, .ref (zg2 ty h x t a).objs.size] }
set_option maxHeartbeats 2000000 in
theorem meets_zip_sg (x : Str) (t : Tok) (a : Addr) (gi : Nat) (ty : String) (hty : strIterType x = ty) :
    Meets (Builtin.«zip.__new__» ⟨[.type "zip", .str x t, .ref a], []⟩) (fun _ R s => s.heap.IsGen a gi ∧
      R (.ok (.ret (.ref (zg3 ty s.heap x t a).objs.size))) { s with heap := zg4 ty s.heap x t a }) :=
  .of_wp fun prog w A R s h => by
    obtain ⟨hp, g, d, tk, os⟩ := s; obtain ⟨hg, h⟩ := h
    have hsub := sub_zip
    have hG : Heap.IsGen (Shared.heap ⟨hp.push { cls := .type ty, data := .fields #[.str x t, .int 0 0] }, g, d, tk, os⟩) a gi := by
      obtain ⟨o, nm, qn, ho, r⟩ := hg
      exact ⟨o, nm, qn, Heap.get?_push_of_some _ ho, r⟩
    have hS : ∀ {s : Shared} {Q : Value → Shared → Prop} {A : Around} {E : Value → Shared → Prop}, Q (.ref s.heap.objs.size) { s with heap := s.heap.push { cls := .type ty, data := .fields #[.str x t, .int 0 0] } } → wpAny (model prog w) A (pyIter (.str x t)) Q E s := by
      intro s Q A E hq
      subst hty
      exact wpAny_pyIter_strU hq
    clear hty
    wp_walk using hS, wpAny_pyIter_gen hG
    exact ⟨_, rfl, h⟩
section
variable {prog : Program} {w : World} {A : Around} {E : Value → Shared → Prop} {s : Shared}
theorem call_zip_sg {x : Str} {t : Tok} {a : Addr} {gi : Nat} {Q : Value → Shared → Prop} (hg : s.heap.IsGen a gi)
    (h : ∀ h', IsZip h' (s.heap.objs.size + 3) (s.heap.objs.size + 1) (s.heap.objs.size + 2) .none → IsPair h' (s.heap.objs.size + 1) (.ref s.heap.objs.size) (.ref a) →
      IsPair h' (s.heap.objs.size + 2) .none .none → h'.IsStrIter s.heap.objs.size (strIterType x) x t 0 → h'.objs.size = s.heap.objs.size + 4 →
      (∀ c o, s.heap.get? c = some o → h'.get? c = some o) → Q (.ref (s.heap.objs.size + 3)) { s with heap := h' }) :
    wpAny (model prog w) A (call (.type "zip") [.str x t, .ref a]) Q E s := by
  generalize hty : strIterType x = ty at h
  refine callType_new F.called_zip (by decide) (F.typeCall_zip_2 _ _) (F.newCall_zip_2 _ _) (fun obj => F.args_object_init_3 obj _ _) F.entry_zip_new
    (meets_zip_sg x t a gi ty hty) ⟨hg, ?_⟩
  have z1 : (zg1 ty s.heap x t).objs.size = s.heap.objs.size + 1 := Heap.size_push ..
  have z2 : (zg2 ty s.heap x t a).objs.size = s.heap.objs.size + 2 := by rw [Heap.size_push, z1]
  have z3 : (zg3 ty s.heap x t a).objs.size = s.heap.objs.size + 3 := by rw [Heap.size_push, z2]
  have z4 : (zg4 ty s.heap x t a).objs.size = s.heap.objs.size + 4 := by rw [Heap.size_push, z3]
  have g4 : (zg4 ty s.heap x t a).get? (zg3 ty s.heap x t a).objs.size = some _ := Heap.get?_push_size _ rfl
  have g3 : (zg4 ty s.heap x t a).get? (zg2 ty s.heap x t a).objs.size = some _ := Heap.get?_push_of_some _ (Heap.get?_push_size _ rfl)
  have g2 : (zg4 ty s.heap x t a).get? (zg1 ty s.heap x t).objs.size = some _ := Heap.get?_push_of_some _ (Heap.get?_push_of_some _ (Heap.get?_push_size _ rfl))
  have g1 : (zg4 ty s.heap x t a).get? s.heap.objs.size = some _ := Heap.get?_push_of_some _ (Heap.get?_push_of_some _ (Heap.get?_push_of_some _ (Heap.get?_push_size _ rfl)))
  show _ ∧ _
  rw [z1, z2, z3] at g4
  rw [z1] at g2
  rw [z2] at g3
  rw [z3]
  exact ⟨⟨_, g4, rfl⟩, h _ g4 g2 g3 ⟨_, g1, rfl, rfl⟩ z4 fun c o x => Heap.get?_push_of_some _ (Heap.get?_push_of_some _ (Heap.get?_push_of_some _ (Heap.get?_push_of_some _ x)))⟩
end
end PartZ2
section PartZ3
/-- a loop over a text and a generator of ints, zipped -/
theorem for_Z {w : World} {A : Around} {s s₀ : Shared} {env : Env} {g : Heap} {L : Addr} {cl : List (Str × Addr)} {la : Option Addr} {m : Str → Option Value} {us : Array Value}
    {x y : Str} {px py tpos : Pos} {tk0 : Nat} {body : List Stmt} {Q : Flow → Shared → Prop} {wd : Str} {tw : Tok} {V : List Int} {fin : Bool} {B : Heap} {C a z TI TO i1 : Addr} {gi K : Nat} {u v : Value}
    (F : Fo g L cl la s.heap m us) (gx : Gx s₀ s) (hh : A.handled = none) (hroom : A.depth < recursionLimit) (nolim : B.NoLimit)
    (D : ZA z TI TO i1 a C) (hz : IsZip s.heap z TI TO .none) (hTI : IsPair s.heap TI (.ref i1) (.ref a)) (hTO : IsPair s.heap TO u v) (h1 : s.heap.IsStrIter i1 (strIterType wd) wd tw 0)
    (G : GenOk w A.in1 (YI C B fin V) (RR true C) true C B fin a gi V.length s.heap s.gens)
    (hgi : s₀.gens.size ≤ gi) (hlen : wd.cps.size < V.length ∨ fin = true)
    (hBg : ∀ b o, B.get? b = some o → g.get? b = some o) (hBK : ∀ b o, B.get? b = some o → b < K) (hown : ∀ b, Own L cl la b → b < K) (kz : K ≤ z) (kTI : K ≤ TI) (kTO : K ≤ TO) (ki : K ≤ i1) (ka : K ≤ a) (kC : K ≤ C)
    (J : Nat → (Str → Option Value) → Array Value → Prop)
    (turn : ∀ i c t t2 n s₁ g₁ m us, wd.cps[i]? = some c → V[i]? = some n → (∀ b o, B.get? b = some o → g₁.get? b = some o) → Gx s₀ s₁ → J i m us →
      Fo g₁ L cl la s₁.heap (fun q => if q = y then some (.int n t2) else if q = x then some (.str ⟨#[c]⟩ t) else m q) us →
      wpAny (model PWx w) A (execs body env) (fun f s₃ => match f with
          | .next | .cont => Bk g₁ L cl la s₁ (fun _ m us => J (i + 1) m us) s₃
          | .brk => Q .next s₃
          | .ret v => Q (.ret v) s₃) Fls s₁)
    (done : ∀ s₁ g₁ m us i, (i = wd.cps.size ∨ i = V.length) → i ≤ wd.cps.size → i ≤ V.length → (∀ b o, B.get? b = some o → g₁.get? b = some o) → Fo g₁ L cl la s₁.heap m us → Gx s₀ s₁ → J i m us → Q .next s₁)
    (hj : J 0 m us)
    (hL : env.locals = L := by rfl) (hk : env.scope.kind = .function := by rfl) (hx : env.kindOf x = some .local := by rfl) (hy : env.kindOf y = some .local := by rfl) (hcx : cl.lookup x = none := by rfl) (hcy : cl.lookup y = none := by rfl) :
    ForGo PWx w A (.Tuple [.Name x px, .Name y py] tk0 tpos) (.ref z) body env Q s := by
  refine for_I (fun k s => ∃ i g m us u v, i ≤ wd.cps.size ∧ i ≤ V.length ∧ k = wd.cps.size - i ∧ (∀ b o, B.get? b = some o → g.get? b = some o) ∧ Fo g L cl la s.heap m us ∧ IsZip s.heap z TI TO .none ∧ IsPair s.heap TI (.ref i1) (.ref a) ∧ IsPair s.heap TO u v ∧
    s.heap.IsStrIter i1 (strIterType wd) wd tw i ∧ GenOk w A.in1 (YI C B fin V) (RR true C) true C B fin a gi (V.length - i) s.heap s.gens ∧ Gx s₀ s ∧ J i m us) (fun k s hI => ?_) wd.cps.size
    ⟨0, g, m, us, u, v, Nat.zero_le _, Nat.zero_le _, rfl, hBg, F, hz, hTI, hTO, h1, G, gx, hj⟩
  clear F hz hTI hTO h1 G gx hj hBg
  obtain ⟨i, g, m, us, u, v, hi1, hi2, hk', hBg, F, hz, hTI, hTO, h1, G, gx, hj⟩ := hI
  have hBs : ∀ b o, B.get? b = some o → s.heap.get? b = some o := fun b o e => F.keep b o (hBg b o e)
  have ne : ∀ {b c}, b < K → K ≤ c → b ≠ c := fun p q e => by subst e; exact Nat.lt_irrefl _ (Nat.lt_of_lt_of_le p q)
  have hBz : ∀ b o, B.get? b = some o → b ≠ z ∧ b ≠ TO ∧ b ≠ i1 := fun b o e => ⟨ne (hBK b o e) kz, ne (hBK b o e) kTO, ne (hBK b o e) ki⟩
  have hpv : ∀ k (h : Heap) (o : Obj), h.IsStrIter i1 (strIterType wd) wd tw k → h.get? i1 = some o → pv true o = false := fun k h o st e => by
    obtain ⟨o', h1, h2, h3⟩ := st
    cases e.symm.trans h1
    unfold pv
    rw [h2, h3]
    show (strIterType wd == "list_iterator") = false
    unfold strIterType
    split <;> decide
  have hfin : 0 < V.length - i ∨ fin = true := hlen.imp (fun q => by omega) id
  -- what a step changes
  have step : ∀ s' : Shared, (∀ b o, b ≠ z → b ≠ TO → b ≠ i1 → b ≠ C → (C < b → pv true o = false) → s.heap.get? b = some o → s'.heap.get? b = some o) →
      ∃ g', (∀ b o, B.get? b = some o → g'.get? b = some o) ∧ Fo g' L cl la s'.heap m us ∧ (∀ b o, s'.heap.get? b = some o → ¬ Own L cl la b → g'.get? b = some o) := fun s' hK => by
    have w1 : ∀ b o, Own L cl la b → s.heap.get? b = some o → ¬ (b = z ∨ b = TO ∨ b = i1 ∨ b = C ∨ (C < b ∧ pv true o = true)) := fun b o q e => by
      have hb := hown b q
      rintro (h | h | h | h | h)
      · exact ne hb kz h
      · exact ne hb kTO h
      · exact ne hb ki h
      · exact ne hb kC h
      · exact Nat.lt_irrefl _ (Nat.lt_trans h.1 (Nat.lt_of_lt_of_le hb kC))
    have w2 : ∀ b o, ¬ (b = z ∨ b = TO ∨ b = i1 ∨ b = C ∨ (C < b ∧ pv true o = true)) → s.heap.get? b = some o → s'.heap.get? b = some o := fun b o hb e => by
      refine hK b o (fun h => hb (.inl h)) (fun h => hb (.inr (.inl h))) (fun h => hb (.inr (.inr (.inl h)))) (fun h => hb (.inr (.inr (.inr (.inl h))))) (fun h => ?_) e
      cases hp : pv true o with
      | false => rfl
      | true => exact absurd (.inr (.inr (.inr (.inr ⟨h, hp⟩)))) hb
    obtain ⟨g', q1, q2, q3⟩ := F.stepped w1 w2
    refine ⟨g', fun b o e => q1 b o (fun hw => ?_) (hBg b o e), q2, q3⟩
    have hb := hBK b o e
    rcases hw with h | h | h | h | h
    · exact ne hb kz h
    · exact ne hb kTO h
    · exact ne hb ki h
    · exact ne hb kC h
    · exact Nat.lt_irrefl _ (Nat.lt_trans h.1 (Nat.lt_of_lt_of_le hb kC))
  have gxS : ∀ s', Stepd gi s s' → Gx s₀ s' := fun s' S => gx.trans ⟨fun j y e => e, id, rfl⟩ |> fun gx => ⟨fun j y e => S.gens j y (fun q => by
    have := (Array.getElem?_eq_some_iff.mp e).1
    omega) (gx.gens j y e), fun b => S.bare (gx.bare b), S.os.trans gx.os⟩
  refine zip_gen_next (P1 := SignAt wd) (St1 := fun k h => h.IsStrIter i1 (strIterType wd) wd tw k) hh hroom nolim hBs D (drawsStr (A := A.in1) (by exact hh) i1 wd tw) (fun b hb => by simpa using hb) hpv hBz hfin hi1 hz hTI hTO h1 G ?_ ?_
  · intro k2 X Y s' T h₀ h₁ hlt hn hP hIt hz' hTI' hTO' h1' hT hTz G' S hK
    obtain ⟨g', q1, F', q3⟩ := step s' hK
    obtain ⟨c, t, hc, rfl⟩ := hP
    obtain ⟨n, t2, hn2, rfl⟩ := hIt
    have hVi : V[i]? = some n := by
      rw [← hn2]
      congr 1
      omega
    have no : ∀ {b}, K ≤ b → ¬ Own L cl la b := fun q q' => Nat.lt_irrefl _ (Nat.lt_of_lt_of_le (hown _ q') q)
    dsimp only
    refine wpAny_letOwnedTupleGo_zip hz' fun h₂ hz₂ hs₂ => ?_
    have F₂ : Fo g L cl la h₂ m us ∨ True := .inr trivial
    -- the base without z, then with what it holds now
    have up₂ : ∀ b o, b ≠ z → s'.heap.get? b = some o → h₂.get? b = some o := fun b o hb e => hs₂.extBut b o hb e
    obtain ⟨g₂, r1, F₂, r3⟩ := F'.stepped (wr := fun b _ => b = z) (h' := h₂) (fun b o q _ h => no kz (h ▸ q)) (fun b o hb e => up₂ b o hb e)
    have hBg₂ : ∀ b o, B.get? b = some o → g₂.get? b = some o := fun b o e => r1 b o (hBz b o e).1 (q1 b o e)
    have hT₂ : h₂.IsTuple T #[.str ⟨#[c]⟩ t, .int n t2] := ⟨_, up₂ _ _ hTz hT, rfl, _, rfl⟩
    refine o_unpack2 F₂ hh hT₂ (fun h₃ tk₃ F₃ => ?_) hL hk hx hy hcx hcy
    have G₃ : GenOk w A.in1 (YI C B fin V) (RR true C) true C B fin a gi k2 h₃ s'.gens := G'.move (fun b o hb e => ?_) (fun o e => F₃.keep _ _ (r3 _ _ (up₂ _ _ D.az e) (no ka))) (fun _ e => e)
    · refine wpAny_mono (turn i c t t2 n { s' with heap := h₃, toks := tk₃ } g₂ m us hc hVi hBg₂ ((gxS s' S).re _ _) hj F₃) (fun f s₃ h₃' => ?_) fun _ _ x => x
      have back : Bk g₂ L cl la { s' with heap := h₃, toks := tk₃ } (fun _ m us => J (i + 1) m us) s₃ → Nxt k (fun k s => ∃ i g m us u v, i ≤ wd.cps.size ∧ i ≤ V.length ∧ k = wd.cps.size - i ∧ (∀ b o, B.get? b = some o → g.get? b = some o) ∧ Fo g L cl la s.heap m us ∧ IsZip s.heap z TI TO .none ∧ IsPair s.heap TI (.ref i1) (.ref a) ∧ IsPair s.heap TO u v ∧
          s.heap.IsStrIter i1 (strIterType wd) wd tw i ∧ GenOk w A.in1 (YI C B fin V) (RR true C) true C B fin a gi (V.length - i) s.heap s.gens ∧ Gx s₀ s ∧ J i m us) s₃ := by
        rintro ⟨g₃, m₃, us₃, w1, w2, w3, w4⟩
        have keep : ∀ b o, K ≤ b → h₂.get? b = some o → s₃.heap.get? b = some o := fun b o hb e => w2.keep b o (w1 b o (r3 b o e (no hb)))
        have hlt2 : i < V.length := (List.getElem?_eq_some_iff.mp hVi).1
        refine ⟨wd.cps.size - (i + 1), by omega, i + 1, g₃, m₃, us₃, _, _, hlt, hlt2, rfl, fun b o e => w1 b o (hBg₂ b o e), w2, keep _ _ kz hz₂, keep _ _ kTI (up₂ _ _ D.TIz hTI'), keep _ _ kTO (up₂ _ _ D.TOz hTO'), ?_, ?_, (gxS s' S).trans ⟨w3.gens, w3.bare, w3.os⟩, w4⟩
        · obtain ⟨o, ho, r⟩ := h1'
          exact ⟨o, keep _ _ ki (up₂ _ _ D.i1z ho), r⟩
        · rw [show V.length - (i + 1) = k2 by omega]
          refine G'.move (fun b o hb e => ?_) (fun o e => keep _ _ ka (up₂ _ _ D.az e)) (fun x e => w3.gens _ _ e)
          have hbK : K ≤ b := by
            rcases hb with rfl | hb
            · exact kC
            · exact Nat.le_of_lt (Nat.lt_of_le_of_lt kC hb.1)
          refine keep _ _ hbK (up₂ _ _ (fun q => ?_) e)
          subst q
          rcases hb with hb | hb
          · exact D.zC hb
          · rw [pv_zip hz' e] at hb; cases hb.2
      cases f with
      | next => exact back h₃'
      | cont => exact back h₃'
      | brk => exact h₃'
      | ret v => exact h₃'
    · have hbK : K ≤ b := by
        rcases hb with rfl | hb
        · exact kC
        · exact Nat.le_of_lt (Nat.lt_of_le_of_lt kC hb.1)
      refine F₃.keep _ _ (r3 _ _ (up₂ _ _ (fun q => ?_) e) (no hbK))
      subst q
      rcases hb with hb | hb
      · exact D.zC hb
      · rw [pv_zip hz' e] at hb; cases hb.2
  · intro hend s' S hK
    obtain ⟨g', q1, F', q3⟩ := step s' hK
    exact done s' g' m us i (hend.imp id fun q => by omega) hi1 hi2 q1 F' (gxS s' S) hj
end PartZ3
section StopA
section PartP1
noncomputable def pickP (one two : Int) : Nat → Int
  | 0 => 1
  | k + 1 => (pickP one two k * (two + (1 + k * 1))).fdiv (1 + k * 1)
set_option maxHeartbeats 4000000 in
theorem picked_call {p : Program} {w : World} {A : Around} {loose : List Str} {mean : ExcName → Option Value} {mg mb : Str → Option Value} {x y : Int} {t u : Tok} {s : Shared} {R : Result → Shared → Prop}
   (X : (hd.heap_39 w.params).In s.heap) (T : Top p loose mean mg mb s.heap) (hh : A.handled = none) (hd : A.depth + (1 + 1) < recursionLimit) (hu : A.units + (20 + 3) < cLine)
   (hx0 : 0 ≤ x) (hx : x ≤ 4) (hy0 : 0 ≤ y) (hy : y ≤ 4)
   (h : ∀ s' t, Ext s s' → R (.ok (.ret (.int (pickP x y x.toNat) t))) s') :
   codeAny (model PW w) A (.call (.ref 127) ⟨[.int x t, .int y u], []⟩) R s := by
  refine enterO X T.nolimit hh hd hu (by k_is) (by k_is) (binds := [("one", .int x t), ("two", .int y u)]) (binds_peek X (fun S => rfl)) (locs rfl) ?_
  clear hh hd hu
  intro h₁ A' tk hh hd hu F
  walk_at "w go"
  refine for_exec ?_
  walk_at "w go"
  refine src_range2 F' hh (by lia) (by lia) (by lia) (by lia) fun I h₂ tk₂ F₂ k₂ S => ?_
  refine for_S S F₂ (Gx.refl s |>.re _ _) (fun i g m us => (∃ t, m "ways" = some (.int (pickP x y i) t)) ∧ m "one" = some (.int x t) ∧ m "two" = some (.int y u))
    (fun i g g' m us _ hj => hj) (fun i v s₁ g₁ m us hi hP hg F gx hj => ?_) (fun s₁ g₁ m us hg F gx hj => ?_) ⟨⟨_, rfl⟩, rfl, rfl⟩
  · obtain ⟨t', rfl⟩ := hP
    obtain ⟨⟨t2, mw⟩, m1, m2⟩ := hj
    clear F₂ S k₂ F'
    have X := X.keeps hg
    have T := T.keeps hg
    walk_at "w go"
    exact ⟨_, _, _, fun _ _ e => e, F', gx.re _ _, ⟨_, rfl⟩, m1, m2⟩
  · obtain ⟨⟨t2, mw⟩, m1, m2⟩ := hj
    rw [show (x + 1 - 1).toNat = x.toNat by congr 1; lia] at mw
    have X := X.keeps hg
    have T := T.keeps hg
    walk_at "w go"
    exact h _ _ (gx.ext fun b o e => F.keep _ _ (hg b o e))
end PartP1
section PartP2
noncomputable def pairP (d : Int) : Int × Int := [((3 : Int), (4 : Int)), (2, 3), (4, 3), (2, 5), (3, 2), (5, 2), (2, 7)].getD d.toNat (0, 0)
set_option maxHeartbeats 4000000 in
theorem pair_call {p : Program} {w : World} {A : Around} {loose : List Str} {mean : ExcName → Option Value} {mg mb : Str → Option Value} {x : Int} {t : Tok} {s : Shared} {R : Result → Shared → Prop}
   (X : (hd.heap_39 w.params).In s.heap) (T : Top p loose mean mg mb s.heap) (hh : A.handled = none) (hd : A.depth + (1 + 1) < recursionLimit) (hu : A.units + (20 + 3) < cLine)
   (h : ∀ s' a t1 t2, Ext s s' → s.heap.get? a = none → s'.heap.PlainList a #[.int (pairP (x.fmod 7)).1 t1, .int (pairP (x.fmod 7)).2 t2] → R (.ok (.ret (.ref a))) s') :
   codeAny (model PW w) A (.call (.ref 76) ⟨[.int x t], []⟩) R s := by
  refine enterO X T.nolimit hh hd hu (by k_is) (by k_is) (binds := [("draw", .int x t)]) (binds_peek X (fun S => rfl)) (locs rfl) ?_
  clear hh hd hu
  intro h₁ A' tk hh hd hu F
  (try dsimp only); walk1
  (try dsimp only); walk1
  (try dsimp only); walk1
  (try dsimp only); walk1
  have F0 := F.keep
  with_reducible refine spl_list ?_
  with_reducible refine two_list (by with_reducible exact F) ?_
  clear F
  intro c1 h1 g1 tk1 a1 b1 F G1 P1 K1 N1
  dsimp only at F P1 K1 N1 ⊢
  with_reducible refine spl_list ?_
  with_reducible refine two_list (by with_reducible exact F) ?_
  clear F
  intro c2 h2 g2 tk2 a2 b2 F G2 P2 K2 N2
  dsimp only at F P2 K2 N2 ⊢
  have k1 := K1
  with_reducible refine spl_list ?_
  with_reducible refine two_list (by with_reducible exact F) ?_
  clear F
  intro c3 h3 g3 tk3 a3 b3 F G3 P3 K3 N3
  dsimp only at F P3 K3 N3 ⊢
  have k2 := fun b o e => K2 b o (k1 b o e)
  with_reducible refine spl_list ?_
  with_reducible refine two_list (by with_reducible exact F) ?_
  clear F
  intro c4 h4 g4 tk4 a4 b4 F G4 P4 K4 N4
  dsimp only at F P4 K4 N4 ⊢
  have k3 := fun b o e => K3 b o (k2 b o e)
  with_reducible refine spl_list ?_
  with_reducible refine two_list (by with_reducible exact F) ?_
  clear F
  intro c5 h5 g5 tk5 a5 b5 F G5 P5 K5 N5
  dsimp only at F P5 K5 N5 ⊢
  have k4 := fun b o e => K4 b o (k3 b o e)
  with_reducible refine spl_list ?_
  with_reducible refine two_list (by with_reducible exact F) ?_
  clear F
  intro c6 h6 g6 tk6 a6 b6 F G6 P6 K6 N6
  dsimp only at F P6 K6 N6 ⊢
  have k5 := fun b o e => K5 b o (k4 b o e)
  with_reducible refine spl_list ?_
  with_reducible refine two_list (by with_reducible exact F) ?_
  clear F
  intro c7 h7 g7 tk7 a7 b7 F G7 P7 K7 N7
  dsimp only at F P7 K7 N7 ⊢
  have k6 := fun b o e => K6 b o (k5 b o e)
  refine spliced_none ?_
  refine o_newList F fun h₃ g₃ F G8 P8 K8 => ?_
  dsimp only
  walk_at "w go"
  have b0 : 0 ≤ x.fmod 7 := Int.fmod_nonneg_of_pos _ (by decide)
  have b1 : x.fmod 7 < 7 := Int.fmod_lt_of_pos _ (by decide)
  generalize x.fmod 7 = d at *
  have K7 := fun b o e => K8 b o (K7 b o e)
  have K6 := fun b o e => K7 b o (K6 b o e)
  have K5 := fun b o e => K6 b o (K5 b o e)
  have K4 := fun b o e => K5 b o (K4 b o e)
  have K3 := fun b o e => K4 b o (K3 b o e)
  have K2 := fun b o e => K3 b o (K2 b o e)
  have K1 := fun b o e => K2 b o (K1 b o e)
  have G7 := fun b o e => G8 b o (G7 b o e)
  have G6 := fun b o e => G7 b o (G6 b o e)
  have G5 := fun b o e => G6 b o (G5 b o e)
  have G4 := fun b o e => G5 b o (G4 b o e)
  have G3 := fun b o e => G4 b o (G3 b o e)
  have G2 := fun b o e => G3 b o (G2 b o e)
  have key : ∀ tk, ∀ c, (∃ t1 t2, g₃.PlainList c #[.int (pairP d).1 t1, .int (pairP d).2 t2]) → s.heap.get? c = none → R (.ok (.ret (.ref c))) { s with heap := h₃, toks := tk } := fun tk c ⟨t1, t2, hp⟩ hn => by
    exact h _ c t1 t2 (Ext.heap fun b o e => F.keep _ _ (G2 _ _ (G1 _ _ e))) hn (pkeeps hp F.keep)
  have N1 := none_back F0 N1
  have N2 := none_back F0 (none_back k1 N2)
  have N3 := none_back F0 (none_back k2 N3)
  have N4 := none_back F0 (none_back k3 N4)
  have N5 := none_back F0 (none_back k4 N5)
  have N6 := none_back F0 (none_back k5 N6)
  have N7 := none_back F0 (none_back k6 N7)
  have hd : d = 0 ∨ d = 1 ∨ d = 2 ∨ d = 3 ∨ d = 4 ∨ d = 5 ∨ d = 6 := by lia
  have PL := pkeeps P8 F.keep
  rcases hd with rfl | rfl | rfl | rfl | rfl | rfl | rfl
  · exact o_item PL.isList (by decide) (by decide) rfl (rt RT (key _ c1 ⟨_, _, pkeeps P1 G2⟩ N1))
  · exact o_item PL.isList (by decide) (by decide) rfl (rt RT (key _ c2 ⟨_, _, pkeeps P2 G3⟩ N2))
  · exact o_item PL.isList (by decide) (by decide) rfl (rt RT (key _ c3 ⟨_, _, pkeeps P3 G4⟩ N3))
  · exact o_item PL.isList (by decide) (by decide) rfl (rt RT (key _ c4 ⟨_, _, pkeeps P4 G5⟩ N4))
  · exact o_item PL.isList (by decide) (by decide) rfl (rt RT (key _ c5 ⟨_, _, pkeeps P5 G6⟩ N5))
  · exact o_item PL.isList (by decide) (by decide) rfl (rt RT (key _ c6 ⟨_, _, pkeeps P6 G7⟩ N6))
  · exact o_item PL.isList (by decide) (by decide) rfl (rt RT (key _ c7 ⟨_, _, pkeeps P7 G8⟩ N7))
end PartP2
section PartP3
noncomputable def staysP (u d : Int) : List Nat → Int → Bool
  | [], _ => true
  | c :: r, h => let h' := h + if c = 117 then d else -u; if h' < 0 then false else staysP u d r h'
theorem staysP_cons {u d h : Int} {c : Nat} {r : List Nat} : staysP u d (c :: r) h = (let h' := h + if c = 117 then d else -u; if h' < 0 then false else staysP u d r h') := rfl
theorem one_u {c : Nat} : (⟨#[c]⟩ : Str) = ("u" : Str) ↔ c = 117 := ⟨fun h => by
  have e : (#[c] : Array Nat) = #[117] := congrArg Str.cps h
  simpa using e, fun h => by subst h; rfl⟩
theorem drop_at {xs : Array Nat} {i c : Nat} (h : xs[i]? = some c) : xs.toList.drop i = c :: xs.toList.drop (i + 1) := by
  obtain ⟨h1, h2⟩ := Array.getElem?_eq_some_iff.mp h
  rw [List.drop_eq_getElem_cons (by simpa using h1)]
  simp [h2]
set_option maxHeartbeats 4000000 in
theorem stays_call {p : Program} {w : World} {A : Around} {loose : List Str} {mean : ExcName → Option Value} {mg mb : Str → Option Value} {x : Str} {u d : Int} {t tu td : Tok} {s : Shared} {R : Result → Shared → Prop}
   (X : (hd.heap_39 w.params).In s.heap) (T : Top p loose mean mg mb s.heap) (hh : A.handled = none) (hd : A.depth + (1 + 1) < recursionLimit) (hu : A.units + (20 + 3) < cLine)
   (h : ∀ s', Ext s s' → R (.ok (.ret (.bool (staysP u d x.cps.toList 0)))) s') :
   codeAny (model PW w) A (.call (.ref 88) ⟨[.str x t, .int u tu, .int d td], []⟩) R s := by
  refine enterO X T.nolimit hh hd hu (by k_is) (by k_is) (binds := [("word", .str x t), ("ups", .int u tu), ("downs", .int d td)]) (binds_peek X (fun S => rfl)) (locs rfl) ?_
  clear hh hd hu
  intro h₁ A' tk hh hd hu F
  walk_at "w go"
  refine for_exec ?_
  walk_at "w go"
  refine src_str F' hh fun I h₂ F₂ k₂ S => ?_
  refine for_S S F₂ (Gx.refl s |>.re _ _) (fun i g m us => (∃ hh t, m "height" = some (.int hh t) ∧ staysP u d (x.cps.toList.drop i) hh = staysP u d x.cps.toList 0) ∧ m "ups" = some (.int u tu) ∧ m "downs" = some (.int d td))
    (fun i g g' m us _ hj => hj) (fun i v s₁ g₁ m us hi hP hg F gx hj => ?_) (fun s₁ g₁ m us hg F gx hj => ?_) ⟨⟨_, _, rfl, by rw [List.drop_zero]⟩, rfl, rfl⟩
  · obtain ⟨c, t', hc, rfl⟩ := hP
    obtain ⟨⟨hg1, t2, mw, me⟩, m1, m2⟩ := hj
    clear F₂ S k₂ F'
    have X := X.keeps hg
    have T := T.keeps hg
    walk_at "w go"
    all_goals (try rename (_ == _) = true => q) <;> (try rename (_ == _) = false => q)
    · rename _ < (0 : Int) => q2
      have : staysP u d x.cps.toList 0 = false := by
        rw [← me, drop_at hc]
        simp only [staysP_cons]
        rw [if_pos (one_u.mp (beq_iff_eq.mp q)), if_pos q2]
      rw [← this]
      exact h _ ((gx.re _ _).ext fun b o e => F'.keep _ _ (hg b o e))
    · rename ¬ _ < (0 : Int) => q2
      refine ⟨_, _, _, fun _ _ e => e, F', gx.re _ _, ⟨_, _, rfl, ?_⟩, m1, m2⟩
      rw [← me, drop_at hc]
      simp only [staysP_cons]
      rw [if_pos (one_u.mp (beq_iff_eq.mp q)), if_neg q2]
    · rename _ < (0 : Int) => q2
      have : staysP u d x.cps.toList 0 = false := by
        rw [← me, drop_at hc]
        simp only [staysP_cons]
        rw [if_neg (fun e => beq_eq_false_iff_ne.mp q (one_u.mpr e)), if_pos q2]
      rw [← this]
      exact h _ ((gx.re _ _).ext fun b o e => F'.keep _ _ (hg b o e))
    · rename ¬ _ < (0 : Int) => q2
      refine ⟨_, _, _, fun _ _ e => e, F', gx.re _ _, ⟨_, _, rfl, ?_⟩, m1, m2⟩
      rw [← me, drop_at hc]
      simp only [staysP_cons]
      rw [if_neg (fun e => beq_eq_false_iff_ne.mp q (one_u.mpr e)), if_neg q2]
  · obtain ⟨⟨hg1, t2, mw, me⟩, m1, m2⟩ := hj
    have X := X.keeps hg
    have T := T.keeps hg
    walk_at "w go"
    have : staysP u d x.cps.toList 0 = true := by rw [← me, ← Array.length_toList, List.drop_length]; rfl
    rw [← this]
    exact h _ (gx.ext fun b o e => F.keep _ _ (hg b o e))
end PartP3
section PartP4
noncomputable def linesP (r : List Int) : List Int := r.map fun n => n - blF r n r.length 0 r.length
set_option maxHeartbeats 4000000 in
theorem lines_call {p : Program} {w : World} {A : Around} {loose : List Str} {mean : ExcName → Option Value} {mg mb : Str → Option Value} {l : Addr} {vs : List Value} {ns : List Int} {s : Shared} {R : Result → Shared → Prop}
   (X : (hd.heap_39 w.params).In s.heap) (T : Top p loose mean mg mb s.heap) (hh : A.handled = none) (hd : A.depth + (20 + 1) < recursionLimit) (hu : A.units + (100 + 3) < cLine)
   (hl : s.heap.IsList l vs.toArray) (hi : IntsAre vs ns) (hf : ns.length < 2 ^ 20)
   (h : ∀ s' a us, Ext s s' → s.heap.get? a = none → s'.heap.PlainList a us → IntsAre us.toList (linesP ns) → R (.ok (.ret (.ref a))) s') :
   codeAny (model PW w) A (.call (.ref 115) ⟨[.ref l], []⟩) R s := by
  refine enterOC X T.nolimit hh hd hu (by k_is) (by k_is) (binds := [("row", .ref l)]) (by rfl) (by rfl) (fun n x hx => by (have hx' : x ∈ [(("row" : Str), n)] := hx); cases hx' with | head => rfl | tail _ h => cases h) ?_
  clear hh hd hu
  intro h₁ A' tk hh hd hu F
  replace F : Fo s.heap s.heap.objs.size [("row", s.heap.objs.size + 1)] none h₁ _ #[] := F
  walk_at "w go"
  refine compN_eval (by rfl) ?_
  walk_at "w go"
  refine src_list F hh hl fun I h₂ F₂ k₂ S => ?_
  refine comp_N S F₂ (Gx.refl s |>.re _ _) (by rw [List.size_toArray, hi.length]; exact Nat.le_trans (Nat.le_of_lt hf) (by decide)) (fun i g us => IntsAre us.toList ((linesP ns).take i)) (fun _ _ _ _ _ h => h) 
    (fun C D i v s₁ g₁ m₁ us₁ hlt hP hm hg hcells hown F gx hj hus => ?_) (fun s' g' us' D hg F gx hp hz hj hD => ?_) .nil
  · obtain ⟨n, t, hn, rfl⟩ := ints_get hi (by simpa using hP)
    have hc : g₁.IsCell (s.heap.objs.size + 1) (some (.ref l)) := hcells _ (.head _)
    have X := X.keeps hg
    have T := T.keeps hg
    clear S F₂
    refine tests_nil ?_
    rw [if_pos rfl]
    walk_at "w go"
    have X' := X.keeps F.keep
    have T' := T.keeps F.keep
    refine wpAny_call ?_
    refine bl_test X' T' (by lia) (by lia) (lkeeps (lkeeps hl hg) F.keep) hi (by lia) fun t₂ h₃ tk₃ k₃ => ?_
    have F := F.keeps k₃
    walk_at "w go"
    refine ⟨_, _, fun _ _ e => e, F, gx.re _ _, ?_⟩
    rw [take_snoc (L := linesP ns) (x := n - blF ns n ns.length 0 ns.length) (by simp [linesP, hn])]
    exact ints_push hj
  · rw [List.size_toArray, hi.length, show ns.length = (linesP ns).length by simp [linesP], List.take_length] at hj
    exact rt RT <| h _ _ _ (gx.ext fun b o e => F.keep b o (hg b o e)) (none_back F₂.keep hD) (pkeeps hp F.keep) hj
end PartP4
section PartP5
noncomputable def sideP (r : List Int) : List Int := (rangeInts (maxP (r ++ [0])) (-1) (if 0 < maxP (r ++ [0]) then ((maxP (r ++ [0]) - 1) / 1 + 1).toNat else 0)).map fun n => (r.length : Int) - blF r n r.length 0 r.length
set_option maxHeartbeats 4000000 in
theorem side_call {p : Program} {w : World} {A : Around} {loose : List Str} {mean : ExcName → Option Value} {mg mb : Str → Option Value} {l : Addr} {vs : List Value} {ns : List Int} {s : Shared} {R : Result → Shared → Prop}
   (X : (hd.heap_39 w.params).In s.heap) (T : Top p loose mean mg mb s.heap) (hh : A.handled = none) (hd : A.depth + (20 + 1) < recursionLimit) (hu : A.units + (100 + 3) < cLine)
   (hl : s.heap.IsList l vs.toArray) (hi : IntsAre vs ns) (hf : ns.length < 2 ^ 20) (hm : maxP (ns ++ [0]) < 2 ^ 20)
   (h : ∀ s' a us, Ext s s' → s.heap.get? a = none → s'.heap.PlainList a us → IntsAre us.toList (sideP ns) → R (.ok (.ret (.ref a))) s') :
   codeAny (model PW w) A (.call (.ref 120) ⟨[.ref l], []⟩) R s := by
  refine enterOC X T.nolimit hh hd hu (by k_is) (by k_is) (binds := [("lines", .ref l)]) (by rfl) (by rfl) (fun n x hx => by (have hx' : x ∈ [(("lines" : Str), n)] := hx); cases hx' with | head => rfl | tail _ h => cases h) ?_
  clear hh hd hu
  intro h₁ A' tk hh hd hu F
  replace F : Fo s.heap s.heap.objs.size [("lines", s.heap.objs.size + 1)] none h₁ _ #[] := F
  walk_at "w go"
  refine compN_eval (by rfl) ?_
  walk_at "w go"
  refine o_add F' (lkeeps (lkeeps hl kg') F'.keep) (lkeeps IL'.isList F'.keep) (fun h₂ g₂ F₂ G₂ P₂ K₂ _ _ => ?_) (by rw [hi.length]; exact Nat.le_trans (Nat.succ_le_of_lt hf) (by decide))
  replace X := X.keeps G₂
  replace T := T.keeps G₂
  have hi₂ : IntsAre (vs ++ [Value.int 0 tk]) (ns ++ [0]) := hi.append (.cons _ _ .nil)
  dsimp only at F₂ P₂ K₂ ⊢
  walk_at "w go"
  refine o_max hh (lkeeps P₂.isList F₂.keep) hi₂ (by simp) fun h₃ tk₃ t₃ k₃ => ?_
  have F₃ := F₂.keeps k₃
  dsimp only at F₃ ⊢
  walk_at "w go"
  have hM : 0 ≤ maxP (ns ++ [0]) := (maxP_spec (ns ++ [0]) (by simp)).2 0 (by simp)
  refine src_range3 (c := 1) F₃ hh (by lia) (by lia) (by decide) (by decide) (Or.inl (PyProof.noPylong_small (by lia))) fun I h₄ tk₄ F₄ k₄ S => ?_
  dsimp only at F₄ S ⊢
  have hl₂ : g₂.IsList l vs.toArray := lkeeps (lkeeps hl kg') G₂
  have X₂ := X
  have T₂ := T
  refine comp_N S F₄ (Gx.refl s |>.re _ _) ?_ (fun i g us => IntsAre us.toList ((sideP ns).take i)) (fun _ _ _ _ _ h => h) 
    (fun C D i v s₁ g₁ m₁ us₁ hlt hP hm' hg hcells hown F gx hj hus => ?_) (fun s' g' us' D hg F gx hp hz hj hD => ?_) .nil
  · refine Nat.le_trans (m := 2 ^ 20) ?_ (by decide)
    rw [Int.ediv_one]
    split <;> lia
  · obtain ⟨t, rfl⟩ := hP
    have hc : g₁.IsCell (s.heap.objs.size + 1) (some (.ref l)) := hcells _ (.head _)
    have X := X₂.keeps hg
    have T := T₂.keeps hg
    clear S F₄ F₃ F₂ F'
    refine tests_nil ?_
    rw [if_pos rfl]
    walk_at "w go"
    refine o_len (lkeeps (lkeeps hl₂ hg) F.keep) (by rw [List.size_toArray, hi.length]; exact hf) fun tk₅ t₅ => ?_
    walk_at "w go"
    have X' := X.keeps F.keep
    have T' := T.keeps F.keep
    refine wpAny_call ?_
    refine bl_test X' T' (by lia) (by lia) (lkeeps (lkeeps hl₂ hg) F.keep) hi (by lia) fun t₂ h₃ tk₃ k₃ => ?_
    have F := F.keeps k₃
    walk_at "w go"
    refine ⟨_, _, fun _ _ e => e, F, gx.re _ _, ?_⟩
    rw [take_snoc (L := sideP ns) (x := (ns.length : Int) - blF ns (maxP (ns ++ [0]) + i * -1) ns.length 0 ns.length) (by simp only [sideP, List.getElem?_map, rangeInts_get hlt, Option.map])]
    rw [List.size_toArray, hi.length]
    exact ints_push hj
  · rw [show (if 0 < maxP (ns ++ [0]) then ((maxP (ns ++ [0]) - 1) / 1 + 1).toNat else 0) = (sideP ns).length by simp [sideP, rangeInts_length], List.take_length] at hj
    exact rt RT <| h _ _ _ (gx.ext fun b o e => F.keep b o (hg b o (G₂ b o (kg' b o e)))) (none_back (fun b o e => F₄.keep b o (G₂ b o (kg' b o e))) hD) (pkeeps hp F.keep) hj
end PartP5
section PartP6
noncomputable def rowsP : Nat → List (List Int)
  | 0 => [[]]
  | k + 1 => rowsP k ++ (rowsP k).map fun r => r ++ [((1 : Int) + (k : Nat) * 1)]
theorem rowsP_succ {k : Nat} : rowsP (k + 1) = rowsP k ++ (rowsP k).map fun r => r ++ [((1 : Int) + (k : Nat) * 1)] := rfl
theorem rowsP_length : ∀ k, (rowsP k).length = 2 ^ k
  | 0 => rfl
  | k + 1 => by rw [rowsP_succ, List.length_append, List.length_map, rowsP_length k, Nat.pow_succ]; lia
theorem rowsP_each : ∀ k, ∀ r ∈ rowsP k, r.length ≤ k
  | 0, r, h => by
    rw [show rowsP 0 = [[]] from rfl, List.mem_singleton] at h
    rw [h]; exact Nat.le_refl _
  | k + 1, r, h => by
    rw [rowsP_succ, List.mem_append] at h
    rcases h with h | h
    · exact Nat.le_succ_of_le (rowsP_each k r h)
    · obtain ⟨q, hq, rfl⟩ := List.mem_map.mp h
      rw [List.length_append]
      exact Nat.succ_le_succ (rowsP_each k q hq)
set_option maxHeartbeats 4000000 in
theorem rows_call {p : Program} {w : World} {A : Around} {loose : List Str} {mean : ExcName → Option Value} {mg mb : Str → Option Value} {x : Int} {t : Tok} {s : Shared} {R : Result → Shared → Prop}
   (X : (hd.heap_39 w.params).In s.heap) (T : Top p loose mean mg mb s.heap) (hh : A.handled = none) (hd : A.depth + (20 + 1) < recursionLimit) (hu : A.units + (100 + 3) < cLine)
   (hx0 : 0 ≤ x) (hx : x ≤ 6)
   (h : ∀ s' a us, Ext s s' → s.heap.get? a = none → s'.heap.PlainList a us → RowsAre s'.heap us.toList (rowsP x.toNat) → R (.ok (.ret (.ref a))) s') :
   codeAny (model PW w) A (.call (.ref 105) ⟨[.int x t], []⟩) R s := by
  refine enterOC X T.nolimit hh hd hu (by k_is) (by k_is) (binds := [("greatest", .int x t)]) (by rfl) (by rfl) (fun n x hx => by (have hx' : x ∈ [(("number" : Str), n)] := hx); cases hx' with | head => rfl | tail _ h => cases h) ?_
  clear hh hd hu
  intro h₁ A' tk hh hd hu F
  replace F : Fo s.heap s.heap.objs.size [("number", s.heap.objs.size + 1)] none h₁ _ #[] := F
  walk_at "w go"
  refine for_exec ?_
  walk_at "w go"
  (rename Heap.PlainList _ _ #[] => PA)
  (rename (∀ b o, s.heap.get? b = some o → Heap.get? _ b = some o) => kg0)
  have PA' := pkeeps PA kg'
  refine src_range2 F' hh (by lia) (by lia) (by lia) (by lia) fun I h₂ tk₂ F₂ k₂ S => ?_
  have kk : ∀ b o, s.heap.get? b = some o → g'.get? b = some o := fun b o e => kg' b o (kg0 b o e)
  clear F
  dsimp only at F₂ S IL' PA' ⊢
  refine for_S S F₂ (Gx.refl s |>.re _ _) (fun i g m us => ∃ a vs, m "rows" = some (.ref a) ∧ g.PlainList a vs ∧ RowsAre g vs.toList (rowsP i) ∧ s.heap.get? a = none)
    (fun i g g' m us k hj => let ⟨a, vs, h1, h2, h3, h4⟩ := hj; ⟨a, vs, h1, k.plain h2, h3.kp k, h4⟩) (fun i v s₁ g₁ m us hi hP hg F gx hj => ?_) (fun s₁ g₁ m us hg F gx hj => ?_) ⟨_, _, rfl, IL', .cons ⟨_, _, rfl, PA', .nil⟩ .nil, Fo.fresh (by assumption)⟩
  · obtain ⟨t', rfl⟩ := hP
    obtain ⟨a, vs, m1, h1, h2, h3⟩ := hj
    clear F₂ S k₂ F'
    have X := X.keeps hg
    have T := T.keeps hg
    walk_at "w go"
    have hlen : vs.size = 2 ^ i := by rw [← Array.length_toList, h2.length, rowsP_length]
    have hi6 : i ≤ 5 := by lia
    have hp6 : 2 ^ i ≤ 2 ^ 5 := Nat.pow_le_pow_right (by decide) hi6
    refine compN_eval (by rfl) ?_
    walk_at "w go"
    refine src_list F' hh h1.isList fun I₂ h₃ F₃ k₃ S₃ => ?_
    dsimp only at F₃ S₃ ⊢
    have X₂ := X
    have T₂ := T
    refine comp_N S₃ F₃ (gx.re _ _) (by rw [hlen]; exact Nat.le_trans hp6 (by decide)) (fun j g us => RowsAre g us.toList (((rowsP i).map fun r => r ++ [((1 : Int) + (i : Nat) * 1)]).take j)) (fun _ _ _ _ k h => h.kp k) 
      (fun C D j v s₂ g₂ m₂ us₂ hlt hP hm' hg₂ hcells hown F₂ gx₂ hj₂ hus₂ => ?_) (fun s₂ g₂ us₂ D hg₂ F₂ gx₂ hp₂ hz₂ hj₂ hD₂ => ?_) .nil
    · obtain ⟨r, hr, a₂, vs₂, rfl, hpa₂, hia₂⟩ := h2.get (by simpa using hP)
      have hc : g₂.IsCell (s.heap.objs.size + 1) (some (.int (1 + (i : Nat) * 1) t')) := hcells _ (.head _)
      have X := X₂.keeps hg₂
      have T := T₂.keeps hg₂
      have hsz : r.length ≤ 6 := Nat.le_trans (rowsP_each i r (List.mem_of_getElem? hr)) (by lia)
      clear S₃ F₃ F'
      refine tests_nil ?_
      rw [if_pos rfl]
      walk_at "w go"
      refine o_add (vs := vs₂.toList) F' (by simpa using lkeeps (lkeeps (lkeeps hpa₂.isList hg₂) kg') F'.keep) (lkeeps IL'.isList F'.keep) (fun h₄ g₄ F₄ G₄ P₄ K₄ _ hn₄ => ?_) (by rw [hia₂.length]; exact Nat.le_trans (Nat.add_le_add hsz (Nat.le_refl 1)) (by decide))
      refine ⟨_, _, fun b o e => G₄ b o (kg' b o e), F₄, gx₂.re _ _, ?_⟩
      rw [take_snoc (x := r ++ [(1 : Int) + (i : Nat) * 1]) (by rw [List.getElem?_map, hr]; rfl)]
      refine RowsAre.push (hj₂.kp (Kp.of (hid_mono fun b o e => G₄ b o (kg' b o e)))) ⟨_, _, rfl, hid_plain F' (fun b q => ?_) hn₄ P₄, ?_⟩
      · obtain ⟨o, ho⟩ := hown b q
        exact ⟨o, kg' b o ho⟩
      · rw [List.toList_toArray]
        exact hia₂.append (.cons _ _ .nil)
    · rw [hlen, show 2 ^ i = ((rowsP i).map fun r => r ++ [((1 : Int) + (i : Nat) * 1)]).length by rw [List.length_map, rowsP_length], List.take_length] at hj₂
      have X := X.keeps hg₂
      have T := T.keeps hg₂
      refine o_add (vs := vs.toList) (ws := us₂.toList) F₂ (by simpa using lkeeps (lkeeps h1.isList hg₂) F₂.keep) (by simpa using lkeeps hp₂.isList F₂.keep) (fun h₄ g₄ F₄ G₄ P₄ K₄ _ hn₄ => ?_) ?_
      · replace X := X.keeps G₄
        replace T := T.keeps G₄
        walk_at "w go"
        refine ⟨_, _, _, fun b o e => G₄ b o (hg₂ b o e), F', gx₂.re _ _, _, _, rfl, P₄, ?_, none_back (fun b o e => F₂.keep b o (hg₂ b o (hg b o (kk b o e)))) hn₄⟩
        rw [List.toList_toArray]
        exact (h2.kp (Kp.of fun b o e => G₄ b o (hg₂ b o e))).append (hj₂.kp (Kp.of G₄))
      · have e1 : vs.toList.length = 2 ^ i := by rw [Array.length_toList, hlen]
        have e2 := hj₂.length
        rw [List.length_map, rowsP_length] at e2
        rw [e1, e2]
        exact Nat.le_trans (Nat.add_le_add hp6 hp6) (by decide)
  · obtain ⟨a, vs, m1, h1, h2, h3⟩ := hj
    rw [show (x + 1 - 1).toNat = x.toNat by congr 1; lia] at h2
    have X := X.keeps hg
    have T := T.keeps hg
    walk_at "w go"
    exact h _ a vs (gx.ext fun b o e => F.keep b o (hg b o (kk b o e))) h3 (pkeeps h1 F.keep) (h2.kp (Kp.of F.keep))
end PartP6
section PartP7
noncomputable def baseP (u d : Int) : Str := Txt.mul ("u" : Str) u ++ Txt.mul ("d" : Str) d
noncomputable def wordsP : Nat → Int → Int → List Str
  | 0, u, d => [baseP u d]
  | n + 1, u, d => if u = 0 ∨ d = 0 then [baseP u d] else (wordsP n (u - 1) d).map (fun w => ("u" : Str) ++ w) ++ (wordsP n u (d - 1)).map (fun w => ("d" : Str) ++ w)
theorem wordsP_succ {n : Nat} {u d : Int} : wordsP (n + 1) u d = if u = 0 ∨ d = 0 then [baseP u d] else (wordsP n (u - 1) d).map (fun w => ("u" : Str) ++ w) ++ (wordsP n u (d - 1)).map (fun w => ("d" : Str) ++ w) := rfl
theorem wordsP_le : ∀ n u d, (wordsP n u d).length ≤ 2 ^ n
  | 0, _, _ => Nat.le_refl _
  | n + 1, u, d => by
    rw [wordsP_succ]
    split
    · exact Nat.one_le_two_pow
    · rw [List.length_append, List.length_map, List.length_map, Nat.pow_succ]
      have := wordsP_le n (u - 1) d
      have := wordsP_le n u (d - 1)
      lia
theorem upto9 {n : Int} (h0 : 0 ≤ n) (h : n ≤ 9) : n = 0 ∨ n = 1 ∨ n = 2 ∨ n = 3 ∨ n = 4 ∨ n = 5 ∨ n = 6 ∨ n = 7 ∨ n = 8 ∨ n = 9 := by lia
theorem mul_len {x : Str} {n : Int} (hx : x = ("u" : Str) ∨ x = ("d" : Str)) (h0 : 0 ≤ n) (h : n ≤ 9) : (Txt.mul x n).length ≤ 9 := by
  rcases hx with rfl | rfl <;> rcases upto9 h0 h with rfl | rfl | rfl | rfl | rfl | rfl | rfl | rfl | rfl | rfl <;> decide +kernel
theorem base_len {u d : Int} (hu : 0 ≤ u) (hu' : u ≤ 9) (hd : 0 ≤ d) (hd' : d ≤ 9) : (baseP u d).length ≤ 18 := by
  unfold baseP
  rw [Str.length_append]
  have := mul_len (.inl rfl) hu hu'
  have := mul_len (.inr rfl) hd hd'
  lia
theorem wordsP_len : ∀ n u d, 0 ≤ u → u ≤ 9 → 0 ≤ d → d ≤ 9 → ∀ w ∈ wordsP n u d, w.length ≤ 18 + n
  | 0, u, d, h1, h2, h3, h4, w, hw => by
    rw [show wordsP 0 _ _ = [baseP _ _] from rfl, List.mem_singleton] at hw
    rw [hw]; exact base_len h1 h2 h3 h4
  | n + 1, u, d, h1, h2, h3, h4, w, hw => by
    rw [wordsP_succ] at hw
    split at hw
    · rw [List.mem_singleton] at hw
      rw [hw]; exact Nat.le_trans (base_len h1 h2 h3 h4) (by lia)
    · rename_i hc
      have a1 : ("u" : Str).length = 1 := rfl
      have a2 : ("d" : Str).length = 1 := rfl
      rcases List.mem_append.mp hw with hw | hw
      · obtain ⟨q, hq, rfl⟩ := List.mem_map.mp hw
        have := wordsP_len n (u - 1) d (by lia) (by lia) h3 h4 q hq
        rw [Str.length_append]
        lia
      · obtain ⟨q, hq, rfl⟩ := List.mem_map.mp hw
        have := wordsP_len n u (d - 1) h1 h2 (by lia) (by lia) q hq
        rw [Str.length_append]
        lia
set_option maxHeartbeats 4000000 in
theorem words_call {p : Program} {w : World} {loose : List Str} {mean : ExcName → Option Value} {mg mb : Str → Option Value} (n : Nat) : ∀ {A : Around} {u d : Int} {tu td : Tok} {s : Shared} {R : Result → Shared → Prop}
   (X : (hd.heap_39 w.params).In s.heap) (T : Top p loose mean mg mb s.heap) (hh : A.handled = none) (hd : A.depth + (20 + 2 * n + 1) < recursionLimit) (hu : A.units + (100 + 5 * n + 3) < cLine)
   (hn : n ≤ 9) (hu0 : 0 ≤ u) (hd0 : 0 ≤ d) (hs : u + d ≤ n)
   (h : ∀ s' a us, Ext s s' → s.heap.get? a = none → s'.heap.PlainList a us → StrsAre us.toList (wordsP n u d) → R (.ok (.ret (.ref a))) s'),
   codeAny (model PW w) A (.call (.ref 81) ⟨[.int u tu, .int d td], []⟩) R s := by
  induction n with
  | zero =>
    intro A u d tu td s R X T hh hd hu hn hu0 hd0 hs h
    obtain rfl : u = 0 := by lia
    obtain rfl : d = 0 := by lia
    refine enterO X T.nolimit hh hd hu (by k_is) (by k_is) (binds := [("ups", .int 0 tu), ("downs", .int 0 td)]) (binds_peek X (fun S => rfl)) (locs rfl) ?_
    clear hh hd hu
    intro h₁ A' tk hh hd hu F
    walk_at "w go"
    exact h _ _ _ (Ext.heap fun b o e => F'.keep _ _ (kg' _ _ e)) (Fo.fresh F) (pkeeps IL' F'.keep) (.cons _ _ .nil)
  | succ n ih =>
    intro A u d tu td s R X T hh hd hu hn hu0 hd0 hs h
    refine enterO X T.nolimit hh hd hu (by k_is) (by k_is) (binds := [("ups", .int u tu), ("downs", .int d td)]) (binds_peek X (fun S => rfl)) (locs rfl) ?_
    clear hh hd hu
    intro h₁ A' tk hh hd hu F
    walk_at "w go"
    · refine h _ _ _ (Ext.heap fun b o e => F'.keep _ _ (kg' _ _ e)) (Fo.fresh F) (pkeeps IL' F'.keep) ?_
      rw [wordsP_succ, if_pos (.inl (by assumption))]
      exact .cons _ _ .nil
    · refine h _ _ _ (Ext.heap fun b o e => F'.keep _ _ (kg' _ _ e)) (Fo.fresh F) (pkeeps IL' F'.keep) ?_
      rw [wordsP_succ, if_pos (.inr (by assumption))]
      exact .cons _ _ .nil
    · rename u ≠ 0 => hun
      rename d ≠ 0 => hdn
      have hle := wordsP_le n (u - 1) d
      have hle2 := wordsP_le n u (d - 1)
      have hp9 : 2 ^ n ≤ 2 ^ 9 := Nat.pow_le_pow_right (by decide) (by lia)
      refine compA_eval (by rfl) (by rfl) ?_
      walk_at "w go"
      refine wpAny_call ?_
      refine ih (X.keeps F.keep) (T.keeps F.keep) hh (by lia) (by lia) (by lia) (by lia) (by lia) (by lia) fun s₁ a us E₁ hn₁ hp₁ hr₁ => ?_
      obtain ⟨g₁, k1, F₁, k3, k4⟩ := F.got E₁.keep
      have hp₁' : g₁.PlainList a us := hp₁.at fun o e => k3 a o e (k4 a hn₁)
      have X₁ := X.keeps k1
      have T₁ := T.keeps k1
      have gx₁ : Gx s s₁ := (Gx.re (Gx.refl s) _ _).trans E₁.gx
      clear hn₁ hp₁ k3 k4 E₁
      dsimp only
      refine src_list F₁ hh hp₁'.isList fun I₂ h₃ F₃ k₃ S₃ => ?_
      have hz₁ : us.size = (wordsP n (u - 1) d).length := by rw [← Array.length_toList, hr₁.length]
      refine comp_A S₃ F₃ (gx₁.re _ _) (by rw [hz₁]; exact Nat.le_trans (Nat.le_trans hle hp9) (by decide)) (fun j g vs => StrsAre vs.toList (((wordsP n (u - 1) d).map fun r => ("u" : Str) ++ r).take j)) (fun _ _ _ _ k h => h) 
        (fun C D j v s₂ g₂ m₂ us₂ hlt hP hm' hg₂ hcells hown F₂ gx₂ hj₂ hus₂ => ?_) (fun s₂ g₂ us₂ D hg₂ F₂ gx₂ hp₂ hz₂ hj₂ hD₂ => ?_) .nil
      · obtain ⟨r, t, hr, rfl⟩ := strs_get hr₁ (by simpa using hP)
        have hsz : r.length ≤ 18 + n := wordsP_len n (u - 1) d (by lia) (by lia) (by lia) (by lia) r (List.mem_of_getElem? hr)
        have X := X₁.keeps hg₂
        have T := T₁.keeps hg₂
        clear S₃ F₃
        refine tests_nil ?_
        rw [if_pos rfl]
        walk_at "w go"
        refine ⟨_, _, fun b o e => e, F₂, gx₂.re _ _, ?_⟩
        rw [take_snoc (x := ("u" : Str) ++ r) (by rw [List.getElem?_map, hr]; rfl)]
        exact strs_push hj₂
      · rw [hz₁, show (wordsP n (u - 1) d).length = ((wordsP n (u - 1) d).map fun r => ("u" : Str) ++ r).length by rw [List.length_map], List.take_length] at hj₂
        have X := X₁.keeps hg₂
        have T := T₁.keeps hg₂
        walk_at "w go"
        refine compN_eval (by rfl) ?_
        walk_at "w go"
        refine wpAny_call ?_
        refine ih (X.keeps F₂.keep) (T.keeps F₂.keep) hh (by lia) (by lia) (by lia) (by lia) (by lia) (by lia) fun s₅ a₅ us₅ E₅ hn₅ hp₅ hr₅ => ?_
        obtain ⟨g₅, k15, F₅, k35, k45⟩ := F₂.got E₅.keep
        have hp₅' : g₅.PlainList a₅ us₅ := hp₅.at fun o e => k35 a₅ o e (k45 a₅ hn₅)
        have X₅ := X.keeps k15
        have T₅ := T.keeps k15
        have gx₅ : Gx s s₅ := (gx₂.re _ _).trans E₅.gx
        clear hn₅ hp₅ k35 k45 E₅
        refine src_list F₅ hh hp₅'.isList fun I₆ h₆ F₆ k₆ S₆ => ?_
        have hz₅ : us₅.size = (wordsP n u (d - 1)).length := by rw [← Array.length_toList, hr₅.length]
        refine comp_N S₆ F₆ (gx₅.re _ _) (by rw [hz₅]; exact Nat.le_trans (Nat.le_trans hle2 hp9) (by decide)) (fun j g vs => StrsAre vs.toList (((wordsP n u (d - 1)).map fun r => ("d" : Str) ++ r).take j)) (fun _ _ _ _ k h => h) 
          (fun C D j v s₇ g₇ m₇ us₇ hlt hP hm' hg₇ hcells hown F₇ gx₇ hj₇ hus₇ => ?_) (fun s₇ g₇ us₇ D₇ hg₇ F₇ gx₇ hp₇ hz₇ hj₇ hD₇ => ?_) .nil
        · obtain ⟨r, t, hr, rfl⟩ := strs_get hr₅ (by simpa using hP)
          have hsz : r.length ≤ 18 + n := wordsP_len n u (d - 1) (by lia) (by lia) (by lia) (by lia) r (List.mem_of_getElem? hr)
          have X := X₅.keeps hg₇
          have T := T₅.keeps hg₇
          clear S₃ F₃ S₆ F₆
          refine tests_nil ?_
          rw [if_pos rfl]
          walk_at "w go"
          refine ⟨_, _, fun b o e => e, F₇, gx₇.re _ _, ?_⟩
          rw [take_snoc (x := ("d" : Str) ++ r) (by rw [List.getElem?_map, hr]; rfl)]
          exact strs_push hj₇
        · rw [hz₅, show (wordsP n u (d - 1)).length = ((wordsP n u (d - 1)).map fun r => ("d" : Str) ++ r).length by rw [List.length_map], List.take_length] at hj₇
          have up : ∀ b o, s.heap.get? b = some o → g₇.get? b = some o := fun b o e => hg₇ b o (k15 b o (hg₂ b o (k1 b o e)))
          refine o_add (vs := us₂.toList) (ws := us₇.toList) F₇ (by simpa using lkeeps (lkeeps hp₂.isList fun b o e => hg₇ b o (k15 b o e)) F₇.keep) (by simpa using lkeeps hp₇.isList F₇.keep) (fun h₈ g₈ F₈ G₈ P₈ K₈ _ hn₈ => ?_) ?_
          · refine rt RT (h _ _ _ ((gx₇.re _ _).ext fun b o e => F₈.keep b o (G₈ b o (up b o e))) (none_back (fun b o e => F₇.keep b o (up b o e)) hn₈) (pkeeps P₈ F₈.keep) ?_)
            rw [wordsP_succ, if_neg (fun q => q.elim hun hdn), List.toList_toArray]
            exact hj₂.append' hj₇
          · have e1 := hj₂.length
            have e2 := hj₇.length
            rw [List.length_map] at e1 e2
            rw [e1, e2]
            exact Nat.le_trans (Nat.add_le_add (Nat.le_trans hle hp9) (Nat.le_trans hle2 hp9)) (by decide)
end PartP7
section PartP8
noncomputable def isIn (r : List Int) (low : Int) : Bool := blF r low r.length 0 r.length != brF r low r.length 0 r.length
noncomputable def hooksW (r l : List Int) : List Int := l.flatMap fun n => ((rangeInts 0 1 (n - 0).toNat).filter fun low => !isIn r low).map fun low => n - low
noncomputable def hooksP (r : List Int) : List Int := hooksW r r
theorem hooksW_len (r : List Int) : ∀ l : List Int, (∀ n ∈ l, 0 ≤ n ∧ n ≤ 2 ^ 10) → (hooksW r l).length ≤ l.length * 2 ^ 10
  | [], _ => Nat.le_refl _
  | n :: l, h => by
    have ih := hooksW_len r l fun n hn => h n (.tail _ hn)
    have h1 := h n (.head _)
    unfold hooksW at ih ⊢
    rw [List.flatMap_cons, List.length_append, List.length_map, List.length_cons]
    have h2 : ((rangeInts 0 1 (n - 0).toNat).filter fun low => !isIn r low).length ≤ (n - 0).toNat := Nat.le_trans (List.length_filter_le ..) (Nat.le_of_eq (rangeInts_length ..))
    lia
set_option maxHeartbeats 4000000 in
theorem hooks_call {p : Program} {w : World} {A : Around} {loose : List Str} {mean : ExcName → Option Value} {mg mb : Str → Option Value} {l : Addr} {vs : List Value} {ns : List Int} {s : Shared} {R : Result → Shared → Prop}
   (X : (hd.heap_39 w.params).In s.heap) (T : Top p loose mean mg mb s.heap) (hh : A.handled = none) (hd : A.depth + (20 + 1) < recursionLimit) (hu : A.units + (100 + 3) < cLine)
   (hl : s.heap.IsList l vs.toArray) (hi : IntsAre vs ns) (hf : ns.length ≤ 2 ^ 10) (hb : ∀ n ∈ ns, 0 ≤ n ∧ n ≤ 2 ^ 10)
   (h : ∀ s' a us, Ext s s' → s.heap.get? a = none → s'.heap.PlainList a us → IntsAre us.toList (hooksP ns) → R (.ok (.ret (.ref a))) s') :
   codeAny (model PW w) A (.call (.ref 110) ⟨[.ref l], []⟩) R s := by
  refine enterOC X T.nolimit hh hd hu (by k_is) (by k_is) (binds := [("row", .ref l)]) (by rfl) (by rfl) (fun n x hx => by (have hx' : x ∈ [(("number" : Str), n + 1), (("row" : Str), n)] := hx); (rcases List.mem_cons.mp hx' with rfl | hx'; · rfl); (rcases List.mem_cons.mp hx' with rfl | hx'; · rfl); cases hx') ?_
  clear hh hd hu
  have X₀ := X
  have T₀ := T
  intro h₁ A' tk hh hd hu F
  replace F : Fo s.heap s.heap.objs.size [("number", s.heap.objs.size + 1 + 1), ("row", s.heap.objs.size + 1)] none h₁ _ #[] := F
  walk_at "w go"
  have F0 : Fo s.heap _ _ none _ _ #[] := F'.based (fun b o e => F'.keep b o (kg' b o e)) (fun a q => none_back kg' (F'.out a q))
  have F1 := F0.take (Fo.fresh F) (pkeeps IL' F'.keep) (F.new_ne (Nat.le_refl _))
  replace X := X₀
  replace T := T₀
  clear F0 F' kg' IL' K'
  have hfa := Fo.fresh F
  generalize h₁.objs.size = a at F1 hfa ⊢
  clear F
  have hsz : ∀ {i : Nat} (us : Array Value), IntsAre us.toList (hooksW ns (ns.take i)) → (∀ n ∈ ns, 0 ≤ n ∧ n ≤ 2 ^ 10) → us.size ≤ 2 ^ 20 := fun {i} us h1 hb => by
    have e := h1.length
    rw [Array.length_toList] at e
    rw [e]
    have := hooksW_len ns (ns.take i) (fun n hn => hb n (List.mem_of_mem_take hn))
    have h2 : (ns.take i).length ≤ 2 ^ 10 := Nat.le_trans (List.length_take_le' ..) hf
    exact Nat.le_trans this (Nat.le_trans (Nat.mul_le_mul_right _ h2) (by decide))
  refine for_exec ?_
  walk_at "w go"
  refine src_list F1 hh hl fun I h₂ F₂ k₂ S => ?_
  refine for_S S F₂ (Gx.refl s |>.re _ _) (fun i g m us => m "row" = some (.ref l) ∧ m "hooks" = some (.ref a) ∧ IntsAre us.toList (hooksW ns (ns.take i)))
    (fun i g g' m us k hj => hj) (fun i v s₁ g₁ m us hlt hP hg F gx hj => ?_) (fun s₁ g₁ m us hg F gx hj => ?_) ⟨rfl, rfl, .nil⟩
  · obtain ⟨n, t, hn, rfl⟩ := ints_get hi (by simpa using hP)
    obtain ⟨m0, m1, h1⟩ := hj
    clear F₂ S k₂ F1
    have X := X.keeps hg
    have T := T.keeps hg
    walk_at "w go"
    have hnb := hb n (List.mem_of_getElem? hn)
    refine compN_eval (by rfl) ?_
    walk_at "w go"
    refine src_range1 F' hh (by lia) (by lia) fun I₂ h₃ tk₃ F₃ k₃ S₃ => ?_
    dsimp only at F₃ S₃ ⊢
    have X₂ := X
    have T₂ := T
    refine comp_N S₃ F₃ (gx.re _ _) (Nat.le_trans (m := 2 ^ 10) (by lia) (by decide)) (fun j g us => IntsAre us.toList ((((rangeInts 0 1 (n - 0).toNat).take j).filter fun low => !isIn ns low).map fun low => n - low)) (fun _ _ _ _ k h => h) 
      (fun C D j v s₂ g₂ m₂ us₂ hlt hP hm' hg₂ hcells hown F₂ gx₂ hj₂ hus₂ => ?_) (fun s₂ g₂ us₂ D hg₂ F₂ gx₂ hp₂ hz₂ hj₂ hD₂ => ?_) .nil
    · obtain ⟨t', rfl⟩ := hP
      have hc2 : g₂.IsCell (s.heap.objs.size + 1) (some (.ref l)) := by
        have := hcells _ (.tail _ (.head _))
        dsimp only at this
        rw [if_neg (by decide), m0] at this
        exact this
      have X := X₂.keeps hg₂
      have T := T₂.keeps hg₂
      have hj' := take_snoc (L := rangeInts 0 1 (n - 0).toNat) (rangeInts_get hlt)
      clear S₃ F₃ F'
      refine wpAny_tests_one ?_
      walk_at "w go"
      refine wpAny_call ?_
      refine bl_test (X.keeps F₂.keep) (T.keeps F₂.keep) (by lia) (by lia) (lkeeps (lkeeps (lkeeps hl hg) hg₂) F₂.keep) hi (by lia) fun t₄ h₄ tk₄ k₄ => ?_
      have F₄ := F₂.keeps k₄
      clear F₂
      dsimp only at F₄ ⊢
      walk_at "w go"
      refine wpAny_call ?_
      refine br_call2 (X.keeps F₄.keep) (T.keeps F₄.keep) (by lia) (by lia) (lkeeps (lkeeps (lkeeps hl hg) hg₂) F₄.keep) hi (by lia) fun t₅ h₅ tk₅ k₅ => ?_
      have F₅ := F₄.keeps k₅
      clear F₄
      have hin : isIn ns (0 + (j : Int) * 1) = (blF ns (0 + (j : Int) * 1) ns.length 0 ns.length != brF ns (0 + (j : Int) * 1) ns.length 0 ns.length) := rfl
      generalize blF ns (0 + (j : Int) * 1) ns.length 0 ns.length = p1 at hin ⊢
      generalize brF ns (0 + (j : Int) * 1) ns.length 0 ns.length = p2 at hin ⊢
      dsimp only at F₅ ⊢
      (try dsimp only); walk1
      (try dsimp only); walk1
      cases hq : p1 == p2 with
      | true =>
        clear hc2
        have hc1 : g₂.IsCell (s.heap.objs.size + 1 + 1) (some (.int n t)) := hcells _ (.head _)
        rw [if_pos rfl]
        walk_at "w go"
        refine ⟨_, _, fun _ _ e => e, F₅, gx₂.re _ _, ?_⟩
        rw [hj', List.filter_append, List.map_append]
        have : isIn ns (0 + (j : Int) * 1) = false := by rw [hin]; simpa using hq
        rw [show List.filter (fun low => !isIn ns low) [0 + (j : Int) * 1] = [0 + (j : Int) * 1] by rw [List.filter_cons, this]; rfl]
        exact ints_push hj₂
      | false =>
        rw [if_neg (by decide)]
        refine ⟨_, _, fun _ _ e => e, F₅, gx₂.re _ _, ?_⟩
        rw [hj', List.filter_append, List.map_append]
        have : isIn ns (0 + (j : Int) * 1) = true := by rw [hin]; simpa using hq
        rw [show List.filter (fun low => !isIn ns low) [0 + (j : Int) * 1] = [] by rw [List.filter_cons, this]; rfl, List.map_nil, List.append_nil]
        exact hj₂
    · rw [List.take_of_length_le (Nat.le_of_eq (rangeInts_length ..))] at hj₂
      refine o_iadd (F₂.lst a rfl).1 (pkeeps hp₂ F₂.keep) ?_ fun h₄ hl₄ hs₄ => ?_
      · have : us.size + us₂.size ≤ 2 ^ 20 + 2 ^ 10 := Nat.add_le_add (hsz _ h1 hb) (by lia)
        exact Nat.le_trans this (by decide)
      · have F₄ := F₂.wrote hl₄ fun b o hb e => hs₄.extBut b o hb e
        have X := X₂.keeps hg₂
        have T := T₂.keeps hg₂
        clear F₂ F₃ F'
        walk_at "w go"
        refine ⟨_, _, _, hg₂, F', gx₂.re _ _, by rw [← m0]; rfl, rfl, ?_⟩
        rw [take_snoc hn, Array.toList_append]
        unfold hooksW
        rw [List.flatMap_append]
        refine h1.append ?_
        rw [List.flatMap_cons, List.flatMap_nil, List.append_nil]
        exact hj₂
  · obtain ⟨m0, m1, h1⟩ := hj
    rw [List.size_toArray, hi.length, List.take_length] at h1
    have X := X.keeps hg
    have T := T.keeps hg
    walk_at "w go"
    exact h _ a us (gx.ext fun b o e => F.keep b o (hg b o e)) hfa (F.lst a rfl).1 h1
end PartP8
section PartP9
noncomputable def bareF (r : List Int) (u d n low : Int) : Bool := !(!(r.contains low) && ((n - low).fmod u == 0 || (n - low).fmod d == 0))
noncomputable def bareW (r : List Int) (u d : Int) (l : List Int) : Bool := l.all fun n => (rangeInts 0 1 (n - 0).toNat).all fun low => bareF r u d n low
noncomputable def bareP (r : List Int) (u d : Int) : Bool := bareW r u d r
set_option maxHeartbeats 4000000 in
theorem bare_call {p : Program} {w : World} {A : Around} {loose : List Str} {mean : ExcName → Option Value} {mg mb : Str → Option Value} {l : Addr} {vs : List Value} {ns : List Int} {u d : Int} {tu td : Tok} {s : Shared} {R : Result → Shared → Prop}
   (X : (hd.heap_39 w.params).In s.heap) (T : Top p loose mean mg mb s.heap) (hh : A.handled = none) (hd : A.depth + (20 + 1) < recursionLimit) (hu : A.units + (100 + 3) < cLine)
   (hl : s.heap.IsList l vs.toArray) (hi : IntsAre vs ns) (hf : ns.length ≤ 2 ^ 10) (hb : ∀ n ∈ ns, 0 ≤ n ∧ n ≤ 2 ^ 10) (hu0 : 0 < u) (hu1 : u < 100) (hd0 : 0 < d) (hd1 : d < 100)
   (h : ∀ s', Ext s s' → R (.ok (.ret (.bool (bareP ns u d)))) s') :
   codeAny (model PW w) A (.call (.ref 100) ⟨[.ref l, .int u tu, .int d td], []⟩) R s := by
  refine enterO X T.nolimit hh hd hu (by k_is) (by k_is) (binds := [("row", .ref l), ("ups", .int u tu), ("downs", .int d td)]) (binds_peek X (fun S => rfl)) (locs rfl) ?_
  clear hh hd hu
  intro h₁ A' tk hh hd hu F
  walk_at "w go"
  refine for_exec ?_
  walk_at "w go"
  refine src_list F hh hl fun I h₂ F₂ k₂ S => ?_
  refine for_S S F₂ (Gx.refl s |>.re _ _) (fun i g m us => m "row" = some (.ref l) ∧ m "ups" = some (.int u tu) ∧ m "downs" = some (.int d td) ∧ bareW ns u d (ns.take i) = true)
    (fun i g g' m us k hj => hj) (fun i v s₁ g₁ m us hlt hP hg F gx hj => ?_) (fun s₁ g₁ m us hg F gx hj => ?_) ⟨rfl, rfl, rfl, rfl⟩
  · obtain ⟨n, t, hn, rfl⟩ := ints_get hi (by simpa using hP)
    obtain ⟨m0, m1, m2, h1⟩ := hj
    have hnb := hb n (List.mem_of_getElem? hn)
    clear F₂ S k₂
    have X := X.keeps hg
    have T := T.keeps hg
    walk_at "w go"
    refine for_exec ?_
    walk_at "w go"
    refine src_range1 F' hh (by lia) (by lia) fun I₂ h₃ tk₃ F₃ k₃ S₃ => ?_
    dsimp only at F₃ S₃ ⊢
    have X₂ := X
    have T₂ := T
    refine for_S S₃ F₃ (gx.re _ _) (fun j g m us => m "row" = some (.ref l) ∧ m "ups" = some (.int u tu) ∧ m "downs" = some (.int d td) ∧ m "number" = some (.int n t) ∧ ((rangeInts 0 1 (n - 0).toNat).take j).all (fun low => bareF ns u d n low) = true)
      (fun i g g' m us k hj => hj) (fun j v s₂ g₂ m₂ us₂ hlt₂ hP₂ hg₂ F₂ gx₂ hj₂ => ?_) (fun s₂ g₂ m₂ us₂ hg₂ F₂ gx₂ hj₂ => ?_) ⟨m0, m1, m2, rfl, rfl⟩
    · obtain ⟨t', rfl⟩ := hP₂
      obtain ⟨q0, q1, q2, q3, h2⟩ := hj₂
      have X := X₂.keeps hg₂
      have T := T₂.keeps hg₂
      have hj' := take_snoc (L := rangeInts 0 1 (n - 0).toNat) (rangeInts_get hlt₂)
      clear S₃ F₃ F' F
      walk_at "w go"
      refine o_notIn (lkeeps (lkeeps (lkeeps hl hg) hg₂) F'.keep) hi ?_
      have hbf : bareF ns u d n (0 + (j : Int) * 1) = !(!(ns.contains (0 + (j : Int) * 1)) && ((n - (0 + (j : Int) * 1)).fmod u == 0 || (n - (0 + (j : Int) * 1)).fmod d == 0)) := rfl
      generalize 0 + (j : Int) * 1 = low at hbf hj' F' ⊢
      generalize hc : ns.contains low = bc at hbf ⊢
      have neg : bareF ns u d n low = false → bareP ns u d = false := fun q => by
        refine List.all_eq_false.mpr ⟨n, List.mem_of_getElem? hn, ?_⟩
        rw [Bool.not_eq_true]
        refine List.all_eq_false.mpr ⟨low, ?_, by rw [q]; decide⟩
        exact List.mem_of_mem_take (i := j + 1) (by rw [hj']; simp)
      cases bc with
      | true =>
        (try dsimp only); walk1
        (try dsimp only)
        rw [if_neg (by decide)]
        walk_at "w go"
        refine ⟨_, _, _, fun _ _ e => e, F', gx₂.re _ _, q0, q1, q2, q3, ?_⟩
        rw [hj', List.all_append, h2, List.all_cons, hbf]
        rfl
      | false =>
        (try dsimp only); walk1
        (try dsimp only)
        rw [if_pos (by decide)]
        walk_at "w go"
        · rename (n - low).fmod u = 0 => e1
          rw [← neg (by rw [hbf, e1]; rfl)]
          exact h _ ((gx₂.re _ _).ext fun b o e => F'.keep b o (hg₂ b o (hg b o e)))
        · rename (n - low).fmod d = 0 => e1
          rw [← neg (by rw [hbf, e1]; simp)]
          exact h _ ((gx₂.re _ _).ext fun b o e => F'.keep b o (hg₂ b o (hg b o e)))
        · rename (n - low).fmod d ≠ 0 => e1
          rename (n - low).fmod u ≠ 0 => e2
          refine ⟨_, _, _, fun _ _ e => e, F', gx₂.re _ _, q0, q1, q2, q3, ?_⟩
          rw [hj', List.all_append, h2, List.all_cons, hbf, beq_eq_false_iff_ne.mpr e1, beq_eq_false_iff_ne.mpr e2]
          rfl
    · obtain ⟨q0, q1, q2, q3, h2⟩ := hj₂
      rw [List.take_of_length_le (Nat.le_of_eq (rangeInts_length ..))] at h2
      have X := X₂.keeps hg₂
      have T := T₂.keeps hg₂
      walk_at "w go"
      refine ⟨_, _, _, hg₂, F₂, gx₂, q0, q1, q2, ?_⟩
      rw [take_snoc hn]
      unfold bareW at h1 ⊢
      rw [List.all_append, h1, List.all_cons, h2]
      rfl
  · obtain ⟨m0, m1, m2, h1⟩ := hj
    rw [List.size_toArray, hi.length, List.take_length] at h1
    have X := X.keeps hg
    have T := T.keeps hg
    walk_at "w go"
    rw [show true = bareP ns u d from h1.symm]
    exact h _ (gx.ext fun b o e => F.keep b o (hg b o e))
end PartP9
end StopA
section StopB
local macro_rules | `(tactic| walk_at "w s2") => `(tactic| with_reducible first | refine at_if ?_ | refine at_list ?_)
section PartP10
noncomputable def rowSizes (w : Str) (u d : Int) : List Int := w.cps.toList.map fun c => if c = 117 then d else -u
noncomputable def rowSz (w : Str) (u d d3 : Int) : List Int := if d3 = 2 then (rowSizes w u d).take ((Txt.rstripChars w ("d" : Str)).length + 1) else rowSizes w u d
noncomputable def rowWd (w : Str) (d3 : Int) : Str := if d3 = 2 then w else w ++ ("dd" : Str)
noncomputable def tailP (d3 : Int) : List Int := if d3 = 0 then [] else if d3 = 1 then [127, 2] else [0, 4]
noncomputable def rowV (w : Str) (u d d3 : Int) : List Int := giP ((rowWd w d3).cps.size + 1) (rowSz w u d d3 ++ tailP d3) none
noncomputable def insAll (d : Int) (row : List Int) (a : Int) : List Int := (rangeInts a (-d) (if 0 < a then ((a - 1) / d + 1).toNat else 0)).foldl insP row
noncomputable def rowGo (d : Int) : List Nat → List Int → List Int → Int → List Int × Int
  | c :: cs, v :: vs, row, h => rowGo d cs vs (if c = 100 then insAll d row (h + v - d) else row) (h + v)
  | _, _, row, h => (row, h)
theorem rowGo_cons {d c : Int} {a : Nat} {cs : List Nat} {v : Int} {vs row : List Int} : rowGo d (a :: cs) (v :: vs) row c = rowGo d cs vs (if a = 100 then insAll d row (c + v - d) else row) (c + v) := rfl
noncomputable def rowP (w : Str) (u d d3 : Int) : List Int :=
  let r := rowGo d (rowWd w d3).cps.toList (rowV w u d d3) [] 0
  if r.2 = 0 then r.1 else [r.2]
theorem gi_long (N : Nat) : ∀ (ns : List Int) (last : Option Int), (last = none → ns.head? ≠ some 0) → giFin ns = true ∨ N ≤ (giP N ns last).length
  | [], _, _ => .inl rfl
  | x :: r, last, h => by
    rw [giFin_cons, giP_cons]
    by_cases h1 : x = 127
    · rw [if_pos h1]; exact .inl rfl
    · rw [if_neg h1, if_neg h1]
      by_cases h2 : x = 0
      · rw [if_pos h2, if_pos h2]
        cases last with
        | none => exact absurd (by rw [h2]; rfl) (h rfl)
        | some v => exact .inr (by rw [List.length_replicate]; exact Nat.le_refl _)
      · rw [if_neg h2, if_neg h2, List.length_cons]
        rcases gi_long N r (some x) (fun q => nomatch q) with q | q
        · exact .inl q
        · exact .inr (Nat.le_succ_of_le q)
theorem gi_mem (N : Nat) : ∀ (ns : List Int) (last : Option Int) (v : Int), v ∈ giP N ns last → v ∈ ns ∨ last = some v
  | [], _, v, h => by cases h
  | x :: r, last, v, h => by
    rw [giP_cons] at h
    by_cases h1 : x = 127
    · rw [if_pos h1] at h; cases h
    · rw [if_neg h1] at h
      by_cases h2 : x = 0
      · rw [if_pos h2] at h
        cases last with
        | none => cases h
        | some u => exact .inr (by rw [List.eq_of_mem_replicate h])
      · rw [if_neg h2] at h
        rcases List.mem_cons.mp h with rfl | h
        · exact .inl (.head _)
        · rcases gi_mem N r (some x) v h with q | q
          · exact .inl (.tail _ q)
          · cases q; exact .inl (.head _)
theorem rowSz_mem {w : Str} {u d d3 v : Int} (h : v ∈ rowSz w u d d3) : v = d ∨ v = -u := by
  have : ∀ v ∈ rowSizes w u d, v = d ∨ v = -u := fun v h => by
    obtain ⟨c, _, rfl⟩ := List.mem_map.mp h
    split
    · exact .inl rfl
    · exact .inr rfl
  rw [rowSz] at h
  split at h
  · exact this v (List.mem_of_mem_take h)
  · exact this v h
theorem tail_mem {d3 v : Int} (h : v ∈ tailP d3) : v = 127 ∨ v = 2 ∨ v = 0 ∨ v = 4 := by
  rw [tailP] at h
  split at h
  · cases h
  · split at h
    · simp at h; lia
    · simp at h; lia
theorem row_head {w : Str} {u d d3 : Int} (hw : 0 < w.cps.size) (hu : 0 < u) (hd : 0 < d) : (rowSz w u d d3 ++ tailP d3).head? ≠ some 0 := by
  have hne : rowSz w u d d3 ≠ [] := by
    have h1 : (rowSizes w u d).length = w.cps.size := by simp [rowSizes]
    rw [rowSz]
    split
    · intro q
      have := congrArg List.length q
      rw [List.length_take, h1, List.length_nil] at this
      lia
    · intro q
      have := congrArg List.length q
      rw [h1, List.length_nil] at this
      lia
  cases q : rowSz w u d d3 with
  | nil => exact absurd q hne
  | cons v r =>
    rw [List.cons_append, List.head?_cons]
    intro e
    cases e
    rcases rowSz_mem (show (0 : Int) ∈ rowSz w u d d3 by rw [q]; exact .head _) with h | h <;> lia
theorem rowV_bound {w : Str} {u d d3 v : Int} (hu : 0 < u) (hu1 : u < 10) (hd : 0 < d) (hd1 : d < 10) (h : v ∈ rowV w u d d3) : -127 ≤ v ∧ v ≤ 127 := by
  rcases gi_mem _ _ _ _ h with h | h
  · rcases List.mem_append.mp h with h | h
    · rcases rowSz_mem h with h | h <;> lia
    · rcases tail_mem h with h | h | h | h <;> lia
  · cases h
theorem mkZA {n a C : Nat} (h1 : C < a) (h2 : a < n) : ZA (n + 3) (n + 1) (n + 2) n a C :=
  ⟨Nat.ne_of_lt (by lia), Nat.ne_of_lt (by lia), Nat.ne_of_lt (by lia), Nat.ne_of_lt (by lia), Nat.ne_of_gt (by lia), Nat.ne_of_gt (by lia), Nat.ne_of_gt (by lia), Nat.ne_of_gt (by lia), Nat.ne_of_gt (by lia), Nat.ne_of_gt (by lia), Nat.ne_of_lt (by lia), Nat.ne_of_lt (by lia), Nat.ne_of_lt (by lia), Nat.ne_of_gt h1⟩
theorem one_d {c : Nat} : (⟨#[c]⟩ : Str) = ("d" : Str) ↔ c = 100 := ⟨fun h => by
  have e : (#[c] : Array Nat) = #[100] := congrArg Str.cps h
  simpa using e, fun h => by subst h; rfl⟩
theorem insP_length (ns : List Int) (x : Int) : (insP ns x).length = ns.length + 1 := by
  unfold insP
  rw [List.length_append, List.length_cons, List.length_take, List.length_drop]
  lia
theorem foldl_insP_length : ∀ (l ns : List Int), (l.foldl insP ns).length = ns.length + l.length
  | [], _ => rfl
  | x :: l, ns => by rw [List.foldl_cons, foldl_insP_length l, insP_length, List.length_cons]; lia
set_option maxHeartbeats 4000000 in
theorem row_call {p : Program} {w : World} {A : Around} {loose : List Str} {mean : ExcName → Option Value} {mg mb : Str → Option Value} {x : Str} {u d dr : Int} {tx tu td tr : Tok} {s : Shared} {R : Result → Shared → Prop}
   (X : (hd.heap_39 w.params).In s.heap) (T : Top p loose mean mg mb s.heap) (hh : A.handled = none) (hd : A.depth + (20 + 1) < recursionLimit) (hu : A.units + (100 + 3) < cLine)
   (hx0 : 0 < x.cps.size) (hx : x.cps.size ≤ 60) (hu0 : 0 < u) (hu1 : u < 10) (hd0 : 0 < d) (hd1 : d < 10)
   (h : ∀ s' a us, Ext s s' → s.heap.get? a = none → s'.heap.PlainList a us → IntsAre us.toList (rowP x u d (dr.fmod 3)) → R (.ok (.ret (.ref a))) s') :
   codeAny (model PW w) A (.call (.ref 93) ⟨[.str x tx, .int u tu, .int d td, .int dr tr], []⟩) R s := by
  refine enterOC X T.nolimit hh hd hu (by k_is) (by k_is) (binds := [("word", .str x tx), ("ups", .int u tu), ("downs", .int d td), ("draw", .int dr tr)]) (by rfl) (by rfl) (fun n x hx => by (have hx' : x ∈ [(("downs" : Str), n + 1), (("ups" : Str), n)] := hx); (rcases List.mem_cons.mp hx' with rfl | hx'; · rfl); (rcases List.mem_cons.mp hx' with rfl | hx'; · rfl); cases hx') ?_
  clear hh hd hu
  intro h₁ A' tk hh hd hu F
  replace F : Fo s.heap s.heap.objs.size [("downs", s.heap.objs.size + 1 + 1), ("ups", s.heap.objs.size + 1)] none h₁ _ #[] := F
  have X₀ := X
  have T₀ := T
  walk_at "w go"
  refine compA_eval (by rfl) (by rfl) ?_
  walk_at "w go"
  refine src_str F hh fun I h₂ F₂ k₂ S => ?_
  dsimp only at F₂ S ⊢
  refine comp_A S F₂ (Gx.refl s |>.re _ _) (Nat.le_trans hx (by decide)) (fun j g us => IntsAre us.toList ((rowSizes x u d).take j)) (fun _ _ _ _ k h => h) 
    (fun C D j v s₂ g₂ m₂ us₂ hlt hP hm' hg₂ hcells hown F₂ gx₂ hj₂ hus₂ => ?_) (fun s₂ g₂ us₂ D hg₂ F₂ gx₂ hp₂ hz₂ hj₂ hD₂ => ?_) .nil
  · obtain ⟨c, t, hc, rfl⟩ := hP
    have X := X.keeps hg₂
    have T := T.keeps hg₂
    have hc1 : Cap "downs" g₂ (s.heap.objs.size + 1 + 1) (some (.int d td)) := ⟨hcells _ (.head _)⟩
    have hc2 : Cap "ups" g₂ (s.heap.objs.size + 1) (some (.int u tu)) := ⟨hcells _ (.tail _ (.head _))⟩
    clear S
    refine tests_nil ?_
    rw [if_pos rfl]
    walk_at "w go"
    · rename (_ == _) = true => q
      refine ⟨_, _, fun _ _ e => e, F₂, gx₂.re _ _, ?_⟩
      rw [take_snoc (L := rowSizes x u d) (x := d) (by rw [rowSizes, List.getElem?_map, Array.getElem?_toList, hc, Option.map_some, if_pos (one_u.mp (beq_iff_eq.mp q))])]
      exact ints_push hj₂
    · rename (_ == _) = false => q
      refine ⟨_, _, fun _ _ e => e, F₂, gx₂.re _ _, ?_⟩
      rw [take_snoc (L := rowSizes x u d) (x := -u) (by rw [rowSizes, List.getElem?_map, Array.getElem?_toList, hc, Option.map_some, if_neg (fun e => beq_eq_false_iff_ne.mp q (one_u.mpr e))])]
      exact ints_push hj₂
  · have X := X.keeps hg₂
    have T := T.keeps hg₂
    rw [show x.cps.size = (rowSizes x u d).length by simp [rowSizes], List.take_length] at hj₂
    have hxl : x.length ≤ 60 := hx
    have hszl : (rowSizes x u d).length = x.cps.size := by simp [rowSizes]
    have hus : us₂.size = x.cps.size := by rw [← Array.length_toList, hj₂.length, hszl]
    walk_at "w go"
    refine wpAny_mono (Q := fun f s' => f = .next ∧ ∃ g' h' tk' m' l vs tw, s' = { s₂ with heap := h', toks := tk' } ∧ (∀ b o, g₂.get? b = some o → g'.get? b = some o) ∧ Fo g' s.heap.objs.size [("downs", s.heap.objs.size + 1 + 1), ("ups", s.heap.objs.size + 1)] none h' m' #[] ∧
      m' "sizes" = some (.ref l) ∧ g'.PlainList l vs ∧ IntsAre vs.toList (rowSz x u d (dr.fmod 3)) ∧ m' "word" = some (.str (rowWd x (dr.fmod 3)) tw) ∧ m' "ups" = some (.int u tu) ∧ m' "downs" = some (.int d td) ∧ m' "draw" = some (.int dr tr)) (E := Fls) ?_ (fun f s' hf => ?_) (fun _ _ e => e)
    · (try dsimp only); walk1
      walk_at "w go"
      · rename dr.fmod 3 = 2 => e2
        walk1
        walk_at "w go"
        walk1
        walk_at "w go"
        refine o_slice F₂ (lkeeps hp₂.isList F₂.keep) .none (.int _ _) .none (by simp) (by rw [hus]; exact Nat.le_trans hx (by decide)) fun c h₅ g₅ F₅ G₅ P₅ K₅ N₅ => ?_
        replace X := X.keeps G₅
        replace T := T.keeps G₅
        clear F₂
        dsimp only at F₅ ⊢
        walk_at "w go"
        · rfl
        rw [show rowSz x u d (dr.fmod 3) = (rowSizes x u d).take ((Txt.rstripChars x ("d" : Str)).length + 1) by rw [rowSz, if_pos e2], show rowWd x (dr.fmod 3) = x by rw [rowWd, if_pos e2]]
        exact ⟨_, _, _, _, _, _, _, rfl, G₅, F', rfl, P₅, slice_ints_uptoW hj₂ (y := ((Txt.rstripChars x ("d" : Str)).length : Int) + 1) (by lia), rfl, rfl, rfl, rfl⟩
      · rfl
      · rename dr.fmod 3 ≠ 2 => e2
        rw [show rowSz x u d (dr.fmod 3) = rowSizes x u d by rw [rowSz, if_neg e2], show rowWd x (dr.fmod 3) = x ++ ("dd" : Str) by rw [rowWd, if_neg e2]]
        exact ⟨_, _, _, _, _, _, _, rfl, fun _ _ e => e, F', rfl, hp₂, hj₂, rfl, rfl, rfl, rfl⟩
    · obtain ⟨rfl, g₆, h₆, tk₆, m₆, l, vs, tw, rfl, G₆, F₆, m1, P₆, hi₆, m2, m3, m4, m5⟩ := hf
      have gx₆ : Gx s { s₂ with heap := h₆, toks := tk₆ } := gx₂.re h₆ tk₆
      replace X := X.keeps G₆
      replace T := T.keeps G₆
      replace hD₂ := none_back (fun b o e => F₂.keep _ _ (hg₂ _ _ e)) (size_none s₂.heap)
      clear F₂ hj₂ hp₂ S F
      have X₆ := X
      have T₆ := T
      have K6 := F₆.keep
      walk_at "w go"
      refine no_list F₆ ?_
      clear F₆
      intro ra h₇ g₇ tk₇ F₇ G₇ P₇ K₇ N₇
      dsimp only at F₇ P₇ K₇ N₇ ⊢
      replace X := X₆.keeps G₇
      replace T := T₆.keeps G₇
      walk_at "w go"
      refine o_unpackItems F' hh (let ⟨o, ho, r⟩ := IT'; ⟨o, F'.keep _ _ ho, r⟩) (by with_unfolding_all rfl) fun h₈ F₈ K₈ => ?_
      clear F'
      walk_at "w go"
      have F₉ := F'.own (fun b o e => kg' b o (G₇ b o e)) (pkeeps P₇ kg') (none_back K6 N₇)
      have nra : s.heap.get? ra = none := none_back (fun b o e => K6 b o (G₆ b o (hg₂ b o e))) N₇
      replace X := X₆
      replace T := T₆
      clear F' F₈ F₇ kg' IT' K' K₈ P₇ G₇ K₇ N₇ K6
      refine for_exec ?_
      walk_at "w go"
      refine list_ ?_
      refine spl_list ?_
      with_reducible refine no_list (by with_reducible exact F₉) ?_
      clear F₉
      intro c1 h1 g1 tk1 F G1 P1 K1 N1
      dsimp only at F P1 K1 N1 ⊢
      with_reducible refine spl_list ?_
      with_reducible refine two_list (by with_reducible exact F) ?_
      clear F
      intro c2 h2 g2 tk2 a2 b2 F G2 P2 K2 N2
      dsimp only at F P2 K2 N2 ⊢
      with_reducible refine spl_list ?_
      with_reducible refine two_list (by with_reducible exact F) ?_
      clear F
      intro c3 h3 g3 tk3 a3 b3 F G3 P3 K3 N3
      dsimp only at F P3 K3 N3 ⊢
      refine spliced_none ?_
      refine o_newList F fun h4 g4 F G4 P4 K4 => ?_
      dsimp only at F P4 ⊢
      replace X := X.keeps fun b o e => G4 b o (G3 b o (G2 b o (G1 b o e)))
      replace T := T.keeps fun b o e => G4 b o (G3 b o (G2 b o (G1 b o e)))
      walk_at "w go"
      have b0 : 0 ≤ dr.fmod 3 := Int.fmod_nonneg_of_pos _ (by decide)
      have b1 : dr.fmod 3 < 3 := Int.fmod_lt_of_pos _ (by decide)
      obtain ⟨cc, ws, hcx, hcp, hci⟩ : ∃ cc ws, (#[Value.ref c1, Value.ref c2, Value.ref c3] : Array Value)[(dr.fmod 3).toNat]? = some (.ref cc) ∧ g4.PlainList cc ws ∧ IntsAre ws.toList (tailP (dr.fmod 3)) := by
        generalize dr.fmod 3 = d3 at b0 b1
        have hd3 : d3 = 0 ∨ d3 = 1 ∨ d3 = 2 := by lia
        rcases hd3 with rfl | rfl | rfl
        · exact ⟨c1, _, rfl, pkeeps P1 (fun b o e => G4 b o (G3 b o (G2 b o e))), .nil⟩
        · exact ⟨c2, _, rfl, pkeeps P2 (fun b o e => G4 b o (G3 b o e)), .cons _ _ (.cons _ _ .nil)⟩
        · exact ⟨c3, _, rfl, pkeeps P3 G4, .cons _ _ (.cons _ _ .nil)⟩
      refine o_item (pkeeps P4 F.keep).isList b0 (by lia) hcx ?_
      have P₆' : g4.PlainList l vs := pkeeps P₆ fun b o e => G4 b o (G3 b o (G2 b o (G1 b o e)))
      have Kg : ∀ b o, s.heap.get? b = some o → g4.get? b = some o := fun b o e => G4 b o (G3 b o (G2 b o (G1 b o (G₆ b o (hg₂ b o e)))))
      clear G1 G2 G3 G4 P1 P2 P3 P4 K1 K2 K3 K4 N1 N2 N3 X₆ T₆ P₆
      have hszw : (rowSz x u d (dr.fmod 3)).length ≤ 60 := by
        rw [rowSz]
        split
        · rw [List.length_take]; lia
        · lia
      have htl : (tailP (dr.fmod 3)).length ≤ 2 := by
        rw [tailP]
        split
        · decide
        · split <;> decide
      refine o_add (vs := vs.toList) (ws := ws.toList) F (by simpa using (pkeeps P₆' F.keep).isList) (by simpa using (pkeeps hcp F.keep).isList) (fun h5 g5 F5 G5 P5 K5 _ _ => ?_) (by rw [hi₆.length, hci.length]; exact Nat.le_trans (Nat.add_le_add hszw htl) (by decide))
      have hi5 := hi₆.append hci
      replace X := X.keeps G5
      replace T := T.keeps G5
      dsimp only at F5 P5 ⊢
      clear F
      walk_at "w go"
      refine wpAny_call ?_
      generalize hl5 : h4.objs.size = l5 at P5
      refine iv_call X T (by exact F5.keep) (by lia) P5.isList hi5 (row_head hx0 hu0 hd0) ((rowWd x (dr.fmod 3)).cps.size + 1) fun C a gs h₆ tk₆ hC ha hne k₆ hb G => ?_
      have G' := G A'.in1 (by exact hh) (by simp only [Around.in1]; lia) (by simp only [Around.in1]; lia)
      clear G
      dsimp only at hC ha k₆ G' F5 ⊢
      have F6 := F5.keeps k₆
      have hBK : ∀ b o, g5.get? b = some o → b < h5.objs.size := fun b o e => Heap.lt_size (F5.keep _ _ e)
      have hownK : ∀ b, Own s.heap.objs.size [("downs", s.heap.objs.size + 1 + 1), ("ups", s.heap.objs.size + 1)] (some ra) b → b < h5.objs.size := fun b q => F5.lt q
      have hah : a < h₆.objs.size := by obtain ⟨o, nm, qn, ho, _⟩ := G'.gen; exact Heap.lt_size ho
      have gx5 : Gx s { s₂ with heap := h₆, gens := s₂.gens.push gs, toks := tk₆ } := gx₂.trans ⟨fun i y e => by
        show (s₂.gens.push gs)[i]? = some y
        rw [Array.getElem?_push, if_neg (Nat.ne_of_lt (Array.getElem?_eq_some_iff.mp e).1)]; exact e, fun hB y hy => by
        rcases Array.mem_push.mp hy with h | rfl
        · exact hB y h
        · exact hb, rfl⟩
      clear F5
      walk_at "w go"
      refine call_zip_sg (gi := s₂.gens.size) G'.gen fun h₇ hz hTI hTO hi1 hsz k₇ => ?_
      have F7 := F6.keeps k₇
      dsimp only at hz hTI hTO hi1 hsz k₇ F7 ⊢
      clear F6
      walk_at "w go"
      refine wpAny_pyIter_zip hz ?_
      have hVlen := gi_long ((rowWd x (dr.fmod 3)).cps.size + 1) (rowSz x u d (dr.fmod 3) ++ tailP (dr.fmod 3)) none (fun _ => row_head hx0 hu0 hd0)
      have hwl : (rowWd x (dr.fmod 3)).cps.size ≤ 62 := by
        rw [rowWd]
        split
        · lia
        · show (x.cps ++ ("dd" : Str).cps).size ≤ 62
          rw [Array.size_append]
          have : ("dd" : Str).cps.size = 2 := rfl
          lia
      have hVb : ∀ v ∈ rowV x u d (dr.fmod 3), -127 ≤ v ∧ v ≤ 127 := fun v hv => rowV_bound hu0 hu1 hd0 hd1 hv
      have hgo : rowP x u d (dr.fmod 3) = (let r := rowGo d (rowWd x (dr.fmod 3)).cps.toList (rowV x u d (dr.fmod 3)) [] 0; if r.2 = 0 then r.1 else [r.2]) := rfl
      rw [show giP ((rowWd x (dr.fmod 3)).cps.size + 1) (rowSz x u d (dr.fmod 3) ++ tailP (dr.fmod 3)) none = rowV x u d (dr.fmod 3) from rfl] at G' hVlen
      generalize rowP x u d (dr.fmod 3) = RP at hgo h
      generalize rowV x u d (dr.fmod 3) = V at G' hVlen hVb hgo
      generalize giFin (rowSz x u d (dr.fmod 3) ++ tailP (dr.fmod 3)) = fin at G' hVlen
      generalize rowWd x (dr.fmod 3) = wd at *
      have D := mkZA hne hah
      have X₅ := X
      have T₅ := T
      refine for_Z (s₀ := s) (K := h5.objs.size) F7 (gx5.re _ _) hh (by lia) T.nolimit D hz hTI hTO hi1 (G'.move (fun b o _ e => k₇ b o e) (fun o e => k₇ _ _ e) (fun _ e => e)) ?_ (hVlen.symm.imp (fun q => by lia) id) (fun _ _ e => e) hBK hownK (by lia) (by lia) (by lia) (by lia) (by lia) (by lia)
        (fun i m us => ∃ ns hgt t, m "row" = some (.ref ra) ∧ m "height" = some (.int hgt t) ∧ m "downs" = some (.int d td) ∧ IntsAre us.toList ns ∧ -127 * (i : Int) ≤ hgt ∧ hgt ≤ 127 * (i : Int) ∧ ns.length ≤ 9000 * i ∧ rowGo d (wd.cps.toList.drop i) (V.drop i) ns hgt = rowGo d wd.cps.toList V [] 0)
        (fun i c t t2 n s₁ g₁ m us hc hv hBg gx hj F => ?_) (fun s₁ g₁ m us i he hi1 hi2 hBg F gx hj => ?_) ⟨[], 0, _, rfl, rfl, m4, .nil, by lia, by lia, by simp, rfl⟩
      · exact gx₂.size
      · obtain ⟨ns, hgt, t5, r1, r2, r3, r4, r5, r6, r7, r8⟩ := hj
        have X := X₅.keeps hBg
        have T := T₅.keeps hBg
        clear F7 G' hz hTI hTO hi1
        have hVi := hVb n (List.mem_of_getElem? hv)
        have hil : i < wd.cps.size := (Array.getElem?_eq_some_iff.mp hc).1
        have hstep : rowGo d (wd.cps.toList.drop (i + 1)) (V.drop (i + 1)) (if c = 100 then insAll d ns (hgt + n - d) else ns) (hgt + n) = rowGo d wd.cps.toList V [] 0 := by
          rw [← r8]
          have e1 : wd.cps.toList.drop i = c :: wd.cps.toList.drop (i + 1) := by
            obtain ⟨h1, h2⟩ := Array.getElem?_eq_some_iff.mp hc
            rw [List.drop_eq_getElem_cons (by simpa using h1)]
            simp [h2]
          have e2 : V.drop i = n :: V.drop (i + 1) := by
            obtain ⟨h1, h2⟩ := List.getElem?_eq_some_iff.mp hv
            rw [List.drop_eq_getElem_cons h1, h2]
          rw [e1, e2, rowGo_cons]
        walk_at "w go"
        (try dsimp only); walk1
        walk_at "w go"
        · rename (_ == _) = true => q
          have hc100 : c = 100 := one_d.mp (beq_iff_eq.mp q)
          rw [if_pos hc100] at hstep
          refine for_exec ?_
          walk_at "w go"
          refine src_range3 F' hh (by lia) (by lia) hd0 (by lia) (Or.inl (PyProof.noPylong_small (by lia))) fun I₂ h₈ tk₈ F₈ k₈ S₈ => ?_
          have X₆ := X
          have T₆ := T
          have hcnt : (if 0 < hgt + n - d then ((hgt + n - d - 1) / d + 1).toNat else 0) ≤ 8500 := by
            split
            · rename_i hpos
              have h1 : (hgt + n - d - 1) / d ≤ hgt + n - d - 1 := Int.ediv_le_self _ (by lia)
              lia
            · lia
          have hstep2 : insAll d ns (hgt + n - d) = (rangeInts (hgt + n - d) (-d) (if 0 < hgt + n - d then ((hgt + n - d - 1) / d + 1).toNat else 0)).foldl insP ns := rfl
          generalize (if 0 < hgt + n - d then ((hgt + n - d - 1) / d + 1).toNat else 0) = cnt at hcnt S₈ hstep2
          refine for_S (s₀ := s₁) S₈ F₈ (Gx.re (Gx.refl s₁) _ _) (fun j g m us => m "row" = some (.ref ra) ∧ (∃ t, m "height" = some (.int (hgt + n) t)) ∧ m "downs" = some (.int d td) ∧ IntsAre us.toList (((rangeInts (hgt + n - d) (-d) cnt).take j).foldl insP ns))
            (fun i g g' m us k hj => hj) (fun j v s₂ g₂ m₂ us₂ hlt₂ hP₂ hg₂ F₂ gx₂ hj₂ => ?_) (fun s₂ g₂ m₂ us₂ hg₂ F₂ gx₂ hj₂ => ?_) ⟨r1, ⟨_, rfl⟩, r3, r4⟩
          · obtain ⟨t', rfl⟩ := hP₂
            obtain ⟨q1, ⟨q2, q3⟩, q4, q5⟩ := hj₂
            have X := X₆.keeps hg₂
            have T := T₆.keeps hg₂
            have hlen5 : (((rangeInts (hgt + n - d) (-d) cnt).take j).foldl insP ns).length < 2 ^ 20 := by
              rw [foldl_insP_length, List.length_take, rangeInts_length]
              have : 9000 * i ≤ 9000 * 62 := Nat.mul_le_mul_left _ (by lia)
              lia
            clear S₈ F₈ F' F
            walk_at "w go"
            refine wpAny_call ?_
            refine insort_call (vs := us₂.toList) (X.keeps F'.keep) (T.keeps F'.keep) hh (dn hd (by decide)) (dn hu (by decide)) (by simpa using (F'.lst ra rfl).1) q5 hlen5 fun h₉ tk₉ vs₉ hp₉ hi₉ k₉ => ?_
            have F₉ := F'.wrote hp₉ k₉
            dsimp only at F₉ ⊢
            walk_at "w go"
            refine ⟨_, _, _, fun _ _ e => e, F₉, gx₂.re _ _, q1, ⟨q2, q3⟩, q4, ?_⟩
            rw [take_snoc (rangeInts_get hlt₂), List.foldl_append]
            exact hi₉
          · obtain ⟨q1, ⟨q2, q3⟩, q4, q5⟩ := hj₂
            rw [List.take_of_length_le (Nat.le_of_eq (rangeInts_length ..)), ← hstep2] at q5
            have X := X₆.keeps hg₂
            have T := T₆.keeps hg₂
            have hl9 : (insAll d ns (hgt + n - d)).length ≤ 9000 * (i + 1) := by
              rw [hstep2, foldl_insP_length, rangeInts_length]
              lia
            walk_at "w go"
            exact ⟨_, _, _, hg₂, F₂, gx₂, _, _, _, q1, q3, q4, q5, by lia, by lia, hl9, hstep⟩
        · rename (_ == _) = false => q
          have hc100 : ¬ c = 100 := fun e => beq_eq_false_iff_ne.mp q (one_d.mpr e)
          rw [if_neg hc100] at hstep
          exact ⟨_, _, _, fun _ _ e => e, F', Gx.re (Gx.refl s₁) _ _, _, _, _, r1, rfl, r3, r4, by lia, by lia, by lia, hstep⟩
      · obtain ⟨ns, hgt, t5, r1, r2, r3, r4, r5, r6, r7, r8⟩ := hj
        have X := X₅.keeps hBg
        have T := T₅.keeps hBg
        clear F7 G' hz hTI hTO
        have hfin : rowGo d (wd.cps.toList.drop i) (V.drop i) ns hgt = (ns, hgt) := by
          rcases he with rfl | rfl
          · rw [List.drop_eq_nil_of_le (by simp)]
            rfl
          · rw [List.drop_eq_nil_of_le (Nat.le_refl V.length)]
            cases wd.cps.toList.drop V.length <;> rfl
        rw [hfin] at r8
        rw [← r8] at hgo
        have ext : ∀ h tk, (∀ b o, s₁.heap.get? b = some o → h.get? b = some o) → Ext s { s₁ with heap := h, toks := tk } := fun h tk k => (gx.re _ _).ext fun b o e => k b o (F.keep _ _ (hBg _ _ (G5 _ _ (Kg _ _ e))))
        walk_at "w go"
        · rename hgt = 0 => q
          refine h _ ra us (ext _ _ fun _ _ e => e) nra (F.lst ra rfl).1 ?_
          rw [hgo]
          dsimp only
          rw [if_pos q]
          exact r4
        · rename hgt ≠ 0 => q
          refine list_ ?_
          walk_at "w go"
          refine h _ _ _ (ext _ _ K') (none_back (fun b o e => F.keep _ _ (hBg _ _ (G5 _ _ (Kg _ _ e)))) (size_none _)) (pkeeps IL' F'.keep) ?_
          rw [hgo]
          dsimp only
          rw [if_neg q]
          exact .cons _ _ .nil
end PartP10
end StopB
section PartP13
noncomputable def upP (d c : Int) : Str := Txt.mul ("(" : Str) d ++ (if c = 0 then ("" : Str) else if c = 1 then ("\\)" : Str) else if c = 2 then ("\\(" : Str) else ("\\\\" : Str))
noncomputable def repP (u d c : Int) (w : Str) : Str := Txt.replace (Txt.replace w ("u" : Str) (upP d c)) ("d" : Str) (Txt.mul (")" : Str) u)
noncomputable def wordOk (u d c : Int) (w : Str) : Bool :=
  decide (0 < w.cps.size) && decide (w.cps.size ≤ 60) && decide ((Txt.replace w ("u" : Str) (upP d c)).length ≤ 1000) && (Builtin.Str.occurrences (repP u d c w) ("\"") 0 (repP u d c w).length 1).isEmpty && (chkP (escP (repP u d c w).cps.toList false) 0 == staysP u d w.cps.toList 0)
noncomputable def lawA (a c : Int) : Bool := (wordsP 9 (pairP a).1 (pairP a).2).all (wordOk (pairP a).1 (pairP a).2 c)
noncomputable def rowsL (u d b : Int) : List (List Int) := ((wordsP 9 u d).filter fun w => staysP u d w.cps.toList 0).map fun w => rowP w u d b
noncomputable def bareL (u d : Int) : List (List Int) := (rowsP (u * d - u - d).toNat).filter fun r => bareP r u d
noncomputable def rowOk (r : List Int) : Bool := decide (r.length ≤ 100) && r.all fun n => decide (0 ≤ n) && decide (n ≤ 100)
noncomputable def sameP (os ss : List (List Int)) : List (List Int) := ((os.zip ss).filter fun p => p.1 == p.2).map (·.1)
noncomputable def lawB' (u d : Int) (rows : List (List Int)) : Bool :=
  let outl := rows.map linesP
  let boxes := outl.map List.sum
  let sides := outl.map sideP
  decide (2 ≤ rows.length) && decide (rows.length ≤ 5) && rows.all rowOk && ixOk rows && (sortP rows == sortP (bareL u d)) &&
  ((rows.map hooksP).map (fun h => (h.length : Int)) == boxes) && ((rows.map hooksP).all fun h => h.all fun k => (k.fmod u != 0 && k.fmod d != 0) && decide (h.length ≤ 1000)) &&
  (24 * boxes.sum == boxes.length * (u - 1) * (d - 1) * (u + d + 1)) && (24 * maxP boxes == (u * u - 1) * (d * d - 1)) && (boxes.count (maxP boxes) == 1) &&
  outl.all rowOk && ixOk outl && ixOk sides && (sortP sides == sortP outl) && ((sameP outl sides).length == pickP (u.fdiv 2) (d.fdiv 2) (u.fdiv 2).toNat)
noncomputable def lawC (u d : Int) : Bool := (rowsP (u * d - u - d).toNat).all rowOk && decide (2 ≤ (bareL u d).length) && decide ((bareL u d).length ≤ 5) && ixOk (bareL u d)
noncomputable def lawB (a b : Int) : Bool := lawB' (pairP a).1 (pairP a).2 (rowsL (pairP a).1 (pairP a).2 b)
theorem lawC_all : ∀ a ∈ [(0 : Int), 1, 2, 3, 4, 5, 6], lawC (pairP a).1 (pairP a).2 = true := by decide +kernel
end PartP13
section PartP13L
open PySem PySem.W PySem.Calls PyProof.Rows PySem.StrLaws
theorem flat_free (c : Nat) (zl : List Nat) : ∀ l : List Nat, c ∉ l → l.flatMap (fun k => if k = c then zl else [k]) = l
  | [], _ => rfl
  | k :: r, h => by
    have hk : ¬ k = c := fun e => by subst e; exact h (List.mem_cons_self ..)
    rw [List.flatMap_cons, if_neg hk, flat_free c zl r fun m => h (List.mem_cons_of_mem _ m)]
    rfl
theorem rep_join (c : Nat) (z : Str) : ∀ parts : List Str, (∀ p ∈ parts, c ∉ p.cps.toList) → (Str.join z parts).cps.toList = (Str.join ⟨#[c]⟩ parts).cps.toList.flatMap (fun k => if k = c then z.cps.toList else [k])
  | [], _ => rfl
  | [p], h => (flat_free c _ _ (h p (List.mem_singleton.mpr rfl))).symm
  | p :: q :: r, h => by
    have ih := rep_join c z (q :: r) fun a ha => h a (List.mem_cons_of_mem _ ha)
    show (p ++ z ++ Str.join z (q :: r)).cps.toList = (p ++ ⟨#[c]⟩ ++ Str.join ⟨#[c]⟩ (q :: r)).cps.toList.flatMap _
    simp only [Str.cps_append, Array.toList_append, List.flatMap_append]
    rw [ih, flat_free c _ _ (h p (List.mem_cons_self ..))]
    simp
theorem repl_list (x z : Str) (c : Nat) : (Txt.replace x ⟨#[c]⟩ z).cps.toList = x.cps.toList.flatMap (fun k => if k = c then z.cps.toList else [k]) := by
  rw [replace_one, rep_join c z _ (split_free x c), join_split]
theorem no_quote {x : Str} {c : Nat} (h : c ∉ x.cps.toList) : (Builtin.Str.occurrences x ⟨#[c]⟩ 0 x.length 1).isEmpty = true := by
  obtain ⟨f, hc⟩ := occ_chain x ⟨#[c]⟩ 1
  cases ho : Builtin.Str.occurrences x ⟨#[c]⟩ 0 x.length 1 with
  | nil => rfl
  | cons i r =>
    rw [ho] at hc
    exact absurd (List.mem_of_getElem? ((subAt_one x c i).mp hc.2.1)) h
noncomputable def chkL : List Nat → Bool → Int → Bool
  | [], _, o => decide (o = 0)
  | _ :: cs, true, o => chkL cs false o
  | c :: cs, false, o => if c = 92 then chkL cs true o else if c = 40 then chkL cs false (o + 1) else if c = 41 then (if o - 1 < 0 then false else chkL cs false (o - 1)) else chkL cs false o
theorem chkL_cf {c : Nat} {cs : List Nat} {o : Int} : chkL (c :: cs) false o = if c = 92 then chkL cs true o else if c = 40 then chkL cs false (o + 1) else if c = 41 then (if o - 1 < 0 then false else chkL cs false (o - 1)) else chkL cs false o := rfl
theorem one_chr {a b : Nat} : (⟨#[a]⟩ : Str) = ⟨#[b]⟩ ↔ a = b := ⟨fun h => by
  have e : (#[a] : Array Nat) = #[b] := congrArg Str.cps h
  simpa using e, fun h => by subst h; rfl⟩
theorem two_chr {a b c : Nat} : ¬ (⟨#[a, c]⟩ : Str) = ⟨#[b]⟩ := fun h => by
  have e : (#[a, c] : Array Nat) = #[b] := congrArg Str.cps h
  have := congrArg Array.size e
  simp at this
theorem chk_list : ∀ (l : List Nat) (b : Bool) (o : Int), chkP (escP l b) o = chkL l b o
  | [], true, o => by
    show (if (⟨#[92]⟩ : Str) = ⟨#[40]⟩ then _ else if (⟨#[92]⟩ : Str) = ⟨#[41]⟩ then _ else _) = _
    rw [if_neg (fun h => absurd (one_chr.mp h) (by decide)), if_neg (fun h => absurd (one_chr.mp h) (by decide))]
    rfl
  | [], false, o => rfl
  | c :: cs, true, o => by
    show (if (⟨#[92, c]⟩ : Str) = ⟨#[40]⟩ then _ else if (⟨#[92, c]⟩ : Str) = ⟨#[41]⟩ then _ else _) = _
    rw [if_neg two_chr, if_neg two_chr]
    exact chk_list cs false o
  | c :: cs, false, o => by
    show chkP (if c = 92 then escP cs true else (⟨#[c]⟩ : Str) :: escP cs false) o = _
    rw [chkL_cf]
    by_cases h : c = 92
    · rw [if_pos h, if_pos h]
      exact chk_list cs true o
    · rw [if_neg h, if_neg h]
      show (if (⟨#[c]⟩ : Str) = ⟨#[40]⟩ then _ else if (⟨#[c]⟩ : Str) = ⟨#[41]⟩ then _ else _) = _
      by_cases h1 : c = 40
      · rw [if_pos (one_chr.mpr h1), if_pos h1]
        exact chk_list cs false _
      · rw [if_neg (fun e => h1 (one_chr.mp e)), if_neg h1]
        by_cases h2 : c = 41
        · rw [if_pos (one_chr.mpr h2), if_pos h2, chk_list cs false _]
        · rw [if_neg (fun e => h2 (one_chr.mp e)), if_neg h2]
          exact chk_list cs false _
noncomputable def upL (d c : Int) : List Nat := List.replicate d.toNat 40 ++ (if c = 0 then [] else if c = 1 then [92, 41] else if c = 2 then [92, 40] else [92, 92])
noncomputable def dnL (u : Int) : List Nat := List.replicate u.toNat 41
theorem up_list {d c : Int} (h1 : 2 ≤ d) (h2 : d ≤ 7) (h3 : 0 ≤ c) (h4 : c < 4) : (upP d c).cps.toList = upL d c := by
  have hd : d = 2 ∨ d = 3 ∨ d = 4 ∨ d = 5 ∨ d = 6 ∨ d = 7 := by lia
  have hc : c = 0 ∨ c = 1 ∨ c = 2 ∨ c = 3 := by lia
  rcases hd with rfl | rfl | rfl | rfl | rfl | rfl <;> rcases hc with rfl | rfl | rfl | rfl <;> decide +kernel
theorem dn_list {u : Int} (h1 : 2 ≤ u) (h2 : u ≤ 5) : (Txt.mul (")" : Str) u).cps.toList = dnL u := by
  have hu : u = 2 ∨ u = 3 ∨ u = 4 ∨ u = 5 := by lia
  rcases hu with rfl | rfl | rfl | rfl <;> decide +kernel
noncomputable def rep1L (d c : Int) (wl : List Nat) : List Nat := wl.flatMap fun k => if k = 117 then upL d c else [k]
noncomputable def rep2L (u : Int) (wl : List Nat) : List Nat := wl.flatMap fun k => if k = 100 then dnL u else [k]
noncomputable def wordOkL (u d c : Int) (wl : List Nat) : Bool :=
  decide (0 < wl.length) && decide (wl.length ≤ 60) && decide ((rep1L d c wl).length ≤ 1000) && !(rep2L u (rep1L d c wl)).contains 34 && (chkL (rep2L u (rep1L d c wl)) false 0 == staysP u d wl 0)
theorem wordOk_of {u d c : Int} {w : Str} (u1 : 2 ≤ u) (u2 : u ≤ 5) (h1 : 2 ≤ d) (h2 : d ≤ 7) (h3 : 0 ≤ c) (h4 : c < 4) (h : wordOkL u d c w.cps.toList = true) : wordOk u d c w = true := by
  have e1 : (Txt.replace w ("u" : Str) (upP d c)).cps.toList = rep1L d c w.cps.toList := by
    rw [show ("u" : Str) = ⟨#[117]⟩ from rfl, repl_list, up_list h1 h2 h3 h4]
    rfl
  have e2 : (repP u d c w).cps.toList = rep2L u (rep1L d c w.cps.toList) := by
    unfold repP
    rw [show ("d" : Str) = ⟨#[100]⟩ from rfl, repl_list, e1, dn_list u1 u2]
    rfl
  unfold wordOkL at h
  simp only [Bool.and_eq_true, decide_eq_true_eq, Bool.not_eq_true', Array.length_toList] at h
  obtain ⟨⟨⟨⟨a1, a2⟩, a3⟩, a4⟩, a5⟩ := h
  unfold wordOk
  simp only [Bool.and_eq_true, decide_eq_true_eq]
  refine ⟨⟨⟨⟨a1, a2⟩, ?_⟩, ?_⟩, ?_⟩
  · rw [← e1, Array.length_toList] at a3
    exact a3
  · rw [← e2] at a4
    exact no_quote (c := 34) (fun hm => by rw [List.contains_iff_mem.mpr hm] at a4; cases a4)
  · rw [chk_list, e2]
    exact a5
noncomputable def lawAL (a c : Int) : Bool := (wordsP 9 (pairP a).1 (pairP a).2).all fun w => wordOkL (pairP a).1 (pairP a).2 c w.cps.toList
end PartP13L
section PartP14
theorem lawA0 : lawAL 0 0 = true ∧ lawAL 0 1 = true ∧ lawAL 0 2 = true ∧ lawAL 0 3 = true := by decide +kernel
theorem lawA1 : lawAL 1 0 = true ∧ lawAL 1 1 = true ∧ lawAL 1 2 = true ∧ lawAL 1 3 = true := by decide +kernel
theorem lawA2 : lawAL 2 0 = true ∧ lawAL 2 1 = true ∧ lawAL 2 2 = true ∧ lawAL 2 3 = true := by decide +kernel
theorem lawA3 : lawAL 3 0 = true ∧ lawAL 3 1 = true ∧ lawAL 3 2 = true ∧ lawAL 3 3 = true := by decide +kernel
theorem lawA4 : lawAL 4 0 = true ∧ lawAL 4 1 = true ∧ lawAL 4 2 = true ∧ lawAL 4 3 = true := by decide +kernel
theorem lawA5 : lawAL 5 0 = true ∧ lawAL 5 1 = true ∧ lawAL 5 2 = true ∧ lawAL 5 3 = true := by decide +kernel
theorem lawA6 : lawAL 6 0 = true ∧ lawAL 6 1 = true ∧ lawAL 6 2 = true ∧ lawAL 6 3 = true := by decide +kernel
theorem lawB0 : lawB 0 0 = true ∧ lawB 0 1 = true ∧ lawB 0 2 = true := by decide +kernel
theorem lawB1 : lawB 1 0 = true ∧ lawB 1 1 = true ∧ lawB 1 2 = true := by decide +kernel
theorem lawB2 : lawB 2 0 = true ∧ lawB 2 1 = true ∧ lawB 2 2 = true := by decide +kernel
theorem lawB3 : lawB 3 0 = true ∧ lawB 3 1 = true ∧ lawB 3 2 = true := by decide +kernel
theorem lawB4 : lawB 4 0 = true ∧ lawB 4 1 = true ∧ lawB 4 2 = true := by decide +kernel
theorem lawB5 : lawB 5 0 = true ∧ lawB 5 1 = true ∧ lawB 5 2 = true := by decide +kernel
theorem lawB6 : lawB 6 0 = true ∧ lawB 6 1 = true ∧ lawB 6 2 = true := by decide +kernel
theorem law_AL {a c : Int} (h0 : 0 ≤ a) (h1 : a < 7) (h2 : 0 ≤ c) (h3 : c < 4) : lawAL a c = true := by
  have ha : a = 0 ∨ a = 1 ∨ a = 2 ∨ a = 3 ∨ a = 4 ∨ a = 5 ∨ a = 6 := by lia
  have hc : c = 0 ∨ c = 1 ∨ c = 2 ∨ c = 3 := by lia
  rcases ha with rfl | rfl | rfl | rfl | rfl | rfl | rfl
  · obtain ⟨k0, k1, k2, k3⟩ := lawA0; rcases hc with rfl | rfl | rfl | rfl <;> with_reducible first | exact k0 | exact k1 | exact k2 | exact k3
  · obtain ⟨k0, k1, k2, k3⟩ := lawA1; rcases hc with rfl | rfl | rfl | rfl <;> with_reducible first | exact k0 | exact k1 | exact k2 | exact k3
  · obtain ⟨k0, k1, k2, k3⟩ := lawA2; rcases hc with rfl | rfl | rfl | rfl <;> with_reducible first | exact k0 | exact k1 | exact k2 | exact k3
  · obtain ⟨k0, k1, k2, k3⟩ := lawA3; rcases hc with rfl | rfl | rfl | rfl <;> with_reducible first | exact k0 | exact k1 | exact k2 | exact k3
  · obtain ⟨k0, k1, k2, k3⟩ := lawA4; rcases hc with rfl | rfl | rfl | rfl <;> with_reducible first | exact k0 | exact k1 | exact k2 | exact k3
  · obtain ⟨k0, k1, k2, k3⟩ := lawA5; rcases hc with rfl | rfl | rfl | rfl <;> with_reducible first | exact k0 | exact k1 | exact k2 | exact k3
  · obtain ⟨k0, k1, k2, k3⟩ := lawA6; rcases hc with rfl | rfl | rfl | rfl <;> with_reducible first | exact k0 | exact k1 | exact k2 | exact k3
theorem law_B {a b : Int} (h0 : 0 ≤ a) (h1 : a < 7) (h2 : 0 ≤ b) (h3 : b < 3) : lawB a b = true := by
  have ha : a = 0 ∨ a = 1 ∨ a = 2 ∨ a = 3 ∨ a = 4 ∨ a = 5 ∨ a = 6 := by lia
  have hc : b = 0 ∨ b = 1 ∨ b = 2 := by lia
  rcases ha with rfl | rfl | rfl | rfl | rfl | rfl | rfl
  · obtain ⟨k0, k1, k2⟩ := lawB0; rcases hc with rfl | rfl | rfl <;> with_reducible first | exact k0 | exact k1 | exact k2
  · obtain ⟨k0, k1, k2⟩ := lawB1; rcases hc with rfl | rfl | rfl <;> with_reducible first | exact k0 | exact k1 | exact k2
  · obtain ⟨k0, k1, k2⟩ := lawB2; rcases hc with rfl | rfl | rfl <;> with_reducible first | exact k0 | exact k1 | exact k2
  · obtain ⟨k0, k1, k2⟩ := lawB3; rcases hc with rfl | rfl | rfl <;> with_reducible first | exact k0 | exact k1 | exact k2
  · obtain ⟨k0, k1, k2⟩ := lawB4; rcases hc with rfl | rfl | rfl <;> with_reducible first | exact k0 | exact k1 | exact k2
  · obtain ⟨k0, k1, k2⟩ := lawB5; rcases hc with rfl | rfl | rfl <;> with_reducible first | exact k0 | exact k1 | exact k2
  · obtain ⟨k0, k1, k2⟩ := lawB6; rcases hc with rfl | rfl | rfl <;> with_reducible first | exact k0 | exact k1 | exact k2
theorem pair_facts {a : Int} (h0 : 0 ≤ a) (h1 : a < 7) : 2 ≤ (pairP a).1 ∧ (pairP a).1 ≤ 5 ∧ 2 ≤ (pairP a).2 ∧ (pairP a).2 ≤ 7 ∧ (pairP a).1 + (pairP a).2 ≤ 9 ∧ 0 ≤ (pairP a).1 * (pairP a).2 - (pairP a).1 - (pairP a).2 ∧ (pairP a).1 * (pairP a).2 - (pairP a).1 - (pairP a).2 ≤ 6 ∧ lawC (pairP a).1 (pairP a).2 = true := by
  have ha : a = 0 ∨ a = 1 ∨ a = 2 ∨ a = 3 ∨ a = 4 ∨ a = 5 ∨ a = 6 := by lia
  rcases ha with rfl | rfl | rfl | rfl | rfl | rfl | rfl
  all_goals exact ⟨by decide, by decide, by decide, by decide, by decide, by decide, by decide, lawC_all _ (by decide)⟩
theorem law_A {a c : Int} (h0 : 0 ≤ a) (h1 : a < 7) (h2 : 0 ≤ c) (h3 : c < 4) : lawA a c = true := by
  obtain ⟨p1, p2, p3, p4, _⟩ := pair_facts h0 h1
  exact List.all_eq_true.mpr fun w hw => wordOk_of p1 p2 p3 p4 h2 h3 (List.all_eq_true.mp (law_AL h0 h1 h2 h3) w hw)
end PartP14
section StopC
local macro_rules | `(tactic| walk_at "w s2") => `(tactic| with_reducible first | refine at_if ?_ | refine at_list ?_ | refine at_bin2 ?_)
section PartP12
noncomputable def upT (c : Int) : Str := if c = 0 then ("" : Str) else if c = 1 then ("\\)" : Str) else if c = 2 then ("\\(" : Str) else ("\\\\" : Str)
theorem ints_three {us : Array Value} {ds : List Int} (h : IntsAre us.toList ds) (e : ds.length = 3) : ∃ d0 d1 d2 t0 t1 t2, us = #[.int d0 t0, .int d1 t1, .int d2 t2] := by
  obtain ⟨us⟩ := us
  dsimp only at h
  cases h with
  | nil => cases e
  | cons _ _ h =>
    cases h with
    | nil => cases e
    | cons _ _ h =>
      cases h with
      | nil => cases e
      | cons _ _ h =>
        cases h with
        | nil => exact ⟨_, _, _, _, _, _, rfl⟩
        | cons _ _ h => simp only [List.length_cons] at e; lia
theorem upT_len {c : Int} (h0 : 0 ≤ c) (h3 : c < 4) : (upT c).length ≤ 2 := by
  have : c = 0 ∨ c = 1 ∨ c = 2 ∨ c = 3 := by lia
  rcases this with rfl | rfl | rfl | rfl <;> decide
set_option maxHeartbeats 4000000 in
theorem law_call {p : Program} {w : World} {A : Around} {loose : List Str} {mean : ExcName → Option Value} {mg mb : Str → Option Value} {l : Addr} {vs : List Value} {ns : List Int} {s : Shared} {R : Result → Shared → Prop}
   (X : (hd.heap_39 w.params).In s.heap) (T : Top p loose mean mg mb s.heap) (hh : A.handled = none) (hd : A.depth + (60 + 1) < recursionLimit) (hu : A.units + (300 + 3) < cLine)
   (hl : s.heap.IsList l vs.toArray) (hi : IntsAre vs ns) (hf : ns.length < 2 ^ 20)
   (hA : ∀ a c : Int, 0 ≤ a → a < 7 → 0 ≤ c → c < 4 → lawA a c = true) (hB : ∀ a b : Int, 0 ≤ a → a < 7 → 0 ≤ b → b < 3 → lawB a b = true)
   (hP : ∀ a : Int, 0 ≤ a → a < 7 → 2 ≤ (pairP a).1 ∧ (pairP a).1 ≤ 5 ∧ 2 ≤ (pairP a).2 ∧ (pairP a).2 ≤ 7 ∧ (pairP a).1 + (pairP a).2 ≤ 9 ∧ 0 ≤ (pairP a).1 * (pairP a).2 - (pairP a).1 - (pairP a).2 ∧ (pairP a).1 * (pairP a).2 - (pairP a).1 - (pairP a).2 ≤ 6 ∧ lawC (pairP a).1 (pairP a).2 = true)
   (h : ∀ s', Ext s s' → R (.ok (.ret (.bool true))) s') :
   codeAny (model PW w) A (.call (.ref 132) ⟨[.ref l], []⟩) R s := by
  refine enterOC X T.nolimit hh hd hu (by k_is) (by k_is) (binds := [("script", .ref l)]) (by rfl) (by rfl) (fun n x hx => by (have hx' : x ∈ [(("downs" : Str), n + 1 + 1), (("ups" : Str), n + 1), (("cells" : Str), n)] := hx); (rcases List.mem_cons.mp hx' with rfl | hx'; · rfl); (rcases List.mem_cons.mp hx' with rfl | hx'; · rfl); (rcases List.mem_cons.mp hx' with rfl | hx'; · rfl); cases hx') ?_
  clear hh hd hu
  intro h₁ A' tk hh hd hu F
  replace F : Fo s.heap s.heap.objs.size [("downs", s.heap.objs.size + 1 + 1 + 1), ("ups", s.heap.objs.size + 1 + 1), ("cells", s.heap.objs.size + 1)] none h₁ _ #[] := F
  walk_at "w go"
  walk1
  have X₀ := X
  have T₀ := T
  refine compN_eval (by rfl) ?_
  walk_at "w go"
  refine o_slice F (lkeeps hl F.keep) .none (.int _ _) .none (by simp) (by rw [List.size_toArray, hi.length]; exact Nat.le_trans (Nat.le_of_lt hf) (by decide)) fun c1 h2 g2 F2 G2 P2 K2 N2 => ?_
  clear F
  replace X := X.keeps G2
  replace T := T.keeps G2
  have hi2 := slice_ints_uptoW hi (y := 12) (by decide)
  generalize slicePick vs.toArray none (some 12) none = ws at P2 hi2
  refine src_list F2 hh P2.isList fun I2 h3 F3 K3 S3 => ?_
  have hwz : ws.size ≤ 12 := by rw [← Array.length_toList, hi2.length, List.length_take]; exact Nat.min_le_left ..
  dsimp only at F3 S3 ⊢
  clear F2
  have X₃ := X
  have T₃ := T
  refine comp_N S3 F3 (Gx.refl s |>.re _ _) (Nat.le_trans hwz (by decide)) (fun j g us => ∃ cs, IntsAre us.toList cs) (fun _ _ _ _ _ h => h) 
    (fun C D j v s₂ g₂ m₂ us₂ hlt hP hm' hg₂ hcells hown F₂ gx₂ hj₂ hus₂ => ?_) (fun s4 g4 us4 D4 hg4 F4 gx4 hp4 hz4 hj4 hD4 => ?_) ⟨_, .nil⟩
  · obtain ⟨n, t, hn, rfl⟩ := ints_get hi2 (by simpa using hP)
    have X := X₃.keeps hg₂
    have T := T₃.keeps hg₂
    clear S3 F3
    refine tests_nil ?_
    rw [if_pos rfl]
    walk_at "w go"
    walk1
    walk_at "w go"
    obtain ⟨cs, hj₂⟩ := hj₂
    exact ⟨_, _, fun _ _ e => e, F₂, gx₂.re _ _, _, ints_push hj₂⟩
  · have X := X₃.keeps hg4
    have T := T₃.keeps hg4
    clear X₃ T₃ S3 F3 K3
    have up4 : ∀ b o, s.heap.get? b = some o → g4.get? b = some o := fun b o e => hg4 b o (G2 b o e)
    obtain ⟨cs, hics⟩ := hj4
    walk_at "w go"
    have F5 := F'
    clear F' F4
    have hcz : us4.size ≤ 12 := Nat.le_trans hz4 hwz
    clear hi2 P2 hg4 hwz hz4 G2 K2 N2 hD4
    refine compA_eval (by rfl) (by rfl) ?_
    walk_at "w go"
    refine list_ ?_
    walk_at "w go"
    refine src_enum F' hh IL'.isList fun I6 h6 F6 K6 S6 => ?_
    dsimp only at F6 S6 ⊢
    clear F'
    have X₆ := X
    have T₆ := T
    have P4 := pkeeps hp4 kg'
    refine comp_AU S6 F6 (gx4.re _ _) hh (Nat.le_trans (m := 3) (Nat.le_refl _) (by decide)) (fun i v ⟨t, x, _, e⟩ => ⟨_, _, e⟩) (fun j g us => ∃ ds, IntsAre us.toList ds ∧ ds.length = j) (fun _ _ _ _ _ h => h)
      (fun C D j a b s₂ g₂ m₂ us₂ hlt hP hma hmb hg₂ hcells hown F₂ gx₂ hj₂ hus₂ => ?_) (fun s7 g7 us7 D7 hg7 F7 gx7 hp7 hz7 hj7 hD7 => ?_) ⟨_, .nil, rfl⟩ (by decide)
    · obtain ⟨t, x, hx, e⟩ := hP
      obtain ⟨rfl, rfl⟩ : a = .int (j : Nat) t ∧ b = x := by
        have e1 := congrArg (fun v : Array Value => v[0]?) e
        have e2 := congrArg (fun v : Array Value => v[1]?) e
        exact ⟨by simpa using e1, by simpa using e2⟩
      obtain ⟨n, t', rfl⟩ : ∃ n t', b = .int n t' := by
        have hj3 : j = 0 ∨ j = 1 ∨ j = 2 := by
          have : j < 3 := hlt
          lia
        rcases hj3 with rfl | rfl | rfl <;> (cases hx; exact ⟨_, _, rfl⟩)
      have hc1 : Cap "cells" g₂ (s.heap.objs.size + 1) (some (.ref D4)) := ⟨hcells _ (.tail _ (.tail _ (.head _)))⟩
      have X := X₆.keeps hg₂
      have T := T₆.keeps hg₂
      clear S6 F6 e
      refine tests_nil ?_
      rw [if_pos rfl]
      walk_at "w go"
      refine o_slice F₂ (lkeeps (pkeeps P4 hg₂).isList F₂.keep) (.int _ _) .none (.int _ _) (by simp) (Nat.le_trans hcz (by decide)) fun c9 h9 g9 F9 G9 P9 K9 N9 => ?_
      clear F₂
      replace X := X.keeps G9
      replace T := T.keeps G9
      have hi9 := hics.pick (some (j : Int)) none (some 3)
      dsimp only at F9 P9 ⊢
      walk_at "w go"
      refine o_sum (vs := (slicePick us4 (some (j : Int)) none (some 3)).toList) hh (by simpa using (pkeeps P9 F9.keep).isList) (by simpa using hi9) fun h8 tk8 t8 k8 => ?_
      have F8 := F9.keeps k8
      clear F9
      dsimp only at F8 ⊢
      walk_at "w go"
      obtain ⟨ds, hds, hdl⟩ := hj₂
      exact ⟨_, _, G9, F8, gx₂.re _ _, _, ints_push hds, by rw [List.length_append, hdl]; rfl⟩
    · obtain ⟨d0, d1, d2, t0, t1, t2, rfl⟩ : ∃ d0 d1 d2 t0 t1 t2, us7 = #[.int d0 t0, .int d1 t1, .int d2 t2] := by
        obtain ⟨ds, h1, h2⟩ := hj7
        exact ints_three h1 h2
      have X := X₆.keeps hg7
      have T := T₆.keeps hg7
      have up7 : ∀ b o, s.heap.get? b = some o → g7.get? b = some o := fun b o e => hg7 b o (kg' b o (up4 b o e))
      clear X₆ T₆ S6 F6 K6 IL' kg' K' hj7 hz7 hD7 hp4 hics P4 hcz up4 hg7
      walk_at "w go"
      refine o_item (pkeeps hp7 F7.keep).isList (by decide) (by decide) rfl ?_
      walk_at "w go"
      refine wpAny_call ?_
      refine pair_call (X.keeps F7.keep) (T.keeps F7.keep) hh (dn hd (by decide)) (dn hu (by decide)) fun s8 a8 tu td E8 n8 p8 => ?_
      obtain ⟨g8, k1, F8, k3, k4⟩ := F7.got E8.keep
      have p8' := p8.at fun o e => k3 a8 o e (k4 a8 n8)
      have gx8 : Gx s s8 := (gx7.re _ _).trans E8.gx
      have hp8 := pkeeps hp7 k1
      have up8 : ∀ b o, s.heap.get? b = some o → g8.get? b = some o := fun b o e => k1 b o (up7 b o e)
      replace X := X.keeps k1
      replace T := T.keeps k1
      clear k3 k4 k1 n8 p8 E8 F7 gx7 hp7 up7
      have a0 : 0 ≤ d0.fmod 7 := Int.fmod_nonneg_of_pos _ (by decide)
      have a1 : d0.fmod 7 < 7 := Int.fmod_lt_of_pos _ (by decide)
      have hA1 : ∀ c : Int, 0 ≤ c → c < 4 → (wordsP 9 (pairP (d0.fmod 7)).1 (pairP (d0.fmod 7)).2).all (wordOk (pairP (d0.fmod 7)).1 (pairP (d0.fmod 7)).2 c) = true := fun c h2 h3 => hA _ c a0 a1 h2 h3
      have hB1 : ∀ b : Int, 0 ≤ b → b < 3 → lawB' (pairP (d0.fmod 7)).1 (pairP (d0.fmod 7)).2 (rowsL (pairP (d0.fmod 7)).1 (pairP (d0.fmod 7)).2 b) = true := fun b h2 h3 => hB _ b a0 a1 h2 h3
      obtain ⟨u2, u5, d2', d7, ud9, g0, g6, hC⟩ := hP _ a0 a1
      generalize (pairP (d0.fmod 7)).1 = u at *
      generalize (pairP (d0.fmod 7)).2 = d at *
      clear hA hB hP a0 a1
      dsimp only
      refine o_unpackC2 F8 hh (pkeeps p8' F8.keep).isList fun h9 F9 => ?_
      clear F8 p8'
      walk_at "w go"
      refine o_mulS rfl d2' (by lia) fun hml => ?_
      walk_at "w go"
      refine list_ ?_
      walk_at "w go"
      refine o_item (v := .int d2 t2) (pkeeps hp8 (fun b o e => F'.keep b o (kg' b o e))).isList (by decide) (by decide) rfl ?_
      walk_at "w go"
      have c0 : 0 ≤ d2.fmod 4 := Int.fmod_nonneg_of_pos _ (by decide)
      have c1 : d2.fmod 4 < 4 := Int.fmod_lt_of_pos _ (by decide)
      have IL9 := pkeeps IL' F'.keep
      have hA2 := hA1 _ c0 c1
      dsimp only at IL9 ⊢
      have key : ∀ k : Tok, ∃ ut, (#[Value.str ("" : Str) k, Value.str ("\\)" : Str) (k + 1), Value.str ("\\(" : Str) (k + 1 + 1), Value.str ("\\\\" : Str) (k + 1 + 1 + 1)] : Array Value)[(d2.fmod 4).toNat]? = some (.str (upT (d2.fmod 4)) ut) := fun k => by
        generalize d2.fmod 4 = c at c0 c1
        have : c = 0 ∨ c = 1 ∨ c = 2 ∨ c = 3 := by lia
        rcases this with rfl | rfl | rfl | rfl <;> exact ⟨_, rfl⟩
      have hul := upT_len c0 c1
      refine o_item IL9.isList c0 (by lia) (key _).choose_spec ?_
      generalize (key _).choose = ut
      have hupl : (upP d (d2.fmod 4)).length ≤ 9 := by
        show (Txt.mul ("(" : Str) d ++ upT (d2.fmod 4)).length ≤ 9
        rw [Str.length_append]
        lia
      have hupl2 : 2 ≤ (upP d (d2.fmod 4)).length := by
        show 2 ≤ (Txt.mul ("(" : Str) d ++ upT (d2.fmod 4)).length
        rw [Str.length_append]
        lia
      have kg8 := kg'
      clear hA1 IL' IL9 K' kg' key
      refine o_addS (by lia) (Nat.le_trans (Nat.add_le_add (show (Txt.mul ("(" : Str) d).length ≤ 7 by lia) hul) (by decide)) (Nat.le_add_left ..) (by show (s8.toks + 1 : Nat) < s8.toks + 1 + 1 + 1 + 1 + 1 + 1 + 1 + 1 + 1; lia) fun tup ktup ht1 ht2 ht3 => ?_
      have ht4 : (tup : Nat) + 1 ≤ ktup := ht2
      rw [show Txt.mul ("(" : Str) d ++ upT (d2.fmod 4) = upP d (d2.fmod 4) from rfl]
      have X₈ := X
      have T₈ := T
      walk_at "w go"
      have k9 := F'.keep
      refine wpAny_with_toks (n := tup + 1) (by dsimp only; lia) (no_list F' ?_)
      clear F'
      intro ra h10 g10 tk10 F10 G10 P10 K10 N10 ht10
      dsimp only at F10 P10 K10 N10 ht10 ⊢
      replace X := X₈.keeps G10
      replace T := T₈.keeps G10
      walk_at "w go"
      have F11 := F'.own G10 P10 (none_back k9 N10)
      have hp11 := pkeeps hp8 kg8
      have gx11 : Gx s s8 := gx8
      have up11 : ∀ b o, s.heap.get? b = some o → _ := fun b o e => kg8 b o (up8 b o e)
      replace X := X₈
      replace T := T₈
      clear F' F10 G10 P10 K10 N10 k9 F9 hp8 gx8 up8 kg8 X₈ T₈
      refine for_exec ?_
      walk_at "w go"
      refine wpAny_with_toks (n := tup + 1) (by dsimp only; lia) ?_
      refine wpAny_call ?_
      refine words_call 9 (X.keeps F11.keep) (T.keeps F11.keep) hh (dn hd (by decide)) (dn hu (by decide)) (by decide) (by lia) (by lia) (by lia) fun s12 a12 us12 E12 n12 p12 hw12 => ?_
      obtain ⟨g12, k1, F12, k3, k4⟩ := F11.got E12.keep
      have p12' := p12.at fun o e => k3 a12 o e (k4 a12 n12)
      have gx12 : Gx s s12 := (gx11.re _ _).trans E12.gx
      have hp12 := pkeeps hp11 k1
      have up12 : ∀ b o, s.heap.get? b = some o → g12.get? b = some o := fun b o e => k1 b o (up11 b o e)
      replace X := X.keeps k1
      replace T := T.keeps k1
      clear k3 k4 k1 n12 p12 E12 F11 gx11 hp11 up11
      intro ht12
      (try dsimp only)
      refine src_list F12 hh p12'.isList fun I13 h13 F13 K13 S13 => ?_
      have hz12 : us12.size = (wordsP 9 u d).length := by rw [← Array.length_toList, hw12.length]
      have X₁₃ := X
      have T₁₃ := T
      clear F12
      refine for_ST (tup + 1) ht12 S13 F13 (gx12.re _ _) (fun i g m us => m "up" = some (.str (upP d (d2.fmod 4)) tup) ∧ m "ups" = some (.int u tu) ∧ m "downs" = some (.int d td) ∧ m "draws" = some (.ref D7) ∧ m "rows" = some (.ref ra) ∧ g.PlainList D7 #[.int d0 t0, .int d1 t1, .int d2 t2] ∧
          RowsAre g us.toList ((((wordsP 9 u d).take i).filter fun (q : Str) => staysP u d q.cps.toList 0).map fun (q : Str) => rowP q u d (d1.fmod 3)))
        (fun i g g' m us k ⟨q1, q2, q3, q4, q5, q6, q7⟩ => ⟨q1, q2, q3, q4, q5, k.plain q6, q7.kp k⟩) (fun i v s₁ g₁ m us hlt hP hg F gx hj htk => ?_) (fun s₁ g₁ m us hg F gx hj _ => ?_) ⟨rfl, rfl, rfl, rfl, rfl, hp12, .nil⟩
      · obtain ⟨q1, q2, q3, q4, q5, q6, q7⟩ := hj
        obtain ⟨wd, tw, hw, rfl⟩ := strs_get hw12 (by simpa using hP)
        have X := X₁₃.keeps hg
        have T := T₁₃.keeps hg
        clear S13 F13
        walk_at "w go"
        refine wpAny_with_toks (n := tup + 1) (by dsimp only; lia) ?_
        refine wpAny_call ?_
        refine stays_call (X.keeps F'.keep) (T.keeps F'.keep) hh (dn hd (by decide)) (dn hu (by decide)) fun s14 E14 => ?_
        have F14 := F'.keeps E14.keep
        have gx14 : Gx s s14 := (gx.re _ _).trans E14.gx
        clear F'
        intro htk
        walk_at "w go"
        have hwok := List.all_eq_true.mp hA2 wd (List.mem_of_getElem? hw)
        unfold wordOk at hwok
        simp only [Bool.and_eq_true, decide_eq_true_eq] at hwok
        obtain ⟨⟨⟨⟨w1, w2⟩, w5⟩, w3⟩, w4⟩ := hwok
        have hwl : wd.length ≤ 60 := w2
        refine wpAny_with_toks (n := tup + 1) (by dsimp only; lia) (o_replaceS (.inl (by (try dsimp only); lia)) ht1 (by (try dsimp only); lia) (by show 1 ≠ _; lia) ?_ fun tr1 kr1 hkr1 => ?_)
        · have : (wd.length + 1) * (upP d (d2.fmod 4)).length ≤ 61 * 9 := Nat.mul_le_mul (by lia) hupl
          lia
        walk_at "w go"
        refine o_mulS rfl u2 (by lia) fun hml2 => ?_
        walk_at "w go"
        replace hkr1 : tup + 1 ≤ kr1 := hkr1
        refine o_replaceS (.inr (Nat.le_succ _)) (Nat.le_add_left ..) (by lia) (by show 1 ≠ _; lia) ?_ fun tr2 kr2 => ?_
        · have : ((Txt.replace wd ("u" : Str) (upP d (d2.fmod 4))).length + 1) * (Txt.mul (")" : Str) u).length ≤ 1001 * 9 := Nat.mul_le_mul (by lia) (by lia)
          lia
        walk_at "w go"
        refine wpAny_call ?_
        refine check_call (X.keeps F'.keep) (T.keeps F'.keep) hh (dn hd (by decide)) (dn hu (by decide)) w3 fun s15 E15 => ?_
        have hch : chkP (escP (Txt.replace (Txt.replace wd ("u" : Str) (upP d (d2.fmod 4))) ("d" : Str) (Txt.mul (")" : Str) u)).cps.toList false) 0 = staysP u d wd.cps.toList 0 := beq_iff_eq.mp w4
        rw [hch]
        have F15 := F'.keeps E15.keep
        have gx15 : Gx s s15 := (gx14.re _ _).trans E15.gx
        clear F' F14 E15 E14 F w3 w4
        have htake := take_snoc hw
        have X₁₅ := X
        have T₁₅ := T
        generalize hb : staysP u d wd.cps.toList 0 = b at F15 ⊢
        walk_at "w go"
        (try dsimp only); walk1
        walk_at "w go"
        refine list_ ?_
        walk_at "w go"
        have IL1 := IL'
        have kg1 := kg'
        clear K' IL'
        refine list_ ?_
        walk_at "w go"
        refine o_neBools (pkeeps IL1 (fun b o e => F'.keep b o (kg' b o e))).isList (pkeeps IL' F'.keep).isList (by (try dsimp only); lia) ?_
        rw [show (!(((b == true) == b) && ((b == false) == !b))) = false by cases b <;> rfl]
        have kg2 : ∀ b o, g₁.get? b = some o → g'.get? b = some o := fun b o e => kg' b o (kg1 b o e)
        have F₂ := F'
        replace q6 := pkeeps q6 kg2
        replace q7 := q7.kp (Kp.of kg2)
        clear IL1 IL' K' F15 kg' kg1 F'
        have up2 : ∀ b o, g12.get? b = some o → g'.get? b = some o := fun b o e => kg2 b o (hg b o e)
        clear hg
        have hfm : (if b = true then [rowP wd u d (d1.fmod 3)] else []) = (([wd].filter fun (q : Str) => staysP u d q.cps.toList 0).map fun (q : Str) => rowP q u d (d1.fmod 3)) := by
          subst hb
          by_cases hb : staysP u d wd.cps.toList 0 = true
          · rw [if_pos hb, List.filter_cons, if_pos hb]; rfl
          · rw [if_neg hb, List.filter_cons, if_neg hb]; rfl
        have hjj : ∀ rs : List (List Int), rs = ((((wordsP 9 u d).take i).filter fun (q : Str) => staysP u d q.cps.toList 0).map fun (q : Str) => rowP q u d (d1.fmod 3)) ++ (if b = true then [rowP wd u d (d1.fmod 3)] else []) → rs = ((((wordsP 9 u d).take (i + 1)).filter fun (q : Str) => staysP u d q.cps.toList 0).map fun (q : Str) => rowP q u d (d1.fmod 3)) := fun rs e => by
          rw [e, hfm, ← List.map_append, ← List.filter_append, ← htake]
        walk_at "w go"
        cases b with
        | true =>
          (try dsimp only); walk1
          walk_at "w go"
          refine plain_method (F₂.lst ra rfl).1 PySem.F.slot_list_append PySem.F.type_list_append ?_
          walk_at "w go"
          refine o_item (v := .int d1 t1) (pkeeps q6 F₂.keep).isList (by decide) (by decide) rfl ?_
          walk_at "w go"
          refine wpAny_call ?_
          refine row_call (X.keeps F₂.keep) (T.keeps F₂.keep) hh (dn hd (by decide)) (dn hu (by decide)) w1 w2 (by lia) (by lia) (by lia) (by lia) fun s16 a16 us16 E16 n16 p16 hw16 => ?_
          obtain ⟨g3, k1, F3, k3, k4⟩ := F₂.got E16.keep
          have p16' := p16.at fun o e => k3 a16 o e (k4 a16 n16)
          walk_at "w go"
          refine wpAny_list_append_plain (F3.lst _ rfl).1 (fun h₅ hl₅ hs₅ => ?_) (by rw [← Array.length_toList, q7.length, List.length_map]; exact Nat.le_trans (List.length_filter_le ..) (Nat.le_trans (List.length_take_le' ..) (Nat.le_trans (wordsP_le 9 u d) (by decide))))
          have F4 := F3.wrote hl₅ fun b o hb e => hs₅.extBut b o hb e
          have gx16 := (gx15.re _ _).trans E16.gx
          walk_at "w go"
          refine ⟨_, _, _, fun b o e => k1 b o (kg2 b o e), F4, gx16.re _ _, q1, q2, q3, q4, q5, pkeeps q6 k1, ?_⟩
          rw [← hjj _ rfl, if_pos rfl]
          exact (q7.kp (Kp.of k1)).push ⟨_, _, rfl, p16', hw16⟩
        | false =>
          (try dsimp only); walk1
          walk_at "w go"
          exact ⟨_, _, _, kg2, F₂, gx15.re _ _, q1, q2, q3, q4, q5, q6, by rw [← hjj _ rfl]; simpa using q7⟩
      · obtain ⟨q1, q2, q3, q4, q5, q6, q7⟩ := hj
        rw [hz12, List.take_length] at q7
        have q7' : RowsAre g₁ us.toList (rowsL u d (d1.fmod 3)) := q7
        obtain ⟨g2, k2, F2, p2⟩ := F.give
        have X := X₁₃.keeps fun b o e => k2 b o (hg b o e)
        have T := T₁₃.keeps fun b o e => k2 b o (hg b o e)
        have up2 : ∀ b o, s.heap.get? b = some o → g2.get? b = some o := fun b o e => k2 b o (hg b o (up12 b o e))
        replace q6 := pkeeps q6 k2
        replace q7' := q7'.kp (Kp.of k2)
        have e3 : 0 ≤ d1.fmod 3 := Int.fmod_nonneg_of_pos _ (by decide)
        have e4 : d1.fmod 3 < 3 := Int.fmod_lt_of_pos _ (by decide)
        have hB2 := hB1 _ e3 e4
        generalize rowsL u d (d1.fmod 3) = rows at q7' hB2
        clear S13 F13 F q7 hg k2 X₁₃ T₁₃ K13 up12 hA2 hw12 p12' gx12 hp12 hz12 hB1 e3 e4
        unfold lawB' at hB2
        simp only [Bool.and_eq_true, decide_eq_true_eq] at hB2
        unfold lawC at hC
        simp only [Bool.and_eq_true, decide_eq_true_eq] at hC
        walk_at "w go"
        refine wpAny_call ?_
        refine rows_call (X.keeps F2.keep) (T.keeps F2.keep) hh (dn hd (by decide)) (dn hu (by decide)) g0 g6 fun s16 a16 us16 E16 n16 p16 hw16 => ?_
        obtain ⟨g3, k1, F3, k3, k4⟩ := F2.got E16.keep
        have p16' := p16.at fun o e => k3 a16 o e (k4 a16 n16)
        have hw16' := rows_down F3 k3 hw16
        replace q6 := pkeeps q6 k1
        have p2' := pkeeps p2 k1
        have hr := q7'.kp (Kp.of k1)
        replace X := X.keeps k1
        replace T := T.keeps k1
        have up3 : ∀ b o, s.heap.get? b = some o → g3.get? b = some o := fun b o e => k1 b o (up2 b o e)
        have gx16 : Gx s s16 := (gx.re _ _).trans E16.gx
        clear F2 k3 k4 n16 p16 hw16 E16 q7' p2 up2 k1 gx
        walk_at "w go"
        (try dsimp only); walk1
        walk_at "w go"
        obtain ⟨⟨⟨⟨⟨⟨⟨⟨⟨⟨⟨⟨⟨⟨b1, b2⟩, b3⟩, b4⟩, b5⟩, b6⟩, b7⟩, b8⟩, b9⟩, b10⟩, b11⟩, b12⟩, b13⟩, b14⟩, b15⟩ := hB2
        obtain ⟨⟨⟨c1, c2⟩, c3⟩, c4⟩ := hC
        clear q1 q4 q6 hupl hupl2 ht1 ht2 ht3 ht4 ht10 ht12 hul
        refine o_sorted F' p2'.isList hr b1 b2 b4 (by (try dsimp only); lia) fun D1 h1 g4 ws1 F4 G4 P4 R4 => ?_
        clear F' F3
        replace X := X.keeps G4
        replace T := T.keeps G4
        dsimp only at F4 P4 ⊢
        walk_at "w go"
        refine compN_eval (by rfl) ?_
        walk_at "w go"
        refine src_list F4 hh (pkeeps p16' G4).isList fun I5 h5 F5 K5 S5 => ?_
        dsimp only at F5 S5 ⊢
        have hz16 : us16.size = (rowsP (u * d - u - d).toNat).length := by rw [← Array.length_toList, hw16'.length]
        have X₅ := X
        have T₅ := T
        have R5 := hw16'.kp (Kp.of G4)
        refine comp_N S5 F5 (gx16.re _ _) (by rw [hz16, rowsP_length]; exact Nat.le_trans (Nat.pow_le_pow_right (by decide) (show (u * d - u - d).toNat ≤ 6 by lia)) (by decide)) (fun j g us => RowsAre g us.toList (((rowsP (u * d - u - d).toNat).take j).filter fun r => bareP r u d)) (fun _ _ _ _ k h => h.kp k)
          (fun C D j v s₂ g₂ m₂ us₂ hlt hP hm' hg₂ hcells hown F₂ gx₂ hj₂ hus₂ => ?_) (fun s6 g6 us6 D6 hg6 F6 gx6 hp6 hz6 hj6 hD6 => ?_) .nil
        · obtain ⟨r, hr1, a₂, vs₂, rfl, hpa₂, hia₂⟩ := R5.get (by simpa using hP)
          have hc1 : Cap "downs" g₂ (s.heap.objs.size + 1 + 1 + 1) (some (.int d td)) := ⟨by
            have h := hcells _ (.head _)
            dsimp only at h
            rw [if_neg (by decide), q3] at h
            exact h⟩
          have hc2 : Cap "ups" g₂ (s.heap.objs.size + 1 + 1) (some (.int u tu)) := ⟨by
            have h := hcells _ (.tail _ (.head _))
            dsimp only at h
            rw [if_neg (by decide), q2] at h
            exact h⟩
          have X := X₅.keeps hg₂
          have T := T₅.keeps hg₂
          have hrok := List.all_eq_true.mp c1 r (List.mem_of_getElem? hr1)
          unfold rowOk at hrok
          simp only [Bool.and_eq_true, decide_eq_true_eq, List.all_eq_true] at hrok
          clear S5 F4
          refine wpAny_tests_one ?_
          walk_at "w go"
          refine wpAny_call ?_
          refine bare_call (vs := vs₂.toList) (X.keeps F₂.keep) (T.keeps F₂.keep) hh (dn hd (by decide)) (dn hu (by decide)) (by simpa using (pkeeps (pkeeps hpa₂ hg₂) F₂.keep).isList) hia₂ (Nat.le_trans hrok.1 (by decide)) (fun n hn => by have := hrok.2 n hn; lia) (by lia) (by lia) (by lia) (by lia) fun s7 E7 => ?_
          have F7 := F₂.keeps E7.keep
          have gx7 := gx₂.trans E7.gx
          have htake := take_snoc hr1
          clear F₂
          walk_at "w go"
          · rename bareP r u d = true => hb
            refine ⟨_, _, fun _ _ e => e, F7, gx7, ?_⟩
            rw [htake, List.filter_append, List.filter_cons, if_pos hb, List.filter_nil]
            exact hj₂.push ⟨_, _, rfl, pkeeps hpa₂ fun b o e => hid_get (hg₂ b o e) (F5.own_ne e), hia₂⟩
          · rename bareP r u d = false => hb
            refine ⟨_, _, fun _ _ e => e, F7, gx7, ?_⟩
            rw [htake, List.filter_append, List.filter_cons, if_neg (by rw [hb]; decide), List.filter_nil, List.append_nil]
            exact hj₂
        · rw [hz16, List.take_length] at hj6
          have hj6' : RowsAre g6 us6.toList (bareL u d) := hj6
          have X := X₅.keeps hg6
          have T := T₅.keeps hg6
          clear S5 F5 F4 hj6 hw16' R5 p16'
          walk_at "w go"
          refine o_sorted F6 hp6.isList hj6' c2 c3 c4 (by (try dsimp only); lia) fun D7 h7 g7 ws7 F7 G7 P7 R7 => ?_
          clear F6 hj6' hp6
          replace X := X.keeps G7
          replace T := T.keeps G7
          (try dsimp only at F7 P7 ⊢)
          refine o_neRows (pkeeps (pkeeps (pkeeps P4 hg6) G7) F7.keep).isList (pkeeps P7 F7.keep).isList (R4.kp (Kp.of fun b o e => F7.keep b o (G7 b o (hg6 b o e)))) (R7.kp (Kp.of F7.keep)) (by (try dsimp only); lia) ?_
          rw [b5]
          walk_at "w go"
          have K7 : ∀ b o, g3.get? b = some o → g7.get? b = some o := fun b o e => G7 b o (hg6 b o (G4 b o e))
          have hr7 := hr.kp (Kp.of K7)
          have p7 := pkeeps p2' K7
          have up7 : ∀ b o, s.heap.get? b = some o → g7.get? b = some o := fun b o e => K7 b o (up3 b o e)
          have husz : us.size = rows.length := by rw [← Array.length_toList, hr.length]
          have husz5 : us.size ≤ sizeLine := by rw [husz]; exact Nat.le_trans b2 (by decide)
          clear P7 R7 P4 R4 hg6 G7 K7 G4 hr p2' up3 X₅ T₅ hz16 hD6 hz6 c1 c2 c3 c4 b4 b5
          refine compA_eval (by rfl) (by rfl) ?_
          walk_at "w go"
          refine src_list F7 hh p7.isList fun I8 h8 F8 K8 S8 => ?_
          (try dsimp only at F8 S8 ⊢)
          have X₇ := X
          have T₇ := T
          refine comp_A S8 F8 (gx6.re _ _) husz5 (fun j g us' => RowsAre g us'.toList ((rows.map hooksP).take j)) (fun _ _ _ _ k h => h.kp k)
            (fun C D j v s₂ g₂ m₂ us₂ hlt hP hm' hg₂ hcells hown F₂ gx₂ hj₂ hus₂ => ?_) (fun s9 g9 us9 D9 hg9 F9 gx9 hp9 hz9 hj9 hD9 => ?_) .nil
          · obtain ⟨r, hr1, a₂, vs₂, rfl, hpa₂, hia₂⟩ := hr7.get (by simpa using hP)
            have X := X₇.keeps hg₂
            have T := T₇.keeps hg₂
            have hrok := List.all_eq_true.mp b3 r (List.mem_of_getElem? hr1)
            unfold rowOk at hrok
            simp only [Bool.and_eq_true, decide_eq_true_eq, List.all_eq_true] at hrok
            clear S8 F8 F7
            refine tests_nil ?_
            rw [if_pos rfl]
            walk_at "w go"
            refine wpAny_call ?_
            refine hooks_call (vs := vs₂.toList) (X.keeps F₂.keep) (T.keeps F₂.keep) hh (dn hd (by decide)) (dn hu (by decide)) (by simpa using (pkeeps (pkeeps hpa₂ hg₂) F₂.keep).isList) hia₂ (Nat.le_trans hrok.1 (by decide)) (fun n hn => by have := hrok.2 n hn; lia) fun s10 a10 us10 E10 n10 p10 hi10 => ?_
            obtain ⟨g10, k1, F10, k3, k4⟩ := F₂.got E10.keep
            have p10' := p10.at fun o e => k3 a10 o e (k4 a10 n10)
            walk_at "w go"
            refine ⟨_, _, k1, F10, gx₂.trans E10.gx, ?_⟩
            rw [take_snoc (x := hooksP r) (by rw [List.getElem?_map, hr1]; rfl)]
            exact RowsAre.push (hj₂.kp (Kp.of (hid_mono k1))) ⟨a10, us10, rfl, hid_plain F₂ hown n10 p10', hi10⟩
          · rw [husz, show rows.length = (rows.map hooksP).length by rw [List.length_map], List.take_length] at hj9
            have X := X₇.keeps hg9
            have T := T₇.keeps hg9
            have hr9 := hr7.kp (Kp.of hg9)
            have p9 := pkeeps p7 hg9
            have up9 : ∀ b o, s.heap.get? b = some o → g9.get? b = some o := fun b o e => hg9 b o (up7 b o e)
            clear S8 F8 F7 hr7 p7 up7 hg9 hz9 hD9 X₇ T₇
            walk_at "w go"
            refine compA_eval (by rfl) (by rfl) ?_
            walk_at "w go"
            refine src_list F9 hh p9.isList fun I11 h11 F11 K11 S11 => ?_
            (try dsimp only at F11 S11 ⊢)
            have X₉ := X
            have T₉ := T
            refine comp_A S11 F11 (gx9.re _ _) husz5 (fun j g us' => RowsAre g us'.toList ((rows.map linesP).take j)) (fun _ _ _ _ k h => h.kp k)
              (fun C D j v s₂ g₂ m₂ us₂ hlt hP hm' hg₂ hcells hown F₂ gx₂ hj₂ hus₂ => ?_) (fun s12 g12 us12 D12 hg12 F12 gx12 hp12 hz12 hj12 hD12 => ?_) .nil
            · obtain ⟨r, hr1, a₂, vs₂, rfl, hpa₂, hia₂⟩ := hr9.get (by simpa using hP)
              have X := X₉.keeps hg₂
              have T := T₉.keeps hg₂
              have hrok := List.all_eq_true.mp b3 r (List.mem_of_getElem? hr1)
              unfold rowOk at hrok
              simp only [Bool.and_eq_true, decide_eq_true_eq, List.all_eq_true] at hrok
              clear S11 F11 F9
              refine tests_nil ?_
              rw [if_pos rfl]
              walk_at "w go"
              refine wpAny_call ?_
              refine lines_call (vs := vs₂.toList) (X.keeps F₂.keep) (T.keeps F₂.keep) hh (dn hd (by decide)) (dn hu (by decide)) (by simpa using (pkeeps (pkeeps hpa₂ hg₂) F₂.keep).isList) hia₂ (Nat.lt_of_le_of_lt hrok.1 (by decide)) fun s10 a10 us10 E10 n10 p10 hi10 => ?_
              obtain ⟨g10, k1, F10, k3, k4⟩ := F₂.got E10.keep
              have p10' := p10.at fun o e => k3 a10 o e (k4 a10 n10)
              walk_at "w go"
              refine ⟨_, _, k1, F10, gx₂.trans E10.gx, ?_⟩
              rw [take_snoc (x := linesP r) (by rw [List.getElem?_map, hr1]; rfl)]
              exact RowsAre.push (hj₂.kp (Kp.of (hid_mono k1))) ⟨a10, us10, rfl, hid_plain F₂ hown n10 p10', hi10⟩
            · rw [husz, show rows.length = (rows.map linesP).length by rw [List.length_map], List.take_length] at hj12
              have X := X₉.keeps hg12
              have T := T₉.keeps hg12
              have hh12 := hj9.kp (Kp.of hg12)
              have hph := pkeeps hp9 hg12
              have up12 : ∀ b o, s.heap.get? b = some o → g12.get? b = some o := fun b o e => hg12 b o (up9 b o e)
              have hho : us12.size = rows.length := by rw [← Array.length_toList, hj12.length, List.length_map]
              have hhz : us9.size = rows.length := by rw [← Array.length_toList, hj9.length, List.length_map]
              clear S11 F11 F9 hr9 p9 up9 hg12 hz12 hD12 X₉ T₉ hj9 hp9
              generalize hOL : rows.map linesP = outl at *
              walk_at "w go"
              refine compA_eval (by rfl) (by rfl) ?_
              walk_at "w go"
              refine src_list F12 hh hp12.isList fun I13 h13 F13 K13 S13 => ?_
              (try dsimp only at F13 S13 ⊢)
              have X₁₂ := X
              have T₁₂ := T
              refine comp_A S13 F13 (gx12.re _ _) (by rw [hho, ← husz]; exact husz5) (fun j g us' => IntsAre us'.toList ((outl.map List.sum).take j)) (fun _ _ _ _ k h => h)
                (fun C D j v s₂ g₂ m₂ us₂ hlt hP hm' hg₂ hcells hown F₂ gx₂ hj₂ hus₂ => ?_) (fun s14 g14 us14 D14 hg14 F14 gx14 hp14 hz14 hj14 hD14 => ?_) .nil
              · obtain ⟨r, hr1, a₂, vs₂, rfl, hpa₂, hia₂⟩ := hj12.get (by simpa using hP)
                have X := X₁₂.keeps hg₂
                have T := T₁₂.keeps hg₂
                clear S13 F13 F12
                refine tests_nil ?_
                rw [if_pos rfl]
                walk_at "w go"
                refine o_sum (vs := vs₂.toList) hh (by simpa using (pkeeps (pkeeps hpa₂ hg₂) F₂.keep).isList) hia₂ fun h8 tk8 t8 k8 => ?_
                have F8 := F₂.keeps k8
                walk_at "w go"
                refine ⟨_, _, fun _ _ e => e, F8, gx₂.re _ _, ?_⟩
                rw [take_snoc (x := r.sum) (by rw [List.getElem?_map, hr1]; rfl)]
                exact ints_push hj₂
              · rw [hho, show rows.length = (outl.map List.sum).length by rw [List.length_map, ← hOL, List.length_map], List.take_length] at hj14
                have X := X₁₂.keeps hg14
                have T := T₁₂.keeps hg14
                replace hh12 := hh12.kp (Kp.of hg14)
                replace hph := pkeeps hph hg14
                replace hj12 := hj12.kp (Kp.of hg14)
                replace hp12 := pkeeps hp12 hg14
                replace up12 : ∀ b o, s.heap.get? b = some o → g14.get? b = some o := fun b o e => hg14 b o (up12 b o e)
                clear S13 F13 F12 hg14 hz14 hD14 X₁₂ T₁₂
                walk_at "w go"
                (try dsimp only); walk1
                walk_at "w go"
                have hlen : ∀ h ∈ rows.map hooksP, h.length ≤ 1000 := fun h hm => by
                  have h1 := List.all_eq_true.mp b7 h hm
                  cases h with
                  | nil => exact Nat.zero_le _
                  | cons k t =>
                    have h2 := List.all_eq_true.mp h1 k (.head _)
                    simp only [Bool.and_eq_true, decide_eq_true_eq] at h2
                    exact h2.2
                generalize rows.map hooksP = hks at *
                have hhz' : us9.size = (hks.map fun h => (h.length : Int)).length := by rw [List.length_map, ← hh12.length, Array.length_toList]
                have bxz : us14.size = (outl.map List.sum).length := by rw [← Array.length_toList, hj14.length]
                have bxr : (outl.map List.sum).length = rows.length := by rw [List.length_map, ← hOL, List.length_map]
                refine compN_eval (by rfl) ?_
                walk_at "w go"
                refine src_list F14 hh hph.isList fun I15 h15 F15 K15 S15 => ?_
                (try dsimp only at F15 S15 ⊢)
                have X₁₄ := X
                have T₁₄ := T
                refine comp_N S15 F15 (gx14.re _ _) (by rw [hhz, ← husz]; exact husz5) (fun j g us' => IntsAre us'.toList ((hks.map fun (h : List Int) => (h.length : Int)).take j)) (fun _ _ _ _ _ q => q)
                  (fun C D j v s₂ g₂ m₂ us₂ hlt hP hm' hg₂ hcells hown F₂ gx₂ hj₂ hus₂ => ?_) (fun s16 g16 us16 D16 hg16 F16 gx16 hp16 hz16 hj16 hD16 => ?_) .nil
                · obtain ⟨r, hr1, a₂, vs₂, rfl, hpa₂, hia₂⟩ := hh12.get (by simpa using hP)
                  have X := X₁₄.keeps hg₂
                  have T := T₁₄.keeps hg₂
                  have hrl := hlen r (List.mem_of_getElem? hr1)
                  have hrv : vs₂.size = r.length := by rw [← Array.length_toList, hia₂.length]
                  clear S15 F15 F14
                  refine tests_nil ?_
                  rw [if_pos rfl]
                  walk_at "w go"
                  refine o_len (pkeeps (pkeeps hpa₂ hg₂) F₂.keep).isList (by lia) fun tk8 t8 => ?_
                  walk_at "w go"
                  refine ⟨_, _, fun _ _ e => e, F₂, gx₂.re _ _, ?_⟩
                  rw [take_snoc (x := (r.length : Int)) (by rw [List.getElem?_map, hr1]; rfl), hrv]
                  exact ints_push hj₂
                · rw [hhz', List.take_length] at hj16
                  have X := X₁₄.keeps hg16
                  have T := T₁₄.keeps hg16
                  replace hh12 := hh12.kp (Kp.of hg16)
                  replace hph := pkeeps hph hg16
                  replace hj12 := hj12.kp (Kp.of hg16)
                  replace hp12 := pkeeps hp12 hg16
                  replace hp14 := pkeeps hp14 hg16
                  replace up12 : ∀ b o, s.heap.get? b = some o → g16.get? b = some o := fun b o e => hg16 b o (up12 b o e)
                  clear S15 F15 F14 hg16 hz16 hD16 X₁₄ T₁₄
                  walk_at "w go"
                  refine o_neInts (pkeeps hp16 F16.keep).isList (pkeeps hp14 F16.keep).isList hj16 hj14 (by (try dsimp only); lia) ?_
                  rw [b6]
                  walk_at "w go"
                  (try dsimp only); walk1
                  walk_at "w go"
                  have hu0 : 0 < u := by lia
                  have hd0 : 0 < d := by lia
                  refine comp2_eval (by rfl) ?_
                  walk_at "w go"
                  refine src_list F16 hh hph.isList fun I17 h17 F17 K17 S17 => ?_
                  (try dsimp only at F17 S17 ⊢)
                  have X₁₆ := X
                  have T₁₆ := T
                  refine comp_two (Pz := fun z => ∃ k t, z = .int k t ∧ (k.fmod u != 0 && k.fmod d != 0) = true) S17 F17 (gx16.re _ _) hh (fun i v hP => ?_) (fun C D z s₂ g₂ m₂ hz hm' hg₂ hcells F₂ gx₂ => ?_) (fun s18 g18 D18 hg18 F18 gx18 hp18 => ?_)
                  · obtain ⟨r, hr1, a₂, vs₂, rfl, hpa₂, hia₂⟩ := hh12.get (by simpa using hP)
                    refine ⟨a₂, vs₂, rfl, hpa₂, fun j z hz => ?_⟩
                    obtain ⟨k, t, hk, rfl⟩ := ints_get hia₂ (by simpa using hz)
                    have h1 := List.all_eq_true.mp (List.all_eq_true.mp b7 r (List.mem_of_getElem? hr1)) k (List.mem_of_getElem? hk)
                    exact ⟨k, t, rfl, (Bool.and_eq_true _ _ |>.mp h1).1⟩
                  · obtain ⟨k, t, rfl, hkk⟩ := hz
                    simp only [Bool.and_eq_true, bne_iff_ne, ne_eq] at hkk
                    obtain ⟨k1, k2⟩ := hkk
                    have hc1 : Cap "downs" g₂ (s.heap.objs.size + 1 + 1 + 1) (some (.int d td)) := ⟨by
                      have h := hcells _ (.head _)
                      dsimp only at h
                      rw [if_neg (by decide), if_neg (by decide), if_neg (by decide), if_neg (by decide), q3] at h
                      exact h⟩
                    have hc2 : Cap "ups" g₂ (s.heap.objs.size + 1 + 1) (some (.int u tu)) := ⟨by
                      have h := hcells _ (.tail _ (.head _))
                      dsimp only at h
                      rw [if_neg (by decide), if_neg (by decide), if_neg (by decide), if_neg (by decide), q2] at h
                      exact h⟩
                    have X := X₁₆.keeps hg₂
                    have T := T₁₆.keeps hg₂
                    clear S17 F17 F16
                    refine wpAny_tests_one ?_
                    walk_at "w go"
                    all_goals first | exact absurd (by assumption) k1 | exact absurd (by assumption) k2 | rfl | exact ⟨_, _, fun _ _ e => e, F₂, gx₂.re _ _, trivial⟩
                  · have X := X₁₆.keeps hg18
                    have T := T₁₆.keeps hg18
                    replace hj12 := hj12.kp (Kp.of hg18)
                    replace hp12 := pkeeps hp12 hg18
                    replace hp14 := pkeeps hp14 hg18
                    replace up12 : ∀ b o, s.heap.get? b = some o → g18.get? b = some o := fun b o e => hg18 b o (up12 b o e)
                    clear S17 F17 F16 hg18 X₁₆ T₁₆ hph hh12
                    refine wpAny_truthy_list (pkeeps hp18 F18.keep).isList (by decide) ?_
                    rw [show (!(#[] : Array Value).isEmpty) = false from rfl]
                    generalize hBX : outl.map List.sum = boxes at *
                    walk_at "w go"
                    (try dsimp only); walk1
                    walk_at "w go"
                    have bx5 : boxes.length ≤ 5 := by lia
                    have bxne : boxes ≠ [] := fun q => by rw [q] at bxr; simp at bxr; lia
                    refine o_sum (vs := us14.toList) hh (by simpa using (pkeeps hp14 F18.keep).isList) hj14 fun h19 tk19 t19 k19 => ?_
                    have F19 := F18.keeps k19
                    clear F18
                    (try dsimp only at F19 ⊢)
                    walk_at "w go"
                    refine o_len (pkeeps hp14 F19.keep).isList (by lia) fun tk20 t20 => ?_
                    rw [bxz]
                    walk_at "w go"
                    · exact absurd (beq_iff_eq.mp b8) (by assumption)
                    · (try dsimp only); walk1
                      walk_at "w go"
                      refine o_max (vs := us14.toList) hh (by simpa using (pkeeps hp14 F19.keep).isList) hj14 bxne fun h21 tk21 t21 k21 => ?_
                      have F21 := F19.keeps k21
                      clear F19
                      (try dsimp only at F21 ⊢)
                      walk_at "w go"
                      · exact absurd (beq_iff_eq.mp b9) (by assumption)
                      · refine plain_method (pkeeps hp14 F21.keep) PySem.F.slot_list_count PySem.F.type_list_count ?_
                        walk_at "w go"
                        refine o_max (vs := us14.toList) hh (by simpa using (pkeeps hp14 F21.keep).isList) hj14 bxne fun h22 tk22 t22 k22 => ?_
                        have F22 := F21.keeps k22
                        clear F21
                        (try dsimp only at F22 ⊢)
                        walk_at "w go"
                        refine count_list_ints (vs := us14.toList) (by simpa using (pkeeps hp14 F22.keep).isList) hj14 ?_
                        rw [beq_iff_eq.mp b10]
                        walk_at "w go"
                        clear hp14 hj14 b6 b7 b8 b9 b10
                        have F22' := F22
                        clear F22
                        refine compA_eval (by rfl) (by rfl) ?_
                        walk_at "w go"
                        refine src_list F22' hh hp12.isList fun I23 h23 F23 K23 S23 => ?_
                        (try dsimp only at F23 S23 ⊢)
                        have X₂₂ := X
                        have T₂₂ := T
                        refine comp_A S23 F23 (gx18.re _ _) (by rw [hho, ← husz]; exact husz5) (fun j g us' => RowsAre g us'.toList ((outl.map sideP).take j)) (fun _ _ _ _ k h => h.kp k)
                          (fun C D j v s₂ g₂ m₂ us₂ hlt hP hm' hg₂ hcells hown F₂ gx₂ hj₂ hus₂ => ?_) (fun s24 g24 us24 D24 hg24 F24 gx24 hp24 hz24 hj24 hD24 => ?_) .nil
                        · obtain ⟨r, hr1, a₂, vs₂, rfl, hpa₂, hia₂⟩ := hj12.get (by simpa using hP)
                          have X := X₂₂.keeps hg₂
                          have T := T₂₂.keeps hg₂
                          have hrok := List.all_eq_true.mp b11 r (List.mem_of_getElem? hr1)
                          unfold rowOk at hrok
                          simp only [Bool.and_eq_true, decide_eq_true_eq, List.all_eq_true] at hrok
                          have hmx : maxP (r ++ [0]) < 2 ^ 20 := by
                            have h1 := (maxP_spec (r ++ [0]) (by simp)).1
                            rcases List.mem_append.mp h1 with h1 | h1
                            · have := hrok.2 _ h1
                              lia
                            · rw [List.mem_singleton] at h1
                              lia
                          clear S23 F23 F22'
                          refine tests_nil ?_
                          rw [if_pos rfl]
                          walk_at "w go"
                          refine wpAny_call ?_
                          refine side_call (vs := vs₂.toList) (X.keeps F₂.keep) (T.keeps F₂.keep) hh (dn hd (by decide)) (dn hu (by decide)) (by simpa using (pkeeps (pkeeps hpa₂ hg₂) F₂.keep).isList) hia₂ (Nat.lt_of_le_of_lt hrok.1 (by decide)) hmx fun s10 a10 us10 E10 n10 p10 hi10 => ?_
                          obtain ⟨g10, k1, F10, k3, k4⟩ := F₂.got E10.keep
                          have p10' := p10.at fun o e => k3 a10 o e (k4 a10 n10)
                          walk_at "w go"
                          refine ⟨_, _, k1, F10, gx₂.trans E10.gx, ?_⟩
                          rw [take_snoc (x := sideP r) (by rw [List.getElem?_map, hr1]; rfl)]
                          exact RowsAre.push (hj₂.kp (Kp.of (hid_mono k1))) ⟨a10, us10, rfl, hid_plain F₂ hown n10 p10', hi10⟩
                        · have hol : outl.length = rows.length := by rw [← hOL, List.length_map]
                          rw [hho, show rows.length = (outl.map sideP).length by rw [List.length_map, hol], List.take_length] at hj24
                          have X := X₂₂.keeps hg24
                          have T := T₂₂.keeps hg24
                          replace hj12 := hj12.kp (Kp.of hg24)
                          replace hp12 := pkeeps hp12 hg24
                          replace up12 : ∀ b o, s.heap.get? b = some o → g24.get? b = some o := fun b o e => hg24 b o (up12 b o e)
                          have hsl : (outl.map sideP).length = rows.length := by rw [List.length_map, hol]
                          clear S23 F23 F22' hg24 hz24 hD24 X₂₂ T₂₂
                          generalize outl.map sideP = sds at *
                          walk_at "w go"
                          (try dsimp only); walk1
                          walk_at "w go"
                          refine o_sorted F24 hp24.isList hj24 (by lia) (by lia) b13 (by (try dsimp only); lia) fun D25 h25 g25 ws25 F25 G25 P25 R25 => ?_
                          clear F24
                          replace X := X.keeps G25
                          replace T := T.keeps G25
                          (try dsimp only at F25 P25 ⊢)
                          walk_at "w go"
                          refine o_sorted F25 (pkeeps hp12 G25).isList (hj12.kp (Kp.of G25)) (by lia) (by lia) b12 (by (try dsimp only); lia) fun D26 h26 g26 ws26 F26 G26 P26 R26 => ?_
                          clear F25
                          replace X := X.keeps G26
                          replace T := T.keeps G26
                          (try dsimp only at F26 P26 ⊢)
                          refine o_neRows (pkeeps (pkeeps P25 G26) F26.keep).isList (pkeeps P26 F26.keep).isList (R25.kp (Kp.of fun b o e => F26.keep b o (G26 b o e))) (R26.kp (Kp.of F26.keep)) (by (try dsimp only); lia) ?_
                          rw [b14]
                          walk_at "w go"
                          have K26 : ∀ b o, g24.get? b = some o → g26.get? b = some o := fun b o e => G26 b o (G25 b o e)
                          replace hj12 := hj12.kp (Kp.of K26)
                          replace hp12 := pkeeps hp12 K26
                          replace hj24 := hj24.kp (Kp.of K26)
                          replace hp24 := pkeeps hp24 K26
                          replace up12 : ∀ b o, s.heap.get? b = some o → g26.get? b = some o := fun b o e => K26 b o (up12 b o e)
                          have hzz : (outl.zip sds).length = min us12.size us24.size := by rw [List.length_zip, ← hj12.length, ← hj24.length, Array.length_toList, Array.length_toList]
                          have hz5 : min us12.size us24.size ≤ 5 := by lia
                          clear P25 R25 P26 R26 G25 G26 K26 b11 b12 b13 b14
                          refine compA_eval (by rfl) (by rfl) ?_
                          walk_at "w go"
                          refine src_zip F26 hh hp12.isList hp24.isList fun I27 h27 F27 K27 S27 => ?_
                          (try dsimp only at F27 S27 ⊢)
                          have X₂₆ := X
                          have T₂₆ := T
                          refine comp_AU S27 F27 (gx24.re _ _) hh (Nat.le_trans hz5 (by decide)) (fun i v ⟨x, y, _, _, e⟩ => ⟨_, _, e⟩) (fun j g us' => us'.size = (((outl.zip sds).take j).filter fun p => p.1 == p.2).length) (fun _ _ _ _ _ q => q)
                            (fun C D j a b s₂ g₂ m₂ us₂ hlt hP hma hmb hg₂ hcells hown F₂ gx₂ hj₂ hus₂ => ?_) (fun s28 g28 us28 D28 hg28 F28 gx28 hp28 hz28 hj28 hD28 => ?_) rfl (by decide)
                          · obtain ⟨x, y, hx, hy, e⟩ := hP
                            obtain ⟨rfl, rfl⟩ : a = x ∧ b = y := by
                              have e1 := congrArg (fun v : Array Value => v[0]?) e
                              have e2 := congrArg (fun v : Array Value => v[1]?) e
                              exact ⟨by simpa using e1, by simpa using e2⟩
                            obtain ⟨r, hr1, a₂, vs₂, rfl, hpa₂, hia₂⟩ := hj12.get (by simpa using hx)
                            obtain ⟨r', hr1', a₃, vs₃, rfl, hpa₃, hia₃⟩ := hj24.get (by simpa using hy)
                            have htake := take_snoc (L := outl.zip sds) (i := j) (x := (r, r')) (List.getElem?_zip_eq_some.mpr ⟨hr1, hr1'⟩)
                            have e1 : ([(r, r')] : List (List Int × List Int)).filter (fun p => p.1 == p.2) = if (r == r') = true then [(r, r')] else [] := by rw [List.filter_cons]; rfl
                            have X := X₂₆.keeps hg₂
                            have T := T₂₆.keeps hg₂
                            clear S27 F27 F26 e
                            refine wpAny_tests_one ?_
                            walk_at "w go"
                            refine o_eqInts (pkeeps (pkeeps hpa₂ hg₂) F₂.keep).isList (pkeeps (pkeeps hpa₃ hg₂) F₂.keep).isList hia₂ hia₃ (by (try dsimp only); lia) ?_
                            generalize (r == r') = q at e1
                            cases q with
                            | true =>
                              walk_at "w go"
                              refine ⟨_, _, fun _ _ e => e, F₂, gx₂.re _ _, ?_⟩
                              rw [htake, List.filter_append, e1, List.length_append, ← hj₂, Array.size_push]
                              rfl
                            | false =>
                              walk_at "w go"
                              refine ⟨_, _, fun _ _ e => e, F₂, gx₂.re _ _, ?_⟩
                              rw [htake, List.filter_append, e1, List.length_append, ← hj₂]
                              rfl
                          · have hsame : us28.size = (sameP outl sds).length := by
                              rw [hj28, ← hzz, List.take_length]
                              unfold sameP
                              rw [List.length_map]
                            have X := X₂₆.keeps hg28
                            have T := T₂₆.keeps hg28
                            replace up12 : ∀ b o, s.heap.get? b = some o → g28.get? b = some o := fun b o e => hg28 b o (up12 b o e)
                            clear S27 F27 F26 hg28 X₂₆ T₂₆
                            walk_at "w go"
                            refine o_len (pkeeps hp28 F28.keep).isList (by lia) fun tk29 t29 => ?_
                            rw [hsame]
                            have u3 : 0 ≤ u.fdiv 2 ∧ u.fdiv 2 ≤ 4 := by
                              rw [Int.fdiv_eq_ediv_of_nonneg _ (by decide)]
                              lia
                            have d3 : 0 ≤ d.fdiv 2 ∧ d.fdiv 2 ≤ 4 := by
                              rw [Int.fdiv_eq_ediv_of_nonneg _ (by decide)]
                              lia
                            walk_at "w go"
                            refine wpAny_call ?_
                            refine picked_call (X.keeps F28.keep) (T.keeps F28.keep) hh (dn hd (by decide)) (dn hu (by decide)) u3.1 u3.2 d3.1 d3.2 fun s30 t30 E30 => ?_
                            have F30 := F28.keeps E30.keep
                            have gx30 : Gx s s30 := (gx28.re _ _).trans E30.gx
                            clear F28
                            walk_at "w go"
                            rw [b15]
                            exact h _ (gx30.ext fun b o e => F30.keep b o (up12 b o e))
end PartP12
end StopC
end GroupP
end Mine
open PySem PySem.W PyProof.Rows
set_option maxHeartbeats 8000000 in
theorem PySem.Challenge.cw_wf0039_01_holds : PySem.Challenge.rw_wf0039_01.Holds := by
  refine Mine.hd ?_
  k_fill
  intro w s₀ s₁ mg mb G Y fa o pm cd doc dV kV ho hd hcd hD hmg hg args vals as hpre hlay hrd hwl hlo
  have KX := kIn_of Y
  refine Ground.open G ?_
  intro T B D TE TW
  wrow_args hpre hlay hrd hwl hlo
  refine enter_call ?_
  have hfa : mg ("law" : Str) = some (.ref 132) := mg_of KX T.g (by k_is)
  have hmg' : mg ("law" : Str) = some (.ref fa) := hmg
  have hfe : fa = 132 := by
    rw [hfa] at hmg'
    injection hmg' with e
    injection e with e
    exact e.symm
  subst hfe
  rename IntsAre _ _ => hI
  rename Heap.IsList _ _ _ => hL
  refine Mine.law_call KX T rfl (by decide) (by decide) hL hI (by omega) (fun _ _ => Mine.law_A) (fun _ _ => Mine.law_B) (fun _ => Mine.pair_facts) fun s' E => ?_
  refine ⟨.inl ⟨.bool true, .bool true, [], rfl, ?_, ?_, ?_, ?_⟩, OldK.of_keep E.keep, E.os, E.bare ?_⟩
  · intro cls
    rfl
  · first
      | exact .bool _
      | constructor
  · wrow_post
  · exact fun _ => ⟨.nil, fun _ h => nomatch h⟩
  · rw [hg]
    intro y hy
    simp at hy
