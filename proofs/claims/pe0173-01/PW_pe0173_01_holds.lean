import PyProof.Rows.All
import Wide.All
import OpenK.AllK
import Wide.FinOn
import Lean
import PySem.Challenge.RW_pe0173_01
set_option Elab.async false
set_option maxRecDepth 100000
section
open PySem PySem.W PyProof.Rows
set_option maxHeartbeats 0
namespace Mine
open_top hd for PySem.Challenge.rw_pe0173_01
end Mine
end
section
open PySem PySem.W PyProof.Rows PySem.Calls
set_option maxHeartbeats 0
namespace Mine
/-- what stood stands: but at the addresses adr -/
noncomputable abbrev Kept (h h' : Heap) (adr : List Addr) : Prop := ∀ b o, h.get? b = some o → b ∉ adr → h'.get? b = some o
/-- what is new was not there before: but at the addresses adr -/
noncomputable abbrev Fresh (h : Heap) (led : List (Addr × Obj)) (adr : List Addr) : Prop := ∀ p ∈ led, p.1 ∉ adr → h.get? p.1 = none
/-- a call of the global def at f: vs the arguments, D the room that it wants, led the caller's objects that it may turn, P what it asks of the heap, R what it hands back (the value, the ledger that led has become) -/
noncomputable abbrev Ctr (w : World) (loose : List Str) (mean : ExcName → Option Value) (mg mb : Str → Option Value) (f : Addr) (vs : List Value) (D : Nat) (led : List (Addr × Obj)) (P : Heap → Prop) (R : Value → List (Addr × Obj) → Prop) : Prop :=
  ∀ (dp un : Nat) (gd : Option (List Code)) (cn : Str) (cs : Scope) (a : Addr) (ccd : Value) (cl : List (Str × Addr)) (outer : List Env) (A₀ : Around) (base h₀ : Heap) (L : Addr) (m : Str → Option Value) (s : Shared) (Q E : Value → Shared → Prop),
    Below A₀ base outer h₀ → Fr h₀ L s.heap m → (hd.heap_39 w.params).In h₀ → News h₀ L s.heap led → Top topProg loose mean mg mb h₀ → cs.kind = .function →
    dp + D < recursionLimit → un + 8 * D < cLine → CodeHd base 41 37 → CodeHd base 34 30 → P s.heap →
    (∀ r led' h' tk', Fr h₀ L h' m → News h₀ L h' led' → Kept s.heap h' (led.map (·.1)) → Fresh s.heap led' (led.map (·.1)) → R r led' → Q r { s with heap := h', toks := tk' }) →
    wpAny (model Challenge.rw_pe0173_01.row.prog w) (ktrTop dp un gd cn cs L a ccd cl outer) (call (.ref f) vs) Q E s
theorem kept_of {h g h' : Heap} {L : Addr} {m : Str → Option Value} {adr : List Addr} (G : GSub h g adr) (F : Fr g L h' m) : Kept h h' adr := fun b o e n => F.keep b o (G b o e n)
theorem fresh_of {h g h' : Heap} {L : Addr} {adr : List Addr} {led : List (Addr × Obj)} (G : GSub h g adr) (N : News g L h' led) : Fresh h led adr := fun p hp n => by
  cases e : h.get? p.1 with
  | none => rfl
  | some o => have := G p.1 o e n; rw [(N p hp).2.2] at this; cases this
theorem Fresh.sub {h : Heap} {led led' : List (Addr × Obj)} {adr : List Addr} (x : Fresh h led adr) (s : ∀ p ∈ led', p ∈ led) : Fresh h led' adr := fun p hp => x p (s p hp)

/-- the end of a called def's walk -/
theorem ctr_end {h₀ h g h' : Heap} {L L' : Addr} {m m' : Str → Option Value} {adr : List Addr} {led led' : List (Addr × Obj)} {R : Value → List (Addr × Obj) → Prop} {Q : Value → Shared → Prop} {s : Shared} {r : Value} {tk' : Nat}
    (ret : ∀ r led' h' tk', Fr h₀ L h' m → News h₀ L h' led' → Kept h h' adr → Fresh h led' adr → R r led' → Q r { s with heap := h', toks := tk' })
    (G : GSub h g adr) (F : Fr h₀ L h' m) (N : News h₀ L h' led) (F' : Fr g L' h' m') (N' : News g L' h' led) (hs : ∀ p ∈ led', p ∈ led) (hR : R r led') : Q r { s with heap := h', toks := tk' } :=
  ret r led' h' tk' F (fun p hp => N p (hs p hp)) (kept_of G F') ((fresh_of G N').sub hs) hR

section
variable {w : World} {loose : List Str} {mean : ExcName → Option Value} {mg mb : Str → Option Value} {f : Addr} {vs : List Value} {D : Nat} {led all rest : List (Addr × Obj)} {P : Heap → Prop} {R : Value → List (Addr × Obj) → Prop}
  {dp un : Nat} {gd : Option (List Code)} {cn : Str} {cs : Scope} {a : Addr} {ccd : Value} {cl : List (Str × Addr)} {outer : List Env} {A₀ : Around} {base h₀ : Heap} {L : Addr} {m : Str → Option Value} {s : Shared} {Q E : Value → Shared → Prop}
noncomputable def AllNe (d : Nat) : List (Addr × Obj) → Prop
  | [] => True
  | p :: r => @Ne Nat p.1 d ∧ AllNe d r
theorem allNe_of {d : Addr} : ∀ {l : List (Addr × Obj)}, (∀ p ∈ l, p.1 ≠ d) → AllNe d l
  | [], _ => trivial
  | p :: _, h => ⟨h p (.head _), allNe_of fun q hq => h q (.tail _ hq)⟩
/-- new objects lie apart from what stood -/
noncomputable def Apart (all : List (Addr × Obj)) (adr : List Addr) : List (Addr × Obj) → Prop
  | [] => True
  | p :: r => (p.1 ∉ adr → AllNe p.1 all) ∧ Apart all adr r
theorem ne_of_get {h : Heap} {a b : Addr} {o : Obj} (x : h.get? a = none) (y : h.get? b = some o) (e : b = a) : False := by
  rw [e, x] at y; cases y
theorem apart_of {h : Heap} {all : List (Addr × Obj)} {adr : List Addr} (N : ∀ p ∈ all, h.get? p.1 = some p.2) : ∀ {led' : List (Addr × Obj)}, Fresh h led' adr → Apart all adr led'
  | [], _ => trivial
  | p :: _, x => ⟨fun n => allNe_of fun q hq e => ne_of_get (x p (.head _) n) (N q hq) e, apart_of N fun q hq => x q (.tail _ hq)⟩
theorem Ctr.use (C : Ctr w loose mean mg mb f vs D led P R) (B : Below A₀ base outer h₀) (F : Fr h₀ L s.heap m) (X : (hd.heap_39 w.params).In h₀) (N : News h₀ L s.heap all) (T : Top topProg loose mean mg mb h₀) (hk : cs.kind = .function)
    (hsub : ∀ p ∈ led, p ∈ all) (hrest : ∀ p ∈ rest, p ∈ all) (hoff : ∀ p ∈ rest, p.1 ∉ led.map (·.1)) (hdp : dp + D < recursionLimit) (hun : un + 8 * D < cLine) (c1 : CodeHd base 41 37) (c2 : CodeHd base 34 30) (hP : P s.heap)
    (ret : ∀ r led' h' tk', Fr h₀ L h' m → News h₀ L h' (led' ++ rest) → Apart all (led.map (·.1)) led' → (∀ b o, s.heap.get? b = some o → b ∉ led.map (·.1) → h'.get? b = some o) → R r led' → Q r { s with heap := h', toks := tk' }) :
    wpAny (model Challenge.rw_pe0173_01.row.prog w) (ktrTop dp un gd cn cs L a ccd cl outer) (call (.ref f) vs) Q E s :=
  C dp un gd cn cs a ccd cl outer A₀ base h₀ L m s Q E B F X (fun p hp => N p (hsub p hp)) T hk hdp hun c1 c2 hP fun r led' h' tk' F' N' K' fr hR =>
    ret r led' h' tk' F' (fun p hp => (List.mem_append.mp hp).elim (N' p) fun hq => ⟨K' _ _ (N p (hrest p hq)).1 (hoff p hq), (N p (hrest p hq)).2⟩) (apart_of (fun q hq => (N q hq).1) fr) K' hR
/-- the same, where the call turns nothing of the caller's -/
theorem Ctr.use0 (C : Ctr w loose mean mg mb f vs D [] P R) (B : Below A₀ base outer h₀) (F : Fr h₀ L s.heap m) (X : (hd.heap_39 w.params).In h₀) (N : News h₀ L s.heap all) (T : Top topProg loose mean mg mb h₀) (hk : cs.kind = .function)
    (hdp : dp + D < recursionLimit) (hun : un + 8 * D < cLine) (c1 : CodeHd base 41 37) (c2 : CodeHd base 34 30) (hP : P s.heap)
    (ret : ∀ r led' h' tk', Fr h₀ L h' m → News h₀ L h' (led' ++ all) → Apart all [] led' → (∀ b o, s.heap.get? b = some o → h'.get? b = some o) → R r led' → Q r { s with heap := h', toks := tk' }) :
    wpAny (model Challenge.rw_pe0173_01.row.prog w) (ktrTop dp un gd cn cs L a ccd cl outer) (call (.ref f) vs) Q E s :=
  C.use B F X N T hk (fun _ h => nomatch h) (fun _ h => h) (fun _ _ h => nomatch h) hdp hun c1 c2 hP fun r led' h' tk' F' N' A' K' hR => ret r led' h' tk' F' N' A' (fun b o e => K' b o e (fun h => nomatch h)) hR
end

/-- what the state was made of is forgotten -/
theorem flat {α : Type} {M : Model} {A : Around} {t : Sem α} {Q : α → Shared → Prop} {E : Value → Shared → Prop} {s : Shared} {h g d k o} (hg : g = s.gens) (hd : d = s.drawn) (ho : o = s.os) (H : ∀ k, wpAny M A t Q E (Shared.mk h s.gens s.drawn k s.os)) : wpAny M A t Q E (Shared.mk h g d k o) := by
  subst hg hd ho; exact H k
/-- what is asked of the end gets a name -/
theorem abs1 {α : Type} {M : Model} {A : Around} {t : Sem α} {Q : α → Shared → Prop} {E : Value → Shared → Prop} {s : Shared} (h : ∀ P : α → Shared → Prop, (∀ a s, Q a s → P a s) → wpAny M A t P E s) : wpAny M A t Q E s := h Q fun _ _ h => h
theorem abs2 {α β : Type} {M : Model} {A : Around} {t : Sem α} {u : α → Sem β} {Q : β → Shared → Prop} {E : Value → Shared → Prop} {s : Shared} (h : ∀ P : β → Shared → Prop, (∀ a s, Q a s → P a s) → wpAny M A t (fun a s₂ => wpAny M A (u a) P E s₂) E s) : wpAny M A t (fun a s₂ => wpAny M A (u a) Q E s₂) E s := h Q fun _ _ h => h
/-- a def with cells entered: what the heap keeps is told -/
theorem enter_cells {prog : Program} {w : World} {A₀ A : Around} {s : Shared} {base h₀ : Heap} {outer : List Env} {L : Addr} {m : Str → Option Value} {env : Env} {news : List (Addr × Obj)}
    {K : Frag} {p : Program} {loose : List Str} {mean : ExcName → Option Value} {mg mb : Str → Option Value} {R : Result → Shared → Prop} {name qual : Str} {params : Arguments} {body : List Stmt} {scope : Scope} {dV kV doc pm cdv ct oc : Value} {an od : Option Addr} {osl : Array (Option Value)} {f : Addr} {args : Args} {binds : List (Str × Value)}
    (B : Below A₀ base outer h₀) (F : Fr h₀ L s.heap m) (X₀ : K.In h₀) (N : News h₀ L s.heap news) (T : Top p loose mean mg mb h₀) (hA : A.frames = some (env :: outer)) (hf : env.frame = some L) (hke : env.scope.kind = .function)
    (ho : K.lookup f = some ⟨oc, od, .func (fnOf name qual params body scope dV kV doc pm an cdv ct), osl⟩) (hcd : codeIn K cdv qual = true) (hroom : A.depth < recursionLimit)
    (hbind : BindsTo s (fnOf name qual params body scope dV kV doc pm an cdv ct) args binds) (hkind : (binds.all fun y => scope.names.lookup y.1 == some .local || scope.names.lookup y.1 == some .cell) = true)
    (hnd : ((cellsFrom 0 scope.names []).map (·.1)).Nodup)
    (h : ∀ g L' h₁ tk cells, Fr h₀ L g m → Fr g L' h₁ (bindL (envOfC qual scope L' f cdv).kindOf binds fun _ => none) → News g L' h₁ (cells ++ news) →
      CellsAre (bindC (envOfC qual scope L' f cdv).kindOf binds fun _ => none) (cellsFrom (L' + 1) scope.names []) cells → Below A base (env :: outer) g → K.In g → Top p loose mean mg mb g → (∀ p ∈ news, p.1 < L') → GSub s.heap g (news.map (·.1)) →
      wpAny (model prog w) (A.deeper (envOfC qual scope L' f cdv)) (execs body (envOfC qual scope L' f cdv))
        (fun fl s' => LeaveK h₀ L m g R (match fl with | .ret v => v | _ => .none) s')
        (fun e s' => wpAny (model prog w) (A.deeper (envOfC qual scope L' f cdv)) (leaving (envOfC qual scope L' f cdv) e) (fun _ s'' => R (.error e) s'') (fun e' s'' => R (.error e') s'') s')
        { s with heap := h₁, toks := tk })
    (hco : scope.isCoroutine = false) (hgen : scope.isGenerator = false) (hk : scope.kind = .function) : codeAny (model prog w) A (.call (.ref f) args) R s := by
  obtain ⟨FG, BG, st, lv⟩ := groundX (R := R) B F N hA hf hke
  refine codeAny_call_function hroom ((X₀.keeps F.keep) _ _ ho) rfl hco hgen rfl (codeRec_of (X₀.keeps F.keep) hcd) (hbind _ _ _ _ ?_)
  refine wpAny_newFunctionEnv_cells hk (kindsX hkind _) fun env' he s' x => ?_
  subst he
  refine ⟨(T.nolimit.keeps F.keep).keeps x.toInCall.keep, codeAny_func ?_⟩
  obtain ⟨h₁, tk, rfl, _⟩ := x.done
  have hk₁ := x.toInCall.keep
  obtain ⟨cells, NC, Y⟩ := Cl.news (h₀ := s.heap) (Nat.le_refl _) fun n c hm => ⟨x.cell n c (lookup_of_mem_nodup (cellsFrom_names scope.names 0 (s.heap.objs.size + 1) [] [] rfl ▸ hnd) hm), x.above n c hm⟩
  refine wpAny_mono (h _ s.heap.objs.size h₁ tk cells FG ⟨x.toInCall.ns, fun b o e => hk₁ b o (of_hideAll _ e), Nat.le_of_eq (hideAll_size _ _)⟩ (fun p hp => ?_) Y BG (X₀.keeps st) (T.keeps st) (fun p hp => Heap.lt_size (N p hp).1) (fun b o e n => hideAll_get _ e n)) (fun fl s' hl => lv _ _ hl) fun _ _ y => y
  rcases List.mem_append.mp hp with hp | hp
  · refine ⟨(NC p hp).1, (NC p hp).2.1, ?_⟩
    cases q : (hideAll s.heap (news.map (·.1))).get? p.1 with
    | none => rfl
    | some o => have := of_hideAll _ q; rw [(NC p hp).2.2] at this; cases this
  · exact ⟨hk₁ _ _ (N p hp).1, Nat.ne_of_lt (Heap.lt_size (N p hp).1), hideAll_none _ (List.mem_map_of_mem hp)⟩
end Mine
end
section
open PySem PySem.W PyProof.Rows PySem.Calls PySem.Spec
set_option maxHeartbeats 400000
namespace Mine
open PyProof.Rows.LCg
/-- a list comprehension of two clauses, names as targets, no tests -/
noncomputable abbrev lc2 (elt i0 i1 : Expr) (x0 x1 : Str) (p0 p1 : Pos) (scope : Scope) (pos : Pos) : Expr := .ListComp elt [⟨.Name x0 p0, i0, [], 0⟩, ⟨.Name x1 p1, i1, [], 0⟩] scope pos
theorem turn1 (elt i0 i1 : Expr) (x0 x1 : Str) (p0 p1 : Pos) (scope : Scope) (pos : Pos) (it acc : Value) (env : Env) :
    compTurn (lc2 elt i0 i1 x0 x1 p0 p1 scope pos) 1 it acc env = (standAt i1.pos >>= fun _ => pyNext it >>= fun r => match r with
      | none => pure (.done .next)
      | some v => letOwnedTupleGo (.Name x1 p1) it v >>= fun _ => assign (.Name x1 p1) env v >>= fun _ =>
        (eval elt env >>= fun x => call (.builtin "list.append") [acc, x] >>= fun _ => pure ()) >>= fun _ =>
          again (.compLoop (lc2 elt i0 i1 x0 x1 p0 p1 scope pos) 1 it acc env)) := by rfl
theorem turn0 (elt i0 i1 : Expr) (x0 x1 : Str) (p0 p1 : Pos) (scope : Scope) (pos : Pos) (it acc : Value) (env : Env) :
    compTurn (lc2 elt i0 i1 x0 x1 p0 p1 scope pos) 0 it acc env = (standAt i0.pos >>= fun _ => pyNext it >>= fun r => match r with
      | none => pure (.done .next)
      | some v => letOwnedTupleGo (.Name x0 p0) it v >>= fun _ => assign (.Name x0 p0) env v >>= fun _ =>
        eval i1 env >>= fun x => standAt i1.pos >>= fun _ => foldedSetIterable i1 env x >>= fun y => holding [y] (pyIter y) >>= fun it' =>
          runOwn (.compStart (lc2 elt i0 i1 x0 x1 p0 p1 scope pos) 1 it' acc env) env >>= fun _ =>
          again (.compLoop (lc2 elt i0 i1 x0 x1 p0 p1 scope pos) 0 it acc env)) := by rfl
section
variable {prog : Program} {w : World} {A : Around} {E : Value → Shared → Prop} {R : Result → Shared → Prop} {s : Shared}
theorem start1 {elt i0 i1 : Expr} {x0 x1 : Str} {p0 p1 : Pos} {scope : Scope} {pos : Pos} {it acc : Value} {env : Env}
    (h0 : codeAny (model prog w) A (.compLoop (lc2 elt i0 i1 x0 x1 p0 p1 scope pos) 1 it acc env) R s)
    (h : wpAny (model prog w) A (pyIter it) (fun it' s' => codeAny (model prog w) A (.compLoop (lc2 elt i0 i1 x0 x1 p0 p1 scope pos) 1 it' acc env) R s')
      (notedBy (model prog w) A env fun x s' => R (.error x) s') s) :
    codeAny (model prog w) A (.compStart (lc2 elt i0 i1 x0 x1 p0 p1 scope pos) 1 it acc env) R s := by
  refine codeAny_of_tree ?_
  show wpAny _ _ ((compStart (lc2 elt i0 i1 x0 x1 p0 p1 scope pos) 1 it acc env).onRaise (fun x => do noteFrame x env; standAt theWindowsPlace)) _ _ s
  refine wpAny_notedAt ?_
  unfold compStart
  show wpAny _ _ (ask >>= _) _ _ s
  refine wpAny_bind (wpAny_askSetting (wpAny_ite ?_))
  split
  · first
      | exact wpAny_bind (wpAny_pure (wpAny_pure (And.intro rfl h0)))
      | exact wpAny_pure (And.intro rfl h0)
  · first
      | exact wpAny_bind (wpAny_rule (wpAny_bind (wpAny_standAt (wpAny_bind (wpAny_mono h (fun it' s' h' => wpAny_pure (And.intro rfl h')) fun _ _ x => x)))))
      | (refine wpAny_bind (wpAny_rule ?_); show wpAny _ _ (standAt i1.pos >>= _) _ _ s; exact wpAny_bind (wpAny_standAt (wpAny_bind (wpAny_mono h (fun it' s' h' => wpAny_pure (And.intro rfl h')) fun _ _ x => x))))
theorem loop1 {elt i0 i1 : Expr} {x0 x1 : Str} {p0 p1 : Pos} {scope : Scope} {pos : Pos} {it acc : Value} {env : Env} (I : Nat → Shared → Prop)
    (turn : ∀ n s, I n s → wpAny (model prog w) A (pyNext it) (fun r s₁ => match r with
      | none => R (.ok .next) s₁
      | some v => wpAny (model prog w) A (assign (.Name x1 p1) env v) (fun _ s₂ => wpAny (model prog w) A (eval elt env) (fun x s₃ =>
          wpAny (model prog w) A (call (.builtin "list.append") [acc, x]) (fun _ s₄ => ∃ m, m < n ∧ I m s₄) (notedBy (model prog w) A env fun e s' => R (.error e) s') s₃)
          (notedBy (model prog w) A env fun e s' => R (.error e) s') s₂) (notedBy (model prog w) A env fun e s' => R (.error e) s') s₁) (notedBy (model prog w) A env fun e s' => R (.error e) s') s)
    (n : Nat) (h : I n s) : codeAny (model prog w) A (.compLoop (lc2 elt i0 i1 x0 x1 p0 p1 scope pos) 1 it acc env) R s := by
  refine codeAny_loop rfl I (fun n s hI => ?_) n h
  show wpAny _ _ ((compTurn (lc2 elt i0 i1 x0 x1 p0 p1 scope pos) 1 it acc env).onRaise (fun x => do noteFrame x env; theTreesLotGoes x)) _ _ s
  refine wpAny_noted ?_
  rw [turn1]
  refine wpAny_bind (wpAny_standAt (wpAny_bind (wpAny_mono (turn n s hI) (fun r s₁ h₁ => ?_) fun _ _ h' => h')))
  cases r with
  | none => exact wpAny_pure h₁
  | some v =>
    refine wpAny_bind (wpAny_of_eq (a := ()) rfl ?_)
    exact wpAny_bind (wpAny_mono h₁ (fun _ s₂ h₂ => wpAny_bind (wpAny_bind (wpAny_mono h₂ (fun x s₃ h₃ => wpAny_bind (wpAny_mono h₃
      (fun _ s₄ h₄ => wpAny_pure (wpAny_pure ⟨rfl, h₄⟩)) fun _ _ h' => h')) fun _ _ h' => h'))) fun _ _ h' => h')
theorem loop0 {elt i0 i1 : Expr} {x0 x1 : Str} {p0 p1 : Pos} {scope : Scope} {pos : Pos} {it acc : Value} {env : Env} (I : Nat → Shared → Prop)
    (turn : ∀ n s, I n s → wpAny (model prog w) A (pyNext it) (fun r s₁ => match r with
      | none => R (.ok .next) s₁
      | some v => wpAny (model prog w) A (assign (.Name x0 p0) env v) (fun _ s₂ => wpAny (model prog w) A (eval i1 env) (fun x s₃ =>
          wpAny (model prog w) A (pyIter x) (fun it' s₄ => codeAny (model prog w) A (.compStart (lc2 elt i0 i1 x0 x1 p0 p1 scope pos) 1 it' acc env) (fun r s₅ => match r with | .ok _ => ∃ m, m < n ∧ I m s₅ | .error _ => False) s₄) (fun _ _ => False) s₃)
          (fun _ _ => False) s₂) (fun _ _ => False) s₁) (fun _ _ => False) s)
    (n : Nat) (h : I n s) (hs : ∀ x, foldedSetIterable i1 env x = pure x) : codeAny (model prog w) A (.compLoop (lc2 elt i0 i1 x0 x1 p0 p1 scope pos) 0 it acc env) R s := by
  refine codeAny_loop rfl I (fun n s hI => ?_) n h
  show wpAny _ _ ((compTurn (lc2 elt i0 i1 x0 x1 p0 p1 scope pos) 0 it acc env).onRaise (fun x => do noteFrame x env; theTreesLotGoes x)) _ _ s
  refine wpAny_noted ?_
  rw [turn0]
  refine wpAny_bind (wpAny_standAt (wpAny_bind (wpAny_mono (turn n s hI) (fun r s₁ h₁ => ?_) fun _ _ h' => h'.elim)))
  cases r with
  | none => exact wpAny_pure h₁
  | some v =>
    refine wpAny_bind (wpAny_of_eq (a := ()) rfl ?_)
    refine wpAny_bind (wpAny_mono h₁ (fun _ s₂ h₂ => wpAny_bind (wpAny_mono h₂ (fun x s₃ h₃ => wpAny_bind (wpAny_standAt (wpAny_bind (wpAny_of_eq (hs x) (wpAny_bind (wpAny_holding (wpAny_mono h₃ (fun it' s₄ h₄ => ?_) fun _ _ h' => h'.elim))))))) fun _ _ h' => h'.elim)) fun _ _ h' => h'.elim)
    refine wpAny_bind (wpAny_runOwn (codeAny_mono h₄ fun r s₅ h₅ => ?_))
    cases r with
    | ok f => exact wpAny_pure ⟨rfl, h₅⟩
    | error e => exact h₅.elim
end
/-- each text with each sign behind it -/
noncomputable def growS (sg : PySem.Str) (ts : List PySem.Str) : List PySem.Str := ts.flatMap fun t => sg.cps.toList.map fun c => t ++ ⟨#[c]⟩
theorem growS_length (sg : PySem.Str) (ts : List PySem.Str) : (growS sg ts).length = ts.length * sg.cps.size := by
  unfold growS
  induction ts with
  | nil => simp
  | cons t r ih => rw [List.flatMap_cons, List.length_append, ih, List.length_map, Array.length_toList, List.length_cons, Nat.succ_mul]; omega
theorem growS_snoc (sg : PySem.Str) (ts : List PySem.Str) (t : PySem.Str) : growS sg (ts ++ [t]) = growS sg ts ++ sg.cps.toList.map (fun c => t ++ ⟨#[c]⟩) := by
  unfold growS; simp
theorem strValues_get {l : List (PySem.Str × Tok)} {i : Nat} {v : Value} (h : (strValues l).toArray[i]? = some v) : ∃ t u, l[i]? = some (t, u) ∧ v = .str t u := by
  rw [List.getElem?_toArray, strValues, List.getElem?_map] at h
  cases e : l[i]? with
  | none => rw [e] at h; cases h
  | some p => rw [e] at h; cases h; exact ⟨p.1, p.2, rfl, rfl⟩
theorem take_snoc {α : Type} {l : List α} {i : Nat} {x : α} (h : l[i]? = some x) : l.take (i + 1) = l.take i ++ [x] := by
  rw [List.take_add_one, h]; rfl
inductive GrowInv (s₁ : Shared) (I ax D C : Addr) (ts : List (PySem.Str × Tok)) (sg : PySem.Str) : Nat → Shared → Prop
  | mk (h : Heap) (tk i : Nat) (ys : List (PySem.Str × Tok)) (m' : PySem.Str → Option Value) (hi : i ≤ ts.length) (hst : h.IsListIter I ax i ∧ h.IsList ax (strValues ts).toArray) (hD : h.get? D = some (lst (strValues ys)))
    (hys : ys.map (·.1) = growS sg ((ts.take i).map (·.1))) (hn : h.Ns C m') (hk : ∀ b o, s₁.heap.get? b = some o → h.get? b = some o) : GrowInv s₁ I ax D C ts sg (ts.length + 1 - i) { s₁ with heap := h, toks := tk }
inductive GrowIn1 (s₁ : Shared) (I ax D C : Addr) (ts : List (PySem.Str × Tok)) (sg : PySem.Str) (St : Nat → Heap → Prop) (i : Nat) (t : PySem.Str) (tt : Tok) (x0 : PySem.Str) : Nat → Shared → Prop
  | mk (h : Heap) (tk j : Nat) (zs : List (PySem.Str × Tok)) (m'' : PySem.Str → Option Value) (hj : j ≤ sg.cps.size) (hst : St j h) (hD : h.get? D = some (lst (strValues zs)))
    (hzs : zs.map (·.1) = growS sg ((ts.take i).map (·.1)) ++ (sg.cps.toList.take j).map (fun c => t ++ ⟨#[c]⟩)) (hn : h.Ns C m'') (hx : m'' x0 = some (.str t tt)) (hit : h.IsListIter I ax (i + 1) ∧ h.IsList ax (strValues ts).toArray) (hk : ∀ b o, s₁.heap.get? b = some o → h.get? b = some o) : GrowIn1 s₁ I ax D C ts sg St i t tt x0 (sg.cps.size + 1 - j) { s₁ with heap := h, toks := tk }
theorem sub_step {i n : Nat} (h : i < n) : n + 1 - (i + 1) < n + 1 - i := by omega
section
variable {prog : Program} {w : World} {A : Around} {E : Value → Shared → Prop} {s : Shared} {h₀ : Heap} {L : Addr} {m : Str → Option Value} {env : Env} {news : List (Addr × Obj)}
theorem Assign_grow {elt i0 i1 : Expr} {x0 x1 y : Str} {p0 p1 py : Pos} {scope : Scope} {cl : List (Str × Addr)} {pos spos : Pos} {Q : Flow → Shared → Prop} {ax : Addr} {ts : List (PySem.Str × Tok)} {sg : PySem.Str}
    (F₀ : Fr h₀ L s.heap m) (N₀ : News h₀ L s.heap news) (hLe : env.locals = L) (hA : A.handled = none)
    (hsw : swapsWith (lc2 elt i0 i1 x0 x1 p0 p1 scope pos) (some (.Name y py)) spos.line env = pure true)
    (hclos : closureFor scope env = pure cl) (hcell : ∀ z ∈ scope.names, z.2 ≠ .cell) (hkind : scope.kind = .function)
    (hnames : ∀ z ∈ scope.names, z.2 = .local → scope.names.lookup z.1 = some .local) (hx0 : scope.names.lookup x0 = some .local) (hx1 : scope.names.lookup x1 = some .local) (hne : x0 ≠ x1)
    (hy : env.kindOf y = some .local) (hp : (env.scope.kind == .class || (env.scope.kind == .module && env.locals != env.globals)) = false)
    (hi : wpAny (model prog w) A (eval i0 env) (fun v s' => v = .ref ax ∧ s' = s) E s)
    (hl : s.heap.IsList ax (strValues ts).toArray) (hsz : (ts.length + 1) * sg.cps.size ≤ sizeLine)
    (hc : ∀ (C : Addr) (s' : Shared) (Q' : Value → Shared → Prop) (E' : Value → Shared → Prop), (∀ t k, Q' (.str sg t) { s' with toks := k }) → wpAny (model prog w) A (eval i1 (compEnvC scope cl C env)) Q' E' s')
    (helt : ∀ (C : Addr) (m₂ : Str → Option Value) (s' : Shared) (t : PySem.Str) (tt : Tok) (c : Nat) (tu : Tok) (Q' : Value → Shared → Prop) (E' : Value → Shared → Prop), t ∈ ts.map (·.1) → s'.heap.Ns C m₂ → m₂ x0 = some (.str t tt) → m₂ x1 = some (.str ⟨#[c]⟩ tu) →
      (∀ t' k, Q' (.str (t ++ ⟨#[c]⟩) t') { s' with toks := k }) → wpAny (model prog w) A (eval elt (compEnvC scope cl C env)) Q' E' s')
    (fin : ∀ D ys h tk, ys.map (·.1) = growS sg (ts.map (·.1)) → Fr h₀ L h (fun z => if z = y then some (.ref D) else m z) → News h₀ L h ((D, lst (strValues ys)) :: news) → (∀ p ∈ news, p.1 < D) → Q .next { s with heap := h, toks := tk })
    (hs0 : ∀ x, foldedSetIterable i0 env x = pure x := by intro _; rfl) (hs1 : ∀ C x, foldedSetIterable i1 (compEnvC scope cl C env) x = pure x := by intro _ _; rfl) :
    wpAny (model prog w) A (exec (.Assign [.Name y py] (lc2 elt i0 i1 x0 x1 p0 p1 scope pos) spos) env) Q E s := by
  subst hLe
  rw [exec_Assign_Name_used _ _ _ _ hsw]
  refine wpAny_bind (wpAny_standAt (wpAny_bind ?_))
  show wpAny _ A (do let _ ← comprehension (lc2 elt i0 i1 x0 x1 p0 p1 scope pos) scope env _ (newList []) false (eval i0 env) (some (assign (.Name y py) env))) _ _ s
  refine wpAny_bind (wpAny_mono (wpAny_comprehension_free (use := some (assign (.Name y py) env)) (Q := fun _ s' => Q .next s') rfl hs0 hclos hkind hnames
    (wpAny_mono hi (fun xv s₁ h₁ => ?_) fun _ _ e => e)) (fun _ s' hq => wpAny_pure (wpAny_pure hq)) fun _ _ e => e)
  obtain ⟨rfl, rfl⟩ := h₁
  have hlt : ax < s₁.heap.objs.size := by obtain ⟨_, e, _⟩ := hl; exact Heap.lt_size e
  refine wpAny_pyIter_list hl ?_
  refine wpAny_newObj_type (wpAny_newFunctionEnv hcell (by intro y hy; simp at hy) (fun h₁ hns₁ hsb₁ => ?_) hkind)
  dsimp only at hns₁ hsb₁ ⊢
  generalize hH1 : s₁.heap.push { cls := .type "list_iterator", data := .fields #[.ref ax, .int 0 0] } = H1 at hns₁ hsb₁ ⊢
  have hD : H1.objs.size = s₁.heap.objs.size + 1 := by rw [← hH1, Heap.size_push]
  generalize hH2 : H1.push { cls := .type "list", dict := none, data := .seq ([] : List Value).toArray } = H2 at hns₁ hsb₁ ⊢
  have hC : H2.objs.size = s₁.heap.objs.size + 2 := by rw [← hH2, Heap.size_push, hD]
  have hDC : H1.objs.size ≠ H2.objs.size := by omega
  have hIC : s₁.heap.objs.size ≠ H2.objs.size := by omega
  have hID : s₁.heap.objs.size ≠ H1.objs.size := by omega
  have ll1 : s₁.heap.objs.size < H1.objs.size := by omega
  have ll2 : s₁.heap.objs.size < H2.objs.size := by omega
  have olt : ∀ b o, s₁.heap.get? b = some o → b ≠ s₁.heap.objs.size ∧ b ≠ H1.objs.size ∧ b ≠ H2.objs.size := fun b o e => ⟨Nat.ne_of_lt (Heap.lt_size e), Nat.ne_of_lt (Nat.lt_trans (Heap.lt_size e) ll1), Nat.ne_of_lt (Nat.lt_trans (Heap.lt_size e) ll2)⟩
  have old : ∀ b o, s₁.heap.get? b = some o → h₁.get? b = some o := fun b o e => hsb₁.extBut b o (olt b o e).2.2 (Heap.get?_push_of_some _ (hH2 ▸ Heap.get?_push_of_some _ (hH1 ▸ Heap.get?_push_of_some _ e)))
  have hit₁ : h₁.get? s₁.heap.objs.size = some { cls := .type "list_iterator", data := .fields #[.ref ax, .int 0 0] } := hsb₁.extBut _ _ hIC (Heap.get?_push_of_some _ (hH2 ▸ Heap.get?_push_of_some _ (hH1 ▸ Heap.get?_push_size _ rfl)))
  have hacc : h₁.get? H1.objs.size = some (lst []) := hsb₁.extBut _ _ hDC (Heap.get?_push_of_some _ (hH2 ▸ Heap.get?_push_size _ rfl))
  generalize hIe : s₁.heap.objs.size = I at hD hC hlt hIC hID hit₁ olt ll1 ll2
  generalize H1.objs.size = D at *
  generalize H2.objs.size = C at *
  clear hH1 hH2 hsb₁
  have W := Walks.list (prog := prog) (w := w) hA I ax (Nat.ne_of_lt hlt) (strValues ts).toArray
  have hlen : (strValues ts).toArray.size = ts.length := by simp [strValues]
  rw [hlen] at W
  have loop : ∀ s₃ : Shared, s₃ = { s₁ with heap := h₁, toks := s₁.toks + ([] : List (Str × Value)).length } →
      codeAny (model prog w) A (.compLoop (lc2 elt i0 i1 x0 x1 p0 p1 scope pos) 0 (.ref I) (.ref D) (compEnvC scope cl C env))
        (compPost (model prog w) A E (some (assign (.Name y py) env)) (fun _ s' => Q .next s') (.ref D) C) s₃ := by
    rintro s₃ rfl
    refine loop0 (GrowInv s₁ I ax D C ts sg) ?_ (ts.length + 1)
      (.mk h₁ _ 0 [] _ (Nat.zero_le _) ⟨⟨_, hit₁, rfl, rfl⟩, hl.at fun o e => old _ o e⟩ hacc (by simp [growS]) hns₁ old) (hs1 C)
    rintro _ _ ⟨h, tk, i, ys, m', hi', hst, hD', hys, hn', hk⟩
    by_cases hlt' : i < ts.length
    · refine W.item i _ _ _ hlt' hst fun v h₂ tk₂ hPv hst₂ hk₂ => ?_
      obtain ⟨t, tt, het, rfl⟩ := strValues_get hPv
      have hmem : t ∈ ts.map (·.1) := List.mem_map.mpr ⟨(t, tt), List.mem_of_getElem? het, rfl⟩
      refine wpAny_assign_Name (wpAny_storeName_local (lookup_relabel_local hx0) (hn'.at' fun o e => hk₂ _ o (by simpa using Ne.symm hIC) e) (fun h₃ hn₃ hs₃ => ?_) (by simp [compEnvC, relabel, hkind]))
      refine hc C _ _ _ fun tc tk₃ => ?_
      refine wpAny_pyIter_str fun oS St WS hS0 => ?_
      have W1 := WS A hA
      have kI : I ∉ [I] → False := fun h => h (List.mem_singleton.mpr rfl)
      have st₃ : h₃.IsListIter I ax (i + 1) ∧ h₃.IsList ax (strValues ts).toArray := W.frame _ _ _ hst₂ fun b hb o e => hs₃.extBut b o (by
        rcases List.mem_cons.mp hb with rfl | hb
        · exact hIC
        · obtain ⟨_, ea, _⟩ := hl; rw [List.mem_singleton.mp hb]; exact (olt ax _ ea).2.2) e
      have D₃ : h₃.get? D = some (lst (strValues ys)) := hs₃.extBut _ _ hDC (hk₂ _ _ (by simpa using Ne.symm hID) hD')
      have k₃ : ∀ b o, s₁.heap.get? b = some o → h₃.get? b = some o := fun b o e => hs₃.extBut b o (olt b o e).2.2 (hk₂ _ _ (by simpa using (olt b o e).1) (hk b o e))
      have hDI' : D ≠ h₃.objs.size := Nat.ne_of_lt (Heap.lt_size D₃)
      have hCI' : C ≠ h₃.objs.size := Nat.ne_of_lt hn₃.lt
      have hII' : I ≠ h₃.objs.size := by obtain ⟨_, ea, _⟩ := st₃.1; exact Nat.ne_of_lt (Heap.lt_size ea)
      have up : ∀ b o, h₃.get? b = some o → (h₃.push oS).get? b = some o := fun b o e => Heap.get?_push_of_some _ e
      have inner : ∀ s₅ : Shared, s₅ = { s₁ with heap := h₃.push oS, toks := tk₃ } → codeAny (model prog w) A (.compLoop (lc2 elt i0 i1 x0 x1 p0 p1 scope pos) 1 (.ref h₃.objs.size) (.ref D) (compEnvC scope cl C env))
          (fun r s₅ => match r with | .ok _ => ∃ m₁, m₁ < ts.length + 1 - i ∧ GrowInv s₁ I ax D C ts sg m₁ s₅ | .error _ => False) s₅ := by
        rintro s₅ rfl
        refine loop1 (GrowIn1 s₁ I ax D C ts sg St i t tt x0) ?_ (sg.cps.size + 1)
          (.mk _ _ 0 ys _ (Nat.zero_le _) hS0 (up _ _ D₃) (by rw [hys]; simp) (hn₃.at' fun o e => up _ o e) (by simp) ⟨st₃.1.at fun o e => up _ o e, st₃.2.at fun o e => up _ o e⟩ fun b o e => up _ _ (k₃ b o e))
        rintro _ _ ⟨h, tk, j, zs, m'', hj, hstj, hDj, hzs, hnj, hx0j, hitj, hkj⟩
        by_cases hjl : j < sg.cps.size
        · refine W1.item j _ _ _ hjl hstj fun v h₆ tk₆ hP₆ hst₆ hk₆ => ?_
          obtain ⟨c, u, hc₆, rfl⟩ := hP₆
          refine wpAny_assign_Name (wpAny_storeName_local (lookup_relabel_local hx1) (hnj.at' fun o e => hk₆ _ o (by simpa using hCI') e) (fun h₇ hn₇ hs₇ => ?_) (by simp [compEnvC, relabel, hkind]))
          refine helt C _ _ t tt c u _ _ hmem hn₇ (by simp [hne, hx0j]) (by simp) fun t' tk₇ => ?_
          have hD₇ : h₇.get? D = some (lst (strValues zs)) := hs₇.extBut _ _ hDC (hk₆ _ _ (by simpa using hDI') hDj)
          have hzl : zs.length = i * sg.cps.size + j := by
            have := congrArg List.length hzs
            simp only [List.length_map, List.length_append, growS_length, List.length_take, Array.length_toList, Nat.min_eq_left hi', Nat.min_eq_left hj] at this
            exact this
          refine append_at (hsz := ?hz) hD₇ ?hh
          case hz =>
            show (strValues zs).toArray.size ≤ sizeLine
            have e1 : (strValues zs).toArray.size = zs.length := by simp [strValues]
            rw [e1, hzl]
            refine Nat.le_trans ?_ hsz
            have : i * sg.cps.size ≤ ts.length * sg.cps.size := Nat.mul_le_mul_right _ hi'
            rw [Nat.succ_mul]; omega
          case hh =>
            intro h₈ hs₈ hD₈
            have hne8 : ∀ b, b ≠ D → ∀ o, h₇.get? b = some o → h₈.get? b = some o := fun b hb o e => hs₈.extBut b o hb e
            refine ⟨sg.cps.size + 1 - (j + 1), sub_step hjl, .mk h₈ tk₇ (j + 1) (zs ++ [(t ++ ⟨#[c]⟩, t')]) _ hjl (W1.frame _ _ _ hst₆ fun b hb o e => ?_) ?_ ?_ (hn₇.sameBut hs₈ (Ne.symm hDC)) (by simp [hne, hx0j]) ⟨hitj.1.at fun o e => ?_, hitj.2.at fun o e => ?_⟩ fun b o e => ?_⟩
            · rw [List.mem_singleton.mp hb] at e ⊢
              exact hne8 _ (Ne.symm hDI') _ (hs₇.extBut _ _ (Ne.symm hCI') e)
            · rw [hD₈]
              refine congrArg some ((lst_snoc (strValues zs) (.str (t ++ ⟨#[c]⟩) t')).trans ?_)
              simp [strValues]
            · rw [List.map_append, hzs, take_snoc (l := sg.cps.toList) (x := c) (by rw [Array.getElem?_toList]; exact hc₆), List.map_append, List.append_assoc]
              rfl
            · exact hne8 _ hID _ (hs₇.extBut _ _ hIC (hk₆ _ _ (by simpa using hII') e))
            · obtain ⟨_, ea, _⟩ := hl
              exact hne8 _ (olt ax _ ea).2.1 _ (hs₇.extBut _ _ (olt ax _ ea).2.2 (hk₆ _ _ (by simpa using Nat.ne_of_lt (Heap.lt_size (k₃ ax _ ea))) e))
            · exact hne8 _ (olt b o e).2.1 _ (hs₇.extBut _ _ (olt b o e).2.2 (hk₆ _ _ (by simpa using Nat.ne_of_lt (Heap.lt_size (k₃ b o e))) (hkj b o e)))
        · obtain rfl : j = sg.cps.size := Nat.le_antisymm hj (Nat.not_lt.mp hjl)
          refine W1.done _ _ _ hstj fun h₆ tk₆ hk₆ => ?_
          refine ⟨ts.length + 1 - (i + 1), sub_step hlt', .mk h₆ tk₆ (i + 1) zs m'' hlt' ⟨hitj.1.at fun o e => hk₆ _ _ (by simpa using hII') e, hitj.2.at fun o e => ?_⟩ (hk₆ _ _ (by simpa using hDI') hDj) ?_ (hnj.at' fun o e => hk₆ _ o (by simpa using hCI') e) (fun b o e => hk₆ _ _ (by simpa using Nat.ne_of_lt (Heap.lt_size (k₃ b o e))) (hkj b o e))⟩
          · obtain ⟨_, ea, _⟩ := hl
            exact hk₆ _ _ (by simpa using Nat.ne_of_lt (Heap.lt_size (k₃ ax _ ea))) e
          · rw [hzs, take_snoc het, List.map_append, List.map_cons, List.map_nil, growS_snoc, ← Array.length_toList, List.take_length]
      exact start1 (inner _ rfl) (W1.self 0 _ _ _ hS0 (inner _ rfl))
    · obtain rfl : i = ts.length := Nat.le_antisymm hi' (Nat.not_lt.mp hlt')
      refine W.done _ _ _ hst fun h₂ tk₂ hk₂ => ?_
      rw [List.take_length] at hys
      have k₂ : ∀ b o, s₁.heap.get? b = some o → h₂.get? b = some o := fun b o e => hk₂ _ _ (by simpa using (olt b o e).1) (hk b o e)
      have F₂ := F₀.keeps k₂
      have hLI : env.locals < s₁.heap.objs.size := F₀.ns.lt
      have hLC : C ≠ env.locals := Ne.symm (Nat.ne_of_lt (Nat.lt_trans hLI (hIe ▸ ll2)))
      have hLD : D ≠ env.locals := Ne.symm (Nat.ne_of_lt (Nat.lt_trans hLI (hIe ▸ ll1)))
      have fr₀ : ∀ b, s₁.heap.objs.size < b → h₀.get? b = none := fun b hb => by
        cases e : h₀.get? b with
        | none => rfl
        | some o => exact absurd (Heap.lt_size (F₀.keep b o e)) (Nat.not_lt.mpr (Nat.le_of_lt hb))
      have hC₀ : h₀.get? C = none := fr₀ C (hIe ▸ ll2)
      have hD₀ : h₀.get? D = none := fr₀ D (hIe ▸ ll1)
      show wpAny _ A (assign (.Name y py) env (.ref D)) _ _ _
      refine wpAny_assign_Name (wpAny_storeName_local hy F₂.ns (fun h₄ hn₄ hs₄ => ?_) hp)
      have F₄ : Fr h₀ env.locals h₄ (fun z => if z = y then some (.ref D) else m z) := F₂.set hn₄ hs₄
      refine ⟨m', (hn'.at' fun o e => hk₂ _ o (by simpa using Ne.symm hIC) e).sameBut hs₄ hLC, fun h₅ hs₅ => ?_⟩
      refine fin D ys h₅ _ hys (F₄.change hs₅ hLC hC₀) (fun p hp => ?_) fun p hp => Nat.lt_trans (Heap.lt_size (N₀ p hp).1) (hIe ▸ ll1)
      rcases List.mem_cons.mp hp with rfl | hp
      · exact ⟨hs₅.extBut _ _ hDC (hs₄.extBut _ _ hLD (hk₂ _ _ (by simpa using Ne.symm hID) hD')), hLD, hD₀⟩
      · have z := (N₀ p hp)
        exact ⟨hs₅.extBut _ _ (olt _ _ z.1).2.2 (hs₄.extBut _ _ z.2.1 (k₂ _ _ z.1)), z.2⟩
  exact codeAny_compStart_list (loop _ rfl) (W.self 0 _ _ _ ⟨⟨_, hit₁, rfl, rfl⟩, hl.at fun o e => old _ o e⟩ (loop _ rfl))
end
end Mine
end
section
open PySem PySem.W PyProof.Rows
open PySem.Builtin PySem.Builtin.Str PySem.Calls
set_option maxHeartbeats 0
set_option pp.deepTerms false
namespace Mine
/-- str.find with both bounds, both not negative -/
noncomputable def find4 (x y : PySem.Str) (i j : Int) : Int := match occurrences x y (fromIndex x.length i) (min (fromIndex x.length j) x.length) 1 with | k :: _ => (k : Int) | [] => -1
theorem gives_find4 (x y : PySem.Str) (i j : Int) (t u v v' : Tok) : Gives («str.find» ⟨[.str x t, .str y u, .int i v, .int j v'], []⟩) (.int (find4 x y i j)) := by
  show Gives (match occurrences x y (fromIndex x.length i) (min (fromIndex x.length j) x.length) 1 with | k :: _ => retInt k | [] => (do rule "str.find.not-found"; retInt (-1))) (.int (match occurrences x y (fromIndex x.length i) (min (fromIndex x.length j) x.length) 1 with | k :: _ => (k : Int) | [] => -1))
  cases occurrences x y (fromIndex x.length i) (min (fromIndex x.length j) x.length) 1 with
  | nil => exact .rule (.of_eq rfl)
  | cons k _ => exact .of_eq rfl
theorem find4_ {prog : Program} {w : World} {A : Around} {E : Value → Shared → Prop} {s : Shared} {x y : PySem.Str} {t u v v' : Tok} {i j : Int} {Q : Value → Shared → Prop} (hq : Q (.int (find4 x y i j) s.toks) { s with toks := s.toks + 1 }) : wpAny (model prog w) A (call (.builtin "str.find") [.str x t, .str y u, .int i v, .int j v']) Q E s :=
  call_gives F.slot_str_find (typeIs_str _ _ _) F.entry_str_find (F.args_str_find_4 _ _ _ _) (gives_find4 x y i j t u v v') hq
theorem find4_le (x y : PySem.Str) (i j : Int) : -1 ≤ find4 x y i j := by
  unfold find4; split <;> omega
/-- the loop of _ellipsis_match: the pieces that are left, the place -/
noncomputable def emLoop (got : PySem.Str) (e : Int) : List PySem.Str → Int → Bool
  | [], _ => true
  | x :: r, k => if find4 got x k e < 0 then false else emLoop got e r (find4 got x k e + x.length)
/-- _ellipsis_match of a pattern of five pieces -/
noncomputable def em5F (got p0 p1 p2 p3 p4 : PySem.Str) : Bool :=
  if (p0.length : Int) = 0 then
    (if (p4.length : Int) = 0 then emLoop got got.length [p0, p1, p2, p3, p4] 0
     else if Txt.endswith got p4 = true then (if (got.length : Int) - p4.length < 0 then false else emLoop got ((got.length : Int) - p4.length) [p0, p1, p2, p3] 0) else false)
  else if Txt.startswith got p0 = true then
    (if (p4.length : Int) = 0 then (if (got.length : Int) < p0.length then false else emLoop got got.length [p1, p2, p3, p4] p0.length)
     else if Txt.endswith got p4 = true then (if (got.length : Int) - p4.length < p0.length then false else emLoop got ((got.length : Int) - p4.length) [p1, p2, p3] p0.length) else false)
  else false
/-- _ellipsis_match of a text and dots behind it -/
noncomputable def em2F (got p0 p1 : PySem.Str) : Bool :=
  if Txt.startswith got p0 = true then (if (got.length : Int) < p0.length then false else emLoop got got.length [p1] p0.length) else false
section
/-- two maps differ at the listed names alone -/
noncomputable def Agree (st : List PySem.Str) (m₀ m : PySem.Str → Option Value) : Prop := ∀ z, st.contains z = false → m z = m₀ z
theorem Agree.refl (st : List PySem.Str) (m₀ : PySem.Str → Option Value) : Agree st m₀ m₀ := fun _ _ => rfl
theorem Agree.put {st : List PySem.Str} {m₀ m : PySem.Str → Option Value} {x : PySem.Str} {v : Option Value} (hx : st.contains x = true) (h : Agree st m₀ m) : Agree st m₀ (fun y => if y = x then v else m y) := fun z hz => by
  have e : z ≠ x := fun e => by rw [e, hx] at hz; cases hz
  show (if z = x then v else m z) = m₀ z
  rw [if_neg e]; exact h z hz
theorem Agree.base {st : List PySem.Str} {m₀ u : PySem.Str → Option Value} : Agree st m₀ (fun z => if st.contains z then u z else m₀ z) := fun z hz => by
  show (if st.contains z = true then u z else m₀ z) = m₀ z
  rw [if_neg (by rw [hz]; exact Bool.false_ne_true)]
theorem Agree.map {st : List PySem.Str} {m₀ m : PySem.Str → Option Value} (h : Agree st m₀ m) : m = fun z => if st.contains z then m z else m₀ z := by
  funext z
  cases q : st.contains z with
  | true => rfl
  | false => exact h z q
variable {prog : Program} {w : World} {A : Around} {E : Value → Shared → Prop} {s : Shared} {env : Env} {h₀ : Heap} {target : Expr} {body : List Stmt} {Q : Flow → Shared → Prop}
/-- a loop over items by what holds between its turns -/
theorem items_ind {ws : List (Addr × String)} {keep : List (Addr × Obj)} (J : List Itm → (PySem.Str → Option Value) → List (Addr × Obj) → Prop)
    (turn : ∀ a r m news, J (a :: r) m news → ∀ v h tk, a.Is v h → Fr h₀ env.locals h m → AllObj ws (fun its => News h₀ env.locals h (its ++ news) →
      wpAny (model prog w) A (assign target env v) (fun _ s₂ => wpAny (model prog w) A (execs body env) (UnrPostW h₀ env.locals { s with heap := h, toks := tk } its (fun m' n' => SubL keep n' ∧ J r m' n') Q) E s₂) E { s with heap := h, toks := tk }))
    (done : ∀ m news, J [] m news → ∀ h tk, Fr h₀ env.locals h m → News h₀ env.locals h news → Q .next { s with heap := h, toks := tk }) :
    ∀ xs m news, J xs m news → ItemsRest prog w A E h₀ env target body Q s ws keep xs m news := by
  have mono : ∀ (ws : List (Addr × String)) (k k' : List (Addr × Obj) → Prop), (∀ its, k its → k' its) → AllObj ws k → AllObj ws k' := by
    intro ws
    induction ws with
    | nil => exact fun k k' h hk => h _ hk
    | cons w r ih => exact fun k k' h hk o ho => ih _ _ (fun its => h _) (hk o ho)
  intro xs
  induction xs with
  | nil => exact fun m news hJ => ItemsRest.zero (done m news hJ)
  | cons a r ih =>
    intro m news hJ v h tk hv F
    refine mono ws _ _ (fun its hk N => ?_) (turn a r m news hJ v h tk hv F)
    refine wpAny_mono (hk N) (fun _ s₂ h₂ => wpAny_mono h₂ (fun f s₃ hp => ?_) fun _ _ e => e) fun _ _ e => e
    have fin : UnrEndW h₀ env.locals { s with heap := h, toks := tk } its (fun m' n' => SubL keep n' ∧ J r m' n') s₃ → UnrEndW h₀ env.locals { s with heap := h, toks := tk } its (fun m' n' => SubL keep n' ∧ ItemsRest prog w A E h₀ env target body Q s ws keep r m' n') s₃ := by
      rintro ⟨h', tk', m', news', e, F', N', off, hk', hJ'⟩
      exact ⟨h', tk', m', news', e, F', N', off, hk', ih m' news' hJ'⟩
    cases f with
    | ret v => exact hp
    | brk => exact hp
    | next => exact fin hp
    | cont => exact fin hp
end

section
variable {prog : Program} {w : World} {A : Around} {E : Value → Shared → Prop} {s : Shared} {env : Env} {h₀ : Heap} {Q : Flow → Shared → Prop}
/-- a block cut in two -/
theorem execs_cut {M : Model} (ys : List Stmt) : ∀ (xs : List Stmt) {s : Shared}, wpAny M A (execs xs env) (fun f s' => match f with | .next => wpAny M A (execs ys env) Q E s' | f => Q f s') E s → wpAny M A (execs (xs ++ ys) env) Q E s := by
  intro xs s h Γ p hΓ
  have g := h Γ p hΓ
  clear h
  revert s p
  induction xs with
  | nil => intro s p g; exact g Γ p hΓ
  | cons x r ih =>
    intro s p g
    show Sem.wp M Γ (execs (x :: (r ++ ys)) env) _ _ p s
    rw [execs_cons, Sem.wp_bind'] at g ⊢
    refine Sem.wp_mono M Γ _ (fun f p' s' h' => ?_) (fun _ _ _ h' => h') _ _ g
    cases f <;> first | exact ih _ h' | exact h'
/-- texts -/
inductive StrsV : List Value → List PySem.Str → Prop
  | nil : StrsV [] []
  | cons {vs ps} (p : PySem.Str) (t : Tok) (h : p.length < 100) : StrsV vs ps → StrsV (.str p t :: vs) (p :: ps)
noncomputable abbrev nSp : PySem.Str := PySem.Str.ofString "startpos"
noncomputable abbrev nEp : PySem.Str := PySem.Str.ofString "endpos"
noncomputable abbrev nWs : PySem.Str := PySem.Str.ofString "ws"
noncomputable abbrev nGot : PySem.Str := PySem.Str.ofString "got"
/-- what stands ahead of the loop -/
noncomputable def EmPost (h₀ : Heap) (L : Addr) (s : Shared) (tg : Tok) (news : List (Addr × Obj)) (got : PySem.Str) (res : Bool) (Q : Flow → Shared → Prop) (f : Flow) (s' : Shared) : Prop :=
  (∃ v, f = .ret v ∧ Q (.ret v) s') ∨
  (f = .next ∧ ∃ vs ps k e t1 t2 h tk D n m, s' = { s with heap := h, toks := tk } ∧ Fr h₀ L h m ∧ News h₀ L h ((D, W.listOf (List.toArray vs) n) :: news) ∧ m nSp = some (.int k t1) ∧ m nEp = some (.int e t2) ∧ m nWs = some (.ref D) ∧ m nGot = some (.str got tg) ∧ StrsV vs ps ∧ res = emLoop got e ps k)
theorem EmPost.rt {h₀ : Heap} {L : Addr} {s : Shared} {tg : Tok} {news : List (Addr × Obj)} {got : PySem.Str} {res : Bool} {Q : Flow → Shared → Prop} {v : Value} {s' : Shared} (h : Q (.ret v) s') : EmPost h₀ L s tg news got res Q (.ret v) s' := .inl ⟨v, rfl, h⟩
theorem EmPost.nx {h₀ : Heap} {L : Addr} {s : Shared} {tg : Tok} {news : List (Addr × Obj)} {got : PySem.Str} {res : Bool} {Q : Flow → Shared → Prop} {vs ps k e t1 t2 h tk D n m} {a : Addr × Obj} (F : Fr h₀ L h m) (N : News h₀ L h (a :: (D, W.listOf (List.toArray vs) n) :: news)) (h1 : m nSp = some (.int k t1)) (h2 : m nEp = some (.int e t2)) (h3 : m nWs = some (.ref D)) (h4 : m nGot = some (.str got tg)) (hS : StrsV vs ps) (hr : res = emLoop got e ps k) : EmPost h₀ L s tg news got res Q .next { s with heap := h, toks := tk } :=
  .inr ⟨rfl, vs, ps, k, e, t1, t2, h, tk, D, n, m, rfl, F, fun p hp => N p (List.Mem.tail _ hp), h1, h2, h3, h4, hS, hr⟩
section
variable {got p0 p1 p2 p3 p4 : PySem.Str}
theorem f5_1 (a : (p0.length : Int) ≠ 0) (b : Txt.startswith got p0 = false) : em5F got p0 p1 p2 p3 p4 = false := by unfold em5F; rw [if_neg a, if_neg (ne_true_of_eq_false b)]
theorem f5_2 (a : (p0.length : Int) ≠ 0) (b : Txt.startswith got p0 = true) (c : (p4.length : Int) ≠ 0) (d : Txt.endswith got p4 = false) : em5F got p0 p1 p2 p3 p4 = false := by unfold em5F; rw [if_neg a, if_pos b, if_neg c, if_neg (ne_true_of_eq_false d)]
theorem f5_3 (a : (p0.length : Int) ≠ 0) (b : Txt.startswith got p0 = true) (c : (p4.length : Int) ≠ 0) (d : Txt.endswith got p4 = true) (e : (got.length : Int) - p4.length < p0.length) : em5F got p0 p1 p2 p3 p4 = false := by unfold em5F; rw [if_neg a, if_pos b, if_neg c, if_pos d, if_pos e]
theorem f5_4 (a : (p0.length : Int) ≠ 0) (b : Txt.startswith got p0 = true) (c : (p4.length : Int) ≠ 0) (d : Txt.endswith got p4 = true) (e : ¬ (got.length : Int) - p4.length < p0.length) : em5F got p0 p1 p2 p3 p4 = emLoop got ((got.length : Int) - p4.length) [p1, p2, p3] p0.length := by unfold em5F; rw [if_neg a, if_pos b, if_neg c, if_pos d, if_neg e]
theorem f5_5 (a : (p0.length : Int) ≠ 0) (b : Txt.startswith got p0 = true) (c : (p4.length : Int) = 0) (e : (got.length : Int) < p0.length) : em5F got p0 p1 p2 p3 p4 = false := by unfold em5F; rw [if_neg a, if_pos b, if_pos c, if_pos e]
theorem f5_6 (a : (p0.length : Int) ≠ 0) (b : Txt.startswith got p0 = true) (c : (p4.length : Int) = 0) (e : ¬ (got.length : Int) < p0.length) : em5F got p0 p1 p2 p3 p4 = emLoop got got.length [p1, p2, p3, p4] p0.length := by unfold em5F; rw [if_neg a, if_pos b, if_pos c, if_neg e]
theorem f5_7 (a : (p0.length : Int) = 0) (c : (p4.length : Int) ≠ 0) (d : Txt.endswith got p4 = false) : em5F got p0 p1 p2 p3 p4 = false := by unfold em5F; rw [if_pos a, if_neg c, if_neg (ne_true_of_eq_false d)]
theorem f5_8 (a : (p0.length : Int) = 0) (c : (p4.length : Int) ≠ 0) (d : Txt.endswith got p4 = true) (e : (got.length : Int) - p4.length < 0) : em5F got p0 p1 p2 p3 p4 = false := by unfold em5F; rw [if_pos a, if_neg c, if_pos d, if_pos e]
theorem f5_9 (a : (p0.length : Int) = 0) (c : (p4.length : Int) ≠ 0) (d : Txt.endswith got p4 = true) (e : ¬ (got.length : Int) - p4.length < 0) : em5F got p0 p1 p2 p3 p4 = emLoop got ((got.length : Int) - p4.length) [p0, p1, p2, p3] 0 := by unfold em5F; rw [if_pos a, if_neg c, if_pos d, if_neg e]
theorem f5_10 (a : (p0.length : Int) = 0) (c : (p4.length : Int) = 0) : em5F got p0 p1 p2 p3 p4 = emLoop got got.length [p0, p1, p2, p3, p4] 0 := by unfold em5F; rw [if_pos a, if_pos c]
theorem f2_1 (b : Txt.startswith got p0 = false) : em2F got p0 p1 = false := by unfold em2F; rw [if_neg (ne_true_of_eq_false b)]
theorem f2_2 (b : Txt.startswith got p0 = true) (e : (got.length : Int) < p0.length) : em2F got p0 p1 = false := by unfold em2F; rw [if_pos b, if_pos e]
theorem f2_3 (b : Txt.startswith got p0 = true) (e : ¬ (got.length : Int) < p0.length) : em2F got p0 p1 = emLoop got got.length [p1] p0.length := by unfold em2F; rw [if_pos b, if_neg e]
theorem lp_1 {e k : Int} {ps : List PySem.Str} (h : find4 got p0 k e < 0) : emLoop got e (p0 :: ps) k = false := by unfold emLoop; rw [if_pos h]
theorem lp_2 {e k : Int} {ps : List PySem.Str} (h : ¬ find4 got p0 k e < 0) : emLoop got e (p0 :: ps) k = emLoop got e ps (find4 got p0 k e + p0.length) := by conv => lhs; unfold emLoop; rw [if_neg h]
end
theorem map_put {m : PySem.Str → Option Value} {X : PySem.Str} {a : Value} (h : m X = some a) : m = fun y => if y = X then some a else m y := by
  funext y
  by_cases e : y = X
  · rw [if_pos e, e, h]
  · rw [if_neg e]
theorem map_two {m : PySem.Str → Option Value} {X Y : PySem.Str} {a b : Value} (h1 : m X = some a) (h2 : m Y = some b) : m = fun y => if y = X then some a else if y = Y then some b else m y := by
  funext y
  by_cases e : y = X
  · rw [if_pos e, e, h1]
  by_cases e' : y = Y
  · rw [if_neg e, if_pos e', e', h2]
  rw [if_neg e, if_neg e']
theorem em_map {m : PySem.Str → Option Value} {a b d c : Value} (h1 : m nSp = some a) (h2 : m nEp = some b) (h3 : m nWs = some d) (h4 : m nGot = some c) :
    m = fun y => if y = nSp then some a else if y = nEp then some b else if y = nWs then some d else if y = nGot then some c else m y := by
  funext y
  by_cases e1 : y = nSp
  · rw [if_pos e1, e1, h1]
  by_cases e2 : y = nEp
  · rw [if_neg e1, if_pos e2, e2, h2]
  by_cases e3 : y = nWs
  · rw [if_neg e1, if_neg e2, if_pos e3, e3, h3]
  by_cases e4 : y = nGot
  · rw [if_neg e1, if_neg e2, if_neg e3, if_pos e4, e4, h4]
  rw [if_neg e1, if_neg e2, if_neg e3, if_neg e4]
theorem fr_two {g : Heap} {L : Addr} {h : Heap} {m : PySem.Str → Option Value} {X Y : PySem.Str} {a b : Value} (F : PyProof.Rows.Fr g L h m) (h1 : m X = some a) (h2 : m Y = some b) : ∃ u : PySem.Str → Option Value, PyProof.Rows.Fr g L h (fun y => if y = X then some a else if y = Y then some b else u y) := ⟨m, by rw [map_two h1 h2] at F; exact F⟩
theorem fr_three {g : Heap} {L : Addr} {h : Heap} {m : PySem.Str → Option Value} {X Y Z : PySem.Str} {a b c : Value} (F : PyProof.Rows.Fr g L h m) (h1 : m X = some a) (h2 : m Y = some b) (h3 : m Z = some c) : PyProof.Rows.Fr g L h (fun y => if y = X then some a else if y = Y then some b else if y = Z then some c else m y) := by
  rw [map_two h1 h2, map_put h3] at F; exact F
noncomputable def EmJ (e : Int) (t2 tg : Tok) (got : PySem.Str) (res : Bool) (news : List (Addr × Obj)) (xs : List Itm) (m : PySem.Str → Option Value) (nx : List (Addr × Obj)) : Prop :=
  ∃ vs ps k t1, xs = vs.map .val ∧ StrsV vs ps ∧ res = emLoop got e ps k ∧ nx = news ∧ m nSp = some (.int k t1) ∧ m nEp = some (.int e t2) ∧ m nGot = some (.str got tg)
theorem EmJ.mk {e : Int} {t2 tg : Tok} {got : PySem.Str} {res : Bool} {news : List (Addr × Obj)} {vs ps k t1} {m : PySem.Str → Option Value} (hS : StrsV vs ps) (hr : res = emLoop got e ps k) (h1 : m nSp = some (.int k t1)) (h2 : m nEp = some (.int e t2)) (h3 : m nGot = some (.str got tg)) : EmJ e t2 tg got res news (vs.map .val) m news := ⟨vs, ps, k, t1, rfl, hS, hr, rfl, h1, h2, h3⟩
theorem em_join {a b c d e f g i : Stmt} {ys : List Stmt} {tg : Tok} {m₀ : PySem.Str → Option Value} {news : List (Addr × Obj)} {got : PySem.Str} {res : Bool} {L : Addr} (hL : env.locals = L) (_F : Fr h₀ L s.heap m₀) (_N : News h₀ L s.heap news)
    (pre : wpAny (model prog w) A (execs [a, b, c, d, e, f, g, i] env) (EmPost h₀ L s tg news got res Q) E s)
    (next : ∀ vs ps k e t1 t2 (u : PySem.Str → Option Value) h tk D n, Fr h₀ L h (fun y => if y = PySem.Str.ofString "startpos" then some (.int k t1) else if y = PySem.Str.ofString "endpos" then some (.int e t2) else if y = PySem.Str.ofString "ws" then some (.ref D) else if y = PySem.Str.ofString "got" then some (.str got tg) else u y) → News h₀ L h ((D, W.listOf (List.toArray vs) n) :: news) → StrsV vs ps → res = emLoop got e ps k → wpAny (model prog w) A (execs ys env) Q E { s with heap := h, toks := tk }) :
    wpAny (model prog w) A (execs (a :: b :: c :: d :: e :: f :: g :: i :: ys) env) Q E s := by
  refine execs_cut ys [a, b, c, d, e, f, g, i] (wpAny_mono pre (fun fl s' h => ?_) fun _ _ e => e)
  rcases h with ⟨v, rfl, h⟩ | ⟨rfl, vs, ps, k, e, t1, t2, h, tk, D, n, m, rfl, F, N, h1, h2, h3, h4, hS, hr⟩
  · exact h
  · rw [em_map h1 h2 h3 h4] at F
    exact next vs ps k e t1 t2 m h tk D n F N hS hr
end
theorem em (w : World) (loose mean mg mb) (want got : PySem.Str) (ps : List PySem.Str) (res : Bool) (tw tg : Tok) (h1 : want.length + 2 ≤ sizeLine) (h2 : got.length < 1000)
    (hin : (occurrences want (PySem.Str.ofString "...") 0 want.length 1).isEmpty = false) (hsp : Txt.split want (PySem.Str.ofString "...") = ps)
    (hps : (∃ p0 p1 p2 p3 p4 : PySem.Str, ps = [p0, p1, p2, p3, p4] ∧ res = em5F got p0 p1 p2 p3 p4 ∧ p0.length < 100 ∧ p1.length < 100 ∧ p2.length < 100 ∧ p3.length < 100 ∧ p4.length < 100) ∨ ∃ p0 p1 : PySem.Str, ps = [p0, p1] ∧ res = em2F got p0 p1 ∧ 0 < p0.length ∧ p0.length < 100 ∧ p1.length = 0) :
    Ctr w loose mean mg mb 63 [.str want tw, .str got tg] 1 [] (fun _ => True) (fun r led => r = .bool res ∧ led = []) := by
  unfold Ctr
  w_top off
  k_fill
  intro dp un gd cn cs a ccd cl outer A₀ base h₀ L m s Q E B F X N T hk hd hu c1 c2 hP hret
  refine wpAny_call ?_
  k_dflt ((refine' code_defG ?en_k1 ?en_k2 ?en_k3 ?en_k4 ?en_k5 ?en_kA ?en_kF ?en_kK ?en_k6 ?en_k7 ?en_k8 ?en_k9 ?en_kB ?_ ?en_c2 ?en_c3 ?en_c4 ?en_c5; (case en_kA => exact rfl); (case en_kF => exact rfl); (case en_kK => assumption); (case en_k1 => k_asm); (case en_k2 => k_asm); (case en_k3 => k_asm); (case en_k4 => k_asm); (case en_k5 => k_asm); (case en_k6 => k_is); (case en_k7 => k_is); (case en_k8 => ktr_room); (case en_k9 => exact BindsTo.of_eq rfl); (case en_c5 => decide); (case en_kB => exact locs rfl); (case en_c2 => exact rfl); (case en_c3 => exact rfl); (case en_c4 => exact rfl); k_whole; intro g' L' h' FG' F' N' B' X' T' kG'; (try dsimp only); (try k_lift B'); (try k_fold)))
  rename Fr _ _ _ (fun _ => _) => F8
  obtain ⟨u8, F8⟩ := fr_two F8 (X := PySem.Str.ofString "want") (Y := PySem.Str.ofString "got") rfl rfl
  (repeat' (first | (k_unfold; (try dsimp only)) | (k_end; wrow_close) | ((with_reducible show wpAny _ _ (call (Value.builtin "str.find") [Value.str _ _, Value.str _ _, Value.int _ _, Value.int _ _]) _ _ _); refine find4_ ?_) | (k_here; (with_reducible show wpAny _ _ (call (Value.builtin "str.split") _) _ _ _); (refine KSpl.split1 (by k_asm) (by k_asm) (by decide) ?_ (by omega)); (intro Dw lw hw kw ew aw Fw Nw l1w); (try k_lt l1w); ((with_reducible rename (Txt.split _ _ = List.cons _ _) => hs9w); rw [hs9w] at ew); (kspl_open ew); (simp only [strValues, List.map_cons, List.map_nil] at Nw aw)) | ((fail_if_success (fail_if_success (with_reducible show wpAny _ _ (exec _ _) _ _ _))); k_fold) | ((fail_if_success (fail_if_success (with_reducible show wpAny _ _ (execs (_ :: _) _) _ _ (Shared.mk _ _ _ (HAdd.hAdd _ _) _)))); refine flat (s := s) rfl rfl rfl (fun _ => ?_)) | ((fail_if_success (with_reducible show wpAny _ _ (execs [_, _, _, _, _, _, _, _, _, _] _) _ _ _)); (fail_if_success (with_reducible show EmPost _ _ _ _ _ _ _ _ _ _)); (fail_if_success (with_reducible show wpAny _ _ (exec (Stmt.For _ _ _ _ _) _) _ _ _)); (fail_if_success (with_reducible show wpAny _ _ (pyIter _) _ _ _)); first | walk1 | (dsimp only; walk1) | (leave1; walk_say "STEP leave1"; try dsimp only)) | fail "no step"))
  k_dflt (refine' em_join (tg := tg) (got := got) (res := res) ?jL ?jF ?jN ?jpre ?jn; (case jL => exact rfl); (case jF => k_asm); (case jN => k_asm))
  case jpre =>
    refine abs1 fun P9 hP9 => ?_
    obtain ⟨p0, p1, p2, p3, p4, rfl, hr, l0, l1, l2, l3, l4⟩ | ⟨p0, p1, rfl, hr, l0, l0', l1⟩ := hps
    · (repeat' (first | (k_unfold; (try dsimp only)) | (k_end; wrow_close) | ((with_reducible show wpAny _ _ (call (Value.builtin "str.find") [Value.str _ _, Value.str _ _, Value.int _ _, Value.int _ _]) _ _ _); refine find4_ ?_) | (k_here; (with_reducible show wpAny _ _ (call (Value.builtin "str.split") _) _ _ _); (refine KSpl.split1 (by k_asm) (by k_asm) (by decide) ?_ (by omega)); (intro Dw lw hw kw ew aw Fw Nw l1w); (try k_lt l1w); ((with_reducible rename (Txt.split _ _ = List.cons _ _) => hs9w); rw [hs9w] at ew); (kspl_open ew); (simp only [strValues, List.map_cons, List.map_nil] at Nw aw)) | ((fail_if_success (fail_if_success (with_reducible show wpAny _ _ (exec _ _) _ _ _))); k_fold) | ((fail_if_success (fail_if_success (with_reducible show wpAny _ _ (execs (_ :: _) _) _ _ (Shared.mk _ _ _ (HAdd.hAdd _ _) _)))); refine flat (s := s) rfl rfl rfl (fun _ => ?_)) | ((fail_if_success (with_reducible show wpAny _ _ (execs [_, _, _, _, _, _, _, _, _, _] _) _ _ _)); (fail_if_success (with_reducible show EmPost _ _ _ _ _ _ _ _ _ _)); (fail_if_success (with_reducible show wpAny _ _ (exec (Stmt.For _ _ _ _ _) _) _ _ _)); (fail_if_success (with_reducible show wpAny _ _ (pyIter _) _ _ _)); first | walk1 | (dsimp only; walk1) | (leave1; walk_say "STEP leave1"; try dsimp only)) | fail "no step"))
      all_goals (first
        | (exfalso; omega)
        | (refine hP9 _ _ (EmPost.rt ?_); (repeat' (first | (k_unfold; (try dsimp only)) | (k_end; wrow_close) | ((with_reducible show wpAny _ _ (call (Value.builtin "str.find") [Value.str _ _, Value.str _ _, Value.int _ _, Value.int _ _]) _ _ _); refine find4_ ?_) | (k_here; (with_reducible show wpAny _ _ (call (Value.builtin "str.split") _) _ _ _); (refine KSpl.split1 (by k_asm) (by k_asm) (by decide) ?_ (by omega)); (intro Dw lw hw kw ew aw Fw Nw l1w); (try k_lt l1w); ((with_reducible rename (Txt.split _ _ = List.cons _ _) => hs9w); rw [hs9w] at ew); (kspl_open ew); (simp only [strValues, List.map_cons, List.map_nil] at Nw aw)) | ((fail_if_success (fail_if_success (with_reducible show wpAny _ _ (exec _ _) _ _ _))); k_fold) | ((fail_if_success (fail_if_success (with_reducible show wpAny _ _ (execs (_ :: _) _) _ _ (Shared.mk _ _ _ (HAdd.hAdd _ _) _)))); refine flat (s := s) rfl rfl rfl (fun _ => ?_)) | ((fail_if_success (with_reducible show wpAny _ _ (execs [_, _, _, _, _, _, _, _, _, _] _) _ _ _)); (fail_if_success (with_reducible show EmPost _ _ _ _ _ _ _ _ _ _)); (fail_if_success (with_reducible show wpAny _ _ (exec (Stmt.For _ _ _ _ _) _) _ _ _)); (fail_if_success (with_reducible show wpAny _ _ (pyIter _) _ _ _)); first | walk1 | (dsimp only; walk1) | (leave1; walk_say "STEP leave1"; try dsimp only)) | fail "no step")); (refine ctr_end (led := []) (led' := []) hret (by assumption) (by assumption) News.nil (by assumption) News.nil (fun _ h => nomatch h) ⟨congrArg Value.bool (Eq.symm ?_), rfl⟩))
        | (refine hP9 _ _ (EmPost.nx (by k_asm) (by k_asm) rfl rfl rfl rfl (.cons _ _ (by assumption) (.cons _ _ (by assumption) (.cons _ _ (by assumption) (.cons _ _ (by assumption) (.cons _ _ (by first | assumption | omega) .nil))))) ?_))
        | (refine hP9 _ _ (EmPost.nx (by k_asm) (by k_asm) rfl rfl rfl rfl (.cons _ _ (by assumption) (.cons _ _ (by assumption) (.cons _ _ (by assumption) (.cons _ _ (by first | assumption | omega) .nil)))) ?_))
        | (refine hP9 _ _ (EmPost.nx (by k_asm) (by k_asm) rfl rfl rfl rfl (.cons _ _ (by assumption) (.cons _ _ (by assumption) (.cons _ _ (by first | assumption | omega) .nil))) ?_)))
      all_goals (refine hr.trans ?_; first | exact f5_1 (by assumption) (by assumption) | exact f5_2 (by assumption) (by assumption) (by assumption) (by assumption) | exact f5_3 (by assumption) (by assumption) (by assumption) (by assumption) (by assumption) | exact f5_4 (by assumption) (by assumption) (by assumption) (by assumption) (by assumption) | exact f5_5 (by assumption) (by assumption) (by assumption) (by assumption) | exact f5_6 (by assumption) (by assumption) (by assumption) (by assumption) | exact f5_7 (by assumption) (by assumption) (by assumption) | exact f5_8 (by assumption) (by assumption) (by assumption) (by assumption) | exact f5_9 (by assumption) (by assumption) (by assumption) (by assumption) | exact f5_10 (by assumption) (by assumption))
    · (repeat' (first | (k_unfold; (try dsimp only)) | (k_end; wrow_close) | ((with_reducible show wpAny _ _ (call (Value.builtin "str.find") [Value.str _ _, Value.str _ _, Value.int _ _, Value.int _ _]) _ _ _); refine find4_ ?_) | (k_here; (with_reducible show wpAny _ _ (call (Value.builtin "str.split") _) _ _ _); (refine KSpl.split1 (by k_asm) (by k_asm) (by decide) ?_ (by omega)); (intro Dw lw hw kw ew aw Fw Nw l1w); (try k_lt l1w); ((with_reducible rename (Txt.split _ _ = List.cons _ _) => hs9w); rw [hs9w] at ew); (kspl_open ew); (simp only [strValues, List.map_cons, List.map_nil] at Nw aw)) | ((fail_if_success (fail_if_success (with_reducible show wpAny _ _ (exec _ _) _ _ _))); k_fold) | ((fail_if_success (fail_if_success (with_reducible show wpAny _ _ (execs (_ :: _) _) _ _ (Shared.mk _ _ _ (HAdd.hAdd _ _) _)))); refine flat (s := s) rfl rfl rfl (fun _ => ?_)) | ((fail_if_success (with_reducible show wpAny _ _ (execs [_, _, _, _, _, _, _, _, _, _] _) _ _ _)); (fail_if_success (with_reducible show EmPost _ _ _ _ _ _ _ _ _ _)); (fail_if_success (with_reducible show wpAny _ _ (exec (Stmt.For _ _ _ _ _) _) _ _ _)); (fail_if_success (with_reducible show wpAny _ _ (pyIter _) _ _ _)); first | walk1 | (dsimp only; walk1) | (leave1; walk_say "STEP leave1"; try dsimp only)) | fail "no step"))
      all_goals (first
        | (exfalso; omega)
        | (refine hP9 _ _ (EmPost.rt ?_); (repeat' (first | (k_unfold; (try dsimp only)) | (k_end; wrow_close) | ((with_reducible show wpAny _ _ (call (Value.builtin "str.find") [Value.str _ _, Value.str _ _, Value.int _ _, Value.int _ _]) _ _ _); refine find4_ ?_) | (k_here; (with_reducible show wpAny _ _ (call (Value.builtin "str.split") _) _ _ _); (refine KSpl.split1 (by k_asm) (by k_asm) (by decide) ?_ (by omega)); (intro Dw lw hw kw ew aw Fw Nw l1w); (try k_lt l1w); ((with_reducible rename (Txt.split _ _ = List.cons _ _) => hs9w); rw [hs9w] at ew); (kspl_open ew); (simp only [strValues, List.map_cons, List.map_nil] at Nw aw)) | ((fail_if_success (fail_if_success (with_reducible show wpAny _ _ (exec _ _) _ _ _))); k_fold) | ((fail_if_success (fail_if_success (with_reducible show wpAny _ _ (execs (_ :: _) _) _ _ (Shared.mk _ _ _ (HAdd.hAdd _ _) _)))); refine flat (s := s) rfl rfl rfl (fun _ => ?_)) | ((fail_if_success (with_reducible show wpAny _ _ (execs [_, _, _, _, _, _, _, _, _, _] _) _ _ _)); (fail_if_success (with_reducible show EmPost _ _ _ _ _ _ _ _ _ _)); (fail_if_success (with_reducible show wpAny _ _ (exec (Stmt.For _ _ _ _ _) _) _ _ _)); (fail_if_success (with_reducible show wpAny _ _ (pyIter _) _ _ _)); first | walk1 | (dsimp only; walk1) | (leave1; walk_say "STEP leave1"; try dsimp only)) | fail "no step")); (refine ctr_end (led := []) (led' := []) hret (by assumption) (by assumption) News.nil (by assumption) News.nil (fun _ h => nomatch h) ⟨congrArg Value.bool (Eq.symm ?_), rfl⟩))
        | (refine hP9 _ _ (EmPost.nx (by k_asm) (by k_asm) rfl rfl rfl rfl (.cons _ _ (by first | assumption | omega) .nil) ?_)))
      all_goals (refine hr.trans ?_; first | exact f2_1 (by assumption) | exact f2_2 (by assumption) (by assumption) | exact f2_3 (by assumption) (by assumption))
  intro vs ps k e t1 t2 u h tk D n F9 N9 hS hr
  (try dsimp only)
  (try k_fold)
  (repeat' (first | (k_unfold; (try dsimp only)) | (k_end; wrow_close) | ((with_reducible show wpAny _ _ (call (Value.builtin "str.find") [Value.str _ _, Value.str _ _, Value.int _ _, Value.int _ _]) _ _ _); refine find4_ ?_) | (k_here; (with_reducible show wpAny _ _ (call (Value.builtin "str.split") _) _ _ _); (refine KSpl.split1 (by k_asm) (by k_asm) (by decide) ?_ (by omega)); (intro Dw lw hw kw ew aw Fw Nw l1w); (try k_lt l1w); ((with_reducible rename (Txt.split _ _ = List.cons _ _) => hs9w); rw [hs9w] at ew); (kspl_open ew); (simp only [strValues, List.map_cons, List.map_nil] at Nw aw)) | ((fail_if_success (fail_if_success (with_reducible show wpAny _ _ (exec _ _) _ _ _))); k_fold) | ((fail_if_success (fail_if_success (with_reducible show wpAny _ _ (execs (_ :: _) _) _ _ (Shared.mk _ _ _ (HAdd.hAdd _ _) _)))); refine flat (s := s) rfl rfl rfl (fun _ => ?_)) | ((fail_if_success (with_reducible show wpAny _ _ (execs [_, _, _, _, _, _, _, _, _, _] _) _ _ _)); (fail_if_success (with_reducible show EmPost _ _ _ _ _ _ _ _ _ _)); (fail_if_success (with_reducible show wpAny _ _ (exec (Stmt.For _ _ _ _ _) _) _ _ _)); (fail_if_success (with_reducible show wpAny _ _ (pyIter _) _ _ _)); first | walk1 | (dsimp only; walk1) | (leave1; walk_say "STEP leave1"; try dsimp only)) | fail "no step"))
  k_dflt (rename Fr _ _ _ _ => lF'; refine For_turns lF' ?_; k_whole)
  (repeat' (first | (k_unfold; (try dsimp only)) | (k_end; wrow_close) | ((with_reducible show wpAny _ _ (call (Value.builtin "str.find") [Value.str _ _, Value.str _ _, Value.int _ _, Value.int _ _]) _ _ _); refine find4_ ?_) | (k_here; (with_reducible show wpAny _ _ (call (Value.builtin "str.split") _) _ _ _); (refine KSpl.split1 (by k_asm) (by k_asm) (by decide) ?_ (by omega)); (intro Dw lw hw kw ew aw Fw Nw l1w); (try k_lt l1w); ((with_reducible rename (Txt.split _ _ = List.cons _ _) => hs9w); rw [hs9w] at ew); (kspl_open ew); (simp only [strValues, List.map_cons, List.map_nil] at Nw aw)) | ((fail_if_success (fail_if_success (with_reducible show wpAny _ _ (exec _ _) _ _ _))); k_fold) | ((fail_if_success (fail_if_success (with_reducible show wpAny _ _ (execs (_ :: _) _) _ _ (Shared.mk _ _ _ (HAdd.hAdd _ _) _)))); refine flat (s := s) rfl rfl rfl (fun _ => ?_)) | ((fail_if_success (with_reducible show wpAny _ _ (execs [_, _, _, _, _, _, _, _, _, _] _) _ _ _)); (fail_if_success (with_reducible show EmPost _ _ _ _ _ _ _ _ _ _)); (fail_if_success (with_reducible show wpAny _ _ (exec (Stmt.For _ _ _ _ _) _) _ _ _)); (fail_if_success (with_reducible show wpAny _ _ (pyIter _) _ _ _)); first | walk1 | (dsimp only; walk1) | (leave1; walk_say "STEP leave1"; try dsimp only)) | fail "no step"))
  k_dflt (refine' iter_listTurns (vs := vs) ?h ?F ?N ?m ?c ?d ?_; (case h => with_unfolding_all rfl); (case F => k_asm); (case N => k_asm); (case m => k_mem); (case c => rfl); (case d => exact rfl); k_whole)
  intro I l1
  refine items_ind (EmJ e t2 tg got res _) ?turn ?done _ _ _ (EmJ.mk hS hr rfl rfl rfl)
  case turn =>
    rintro a9 r9 m9 n9 ⟨vs9, ps9, k9, t9, e9, S9, hr9, rfl, g1, g2, g3⟩ v9 h9 tk9 hv9 F9
    cases S9 with
    | nil => exact nomatch e9
    | @cons vs8 ps8 p8 t8 q8 S8 =>
    injection e9 with e1 e2
    subst e1 e2
    have hv : v9 = .str p8 t8 := hv9
    subst hv
    intro o9 ho9 N9
    refine abs2 fun P9 hP9 => ?_
    have F9 := fr_three F9 (X := PySem.Str.ofString "startpos") (Y := PySem.Str.ofString "endpos") (Z := PySem.Str.ofString "got") g1 g2 g3
    (try dsimp only)
    (try k_fold)
    (repeat' (first | (k_unfold; (try dsimp only)) | (k_end; wrow_close) | ((with_reducible show wpAny _ _ (call (Value.builtin "str.find") [Value.str _ _, Value.str _ _, Value.int _ _, Value.int _ _]) _ _ _); refine find4_ ?_) | (k_here; (with_reducible show wpAny _ _ (call (Value.builtin "str.split") _) _ _ _); (refine KSpl.split1 (by k_asm) (by k_asm) (by decide) ?_ (by omega)); (intro Dw lw hw kw ew aw Fw Nw l1w); (try k_lt l1w); ((with_reducible rename (Txt.split _ _ = List.cons _ _) => hs9w); rw [hs9w] at ew); (kspl_open ew); (simp only [strValues, List.map_cons, List.map_nil] at Nw aw)) | ((fail_if_success (fail_if_success (with_reducible show wpAny _ _ (exec _ _) _ _ _))); k_fold) | ((fail_if_success (fail_if_success (with_reducible show wpAny _ _ (execs (_ :: _) _) _ _ (Shared.mk _ _ _ (HAdd.hAdd _ _) _)))); refine flat (s := s) rfl rfl rfl (fun _ => ?_)) | ((fail_if_success (with_reducible show wpAny _ _ (execs [_, _, _, _, _, _, _, _, _, _] _) _ _ _)); (fail_if_success (with_reducible show EmPost _ _ _ _ _ _ _ _ _ _)); (fail_if_success (with_reducible show wpAny _ _ (exec (Stmt.For _ _ _ _ _) _) _ _ _)); (fail_if_success (with_reducible show wpAny _ _ (pyIter _) _ _ _)); first | walk1 | (dsimp only; walk1) | (leave1; walk_say "STEP leave1"; try dsimp only)) | fail "no step"))
    all_goals refine hP9 _ _ ?_
    all_goals (repeat' (first | (k_unfold; (try dsimp only)) | (k_end; wrow_close) | ((with_reducible show wpAny _ _ (call (Value.builtin "str.find") [Value.str _ _, Value.str _ _, Value.int _ _, Value.int _ _]) _ _ _); refine find4_ ?_) | (k_here; (with_reducible show wpAny _ _ (call (Value.builtin "str.split") _) _ _ _); (refine KSpl.split1 (by k_asm) (by k_asm) (by decide) ?_ (by omega)); (intro Dw lw hw kw ew aw Fw Nw l1w); (try k_lt l1w); ((with_reducible rename (Txt.split _ _ = List.cons _ _) => hs9w); rw [hs9w] at ew); (kspl_open ew); (simp only [strValues, List.map_cons, List.map_nil] at Nw aw)) | ((fail_if_success (fail_if_success (with_reducible show wpAny _ _ (exec _ _) _ _ _))); k_fold) | ((fail_if_success (fail_if_success (with_reducible show wpAny _ _ (execs (_ :: _) _) _ _ (Shared.mk _ _ _ (HAdd.hAdd _ _) _)))); refine flat (s := s) rfl rfl rfl (fun _ => ?_)) | ((fail_if_success (with_reducible show wpAny _ _ (execs [_, _, _, _, _, _, _, _, _, _] _) _ _ _)); (fail_if_success (with_reducible show EmPost _ _ _ _ _ _ _ _ _ _)); (fail_if_success (with_reducible show wpAny _ _ (exec (Stmt.For _ _ _ _ _) _) _ _ _)); (fail_if_success (with_reducible show wpAny _ _ (pyIter _) _ _ _)); first | walk1 | (dsimp only; walk1) | (leave1; walk_say "STEP leave1"; try dsimp only)) | fail "no step"))
    · refine ctr_end (led := []) (led' := []) hret (by assumption) (by assumption) News.nil (by assumption) News.nil (fun _ h => nomatch h) ⟨congrArg Value.bool (Eq.symm ?_), rfl⟩
      exact hr9.trans (lp_1 (by assumption))
    · have l2 := l1 _ (List.Mem.head _)
      exact UnrEndW.intro (by k_asm) (by k_asm) [_] ⟨List.Mem.head _, trivial⟩ ⟨List.Mem.tail _ (List.Mem.head _), trivial⟩ ⟨⟨.inl (Nat.ne_of_lt l2), trivial⟩, trivial⟩ ⟨⟨List.Mem.head _, trivial⟩, EmJ.mk S8 (hr9.trans (lp_2 (by assumption))) rfl rfl rfl⟩
  case done =>
    rintro m9 n9 ⟨vs9, ps9, k9, t9, e9, S9, hr9, rfl, g1, g2, g3⟩ h9 tk9 F9 N9
    cases S9 with
    | cons _ _ _ => exact nomatch e9
    | nil =>
    (try dsimp only)
    (try k_fold)
    (repeat' (first | (k_unfold; (try dsimp only)) | (k_end; wrow_close) | ((with_reducible show wpAny _ _ (call (Value.builtin "str.find") [Value.str _ _, Value.str _ _, Value.int _ _, Value.int _ _]) _ _ _); refine find4_ ?_) | (k_here; (with_reducible show wpAny _ _ (call (Value.builtin "str.split") _) _ _ _); (refine KSpl.split1 (by k_asm) (by k_asm) (by decide) ?_ (by omega)); (intro Dw lw hw kw ew aw Fw Nw l1w); (try k_lt l1w); ((with_reducible rename (Txt.split _ _ = List.cons _ _) => hs9w); rw [hs9w] at ew); (kspl_open ew); (simp only [strValues, List.map_cons, List.map_nil] at Nw aw)) | ((fail_if_success (fail_if_success (with_reducible show wpAny _ _ (exec _ _) _ _ _))); k_fold) | ((fail_if_success (fail_if_success (with_reducible show wpAny _ _ (execs (_ :: _) _) _ _ (Shared.mk _ _ _ (HAdd.hAdd _ _) _)))); refine flat (s := s) rfl rfl rfl (fun _ => ?_)) | ((fail_if_success (with_reducible show wpAny _ _ (execs [_, _, _, _, _, _, _, _, _, _] _) _ _ _)); (fail_if_success (with_reducible show EmPost _ _ _ _ _ _ _ _ _ _)); (fail_if_success (with_reducible show wpAny _ _ (exec (Stmt.For _ _ _ _ _) _) _ _ _)); (fail_if_success (with_reducible show wpAny _ _ (pyIter _) _ _ _)); first | walk1 | (dsimp only; walk1) | (leave1; walk_say "STEP leave1"; try dsimp only)) | fail "no step"))
    exact ctr_end (led := []) (led' := []) hret (by assumption) (by assumption) News.nil (by assumption) News.nil (fun _ h => nomatch h) ⟨congrArg Value.bool hr9.symm, rfl⟩
theorem em5 (w : World) (loose mean mg mb) (want got p0 p1 p2 p3 p4 : PySem.Str) (tw tg : Tok) (h1 : want.length + 2 ≤ sizeLine) (h2 : got.length < 1000)
    (hin : (occurrences want (PySem.Str.ofString "...") 0 want.length 1).isEmpty = false) (hsp : Txt.split want (PySem.Str.ofString "...") = [p0, p1, p2, p3, p4])
    (l0 : p0.length < 100) (l1 : p1.length < 100) (l2 : p2.length < 100) (l3 : p3.length < 100) (l4 : p4.length < 100) :
    Ctr w loose mean mg mb 63 [.str want tw, .str got tg] 1 [] (fun _ => True) (fun r led => r = .bool (em5F got p0 p1 p2 p3 p4) ∧ led = []) :=
  em w loose mean mg mb want got _ _ tw tg h1 h2 hin hsp (.inl ⟨p0, p1, p2, p3, p4, rfl, rfl, l0, l1, l2, l3, l4⟩)
theorem em2 (w : World) (loose mean mg mb) (want got p0 p1 : PySem.Str) (tw tg : Tok) (h1 : want.length + 2 ≤ sizeLine) (h2 : got.length < 1000)
    (hin : (occurrences want (PySem.Str.ofString "...") 0 want.length 1).isEmpty = false) (hsp : Txt.split want (PySem.Str.ofString "...") = [p0, p1])
    (l0 : 0 < p0.length) (l0' : p0.length < 100) (l1 : p1.length = 0) :
    Ctr w loose mean mg mb 63 [.str want tw, .str got tg] 1 [] (fun _ => True) (fun r led => r = .bool (em2F got p0 p1) ∧ led = []) :=
  em w loose mean mg mb want got _ _ tw tg h1 h2 hin hsp (.inr ⟨p0, p1, rfl, rfl, l0, l0', l1⟩)
end Mine
end
section
open PySem PySem.W PyProof.Rows PySem.Calls PySem.Spec
open PySem.Builtin PySem.Builtin.Str
set_option maxHeartbeats 0
set_option pp.deepTerms false
namespace Mine
open PyProof.Rows.LCg
section
variable {prog : Program} {w : World} {A : Around} {E : Value → Shared → Prop} {s : Shared} {h₀ : Heap} {L : Addr} {m : PySem.Str → Option Value} {env : Env} {news : List (Addr × Obj)}
/-- a comprehension over a list of texts whose element is a bool -/
theorem comp_bools {elt : Expr} {x : PySem.Str} {scope : Scope} {cl : List (PySem.Str × Addr)} {ts : List (PySem.Str × Tok)} {ax : Addr} {f : PySem.Str → Bool} {Fin : List Value → List (Addr × Obj) → Prop}
    (hm : SrcAt h₀ ax (strValues ts).toArray news)
    (rule : ∀ t tt I oI C oC D m₂ h tk ys (E' : Value → Shared → Prop) (Q' : Value → Shared → Prop), t ∈ ts.map (·.1) → NsObj oC m₂ → m₂ x = some (.str t tt) → Fr h₀ L h m → News h₀ L h ((I, oI) :: (C, oC) :: (D, lst ys) :: news) →
      (∀ h' tk', Fr h₀ L h' m → News h₀ L h' ((I, oI) :: (C, oC) :: (D, lst ys) :: news) → Q' (.bool (f t)) { s with heap := h', toks := tk' }) →
      wpAny (model prog w) A (eval elt (compEnvC scope cl C env)) Q' E' { s with heap := h, toks := tk })
    (fin : Fin ((ts.map fun p => f p.1).map Value.bool) news) :
    CompRest prog w A h₀ L m env elt x scope cl s (SrcAt h₀ ax (strValues ts).toArray) (fun i v => (strValues ts).toArray[i]? = some v) Fin (strValues ts).toArray.size 0 [] news := by
  have key : ∀ k i, k + i = ts.length → CompRest prog w A h₀ L m env elt x scope cl s (SrcAt h₀ ax (strValues ts).toArray) (fun i v => (strValues ts).toArray[i]? = some v) Fin k i (((ts.take i).map fun p => f p.1).map Value.bool) news := by
    intro k
    induction k with
    | zero => intro i hi; rw [Nat.zero_add] at hi; subst hi; rw [List.take_length]; exact CompRest.zero fin
    | succ k ih =>
      intro i hi
      refine CompRest.succ ?_
      intro v I oI C oC D m₂ h tk E' hv hC hx F N off ne
      obtain ⟨t, tt, het, rfl⟩ := strValues_get hv
      refine rule t tt I oI C oC D m₂ h tk _ E' _ (List.mem_map.mpr ⟨(t, tt), List.mem_of_getElem? het, rfl⟩) hC hx F N fun h' tk' F' N' => ?_
      refine CompEnd.intro F' N' news (fun p hp => hp) off hm ?_
      have := ih (i + 1) (by omega)
      rw [take_snoc het, List.map_append, List.map_append] at this
      exact this
  have e : (strValues ts).toArray.size = ts.length := by simp [strValues]
  rw [e]
  exact key ts.length 0 (by omega)
theorem readsAll_bools (h : Heap) (bs : List Bool) : ReadsAll h (bs.map Value.bool) (bs.map PyData.bool) [] := by
  induction bs with
  | nil => exact .nil
  | cons b r ih => exact .cons (as := []) (bs := []) (.bool b) ih
theorem countP_bools (bs : List Bool) : (bs.map Value.bool).toArray.toList.countP (isBoolOf true) = bs.count true := by
  show (bs.map Value.bool).countP (isBoolOf true) = _
  induction bs with
  | nil => rfl
  | cons b r ih => cases b <;> simp_all [isBoolOf, List.countP_cons, List.count_cons]
theorem count_bools {l : Addr} {bs : List Bool} {Q : Value → Shared → Prop} (hl : s.heap.IsList l (bs.map Value.bool).toArray) (h : Q (.int ((bs.count true : Nat) : Int) s.toks) { s with toks := s.toks + 1 }) :
    wpAny (model prog w) A (call (.builtin "list.count") [.ref l, .bool true]) Q E s := by
  refine count_list_bools hl (readsAll_bools s.heap bs) (by simp [Shape.has]) ?_
  rw [← countP_isBoolOf true (readsAll_bools s.heap bs) (by simp [Shape.has])]
  exact (countP_bools bs) ▸ h
end
/-- all texts of k letters, each a or b -/
noncomputable def textsF : Nat → List PySem.Str
  | 0 => [PySem.Str.ofString ""]
  | k + 1 => growS (PySem.Str.ofString "ab") (textsF k)
theorem append_length (x y : PySem.Str) : (x ++ y).length = x.length + y.length := Str.length_append x y
theorem textsF_len : ∀ k t, t ∈ textsF k → t.length = k
  | 0, t, h => by rw [List.mem_singleton.mp h]; rfl
  | k + 1, t, h => by
    obtain ⟨u, hu, hc⟩ := List.mem_flatMap.mp h
    obtain ⟨c, _, rfl⟩ := List.mem_map.mp hc
    rw [append_length, textsF_len k u hu]; rfl
theorem textsF_count : ∀ k, (textsF k).length = 2 ^ k
  | 0 => rfl
  | k + 1 => by
    show (growS _ _).length = _
    rw [growS_length, textsF_count k, Nat.pow_succ]; rfl
section
variable {prog : Program} {w : World} {A : Around} {E : Value → Shared → Prop} {s : Shared} {h₀ : Heap} {L : Addr} {m : PySem.Str → Option Value} {env : Env} {news : List (Addr × Obj)}
/-- the texts of k letters become those of k + 1 -/
theorem Assign_texts {x0 x1 y z : PySem.Str} {p0 p1 py pz q0 q1 q2 pc : Pos} {scope : Scope} {cl : List (PySem.Str × Addr)} {pos spos : Pos} {Q : Flow → Shared → Prop} {ax : Addr} {ts : List (PySem.Str × Tok)} (k : Nat)
    (F₀ : Fr h₀ L s.heap m) (N₀ : News h₀ L s.heap news) (hLe : env.locals = L) (hA : A.handled = none)
    (hsw : swapsWith (lc2 (.BinOp (.Name x0 q0) .Add (.Name x1 q1) q2) (.Name z pz) (.Constant (.str (PySem.Str.ofString "ab")) 0 pc) x0 x1 p0 p1 scope pos) (some (.Name y py)) spos.line env = pure true)
    (hclos : closureFor scope env = pure cl) (hcell : ∀ z ∈ scope.names, z.2 ≠ .cell) (hkind : scope.kind = .function)
    (hnames : ∀ z ∈ scope.names, z.2 = .local → scope.names.lookup z.1 = some .local) (hx0 : scope.names.lookup x0 = some .local) (hx1 : scope.names.lookup x1 = some .local) (hne : x0 ≠ x1) (hd0 : (x0 == ("__debug__" : PySem.Str)) = false) (hd1 : (x1 == ("__debug__" : PySem.Str)) = false)
    (hy : env.kindOf y = some .local) (hp : (env.scope.kind == .class || (env.scope.kind == .module && env.locals != env.globals)) = false)
    (hi : wpAny (model prog w) A (eval (.Name z pz) env) (fun v s' => v = .ref ax ∧ s' = s) E s)
    (hl : s.heap.IsList ax (strValues ts).toArray) (hts : ts.map (·.1) = textsF k) (hk : k < 6)
    (fin : ∀ D ys h tk, ys.map (·.1) = textsF (k + 1) → Fr h₀ L h (fun z => if z = y then some (.ref D) else m z) → News h₀ L h ((D, lst (strValues ys)) :: news) → (∀ p ∈ news, p.1 < D) → Q .next { s with heap := h, toks := tk }) :
    wpAny (model prog w) A (exec (.Assign [.Name y py] (lc2 (.BinOp (.Name x0 q0) .Add (.Name x1 q1) q2) (.Name z pz) (.Constant (.str (PySem.Str.ofString "ab")) 0 pc) x0 x1 p0 p1 scope pos) spos) env) Q E s := by
  have hlen : ts.length = 2 ^ k := by rw [← textsF_count k, ← hts, List.length_map]
  refine Assign_grow (sg := PySem.Str.ofString "ab") F₀ N₀ hLe hA hsw hclos hcell hkind hnames hx0 hx1 hne hy hp hi hl ?_ ?_ ?_ ?_
  · rw [hlen]
    have : k = 0 ∨ k = 1 ∨ k = 2 ∨ k = 3 ∨ k = 4 ∨ k = 5 := by omega
    rcases this with rfl | rfl | rfl | rfl | rfl | rfl <;> decide
  · intro C s' Q' E' h
    exact Calls.Constant_str (h _ _)
  · intro C m₂ s' t tt c tu Q' E' ht hn h0 h1 h
    have hl := textsF_len k t (hts ▸ ht)
    refine wpAny_BinOp (ldVarK hn h0 (ldVarK hn h1 (PyProof.Rows.add_str (hsz := ?_) fun t' k' => h t' k') hkind (lookup_relabel_local hx1) hd1) hkind (lookup_relabel_local hx0) hd0)
    rw [hl]
    show k + 1 ≤ 2 ^ 24
    omega
  · intro D ys h tk hys
    exact fin D ys h tk (by rw [hys, hts]; rfl)
/-- a loop over a range by what holds between its turns -/
theorem range_ind {x : PySem.Str} {body : List Stmt} {Q : Flow → Shared → Prop} {I : Addr} {a : Int} {n : Nat} (J : Nat → (PySem.Str → Option Value) → List (Addr × Obj) → Prop)
    (turn : ∀ i m news, i < n → J i m news → ∀ t h tk, Fr h₀ env.locals h (fun y => if y = x then some (.int (a + (i : Int)) t) else m y) → News h₀ env.locals h ((I, itR (a + ((i + 1 : Nat) : Int)) ((n : Int) - ((i + 1 : Nat) : Int))) :: news) →
      wpAny (model prog w) A (execs body env) (UnrPost h₀ env.locals { s with heap := h, toks := tk } I (itR (a + ((i + 1 : Nat) : Int)) ((n : Int) - ((i + 1 : Nat) : Int))) (J (i + 1)) Q) E { s with heap := h, toks := tk })
    (done : ∀ m news, J n m news → ∀ h tk, Fr h₀ env.locals h m → News h₀ env.locals h news → Q .next { s with heap := h, toks := tk }) :
    ∀ k i m news, k + i = n → J i m news → RangeRest prog w A E h₀ env x body Q s I a n k i m news := by
  intro k
  induction k with
  | zero => intro i m news hi hJ; rw [Nat.zero_add] at hi; subst hi; exact RangeRest.zero fun h tk F N => done m news hJ h tk F N
  | succ k ih =>
    intro i m news hi hJ
    refine RangeRest.succ fun t h tk F N => wpAny_mono (turn i m news (by omega) hJ t h tk F N) (fun f s₂ hp => ?_) fun _ _ e => e
    have fin : UnrEnd h₀ env.locals { s with heap := h, toks := tk } I (itR (a + ((i + 1 : Nat) : Int)) ((n : Int) - ((i + 1 : Nat) : Int))) (J (i + 1)) s₂ → UnrEnd h₀ env.locals { s with heap := h, toks := tk } I (itR (a + ((i + 1 : Nat) : Int)) ((n : Int) - ((i + 1 : Nat) : Int))) (RangeRest prog w A E h₀ env x body Q s I a n k (i + 1)) s₂ := by
      rintro ⟨h', tk', m', news', e, F', N', off, hJ'⟩
      exact ⟨h', tk', m', news', e, F', N', off, ih (i + 1) m' news' (by omega) hJ'⟩
    cases f with
    | ret v => exact hp
    | brk => exact hp
    | next => exact fin hp
    | cont => exact fin hp
end
/-- how many texts of k letters the pattern takes -/
noncomputable def cntF (p0 p1 p2 p3 p4 : PySem.Str) (k : Nat) : Int := (((textsF k).map fun t => em5F t p0 p1 p2 p3 p4).count true : Nat)
/-- between the turns: the texts, the counts so far -/
noncomputable def TakenJ (f : PySem.Str → Bool) (D cw : Addr) (ow : Obj) (m₀ : PySem.Str → Option Value) (i : Nat) (m : PySem.Str → Option Value) (news : List (Addr × Obj)) : Prop :=
  ∃ (T : Addr) (ys : List (PySem.Str × Tok)) (cs : Array Value) (nT nC : Nat) (u : Option Value), ys.map (·.1) = textsF i ∧ IntsAre cs.toList ((List.range i).map fun k => (((textsF k).map f).count true : Int)) ∧
    m = (fun y => if y = PySem.Str.ofString "texts" then some (.ref T) else if y = PySem.Str.ofString "size" then u else m₀ y) ∧
    news = [(D, W.listOf cs nC), (T, W.listOf (strValues ys).toArray nT), (cw, ow)] ∧ @Ne Nat T D ∧ @Ne Nat T cw
section
variable {prog : Program} {w : World} {A : Around} {E : Value → Shared → Prop} {s : Shared} {h₀ : Heap} {env : Env}
theorem taken_loop (f : PySem.Str → Bool) {body : List Stmt} {Q : Flow → Shared → Prop} {I T₀ D cw : Addr} {ow : Obj} {m : PySem.Str → Option Value} {nT₀ nC₀ : Nat} {t₀ : Tok} (hm : m (PySem.Str.ofString "texts") = some (.ref T₀)) (hTD : @Ne Nat T₀ D) (hTw : @Ne Nat T₀ cw)
    (turn : ∀ i T ys cs nT nC u, i < 6 → ys.map (·.1) = textsF i → IntsAre cs.toList ((List.range i).map fun k => (((textsF k).map f).count true : Int)) → @Ne Nat T D → @Ne Nat T cw →
      ∀ t h tk, Fr h₀ env.locals h (fun y => if y = PySem.Str.ofString "size" then some (.int (0 + (i : Int)) t) else if y = PySem.Str.ofString "texts" then some (.ref T) else if y = PySem.Str.ofString "size" then u else m y) →
      News h₀ env.locals h [(I, itR (0 + ((i + 1 : Nat) : Int)) (((6 : Nat) : Int) - ((i + 1 : Nat) : Int))), (D, W.listOf cs nC), (T, W.listOf (strValues ys).toArray nT), (cw, ow)] →
      wpAny (model prog w) A (execs body env) (UnrPost h₀ env.locals { s with heap := h, toks := tk } I (itR (0 + ((i + 1 : Nat) : Int)) (((6 : Nat) : Int) - ((i + 1 : Nat) : Int))) (TakenJ f D cw ow m (i + 1)) Q) E { s with heap := h, toks := tk })
    (done : ∀ T ys cs nT nC u, IntsAre cs.toList ((List.range 6).map fun k => (((textsF k).map f).count true : Int)) → ∀ h tk, Fr h₀ env.locals h (fun y => if y = PySem.Str.ofString "texts" then some (.ref T) else if y = PySem.Str.ofString "size" then u else m y) →
      News h₀ env.locals h [(D, W.listOf cs nC), (T, W.listOf (strValues ys).toArray nT), (cw, ow)] → Q .next { s with heap := h, toks := tk }) :
    RangeRest prog w A E h₀ env (PySem.Str.ofString "size") body Q s I 0 6 6 0 m [(D, W.listOf #[] nC₀), (T₀, W.listOf #[Value.str (PySem.Str.ofString "") t₀] nT₀), (cw, ow)] := by
  refine range_ind (TakenJ f D cw ow m) ?_ ?_ 6 0 _ _ rfl ?_
  · rintro i m' news hi ⟨T, ys, cs, nT, nC, u, h1, h2, rfl, rfl, h5, h6⟩ t h tk F N
    exact turn i T ys cs nT nC u hi h1 h2 h5 h6 t h tk F N
  · rintro m' news ⟨T, ys, cs, nT, nC, u, h1, h2, rfl, rfl, h5, h6⟩ h tk F N
    exact done T ys cs nT nC u h2 h tk F N
  · refine ⟨T₀, [(PySem.Str.ofString "", t₀)], #[], nT₀, nC₀, m (PySem.Str.ofString "size"), rfl, .nil, ?_, rfl, hTD, hTw⟩
    funext y
    by_cases h1 : y = PySem.Str.ofString "texts"
    · rw [if_pos h1, h1, hm]
    · rw [if_neg h1]
      by_cases h2 : y = PySem.Str.ofString "size"
      · rw [if_pos h2, h2]
      · rw [if_neg h2]
/-- a turn's end -/
theorem taken_end {f : PySem.Str → Bool} {I T T' D cw : Addr} {ow it : Obj} {m : PySem.Str → Option Value} {i nT' nC : Nat} {ys' : List (PySem.Str × Tok)} {cs : Array Value} {u : Option Value} {t tc : Tok} {h : Heap} {s₁ : Shared} {tk : Nat} {L : Addr} {all : List (Addr × Obj)} {c : Int}
    (F : Fr h₀ L h (fun y => if y = PySem.Str.ofString "texts" then some (.ref T') else if y = PySem.Str.ofString "size" then some (.int (0 + (i : Int)) t) else if y = PySem.Str.ofString "texts" then some (.ref T) else if y = PySem.Str.ofString "size" then u else m y)) (N : News h₀ L h all)
    (hI : (I, it) ∈ all) (sub : SubL [(D, W.listOf (cs.push (.int c tc)) nC), (T', W.listOf (strValues ys').toArray nT'), (cw, ow)] all) (off : OffI I it [(D, W.listOf (cs.push (.int c tc)) nC), (T', W.listOf (strValues ys').toArray nT'), (cw, ow)])
    (h1 : ys'.map (·.1) = textsF (i + 1)) (h2 : IntsAre cs.toList ((List.range i).map fun k => (((textsF k).map f).count true : Int))) (h3 : @Ne Nat T' D) (h4 : @Ne Nat T' cw) (hc : c = (((textsF i).map f).count true : Nat)) :
    UnrEnd h₀ L s₁ I it (TakenJ f D cw ow m (i + 1)) { s₁ with heap := h, toks := tk } := by
  refine UnrEnd.intro3 F N _ hI sub off ⟨T', ys', cs.push (.int c tc), nT', nC, some (.int (0 + (i : Int)) t), h1, ?_, ?_, rfl, h3, h4⟩
  · rw [List.range_succ, List.map_append, Array.toList_push, hc]
    exact h2.append (.cons _ _ .nil)
  · funext y
    by_cases e1 : y = PySem.Str.ofString "texts"
    · simp only [if_pos e1]
    · simp only [if_neg e1]
      by_cases e2 : y = PySem.Str.ofString "size"
      · simp only [if_pos e2]
      · simp only [if_neg e2]
end
theorem taken (w : World) (loose mean mg mb) (pl : Addr) (p0 p1 p2 p3 p4 : PySem.Str) (t0 t1 t2 t3 t4 : Tok)
    (hin : (occurrences (Txt.join (PySem.Str.ofString "...") [p0, p1, p2, p3, p4]) (PySem.Str.ofString "...") 0 (Txt.join (PySem.Str.ofString "...") [p0, p1, p2, p3, p4]).length 1).isEmpty = false)
    (hsp : Txt.split (Txt.join (PySem.Str.ofString "...") [p0, p1, p2, p3, p4]) (PySem.Str.ofString "...") = [p0, p1, p2, p3, p4]) (hwl : (Txt.join (PySem.Str.ofString "...") [p0, p1, p2, p3, p4]).length < 1000)
    (l0 : p0.length < 100) (l1 : p1.length < 100) (l2 : p2.length < 100) (l3 : p3.length < 100) (l4 : p4.length < 100) :
    Ctr w loose mean mg mb 113 [.ref pl] 2 [] (fun h => h.IsList pl [.str p0 t0, .str p1 t1, .str p2 t2, .str p3 t3, .str p4 t4].toArray) (fun r led => ∃ D cs nC, r = .ref D ∧ led = [(D, W.listOf cs nC)] ∧ IntsAre cs.toList ((List.range 6).map fun k => (((textsF k).map fun t => em5F t p0 p1 p2 p3 p4).count true : Int))) := by
  unfold Ctr
  w_top off
  k_fill
  intro dp un gd cn cs a ccd cl outer A₀ base h₀ L m s Q E B F X N T hk hd hu c1 c2 hP hret
  refine wpAny_call ?_
  k_dflt ((refine' enter_cells ?en_k1 ?en_k2 ?en_k3 ?en_k4 ?en_k5 ?en_kA ?en_kF ?en_kK ?en_k6 ?en_k7 ?en_k8 ?en_k9 ?en_kB ?en_kD ?_ ?en_c2 ?en_c3 ?en_c4; (case en_kA => exact rfl); (case en_kF => exact rfl); (case en_kK => assumption); (case en_k1 => k_asm); (case en_k2 => k_asm); (case en_k3 => k_asm); (case en_k4 => k_asm); (case en_k5 => k_asm); (case en_k6 => k_is); (case en_k7 => k_is); (case en_k8 => ktr_room); (case en_k9 => exact BindsTo.of_eq rfl); (case en_kB => exact rfl); (case en_kD => decide +kernel); (case en_c2 => exact rfl); (case en_c3 => exact rfl); (case en_c4 => exact rfl); k_whole; intro g' L' h' tk' cells' FG' F' N' Y' B' X' T' l1 kG'; (try k_lt l1); k_cells Y'; (try simp only [List.cons_append, List.nil_append] at N'); (try dsimp only); (try k_lift B'); (try k_fold)))
  have hsl : sizeLine = 16777216 := rfl
  rename GSub _ _ _ => kG9
  have hPg := hP.at fun o e => kG9 _ o e (by simp)
  have hSt : StrsAre [.str p0 t0, .str p1 t1, .str p2 t2, .str p3 t3, .str p4 t4] [p0, p1, p2, p3, p4] := strsAre_of_values [(p0, t0), (p1, t1), (p2, t2), (p3, t3), (p4, t4)]
  (repeat' (first | (k_unfold; (try dsimp only)) | (k_end; wrow_close) | (k_here; (with_reducible show wpAny _ _ (call (Value.ref 63) _) _ _ _); k_dflt (refine' Ctr.use0 (em5 _ _ _ _ _ _ _ ?w_q0 ?w_q1 ?w_q2 ?w_q3 ?w_q4 _ _ ?w_e1 ?w_e2 ?w_e3 ?w_e4 ?w_e5 ?w_e6 ?w_e7 ?w_e8 ?w_e9) ?w_k1 ?w_k2 ?w_k3 ?w_k4 ?w_k5 ?w_kK ?w_kd ?w_ku ?w_x1 ?w_x2 trivial ?_; (case w_e4 => assumption); (case w_e3 => assumption); (case w_k1 => k_asm); (case w_k2 => k_asm); (case w_k3 => k_asm); (case w_k4 => k_asm); (case w_k5 => k_asm); (case w_kK => first | exact rfl | assumption); (case w_kd => ktr_room); (case w_ku => ktr_units); (case w_x1 => assumption); (case w_x2 => assumption); (case w_e1 => omega); (case w_e2 => first | assumption | decide | omega); (case w_e5 => assumption); (case w_e6 => assumption); (case w_e7 => assumption); (case w_e8 => assumption); (case w_e9 => assumption); k_whole); intro r9w led9w hw tkw Fw Nw A9w K9w hR9w; obtain ⟨hr9w, hl9w⟩ := hR9w; subst hr9w; subst hl9w; (try simp only [List.nil_append] at Nw); (try dsimp only); (try k_fold)) | (k_here; (with_reducible show wpAny _ _ (call (Value.builtin "list.count") [Value.ref _, Value.bool true]) _ _ _); k_dflt (refine count_bools ⟨_, News.get (by k_asm) (by k_mem), rfl, _, rfl⟩ ?_)) | ((fail_if_success (fail_if_success (with_reducible show wpAny _ _ (exec _ _) _ _ _))); k_fold) | ((fail_if_success (fail_if_success (with_reducible show wpAny _ _ (execs (_ :: _) _) _ _ (Shared.mk _ _ _ (HAdd.hAdd _ _) _)))); refine flat (s := s) rfl rfl rfl (fun _ => ?_)) | ((fail_if_success (with_reducible refine RangeRest.succ ?_)); (fail_if_success (with_reducible refine LCg.CompSrc.ledger ?_ ?_ ?_ ?_ ?_ ?_)); (fail_if_success (with_reducible show UnrEnd _ _ _ _ _ _ _)); first | walk1 | (dsimp only; walk1) | (leave1; walk_say "STEP leave1"; try dsimp only)) | fail "no step"))
  k_dflt (refine' taken_loop (fun t => em5F t p0 p1 p2 p3 p4) ?hm ?h1 ?h2 ?turn ?done; (case hm => exact rfl); (case h1 => omega); (case h2 => omega))
  case turn =>
    intro i T ys cs nT nC u hi hys hcs hne1 hne2 t h tk F' N'
    have hcz : cs.size ≤ sizeLine := by
      have hq := hcs.length
      rw [List.length_map, List.length_range, Array.length_toList] at hq
      omega
    refine abs1 fun P9 hP9 => ?_
    (try k_fold)
    (repeat' (first | (k_unfold; (try dsimp only)) | (k_end; wrow_close) | (k_here; (with_reducible show wpAny _ _ (call (Value.ref 63) _) _ _ _); k_dflt (refine' Ctr.use0 (em5 _ _ _ _ _ _ _ ?w_q0 ?w_q1 ?w_q2 ?w_q3 ?w_q4 _ _ ?w_e1 ?w_e2 ?w_e3 ?w_e4 ?w_e5 ?w_e6 ?w_e7 ?w_e8 ?w_e9) ?w_k1 ?w_k2 ?w_k3 ?w_k4 ?w_k5 ?w_kK ?w_kd ?w_ku ?w_x1 ?w_x2 trivial ?_; (case w_e4 => assumption); (case w_e3 => assumption); (case w_k1 => k_asm); (case w_k2 => k_asm); (case w_k3 => k_asm); (case w_k4 => k_asm); (case w_k5 => k_asm); (case w_kK => first | exact rfl | assumption); (case w_kd => ktr_room); (case w_ku => ktr_units); (case w_x1 => assumption); (case w_x2 => assumption); (case w_e1 => omega); (case w_e2 => first | assumption | decide | omega); (case w_e5 => assumption); (case w_e6 => assumption); (case w_e7 => assumption); (case w_e8 => assumption); (case w_e9 => assumption); k_whole); intro r9w led9w hw tkw Fw Nw A9w K9w hR9w; obtain ⟨hr9w, hl9w⟩ := hR9w; subst hr9w; subst hl9w; (try simp only [List.nil_append] at Nw); (try dsimp only); (try k_fold)) | (k_here; (with_reducible show wpAny _ _ (call (Value.builtin "list.count") [Value.ref _, Value.bool true]) _ _ _); k_dflt (refine count_bools ⟨_, News.get (by k_asm) (by k_mem), rfl, _, rfl⟩ ?_)) | ((fail_if_success (fail_if_success (with_reducible show wpAny _ _ (exec _ _) _ _ _))); k_fold) | ((fail_if_success (fail_if_success (with_reducible show wpAny _ _ (execs (_ :: _) _) _ _ (Shared.mk _ _ _ (HAdd.hAdd _ _) _)))); refine flat (s := s) rfl rfl rfl (fun _ => ?_)) | ((fail_if_success (with_reducible refine RangeRest.succ ?_)); (fail_if_success (with_reducible refine LCg.CompSrc.ledger ?_ ?_ ?_ ?_ ?_ ?_)); (fail_if_success (with_reducible show UnrEnd _ _ _ _ _ _ _)); first | walk1 | (dsimp only; walk1) | (leave1; walk_say "STEP leave1"; try dsimp only)) | fail "no step"))
    k_dflt (refine' LCg.CompSrc.ledger ?a1 ?F ?N ?a2 ?a3 ?_; (case a1 => exact rfl); (case F => k_asm); (case N => k_asm); (case a2 => k_mem); (case a3 => (have hq := congrArg List.length hys; rw [List.length_map, textsF_count] at hq; have hq2 : 2 ^ i ≤ 2 ^ 6 := Nat.pow_le_pow_right (by decide) (by omega); simp only [strValues, List.size_toArray, List.length_map, hq]; omega)))
    intro g9
    refine comp_bools (f := fun t => em5F t p0 p1 p2 p3 p4) (.inr ⟨_, by k_mem, rfl, _, rfl⟩) ?rule ?_
    case rule =>
      intro t tt I oI C oC D m₂ h tk ys' E' Q' ht hC hx F' N' hQ
      have htl := textsF_len _ t (hys ▸ ht)
      (try k_fold)
      (repeat' (first | (k_unfold; (try dsimp only)) | (k_end; wrow_close) | (k_here; (with_reducible show wpAny _ _ (call (Value.ref 63) _) _ _ _); k_dflt (refine' Ctr.use0 (em5 _ _ _ _ _ _ _ ?w_q0 ?w_q1 ?w_q2 ?w_q3 ?w_q4 _ _ ?w_e1 ?w_e2 ?w_e3 ?w_e4 ?w_e5 ?w_e6 ?w_e7 ?w_e8 ?w_e9) ?w_k1 ?w_k2 ?w_k3 ?w_k4 ?w_k5 ?w_kK ?w_kd ?w_ku ?w_x1 ?w_x2 trivial ?_; (case w_e4 => assumption); (case w_e3 => assumption); (case w_k1 => k_asm); (case w_k2 => k_asm); (case w_k3 => k_asm); (case w_k4 => k_asm); (case w_k5 => k_asm); (case w_kK => first | exact rfl | assumption); (case w_kd => ktr_room); (case w_ku => ktr_units); (case w_x1 => assumption); (case w_x2 => assumption); (case w_e1 => omega); (case w_e2 => first | assumption | decide | omega); (case w_e5 => assumption); (case w_e6 => assumption); (case w_e7 => assumption); (case w_e8 => assumption); (case w_e9 => assumption); k_whole); intro r9w led9w hw tkw Fw Nw A9w K9w hR9w; obtain ⟨hr9w, hl9w⟩ := hR9w; subst hr9w; subst hl9w; (try simp only [List.nil_append] at Nw); (try dsimp only); (try k_fold)) | (k_here; (with_reducible show wpAny _ _ (call (Value.builtin "list.count") [Value.ref _, Value.bool true]) _ _ _); k_dflt (refine count_bools ⟨_, News.get (by k_asm) (by k_mem), rfl, _, rfl⟩ ?_)) | ((fail_if_success (fail_if_success (with_reducible show wpAny _ _ (exec _ _) _ _ _))); k_fold) | ((fail_if_success (fail_if_success (with_reducible show wpAny _ _ (execs (_ :: _) _) _ _ (Shared.mk _ _ _ (HAdd.hAdd _ _) _)))); refine flat (s := s) rfl rfl rfl (fun _ => ?_)) | ((fail_if_success (with_reducible refine RangeRest.succ ?_)); (fail_if_success (with_reducible refine LCg.CompSrc.ledger ?_ ?_ ?_ ?_ ?_ ?_)); (fail_if_success (with_reducible show UnrEnd _ _ _ _ _ _ _)); first | walk1 | (dsimp only; walk1) | (leave1; walk_say "STEP leave1"; try dsimp only)) | fail "no step"))
      exact hQ _ _ (by k_asm) (by k_asm)
    (repeat' (first | (k_unfold; (try dsimp only)) | (k_end; wrow_close) | (k_here; (with_reducible show wpAny _ _ (call (Value.ref 63) _) _ _ _); k_dflt (refine' Ctr.use0 (em5 _ _ _ _ _ _ _ ?w_q0 ?w_q1 ?w_q2 ?w_q3 ?w_q4 _ _ ?w_e1 ?w_e2 ?w_e3 ?w_e4 ?w_e5 ?w_e6 ?w_e7 ?w_e8 ?w_e9) ?w_k1 ?w_k2 ?w_k3 ?w_k4 ?w_k5 ?w_kK ?w_kd ?w_ku ?w_x1 ?w_x2 trivial ?_; (case w_e4 => assumption); (case w_e3 => assumption); (case w_k1 => k_asm); (case w_k2 => k_asm); (case w_k3 => k_asm); (case w_k4 => k_asm); (case w_k5 => k_asm); (case w_kK => first | exact rfl | assumption); (case w_kd => ktr_room); (case w_ku => ktr_units); (case w_x1 => assumption); (case w_x2 => assumption); (case w_e1 => omega); (case w_e2 => first | assumption | decide | omega); (case w_e5 => assumption); (case w_e6 => assumption); (case w_e7 => assumption); (case w_e8 => assumption); (case w_e9 => assumption); k_whole); intro r9w led9w hw tkw Fw Nw A9w K9w hR9w; obtain ⟨hr9w, hl9w⟩ := hR9w; subst hr9w; subst hl9w; (try simp only [List.nil_append] at Nw); (try dsimp only); (try k_fold)) | (k_here; (with_reducible show wpAny _ _ (call (Value.builtin "list.count") [Value.ref _, Value.bool true]) _ _ _); k_dflt (refine count_bools ⟨_, News.get (by k_asm) (by k_mem), rfl, _, rfl⟩ ?_)) | ((fail_if_success (fail_if_success (with_reducible show wpAny _ _ (exec _ _) _ _ _))); k_fold) | ((fail_if_success (fail_if_success (with_reducible show wpAny _ _ (execs (_ :: _) _) _ _ (Shared.mk _ _ _ (HAdd.hAdd _ _) _)))); refine flat (s := s) rfl rfl rfl (fun _ => ?_)) | ((fail_if_success (with_reducible refine RangeRest.succ ?_)); (fail_if_success (with_reducible refine LCg.CompSrc.ledger ?_ ?_ ?_ ?_ ?_ ?_)); (fail_if_success (with_reducible show UnrEnd _ _ _ _ _ _ _)); first | walk1 | (dsimp only; walk1) | (leave1; walk_say "STEP leave1"; try dsimp only)) | fail "no step"))
    k_dflt (refine' Assign_texts i ?F2 ?N2 ?a1 ?a2 ?a3 ?a4 ?a5 ?a6 ?a7 ?a8 ?a9 ?b1 ?b2 ?b3 ?b4 ?b5 ?hi ?hl ?ht ?hk ?_; (case F2 => k_asm); (case N2 => k_asm); (case a1 => exact rfl); (case a2 => exact rfl); (case a3 => with_unfolding_all exact rfl); (case a4 => with_unfolding_all exact rfl); (case a5 => decide); (case a6 => exact rfl); (case a7 => decide); (case a8 => exact rfl); (case a9 => exact rfl); (case b1 => decide); (case b2 => decide); (case b3 => decide); (case b4 => exact rfl); (case b5 => exact rfl); (case hi => exact nameX_L (by k_asm) rfl ⟨rfl, rfl⟩); (case hl => exact ⟨_, News.get (by k_asm) (by k_mem), rfl, _, rfl⟩); (case ht => exact hys); (case hk => exact hi); k_whole)
    intro D' ys' h' tk' hys' F' N' l1
    k_lt l1
    (try dsimp only)
    (try k_fold)
    (repeat' (first | (k_unfold; (try dsimp only)) | (k_end; wrow_close) | (k_here; (with_reducible show wpAny _ _ (call (Value.ref 63) _) _ _ _); k_dflt (refine' Ctr.use0 (em5 _ _ _ _ _ _ _ ?w_q0 ?w_q1 ?w_q2 ?w_q3 ?w_q4 _ _ ?w_e1 ?w_e2 ?w_e3 ?w_e4 ?w_e5 ?w_e6 ?w_e7 ?w_e8 ?w_e9) ?w_k1 ?w_k2 ?w_k3 ?w_k4 ?w_k5 ?w_kK ?w_kd ?w_ku ?w_x1 ?w_x2 trivial ?_; (case w_e4 => assumption); (case w_e3 => assumption); (case w_k1 => k_asm); (case w_k2 => k_asm); (case w_k3 => k_asm); (case w_k4 => k_asm); (case w_k5 => k_asm); (case w_kK => first | exact rfl | assumption); (case w_kd => ktr_room); (case w_ku => ktr_units); (case w_x1 => assumption); (case w_x2 => assumption); (case w_e1 => omega); (case w_e2 => first | assumption | decide | omega); (case w_e5 => assumption); (case w_e6 => assumption); (case w_e7 => assumption); (case w_e8 => assumption); (case w_e9 => assumption); k_whole); intro r9w led9w hw tkw Fw Nw A9w K9w hR9w; obtain ⟨hr9w, hl9w⟩ := hR9w; subst hr9w; subst hl9w; (try simp only [List.nil_append] at Nw); (try dsimp only); (try k_fold)) | (k_here; (with_reducible show wpAny _ _ (call (Value.builtin "list.count") [Value.ref _, Value.bool true]) _ _ _); k_dflt (refine count_bools ⟨_, News.get (by k_asm) (by k_mem), rfl, _, rfl⟩ ?_)) | ((fail_if_success (fail_if_success (with_reducible show wpAny _ _ (exec _ _) _ _ _))); k_fold) | ((fail_if_success (fail_if_success (with_reducible show wpAny _ _ (execs (_ :: _) _) _ _ (Shared.mk _ _ _ (HAdd.hAdd _ _) _)))); refine flat (s := s) rfl rfl rfl (fun _ => ?_)) | ((fail_if_success (with_reducible refine RangeRest.succ ?_)); (fail_if_success (with_reducible refine LCg.CompSrc.ledger ?_ ?_ ?_ ?_ ?_ ?_)); (fail_if_success (with_reducible show UnrEnd _ _ _ _ _ _ _)); first | walk1 | (dsimp only; walk1) | (leave1; walk_say "STEP leave1"; try dsimp only)) | fail "no step"))
    refine hP9 _ _ ?_
    (repeat' (first | (k_unfold; (try dsimp only)) | (k_end; wrow_close) | (k_here; (with_reducible show wpAny _ _ (call (Value.ref 63) _) _ _ _); k_dflt (refine' Ctr.use0 (em5 _ _ _ _ _ _ _ ?w_q0 ?w_q1 ?w_q2 ?w_q3 ?w_q4 _ _ ?w_e1 ?w_e2 ?w_e3 ?w_e4 ?w_e5 ?w_e6 ?w_e7 ?w_e8 ?w_e9) ?w_k1 ?w_k2 ?w_k3 ?w_k4 ?w_k5 ?w_kK ?w_kd ?w_ku ?w_x1 ?w_x2 trivial ?_; (case w_e4 => assumption); (case w_e3 => assumption); (case w_k1 => k_asm); (case w_k2 => k_asm); (case w_k3 => k_asm); (case w_k4 => k_asm); (case w_k5 => k_asm); (case w_kK => first | exact rfl | assumption); (case w_kd => ktr_room); (case w_ku => ktr_units); (case w_x1 => assumption); (case w_x2 => assumption); (case w_e1 => omega); (case w_e2 => first | assumption | decide | omega); (case w_e5 => assumption); (case w_e6 => assumption); (case w_e7 => assumption); (case w_e8 => assumption); (case w_e9 => assumption); k_whole); intro r9w led9w hw tkw Fw Nw A9w K9w hR9w; obtain ⟨hr9w, hl9w⟩ := hR9w; subst hr9w; subst hl9w; (try simp only [List.nil_append] at Nw); (try dsimp only); (try k_fold)) | (k_here; (with_reducible show wpAny _ _ (call (Value.builtin "list.count") [Value.ref _, Value.bool true]) _ _ _); k_dflt (refine count_bools ⟨_, News.get (by k_asm) (by k_mem), rfl, _, rfl⟩ ?_)) | ((fail_if_success (fail_if_success (with_reducible show wpAny _ _ (exec _ _) _ _ _))); k_fold) | ((fail_if_success (fail_if_success (with_reducible show wpAny _ _ (execs (_ :: _) _) _ _ (Shared.mk _ _ _ (HAdd.hAdd _ _) _)))); refine flat (s := s) rfl rfl rfl (fun _ => ?_)) | ((fail_if_success (with_reducible refine RangeRest.succ ?_)); (fail_if_success (with_reducible refine LCg.CompSrc.ledger ?_ ?_ ?_ ?_ ?_ ?_)); (fail_if_success (with_reducible show UnrEnd _ _ _ _ _ _ _)); first | walk1 | (dsimp only; walk1) | (leave1; walk_say "STEP leave1"; try dsimp only)) | fail "no step"))
    k_dflt (refine' taken_end ?eF ?eN ?eI ?eS ?eO hys' hcs ?e3 ?e4 ?ec; (case eF => k_asm); (case eN => k_asm); (case eI => k_mem); (case eS => k_subL); (case eO => k_offL); (case e3 => omega); (case e4 => omega))
    case ec => (rw [← hys, List.map_map]; rfl)
  case done =>
    intro T ys cs nT nC u hcs h tk F' N'
    (try k_fold)
    (repeat' (first | (k_unfold; (try dsimp only)) | (k_end; wrow_close) | (k_here; (with_reducible show wpAny _ _ (call (Value.ref 63) _) _ _ _); k_dflt (refine' Ctr.use0 (em5 _ _ _ _ _ _ _ ?w_q0 ?w_q1 ?w_q2 ?w_q3 ?w_q4 _ _ ?w_e1 ?w_e2 ?w_e3 ?w_e4 ?w_e5 ?w_e6 ?w_e7 ?w_e8 ?w_e9) ?w_k1 ?w_k2 ?w_k3 ?w_k4 ?w_k5 ?w_kK ?w_kd ?w_ku ?w_x1 ?w_x2 trivial ?_; (case w_e4 => assumption); (case w_e3 => assumption); (case w_k1 => k_asm); (case w_k2 => k_asm); (case w_k3 => k_asm); (case w_k4 => k_asm); (case w_k5 => k_asm); (case w_kK => first | exact rfl | assumption); (case w_kd => ktr_room); (case w_ku => ktr_units); (case w_x1 => assumption); (case w_x2 => assumption); (case w_e1 => omega); (case w_e2 => first | assumption | decide | omega); (case w_e5 => assumption); (case w_e6 => assumption); (case w_e7 => assumption); (case w_e8 => assumption); (case w_e9 => assumption); k_whole); intro r9w led9w hw tkw Fw Nw A9w K9w hR9w; obtain ⟨hr9w, hl9w⟩ := hR9w; subst hr9w; subst hl9w; (try simp only [List.nil_append] at Nw); (try dsimp only); (try k_fold)) | (k_here; (with_reducible show wpAny _ _ (call (Value.builtin "list.count") [Value.ref _, Value.bool true]) _ _ _); k_dflt (refine count_bools ⟨_, News.get (by k_asm) (by k_mem), rfl, _, rfl⟩ ?_)) | ((fail_if_success (fail_if_success (with_reducible show wpAny _ _ (exec _ _) _ _ _))); k_fold) | ((fail_if_success (fail_if_success (with_reducible show wpAny _ _ (execs (_ :: _) _) _ _ (Shared.mk _ _ _ (HAdd.hAdd _ _) _)))); refine flat (s := s) rfl rfl rfl (fun _ => ?_)) | ((fail_if_success (with_reducible refine RangeRest.succ ?_)); (fail_if_success (with_reducible refine LCg.CompSrc.ledger ?_ ?_ ?_ ?_ ?_ ?_)); (fail_if_success (with_reducible show UnrEnd _ _ _ _ _ _ _)); first | walk1 | (dsimp only; walk1) | (leave1; walk_say "STEP leave1"; try dsimp only)) | fail "no step"))
    refine ctr_end (led' := [(_, W.listOf cs nC)]) hret kG9 (by k_asm) (by k_asm) (by k_asm) (by k_asm) (List.forall_mem_cons.mpr ⟨by k_mem, fun _ h => nomatch h⟩) ⟨_, cs, nC, rfl, rfl, hcs⟩
end Mine
end
section
open PySem PySem.W PyProof.Rows PySem.Calls PySem.Spec
set_option maxHeartbeats 0
set_option pp.deepTerms false
namespace Mine
/-- a def made in a body entered: what the heap keeps is told -/
theorem enter_nest {prog : Program} {w : World} {A₀ A : Around} {s : Shared} {base h₀ : Heap} {outer : List Env} {L : Addr} {m : Str → Option Value} {env : Env} {news : List (Addr × Obj)}
    {K : Frag} {p : Program} {loose : List Str} {mean : ExcName → Option Value} {mg mb : Str → Option Value} {R : Result → Shared → Prop} {name qual : Str} {params : Arguments} {body : List Stmt} {scope : Scope} {cl : List (Str × Addr)} {doc pm ctv : Value} {c' f : Addr} {args : Args} {binds : List (Str × Value)}
    (B : Below A₀ base outer h₀) (F : Fr h₀ L s.heap m) (X₀ : K.In h₀) (N : News h₀ L s.heap news) (T : Top p loose mean mg mb h₀) (hA : A.frames = some (env :: outer)) (hf : env.frame = some L) (hke : env.scope.kind = .function)
    (ho : (f, fnMade name qual params body scope cl doc pm c' ctv) ∈ news) (hcd : s.heap.CodeRec (.ref c') qual) (hroom : A.depth < recursionLimit)
    (hbind : BindsTo s (fnX name qual params body scope cl .none .none doc pm none (.ref c') ctv) args binds) (hloc : ∀ y ∈ binds, scope.names.lookup y.1 = some .local)
    (h : ∀ g L' h₁, Fr h₀ L g m → Fr g L' h₁ (fun y => binds.reverse.lookup y) → News g L' h₁ news → Below A base (env :: outer) g → K.In g → Top p loose mean mg mb g → GSub s.heap g (news.map (·.1)) →
      wpAny (model prog w) (A.deeper (envX qual scope L' f (.ref c') cl)) (execs body (envX qual scope L' f (.ref c') cl))
        (fun fl s' => LeaveK h₀ L m g R (match fl with | .ret v => v | _ => .none) s')
        (fun e s' => wpAny (model prog w) (A.deeper (envX qual scope L' f (.ref c') cl)) (leaving (envX qual scope L' f (.ref c') cl) e) (fun _ s'' => R (.error e) s'') (fun e' s'' => R (.error e') s'') s')
        { s with heap := h₁, toks := s.toks + binds.length })
    (hco : scope.isCoroutine = false) (hgen : scope.isGenerator = false) (hk : scope.kind = .function)
    (hcell : ∀ x ∈ scope.names, x.2 ≠ .cell) : codeAny (model prog w) A (.call (.ref f) args) R s := by
  obtain ⟨FG, BG, st, lv⟩ := groundX (R := R) B F N hA hf hke
  refine codeAny_call_def (fd := fnX name qual params body scope cl .none .none doc pm none (.ref c') ctv) (body := body) (binds := binds) hroom (N _ ho).1 rfl (T.nolimit.keeps F.keep) hcd rfl hbind hcell hloc (fun h₁ hns hk₁ => ?_) hco hgen hk
  exact wpAny_mono (h _ s.heap.objs.size h₁ FG ⟨hns, fun b o e => hk₁ b o (of_hideAll _ e), Nat.le_of_eq (hideAll_size _ _)⟩
    (fun p hp => ⟨hk₁ _ _ (N p hp).1, Nat.ne_of_lt (Heap.lt_size (N p hp).1), hideAll_none _ (List.mem_map_of_mem hp)⟩) BG (X₀.keeps st) (T.keeps st) (fun b o e n => hideAll_get _ e n)) (fun fl s' hl => lv _ _ hl) fun _ _ y => y

/-- the code table of a def that makes one def: not yet used, or with that def's code -/
inductive TabOk (line col : Nat) (qual : Str) : Array Value → List (Addr × Obj) → Prop where
  | empty : TabOk line col qual #[] []
  | full {c' : Addr} {oc : Obj} {vs : Array Value} {t : Tok} : oc.data = .fields vs → vs[1]? = some (.str qual t) → TabOk line col qual #[rawInt line, rawInt col, .ref c'] [(c', oc)]
section
variable {M : Model} {A : Around} {E : Value → Shared → Prop} {s : Shared} {h₀ : Heap} {L a : Addr} {m mg mb : Str → Option Value} {cn : Str} {cs : Scope} {ccd : Value} {cl : List (Str × Addr)} {news rest : List (Addr × Obj)} {p : Program} {loose : List Str} {mean : ExcName → Option Value}
  {name qual : Str} {params : Arguments} {body : List Stmt} {scope : Scope} {clos : List (Str × Addr)} {pos : Pos} {firstLine : Nat} {c P : Addr} {ps : Array Value} {cd : List (Addr × Obj)}
theorem nestAny_K {Q : Value → Shared → Prop} (F : Fr h₀ L s.heap m) (N : News h₀ L s.heap news) (T : Top p loose mean mg mb h₀) (C : CodeHd h₀ c P) (hcd : ccd = .ref c) (hT : TabOk pos.line pos.col qual ps cd)
    (hmem : (P, tabObj ps) ∈ news) (hcs : ∀ q ∈ cd, q ∈ news) (hrest : ∀ q ∈ rest, q ∈ news) (hoff : ∀ q ∈ rest, q.1 ≠ P) (hne : ∀ q ∈ rest, ∀ r ∈ cd, q.1 ≠ r.1)
    (hcl : closureFor scope (envX cn cs L a ccd cl) = pure clos)
    (h : ∀ f c' oc vs t ctv doc h' tk, Fr h₀ L h' m →
      News h₀ L h' ((f, fnMade name qual params body scope clos doc ((mg "__name__").getD .none) c' ctv) :: (c', oc) :: (P, tabObj #[rawInt pos.line, rawInt pos.col, .ref c']) :: rest) →
      oc.data = .fields vs → vs[1]? = some (.str qual t) → (∀ q ∈ rest, q.1 ≠ c') → (∀ q ∈ rest, q.1 < f) → c' < f → P < f → Q (.ref f) { s with heap := h', toks := tk }) :
    wpAny M A (makeFunction name qual params (.stmts body) scope (envX cn cs L a ccd cl) [] [] [] pos firstLine) Q E s := by
  have lt : ∀ q ∈ news, q.1 < s.heap.objs.size := fun q hq => Heap.lt_size (N q hq).1
  cases hT with
  | empty =>
    have N₁ : News h₀ L s.heap ((P, tabObj #[]) :: rest) := fun q hq => (List.mem_cons.mp hq).elim (fun e => e ▸ N _ hmem) fun hq => N q (hrest q hq)
    refine nest_K F N₁ T C hcd (UpdF.head hoff) True.intro rfl hcl fun f c' oc vs t ctv doc h' tk F' N' d1 d2 l1 l2 => ?_
    exact h f c' oc vs t ctv doc h' tk F' N' d1 d2 (fun q hq => Nat.ne_of_lt (l1 q (.tail _ hq))) (fun q hq => Nat.lt_trans (l1 q (.tail _ hq)) l2) l2 (Nat.lt_trans (l1 (P, tabObj #[]) (.head _)) l2)
  | full d1 d2 =>
    rename_i c' oc vs t
    have N₁ : News h₀ L s.heap ((c', oc) :: (P, tabObj #[rawInt pos.line, rawInt pos.col, .ref c']) :: rest) := fun q hq => (List.mem_cons.mp hq).elim (fun e => e ▸ N _ (hcs _ (.head _))) fun hq => (List.mem_cons.mp hq).elim (fun e => e ▸ N _ hmem) fun hq => N q (hrest q hq)
    refine nestHit_K (c' := c') F N₁ T C hcd (.tail _ (.head _)) (by simp [TriplesOk, rawInt]) (by simp [codeAmong, rawInt]) hcl fun f ctv doc h' tk F' N' l1 => ?_
    exact h f c' oc vs t ctv doc h' tk F' N' d1 d2 (fun q hq => hne q hq _ (.head _)) (fun q hq => l1 q (.tail _ (.tail _ hq))) (l1 (c', oc) (.head _)) (l1 _ (.tail _ (.head _)))
theorem nestAny3 {Q : Value → Shared → Prop} {r1 r2 r3 : Addr × Obj} {Lb : Addr} (F : Fr h₀ L s.heap m) (N : News h₀ L s.heap (r1 :: r2 :: r3 :: (P, tabObj ps) :: cd)) (T : Top p loose mean mg mb h₀) (C : CodeHd h₀ c P) (hcd : ccd = .ref c) (hT : TabOk pos.line pos.col qual ps cd)
    (hP : @LT.lt Nat _ P Lb) (hL : ∀ r ∈ cd, r.1 < Lb) (h1 : @LE.le Nat _ Lb r1.1) (h2 : @LE.le Nat _ Lb r2.1) (h3 : @LE.le Nat _ Lb r3.1)
    (hcl : closureFor scope (envX cn cs L a ccd cl) = pure clos)
    (h : ∀ f c' oc vs t ctv doc h' tk, Fr h₀ L h' m →
      News h₀ L h' ((f, fnMade name qual params body scope clos doc ((mg "__name__").getD .none) c' ctv) :: (c', oc) :: (P, tabObj #[rawInt pos.line, rawInt pos.col, .ref c']) :: r1 :: r2 :: r3 :: []) →
      oc.data = .fields vs → vs[1]? = some (.str qual t) → (@Ne Nat r1.1 c' ∧ @Ne Nat r2.1 c' ∧ @Ne Nat r3.1 c') → (@LT.lt Nat _ r1.1 f ∧ @LT.lt Nat _ r2.1 f ∧ @LT.lt Nat _ r3.1 f ∧ @LT.lt Nat _ c' f ∧ @LT.lt Nat _ P f) → Q (.ref f) { s with heap := h', toks := tk }) :
    wpAny M A (makeFunction name qual params (.stmts body) scope (envX cn cs L a ccd cl) [] [] [] pos firstLine) Q E s := by
  have ge : ∀ q ∈ [r1, r2, r3], @LE.le Nat _ Lb q.1 := fun q hq => by
    rcases List.mem_cons.mp hq with rfl | hq
    · exact h1
    rcases List.mem_cons.mp hq with rfl | hq
    · exact h2
    rw [List.mem_singleton.mp hq]; exact h3
  refine nestAny_K (rest := [r1, r2, r3]) F N T C hcd hT (by simp) (fun q hq => by simp [hq]) (fun q hq => ?_) (fun q hq => Nat.ne_of_gt (Nat.lt_of_lt_of_le hP (ge q hq))) (fun q hq r hr => Nat.ne_of_gt (Nat.lt_of_lt_of_le (hL r hr) (ge q hq))) hcl fun f c' oc vs t ctv doc h' tk F' N' d1 d2 n1 l1 l2 l3 => ?_
  · rcases List.mem_cons.mp hq with rfl | hq
    · simp
    rcases List.mem_cons.mp hq with rfl | hq
    · simp
    rw [List.mem_singleton.mp hq]; simp
  · exact h f c' oc vs t ctv doc h' tk F' N' d1 d2 ⟨n1 _ (by simp), n1 _ (by simp), n1 _ (by simp)⟩ ⟨l1 _ (by simp), l1 _ (by simp), l1 _ (by simp), l2, l3⟩
theorem nestAny4 {Q : Value → Shared → Prop} {r0 r1 r2 r3 : Addr × Obj} {Lb : Addr} (F : Fr h₀ L s.heap m) (N : News h₀ L s.heap (r0 :: r1 :: r2 :: r3 :: (P, tabObj ps) :: cd)) (T : Top p loose mean mg mb h₀) (C : CodeHd h₀ c P) (hcd : ccd = .ref c) (hT : TabOk pos.line pos.col qual ps cd)
    (hP : @LT.lt Nat _ P Lb) (hL : ∀ r ∈ cd, r.1 < Lb) (h0 : @LE.le Nat _ Lb r0.1) (h1 : @LE.le Nat _ Lb r1.1) (h2 : @LE.le Nat _ Lb r2.1) (h3 : @LE.le Nat _ Lb r3.1)
    (hcl : closureFor scope (envX cn cs L a ccd cl) = pure clos)
    (h : ∀ f c' oc vs t ctv doc h' tk, Fr h₀ L h' m →
      News h₀ L h' (r0 :: (f, fnMade name qual params body scope clos doc ((mg "__name__").getD .none) c' ctv) :: (c', oc) :: (P, tabObj #[rawInt pos.line, rawInt pos.col, .ref c']) :: r1 :: r2 :: r3 :: []) →
      oc.data = .fields vs → vs[1]? = some (.str qual t) → (@Ne Nat r0.1 c' ∧ @Ne Nat r1.1 c' ∧ @Ne Nat r2.1 c' ∧ @Ne Nat r3.1 c') → (@LT.lt Nat _ r0.1 f ∧ @LT.lt Nat _ r1.1 f ∧ @LT.lt Nat _ r2.1 f ∧ @LT.lt Nat _ r3.1 f ∧ @LT.lt Nat _ c' f ∧ @LT.lt Nat _ P f) → Q (.ref f) { s with heap := h', toks := tk }) :
    wpAny M A (makeFunction name qual params (.stmts body) scope (envX cn cs L a ccd cl) [] [] [] pos firstLine) Q E s := by
  have ge : ∀ q ∈ [r0, r1, r2, r3], @LE.le Nat _ Lb q.1 := fun q hq => by
    rcases List.mem_cons.mp hq with rfl | hq
    · exact h0
    rcases List.mem_cons.mp hq with rfl | hq
    · exact h1
    rcases List.mem_cons.mp hq with rfl | hq
    · exact h2
    rw [List.mem_singleton.mp hq]; exact h3
  refine nestAny_K (rest := [r0, r1, r2, r3]) F N T C hcd hT (by simp) (fun q hq => by simp [hq]) (fun q hq => ?_) (fun q hq => Nat.ne_of_gt (Nat.lt_of_lt_of_le hP (ge q hq))) (fun q hq r hr => Nat.ne_of_gt (Nat.lt_of_lt_of_le (hL r hr) (ge q hq))) hcl fun f c' oc vs t ctv doc h' tk F' N' d1 d2 n1 l1 l2 l3 => ?_
  · rcases List.mem_cons.mp hq with rfl | hq
    · simp
    rcases List.mem_cons.mp hq with rfl | hq
    · simp
    rcases List.mem_cons.mp hq with rfl | hq
    · simp
    rw [List.mem_singleton.mp hq]; simp
  · have N₂ : News h₀ L h' (r0 :: (f, fnMade name qual params body scope clos doc ((mg "__name__").getD .none) c' ctv) :: (c', oc) :: (P, tabObj #[rawInt pos.line, rawInt pos.col, .ref c']) :: r1 :: r2 :: r3 :: []) := fun q hq => N' q (by
      simp only [List.mem_cons] at hq ⊢
      rcases hq with h | h | h | h | h
      · exact .inr (.inr (.inr (.inl h)))
      · exact .inl h
      · exact .inr (.inl h)
      · exact .inr (.inr (.inl h))
      · exact .inr (.inr (.inr (.inr h))))
    exact h f c' oc vs t ctv doc h' tk F' N₂ d1 d2 ⟨n1 _ (by simp), n1 _ (by simp), n1 _ (by simp), n1 _ (by simp)⟩ ⟨l1 _ (by simp), l1 _ (by simp), l1 _ (by simp), l1 _ (by simp), l2, l3⟩
end
/-- a contract by induction on a size; the ledger comes back as it was -/
theorem rec_ctr {w : World} {loose : List Str} {mean : ExcName → Option Value} {mg mb : Str → Option Value} {f : Addr} {led : List (Addr × Obj)} {Dm : Type} (size : Dm → Nat) (vs : Dm → List Value) (Dp : Dm → Nat) (P : Dm → Heap → Prop) (R : Dm → Value → Prop)
    (step : ∀ d, (∀ d', size d' < size d → Ctr w loose mean mg mb f (vs d') (Dp d') led (P d') (fun r led' => led' = led ∧ R d' r)) → Ctr w loose mean mg mb f (vs d) (Dp d) led (P d) (fun r led' => led' = led ∧ R d r)) : ∀ d, Ctr w loose mean mg mb f (vs d) (Dp d) led (P d) (fun r led' => led' = led ∧ R d r) := by
  have all : ∀ n, ∀ d, size d < n → Ctr w loose mean mg mb f (vs d) (Dp d) led (P d) (fun r led' => led' = led ∧ R d r) := by
    intro n
    induction n with
    | zero => intro d h; exact absurd h (Nat.not_lt_zero _)
    | succ n ih => exact fun d h => step d fun d' h' => ih d' (Nat.lt_of_lt_of_le h' (Nat.le_of_lt_succ h))
  exact fun d => all _ d (Nat.lt_succ_self _)
/-- the same, where the call turns the items of one list -/
theorem rec_ctrL {w : World} {loose : List Str} {mean : ExcName → Option Value} {mg mb : Str → Option Value} {f dl : Addr} {fx : List (Addr × Obj)} {Dm : Type} (size : Dm → Nat) (vs : Dm → List Value) (Dp : Dm → Nat) (arr : Dm → List Value) (cnt : Dm → Nat) (P : Dm → Heap → Prop) (R : Dm → Value → List Value → Prop)
    (step : ∀ d, (∀ d', size d' < size d → Ctr w loose mean mg mb f (vs d') (Dp d') ((dl, W.listOf (arr d').toArray (cnt d')) :: fx) (P d') (fun r led' => ∃ ar k, led' = (dl, W.listOf ar.toArray k) :: fx ∧ R d' r ar)) →
      Ctr w loose mean mg mb f (vs d) (Dp d) ((dl, W.listOf (arr d).toArray (cnt d)) :: fx) (P d) (fun r led' => ∃ ar k, led' = (dl, W.listOf ar.toArray k) :: fx ∧ R d r ar)) :
    ∀ d, Ctr w loose mean mg mb f (vs d) (Dp d) ((dl, W.listOf (arr d).toArray (cnt d)) :: fx) (P d) (fun r led' => ∃ ar k, led' = (dl, W.listOf ar.toArray k) :: fx ∧ R d r ar) := by
  have all : ∀ n, ∀ d, size d < n → Ctr w loose mean mg mb f (vs d) (Dp d) ((dl, W.listOf (arr d).toArray (cnt d)) :: fx) (P d) (fun r led' => ∃ ar k, led' = (dl, W.listOf ar.toArray k) :: fx ∧ R d r ar) := by
    intro n
    induction n with
    | zero => intro d h; exact absurd h (Nat.not_lt_zero _)
    | succ n ih => exact fun d h => step d fun d' h' => ih d' (Nat.lt_of_lt_of_le h' (Nat.le_of_lt_succ h))
  exact fun d => all _ d (Nat.lt_succ_self _)
section
variable {w : World} {loose : List Str} {mean : ExcName → Option Value} {mg mb : Str → Option Value} {f : Addr} {vs : List Value} {D : Nat} {led : List (Addr × Obj)} {P : Heap → Prop} {R : Value → List (Addr × Obj) → Prop}
  {dp un : Nat} {gd : Option (List Code)} {cn : Str} {cs : Scope} {a : Addr} {ccd : Value} {cl : List (Str × Addr)} {outer : List Env} {A₀ : Around} {base h₀ : Heap} {L : Addr} {m : Str → Option Value} {s : Shared} {Q E : Value → Shared → Prop}
/-- a contract used upon the whole ledger -/
theorem Ctr.all (C : Ctr w loose mean mg mb f vs D led P R) (B : Below A₀ base outer h₀) (F : Fr h₀ L s.heap m) (X : (hd.heap_39 w.params).In h₀) (N : News h₀ L s.heap led) (T : Top topProg loose mean mg mb h₀) (hk : cs.kind = .function)
    (hdp : dp + D < recursionLimit) (hun : un + 8 * D < cLine) (c1 : CodeHd base 41 37) (c2 : CodeHd base 34 30) (hP : P s.heap)
    (ret : ∀ r led' h' tk', Fr h₀ L h' m → News h₀ L h' led' → R r led' → Q r { s with heap := h', toks := tk' }) :
    wpAny (model Challenge.rw_pe0173_01.row.prog w) (ktrTop dp un gd cn cs L a ccd cl outer) (call (.ref f) vs) Q E s :=
  C dp un gd cn cs a ccd cl outer A₀ base h₀ L m s Q E B F X N T hk hdp hun c1 c2 hP fun r led' h' tk' F' N' _ _ hR => ret r led' h' tk' F' N' hR
theorem not_led {g h : Heap} {its : Array Value} {dl : Addr} (N : News g L h led) (hl : g.IsList dl its) : dl ∉ led.map (·.1) := fun q => by
  obtain ⟨p, hp, e⟩ := List.mem_map.mp q
  obtain ⟨o, ho, _⟩ := hl
  have := (N p hp).2.2
  rw [e, ho] at this; cases this
end
section
variable {h₀ h : Heap} {L : Addr} {all : List (Addr × Obj)} {P P' : Addr} {ps pt : Array Value} {cd ct : List (Addr × Obj)} {l1 c1 l2 c2 : Nat} {q q' : Str}
theorem news_same (N : News h₀ L h all) {p r : Addr × Obj} (hp : p ∈ all) (hr : r ∈ all) (e : p.1 = r.1) : p.2 = r.2 := by
  have h1 := (N p hp).1
  rw [e, (N r hr).1] at h1
  exact (Option.some.inj h1).symm
theorem tab_cases (hT : TabOk l1 c1 q ps cd) {p : Addr × Obj} (hp : p ∈ (P, tabObj ps) :: cd) : p = (P, tabObj ps) ∨ ∃ vs t, p.2.data = .fields vs ∧ vs[1]? = some (.str q t) := by
  cases hT with
  | empty => exact .inl (List.mem_singleton.mp hp)
  | full d1 d2 =>
    rcases List.mem_cons.mp hp with e | e
    · exact .inl e
    · rw [List.mem_singleton.mp e]; exact .inr ⟨_, _, d1, d2⟩
theorem tab_one (hT : TabOk l1 c1 q ps cd) (t : Tok) : ps[1]? ≠ some (.str q' t) := by
  cases hT with
  | empty => intro h; cases h
  | full d1 d2 => intro h; cases h
/-- an object that bears no fields is none of a code table's -/
theorem off_tab (N : News h₀ L h all) (hi : ∀ p ∈ (P, tabObj ps) :: cd, p ∈ all) (hT : TabOk l1 c1 q ps cd) {p : Addr × Obj} (hp : p ∈ all) (hne : ∀ vs, p.2.data ≠ .fields vs) : p.1 ∉ ((P, tabObj ps) :: cd).map (·.1) := fun hm => by
  obtain ⟨r, hr, e⟩ := List.mem_map.mp hm
  have h1 := news_same N hp (hi r hr) e.symm
  rcases tab_cases hT hr with rfl | ⟨vs, t, d1, d2⟩
  · exact hne _ (by rw [h1])
  · exact hne _ (by rw [h1]; exact d1)
/-- two code tables lie apart -/
theorem tabs_off (N : News h₀ L h all) (hd : ∀ p ∈ (P, tabObj ps) :: cd, p ∈ all) (hi : ∀ p ∈ (P', tabObj pt) :: ct, p ∈ all) (hT : TabOk l1 c1 q ps cd) (hU : TabOk l2 c2 q' pt ct) (hPP : P ≠ P') (hqq : q ≠ q') :
    ∀ p ∈ (P, tabObj ps) :: cd, p.1 ∉ ((P', tabObj pt) :: ct).map (·.1) := fun p hp hm => by
  obtain ⟨r, hr, e⟩ := List.mem_map.mp hm
  have h1 := news_same N (hd p hp) (hi r hr) e.symm
  rcases tab_cases hT hp with rfl | ⟨vs, t, d1, d2⟩
  · rcases tab_cases hU hr with rfl | ⟨vs', t', f1, f2⟩
    · exact hPP e.symm
    · rw [← h1] at f1
      cases f1
      exact tab_one hT _ f2
  · rcases tab_cases hU hr with rfl | ⟨vs', t', f1, f2⟩
    · rw [h1] at d1
      cases d1
      exact tab_one hU _ d2
    · rw [h1, f1] at d1
      cases d1
      rw [f2] at d2
      cases d2
      exact hqq rfl
end
end Mine
end
section
open PySem PySem.W PyProof.Rows PySem.Calls PySem.Spec
set_option maxHeartbeats 0
set_option pp.deepTerms false
namespace Mine
theorem mid_lo {l r : Nat} (h : l < r) (e : ¬ l + 1 = r) : l < (l + r) / 2 := by omega
theorem mid_hi {l r : Nat} (h : l < r) : (l + r) / 2 < r := by omega
theorem mid_a {l r : Nat} (h : l < r) : (l + r) / 2 - l < r - l := Nat.sub_lt_sub_right (by omega) (mid_hi h)
theorem mid_b {l r : Nat} (h : l < r) (e : ¬ l + 1 = r) : r - (l + r) / 2 < r - l := Nat.sub_lt_sub_left h (mid_lo h e)
theorem mid_ak {l r k : Nat} (h : l < r) (h1 : r - l ≤ k + 1) : (l + r) / 2 - l ≤ k := Nat.le_of_lt_succ (Nat.lt_of_lt_of_le (mid_a h) h1)
theorem mid_bk {l r k : Nat} (h : l < r) (e : ¬ l + 1 = r) (h1 : r - l ≤ k + 1) : r - (l + r) / 2 ≤ k := Nat.le_of_lt_succ (Nat.lt_of_lt_of_le (mid_b h e) h1)
theorem mid_no {l r : Nat} {P : Prop} (h : l < r) (h1 : r - l ≤ 0) : P := absurd (Nat.sub_pos_of_lt h) (Nat.not_lt.mpr h1)
theorem cast_eq {l r : Nat} (e : (l : Int) + 1 = r) : l + 1 = r := by omega
theorem cast_ne {l r : Nat} (e : ¬ (l : Int) + 1 = r) : ¬ l + 1 = r := fun h => e (congrArg Int.ofNat h)
theorem sub8 {l r k : Nat} (h : r ≤ 8) (hk : 8 ≤ k) : r - l ≤ k := Nat.le_trans (Nat.sub_le _ _) (Nat.le_trans h hk)
theorem room_d {dp d e R : Nat} (h : dp + e < R) (k : d < e) : dp + 1 + d < R := by omega
theorem room_u {un d e R : Nat} (h : un + 8 * e < R) (k : d < e) : un + 3 + 8 * d < R := by omega
theorem room_d0 {dp k R : Nat} (h : dp + 10 < R) (k8 : k ≤ 8) : dp + 1 + (k - 0) < R := by omega
theorem room_u0 {un k R : Nat} (h : un + 8 * 10 < R) (k8 : k ≤ 8) : un + 3 + 8 * (k - 0) < R := by omega
/-- what _digits2int's inner def reckons -/
noncomputable def dF (ns : List Int) (n : Nat) : Nat → Nat → Nat → Int
  | 0, _, _ => 0
  | k + 1, l, r => if l + 1 = r then ns.getD l 0 else dF ns n k ((l + r) / 2) r * 2 ^ (((l + r) / 2 - l) * n) + dF ns n k l ((l + r) / 2)
/-- what _digits2int hands back -/
noncomputable def d2iF (ns : List Int) (n : Nat) : Int := if ns.length = 0 then 0 else dF ns n 8 0 ns.length
theorem dF_fuel (ns : List Int) (n : Nat) : ∀ k k' l r, l < r → r - l ≤ k → r - l ≤ k' → dF ns n k l r = dF ns n k' l r
  | 0, _, l, r, h, h1, _ => mid_no h h1
  | _ + 1, 0, l, r, h, _, h2 => mid_no h h2
  | k + 1, k' + 1, l, r, h, h1, h2 => by
    show (if l + 1 = r then _ else _) = (if l + 1 = r then _ else _)
    by_cases e : l + 1 = r
    · rw [if_pos e, if_pos e]
    · rw [if_neg e, if_neg e, dF_fuel ns n k k' ((l + r) / 2) r (mid_hi h) (mid_bk h e h1) (mid_bk h e h2), dF_fuel ns n k k' l ((l + r) / 2) (mid_lo h e) (mid_ak h h1) (mid_ak h h2)]
theorem dF_one (ns : List Int) (n l r : Nat) (e : (l : Int) + 1 = r) : dF ns n 8 l r = ns.getD l 0 := by
  show (if l + 1 = r then _ else _) = _
  rw [if_pos (cast_eq e)]
theorem dF_step (ns : List Int) (n l r : Nat) (h : l < r) (h8 : r ≤ 8) (e : ¬ (l : Int) + 1 = r) : dF ns n 8 l r = dF ns n 8 ((l + r) / 2) r * 2 ^ (((l + r) / 2 - l) * n) + dF ns n 8 l ((l + r) / 2) := by
  show (if l + 1 = r then _ else _) = _
  have e' := cast_ne e
  have h7 : r - l ≤ 7 + 1 := sub8 h8 (Nat.le_refl _)
  rw [if_neg e', dF_fuel ns n 7 8 ((l + r) / 2) r (mid_hi h) (mid_bk h e' h7) (Nat.le_succ_of_le (mid_bk h e' h7)), dF_fuel ns n 7 8 l ((l + r) / 2) (mid_lo h e') (mid_ak h h7) (Nat.le_succ_of_le (mid_ak h h7))]
theorem mid_eq (l r : Nat) : ((l : Int) + (r : Int)).fdiv (2 ^ Int.toNat 1) = (((l + r) / 2 : Nat) : Int) := by
  show Int.fdiv _ (2 ^ 1) = _
  rw [Int.fdiv_eq_ediv_of_nonneg _ (by decide)]
  omega
theorem sh_eq (n : Nat) {l r : Nat} (h : l < r) : (((l : Int) + (r : Int)).fdiv (2 ^ Int.toNat 1) - (l : Int)) * (n : Int) = ((((l + r) / 2 - l) * n : Nat) : Int) := by
  rw [mid_eq l r, show (((l + r) / 2 : Nat) : Int) - (l : Int) = (((l + r) / 2 - l : Nat) : Int) by omega, Int.natCast_mul]
theorem sh_nn (n : Nat) {l r : Nat} (h : l < r) : 0 ≤ (((l : Int) + (r : Int)).fdiv (2 ^ Int.toNat 1) - (l : Int)) * (n : Int) := by
  rw [sh_eq n h]; exact Int.natCast_nonneg _
theorem sh_le {n l r : Nat} (h : l < r) (h8 : r ≤ 8) (hn : n ≤ 100) : (((l : Int) + (r : Int)).fdiv (2 ^ Int.toNat 1) - (l : Int)) * (n : Int) ≤ 1000000 := by
  have : ((l + r) / 2 - l) * n ≤ 8 * 100 := Nat.mul_le_mul (by omega) hn
  rw [sh_eq n h]; generalize ((l + r) / 2 - l) * n = k at *; omega
noncomputable abbrev qD : PySem.Str := PySem.Str.ofString "_digits2int.<locals>.inner"
theorem d2i (w : World) (loose mean mg mb) (dl : Addr) (vs : List Value) (ns : List Int) (n : Nat) (tn : Tok) (ps : Array Value) (cd : List (Addr × Obj)) (hT : TabOk 47 4 qD ps cd) (hI : IntsAre vs ns) (hn : n ≤ 100) (hlen : ns.length ≤ 8)
    (hB : ∀ l r, l < r → r ≤ ns.length → (dF ns n 8 l r).natAbs < 2 ^ 64) :
    Ctr w loose mean mg mb 42 [.ref dl, .int n tn] 10 ((37, tabObj ps) :: cd) (fun h => h.IsList dl vs.toArray ∧ dl ∉ ((37, tabObj ps) :: cd).map (·.1)) (fun r led => ∃ ps' cd' t, r = .int (d2iF ns n) t ∧ TabOk 47 4 qD ps' cd' ∧ led = (37, tabObj ps') :: cd') := by
  unfold Ctr
  w_top off
  k_fill
  intro dp un gd cn cs a ccd cl outer A₀ base h₀ L m s Q E B F X N T hk hd hu c1 c2 hP hret
  refine wpAny_call ?_
  k_dflt ((refine' enter_cells ?en_k1 ?en_k2 ?en_k3 ?en_k4 ?en_k5 ?en_kA ?en_kF ?en_kK ?en_k6 ?en_k7 ?en_k8 ?en_k9 ?en_kB ?en_kD ?_ ?en_c2 ?en_c3 ?en_c4; (case en_kA => exact rfl); (case en_kF => exact rfl); (case en_kK => assumption); (case en_k1 => k_asm); (case en_k2 => k_asm); (case en_k3 => k_asm); (case en_k4 => k_asm); (case en_k5 => k_asm); (case en_k6 => k_is); (case en_k7 => k_is); (case en_k8 => ktr_room); (case en_k9 => exact BindsTo.of_eq rfl); (case en_kB => exact rfl); (case en_kD => decide +kernel); (case en_c2 => exact rfl); (case en_c3 => exact rfl); (case en_c4 => exact rfl); k_whole; intro g' L' h' tk' cells' FG' F' N' Y' B' X' T' l1 kG'; (try k_lt l1); k_cells Y'; (try simp only [List.cons_append, List.nil_append] at N'); (try dsimp only); (try k_lift B'); (try k_fold)))
  rename GSub _ _ _ => kG9
  have hPg := hP.1.at fun o e => kG9 _ o e hP.2
  (repeat' (first | (k_unfold; (try dsimp only)) | (k_end; wrow_close) | ((with_reducible refine lshift_int_small ?_ ?_ ?_ ?_); (· assumption); (· assumption); (· assumption)) | ((fail_if_success (fail_if_success (with_reducible show wpAny _ _ (exec _ _) _ _ _))); k_fold) | ((fail_if_success (fail_if_success (with_reducible show wpAny _ _ (execs (_ :: _) _) _ _ (Shared.mk _ _ _ (HAdd.hAdd _ _) _)))); refine flat (s := s) rfl rfl rfl (fun _ => ?_)) | walk1 | (dsimp only; walk1) | (leave1; walk_say "STEP leave1"; try dsimp only) | fail "no step"))
  rename (37 < _ ∧ AllLt _ cd) => l9
  k_dflt (refine' nestDef_K ?d0 ?k0 ?a0 ?_; (case d0 => exact rfl); (case k0 => exact rfl); (case a0 => exact rfl))
  k_dflt (refine' nestAny3 ?F ?N ?T ?C ?hcd ?hT l9.1 (ktn_ltOf l9.2) ?p3 ?p4 ?p5 ?cl ?_; (case F => k_asm); (case N => k_asm); (case T => k_asm); (case hcd => exact rfl); (case C => kn_code); (case hT => exact hT); (case p3 => (dsimp only; omega)); (case p4 => (dsimp only; omega)); (case p5 => (dsimp only; omega)); (case cl => exact rfl); k_whole)
  intro f' c' oc' vs' t' ct' dc' h' tk' F' N' d1' d2' n1' l1'
  dsimp only at n1' l1'
  (repeat' (first | (k_unfold; (try dsimp only)) | (k_end; wrow_close) | ((with_reducible refine lshift_int_small ?_ ?_ ?_ ?_); (· assumption); (· assumption); (· assumption)) | ((fail_if_success (fail_if_success (with_reducible show wpAny _ _ (exec _ _) _ _ _))); k_fold) | ((fail_if_success (fail_if_success (with_reducible show wpAny _ _ (execs (_ :: _) _) _ _ (Shared.mk _ _ _ (HAdd.hAdd _ _) _)))); refine flat (s := s) rfl rfl rfl (fun _ => ?_)) | walk1 | (dsimp only; walk1) | (leave1; walk_say "STEP leave1"; try dsimp only) | fail "no step"))
  · have hnot := not_led (by k_asm) hPg
    k_dflt (refine' Ctr.all (rec_ctr (Dm := Nat × Nat × Tok × Tok) (fun d => d.2.1 - d.1) (fun d => [.int d.1 d.2.2.1, .int d.2.1 d.2.2.2]) (fun d => d.2.1 - d.1) (fun d h => h.IsList dl vs.toArray ∧ d.1 < d.2.1 ∧ d.2.1 ≤ ns.length) (fun d r => ∃ t, r = .int (dF ns n 8 d.1 d.2.1) t) ?step (0, ns.length, _, _)) ?k1 ?k2 ?k3 ?k4 ?k5 ?kK ?kd ?ku ?x1 ?x2 ?hP ?_; (case k1 => k_asm); (case k2 => k_asm); (case k3 => k_asm); (case k4 => k_asm); (case k5 => k_asm); (case kK => first | exact rfl | assumption); (case x1 => assumption); (case x2 => assumption); k_whole)
    case step =>
      intro d ih
      obtain ⟨l, r, tl, tr⟩ := d
      dsimp only at ih ⊢
      unfold Ctr
      intro dp un gd cn cs a ccd cl outer A₀ base' h₀ L m s Q E B F X N T hk hd hu c1' c2' hP hret
      refine wpAny_call ?_
      k_dflt (refine' enter_nest ?k1 ?k2 ?k3 ?k4 ?k5 ?kA ?kF ?kK ?k6 ?k7 ?k8 ?k9 ?kB ?_ ?c2 ?c3 ?c4 ?c5; (case kA => exact rfl); (case kF => exact rfl); (case kK => assumption); (case k1 => k_asm); (case k2 => k_asm); (case k3 => k_asm); (case k4 => k_asm); (case k5 => k_asm); (case k6 => k_mem); (case k7 => exact codeRec_news (by k_asm) (by k_mem) (by assumption) (by assumption)); (case k8 => ktr_room); (case k9 => exact BindsTo.of_eq rfl); (case c5 => decide); (case kB => exact locs rfl); (case c2 => exact rfl); (case c3 => exact rfl); (case c4 => exact rfl); k_whole)
      intro g' L' h' FG' F' N' B' X' T' kG'
      (try dsimp only)
      (try k_lift B')
      (try k_fold)
      have hg := hP.1.at fun o e => kG' _ o e hnot
      have hP2 := hP.2.1
      have hP3 := hP.2.2
      (repeat' (first | (k_unfold; (try dsimp only)) | (k_end; wrow_close) | ((with_reducible refine lshift_int_small ?_ ?_ ?_ ?_); (· assumption); (· assumption); (· assumption)) | ((fail_if_success (fail_if_success (with_reducible show wpAny _ _ (exec _ _) _ _ _))); k_fold) | ((fail_if_success (fail_if_success (with_reducible show wpAny _ _ (execs (_ :: _) _) _ _ (Shared.mk _ _ _ (HAdd.hAdd _ _) _)))); refine flat (s := s) rfl rfl rfl (fun _ => ?_)) | walk1 | (dsimp only; walk1) | (leave1; walk_say "STEP leave1"; try dsimp only) | fail "no step"))
      · exact ctr_end hret kG' (by k_asm) (by k_asm) (by k_asm) (by k_asm) (fun _ h => h) ⟨rfl, _, congrArg (fun x => Value.int x _) (dF_one ns n l r (by assumption)).symm⟩
      rw [mid_eq l r]
      have e1 : ¬ (l : Int) + 1 = r := by assumption
      k_dflt (refine' Ctr.all (ih ((l + r) / 2, r, _, _) ?lta) ?k1a ?k2a ?k3a ?k4a ?k5a ?kKa ?kda ?kua ?x1a ?x2a ?hPa ?_; (case lta => (dsimp only; exact mid_b hP2 (cast_ne e1))); (case k1a => k_asm); (case k2a => k_asm); (case k3a => k_asm); (case k4a => k_asm); (case k5a => k_asm); (case kKa => first | exact rfl | assumption); (case x1a => assumption); (case x2a => assumption); (case kda => (dsimp only; exact room_d hd (mid_b hP2 (cast_ne e1)))); (case kua => (dsimp only; exact room_u hu (mid_b hP2 (cast_ne e1)))); (case hPa => exact ⟨hg.at fun o e => Fr.keep (by k_asm) _ _ e, mid_hi hP2, hP3⟩); k_whole)
      rintro r9 led9 h9 tk9 F9 N9 ⟨rfl, t9, rfl⟩
      (try dsimp only)
      (try k_fold)
      have hB1 := hB _ r (mid_hi hP2) hP3
      have hB2 := hB l _ (mid_lo hP2 (cast_ne e1)) (Nat.le_trans (Nat.le_of_lt (mid_hi hP2)) hP3)
      have hs0 := sh_nn n hP2
      have hs1 := sh_le hP2 (Nat.le_trans hP3 hlen) hn
      (repeat' (first | (k_unfold; (try dsimp only)) | (k_end; wrow_close) | ((with_reducible refine lshift_int_small ?_ ?_ ?_ ?_); (· assumption); (· assumption); (· assumption)) | ((fail_if_success (fail_if_success (with_reducible show wpAny _ _ (exec _ _) _ _ _))); k_fold) | ((fail_if_success (fail_if_success (with_reducible show wpAny _ _ (execs (_ :: _) _) _ _ (Shared.mk _ _ _ (HAdd.hAdd _ _) _)))); refine flat (s := s) rfl rfl rfl (fun _ => ?_)) | walk1 | (dsimp only; walk1) | (leave1; walk_say "STEP leave1"; try dsimp only) | fail "no step"))
      rw [mid_eq l r]
      k_dflt (refine' Ctr.all (ih (l, (l + r) / 2, _, _) ?ltb) ?k1b ?k2b ?k3b ?k4b ?k5b ?kKb ?kdb ?kub ?x1b ?x2b ?hPb ?_; (case ltb => (dsimp only; exact mid_a hP2)); (case k1b => k_asm); (case k2b => k_asm); (case k3b => k_asm); (case k4b => k_asm); (case k5b => k_asm); (case kKb => first | exact rfl | assumption); (case x1b => assumption); (case x2b => assumption); (case kdb => (dsimp only; exact room_d hd (mid_a hP2))); (case kub => (dsimp only; exact room_u hu (mid_a hP2))); (case hPb => exact ⟨hg.at fun o e => Fr.keep (by k_asm) _ _ e, mid_lo hP2 (cast_ne e1), Nat.le_trans (Nat.le_of_lt (mid_hi hP2)) hP3⟩); k_whole)
      rintro r8 led8 h8 tk8 F8 N8 ⟨rfl, t8, rfl⟩
      (try dsimp only)
      (try k_fold)
      (repeat' (first | (k_unfold; (try dsimp only)) | (k_end; wrow_close) | ((with_reducible refine lshift_int_small ?_ ?_ ?_ ?_); (· assumption); (· assumption); (· assumption)) | ((fail_if_success (fail_if_success (with_reducible show wpAny _ _ (exec _ _) _ _ _))); k_fold) | ((fail_if_success (fail_if_success (with_reducible show wpAny _ _ (execs (_ :: _) _) _ _ (Shared.mk _ _ _ (HAdd.hAdd _ _) _)))); refine flat (s := s) rfl rfl rfl (fun _ => ?_)) | walk1 | (dsimp only; walk1) | (leave1; walk_say "STEP leave1"; try dsimp only) | fail "no step"))
      refine ctr_end hret kG' (by k_asm) (by k_asm) (by k_asm) (by k_asm) (fun _ h => h) ⟨rfl, _, congrArg (fun x => Value.int x _) ?_⟩
      rw [dF_step ns n l r hP2 (Nat.le_trans hP3 hlen) e1, ← mid_eq l r, sh_eq n hP2, Int.toNat_natCast]
    case kd => (dsimp only; exact room_d0 hd hlen)
    case ku => (dsimp only; exact room_u0 hu hlen)
    case hP => exact ⟨hPg.at fun o e => Fr.keep (by k_asm) _ _ e, by dsimp only; omega, Nat.le_refl _⟩
    rintro r8 led8 h8 tk8 F8 N8 ⟨rfl, t8, rfl⟩
    (try dsimp only)
    (try k_fold)
    (repeat' (first | (k_unfold; (try dsimp only)) | (k_end; wrow_close) | ((with_reducible refine lshift_int_small ?_ ?_ ?_ ?_); (· assumption); (· assumption); (· assumption)) | ((fail_if_success (fail_if_success (with_reducible show wpAny _ _ (exec _ _) _ _ _))); k_fold) | ((fail_if_success (fail_if_success (with_reducible show wpAny _ _ (execs (_ :: _) _) _ _ (Shared.mk _ _ _ (HAdd.hAdd _ _) _)))); refine flat (s := s) rfl rfl rfl (fun _ => ?_)) | walk1 | (dsimp only; walk1) | (leave1; walk_say "STEP leave1"; try dsimp only) | fail "no step"))
    refine ctr_end (led' := [(37, tabObj #[rawInt 47, rawInt 4, .ref c']), (c', oc')]) hret kG9 (by k_asm) (by k_asm) (by k_asm) (by k_asm) (List.forall_mem_cons.mpr ⟨by k_mem, List.forall_mem_cons.mpr ⟨by k_mem, fun _ h => nomatch h⟩⟩) ⟨_, _, _, congrArg (fun x => Value.int x _) ?_, TabOk.full d1' (by with_unfolding_all exact d2'), rfl⟩
    unfold d2iF
    rw [if_neg (by omega)]
  · refine ctr_end (led' := [(37, tabObj #[rawInt 47, rawInt 4, .ref c']), (c', oc')]) hret kG9 (by k_asm) (by k_asm) (by k_asm) (by k_asm) (List.forall_mem_cons.mpr ⟨by k_mem, List.forall_mem_cons.mpr ⟨by k_mem, fun _ h => nomatch h⟩⟩) ⟨_, _, _, congrArg (fun x => Value.int x _) ?_, TabOk.full d1' (by with_unfolding_all exact d2'), rfl⟩
    unfold d2iF
    rw [if_pos (by omega)]
end Mine
end
section
open PySem PySem.W PyProof.Rows PySem.Calls PySem.Spec
set_option maxHeartbeats 0
set_option pp.deepTerms false
namespace Mine
theorem flat_zeros (v : Value) : ∀ (n : Nat) (acc : Array Value), List.foldl (fun x1 x2 => x1 ++ x2) acc (List.replicate n #[v]) = acc ++ (List.replicate n v).toArray
  | 0, acc => by simp
  | n + 1, acc => by
    rw [List.replicate_succ, List.foldl_cons, flat_zeros v n, List.replicate_succ]
    apply Array.toList_inj.mp
    simp
theorem ints_zeros (t : Tok) : ∀ n, IntsAre (List.replicate n (Value.int 0 t)) (List.replicate n 0)
  | 0 => .nil
  | n + 1 => .cons 0 t (ints_zeros t n)
theorem mul_zeros {prog : Program} {w : World} {A : Around} {E : Value → Shared → Prop} {s : Shared} {h₀ : Heap} {L l : Addr} {m : PySem.Str → Option Value} {rest : List (Addr × Obj)} {t u : Tok} {k : Nat} {x : Int} {Q : Value → Shared → Prop}
    (F : Fr h₀ L s.heap m) (N : News h₀ L s.heap ((l, W.listOf #[Value.int 0 t] k) :: rest)) (h0 : 0 ≤ x) (h1 : x ≤ 1000)
    (h : ∀ D h', Fr h₀ L h' m → News h₀ L h' ((D, W.listOf (List.replicate x.toNat (Value.int 0 t)).toArray 0) :: rest) → (∀ p ∈ rest, p.1 < D) → IntsAre (List.replicate x.toNat (Value.int 0 t)) (List.replicate x.toNat 0) → (List.replicate x.toNat (0 : Int)).length < 2 ^ 62 → Q (.ref D) { s with heap := h' }) : wpAny (model prog w) A (binaryOp .Mult (.ref l) (.int x u)) Q E s := by
  refine mul_list F N (N _ (.head _)).1 (by omega) (by omega) (by show 1 * x.toNat ≤ 2 ^ 24; omega) fun h' F' N' => h _ h' F' (fun p hp => N' p ?_) (fun p hp => Heap.lt_size (N p (.tail _ hp)).1) (ints_zeros t _) (by rw [List.length_replicate]; omega)
  rcases List.mem_cons.mp hp with rfl | hp
  · have e : List.foldl (fun x1 x2 => x1 ++ x2) #[] (List.replicate (if (#[Value.int 0 t] : Array Value).isEmpty = true then 0 else x.toNat) #[Value.int 0 t]) = (List.replicate x.toNat (Value.int 0 t)).toArray := by
      rw [if_neg (by simp), flat_zeros]; simp
    rw [e]; exact .head _
  · exact .tail _ (.tail _ hp)
theorem ne_tail {d b : Addr} {l : List (Addr × Obj)} (h : AllLt b l) (hb : @LE.le Nat _ b d) : ∀ p ∈ l, p.1 ≠ d := fun p hp => Nat.ne_of_lt (Nat.lt_of_lt_of_le (ktn_ltOf h p hp) hb)
local macro_rules | `(tactic| k_all) => `(tactic| (refine ne_tail (by assumption) ?_; omega))
structure I2Dm where
  x : Int
  l : Nat
  r : Nat
  tx : Tok
  tl : Tok
  tr : Tok
  vs : List Value
  k : Nat
  ds : List Int
theorem mid_sum {l r : Nat} (h : l < r) : (l + r) / 2 - l + (r - (l + r) / 2) = r - l := by omega
/-- what _int2digits' inner def writes -/
noncomputable def iF (n : Nat) : Nat → Nat → Nat → Int → List Int
  | 0, _, _, _ => []
  | k + 1, l, r, x => if l + 1 = r then [x] else
      iF n k l ((l + r) / 2) (Builtin.bitXor x (x.fdiv (2 ^ (((l + r) / 2 - l) * n)) * 2 ^ (((l + r) / 2 - l) * n))) ++ iF n k ((l + r) / 2) r (x.fdiv (2 ^ (((l + r) / 2 - l) * n)))
/-- every number on its way is below 2 ** 64 -/
noncomputable def okB (n : Nat) : Nat → Nat → Nat → Int → Bool
  | 0, _, _, _ => true
  | k + 1, l, r, x => decide (0 ≤ x) && decide (x < 2 ^ 64) && (decide (l + 1 = r) ||
      (okB n k l ((l + r) / 2) (Builtin.bitXor x (x.fdiv (2 ^ (((l + r) / 2 - l) * n)) * 2 ^ (((l + r) / 2 - l) * n))) && okB n k ((l + r) / 2) r (x.fdiv (2 ^ (((l + r) / 2 - l) * n)))))
theorem iF_fuel (n : Nat) : ∀ k k' l r x, l < r → r - l ≤ k → r - l ≤ k' → iF n k l r x = iF n k' l r x
  | 0, _, l, r, x, h, h1, _ => mid_no h h1
  | _ + 1, 0, l, r, x, h, _, h2 => mid_no h h2
  | k + 1, k' + 1, l, r, x, h, h1, h2 => by
    show (if l + 1 = r then _ else _) = (if l + 1 = r then _ else _)
    by_cases e : l + 1 = r
    · rw [if_pos e, if_pos e]
    · rw [if_neg e, if_neg e, iF_fuel n k k' _ _ _ (mid_lo h e) (mid_ak h h1) (mid_ak h h2), iF_fuel n k k' _ r _ (mid_hi h) (mid_bk h e h1) (mid_bk h e h2)]
theorem okB_fuel (n : Nat) : ∀ k k' l r x, l < r → r - l ≤ k → r - l ≤ k' → okB n k l r x = okB n k' l r x
  | 0, _, l, r, x, h, h1, _ => mid_no h h1
  | _ + 1, 0, l, r, x, h, _, h2 => mid_no h h2
  | k + 1, k' + 1, l, r, x, h, h1, h2 => by
    unfold okB
    by_cases e : l + 1 = r
    · simp [e]
    · rw [okB_fuel n k k' _ _ _ (mid_lo h e) (mid_ak h h1) (mid_ak h h2), okB_fuel n k k' _ r _ (mid_hi h) (mid_bk h e h1) (mid_bk h e h2)]
theorem iF_len (n : Nat) : ∀ k l r x, l < r → r - l ≤ k → (iF n k l r x).length = r - l
  | 0, l, r, x, h, h1 => mid_no h h1
  | k + 1, l, r, x, h, h1 => by
    unfold iF
    by_cases e : l + 1 = r
    · rw [if_pos e, ← e]; exact (Nat.add_sub_cancel_left l 1).symm
    · rw [if_neg e, List.length_append, iF_len n k _ _ _ (mid_lo h e) (mid_ak h h1), iF_len n k _ r _ (mid_hi h) (mid_bk h e h1)]; exact mid_sum h
noncomputable abbrev loF (n l r : Nat) (x : Int) : Int := Builtin.bitXor x (x.fdiv (2 ^ (((l + r) / 2 - l) * n)) * 2 ^ (((l + r) / 2 - l) * n))
noncomputable abbrev upF (n l r : Nat) (x : Int) : Int := x.fdiv (2 ^ (((l + r) / 2 - l) * n))
theorem iF_one (n l r : Nat) (x : Int) (e : (l : Int) + 1 = r) : iF n 8 l r x = [x] := by
  show (if l + 1 = r then _ else _) = _
  rw [if_pos (cast_eq e)]
theorem iF_step (n l r : Nat) (x : Int) (h : l < r) (h8 : r ≤ 8) (e : ¬ (l : Int) + 1 = r) : iF n 8 l r x = iF n 8 l ((l + r) / 2) (loF n l r x) ++ iF n 8 ((l + r) / 2) r (upF n l r x) := by
  show (if l + 1 = r then _ else _) = _
  have e' := cast_ne e
  have h7 : r - l ≤ 7 + 1 := sub8 h8 (Nat.le_refl _)
  rw [if_neg e', iF_fuel n 7 8 _ _ _ (mid_lo h e') (mid_ak h h7) (Nat.le_succ_of_le (mid_ak h h7)), iF_fuel n 7 8 _ r _ (mid_hi h) (mid_bk h e' h7) (Nat.le_succ_of_le (mid_bk h e' h7))]
theorem okB_nn {n l r : Nat} {x : Int} (hok : okB n 8 l r x = true) : 0 ≤ x ∧ x < 2 ^ 64 := by
  unfold okB at hok
  simp only [Bool.and_eq_true, decide_eq_true_eq] at hok
  exact hok.1
theorem okB_step {n l r : Nat} {x : Int} (h : l < r) (h8 : r ≤ 8) (e : ¬ (l : Int) + 1 = r) (hok : okB n 8 l r x = true) : okB n 8 l ((l + r) / 2) (loF n l r x) = true ∧ okB n 8 ((l + r) / 2) r (upF n l r x) = true := by
  unfold okB at hok
  simp only [Bool.and_eq_true, Bool.or_eq_true, decide_eq_true_eq] at hok
  rcases hok.2 with h1 | h1
  · exact absurd h1 (cast_ne e)
  · have e' := cast_ne e
    have h7 : r - l ≤ 7 + 1 := sub8 h8 (Nat.le_refl _)
    rw [okB_fuel n 8 7 _ _ _ (mid_lo h e') (Nat.le_succ_of_le (mid_ak h h7)) (mid_ak h h7), okB_fuel n 8 7 _ r _ (mid_hi h) (Nat.le_succ_of_le (mid_bk h e' h7)) (mid_bk h e' h7)]
    exact h1
theorem list_glue {ds A B : List Int} {l mid r : Nat} (h1 : l ≤ mid) (h2 : mid ≤ r) (h3 : r ≤ ds.length) (hA : A.length = mid - l) :
    (ds.take l ++ A ++ ds.drop mid).take mid ++ B ++ (ds.take l ++ A ++ ds.drop mid).drop r = ds.take l ++ (A ++ B) ++ ds.drop r := by
  have e1 : (ds.take l ++ A).length = mid := by rw [List.length_append, List.length_take, hA, Nat.min_eq_left (by omega)]; omega
  have e2 : (ds.take l ++ A ++ ds.drop mid).take mid = ds.take l ++ A := List.take_left' e1
  have e3 : (ds.take l ++ A ++ ds.drop mid).drop r = ds.drop r := by
    rw [List.drop_append, e1, List.drop_of_length_le (by rw [e1]; exact h2), List.nil_append, List.drop_drop]
    congr 1; omega
  rw [e2, e3]; simp
theorem list_one {ds : List Int} {l r : Nat} {x : Int} (h : l < ds.length) (e : (l : Int) + 1 = r) : ds.set l x = ds.take l ++ [x] ++ ds.drop r := by
  have : r = l + 1 := by omega
  subst this
  rw [List.set_eq_take_append_cons_drop, if_pos h]; simp
theorem fdiv_small {x : Int} {k : Nat} (h0 : 0 ≤ x) (h1 : x < 2 ^ 64) : (x.fdiv (2 ^ k)).natAbs < 2 ^ 64 := by
  have hp : (0 : Int) ≤ 2 ^ k := Int.le_of_lt (Int.pow_pos (by decide))
  rw [Int.fdiv_eq_ediv_of_nonneg _ hp]
  have h2 := Int.ediv_nonneg h0 hp
  have h3 := Int.ediv_le_self (2 ^ k) h0
  omega
theorem mid_len {n l r : Nat} {x : Int} {ds : List Int} (h : l < r) (hr : r ≤ ds.length) (h8 : ds.length ≤ 8) (e : ¬ l + 1 = r) : (ds.take l ++ iF n 8 l ((l + r) / 2) x ++ ds.drop ((l + r) / 2)).length = ds.length := by
  rw [List.length_append, List.length_append, List.length_take, List.length_drop, iF_len n 8 _ _ _ (mid_lo h e) (sub8 (by omega) (Nat.le_refl _)), Nat.min_eq_left (by omega)]; omega
theorem mid_glue {n l r : Nat} {x y : Int} {ds : List Int} (h : l < r) (hr : r ≤ ds.length) (h8 : ds.length ≤ 8) (e : ¬ l + 1 = r) :
    (ds.take l ++ iF n 8 l ((l + r) / 2) x ++ ds.drop ((l + r) / 2)).take ((l + r) / 2) ++ iF n 8 ((l + r) / 2) r y ++ (ds.take l ++ iF n 8 l ((l + r) / 2) x ++ ds.drop ((l + r) / 2)).drop r = ds.take l ++ (iF n 8 l ((l + r) / 2) x ++ iF n 8 ((l + r) / 2) r y) ++ ds.drop r :=
  list_glue (Nat.le_of_lt (mid_lo h e)) (Nat.le_of_lt (mid_hi h)) hr (iF_len n 8 _ _ _ (mid_lo h e) (sub8 (Nat.le_trans (Nat.le_of_lt (mid_hi h)) (Nat.le_trans hr h8)) (Nat.le_refl _)))
theorem nd_rng {x : Int} {n : Nat} (hn : n ≤ 100) (hn0 : 0 < n) (hx0 : 0 ≤ x) (hx : x < 2 ^ 64) : 0 ≤ ((Builtin.Int.intBits x : Int) + n - 1).fdiv n ∧ ((Builtin.Int.intBits x : Int) + n - 1).fdiv n ≤ 1000 ∧ Builtin.Int.intBits x ≤ 64 := by
  have hb64 : Builtin.Int.intBits x ≤ 64 := intBits_le (by omega)
  rw [Int.fdiv_eq_ediv_of_nonneg _ (by omega)]
  refine ⟨Int.ediv_nonneg (by omega) (by omega), ?_, hb64⟩
  refine Int.le_trans (Int.ediv_le_self _ (by omega)) (by omega)
noncomputable abbrev qI : PySem.Str := PySem.Str.ofString "_int2digits.<locals>.inner"
/-- how many digits -/
noncomputable def ndF (x : Int) (n : Nat) : Nat := (((Builtin.Int.intBits x : Int) + n - 1).fdiv n).toNat
/-- what _int2digits hands back -/
noncomputable def i2dF (x : Int) (n : Nat) : List Int := if x = 0 then List.replicate (ndF x n) 0 else iF n 8 0 (ndF x n) x
theorem i2d (w : World) (loose mean mg mb) (x : Int) (n : Nat) (tx tn : Tok) (ps : Array Value) (cd : List (Addr × Obj)) (hT : TabOk 32 4 qI ps cd) (hn : n ≤ 100) (hn0 : 0 < n) (hx0 : 0 ≤ x) (hx : x < 2 ^ 64) (hK8 : ndF x n ≤ 8) (hK0 : x ≠ 0 → 0 < ndF x n) (hKB : okB n 8 0 (ndF x n) x = true) :
    Ctr w loose mean mg mb 35 [.int x tx, .int n tn] 10 ((30, tabObj ps) :: cd) (fun _ => True) (fun r led => ∃ D ar k ps' cd', r = .ref D ∧ led = (D, W.listOf ar.toArray k) :: (30, tabObj ps') :: cd' ∧ TabOk 32 4 qI ps' cd' ∧ IntsAre ar (i2dF x n)) := by
  unfold Ctr
  w_top off
  k_fill
  intro dp un gd cn cs a ccd cl outer A₀ base h₀ L m s Q E B F X N T hk hd hu c1 c2 hP hret
  refine wpAny_call ?_
  k_dflt ((refine' enter_cells ?en_k1 ?en_k2 ?en_k3 ?en_k4 ?en_k5 ?en_kA ?en_kF ?en_kK ?en_k6 ?en_k7 ?en_k8 ?en_k9 ?en_kB ?en_kD ?_ ?en_c2 ?en_c3 ?en_c4; (case en_kA => exact rfl); (case en_kF => exact rfl); (case en_kK => assumption); (case en_k1 => k_asm); (case en_k2 => k_asm); (case en_k3 => k_asm); (case en_k4 => k_asm); (case en_k5 => k_asm); (case en_k6 => k_is); (case en_k7 => k_is); (case en_k8 => ktr_room); (case en_k9 => exact BindsTo.of_eq rfl); (case en_kB => exact rfl); (case en_kD => decide +kernel); (case en_c2 => exact rfl); (case en_c3 => exact rfl); (case en_c4 => exact rfl); k_whole; intro g' L' h' tk' cells' FG' F' N' Y' B' X' T' l1 kG'; (try k_lt l1); k_cells Y'; (try simp only [List.cons_append, List.nil_append] at N'); (try dsimp only); (try k_lift B'); (try k_fold)))
  rename GSub _ _ _ => kG9
  rename (30 < _ ∧ AllLt _ cd) => l9
  obtain ⟨l9a, l9b⟩ := l9
  obtain ⟨hb0, hb1, hb64⟩ := nd_rng hn hn0 hx0 hx
  (repeat' (first | (k_unfold; (try dsimp only)) | (k_end; wrow_close) | (k_here; (with_reducible show wpAny _ _ (binaryOp Operator.Mult (Value.ref _) (Value.int _ _)) _ _ _); k_dflt (refine' mul_zeros ?w_F ?w_N ?w_h0 ?w_h1 ?_; (case w_F => k_asm); (case w_N => k_asm); (case w_h0 => assumption); (case w_h1 => assumption); k_whole); intro Dw hw Fw Nw l1w i9w z9w; (try k_lt l1w); (try k_fold)) | ((with_reducible refine lshift_int_small ?_ ?_ ?_ ?_); (· assumption); (· assumption); (· assumption)) | ((with_reducible refine rshift_int ?_ ?_); (· first | assumption | decide)) | ((fail_if_success (fail_if_success (with_reducible show wpAny _ _ (exec _ _) _ _ _))); k_fold) | ((fail_if_success (fail_if_success (with_reducible show wpAny _ _ (execs (_ :: _) _) _ _ (Shared.mk _ _ _ (HAdd.hAdd _ _) _)))); refine flat (s := s) rfl rfl rfl (fun _ => ?_)) | walk1 | (dsimp only; walk1) | (leave1; walk_say "STEP leave1"; try dsimp only) | fail "no step"))
  k_dflt (refine' nestDef_K ?d0 ?k0 ?a0 ?_; (case d0 => exact rfl); (case k0 => exact rfl); (case a0 => exact rfl))
  k_dflt (refine' nestAny4 ?F ?N ?T ?C ?hcd ?hT l9a (ktn_ltOf l9b) ?p2 ?p3 ?p4 ?p5 ?cl ?_; (case F => k_asm); (case N => k_asm); (case T => k_asm); (case hcd => exact rfl); (case C => kn_code); (case hT => exact hT); (case p2 => (dsimp only; omega)); (case p3 => (dsimp only; omega)); (case p4 => (dsimp only; omega)); (case p5 => (dsimp only; omega)); (case cl => exact rfl); k_whole)
  intro f' c' oc' vs' t' ct' dc' h' tk' F' N' d1' d2' n1' l1'
  dsimp only at n1' l1'
  (repeat' (first | (k_unfold; (try dsimp only)) | (k_end; wrow_close) | (k_here; (with_reducible show wpAny _ _ (binaryOp Operator.Mult (Value.ref _) (Value.int _ _)) _ _ _); k_dflt (refine' mul_zeros ?w_F ?w_N ?w_h0 ?w_h1 ?_; (case w_F => k_asm); (case w_N => k_asm); (case w_h0 => assumption); (case w_h1 => assumption); k_whole); intro Dw hw Fw Nw l1w i9w z9w; (try k_lt l1w); (try k_fold)) | ((with_reducible refine lshift_int_small ?_ ?_ ?_ ?_); (· assumption); (· assumption); (· assumption)) | ((with_reducible refine rshift_int ?_ ?_); (· first | assumption | decide)) | ((fail_if_success (fail_if_success (with_reducible show wpAny _ _ (exec _ _) _ _ _))); k_fold) | ((fail_if_success (fail_if_success (with_reducible show wpAny _ _ (execs (_ :: _) _) _ _ (Shared.mk _ _ _ (HAdd.hAdd _ _) _)))); refine flat (s := s) rfl rfl rfl (fun _ => ?_)) | walk1 | (dsimp only; walk1) | (leave1; walk_say "STEP leave1"; try dsimp only) | fail "no step"))
  · k_dflt (refine' Ctr.all (rec_ctrL (Dm := I2Dm) (fun d => d.r - d.l) (fun d => [.int d.x d.tx, .int d.l d.tl, .int d.r d.tr]) (fun d => d.r - d.l) (fun d => d.vs) (fun d => d.k) (fun d _ => IntsAre d.vs d.ds ∧ d.l < d.r ∧ d.r ≤ d.ds.length ∧ d.ds.length ≤ 8 ∧ okB n 8 d.l d.r d.x = true) (fun d r ar => r = .none ∧ IntsAre ar (d.ds.take d.l ++ iF n 8 d.l d.r d.x ++ d.ds.drop d.r)) ?step ⟨x, 0, (List.replicate (((Builtin.Int.intBits x : Int) + n - 1).fdiv n).toNat (0 : Int)).length, _, _, _, List.replicate (((Builtin.Int.intBits x : Int) + n - 1).fdiv n).toNat (Value.int 0 _), 0, List.replicate (((Builtin.Int.intBits x : Int) + n - 1).fdiv n).toNat 0⟩) ?k1 ?k2 ?k3 ?k4 ?k5 ?kK ?kd ?ku ?x1 ?x2 ?hP ?_; (case k1 => k_asm); (case k2 => k_asm); (case k3 => k_asm); (case k4 => k_asm); (case k5 => k_asm); (case kK => first | exact rfl | assumption); (case x1 => assumption); (case x2 => assumption); k_whole)
    case step =>
      intro d ih
      obtain ⟨x, l, r, tx, tl, tr, vs, k, ds⟩ := d
      dsimp only at ih ⊢
      unfold Ctr
      intro dp un gd cn cs a ccd cl outer A₀ base' h₀ L m s Q E B F X N T hk hd hu c1' c2' hP hret
      obtain ⟨hI, hlr, hrl, hd8, hok⟩ := hP
      refine wpAny_call ?_
      k_dflt (refine' enter_nest ?k1 ?k2 ?k3 ?k4 ?k5 ?kA ?kF ?kK ?k6 ?k7 ?k8 ?k9 ?kB ?_ ?c2 ?c3 ?c4 ?c5; (case kA => exact rfl); (case kF => exact rfl); (case kK => assumption); (case k1 => k_asm); (case k2 => k_asm); (case k3 => k_asm); (case k4 => k_asm); (case k5 => k_asm); (case k6 => k_mem); (case k7 => exact codeRec_news (by k_asm) (by k_mem) (by assumption) (by assumption)); (case k8 => ktr_room); (case k9 => exact BindsTo.of_eq rfl); (case c5 => decide); (case kB => exact locs rfl); (case c2 => exact rfl); (case c3 => exact rfl); (case c4 => exact rfl); k_whole)
      intro g' L' h' FG' F' N' B' X' T' kG'
      (try dsimp only)
      (try k_lift B')
      (try k_fold)
      have hnn := okB_nn hok
      have hs0 := sh_nn n hlr
      have hs1 := sh_le hlr (Nat.le_trans hrl hd8) hn
      have hup : (x.fdiv (2 ^ ((((l : Int) + (r : Int)).fdiv (2 ^ Int.toNat 1) - (l : Int)) * (n : Int)).toNat)).natAbs < 2 ^ 64 := fdiv_small hnn.1 hnn.2
      (repeat' (first | (k_unfold; (try dsimp only)) | (k_end; wrow_close) | (k_here; (with_reducible show wpAny _ _ (binaryOp Operator.Mult (Value.ref _) (Value.int _ _)) _ _ _); k_dflt (refine' mul_zeros ?w_F ?w_N ?w_h0 ?w_h1 ?_; (case w_F => k_asm); (case w_N => k_asm); (case w_h0 => assumption); (case w_h1 => assumption); k_whole); intro Dw hw Fw Nw l1w i9w z9w; (try k_lt l1w); (try k_fold)) | ((with_reducible refine lshift_int_small ?_ ?_ ?_ ?_); (· assumption); (· assumption); (· assumption)) | ((with_reducible refine rshift_int ?_ ?_); (· first | assumption | decide)) | ((fail_if_success (fail_if_success (with_reducible show wpAny _ _ (exec _ _) _ _ _))); k_fold) | ((fail_if_success (fail_if_success (with_reducible show wpAny _ _ (execs (_ :: _) _) _ _ (Shared.mk _ _ _ (HAdd.hAdd _ _) _)))); refine flat (s := s) rfl rfl rfl (fun _ => ?_)) | walk1 | (dsimp only; walk1) | (leave1; walk_say "STEP leave1"; try dsimp only) | fail "no step"))
      · refine ctr_end hret kG' (by k_asm) (by k_asm) (by k_asm) (by k_asm) (fun _ h => h) ⟨_, _, rfl, rfl, ?_⟩
        rw [iF_one n l r x (by assumption), ← list_one (Nat.lt_of_lt_of_le hlr hrl) (by assumption)]
        with_unfolding_all assumption
      have e1 : ¬ (l : Int) + 1 = r := by assumption
      have hk2 := okB_step hlr (Nat.le_trans hrl hd8) e1 hok
      simp only [sh_eq n hlr, Int.toNat_natCast]
      rw [mid_eq l r]
      k_dflt (refine' Ctr.all (ih ⟨loF n l r x, l, (l + r) / 2, _, _, _, vs, k, ds⟩ ?lta) ?k1a ?k2a ?k3a ?k4a ?k5a ?kKa ?kda ?kua ?x1a ?x2a ?hPa ?_; (case lta => (dsimp only; exact mid_a hlr)); (case k1a => k_asm); (case k2a => k_asm); (case k3a => k_asm); (case k4a => k_asm); (case k5a => k_asm); (case kKa => first | exact rfl | assumption); (case x1a => assumption); (case x2a => assumption); (case kda => (dsimp only; exact room_d hd (mid_a hlr))); (case kua => (dsimp only; exact room_u hu (mid_a hlr))); (case hPa => exact ⟨hI, mid_lo hlr (cast_ne e1), Nat.le_trans (Nat.le_of_lt (mid_hi hlr)) hrl, hd8, hk2.1⟩); k_whole)
      rintro r9 led9 h9 tk9 F9 N9 ⟨ar9, k9, rfl, rfl, hI9⟩
      (try dsimp only)
      (try k_fold)
      have hl9 := mid_len (n := n) (x := loF n l r x) hlr hrl hd8 (cast_ne e1)
      (repeat' (first | (k_unfold; (try dsimp only)) | (k_end; wrow_close) | (k_here; (with_reducible show wpAny _ _ (binaryOp Operator.Mult (Value.ref _) (Value.int _ _)) _ _ _); k_dflt (refine' mul_zeros ?w_F ?w_N ?w_h0 ?w_h1 ?_; (case w_F => k_asm); (case w_N => k_asm); (case w_h0 => assumption); (case w_h1 => assumption); k_whole); intro Dw hw Fw Nw l1w i9w z9w; (try k_lt l1w); (try k_fold)) | ((with_reducible refine lshift_int_small ?_ ?_ ?_ ?_); (· assumption); (· assumption); (· assumption)) | ((with_reducible refine rshift_int ?_ ?_); (· first | assumption | decide)) | ((fail_if_success (fail_if_success (with_reducible show wpAny _ _ (exec _ _) _ _ _))); k_fold) | ((fail_if_success (fail_if_success (with_reducible show wpAny _ _ (execs (_ :: _) _) _ _ (Shared.mk _ _ _ (HAdd.hAdd _ _) _)))); refine flat (s := s) rfl rfl rfl (fun _ => ?_)) | walk1 | (dsimp only; walk1) | (leave1; walk_say "STEP leave1"; try dsimp only) | fail "no step"))
      simp only [sh_eq n hlr, Int.toNat_natCast]
      rw [mid_eq l r]
      k_dflt (refine' Ctr.all (ih ⟨upF n l r x, (l + r) / 2, r, _, _, _, ar9, k9, ds.take l ++ iF n 8 l ((l + r) / 2) (loF n l r x) ++ ds.drop ((l + r) / 2)⟩ ?ltb) ?k1b ?k2b ?k3b ?k4b ?k5b ?kKb ?kdb ?kub ?x1b ?x2b ?hPb ?_; (case ltb => (dsimp only; exact mid_b hlr (cast_ne e1))); (case k1b => k_asm); (case k2b => k_asm); (case k3b => k_asm); (case k4b => k_asm); (case k5b => k_asm); (case kKb => first | exact rfl | assumption); (case x1b => assumption); (case x2b => assumption); (case kdb => (dsimp only; exact room_d hd (mid_b hlr (cast_ne e1)))); (case kub => (dsimp only; exact room_u hu (mid_b hlr (cast_ne e1)))); (case hPb => exact ⟨hI9, mid_hi hlr, Nat.le_trans hrl (Nat.le_of_eq hl9.symm), Nat.le_trans (Nat.le_of_eq hl9) hd8, hk2.2⟩); k_whole)
      rintro r8 led8 h8 tk8 F8 N8 ⟨ar8, k8, rfl, rfl, hI8⟩
      (try dsimp only)
      (try k_fold)
      (repeat' (first | (k_unfold; (try dsimp only)) | (k_end; wrow_close) | (k_here; (with_reducible show wpAny _ _ (binaryOp Operator.Mult (Value.ref _) (Value.int _ _)) _ _ _); k_dflt (refine' mul_zeros ?w_F ?w_N ?w_h0 ?w_h1 ?_; (case w_F => k_asm); (case w_N => k_asm); (case w_h0 => assumption); (case w_h1 => assumption); k_whole); intro Dw hw Fw Nw l1w i9w z9w; (try k_lt l1w); (try k_fold)) | ((with_reducible refine lshift_int_small ?_ ?_ ?_ ?_); (· assumption); (· assumption); (· assumption)) | ((with_reducible refine rshift_int ?_ ?_); (· first | assumption | decide)) | ((fail_if_success (fail_if_success (with_reducible show wpAny _ _ (exec _ _) _ _ _))); k_fold) | ((fail_if_success (fail_if_success (with_reducible show wpAny _ _ (execs (_ :: _) _) _ _ (Shared.mk _ _ _ (HAdd.hAdd _ _) _)))); refine flat (s := s) rfl rfl rfl (fun _ => ?_)) | walk1 | (dsimp only; walk1) | (leave1; walk_say "STEP leave1"; try dsimp only) | fail "no step"))
      refine ctr_end hret kG' (by k_asm) (by k_asm) (by k_asm) (by k_asm) (fun _ h => h) ⟨_, _, rfl, rfl, ?_⟩
      rw [iF_step n l r x hlr (Nat.le_trans hrl hd8) e1, ← mid_glue hlr hrl hd8 (cast_ne e1)]
      exact hI8
    case kd => (dsimp only; exact room_d0 hd (by rw [List.length_replicate]; exact hK8))
    case ku => (dsimp only; exact room_u0 hu (by rw [List.length_replicate]; exact hK8))
    case hP => exact ⟨by assumption, by dsimp only; rw [List.length_replicate]; exact hK0 (by assumption), Nat.le_refl _, by dsimp only; rw [List.length_replicate]; exact hK8, by dsimp only; rw [List.length_replicate]; exact hKB⟩
    rintro r8 led8 h8 tk8 F8 N8 ⟨ar8, k8, rfl, rfl, hI8⟩
    (try dsimp only)
    (try k_fold)
    (repeat' (first | (k_unfold; (try dsimp only)) | (k_end; wrow_close) | (k_here; (with_reducible show wpAny _ _ (binaryOp Operator.Mult (Value.ref _) (Value.int _ _)) _ _ _); k_dflt (refine' mul_zeros ?w_F ?w_N ?w_h0 ?w_h1 ?_; (case w_F => k_asm); (case w_N => k_asm); (case w_h0 => assumption); (case w_h1 => assumption); k_whole); intro Dw hw Fw Nw l1w i9w z9w; (try k_lt l1w); (try k_fold)) | ((with_reducible refine lshift_int_small ?_ ?_ ?_ ?_); (· assumption); (· assumption); (· assumption)) | ((with_reducible refine rshift_int ?_ ?_); (· first | assumption | decide)) | ((fail_if_success (fail_if_success (with_reducible show wpAny _ _ (exec _ _) _ _ _))); k_fold) | ((fail_if_success (fail_if_success (with_reducible show wpAny _ _ (execs (_ :: _) _) _ _ (Shared.mk _ _ _ (HAdd.hAdd _ _) _)))); refine flat (s := s) rfl rfl rfl (fun _ => ?_)) | walk1 | (dsimp only; walk1) | (leave1; walk_say "STEP leave1"; try dsimp only) | fail "no step"))
    refine ctr_end (led' := [(_, W.listOf ar8.toArray k8), (30, tabObj #[rawInt 32, rawInt 4, .ref c']), (c', oc')]) hret kG9 (by k_asm) (by k_asm) (by k_asm) (by k_asm) (List.forall_mem_cons.mpr ⟨by k_mem, List.forall_mem_cons.mpr ⟨by k_mem, List.forall_mem_cons.mpr ⟨by k_mem, fun _ h => nomatch h⟩⟩⟩) ⟨_, _, _, _, _, rfl, rfl, TabOk.full d1' (by with_unfolding_all exact d2'), ?_⟩
    unfold i2dF
    rw [if_neg (by assumption)]
    simp only [List.take_zero, List.nil_append, List.length_replicate, List.drop_replicate, Nat.sub_self, List.replicate_zero, List.append_nil] at hI8
    exact hI8
  · refine ctr_end (led' := [(_, W.listOf (List.replicate (((Builtin.Int.intBits x : Int) + n - 1).fdiv n).toNat (Value.int 0 _)).toArray 0), (30, tabObj #[rawInt 32, rawInt 4, .ref c']), (c', oc')]) hret kG9 (by k_asm) (by k_asm) (by k_asm) (by k_asm) (List.forall_mem_cons.mpr ⟨by k_mem, List.forall_mem_cons.mpr ⟨by k_mem, List.forall_mem_cons.mpr ⟨by k_mem, fun _ h => nomatch h⟩⟩⟩) ⟨_, _, _, _, _, rfl, rfl, TabOk.full d1' (by with_unfolding_all exact d2'), ?_⟩
    unfold i2dF
    rw [if_pos (by assumption)]
    assumption
end Mine
end
section
open PySem PySem.W PyProof.Rows PySem.Calls PySem.Spec
open PySem.Builtin PySem.Builtin.Str
set_option maxHeartbeats 0
set_option pp.deepTerms false
namespace Mine
theorem i2dF_len {x : Int} {n : Nat} (h0 : x ≠ 0 → 0 < ndF x n) (h8 : ndF x n ≤ 8) : (i2dF x n).length ≤ 8 := by
  unfold i2dF
  split
  · rw [List.length_replicate]; exact h8
  · rw [iF_len n 8 _ _ _ (h0 (by assumption)) (by omega)]; omega
open PyProof.Rows.LCg
theorem ints_get {vs : List Value} {ns : List Int} {i : Nat} {v : Value} (hI : IntsAre vs ns) (h : vs.toArray[i]? = some v) : ∃ n t, ns[i]? = some n ∧ v = .int n t := by
  rw [List.getElem?_toArray] at h
  have hlt : i < ns.length := by
    rw [← hI.length]
    exact (List.getElem?_eq_some_iff.mp h).1
  obtain ⟨t, hx⟩ := hI.get i ns[i] (by simp [hlt])
  rw [hx] at h
  exact ⟨ns[i], t, by simp [hlt], (Option.some.inj h).symm⟩
section
variable {prog : Program} {w : World} {A : Around} {s : Shared} {h₀ : Heap} {L : Addr} {m : PySem.Str → Option Value} {env : Env} {news : List (Addr × Obj)}
/-- a comprehension over a list of ints whose element is a text -/
theorem comp_strs {elt : Expr} {x : PySem.Str} {scope : Scope} {cl : List (PySem.Str × Addr)} {ws : List Value} {ms : List Int} {ax : Addr} (f : Int → PySem.Str) {Fin : List Value → List (Addr × Obj) → Prop}
    (hI : IntsAre ws ms) (hm : SrcAt h₀ ax ws.toArray news)
    (rule : ∀ n t I oI C oC D m₂ h tk ys (E' : Value → Shared → Prop) (Q' : Value → Shared → Prop), n ∈ ms → NsObj oC m₂ → m₂ x = some (.int n t) → Fr h₀ L h m → News h₀ L h ((I, oI) :: (C, oC) :: (D, lst ys) :: news) →
      (∀ t' h' tk', Fr h₀ L h' m → News h₀ L h' ((I, oI) :: (C, oC) :: (D, lst ys) :: news) → Q' (.str (f n) t') { s with heap := h', toks := tk' }) →
      wpAny (model prog w) A (eval elt (compEnvC scope cl C env)) Q' E' { s with heap := h, toks := tk })
    (fin : ∀ ys, ys.map (·.1) = ms.map f → Fin (strValues ys) news) :
    CompRest prog w A h₀ L m env elt x scope cl s (SrcAt h₀ ax ws.toArray) (fun i v => ws.toArray[i]? = some v) Fin ws.toArray.size 0 [] news := by
  have key : ∀ k i (ys : List (PySem.Str × Tok)), k + i = ms.length → ys.map (·.1) = (ms.take i).map f → CompRest prog w A h₀ L m env elt x scope cl s (SrcAt h₀ ax ws.toArray) (fun i v => ws.toArray[i]? = some v) Fin k i (strValues ys) news := by
    intro k
    induction k with
    | zero => intro i ys hi hy; rw [Nat.zero_add] at hi; subst hi; rw [List.take_length] at hy; exact CompRest.zero (fin ys hy)
    | succ k ih =>
      intro i ys hi hy
      refine CompRest.succ ?_
      intro v I oI C oC D m₂ h tk E' hv hC hx F N off ne
      obtain ⟨n, t, hn, rfl⟩ := ints_get hI hv
      refine rule n t I oI C oC D m₂ h tk _ E' _ (List.mem_of_getElem? hn) hC hx F N fun t' h' tk' F' N' => ?_
      refine CompEnd.intro F' N' news (fun p hp => hp) off hm ?_
      have := ih (i + 1) (ys ++ [(f n, t')]) (by omega) (by rw [take_snoc hn, List.map_append, List.map_append, hy]; rfl)
      simpa [strValues] using this
  have e : ws.toArray.size = ms.length := by rw [List.size_toArray, hI.length]
  rw [e]
  exact key ms.length 0 [] (by omega) rfl
end
/-- the letter of a bit -/
noncomputable def sgF (n : Int) : PySem.Str := if n = 0 then PySem.Str.ofString "a" else PySem.Str.ofString "b"
/-- what _law_spelled joins -/
noncomputable def lettersF (x : Int) : List PySem.Str := ((i2dF x 1).take ((i2dF x 1).length - 1)).map sgF
theorem spell (w : World) (loose mean mg mb) (x : Int) (tx : Tok) (ps : Array Value) (cd : List (Addr × Obj)) (hT : TabOk 32 4 qI ps cd) (hx0 : 0 < x) (hx : x < 16) (hK8 : ndF x 1 ≤ 8) (hK0 : x ≠ 0 → 0 < ndF x 1) (hKB : okB 1 8 0 (ndF x 1) x = true) (hbit : ∀ n ∈ i2dF x 1, n = 0 ∨ n = 1) (hJ : JoinOk (PySem.Str.ofString "") (lettersF x) = true) :
    Ctr w loose mean mg mb 96 [.int x tx] 12 ((30, tabObj ps) :: cd) (fun _ => True) (fun r led => ∃ ps' cd' t, r = .str (Txt.join (PySem.Str.ofString "") (lettersF x)) t ∧ TabOk 32 4 qI ps' cd' ∧ led = (30, tabObj ps') :: cd') := by
  unfold Ctr
  w_top off
  k_fill
  intro dp un gd cn cs a ccd cl outer A₀ base h₀ L m s Q E B F X N T hk hd hu c1 c2 hP hret
  refine wpAny_call ?_
  k_dflt ((refine' code_defG ?en_k1 ?en_k2 ?en_k3 ?en_k4 ?en_k5 ?en_kA ?en_kF ?en_kK ?en_k6 ?en_k7 ?en_k8 ?en_k9 ?en_kB ?_ ?en_c2 ?en_c3 ?en_c4 ?en_c5; (case en_kA => exact rfl); (case en_kF => exact rfl); (case en_kK => assumption); (case en_k1 => k_asm); (case en_k2 => k_asm); (case en_k3 => k_asm); (case en_k4 => k_asm); (case en_k5 => k_asm); (case en_k6 => k_is); (case en_k7 => k_is); (case en_k8 => ktr_room); (case en_k9 => exact BindsTo.of_eq rfl); (case en_c5 => decide); (case en_kB => exact locs rfl); (case en_c2 => exact rfl); (case en_c3 => exact rfl); (case en_c4 => exact rfl); k_whole; intro g' L' h' FG' F' N' B' X' T' kG'; (try dsimp only); (try k_lift B'); (try k_fold)))
  rename GSub _ _ _ => kG9
  (repeat' (first | (k_unfold; (try dsimp only)) | (k_end; wrow_close) | (k_here; (with_reducible show wpAny _ _ (call (Value.ref 35) _) _ _ _); k_dflt (refine' Ctr.all (i2d _ _ _ _ _ _ 1 _ _ _ _ ?w_q0 ?w_q1 ?w_q2 ?w_q3 ?w_q4 ?w_q5 ?w_q6 ?w_q7) ?w_k1 ?w_k2 ?w_k3 ?w_k4 ?w_k5 ?w_kK ?w_kd ?w_ku ?w_x1 ?w_x2 trivial ?_; (case w_q0 => assumption); (case w_k1 => k_asm); (case w_k2 => k_asm); (case w_k3 => k_asm); (case w_k4 => k_asm); (case w_k5 => k_asm); (case w_kK => first | exact rfl | assumption); (case w_x1 => assumption); (case w_x2 => assumption); (case w_kd => ktr_room); (case w_ku => ktr_units); (case w_q1 => decide); (case w_q2 => decide); (case w_q3 => omega); (case w_q4 => omega); (case w_q5 => assumption); (case w_q6 => assumption); (case w_q7 => assumption); k_whole); rintro r9w led9w h9w tk9w F9w N9w ⟨D9w, ar9w, k9w, ps9w, cd9w, hr9w, hl9w, hT9w, hI9w⟩; subst hr9w; subst hl9w; (have hL9w := i2dF_len (by assumption) (by assumption)); (try dsimp only); (try k_fold)) | ((fail_if_success (fail_if_success (with_reducible show wpAny _ _ (exec _ _) _ _ _))); k_fold) | ((fail_if_success (fail_if_success (with_reducible show wpAny _ _ (execs (_ :: _) _) _ _ (Shared.mk _ _ _ (HAdd.hAdd _ _) _)))); refine flat (s := s) rfl rfl rfl (fun _ => ?_)) | ((fail_if_success (with_reducible refine RangeRest.succ ?_)); (fail_if_success (with_reducible refine LCg.CompSrc.ledger ?_ ?_ ?_ ?_ ?_ ?_)); (fail_if_success (with_reducible show UnrEnd _ _ _ _ _ _ _)); (fail_if_success (with_reducible show wpAny _ _ (eval (Expr.ListComp _ _ _ _) _) _ _ _)); first | walk1 | (dsimp only; walk1) | (leave1; walk_say "STEP leave1"; try dsimp only)) | fail "no step"))
  k_dflt (refine LCg.ListComp_U (F₀ := by k_asm) (by rfl) (by decide) (by rfl) (by decide) (by rfl) ?_)
  (repeat' (first | (k_unfold; (try dsimp only)) | (k_end; wrow_close) | (k_here; (with_reducible show wpAny _ _ (call (Value.ref 35) _) _ _ _); k_dflt (refine' Ctr.all (i2d _ _ _ _ _ _ 1 _ _ _ _ ?w_q0 ?w_q1 ?w_q2 ?w_q3 ?w_q4 ?w_q5 ?w_q6 ?w_q7) ?w_k1 ?w_k2 ?w_k3 ?w_k4 ?w_k5 ?w_kK ?w_kd ?w_ku ?w_x1 ?w_x2 trivial ?_; (case w_q0 => assumption); (case w_k1 => k_asm); (case w_k2 => k_asm); (case w_k3 => k_asm); (case w_k4 => k_asm); (case w_k5 => k_asm); (case w_kK => first | exact rfl | assumption); (case w_x1 => assumption); (case w_x2 => assumption); (case w_kd => ktr_room); (case w_ku => ktr_units); (case w_q1 => decide); (case w_q2 => decide); (case w_q3 => omega); (case w_q4 => omega); (case w_q5 => assumption); (case w_q6 => assumption); (case w_q7 => assumption); k_whole); rintro r9w led9w h9w tk9w F9w N9w ⟨D9w, ar9w, k9w, ps9w, cd9w, hr9w, hl9w, hT9w, hI9w⟩; subst hr9w; subst hl9w; (have hL9w := i2dF_len (by assumption) (by assumption)); (try dsimp only); (try k_fold)) | ((fail_if_success (fail_if_success (with_reducible show wpAny _ _ (exec _ _) _ _ _))); k_fold) | ((fail_if_success (fail_if_success (with_reducible show wpAny _ _ (execs (_ :: _) _) _ _ (Shared.mk _ _ _ (HAdd.hAdd _ _) _)))); refine flat (s := s) rfl rfl rfl (fun _ => ?_)) | ((fail_if_success (with_reducible refine RangeRest.succ ?_)); (fail_if_success (with_reducible refine LCg.CompSrc.ledger ?_ ?_ ?_ ?_ ?_ ?_)); (fail_if_success (with_reducible show UnrEnd _ _ _ _ _ _ _)); (fail_if_success (with_reducible show wpAny _ _ (eval (Expr.ListComp _ _ _ _) _) _ _ _)); first | walk1 | (dsimp only; walk1) | (leave1; walk_say "STEP leave1"; try dsimp only)) | fail "no step"))
  k_dflt (refine' LCg.CompSrc.ledger ?a1 ?F ?N ?a2 ?a3 ?_; (case a1 => exact rfl); (case F => k_asm); (case N => k_asm); (case a2 => k_mem); (case a3 => (rename IntsAre _ (List.take _ _) => hq; rw [List.size_toArray, hq.length, List.length_take]; show _ ≤ 2 ^ 24; omega)))
  intro g9
  rename IntsAre _ (List.take _ _) => hq9
  refine comp_strs sgF hq9 (.inr ⟨_, by k_mem, rfl, _, rfl⟩) ?rule ?_
  case rule =>
    intro n t I oI C oC D m₂ h tk ys' E' Q' hn hC hx F' N' hQ
    rcases hbit n (List.mem_of_mem_take hn) with rfl | rfl
    · (try k_fold)
      (repeat' (first | (k_unfold; (try dsimp only)) | (k_end; wrow_close) | (k_here; (with_reducible show wpAny _ _ (call (Value.ref 35) _) _ _ _); k_dflt (refine' Ctr.all (i2d _ _ _ _ _ _ 1 _ _ _ _ ?w_q0 ?w_q1 ?w_q2 ?w_q3 ?w_q4 ?w_q5 ?w_q6 ?w_q7) ?w_k1 ?w_k2 ?w_k3 ?w_k4 ?w_k5 ?w_kK ?w_kd ?w_ku ?w_x1 ?w_x2 trivial ?_; (case w_q0 => assumption); (case w_k1 => k_asm); (case w_k2 => k_asm); (case w_k3 => k_asm); (case w_k4 => k_asm); (case w_k5 => k_asm); (case w_kK => first | exact rfl | assumption); (case w_x1 => assumption); (case w_x2 => assumption); (case w_kd => ktr_room); (case w_ku => ktr_units); (case w_q1 => decide); (case w_q2 => decide); (case w_q3 => omega); (case w_q4 => omega); (case w_q5 => assumption); (case w_q6 => assumption); (case w_q7 => assumption); k_whole); rintro r9w led9w h9w tk9w F9w N9w ⟨D9w, ar9w, k9w, ps9w, cd9w, hr9w, hl9w, hT9w, hI9w⟩; subst hr9w; subst hl9w; (have hL9w := i2dF_len (by assumption) (by assumption)); (try dsimp only); (try k_fold)) | ((fail_if_success (fail_if_success (with_reducible show wpAny _ _ (exec _ _) _ _ _))); k_fold) | ((fail_if_success (fail_if_success (with_reducible show wpAny _ _ (execs (_ :: _) _) _ _ (Shared.mk _ _ _ (HAdd.hAdd _ _) _)))); refine flat (s := s) rfl rfl rfl (fun _ => ?_)) | ((fail_if_success (with_reducible refine RangeRest.succ ?_)); (fail_if_success (with_reducible refine LCg.CompSrc.ledger ?_ ?_ ?_ ?_ ?_ ?_)); (fail_if_success (with_reducible show UnrEnd _ _ _ _ _ _ _)); (fail_if_success (with_reducible show wpAny _ _ (eval (Expr.ListComp _ _ _ _) _) _ _ _)); first | walk1 | (dsimp only; walk1) | (leave1; walk_say "STEP leave1"; try dsimp only)) | fail "no step"))
      exact hQ _ _ _ (by k_asm) (by k_asm)
    · (try k_fold)
      (repeat' (first | (k_unfold; (try dsimp only)) | (k_end; wrow_close) | (k_here; (with_reducible show wpAny _ _ (call (Value.ref 35) _) _ _ _); k_dflt (refine' Ctr.all (i2d _ _ _ _ _ _ 1 _ _ _ _ ?w_q0 ?w_q1 ?w_q2 ?w_q3 ?w_q4 ?w_q5 ?w_q6 ?w_q7) ?w_k1 ?w_k2 ?w_k3 ?w_k4 ?w_k5 ?w_kK ?w_kd ?w_ku ?w_x1 ?w_x2 trivial ?_; (case w_q0 => assumption); (case w_k1 => k_asm); (case w_k2 => k_asm); (case w_k3 => k_asm); (case w_k4 => k_asm); (case w_k5 => k_asm); (case w_kK => first | exact rfl | assumption); (case w_x1 => assumption); (case w_x2 => assumption); (case w_kd => ktr_room); (case w_ku => ktr_units); (case w_q1 => decide); (case w_q2 => decide); (case w_q3 => omega); (case w_q4 => omega); (case w_q5 => assumption); (case w_q6 => assumption); (case w_q7 => assumption); k_whole); rintro r9w led9w h9w tk9w F9w N9w ⟨D9w, ar9w, k9w, ps9w, cd9w, hr9w, hl9w, hT9w, hI9w⟩; subst hr9w; subst hl9w; (have hL9w := i2dF_len (by assumption) (by assumption)); (try dsimp only); (try k_fold)) | ((fail_if_success (fail_if_success (with_reducible show wpAny _ _ (exec _ _) _ _ _))); k_fold) | ((fail_if_success (fail_if_success (with_reducible show wpAny _ _ (execs (_ :: _) _) _ _ (Shared.mk _ _ _ (HAdd.hAdd _ _) _)))); refine flat (s := s) rfl rfl rfl (fun _ => ?_)) | ((fail_if_success (with_reducible refine RangeRest.succ ?_)); (fail_if_success (with_reducible refine LCg.CompSrc.ledger ?_ ?_ ?_ ?_ ?_ ?_)); (fail_if_success (with_reducible show UnrEnd _ _ _ _ _ _ _)); (fail_if_success (with_reducible show wpAny _ _ (eval (Expr.ListComp _ _ _ _) _) _ _ _)); first | walk1 | (dsimp only; walk1) | (leave1; walk_say "STEP leave1"; try dsimp only)) | fail "no step"))
      exact hQ _ _ _ (by k_asm) (by k_asm)
  intro ys hys
  (repeat' (first | (k_unfold; (try dsimp only)) | (k_end; wrow_close) | (k_here; (with_reducible show wpAny _ _ (call (Value.ref 35) _) _ _ _); k_dflt (refine' Ctr.all (i2d _ _ _ _ _ _ 1 _ _ _ _ ?w_q0 ?w_q1 ?w_q2 ?w_q3 ?w_q4 ?w_q5 ?w_q6 ?w_q7) ?w_k1 ?w_k2 ?w_k3 ?w_k4 ?w_k5 ?w_kK ?w_kd ?w_ku ?w_x1 ?w_x2 trivial ?_; (case w_q0 => assumption); (case w_k1 => k_asm); (case w_k2 => k_asm); (case w_k3 => k_asm); (case w_k4 => k_asm); (case w_k5 => k_asm); (case w_kK => first | exact rfl | assumption); (case w_x1 => assumption); (case w_x2 => assumption); (case w_kd => ktr_room); (case w_ku => ktr_units); (case w_q1 => decide); (case w_q2 => decide); (case w_q3 => omega); (case w_q4 => omega); (case w_q5 => assumption); (case w_q6 => assumption); (case w_q7 => assumption); k_whole); rintro r9w led9w h9w tk9w F9w N9w ⟨D9w, ar9w, k9w, ps9w, cd9w, hr9w, hl9w, hT9w, hI9w⟩; subst hr9w; subst hl9w; (have hL9w := i2dF_len (by assumption) (by assumption)); (try dsimp only); (try k_fold)) | ((fail_if_success (fail_if_success (with_reducible show wpAny _ _ (exec _ _) _ _ _))); k_fold) | ((fail_if_success (fail_if_success (with_reducible show wpAny _ _ (execs (_ :: _) _) _ _ (Shared.mk _ _ _ (HAdd.hAdd _ _) _)))); refine flat (s := s) rfl rfl rfl (fun _ => ?_)) | ((fail_if_success (with_reducible refine RangeRest.succ ?_)); (fail_if_success (with_reducible refine LCg.CompSrc.ledger ?_ ?_ ?_ ?_ ?_ ?_)); (fail_if_success (with_reducible show UnrEnd _ _ _ _ _ _ _)); (fail_if_success (with_reducible show wpAny _ _ (eval (Expr.ListComp _ _ _ _) _) _ _ _)); first | walk1 | (dsimp only; walk1) | (leave1; walk_say "STEP leave1"; try dsimp only)) | fail "no step"))
  k_dflt (refine' PySem.SC.join (l := ys) (texts := lettersF x) ?j1 ?j2 ?j3 ?_; (case j1 => exact ⟨_, News.get (by k_asm) (by k_mem), rfl, _, rfl⟩); (case j2 => exact hys); (case j3 => exact hJ); k_whole)
  intro t8 k8
  (try dsimp only)
  (try k_fold)
  (repeat' (first | (k_unfold; (try dsimp only)) | (k_end; wrow_close) | (k_here; (with_reducible show wpAny _ _ (call (Value.ref 35) _) _ _ _); k_dflt (refine' Ctr.all (i2d _ _ _ _ _ _ 1 _ _ _ _ ?w_q0 ?w_q1 ?w_q2 ?w_q3 ?w_q4 ?w_q5 ?w_q6 ?w_q7) ?w_k1 ?w_k2 ?w_k3 ?w_k4 ?w_k5 ?w_kK ?w_kd ?w_ku ?w_x1 ?w_x2 trivial ?_; (case w_q0 => assumption); (case w_k1 => k_asm); (case w_k2 => k_asm); (case w_k3 => k_asm); (case w_k4 => k_asm); (case w_k5 => k_asm); (case w_kK => first | exact rfl | assumption); (case w_x1 => assumption); (case w_x2 => assumption); (case w_kd => ktr_room); (case w_ku => ktr_units); (case w_q1 => decide); (case w_q2 => decide); (case w_q3 => omega); (case w_q4 => omega); (case w_q5 => assumption); (case w_q6 => assumption); (case w_q7 => assumption); k_whole); rintro r9w led9w h9w tk9w F9w N9w ⟨D9w, ar9w, k9w, ps9w, cd9w, hr9w, hl9w, hT9w, hI9w⟩; subst hr9w; subst hl9w; (have hL9w := i2dF_len (by assumption) (by assumption)); (try dsimp only); (try k_fold)) | ((fail_if_success (fail_if_success (with_reducible show wpAny _ _ (exec _ _) _ _ _))); k_fold) | ((fail_if_success (fail_if_success (with_reducible show wpAny _ _ (execs (_ :: _) _) _ _ (Shared.mk _ _ _ (HAdd.hAdd _ _) _)))); refine flat (s := s) rfl rfl rfl (fun _ => ?_)) | ((fail_if_success (with_reducible refine RangeRest.succ ?_)); (fail_if_success (with_reducible refine LCg.CompSrc.ledger ?_ ?_ ?_ ?_ ?_ ?_)); (fail_if_success (with_reducible show UnrEnd _ _ _ _ _ _ _)); (fail_if_success (with_reducible show wpAny _ _ (eval (Expr.ListComp _ _ _ _) _) _ _ _)); first | walk1 | (dsimp only; walk1) | (leave1; walk_say "STEP leave1"; try dsimp only)) | fail "no step"))
  rename TabOk _ _ _ _ _ => hT9
  exact ctr_end hret kG9 (by k_asm) (by k_asm) (by k_asm) (by k_asm) (fun p hp => List.Mem.tail _ (List.Mem.tail _ (List.Mem.tail _ hp))) ⟨_, _, _, rfl, hT9, rfl⟩
end Mine
end
section
open PySem PySem.W PyProof.Rows PySem.Calls PySem.Spec
open PySem.Builtin PySem.Builtin.Str
set_option maxHeartbeats 0
set_option pp.deepTerms false
namespace Mine
open PyProof.Rows.LCg
section
variable {prog : Program} {w : World} {A : Around} {s : Shared} {h₀ : Heap} {L : Addr} {m : PySem.Str → Option Value} {env : Env} {news : List (Addr × Obj)}
/-- a comprehension over a range whose element is an int -/
theorem comp_range {elt : Expr} {x : PySem.Str} {scope : Scope} {cl : List (PySem.Str × Addr)} {n : Nat} (f : Nat → Int) {Fin : List Value → List (Addr × Obj) → Prop}
    (rule : ∀ i t I oI C oC D m₂ h tk ys (E' : Value → Shared → Prop) (Q' : Value → Shared → Prop), i < n → NsObj oC m₂ → m₂ x = some (.int (0 + (i : Int)) t) → Fr h₀ L h m → News h₀ L h ((I, oI) :: (C, oC) :: (D, lst ys) :: news) →
      (∀ t' h' tk', Fr h₀ L h' m → News h₀ L h' ((I, oI) :: (C, oC) :: (D, lst ys) :: news) → Q' (.int (f i) t') { s with heap := h', toks := tk' }) →
      wpAny (model prog w) A (eval elt (compEnvC scope cl C env)) Q' E' { s with heap := h, toks := tk })
    (fin : ∀ ys, IntsAre ys ((List.range n).map f) → Fin ys news) :
    CompRest prog w A h₀ L m env elt x scope cl s (fun _ => True) (fun i v => ∃ t, v = .int (0 + (i : Int)) t) Fin n 0 [] news := by
  have key : ∀ k i (ys : List Value), k + i = n → IntsAre ys ((List.range i).map f) → CompRest prog w A h₀ L m env elt x scope cl s (fun _ => True) (fun i v => ∃ t, v = .int (0 + (i : Int)) t) Fin k i ys news := by
    intro k
    induction k with
    | zero => intro i ys hi hy; rw [Nat.zero_add] at hi; subst hi; exact CompRest.zero (fin ys hy)
    | succ k ih =>
      intro i ys hi hy
      refine CompRest.succ ?_
      intro v I oI C oC D m₂ h tk E' hv hC hx F N off ne
      obtain ⟨t, rfl⟩ := hv
      refine rule i t I oI C oC D m₂ h tk _ E' _ (by omega) hC hx F N fun t' h' tk' F' N' => ?_
      refine CompEnd.intro F' N' news (fun p hp => hp) off trivial ?_
      refine ih (i + 1) (ys ++ [.int (f i) t']) (by omega) ?_
      rw [List.range_succ, List.map_append]
      exact hy.append (.cons _ _ .nil)
  exact key n 0 [] (by omega) .nil
end
theorem rng10 : ∀ k : Nat, k < 10 → Builtin.Range.small 0 (k : Int) 1 = true ∧ Builtin.Range.rangeSize 0 (k : Int) 1 = (k : Int) := by decide +kernel
noncomputable abbrev dots : PySem.Str := PySem.Str.ofString "..."
noncomputable abbrev nilS : PySem.Str := PySem.Str.ofString ""
/-- piece[i:] -/
noncomputable abbrev sfx (p : PySem.Str) (i : Nat) : PySem.Str := Txt.slice p (some (0 + (i : Int))) none
noncomputable def lapF (p : PySem.Str) (i : Nat) : Int := if em2F p (sfx p i) nilS = true then 1 else 0
/-- the ends of a piece and dots fall apart again -/
noncomputable def LapOk (p : PySem.Str) : Prop := p.length < 10 ∧ ∀ i, i < p.length → (occurrences (sfx p i ++ dots) dots 0 (sfx p i ++ dots).length 1).isEmpty = false ∧ Txt.split (sfx p i ++ dots) dots = [sfx p i, nilS] ∧ 0 < (sfx p i).length ∧ (sfx p i).length < 100 ∧ (sfx p i ++ dots).length < 200
theorem laps (w : World) (loose mean mg mb) (p : PySem.Str) (tp : Tok) (hok : LapOk p) :
    Ctr w loose mean mg mb 101 [.str p tp] 2 [] (fun _ => True) (fun r led => ∃ D ys k, r = .ref D ∧ led = [(D, W.listOf (List.toArray ys) k)] ∧ IntsAre ys ((List.range p.length).map (lapF p))) := by
  unfold Ctr
  w_top off
  k_fill
  intro dp un gd cn cs a ccd cl outer A₀ base h₀ L m s Q E B F X N T hk hd hu c1 c2 hP hret
  have hp := hok.1
  refine wpAny_call ?_
  k_dflt ((refine' enter_cells ?en_k1 ?en_k2 ?en_k3 ?en_k4 ?en_k5 ?en_kA ?en_kF ?en_kK ?en_k6 ?en_k7 ?en_k8 ?en_k9 ?en_kB ?en_kD ?_ ?en_c2 ?en_c3 ?en_c4; (case en_kA => exact rfl); (case en_kF => exact rfl); (case en_kK => assumption); (case en_k1 => k_asm); (case en_k2 => k_asm); (case en_k3 => k_asm); (case en_k4 => k_asm); (case en_k5 => k_asm); (case en_k6 => k_is); (case en_k7 => k_is); (case en_k8 => ktr_room); (case en_k9 => exact BindsTo.of_eq rfl); (case en_kB => exact rfl); (case en_kD => decide +kernel); (case en_c2 => exact rfl); (case en_c3 => exact rfl); (case en_c4 => exact rfl); k_whole; intro g' L' h' tk' cells' FG' F' N' Y' B' X' T' l1 kG'; (try k_lt l1); k_cells Y'; (try simp only [List.cons_append, List.nil_append] at N'); (try dsimp only); (try k_lift B'); (try k_fold)))
  rename GSub _ _ _ => kG9
  (repeat' (first | (k_unfold; (try dsimp only)) | (k_end; wrow_close) | ((fail_if_success (fail_if_success (with_reducible show wpAny _ _ (exec _ _) _ _ _))); k_fold) | ((fail_if_success (fail_if_success (with_reducible show wpAny _ _ (execs (_ :: _) _) _ _ (Shared.mk _ _ _ (HAdd.hAdd _ _) _)))); refine flat (s := s) rfl rfl rfl (fun _ => ?_)) | ((fail_if_success (with_reducible refine RangeRest.succ ?_)); (fail_if_success (with_reducible show LCg.CompSrc _ _ _ _ _ _ _ _ _ _ _ _ _ _)); (fail_if_success (with_reducible show UnrEnd _ _ _ _ _ _ _)); (fail_if_success (with_reducible show wpAny _ _ (eval (Expr.ListComp _ _ _ _) _) _ _ _)); first | walk1 | (dsimp only; walk1) | (leave1; walk_say "STEP leave1"; try dsimp only)) | fail "no step"))
  k_dflt (refine LCg.ListComp_U (F₀ := by k_asm) (by with_unfolding_all rfl) (by decide) (by rfl) (by decide) (by rfl) ?_)
  (repeat' (first | (k_unfold; (try dsimp only)) | (k_end; wrow_close) | ((fail_if_success (fail_if_success (with_reducible show wpAny _ _ (exec _ _) _ _ _))); k_fold) | ((fail_if_success (fail_if_success (with_reducible show wpAny _ _ (execs (_ :: _) _) _ _ (Shared.mk _ _ _ (HAdd.hAdd _ _) _)))); refine flat (s := s) rfl rfl rfl (fun _ => ?_)) | ((fail_if_success (with_reducible refine RangeRest.succ ?_)); (fail_if_success (with_reducible show LCg.CompSrc _ _ _ _ _ _ _ _ _ _ _ _ _ _)); (fail_if_success (with_reducible show UnrEnd _ _ _ _ _ _ _)); (fail_if_success (with_reducible show wpAny _ _ (eval (Expr.ListComp _ _ _ _) _) _ _ _)); first | walk1 | (dsimp only; walk1) | (leave1; walk_say "STEP leave1"; try dsimp only)) | fail "no step"))
  k_dflt (refine' LCg.CompSrc.range (n := p.length) ?a1 ?F ?N ?r ?a2 ?a3 ?a4 ?_; (case a1 => exact rfl); (case F => k_asm); (case N => k_asm); (case r => assumption); (case a2 => exact (rng10 _ hp).1); (case a3 => exact (rng10 _ hp).2); (case a4 => show _ ≤ 2 ^ 24; omega))
  intro g9
  refine comp_range (lapF p) ?rule ?_
  case rule =>
    intro i t I oI C oC D m₂ h tk ys' E' Q' hi hC hx F' N' hQ
    obtain ⟨o1, o2, o3, o4, o5⟩ := hok.2 i hi
    have o6 : (sfx p i ++ dots).length + 2 ≤ sizeLine := Nat.le_trans (Nat.add_le_add_right (Nat.le_of_lt o5) 2) (by decide)
    (try k_fold)
    (repeat' (first | (k_unfold; (try dsimp only)) | (k_end; wrow_close) | ((fail_if_success (fail_if_success (with_reducible show wpAny _ _ (exec _ _) _ _ _))); k_fold) | ((fail_if_success (fail_if_success (with_reducible show wpAny _ _ (execs (_ :: _) _) _ _ (Shared.mk _ _ _ (HAdd.hAdd _ _) _)))); refine flat (s := s) rfl rfl rfl (fun _ => ?_)) | ((fail_if_success (with_reducible refine RangeRest.succ ?_)); (fail_if_success (with_reducible show LCg.CompSrc _ _ _ _ _ _ _ _ _ _ _ _ _ _)); (fail_if_success (with_reducible show UnrEnd _ _ _ _ _ _ _)); (fail_if_success (with_reducible show wpAny _ _ (eval (Expr.ListComp _ _ _ _) _) _ _ _)); first | walk1 | (dsimp only; walk1) | (leave1; walk_say "STEP leave1"; try dsimp only)) | fail "no step"))
    k_dflt (refine' Ctr.use0 (em2 _ _ _ _ _ _ _ _ _ _ _ ?e1 ?e2 o1 o2 o3 o4 rfl) ?k1 ?k2 ?k3 ?k4 ?k5 ?kK ?kd ?ku ?x1 ?x2 trivial ?_; (case k1 => k_asm); (case k2 => k_asm); (case k3 => k_asm); (case k4 => k_asm); (case k5 => k_asm); (case kK => first | exact rfl | assumption); (case kd => ktr_room); (case ku => ktr_units); (case x1 => assumption); (case x2 => assumption); (case e1 => exact o6); (case e2 => omega); k_whole)
    rintro r9 led9 h9 tk9 F9 N9 A9 K9 ⟨rfl, rfl⟩
    simp only [List.nil_append] at N9
    (try dsimp only)
    (try k_fold)
    (repeat' (first | (k_unfold; (try dsimp only)) | (k_end; wrow_close) | ((fail_if_success (fail_if_success (with_reducible show wpAny _ _ (exec _ _) _ _ _))); k_fold) | ((fail_if_success (fail_if_success (with_reducible show wpAny _ _ (execs (_ :: _) _) _ _ (Shared.mk _ _ _ (HAdd.hAdd _ _) _)))); refine flat (s := s) rfl rfl rfl (fun _ => ?_)) | ((fail_if_success (with_reducible refine RangeRest.succ ?_)); (fail_if_success (with_reducible show LCg.CompSrc _ _ _ _ _ _ _ _ _ _ _ _ _ _)); (fail_if_success (with_reducible show UnrEnd _ _ _ _ _ _ _)); (fail_if_success (with_reducible show wpAny _ _ (eval (Expr.ListComp _ _ _ _) _) _ _ _)); first | walk1 | (dsimp only; walk1) | (leave1; walk_say "STEP leave1"; try dsimp only)) | fail "no step"))
    · have hQ1 := hQ
      rw [show lapF p i = 1 from if_pos (by assumption)] at hQ1
      exact hQ1 _ _ _ (by k_asm) (by k_asm)
    · have hQ1 := hQ
      rw [show lapF p i = 0 from if_neg (by first | assumption | exact ne_true_of_eq_false (by assumption))] at hQ1
      exact hQ1 _ _ _ (by k_asm) (by k_asm)
  intro ys hys
  (repeat' (first | (k_unfold; (try dsimp only)) | (k_end; wrow_close) | ((fail_if_success (fail_if_success (with_reducible show wpAny _ _ (exec _ _) _ _ _))); k_fold) | ((fail_if_success (fail_if_success (with_reducible show wpAny _ _ (execs (_ :: _) _) _ _ (Shared.mk _ _ _ (HAdd.hAdd _ _) _)))); refine flat (s := s) rfl rfl rfl (fun _ => ?_)) | ((fail_if_success (with_reducible refine RangeRest.succ ?_)); (fail_if_success (with_reducible show LCg.CompSrc _ _ _ _ _ _ _ _ _ _ _ _ _ _)); (fail_if_success (with_reducible show UnrEnd _ _ _ _ _ _ _)); (fail_if_success (with_reducible show wpAny _ _ (eval (Expr.ListComp _ _ _ _) _) _ _ _)); first | walk1 | (dsimp only; walk1) | (leave1; walk_say "STEP leave1"; try dsimp only)) | fail "no step"))
  exact ctr_end (led' := [_]) hret kG9 (by k_asm) (by k_asm) (by k_asm) (by k_asm) (List.forall_mem_cons.mpr ⟨List.Mem.head _, fun _ h => nomatch h⟩) ⟨_, _, _, rfl, rfl, hys⟩
end Mine
end
section
open PySem PySem.W PyProof.Rows PySem.Calls PySem.Spec
open PySem.Builtin PySem.Builtin.Str
set_option maxHeartbeats 0
set_option pp.deepTerms false
namespace Mine
/-- the laps of a piece, the last first -/
noncomputable def lapsR (p : PySem.Str) : List Int := ((List.range p.length).map (lapF p)).reverse
noncomputable def divF (p : PySem.Str) (b : Bool) : Int := if b = true then 1 + 254 * d2iF (lapsR p) 8 else 256 ^ p.length
theorem divisor (w : World) (loose mean mg mb) (p : PySem.Str) (tp : Tok) (b : Bool) (ps : Array Value) (cd : List (Addr × Obj)) (hT : TabOk 47 4 qD ps cd) (hok : LapOk p) (hB : ∀ l r, l < r → r ≤ (lapsR p).length → (dF (lapsR p) 8 8 l r).natAbs < 2 ^ 64) (hp8 : p.length ≤ 8) :
    Ctr w loose mean mg mb 108 [.str p tp, .bool b] 12 ((37, tabObj ps) :: cd) (fun _ => True) (fun r led => ∃ ps' cd' t, r = .int (divF p b) t ∧ TabOk 47 4 qD ps' cd' ∧ led = (37, tabObj ps') :: cd') := by
  unfold Ctr
  w_top off
  k_fill
  intro dp un gd cn cs a ccd cl outer A₀ base h₀ L m s Q E B F X N T hk hd hu c1 c2 hP hret
  refine wpAny_call ?_
  k_dflt ((refine' code_defG ?en_k1 ?en_k2 ?en_k3 ?en_k4 ?en_k5 ?en_kA ?en_kF ?en_kK ?en_k6 ?en_k7 ?en_k8 ?en_k9 ?en_kB ?_ ?en_c2 ?en_c3 ?en_c4 ?en_c5; (case en_kA => exact rfl); (case en_kF => exact rfl); (case en_kK => assumption); (case en_k1 => k_asm); (case en_k2 => k_asm); (case en_k3 => k_asm); (case en_k4 => k_asm); (case en_k5 => k_asm); (case en_k6 => k_is); (case en_k7 => k_is); (case en_k8 => ktr_room); (case en_k9 => exact BindsTo.of_eq rfl); (case en_c5 => decide); (case en_kB => exact locs rfl); (case en_c2 => exact rfl); (case en_c3 => exact rfl); (case en_c4 => exact rfl); k_whole; intro g' L' h' FG' F' N' B' X' T' kG'; (try dsimp only); (try k_lift B'); (try k_fold)))
  rename GSub _ _ _ => kG9
  cases b
  · (repeat' (first | (k_unfold; (try dsimp only)) | (k_end; wrow_close) | ((fail_if_success (fail_if_success (with_reducible show wpAny _ _ (exec _ _) _ _ _))); k_fold) | ((fail_if_success (fail_if_success (with_reducible show wpAny _ _ (execs (_ :: _) _) _ _ (Shared.mk _ _ _ (HAdd.hAdd _ _) _)))); refine flat (s := s) rfl rfl rfl (fun _ => ?_)) | walk1 | (dsimp only; walk1) | (leave1; walk_say "STEP leave1"; try dsimp only) | fail "no step"))
    exact ctr_end hret kG9 (by k_asm) (by k_asm) (by k_asm) (by k_asm) (fun _ h => h) ⟨_, _, _, congrArg (fun x => Value.int x _) (by unfold divF; rw [if_neg (by decide), Int.toNat_natCast]), hT, rfl⟩
  · (repeat' (first | (k_unfold; (try dsimp only)) | (k_end; wrow_close) | ((fail_if_success (fail_if_success (with_reducible show wpAny _ _ (exec _ _) _ _ _))); k_fold) | ((fail_if_success (fail_if_success (with_reducible show wpAny _ _ (execs (_ :: _) _) _ _ (Shared.mk _ _ _ (HAdd.hAdd _ _) _)))); refine flat (s := s) rfl rfl rfl (fun _ => ?_)) | walk1 | (dsimp only; walk1) | (leave1; walk_say "STEP leave1"; try dsimp only) | fail "no step"))
    k_dflt (refine' Ctr.use0 (laps _ _ _ _ _ p _ hok) ?k1 ?k2 ?k3 ?k4 ?k5 ?kK ?kd ?ku ?x1 ?x2 trivial ?_; (case k1 => k_asm); (case k2 => k_asm); (case k3 => k_asm); (case k4 => k_asm); (case k5 => k_asm); (case kK => first | exact rfl | assumption); (case kd => ktr_room); (case ku => ktr_units); (case x1 => assumption); (case x2 => assumption); k_whole)
    rintro r9 led9 h9 tk9 F9 N9 A9 K9 ⟨D9, ys9, k9, rfl, rfl, hI9⟩
    simp only [List.cons_append, List.nil_append] at N9
    have hl9 : ((List.range p.length).map (lapF p)).length ≤ 8 := by rw [List.length_map, List.length_range]; exact hp8
    (try dsimp only)
    (try k_fold)
    (repeat' (first | (k_unfold; (try dsimp only)) | (k_end; wrow_close) | ((fail_if_success (fail_if_success (with_reducible show wpAny _ _ (exec _ _) _ _ _))); k_fold) | ((fail_if_success (fail_if_success (with_reducible show wpAny _ _ (execs (_ :: _) _) _ _ (Shared.mk _ _ _ (HAdd.hAdd _ _) _)))); refine flat (s := s) rfl rfl rfl (fun _ => ?_)) | walk1 | (dsimp only; walk1) | (leave1; walk_say "STEP leave1"; try dsimp only) | fail "no step"))
    rename IntsAre _ (List.reverse _) => hI8
    rename (D9 < _ ∧ 37 < _ ∧ AllLt _ cd) => l9
    k_dflt (refine' Ctr.use (rest := []) (d2i _ _ _ _ _ _ _ (lapsR p) 8 _ ps cd hT hI8 (by decide) ?b1 hB) ?j1 ?j2 ?j3 ?j4 ?j5 ?jK ?js ?jr ?jo ?jd ?ju ?y1 ?y2 ?jP ?_; (case b1 => (unfold lapsR; rw [List.length_reverse]; exact hl9)); (case j1 => k_asm); (case j2 => k_asm); (case j3 => k_asm); (case j4 => k_asm); (case j5 => k_asm); (case jK => first | exact rfl | assumption); (case js => exact fun p hp => List.Mem.tail _ (List.Mem.tail _ hp)); (case jr => exact fun _ h => nomatch h); (case jo => exact fun _ h => nomatch h); (case jd => ktr_room); (case ju => ktr_units); (case y1 => assumption); (case y2 => assumption); (case jP => exact ⟨⟨_, News.get (by k_asm) (List.Mem.head _), rfl, _, rfl⟩, fun hq => (List.mem_cons.mp hq).elim (fun e => absurd e (Nat.ne_of_gt l9.2.1)) fun hq => (by obtain ⟨q, hq1, hq2⟩ := List.mem_map.mp hq; exact absurd hq2 (Nat.ne_of_lt (ktn_ltOf l9.2.2 q hq1)))⟩); k_whole)
    rintro r8 led8 h8 tk8 F8 N8 A8 K8 ⟨ps8, cd8, t8, rfl, hT8, rfl⟩
    simp only [List.append_nil] at N8
    (try dsimp only)
    (try k_fold)
    (repeat' (first | (k_unfold; (try dsimp only)) | (k_end; wrow_close) | ((fail_if_success (fail_if_success (with_reducible show wpAny _ _ (exec _ _) _ _ _))); k_fold) | ((fail_if_success (fail_if_success (with_reducible show wpAny _ _ (execs (_ :: _) _) _ _ (Shared.mk _ _ _ (HAdd.hAdd _ _) _)))); refine flat (s := s) rfl rfl rfl (fun _ => ?_)) | walk1 | (dsimp only; walk1) | (leave1; walk_say "STEP leave1"; try dsimp only) | fail "no step"))
    all_goals exact ctr_end hret kG9 (by k_asm) (by k_asm) (by k_asm) (by k_asm) (fun _ h => h) ⟨_, _, _, congrArg (fun x => Value.int x _) (by unfold divF; rw [if_pos rfl]), hT8, rfl⟩
end Mine
end
section
open PySem PySem.W PyProof.Rows PySem.Calls PySem.Spec
open PySem.Builtin PySem.Builtin.Str
set_option maxHeartbeats 0
set_option pp.deepTerms false
namespace Mine
theorem div21 (w : World) (loose mean mg mb) (x b n : Int) (tx tb tn : Tok) (hb : b ≠ 0) (hx : x.natAbs < 2 ^ 64) (hn : 0 ≤ n) (hpy : Builtin.divisionGoesByPylong x b = false) :
    Ctr w loose mean mg mb 21 [.int x tx, .int b tb, .int n tn] 1 [] (fun _ => True) (fun r led => ∃ D t u, r = .ref D ∧ led = [(D, { cls := .type "tuple", data := .seq #[.int (x.fdiv b) t, .int (x.fmod b) u] })]) := by
  unfold Ctr
  w_top off
  k_fill
  intro dp un gd cn cs a ccd cl outer A₀ base h₀ L m s Q E B F X N T hk hd hu c1 c2 hP hret
  have hbits : Builtin.Int.intBits x ≤ 64 := intBits_le hx
  refine wpAny_call ?_
  k_dflt ((refine' code_defG ?en_k1 ?en_k2 ?en_k3 ?en_k4 ?en_k5 ?en_kA ?en_kF ?en_kK ?en_k6 ?en_k7 ?en_k8 ?en_k9 ?en_kB ?_ ?en_c2 ?en_c3 ?en_c4 ?en_c5; (case en_kA => exact rfl); (case en_kF => exact rfl); (case en_kK => assumption); (case en_k1 => k_asm); (case en_k2 => k_asm); (case en_k3 => k_asm); (case en_k4 => k_asm); (case en_k5 => k_asm); (case en_k6 => k_is); (case en_k7 => k_is); (case en_k8 => ktr_room); (case en_k9 => exact BindsTo.of_eq rfl); (case en_c5 => decide); (case en_kB => exact locs rfl); (case en_c2 => exact rfl); (case en_c3 => exact rfl); (case en_c4 => exact rfl); k_whole; intro g' L' h' FG' F' N' B' X' T' kG'; (try dsimp only); (try k_lift B'); (try k_fold)))
  rename GSub _ _ _ => kG9
  (repeat' (first | (k_unfold; (try dsimp only)) | (k_end; wrow_close) | ((with_reducible refine lshift_int_small ?_ ?_ ?_ ?_); (· omega); (· omega); (· assumption)) | ((fail_if_success (fail_if_success (with_reducible show wpAny _ _ (exec _ _) _ _ _))); k_fold) | ((fail_if_success (fail_if_success (with_reducible show wpAny _ _ (execs (_ :: _) _) _ _ (Shared.mk _ _ _ (HAdd.hAdd _ _) _)))); refine flat (s := s) rfl rfl rfl (fun _ => ?_)) | walk1 | (dsimp only; walk1) | (leave1; walk_say "STEP leave1"; try dsimp only) | fail "no step"))
  k_dflt (refine' divmod_N ?F ?N hb ?_ (Or.inl hpy); (case F => k_asm); (case N => k_asm); k_whole)
  intro h8 F8 N8
  (try dsimp only)
  (try k_fold)
  (repeat' (first | (k_unfold; (try dsimp only)) | (k_end; wrow_close) | ((with_reducible refine lshift_int_small ?_ ?_ ?_ ?_); (· omega); (· omega); (· assumption)) | ((fail_if_success (fail_if_success (with_reducible show wpAny _ _ (exec _ _) _ _ _))); k_fold) | ((fail_if_success (fail_if_success (with_reducible show wpAny _ _ (execs (_ :: _) _) _ _ (Shared.mk _ _ _ (HAdd.hAdd _ _) _)))); refine flat (s := s) rfl rfl rfl (fun _ => ?_)) | walk1 | (dsimp only; walk1) | (leave1; walk_say "STEP leave1"; try dsimp only) | fail "no step"))
  exact ctr_end (led' := [_]) hret kG9 (by k_asm) (by k_asm) (by k_asm) (by k_asm) (List.forall_mem_cons.mpr ⟨List.Mem.head _, fun _ h => nomatch h⟩) ⟨_, _, _, rfl, rfl⟩
/-- both code tables -/
noncomputable abbrev led2 (ps : Array Value) (cd : List (Addr × Obj)) (pt : Array Value) (ct : List (Addr × Obj)) : List (Addr × Obj) := (37, tabObj ps) :: (30, tabObj pt) :: (cd ++ ct)
theorem led2_d {ps : Array Value} {cd : List (Addr × Obj)} {pt : Array Value} {ct : List (Addr × Obj)} : ∀ p ∈ (37, tabObj ps) :: cd, p ∈ led2 ps cd pt ct := fun p hp => (List.mem_cons.mp hp).elim (fun e => e ▸ .head _) fun h => .tail _ (.tail _ (List.mem_append.mpr (.inl h)))
theorem led2_i {ps : Array Value} {cd : List (Addr × Obj)} {pt : Array Value} {ct : List (Addr × Obj)} : ∀ p ∈ (30, tabObj pt) :: ct, p ∈ led2 ps cd pt ct := fun p hp => (List.mem_cons.mp hp).elim (fun e => e ▸ .tail _ (.head _)) fun h => .tail _ (.tail _ (List.mem_append.mpr (.inr h)))
theorem qDI : qD ≠ qI := by decide +kernel
theorem p37 : (37 : Addr) ≠ 30 := by decide
/-- the digits of a quotient, the greatest first, and the rest -/
noncomputable def dmF (b : Int) (n : Nat) : List Int → Int → List Int × Int
  | [], r => ([], r)
  | d :: ds, r => ((r * 2 ^ n + d).fdiv b :: (dmF b n ds ((r * 2 ^ n + d).fmod b)).1, (dmF b n ds ((r * 2 ^ n + d).fmod b)).2)
/-- the numbers on the way are small -/
noncomputable def dmOk (b : Int) (n : Nat) : List Int → Int → Bool
  | [], _ => true
  | d :: ds, r => decide (r.natAbs < 2 ^ 64) && decide ((r * 2 ^ n + d).natAbs < 2 ^ 64) && dmOk b n ds ((r * 2 ^ n + d).fmod b)
theorem offI_of {I : Addr} {it : Obj} : ∀ {l : List (Addr × Obj)}, (∀ p ∈ l, p.1 < I) → OffI I it l
  | [], _ => trivial
  | p :: _, h => ⟨.inl (Nat.ne_of_lt (h p (.head _))), offI_of fun q hq => h q (.tail _ hq)⟩
theorem offI_ne {I : Addr} {it : Obj} : ∀ {l : List (Addr × Obj)}, (∀ p ∈ l, p.1 ≠ I) → OffI I it l
  | [], _ => trivial
  | p :: _, h => ⟨.inl (h p (.head _)), offI_ne fun q hq => h q (.tail _ hq)⟩
theorem subL_of {all : List (Addr × Obj)} : ∀ {l : List (Addr × Obj)}, (∀ p ∈ l, p ∈ all) → SubL l all
  | [], _ => trivial
  | p :: _, h => ⟨h p (.head _), subL_of fun q hq => h q (.tail _ hq)⟩
section
variable {prog : Program} {w : World} {A : Around} {E : Value → Shared → Prop} {s : Shared} {h₀ : Heap} {env : Env}
theorem rev_ind {x : PySem.Str} {body : List Stmt} {Q : Flow → Shared → Prop} {I : Addr} {lp : Addr × Obj} (J : List Value → (PySem.Str → Option Value) → List (Addr × Obj) → Prop)
    (turn : ∀ v r m news, J (v :: r) m news → ∀ it h tk, it.cls = .type "list_reverseiterator" → Fr h₀ env.locals h (fun y => if y = x then some v else m y) → News h₀ env.locals h ((I, it) :: news) →
      wpAny (model prog w) A (execs body env) (UnrPost h₀ env.locals { s with heap := h, toks := tk } I it (fun m' n' => lp ∈ n' ∧ J r m' n') Q) E { s with heap := h, toks := tk })
    (done : ∀ m news, J [] m news → ∀ h tk, Fr h₀ env.locals h m → News h₀ env.locals h news → Q .next { s with heap := h, toks := tk }) :
    ∀ vs m news, J vs m news → RevRest prog w A E h₀ env x body Q s I lp vs m news := by
  intro vs
  induction vs with
  | nil => intro m news hJ; exact RevRest.zero fun h tk F N => done m news hJ h tk F N
  | cons v r ih =>
    intro m news hJ
    refine RevRest.succ fun it h tk hit F N => wpAny_mono (turn v r m news hJ it h tk hit F N) (fun f s₂ hp => ?_) fun _ _ e => e
    have fin : UnrEnd h₀ env.locals { s with heap := h, toks := tk } I it (fun m' n' => lp ∈ n' ∧ J r m' n') s₂ → UnrEnd h₀ env.locals { s with heap := h, toks := tk } I it (fun m' n' => lp ∈ n' ∧ RevRest prog w A E h₀ env x body Q s I lp r m' n') s₂ := by
      rintro ⟨h', tk', m', news', e, F', N', off, hm, hJ'⟩
      exact ⟨h', tk', m', news', e, F', N', off, hm, ih m' news' hJ'⟩
    cases f with
    | ret v => exact hp
    | brk => exact hp
    | next => exact fin hp
    | cont => exact fin hp
/-- between the turns: the rest, the quotient's digits so far -/
noncomputable def DmJ (b : Int) (n : Nat) (res : List Int × Int) (Dq : Addr) (lp : Addr × Obj) (fx : List (Addr × Obj)) (m₀ : PySem.Str → Option Value) (vs : List Value) (m : PySem.Str → Option Value) (news : List (Addr × Obj)) : Prop :=
  ∃ (ns qs : List Int) (r : Int) (tr : Tok) (cs : Array Value) (k : Nat) (u1 u2 : Option Value), IntsAre vs ns ∧ IntsAre cs.toList qs ∧ dmOk b n ns r = true ∧ (qs ++ (dmF b n ns r).1, (dmF b n ns r).2) = res ∧ qs.length + ns.length ≤ 8 ∧
    m = (fun y => if y = PySem.Str.ofString "r" then some (.int r tr) else if y = PySem.Str.ofString "q_digit" then u1 else if y = PySem.Str.ofString "a_digit" then u2 else m₀ y) ∧
    news = (Dq, W.listOf cs k) :: lp :: fx
theorem dm_loop (b : Int) (n : Nat) {body : List Stmt} {Q : Flow → Shared → Prop} {I Dq : Addr} {lp : Addr × Obj} {fx : List (Addr × Obj)} {m : PySem.Str → Option Value} {k₀ : Nat} {t₀ : Tok} {vs : List Value} {ns : List Int} (hI : IntsAre vs ns) (hok : dmOk b n ns 0 = true) (hlen : ns.length ≤ 8) (hm : m (PySem.Str.ofString "r") = some (.int 0 t₀))
    (turn : ∀ d td vs' ns' qs r tr cs k u1 u2, IntsAre vs' ns' → IntsAre cs.toList qs → dmOk b n (d :: ns') r = true → (qs ++ (dmF b n (d :: ns') r).1, (dmF b n (d :: ns') r).2) = dmF b n ns 0 → qs.length + (ns'.length + 1) ≤ 8 →
      ∀ it h tk, it.cls = .type "list_reverseiterator" → Fr h₀ env.locals h (fun y => if y = PySem.Str.ofString "a_digit" then some (.int d td) else if y = PySem.Str.ofString "r" then some (.int r tr) else if y = PySem.Str.ofString "q_digit" then u1 else if y = PySem.Str.ofString "a_digit" then u2 else m y) →
      News h₀ env.locals h ((I, it) :: (Dq, W.listOf cs k) :: lp :: fx) →
      wpAny (model prog w) A (execs body env) (UnrPost h₀ env.locals { s with heap := h, toks := tk } I it (fun m' n' => lp ∈ n' ∧ DmJ b n (dmF b n ns 0) Dq lp fx m vs' m' n') Q) E { s with heap := h, toks := tk })
    (done : ∀ r tr cs k u1 u2, IntsAre cs.toList (dmF b n ns 0).1 → r = (dmF b n ns 0).2 → (dmF b n ns 0).1.length ≤ 8 → ∀ h tk, Fr h₀ env.locals h (fun y => if y = PySem.Str.ofString "r" then some (.int r tr) else if y = PySem.Str.ofString "q_digit" then u1 else if y = PySem.Str.ofString "a_digit" then u2 else m y) →
      News h₀ env.locals h ((Dq, W.listOf cs k) :: lp :: fx) → Q .next { s with heap := h, toks := tk }) :
    RevRest prog w A E h₀ env (PySem.Str.ofString "a_digit") body Q s I lp vs m ((Dq, W.listOf #[] k₀) :: lp :: fx) := by
  refine rev_ind (DmJ b n (dmF b n ns 0) Dq lp fx m) ?_ ?_ _ _ _ ?_
  · rintro v r' m' news ⟨ns', qs, r, tr, cs, k, u1, u2, h1, h2, h3, h4, h5, rfl, rfl⟩ it h tk hit F N
    cases h1 with
    | cons d td h1 => exact turn d td r' _ qs r tr cs k u1 u2 h1 h2 h3 h4 h5 it h tk hit F N
  · rintro m' news ⟨ns', qs, r, tr, cs, k, u1, u2, h1, h2, h3, h4, h5, rfl, rfl⟩ h tk F N
    cases h1
    have e1 : qs = (dmF b n ns 0).1 := by rw [← h4]; simp [dmF]
    have e2 : r = (dmF b n ns 0).2 := by rw [← h4]; rfl
    exact done r tr cs k u1 u2 (e1 ▸ h2) e2 (by rw [← e1]; simpa using h5) h tk F N
  · refine ⟨ns, [], 0, t₀, #[], k₀, m (PySem.Str.ofString "q_digit"), m (PySem.Str.ofString "a_digit"), hI, .nil, hok, rfl, by simpa using hlen, ?_, rfl⟩
    funext y
    by_cases h1 : y = PySem.Str.ofString "r"
    · rw [if_pos h1, h1, hm]
    · rw [if_neg h1]
      by_cases h2 : y = PySem.Str.ofString "q_digit"
      · rw [if_pos h2, h2]
      · rw [if_neg h2]
        by_cases h3 : y = PySem.Str.ofString "a_digit"
        · rw [if_pos h3, h3]
        · rw [if_neg h3]
/-- a turn's end -/
theorem dm_end {b : Int} {n : Nat} {res : List Int × Int} {I Dq : Addr} {it : Obj} {lp : Addr × Obj} {fx all : List (Addr × Obj)} {m : PySem.Str → Option Value} {d r : Int} {td tr tq tr' : Tok} {vs' : List Value} {ns' qs : List Int} {cs : Array Value} {k : Nat} {u1 u2 : Option Value} {h : Heap} {s₁ : Shared} {tk : Nat} {L : Addr} {tc : Tok}
    (F : Fr h₀ L h (fun y => if y = PySem.Str.ofString "r" then some (.int ((r * 2 ^ n + d).fmod b) tr') else if y = PySem.Str.ofString "q_digit" then some (.int ((r * 2 ^ n + d).fdiv b) tq) else if y = PySem.Str.ofString "a_digit" then some (.int d td) else if y = PySem.Str.ofString "r" then some (.int r tr) else if y = PySem.Str.ofString "q_digit" then u1 else if y = PySem.Str.ofString "a_digit" then u2 else m y))
    (N : News h₀ L h all) (hI : (I, it) ∈ all) (sub : ∀ p ∈ (Dq, W.listOf (cs.push (.int ((r * 2 ^ n + d).fdiv b) tc)) k) :: lp :: fx, p ∈ all) (off : ∀ p ∈ (Dq, W.listOf (cs.push (.int ((r * 2 ^ n + d).fdiv b) tc)) k) :: lp :: fx, p.1 ≠ I)
    (h1 : IntsAre vs' ns') (h2 : IntsAre cs.toList qs) (h3 : dmOk b n (d :: ns') r = true) (h4 : (qs ++ (dmF b n (d :: ns') r).1, (dmF b n (d :: ns') r).2) = res) (h5 : qs.length + (ns'.length + 1) ≤ 8) :
    UnrEnd h₀ L s₁ I it (fun m' n' => lp ∈ n' ∧ DmJ b n res Dq lp fx m vs' m' n') { s₁ with heap := h, toks := tk } := by
  refine UnrEnd.intro3 F N ((Dq, W.listOf (cs.push (.int ((r * 2 ^ n + d).fdiv b) tc)) k) :: lp :: fx) hI (subL_of sub) (offI_ne off) ⟨.tail _ (.head _), ns', qs ++ [(r * 2 ^ n + d).fdiv b], (r * 2 ^ n + d).fmod b, tr', cs.push (.int ((r * 2 ^ n + d).fdiv b) tc), k, some (.int ((r * 2 ^ n + d).fdiv b) tq), some (.int d td), h1, ?_, ?_, ?_, ?_, ?_, rfl⟩
  · rw [Array.toList_push]; exact h2.append (.cons _ _ .nil)
  · unfold dmOk at h3
    simp only [Bool.and_eq_true] at h3
    exact h3.2
  · rw [← h4]; simp [dmF]
  · rw [List.length_append, List.length_singleton]; omega
  · funext y
    by_cases e1 : y = PySem.Str.ofString "r"
    · simp only [if_pos e1]
    · simp only [if_neg e1]
      by_cases e2 : y = PySem.Str.ofString "q_digit"
      · simp only [if_pos e2]
      · simp only [if_neg e2]
        by_cases e3 : y = PySem.Str.ofString "a_digit"
        · simp only [if_pos e3]
        · simp only [if_neg e3]
end
/-- the quotient's digits and the rest -/
noncomputable def qdF (x b : Int) : List Int × Int := dmF b (Builtin.Int.intBits b) (i2dF x (Builtin.Int.intBits b)).reverse 0
noncomputable def quoF (x b : Int) : Int := d2iF (qdF x b).1.reverse (Builtin.Int.intBits b)
theorem led2_sub {ps : Array Value} {cd : List (Addr × Obj)} {pt : Array Value} {ct : List (Addr × Obj)} : ∀ p ∈ led2 ps cd pt ct, p ∈ ((37, tabObj ps) :: cd) ++ ((30, tabObj pt) :: ct) := fun p hp => by
  simp only [led2, List.mem_cons, List.mem_append] at hp ⊢
  rcases hp with h | h | h | h
  · exact .inl (.inl h)
  · exact .inr (.inl h)
  · exact .inl (.inr h)
  · exact .inr (.inr h)
theorem ints_rev {vs : List Value} {ns : List Int} (h : IntsAre vs ns) : IntsAre vs.reverse ns.reverse := by
  induction h with
  | nil => exact .nil
  | cons n t _ ih => rw [List.reverse_cons, List.reverse_cons]; exact ih.append (.cons _ _ .nil)
theorem i2dF_len' {x : Int} {n : Nat} (h0 : x ≠ 0 → 0 < ndF x n) (h8 : ndF x n ≤ 8) : (i2dF x n).length ≤ 8 := by
  unfold i2dF
  split
  · rw [List.length_replicate]; exact h8
  · rw [iF_len n 8 _ _ _ (h0 (by assumption)) (by omega)]; omega
theorem ne_tailE {d : Addr} {l : List (Addr × Obj)} (h : ∀ p ∈ l, @LT.lt Nat _ p.1 d) : ∀ p ∈ l, p.1 ≠ d := fun p hp => Nat.ne_of_lt (h p hp)
local macro_rules | `(tactic| k_all) => `(tactic| (refine ne_tailE ?_; assumption))
theorem dmpos (w : World) (loose mean mg mb) (x b : Int) (tx tb : Tok) (ps : Array Value) (cd : List (Addr × Obj)) (pt : Array Value) (ct : List (Addr × Obj)) (hT : TabOk 47 4 qD ps cd) (hU : TabOk 32 4 qI pt ct)
    (hx0 : 0 ≤ x) (hx : x < 2 ^ 64) (hb0 : 0 < b) (hb : b < 2 ^ 64) (hK8 : ndF x (Builtin.Int.intBits b) ≤ 8) (hK0 : x ≠ 0 → 0 < ndF x (Builtin.Int.intBits b)) (hKB : okB (Builtin.Int.intBits b) 8 0 (ndF x (Builtin.Int.intBits b)) x = true) (hn0 : 0 < Builtin.Int.intBits b) (hdm : dmOk b (Builtin.Int.intBits b) (i2dF x (Builtin.Int.intBits b)).reverse 0 = true) (hpy : ∀ y, Builtin.divisionGoesByPylong y b = false) (hB : ∀ l r, l < r → r ≤ (qdF x b).1.reverse.length → (dF (qdF x b).1.reverse (Builtin.Int.intBits b) 8 l r).natAbs < 2 ^ 64) :
    Ctr w loose mean mg mb 49 [.int x tx, .int b tb] 14 (led2 ps cd pt ct) (fun _ => True) (fun r led => ∃ D t u ps' cd' pt' ct', r = .ref D ∧ led = (D, { cls := .type "tuple", data := .seq #[.int (quoF x b) t, .int (qdF x b).2 u] }) :: led2 ps' cd' pt' ct' ∧ TabOk 47 4 qD ps' cd' ∧ TabOk 32 4 qI pt' ct') := by
  unfold Ctr
  w_top off
  k_fill
  intro dp un gd cn cs a ccd cl outer A₀ base h₀ L m s Q E B F X N T hk hd hu c1 c2 hP hret
  have hb64 : Builtin.Int.intBits b ≤ 64 := intBits_le (by omega)
  refine wpAny_call ?_
  k_dflt ((refine' code_defG ?en_k1 ?en_k2 ?en_k3 ?en_k4 ?en_k5 ?en_kA ?en_kF ?en_kK ?en_k6 ?en_k7 ?en_k8 ?en_k9 ?en_kB ?_ ?en_c2 ?en_c3 ?en_c4 ?en_c5; (case en_kA => exact rfl); (case en_kF => exact rfl); (case en_kK => assumption); (case en_k1 => k_asm); (case en_k2 => k_asm); (case en_k3 => k_asm); (case en_k4 => k_asm); (case en_k5 => k_asm); (case en_k6 => k_is); (case en_k7 => k_is); (case en_k8 => ktr_room); (case en_k9 => exact BindsTo.of_eq rfl); (case en_c5 => decide); (case en_kB => exact locs rfl); (case en_c2 => exact rfl); (case en_c3 => exact rfl); (case en_c4 => exact rfl); k_whole; intro g' L' h' FG' F' N' B' X' T' kG'; (try dsimp only); (try k_lift B'); (try k_fold)))
  rename GSub _ _ _ => kG9
  (repeat' (first | (k_unfold; (try dsimp only)) | (k_end; wrow_close) | ((with_reducible refine lshift_int_small ?_ ?_ ?_ ?_); (· omega); (· omega); (· assumption)) | ((fail_if_success (fail_if_success (with_reducible show wpAny _ _ (exec _ _) _ _ _))); k_fold) | ((fail_if_success (fail_if_success (with_reducible show wpAny _ _ (execs (_ :: _) _) _ _ (Shared.mk _ _ _ (HAdd.hAdd _ _) _)))); refine flat (s := s) rfl rfl rfl (fun _ => ?_)) | ((fail_if_success (with_reducible show RevRest _ _ _ _ _ _ _ _ _ _ _ _ _ _ _)); (fail_if_success (with_reducible show UnrEnd _ _ _ _ _ _ _)); first | walk1 | (dsimp only; walk1) | (leave1; walk_say "STEP leave1"; try dsimp only)) | fail "no step"))
  rename News _ _ _ (led2 ps cd pt ct) => N5
  k_dflt (refine' Ctr.use (rest := (37, tabObj ps) :: cd) (i2d _ _ _ _ _ x (Builtin.Int.intBits b) _ _ pt ct hU (by omega) hn0 hx0 hx hK8 hK0 hKB) ?j1 ?j2 ?j3 ?j4 ?j5 ?jK ?js ?jr ?jo ?jd ?ju ?y1 ?y2 trivial ?_; (case j1 => k_asm); (case j2 => k_asm); (case j3 => k_asm); (case j4 => exact N5); (case j5 => k_asm); (case jK => first | exact rfl | assumption); (case js => exact led2_i); (case jr => exact led2_d); (case jo => exact tabs_off N5 led2_d led2_i hT hU p37 qDI); (case jd => ktr_room); (case ju => ktr_units); (case y1 => assumption); (case y2 => assumption); k_whole)
  rintro r9 led9 h9 tk9 F9 N9 A9 K9 ⟨D9, ar9, k9, pt9, ct9, rfl, rfl, hU9, hI9⟩
  have N9' : News _ _ _ ((D9, W.listOf ar9.toArray k9) :: ((30, tabObj pt9) :: ct9 ++ (37, tabObj ps) :: cd)) := N9
  have hfd : ∀ p ∈ (37, tabObj ps) :: cd, p ∈ (30, tabObj pt9) :: ct9 ++ (37, tabObj ps) :: cd := fun p hp => List.mem_append.mpr (.inr hp)
  have hfi : ∀ p ∈ (30, tabObj pt9) :: ct9, p ∈ (30, tabObj pt9) :: ct9 ++ (37, tabObj ps) :: cd := fun p hp => List.mem_append.mpr (.inl hp)
  clear N9
  generalize (30, tabObj pt9) :: ct9 ++ (37, tabObj ps) :: cd = fx at N9' hfd hfi
  (try dsimp only)
  (try k_fold)
  (repeat' (first | (k_unfold; (try dsimp only)) | (k_end; wrow_close) | ((with_reducible refine lshift_int_small ?_ ?_ ?_ ?_); (· omega); (· omega); (· assumption)) | ((fail_if_success (fail_if_success (with_reducible show wpAny _ _ (exec _ _) _ _ _))); k_fold) | ((fail_if_success (fail_if_success (with_reducible show wpAny _ _ (execs (_ :: _) _) _ _ (Shared.mk _ _ _ (HAdd.hAdd _ _) _)))); refine flat (s := s) rfl rfl rfl (fun _ => ?_)) | ((fail_if_success (with_reducible show RevRest _ _ _ _ _ _ _ _ _ _ _ _ _ _ _)); (fail_if_success (with_reducible show UnrEnd _ _ _ _ _ _ _)); first | walk1 | (dsimp only; walk1) | (leave1; walk_say "STEP leave1"; try dsimp only)) | fail "no step"))
  rename (D9 < _ ∧ AllLt _ fx) => la
  rename (_ < _ ∧ D9 < _ ∧ AllLt _ fx) => lb
  have lfx := ktn_ltOf la.2
  have hDq := la.1
  k_dflt (refine' iter_revUnr (vs := ar9) (n := k9) ?a1 ?F ?N ?of ?m ?c ?d ?_; (case a1 => exact rfl); (case F => k_asm); (case N => k_asm); (case of => exact ⟨.inl (Nat.ne_of_lt lb.1), .inl (Nat.ne_of_lt lb.2.1), offI_of (ktn_ltOf lb.2.2)⟩); (case m => exact List.Mem.tail _ (List.Mem.head _)); (case c => exact rfl); (case d => exact rfl))
  k_dflt (refine' dm_loop b (Builtin.Int.intBits b) (ints_rev hI9) hdm ?hl ?hm ?turn ?done; (case hl => (rw [List.length_reverse]; exact i2dF_len' hK0 hK8)); (case hm => exact rfl))
  case turn =>
    intro d td vs' ns' qs r tr cs k u1 u2 h1 h2 h3 h4 h5 it h tk hit F' N'
    have h3' := h3
    unfold dmOk at h3'
    simp only [Bool.and_eq_true, decide_eq_true_eq] at h3'
    have h30 := h3'.1.1
    have h31 := h3'.1.2
    have hcz : cs.size ≤ sizeLine := by
      have hq := h2.length
      rw [Array.length_toList] at hq
      show _ ≤ 2 ^ 24
      omega
    refine abs1 fun P9 hP9 => ?_
    (try k_fold)
    (repeat' (first | (k_unfold; (try dsimp only)) | (k_end; wrow_close) | ((with_reducible refine lshift_int_small ?_ ?_ ?_ ?_); (· omega); (· omega); (· assumption)) | ((fail_if_success (fail_if_success (with_reducible show wpAny _ _ (exec _ _) _ _ _))); k_fold) | ((fail_if_success (fail_if_success (with_reducible show wpAny _ _ (execs (_ :: _) _) _ _ (Shared.mk _ _ _ (HAdd.hAdd _ _) _)))); refine flat (s := s) rfl rfl rfl (fun _ => ?_)) | ((fail_if_success (with_reducible show RevRest _ _ _ _ _ _ _ _ _ _ _ _ _ _ _)); (fail_if_success (with_reducible show UnrEnd _ _ _ _ _ _ _)); first | walk1 | (dsimp only; walk1) | (leave1; walk_say "STEP leave1"; try dsimp only)) | fail "no step"))
    simp only [Int.toNat_natCast]
    k_dflt (refine' Ctr.use0 (div21 _ _ _ _ _ _ b _ _ _ _ (by omega) h31 (by omega) (hpy _)) ?k1 ?k2 ?k3 ?k4 ?k5 ?kK ?kd ?ku ?x1 ?x2 trivial ?_; (case k1 => k_asm); (case k2 => k_asm); (case k3 => k_asm); (case k4 => k_asm); (case k5 => k_asm); (case kK => first | exact rfl | assumption); (case kd => ktr_room); (case ku => ktr_units); (case x1 => assumption); (case x2 => assumption); k_whole)
    rintro r8 led8 h8 tk8 F8 N8 A8 K8 ⟨D8, t8, u8, rfl, rfl⟩
    simp only [List.cons_append, List.nil_append] at N8
    simp only [Apart, AllNe, List.not_mem_nil, not_false_eq_true, forall_const, and_true] at A8
    (try dsimp only)
    (try k_fold)
    (repeat' (first | (k_unfold; (try dsimp only)) | (k_end; wrow_close) | ((with_reducible refine lshift_int_small ?_ ?_ ?_ ?_); (· omega); (· omega); (· assumption)) | ((fail_if_success (fail_if_success (with_reducible show wpAny _ _ (exec _ _) _ _ _))); k_fold) | ((fail_if_success (fail_if_success (with_reducible show wpAny _ _ (execs (_ :: _) _) _ _ (Shared.mk _ _ _ (HAdd.hAdd _ _) _)))); refine flat (s := s) rfl rfl rfl (fun _ => ?_)) | ((fail_if_success (with_reducible show RevRest _ _ _ _ _ _ _ _ _ _ _ _ _ _ _)); (fail_if_success (with_reducible show UnrEnd _ _ _ _ _ _ _)); first | walk1 | (dsimp only; walk1) | (leave1; walk_say "STEP leave1"; try dsimp only)) | fail "no step"))
    refine hP9 _ _ ?_
    (repeat' (first | (k_unfold; (try dsimp only)) | (k_end; wrow_close) | ((with_reducible refine lshift_int_small ?_ ?_ ?_ ?_); (· omega); (· omega); (· assumption)) | ((fail_if_success (fail_if_success (with_reducible show wpAny _ _ (exec _ _) _ _ _))); k_fold) | ((fail_if_success (fail_if_success (with_reducible show wpAny _ _ (execs (_ :: _) _) _ _ (Shared.mk _ _ _ (HAdd.hAdd _ _) _)))); refine flat (s := s) rfl rfl rfl (fun _ => ?_)) | ((fail_if_success (with_reducible show RevRest _ _ _ _ _ _ _ _ _ _ _ _ _ _ _)); (fail_if_success (with_reducible show UnrEnd _ _ _ _ _ _ _)); first | walk1 | (dsimp only; walk1) | (leave1; walk_say "STEP leave1"; try dsimp only)) | fail "no step"))
    exact dm_end (by k_asm) (by k_asm) (by k_mem) (fun p hp => List.Mem.tail _ (List.Mem.tail _ hp)) (List.forall_mem_cons.mpr ⟨Nat.ne_of_lt lb.1, List.forall_mem_cons.mpr ⟨Nat.ne_of_lt lb.2.1, fun p hp => Nat.ne_of_lt (ktn_ltOf lb.2.2 p hp)⟩⟩) h1 h2 h3 h4 h5
  case done =>
    intro r tr cs k u1 u2 h1 h2 h3 h tk F' N'
    (try k_fold)
    (repeat' (first | (k_unfold; (try dsimp only)) | (k_end; wrow_close) | ((with_reducible refine lshift_int_small ?_ ?_ ?_ ?_); (· omega); (· omega); (· assumption)) | ((fail_if_success (fail_if_success (with_reducible show wpAny _ _ (exec _ _) _ _ _))); k_fold) | ((fail_if_success (fail_if_success (with_reducible show wpAny _ _ (execs (_ :: _) _) _ _ (Shared.mk _ _ _ (HAdd.hAdd _ _) _)))); refine flat (s := s) rfl rfl rfl (fun _ => ?_)) | ((fail_if_success (with_reducible show RevRest _ _ _ _ _ _ _ _ _ _ _ _ _ _ _)); (fail_if_success (with_reducible show UnrEnd _ _ _ _ _ _ _)); first | walk1 | (dsimp only; walk1) | (leave1; walk_say "STEP leave1"; try dsimp only)) | fail "no step"))
    dsimp only
    k_dflt (refine' kl_reverse (l := cs.toList.reverse) ?F ?N rfl ?U ?z ?_; (case F => k_asm); (case N => k_asm); (case U => exact Upd.head (List.forall_mem_cons.mpr ⟨Nat.ne_of_lt hDq, fun p hp => Nat.ne_of_lt (lfx p hp)⟩)); (case z => (rw [h1.length]; show _ ≤ 2 ^ 24; omega)); k_whole)
    intro h8 F8 N8
    (try dsimp only)
    (try k_fold)
    (repeat' (first | (k_unfold; (try dsimp only)) | (k_end; wrow_close) | ((with_reducible refine lshift_int_small ?_ ?_ ?_ ?_); (· omega); (· omega); (· assumption)) | ((fail_if_success (fail_if_success (with_reducible show wpAny _ _ (exec _ _) _ _ _))); k_fold) | ((fail_if_success (fail_if_success (with_reducible show wpAny _ _ (execs (_ :: _) _) _ _ (Shared.mk _ _ _ (HAdd.hAdd _ _) _)))); refine flat (s := s) rfl rfl rfl (fun _ => ?_)) | ((fail_if_success (with_reducible show RevRest _ _ _ _ _ _ _ _ _ _ _ _ _ _ _)); (fail_if_success (with_reducible show UnrEnd _ _ _ _ _ _ _)); first | walk1 | (dsimp only; walk1) | (leave1; walk_say "STEP leave1"; try dsimp only)) | fail "no step"))
    rename News _ _ _ ((_, W.listOf cs.toList.reverse.toArray k) :: _) => N7
    k_dflt (refine' Ctr.use (rest := (30, tabObj pt9) :: ct9) (d2i _ _ _ _ _ _ _ (qdF x b).1.reverse (Builtin.Int.intBits b) _ ps cd hT (ints_rev h1) (by omega) ?b1 hB) ?j1 ?j2 ?j3 ?j4 ?j5 ?jK ?js ?jr ?jo ?jd ?ju ?y1 ?y2 ?jP ?_; (case b1 => (rw [List.length_reverse]; exact h3)); (case j1 => k_asm); (case j2 => k_asm); (case j3 => k_asm); (case j4 => exact N7); (case j5 => k_asm); (case jK => first | exact rfl | assumption); (case js => exact fun p hp => List.Mem.tail _ (List.Mem.tail _ (hfd p hp))); (case jr => exact fun p hp => List.Mem.tail _ (List.Mem.tail _ (hfi p hp))); (case jo => exact tabs_off N7 (fun p hp => List.Mem.tail _ (List.Mem.tail _ (hfi p hp))) (fun p hp => List.Mem.tail _ (List.Mem.tail _ (hfd p hp))) hU9 hT (Ne.symm p37) (Ne.symm qDI)); (case jd => ktr_room); (case ju => ktr_units); (case y1 => assumption); (case y2 => assumption); (case jP => exact ⟨⟨_, News.get N7 (List.Mem.head _), rfl, _, rfl⟩, off_tab N7 (fun p hp => List.Mem.tail _ (List.Mem.tail _ (hfd p hp))) hT (List.Mem.head _) (fun vs h => nomatch h)⟩); k_whole)
    rintro r6 led6 h6 tk6 F6 N6 A6 K6 ⟨ps6, cd6, t6, rfl, hT6, rfl⟩
    (try dsimp only)
    (try k_fold)
    (repeat' (first | (k_unfold; (try dsimp only)) | (k_end; wrow_close) | ((with_reducible refine lshift_int_small ?_ ?_ ?_ ?_); (· omega); (· omega); (· assumption)) | ((fail_if_success (fail_if_success (with_reducible show wpAny _ _ (exec _ _) _ _ _))); k_fold) | ((fail_if_success (fail_if_success (with_reducible show wpAny _ _ (execs (_ :: _) _) _ _ (Shared.mk _ _ _ (HAdd.hAdd _ _) _)))); refine flat (s := s) rfl rfl rfl (fun _ => ?_)) | ((fail_if_success (with_reducible show RevRest _ _ _ _ _ _ _ _ _ _ _ _ _ _ _)); (fail_if_success (with_reducible show UnrEnd _ _ _ _ _ _ _)); first | walk1 | (dsimp only; walk1) | (leave1; walk_say "STEP leave1"; try dsimp only)) | fail "no step"))
    subst h2
    exact ctr_end (led' := (_, _) :: led2 ps6 cd6 pt9 ct9) hret kG9 (by k_asm) (by k_asm) (by k_asm) (by k_asm) (List.forall_mem_cons.mpr ⟨List.Mem.head _, fun p hp => List.Mem.tail _ (led2_sub p hp)⟩) ⟨_, _, _, _, _, _, _, rfl, rfl, hT6, hU9⟩
theorem idivmod (w : World) (loose mean mg mb) (x b : Int) (tx tb : Tok) (ps : Array Value) (cd : List (Addr × Obj)) (pt : Array Value) (ct : List (Addr × Obj)) (hT : TabOk 47 4 qD ps cd) (hU : TabOk 32 4 qI pt ct)
    (hx0 : 0 ≤ x) (hx : x < 2 ^ 64) (hb0 : 0 < b) (hb : b < 2 ^ 64) (hK8 : ndF x (Builtin.Int.intBits b) ≤ 8) (hK0 : x ≠ 0 → 0 < ndF x (Builtin.Int.intBits b)) (hKB : okB (Builtin.Int.intBits b) 8 0 (ndF x (Builtin.Int.intBits b)) x = true) (hn0 : 0 < Builtin.Int.intBits b) (hdm : dmOk b (Builtin.Int.intBits b) (i2dF x (Builtin.Int.intBits b)).reverse 0 = true) (hpy : ∀ y, Builtin.divisionGoesByPylong y b = false) (hB : ∀ l r, l < r → r ≤ (qdF x b).1.reverse.length → (dF (qdF x b).1.reverse (Builtin.Int.intBits b) 8 l r).natAbs < 2 ^ 64) :
    Ctr w loose mean mg mb 56 [.int x tx, .int b tb] 16 (led2 ps cd pt ct) (fun _ => True) (fun r led => ∃ D t u ps' cd' pt' ct', r = .ref D ∧ led = (D, { cls := .type "tuple", data := .seq #[.int (quoF x b) t, .int (qdF x b).2 u] }) :: led2 ps' cd' pt' ct' ∧ TabOk 47 4 qD ps' cd' ∧ TabOk 32 4 qI pt' ct') := by
  unfold Ctr
  w_top off
  k_fill
  intro dp un gd cn cs a ccd cl outer A₀ base h₀ L m s Q E B F X N T hk hd hu c1 c2 hP hret
  refine wpAny_call ?_
  k_dflt ((refine' code_defG ?en_k1 ?en_k2 ?en_k3 ?en_k4 ?en_k5 ?en_kA ?en_kF ?en_kK ?en_k6 ?en_k7 ?en_k8 ?en_k9 ?en_kB ?_ ?en_c2 ?en_c3 ?en_c4 ?en_c5; (case en_kA => exact rfl); (case en_kF => exact rfl); (case en_kK => assumption); (case en_k1 => k_asm); (case en_k2 => k_asm); (case en_k3 => k_asm); (case en_k4 => k_asm); (case en_k5 => k_asm); (case en_k6 => k_is); (case en_k7 => k_is); (case en_k8 => ktr_room); (case en_k9 => exact BindsTo.of_eq rfl); (case en_c5 => decide); (case en_kB => exact locs rfl); (case en_c2 => exact rfl); (case en_c3 => exact rfl); (case en_c4 => exact rfl); k_whole; intro g' L' h' FG' F' N' B' X' T' kG'; (try dsimp only); (try k_lift B'); (try k_fold)))
  rename GSub _ _ _ => kG9
  (repeat' (first | (k_unfold; (try dsimp only)) | (k_end; wrow_close) | ((with_reducible refine lshift_int_small ?_ ?_ ?_ ?_); (· omega); (· omega); (· assumption)) | ((fail_if_success (fail_if_success (with_reducible show wpAny _ _ (exec _ _) _ _ _))); k_fold) | ((fail_if_success (fail_if_success (with_reducible show wpAny _ _ (execs (_ :: _) _) _ _ (Shared.mk _ _ _ (HAdd.hAdd _ _) _)))); refine flat (s := s) rfl rfl rfl (fun _ => ?_)) | ((fail_if_success (with_reducible show RevRest _ _ _ _ _ _ _ _ _ _ _ _ _ _ _)); (fail_if_success (with_reducible show UnrEnd _ _ _ _ _ _ _)); first | walk1 | (dsimp only; walk1) | (leave1; walk_say "STEP leave1"; try dsimp only)) | fail "no step"))
  all_goals first | (exfalso; omega) | skip
  k_dflt (refine' Ctr.all (dmpos _ _ _ _ _ x b _ _ ps cd pt ct hT hU hx0 hx hb0 hb hK8 hK0 hKB hn0 hdm hpy hB) ?k1 ?k2 ?k3 ?k4 ?k5 ?kK ?kd ?ku ?x1 ?x2 trivial ?_; (case k1 => k_asm); (case k2 => k_asm); (case k3 => k_asm); (case k4 => k_asm); (case k5 => k_asm); (case kK => first | exact rfl | assumption); (case kd => ktr_room); (case ku => ktr_units); (case x1 => assumption); (case x2 => assumption); k_whole)
  rintro r6 led6 h6 tk6 F6 N6 ⟨D6, t6, u6, ps6, cd6, pt6, ct6, rfl, rfl, hT6, hU6⟩
  (try dsimp only)
  (try k_fold)
  (repeat' (first | (k_unfold; (try dsimp only)) | (k_end; wrow_close) | ((with_reducible refine lshift_int_small ?_ ?_ ?_ ?_); (· omega); (· omega); (· assumption)) | ((fail_if_success (fail_if_success (with_reducible show wpAny _ _ (exec _ _) _ _ _))); k_fold) | ((fail_if_success (fail_if_success (with_reducible show wpAny _ _ (execs (_ :: _) _) _ _ (Shared.mk _ _ _ (HAdd.hAdd _ _) _)))); refine flat (s := s) rfl rfl rfl (fun _ => ?_)) | ((fail_if_success (with_reducible show RevRest _ _ _ _ _ _ _ _ _ _ _ _ _ _ _)); (fail_if_success (with_reducible show UnrEnd _ _ _ _ _ _ _)); first | walk1 | (dsimp only; walk1) | (leave1; walk_say "STEP leave1"; try dsimp only)) | fail "no step"))
  exact ctr_end hret kG9 (by k_asm) (by k_asm) (by k_asm) (by k_asm) (fun _ h => h) ⟨_, _, _, _, _, _, _, rfl, rfl, hT6, hU6⟩
end Mine
end
section
open PySem PySem.W PyProof.Rows PySem.Calls PySem.Spec
open PySem.Builtin PySem.Builtin.Str
set_option maxHeartbeats 0
set_option pp.deepTerms false
namespace Mine
theorem readoff (w : World) (loose mean mg mb) (b : Int) (tb : Tok) (ca : Addr) (vs : List Value) (ns : List Int) (ps : Array Value) (cd : List (Addr × Obj)) (pt : Array Value) (ct : List (Addr × Obj)) (hT : TabOk 47 4 qD ps cd) (hU : TabOk 32 4 qI pt ct)
    (hb0 : 0 < b) (hb : b < 2 ^ 64) (hK8 : ndF (256 ^ 6) (Builtin.Int.intBits b) ≤ 8) (hK0 : (256 ^ 6 : Int) ≠ 0 → 0 < ndF (256 ^ 6) (Builtin.Int.intBits b)) (hKB : okB (Builtin.Int.intBits b) 8 0 (ndF (256 ^ 6) (Builtin.Int.intBits b)) (256 ^ 6) = true) (hn0 : 0 < Builtin.Int.intBits b) (hdm : dmOk b (Builtin.Int.intBits b) (i2dF (256 ^ 6) (Builtin.Int.intBits b)).reverse 0 = true) (hpy : ∀ y, Builtin.divisionGoesByPylong y b = false) (hB : ∀ l r, l < r → r ≤ (qdF (256 ^ 6) b).1.reverse.length → (dF (qdF (256 ^ 6) b).1.reverse (Builtin.Int.intBits b) 8 l r).natAbs < 2 ^ 64)
    (q e : Int) (hq : quoF (256 ^ 6) b = q) (he : (qdF (256 ^ 6) b).2 = e) (hqe : q * b + e = 256 ^ 6) (he0 : 0 ≤ e) (heb : e < b) (hq0 : 0 ≤ q) (hq1 : q < 2 ^ 64) (hL8 : ndF q 8 ≤ 8) (hL0 : q ≠ 0 → 0 < ndF q 8) (hLB : okB 8 8 0 (ndF q 8) q = true) (h6 : (i2dF q 8).length ≤ 6) (hfig : (i2dF q 8) ++ List.replicate (6 - (i2dF q 8).length) 0 = ns.reverse) (hI : IntsAre vs ns) (hl : ns.length = 6) :
    Ctr w loose mean mg mb 120 [.int b tb, .ref ca] 18 (led2 ps cd pt ct) (fun h => h.IsList ca vs.toArray ∧ ca ∉ (led2 ps cd pt ct).map (·.1)) (fun r led => ∃ ps' cd' pt' ct', r = .bool true ∧ led = led2 ps' cd' pt' ct' ∧ TabOk 47 4 qD ps' cd' ∧ TabOk 32 4 qI pt' ct') := by
  unfold Ctr
  w_top off
  k_fill
  intro dp un gd cn cs a ccd cl outer A₀ base h₀ L m s Q E B F X N T hk hd hu c1 c2 hP hret
  obtain ⟨hP1, hP2⟩ := hP
  refine wpAny_call ?_
  k_dflt ((refine' code_defG ?en_k1 ?en_k2 ?en_k3 ?en_k4 ?en_k5 ?en_kA ?en_kF ?en_kK ?en_k6 ?en_k7 ?en_k8 ?en_k9 ?en_kB ?_ ?en_c2 ?en_c3 ?en_c4 ?en_c5; (case en_kA => exact rfl); (case en_kF => exact rfl); (case en_kK => assumption); (case en_k1 => k_asm); (case en_k2 => k_asm); (case en_k3 => k_asm); (case en_k4 => k_asm); (case en_k5 => k_asm); (case en_k6 => k_is); (case en_k7 => k_is); (case en_k8 => ktr_room); (case en_k9 => exact BindsTo.of_eq rfl); (case en_c5 => decide); (case en_kB => exact locs rfl); (case en_c2 => exact rfl); (case en_c3 => exact rfl); (case en_c4 => exact rfl); k_whole; intro g' L' h' FG' F' N' B' X' T' kG'; (try dsimp only); (try k_lift B'); (try k_fold)))
  rename GSub _ _ _ => kG9
  (repeat' (first | (k_unfold; (try dsimp only)) | (k_end; wrow_close) | ((fail_if_success (fail_if_success (with_reducible show wpAny _ _ (exec _ _) _ _ _))); k_fold) | ((fail_if_success (fail_if_success (with_reducible show wpAny _ _ (execs (_ :: _) _) _ _ (Shared.mk _ _ _ (HAdd.hAdd _ _) _)))); refine flat (s := s) rfl rfl rfl (fun _ => ?_)) | walk1 | (dsimp only; walk1) | (leave1; walk_say "STEP leave1"; try dsimp only) | fail "no step"))
  rw [show Int.toNat 6 = 6 from rfl]
  have hg := hP1.at fun o e => kG9 _ o e hP2
  k_dflt (refine' Ctr.all (idivmod _ _ _ _ _ (256 ^ 6) b _ _ ps cd pt ct hT hU (by decide) (by decide) hb0 hb hK8 hK0 hKB hn0 hdm hpy hB) ?k1 ?k2 ?k3 ?k4 ?k5 ?kK ?kd ?ku ?x1 ?x2 trivial ?_; (case k1 => k_asm); (case k2 => k_asm); (case k3 => k_asm); (case k4 => k_asm); (case k5 => k_asm); (case kK => first | exact rfl | assumption); (case kd => ktr_room); (case ku => ktr_units); (case x1 => assumption); (case x2 => assumption); k_whole)
  rintro r9 led9 h9 tk9 F9 N9 ⟨D9, t9, u9, ps9, cd9, pt9, ct9, rfl, rfl, hT9, hU9⟩
  rw [hq, he] at N9
  (try dsimp only)
  (try k_fold)
  (repeat' (first | (k_unfold; (try dsimp only)) | (k_end; wrow_close) | ((fail_if_success (fail_if_success (with_reducible show wpAny _ _ (exec _ _) _ _ _))); k_fold) | ((fail_if_success (fail_if_success (with_reducible show wpAny _ _ (execs (_ :: _) _) _ _ (Shared.mk _ _ _ (HAdd.hAdd _ _) _)))); refine flat (s := s) rfl rfl rfl (fun _ => ?_)) | walk1 | (dsimp only; walk1) | (leave1; walk_say "STEP leave1"; try dsimp only) | fail "no step"))
  · exact absurd hqe ‹q * b + e ≠ _›
  rename News _ _ _ (_ :: led2 ps9 cd9 pt9 ct9) => N5
  have N6 : News _ _ _ (led2 ps9 cd9 pt9 ct9) := fun p hp => N5 p (List.Mem.tail _ hp)
  clear N5
  k_dflt (refine' Ctr.use (rest := (37, tabObj ps9) :: cd9) (i2d _ _ _ _ _ q 8 _ _ pt9 ct9 hU9 (by decide) (by decide) hq0 hq1 hL8 hL0 hLB) ?j1 ?j2 ?j3 ?j4 ?j5 ?jK ?js ?jr ?jo ?jd ?ju ?y1 ?y2 trivial ?_; (case j1 => k_asm); (case j2 => k_asm); (case j3 => k_asm); (case j4 => exact N6); (case j5 => k_asm); (case jK => first | exact rfl | assumption); (case js => exact led2_i); (case jr => exact led2_d); (case jo => exact tabs_off N6 led2_d led2_i hT9 hU9 p37 qDI); (case jd => ktr_room); (case ju => ktr_units); (case y1 => assumption); (case y2 => assumption); k_whole)
  rintro r8 led8 h8 tk8 F8 N8 A8 K8 ⟨D8, ar8, k8, pt8, ct8, rfl, rfl, hU8, hI8⟩
  have N8' : News _ _ _ ((D8, W.listOf ar8.toArray k8) :: led2 ps9 cd9 pt8 ct8) := fun p hp => N8 p (by
    rcases List.mem_cons.mp hp with h | h
    · exact h ▸ List.mem_append.mpr (.inl (List.Mem.head _))
    · have := led2_sub p h
      rcases List.mem_append.mp this with h | h
      · exact List.mem_append.mpr (.inr h)
      · exact List.mem_append.mpr (.inl (List.Mem.tail _ h)))
  clear N8 N6
  have h6' := h6
  (try dsimp only)
  (try k_fold)
  (repeat' (first | (k_unfold; (try dsimp only)) | (k_end; wrow_close) | ((fail_if_success (fail_if_success (with_reducible show wpAny _ _ (exec _ _) _ _ _))); k_fold) | ((fail_if_success (fail_if_success (with_reducible show wpAny _ _ (execs (_ :: _) _) _ _ (Shared.mk _ _ _ (HAdd.hAdd _ _) _)))); refine flat (s := s) rfl rfl rfl (fun _ => ?_)) | walk1 | (dsimp only; walk1) | (leave1; walk_say "STEP leave1"; try dsimp only) | fail "no step"))
  have efl : ∀ n, (List.replicate n [(0 : Int)]).flatten = List.replicate n 0 := fun n => by
    induction n with
    | zero => rfl
    | succ n ih => rw [List.replicate_succ, List.flatten_cons, ih]; rfl
  have hfin : i2dF q 8 ++ (List.replicate (6 - ↑(i2dF q 8).length : Int).toNat [0]).flatten = ns.reverse := by
    rw [efl, ← hfig, show (6 - ((i2dF q 8).length : Int)).toNat = 6 - (i2dF q 8).length by omega]
  exact ctr_end (led' := led2 ps9 cd9 pt8 ct8) hret kG9 (by k_asm) (by k_asm) (by k_asm) (by k_asm) (fun p hp => by repeat (first | exact hp | refine List.Mem.tail _ ?_)) ⟨_, _, _, _, congrArg Value.bool (decide_eq_true hfin), rfl, hT9, hU8⟩
end Mine
end
section
open PySem PySem.W PyProof.Rows PySem.Calls PySem.Spec
open PySem.Builtin PySem.Builtin.Str
set_option maxHeartbeats 0
set_option pp.deepTerms false
namespace Mine
open PyProof.Rows.LCg
section
variable {prog : Program} {w : World} {A : Around} {E : Value → Shared → Prop} {s : Shared} {env : Env} {h₀ : Heap} {target : Expr} {body : List Stmt} {Q : Flow → Shared → Prop}
theorem iter_listB {ax : Addr} {vs : List Value} {m₀ : PySem.Str → Option Value} {news : List (Addr × Obj)}
    (hh : A.handled = none) (F : Fr h₀ env.locals s.heap m₀) (N : News h₀ env.locals s.heap news) (hl₀ : h₀.IsList ax vs.toArray)
    (rest₀ : ∀ I : Addr, (∀ p ∈ news, p.1 < I) → ItemsRest prog w A E h₀ env target body Q s [(I, "list_iterator")] [] (vs.map .val) m₀ news) :
    wpAny (model prog w) A (pyIter (.ref ax)) (fun it s₂ => TurnsAt prog w A h₀ env target body Q E it s₂) E s := by
  obtain ⟨lo, hg, hc, n, hd⟩ := hl₀
  have hax : s.heap.get? ax = some lo := F.keep _ _ hg
  have hl : s.heap.IsList ax vs.toArray := ⟨lo, hax, hc, n, hd⟩
  have hlt : ax < s.heap.objs.size := Heap.lt_size hax
  have hne : ax ≠ s.heap.objs.size := Nat.ne_of_lt hlt
  refine wpAny_pyIter_list hl ?_
  refine ktg_core (tk0 := s.toks) (keep := []) (KTurns.ofWalks (Walks.list hh s.heap.objs.size ax hne vs.toArray) fun i v s Q E st q => letGo_listiter st.1 q) (by simp) (fun i v h hp => ⟨.val v, ?_, rfl⟩) (fun i h st => ?_) (fun b hb => ?_) (fun b hb => by simpa using hb) (fun b hb => ?_) ?_ (fun p hp hI => ?_) ?_ (F.push _) (fun p hp => ⟨Heap.get?_push_of_some _ (N p hp).1, (N p hp).2⟩) trivial (rest₀ _ fun p hp => Heap.lt_size (N p hp).1)
  · have hp' : vs.toArray[i]? = some v := hp
    simpa using hp'
  · obtain ⟨it, hit, hic, _⟩ := st.1
    exact ⟨[(s.heap.objs.size, it)], ⟨⟨rfl, hic⟩, trivial⟩, fun p hp => by rw [List.mem_singleton.mp hp]; exact hit⟩
  · have hb' : b = s.heap.objs.size := by simpa using hb
    rw [hb']
    exact ⟨List.mem_cons_self .., next_is_new F⟩
  · have hb' : b = s.heap.objs.size ∨ b = ax := by simpa using hb
    rcases hb' with e | e
    · exact .inl (by simp [e])
    · exact .inr (.inr ⟨lo, by rw [e]; exact hg⟩)
  · intro hI
    rcases List.mem_cons.mp hI with e | hI
    · exact absurd F.ns.lt (e ▸ Nat.lt_irrefl _)
    · have e : env.locals = ax := List.mem_singleton.mp hI
      exact absurd (Heap.lt_size hg) (Nat.not_lt.mpr (e ▸ F.above))
  · exact absurd (Heap.lt_size (N p hp).1) ((List.mem_singleton.mp hI) ▸ Nat.lt_irrefl _)
  · exact ⟨⟨_, Heap.get?_push_size _ rfl, rfl, rfl⟩, hl.at fun o e => Heap.get?_push_of_some _ e⟩
end
/-- what an object's dict holds -/
noncomputable abbrev selObj (w : World) (sl : Addr) (t : Tok) : Obj := dictOf [{ hash := PyData.keyHash w.params (PySem.Str.ofString "comp_select_list"), key := Value.str (PySem.Str.ofString "comp_select_list") t, val := Value.ref sl }] 1
noncomputable abbrev tupObj (a : Int) (t : Tok) (b : Int) (u : Tok) : Obj := { cls := .type "tuple", data := .seq #[.int a t, .int b u] }
/-- the refs of pairs -/
inductive SelAt (h : Heap) : List Value → List (Int × Int) → Prop
  | nil : SelAt h [] []
  | cons {T a t b u ys sel} : h.get? T = some (tupObj a t b u) → SelAt h ys sel → SelAt h (.ref T :: ys) ((a, b) :: sel)
noncomputable def cmpF (ls rs : List Int) : List (Int × Int) → Int
  | [] => 0
  | (i, d) :: sel => if ls.getD i.toNat 0 < rs.getD i.toNat 0 then -d else if ls.getD i.toNat 0 > rs.getD i.toNat 0 then d else cmpF ls rs sel
theorem off_inst {h : Heap} {x d b : Addr} {o : Obj} {w : World} {sl : Addr} {t : Tok} (N1 : h.get? x = some (instObj 87 d)) (N2 : h.get? d = some (selObj w sl t)) (e : h.get? b = some o) (hc : ∃ n, o.cls = .type n ∧ n ≠ "dict") : b ∉ List.map (fun p : Addr × Obj => p.1) [(x, instObj 87 d), (d, selObj w sl t)] := fun hm => by
  obtain ⟨n, hc, hn⟩ := hc
  rcases List.mem_cons.mp hm with rfl | hm
  · have e1 : instObj 87 d = o := Option.some.inj (N1.symm.trans e)
    rw [← e1] at hc
    exact nomatch hc
  · rw [List.map_cons, List.map_nil, List.mem_singleton] at hm
    subst hm
    have e1 : selObj w sl t = o := Option.some.inj (N2.symm.trans e)
    rw [← e1] at hc
    exact hn (by injection hc with hc; exact hc.symm)
theorem SelAt.mono {h g : Heap} {ys : List Value} {sel : List (Int × Int)} (S : SelAt h ys sel) (k : ∀ b o, h.get? b = some o → (∃ n, o.cls = .type n ∧ n ≠ "dict") → g.get? b = some o) : SelAt g ys sel := by
  induction S with
  | nil => exact .nil
  | cons e _ ih => exact .cons (k _ _ e ⟨_, rfl, by decide⟩) ih
theorem list_off {h g : Heap} {a : Addr} {its : Array Value} (H : h.IsList a its) (k : ∀ b o, h.get? b = some o → (∃ n, o.cls = .type n ∧ n ≠ "dict") → g.get? b = some o) : g.IsList a its := by
  obtain ⟨o, e, c, r⟩ := H
  exact ⟨o, k _ _ e ⟨_, c, by decide⟩, c, r⟩
noncomputable abbrev cmpSt : List PySem.Str := [PySem.Str.ofString "index", PySem.Str.ofString "direction", PySem.Str.ofString "l", PySem.Str.ofString "r"]
noncomputable def CmpJ (g : Heap) (nl nr : List Int) (sel : List (Int × Int)) (m₀ : PySem.Str → Option Value) (news : List (Addr × Obj)) (xs : List Itm) (m : PySem.Str → Option Value) (nx : List (Addr × Obj)) : Prop :=
  ∃ ys sel', xs = ys.map .val ∧ SelAt g ys sel' ∧ (∀ p ∈ sel', p ∈ sel) ∧ cmpF nl nr sel = cmpF nl nr sel' ∧ nx = news ∧ Agree cmpSt m₀ m
theorem compare (w : World) (loose mean mg mb) (sl x d la ra : Addr) (t : Tok) (ys vl vr : List Value) (sel : List (Int × Int)) (nl nr : List Int) (hl : IntsAre vl nl) (hr : IntsAre vr nr) (hlen : nr.length = nl.length) (hsel : ∀ p ∈ sel, 0 ≤ p.1 ∧ p.1 < nl.length) (hn : nl.length ≤ 20) :
    Ctr w loose mean mg mb 84 [.ref x, .ref la, .ref ra] 4 [(x, instObj 87 d), (d, selObj w sl t)] (fun h => h.IsList sl ys.toArray ∧ SelAt h ys sel ∧ h.IsList la vl.toArray ∧ h.IsList ra vr.toArray) (fun r led => (∃ t', r = .int (cmpF nl nr sel) t') ∧ led = [(x, instObj 87 d), (d, selObj w sl t)]) := by
  unfold Ctr
  w_top off
  k_fill
  intro dp un gd cn cs a ccd cl outer A₀ base h₀ L m s Q E B F X N T hk hd hu c1 c2 hP hret
  obtain ⟨hP1, hP2, hP3, hP4⟩ := hP
  have N1 := (N _ (List.Mem.head _)).1
  have N2 := (N _ (List.Mem.tail _ (List.Mem.head _))).1
  refine wpAny_call ?_
  k_dflt ((refine' code_defG ?en_k1 ?en_k2 ?en_k3 ?en_k4 ?en_k5 ?en_kA ?en_kF ?en_kK ?en_k6 ?en_k7 ?en_k8 ?en_k9 ?en_kB ?_ ?en_c2 ?en_c3 ?en_c4 ?en_c5; (case en_kA => exact rfl); (case en_kF => exact rfl); (case en_kK => assumption); (case en_k1 => k_asm); (case en_k2 => k_asm); (case en_k3 => k_asm); (case en_k4 => k_asm); (case en_k5 => k_asm); (case en_k6 => k_is); (case en_k7 => k_is); (case en_k8 => ktr_room); (case en_k9 => exact BindsTo.of_eq rfl); (case en_c5 => decide); (case en_kB => exact locs rfl); (case en_c2 => exact rfl); (case en_c3 => exact rfl); (case en_c4 => exact rfl); k_whole; intro g' L' h' FG' F' N' B' X' T' kG'; (try dsimp only); (try k_lift B'); (try k_fold)))
  rename GSub _ _ _ => kG9
  have hk9 := fun b o (e : s.heap.get? b = some o) hc => kG9 b o e (off_inst N1 N2 e hc)
  have hg1 := list_off hP1 hk9
  have hgl := list_off hP3 hk9
  have hgr := list_off hP4 hk9
  have hgs := hP2.mono hk9
  clear N1 N2 hk9 hP1 hP2 hP3 hP4
  (repeat' (first | (k_unfold; (try dsimp only)) | (k_end; wrow_close) | ((fail_if_success (fail_if_success (with_reducible show wpAny _ _ (exec _ _) _ _ _))); k_fold) | ((fail_if_success (fail_if_success (with_reducible show wpAny _ _ (execs (_ :: _) _) _ _ (Shared.mk _ _ _ (HAdd.hAdd _ _) _)))); refine flat (s := s) rfl rfl rfl (fun _ => ?_)) | ((fail_if_success (with_reducible refine RangeRest.succ ?_)); (fail_if_success (with_reducible show LCg.CompSrc _ _ _ _ _ _ _ _ _ _ _ _ _ _)); (fail_if_success (with_reducible show UnrEnd _ _ _ _ _ _ _)); (fail_if_success (with_reducible show wpAny _ _ (pyIter _) _ _ _)); (fail_if_success (with_reducible show wpAny _ _ (eval (Expr.ListComp _ _ _ _) _) _ _ _)); first | walk1 | (dsimp only; walk1) | (leave1; walk_say "STEP leave1"; try dsimp only)) | fail "no step"))
  k_dflt (rename Fr _ _ _ _ => lF'; refine For_turns lF' ?_; k_whole)
  (repeat' (first | (k_unfold; (try dsimp only)) | (k_end; wrow_close) | ((fail_if_success (fail_if_success (with_reducible show wpAny _ _ (exec _ _) _ _ _))); k_fold) | ((fail_if_success (fail_if_success (with_reducible show wpAny _ _ (execs (_ :: _) _) _ _ (Shared.mk _ _ _ (HAdd.hAdd _ _) _)))); refine flat (s := s) rfl rfl rfl (fun _ => ?_)) | ((fail_if_success (with_reducible refine RangeRest.succ ?_)); (fail_if_success (with_reducible show LCg.CompSrc _ _ _ _ _ _ _ _ _ _ _ _ _ _)); (fail_if_success (with_reducible show UnrEnd _ _ _ _ _ _ _)); (fail_if_success (with_reducible show wpAny _ _ (pyIter _) _ _ _)); (fail_if_success (with_reducible show wpAny _ _ (eval (Expr.ListComp _ _ _ _) _) _ _ _)); first | walk1 | (dsimp only; walk1) | (leave1; walk_say "STEP leave1"; try dsimp only)) | fail "no step"))
  k_dflt (refine' iter_listB (vs := ys) ?h ?F ?N ?l ?_; (case h => with_unfolding_all rfl); (case F => k_asm); (case N => k_asm); (case l => assumption); k_whole)
  intro I l1
  refine items_ind (CmpJ _ nl nr sel _ _) ?turn ?done _ _ _ ⟨ys, sel, rfl, hgs, fun _ h => h, rfl, rfl, Agree.refl _ _⟩
  case turn =>
    rintro a9 r9 m9 n9 ⟨ys9, sel9, e9, S9, hs9, hc9, rfl, hA9⟩ v9 h9 tk9 hv9 F9
    cases S9 with
    | nil => exact nomatch e9
    | @cons T9 a t b u ys8 sel8 hT9 S8 =>
    injection e9 with e1 e2
    subst e1 e2
    have hv : v9 = .ref T9 := hv9
    subst hv
    intro o9 ho9 N9
    rw [hA9.map] at F9
    have hb9 := hsel _ (hs9 _ (List.Mem.head _))
    dsimp only at hb9
    (try dsimp only)
    (try k_fold)
    refine abs2 fun P9 hP9 => ?_
    k_dflt (refine' unpackN_ ?uF ?uN ⟨_, Fr.keep ?uG _ _ hT9, rfl, _, rfl⟩ ?u1 ?u2 ?u3 ?_; (case uF => k_asm); (case uN => k_asm); (case uG => k_asm); (case u1 => exact rfl); (case u2 => exact rfl); (case u3 => exact rfl))
    intro h8 F8 N8
    simp only [List.cons_append, List.nil_append] at N8
    (repeat' (first | (k_unfold; (try dsimp only)) | (k_end; wrow_close) | ((fail_if_success (fail_if_success (with_reducible show wpAny _ _ (exec _ _) _ _ _))); k_fold) | ((fail_if_success (fail_if_success (with_reducible show wpAny _ _ (execs (_ :: _) _) _ _ (Shared.mk _ _ _ (HAdd.hAdd _ _) _)))); refine flat (s := s) rfl rfl rfl (fun _ => ?_)) | ((fail_if_success (with_reducible refine RangeRest.succ ?_)); (fail_if_success (with_reducible show LCg.CompSrc _ _ _ _ _ _ _ _ _ _ _ _ _ _)); (fail_if_success (with_reducible show UnrEnd _ _ _ _ _ _ _)); (fail_if_success (with_reducible show wpAny _ _ (pyIter _) _ _ _)); (fail_if_success (with_reducible show wpAny _ _ (eval (Expr.ListComp _ _ _ _) _) _ _ _)); first | walk1 | (dsimp only; walk1) | (leave1; walk_say "STEP leave1"; try dsimp only)) | fail "no step"))
    all_goals refine hP9 _ _ ?_
    all_goals (repeat' (first | (k_unfold; (try dsimp only)) | (k_end; wrow_close) | ((fail_if_success (fail_if_success (with_reducible show wpAny _ _ (exec _ _) _ _ _))); k_fold) | ((fail_if_success (fail_if_success (with_reducible show wpAny _ _ (execs (_ :: _) _) _ _ (Shared.mk _ _ _ (HAdd.hAdd _ _) _)))); refine flat (s := s) rfl rfl rfl (fun _ => ?_)) | ((fail_if_success (with_reducible refine RangeRest.succ ?_)); (fail_if_success (with_reducible show LCg.CompSrc _ _ _ _ _ _ _ _ _ _ _ _ _ _)); (fail_if_success (with_reducible show UnrEnd _ _ _ _ _ _ _)); (fail_if_success (with_reducible show wpAny _ _ (pyIter _) _ _ _)); (fail_if_success (with_reducible show wpAny _ _ (eval (Expr.ListComp _ _ _ _) _) _ _ _)); first | walk1 | (dsimp only; walk1) | (leave1; walk_say "STEP leave1"; try dsimp only)) | fail "no step"))
    · exact ctr_end (led' := [(x, instObj 87 d), _]) hret kG9 (by k_asm) (by k_asm) (by k_asm) (by k_asm) (fun _ hp => List.Mem.tail _ hp) ⟨⟨_, congrArg (fun x => Value.int x _) (by rw [hc9]; unfold cmpF; rw [if_pos (by assumption)])⟩, rfl⟩
    · exact ctr_end (led' := [(x, instObj 87 d), _]) hret kG9 (by k_asm) (by k_asm) (by k_asm) (by k_asm) (fun _ hp => List.Mem.tail _ hp) ⟨⟨_, congrArg (fun x => Value.int x _) (by rw [hc9]; unfold cmpF; rw [if_neg (by assumption), if_pos (by assumption)])⟩, rfl⟩
    · have l2 := l1 _ (List.Mem.head _)
      have l3 := l1 _ (List.Mem.tail _ (List.Mem.head _))
      exact UnrEndW.intro (by k_asm) (by k_asm) [(x, instObj 87 d), _] ⟨List.Mem.head _, trivial⟩ ⟨List.Mem.tail _ (List.Mem.head _), List.Mem.tail _ (List.Mem.tail _ (List.Mem.head _)), trivial⟩ ⟨⟨.inl (Nat.ne_of_lt l2), trivial⟩, ⟨.inl (Nat.ne_of_lt l3), trivial⟩, trivial⟩ ⟨trivial, ys8, sel8, rfl, S8, fun p hp => hs9 p (List.Mem.tail _ hp), (by rw [hc9, cmpF, if_neg (by assumption), if_neg (by assumption)]), rfl, .put rfl (.put rfl (.put rfl (.put rfl .base)))⟩
  case done =>
    rintro m9 n9 ⟨ys9, sel9, e9, S9, hs9, hc9, rfl, hA9⟩ h9 tk9 F9 N9
    cases S9 with
    | cons _ _ => exact nomatch e9
    | nil =>
    (try dsimp only)
    (try k_fold)
    (repeat' (first | (k_unfold; (try dsimp only)) | (k_end; wrow_close) | ((fail_if_success (fail_if_success (with_reducible show wpAny _ _ (exec _ _) _ _ _))); k_fold) | ((fail_if_success (fail_if_success (with_reducible show wpAny _ _ (execs (_ :: _) _) _ _ (Shared.mk _ _ _ (HAdd.hAdd _ _) _)))); refine flat (s := s) rfl rfl rfl (fun _ => ?_)) | ((fail_if_success (with_reducible refine RangeRest.succ ?_)); (fail_if_success (with_reducible show LCg.CompSrc _ _ _ _ _ _ _ _ _ _ _ _ _ _)); (fail_if_success (with_reducible show UnrEnd _ _ _ _ _ _ _)); (fail_if_success (with_reducible show wpAny _ _ (pyIter _) _ _ _)); (fail_if_success (with_reducible show wpAny _ _ (eval (Expr.ListComp _ _ _ _) _) _ _ _)); first | walk1 | (dsimp only; walk1) | (leave1; walk_say "STEP leave1"; try dsimp only)) | fail "no step"))
    exact ctr_end hret kG9 (by k_asm) (by k_asm) (by k_asm) (by k_asm) (fun _ h => h) ⟨⟨_, congrArg (fun x => Value.int x _) hc9.symm⟩, rfl⟩
end Mine
end
section
open PySem PySem.W PyProof.Rows PySem.Calls PySem.Spec
open PySem.Builtin PySem.Builtin.Str
set_option maxHeartbeats 0
set_option pp.deepTerms false
namespace Mine
open PyProof.Rows.LCg
/-- the refs of pairs that lie in a ledger -/
inductive SelIn (nx : List (Addr × Obj)) : List Value → List (Int × Int) → Prop
  | nil : SelIn nx [] []
  | cons {T a t b u ys sel} : (T, tupObj a t b u) ∈ nx → SelIn nx ys sel → SelIn nx (.ref T :: ys) ((a, b) :: sel)
theorem SelIn.mono {nx ny : List (Addr × Obj)} {ys : List Value} {sel : List (Int × Int)} (S : SelIn nx ys sel) (k : ∀ p ∈ nx, p ∈ ny) : SelIn ny ys sel := by
  induction S with
  | nil => exact .nil
  | cons e _ ih => exact .cons (k _ e) ih
theorem SelIn.snoc {nx : List (Addr × Obj)} {ys : List Value} {sel : List (Int × Int)} {T : Addr} {a b : Int} {t u : Tok} (S : SelIn nx ys sel) (h : (T, tupObj a t b u) ∈ nx) : SelIn nx (ys ++ [.ref T]) (sel ++ [(a, b)]) := by
  induction S with
  | nil => exact .cons h .nil
  | cons e _ ih => exact .cons e ih
theorem SelIn.at {nx : List (Addr × Obj)} {ys : List Value} {sel : List (Int × Int)} {h₀ h : Heap} {L : Addr} (S : SelIn nx ys sel) (N : News h₀ L h nx) : SelAt h ys sel := by
  induction S with
  | nil => exact .nil
  | cons e _ ih => exact .cons (N _ e).1 ih
theorem SelIn.len {nx : List (Addr × Obj)} {ys : List Value} {sel : List (Int × Int)} (S : SelIn nx ys sel) : ys.length = sel.length := by
  induction S with
  | nil => rfl
  | cons e _ ih => rw [List.length_cons, List.length_cons, ih]
section
variable {prog : Program} {w : World} {A : Around} {s : Shared} {h₀ : Heap} {L : Addr} {m : PySem.Str → Option Value} {env : Env} {news : List (Addr × Obj)}
/-- a comprehension over a range whose element is a pair of ints -/
theorem comp_tups {elt : Expr} {x : PySem.Str} {scope : Scope} {cl : List (PySem.Str × Addr)} {n : Nat} (f g : Nat → Int) {Fin : List Value → List (Addr × Obj) → Prop}
    (rule : ∀ i t I oI C oC D m₂ h tk ys nx (E' : Value → Shared → Prop) (Q' : Value → Shared → Prop), i < n → NsObj oC m₂ → m₂ x = some (.int (0 + (i : Int)) t) → Fr h₀ L h m → (∀ p ∈ news, p ∈ nx) → News h₀ L h ((I, oI) :: (C, oC) :: (D, lst ys) :: nx) →
      (∀ T t' u' h' tk', Fr h₀ L h' m → News h₀ L h' ((T, tupObj (f i) t' (g i) u') :: (I, oI) :: (C, oC) :: (D, lst ys) :: nx) → @Ne Nat T I → @Ne Nat T C → @Ne Nat T D → Q' (.ref T) { s with heap := h', toks := tk' }) →
      wpAny (model prog w) A (eval elt (compEnvC scope cl C env)) Q' E' { s with heap := h, toks := tk })
    (fin : ∀ ys nx, (∀ p ∈ news, p ∈ nx) → SelIn nx ys ((List.range n).map fun i => (f i, g i)) → Fin ys nx) :
    CompRest prog w A h₀ L m env elt x scope cl s (fun _ => True) (fun i v => ∃ t, v = .int (0 + (i : Int)) t) Fin n 0 [] news := by
  have key : ∀ k i (ys : List Value) nx, k + i = n → (∀ p ∈ news, p ∈ nx) → SelIn nx ys ((List.range i).map fun i => (f i, g i)) → CompRest prog w A h₀ L m env elt x scope cl s (fun _ => True) (fun i v => ∃ t, v = .int (0 + (i : Int)) t) Fin k i ys nx := by
    intro k
    induction k with
    | zero => intro i ys nx hi hn hy; rw [Nat.zero_add] at hi; subst hi; exact CompRest.zero (fin ys nx hn hy)
    | succ k ih =>
      intro i ys nx hi hn hy
      refine CompRest.succ ?_
      intro v I oI C oC D m₂ h tk E' hv hC hx F N off ne
      obtain ⟨t, rfl⟩ := hv
      refine rule i t I oI C oC D m₂ h tk _ nx E' _ (by omega) hC hx F hn N fun T t' u' h' tk' F' N' n1 n2 n3 => ?_
      refine CompEnd.intro F' N' ((T, tupObj (f i) t' (g i) u') :: nx) (fun p hp => ?_) ?_ trivial ?_
      · simp only [List.mem_cons] at hp ⊢
        rcases hp with h | h | h | h | h
        · exact .inr (.inl h)
        · exact .inr (.inr (.inl h))
        · exact .inr (.inr (.inr (.inl h)))
        · exact .inl h
        · exact .inr (.inr (.inr (.inr h)))
      · exact ⟨⟨n1, n2, n3⟩, off⟩
      · refine ih (i + 1) (ys ++ [.ref T]) _ (by omega) (fun p hp => List.Mem.tail _ (hn p hp)) ?_
        rw [List.range_succ, List.map_append]
        exact (hy.mono fun p hp => List.Mem.tail _ hp).snoc (List.Mem.head _)
  exact key n 0 [] news (by omega) (fun _ h => h) .nil
end
section
variable {w : World} {loose : List PySem.Str} {mean : ExcName → Option Value} {mg mb : PySem.Str → Option Value} {f : Addr} {vs : List Value} {D : Nat} {led all : List (Addr × Obj)} {P : Heap → Prop} {R : Value → Prop}
  {dp un : Nat} {gd : Option (List Code)} {cn : PySem.Str} {cs : Scope} {a : Addr} {ccd : Value} {cl : List (PySem.Str × Addr)} {outer : List Env} {A₀ : Around} {base h₀ : Heap} {L : Addr} {m : PySem.Str → Option Value} {s : Shared} {Q E : Value → Shared → Prop}
/-- a contract that hands its ledger back as it was -/
theorem Ctr.same (C : Ctr w loose mean mg mb f vs D led P (fun r led' => R r ∧ led' = led)) (B : Below A₀ base outer h₀) (F : Fr h₀ L s.heap m) (X : (hd.heap_39 w.params).In h₀) (N : News h₀ L s.heap all) (T : Top topProg loose mean mg mb h₀) (hk : cs.kind = .function)
    (hsub : ∀ p ∈ led, p ∈ all) (hdp : dp + D < recursionLimit) (hun : un + 8 * D < cLine) (c1 : CodeHd base 41 37) (c2 : CodeHd base 34 30) (hP : P s.heap)
    (ret : ∀ r h' tk', Fr h₀ L h' m → News h₀ L h' all → R r → Q r { s with heap := h', toks := tk' }) :
    wpAny (model Challenge.rw_pe0173_01.row.prog w) (ktrTop dp un gd cn cs L a ccd cl outer) (call (.ref f) vs) Q E s :=
  C dp un gd cn cs a ccd cl outer A₀ base h₀ L m s Q E B F X (fun p hp => N p (hsub p hp)) T hk hdp hun c1 c2 hP fun r led' h' tk' F' N' K' _ hR => by
    obtain ⟨hR, rfl⟩ := hR
    refine ret r h' tk' F' (fun p hp => ⟨?_, (N p hp).2⟩) hR
    by_cases q : p.1 ∈ led'.map (·.1)
    · obtain ⟨r, hr, e⟩ := List.mem_map.mp q
      have e1 := (N r (hsub r hr)).1
      rw [show r.1 = p.1 from e, (N p hp).1] at e1
      have e2 := (N' r hr).1
      rw [show r.1 = p.1 from e, ← Option.some.inj e1] at e2
      exact e2
    · exact K' _ _ (N p hp).1 q
end
end Mine
end
section
open PySem PySem.W PyProof.Rows PySem.Calls PySem.Spec
open PySem.Builtin PySem.Builtin.Str
set_option maxHeartbeats 0
set_option pp.deepTerms false
namespace Mine
open PyProof.Rows.LCg
local macro_rules | `(tactic| k_enter) => `(tactic| (refine' code_defG ?k1 ?k2 ?k3 ?k4 ?k5 ?kA ?kF ?kK ?k6 ?k7 ?k8 ?k9 ?kB ?_ ?c2 ?c3 ?c4 ?c5; (case kA => exact rfl); (case kF => exact rfl); (case kK => first | assumption | exact rfl); (case k1 => k_asm); (case k2 => k_asm); (case k3 => k_asm); (case k4 => k_asm); (case k5 => k_asm); (case k6 => k_is); (case k7 => k_is); (case k8 => ktr_room); (case k9 => exact BindsTo.of_eq rfl); (case c5 => decide); (case kB => exact locs rfl); (case c2 => exact rfl); (case c3 => exact rfl); (case c4 => exact rfl); k_whole; intro g' L' h' FG' F' N' B' X' T' kG'; (try dsimp only); (try k_lift B'); (try k_fold)))
/-- the sign that a turn settles -/
noncomputable def toldN (nc no : List Int) (total i : Nat) (c : Int) : Int := if c = 0 then no.getD (total + i) 0 - nc.getD (total + i) 0 else c
noncomputable def toldF (nc no : List Int) (total : Nat) : Nat → Int
  | 0 => 0
  | i + 1 => toldN nc no total i (toldF nc no total i)
/-- the columns that the turn compares -/
noncomputable def selA (k : Nat) : List (Int × Int) := (List.range k).map fun (i : Nat) => ((0 + (i : Int) : Int), (1 : Int))
noncomputable def selB (size k : Nat) : List (Int × Int) := (List.range k).map fun (i : Nat) => (((size : Int) + (0 + (i : Int)) : Int), (-1 : Int))
noncomputable abbrev toldSt : List PySem.Str := [PySem.Str.ofString "shift", PySem.Str.ofString "told", PySem.Str.ofString "laps", PySem.Str.ofString "sums"]
theorem told_map {m₀ m : PySem.Str → Option Value} {c : Int} {t : Tok} (hA : Agree toldSt m₀ m) (ht : m (PySem.Str.ofString "told") = some (.int c t)) : m = fun y => if y = PySem.Str.ofString "told" then some (.int c t) else if toldSt.contains y then m y else m₀ y := by
  funext y
  by_cases h : y = PySem.Str.ofString "told"
  · rw [if_pos h, h, ht]
  · rw [if_neg h]
    exact congrFun hA.map y
noncomputable def ToldJ (nc no : List Int) (total : Nat) (m₀ : PySem.Str → Option Value) (news : List (Addr × Obj)) (i : Nat) (m : PySem.Str → Option Value) (nx : List (Addr × Obj)) : Prop :=
  nx = news ∧ (∃ t, m (PySem.Str.ofString "told") = some (.int (toldF nc no total i) t)) ∧ Agree toldSt m₀ m
section
variable {prog : Program} {w : World} {A : Around} {E : Value → Shared → Prop} {s : Shared} {env : Env} {h₀ : Heap} {body : List Stmt} {Q : Flow → Shared → Prop}
theorem told_loop {x : PySem.Str} {r : Addr} {t₀ u₀ v₀ tc : Tok} {n total : Nat} {nc no : List Int} {m₀ : PySem.Str → Option Value} {news : List (Addr × Obj)}
    (hh : A.handled = none) (hr : IsRange s.heap r 0 (n : Int) 1 t₀ u₀ v₀) (h10 : n < 10) (F : Fr h₀ env.locals s.heap m₀) (N : News h₀ env.locals s.heap news) (hm : m₀ (PySem.Str.ofString "told") = some (.int 0 tc))
    (turn : ∀ (i : Nat) (t tt : Tok) (u : PySem.Str → Option Value) (h : Heap) (tk : Nat) (own : List (Addr × Obj)), i < n → OwnOff own (news.map (·.1)) → Fr h₀ env.locals h (fun y => if y = x then some (.int (i : Int) t) else if y = PySem.Str.ofString "told" then some (.int (toldF nc no total i) tt) else if toldSt.contains y then u y else m₀ y) → News h₀ env.locals h (news ++ own) →
      wpAny (model prog w) A (execs body env) (InvPostN h₀ env.locals (ToldJ nc no total m₀ news (i + 1)) own (news.map (·.1)) { s with heap := h, toks := tk } Q) E { s with heap := h, toks := tk })
    (done : ∀ m₁ h tk, Fr h₀ env.locals h m₁ → News h₀ env.locals h news → Q .next { s with heap := h, toks := tk }) :
    wpAny (model prog w) A (pyIter (.ref r)) (fun it s₂ => LoopAtV prog w A h₀ env x body Q E it s₂) E s := by
  refine kpr_invN (ToldJ nc no total m₀ news) hh hr (rng10 _ h10).1 (rng10 _ h10).2 F N ⟨rfl, ⟨_, hm⟩, Agree.refl _ _⟩ ?_ ?_
  · rintro i k t m₁ nx h tk own hk ho ⟨rfl, ⟨tt, ht⟩, hA⟩ F' N'
    have hi : i < n := by
      have := (List.getElem?_eq_some_iff.mp hk).1
      rwa [rangeKs_length] at this
    have hki : k = (i : Int) := by
      have e : (rangeKs 0 n)[i]? = some (0 + (i : Int)) := by simp [rangeKs, hi]
      rw [hk] at e
      rw [Option.some.inj e, Int.zero_add]
    subst hki
    rw [told_map hA ht] at F'
    exact turn i t tt m₁ h tk own hi ho F' N'
  · rintro m₁ nx h tk ⟨rfl, _, _⟩ F' N'
    exact done m₁ h tk F' N'
noncomputable def SetPost (h₀ : Heap) (L : Addr) (s : Shared) (X : PySem.Str) (c : Int) (m : PySem.Str → Option Value) (news : List (Addr × Obj)) (f : Flow) (s' : Shared) : Prop := f = .next ∧ ∃ h tk t, s' = { s with heap := h, toks := tk } ∧ Fr h₀ L h (fun y => if y = X then some (.int c t) else m y) ∧ News h₀ L h news
/-- a statement that sets one name, whichever way it goes -/
theorem join_set {X : PySem.Str} {c : Int} {st : Stmt} {rest : List Stmt} {m : PySem.Str → Option Value} {news : List (Addr × Obj)} (_F : Fr h₀ env.locals s.heap m) (_N : News h₀ env.locals s.heap news)
    (hif : wpAny (model prog w) A (exec st env) (SetPost h₀ env.locals s X c m news) E s)
    (next : ∀ h tk t, Fr h₀ env.locals h (fun y => if y = X then some (.int c t) else m y) → News h₀ env.locals h news → wpAny (model prog w) A (execs rest env) Q E { s with heap := h, toks := tk }) :
    wpAny (model prog w) A (execs (st :: rest) env) Q E s := by
  refine wpAny_execs_cons (wpAny_mono hif (fun f s' h => ?_) fun _ _ e => e)
  obtain ⟨rfl, h, tk, t, rfl, F, N⟩ := h
  exact next h tk t F N
theorem SetPost.new {s : Shared} {L : Addr} {X : PySem.Str} {c c' : Int} {t : Tok} {h : Heap} {tk : Nat} {m : PySem.Str → Option Value} {news : List (Addr × Obj)} (e : c = c') (F : Fr h₀ L h (fun y => if y = X then some (.int c' t) else m y)) (N : News h₀ L h news) : SetPost h₀ L s X c m news .next { s with heap := h, toks := tk } := e ▸ ⟨rfl, h, tk, t, rfl, F, N⟩
theorem put_same {X : PySem.Str} {c : Int} {t : Tok} {m : PySem.Str → Option Value} (h : m X = some (.int c t)) : m = fun y => if y = X then some (.int c t) else m y := by
  funext y
  by_cases e : y = X
  · rw [if_pos e, e, h]
  · rw [if_neg e]
theorem SetPost.old {s : Shared} {L : Addr} {X : PySem.Str} {c c' : Int} {t : Tok} {h : Heap} {tk : Nat} {m : PySem.Str → Option Value} {news : List (Addr × Obj)} (hm : m X = some (.int c' t)) (e : c = c') (F : Fr h₀ L h m) (N : News h₀ L h news) : SetPost h₀ L s X c m news .next { s with heap := h, toks := tk } := by
  rw [put_same hm] at F
  exact .new e F N
end
theorem news_show {h₀ h : Heap} {L : Addr} {a : Addr × Obj} {news nx : List (Addr × Obj)} (N : News h₀ L h (a :: nx)) (hs : ∀ p ∈ news, p ∈ nx) : News h₀ L h (a :: (news ++ nx)) := fun p hp => N p (by
  rcases List.mem_cons.mp hp with e | e
  · exact e ▸ List.Mem.head _
  · exact List.Mem.tail _ ((List.mem_append.mp e).elim (hs p) id))
/-- a comprehension's ledger with one cell brought to sight -/
theorem cell_show {h₀ h : Heap} {L : Addr} {a b c : Addr × Obj} {q : Addr} {o : Obj} {v : Option Value} {news nx : List (Addr × Obj)} (_hd : o.data = Data.cell v) (hq : (q, o) ∈ news) (N : News h₀ L h (a :: b :: c :: nx)) (hs : ∀ p ∈ news, p ∈ nx) : News h₀ L h (a :: b :: c :: (q, o) :: nx) := fun p hp => N p (by
  simp only [List.mem_cons] at hp ⊢
  rcases hp with e | e | e | e | e
  · exact .inl e
  · exact .inr (.inl e)
  · exact .inr (.inr (.inl e))
  · exact .inr (.inr (.inr (hs _ (e ▸ hq))))
  · exact .inr (.inr (.inr e)))
theorem cell_hide {h₀ h : Heap} {L : Addr} {t a b c d : Addr × Obj} {nx : List (Addr × Obj)} (N : News h₀ L h (t :: a :: b :: c :: d :: nx)) : News h₀ L h (t :: a :: b :: c :: nx) := fun p hp => N p (by
  simp only [List.mem_cons] at hp ⊢
  rcases hp with e | e | e | e | e
  · exact .inl e
  · exact .inr (.inl e)
  · exact .inr (.inr (.inl e))
  · exact .inr (.inr (.inr (.inl e)))
  · exact .inr (.inr (.inr (.inr (.inr e)))))
section
variable {w : World} {loose : List PySem.Str} {mean : ExcName → Option Value} {mg mb : PySem.Str → Option Value} {all : List (Addr × Obj)}
  {dp un : Nat} {gd : Option (List Code)} {cn : PySem.Str} {cs : Scope} {a : Addr} {ccd : Value} {cl : List (PySem.Str × Addr)} {outer : List Env} {A₀ : Around} {base h₀ : Heap} {L : Addr} {m : PySem.Str → Option Value} {s : Shared} {Q E : Value → Shared → Prop}
theorem cmp_use {x d sl la ra : Addr} {t : Tok} {ys vl vr : List Value} {k1 k2 k3 : Nat} (sel : List (Int × Int)) (nl nr : List Int) (B : Below A₀ base outer h₀) (F : Fr h₀ L s.heap m) (X : (hd.heap_39 w.params).In h₀) (N : News h₀ L s.heap all) (T : Top topProg loose mean mg mb h₀) (hk : cs.kind = .function)
    (hx : (x, instObj 87 d) ∈ all) (hd : (d, selObj w sl t) ∈ all) (hsl : (sl, W.listOf ys.toArray k1) ∈ all) (hla : (la, W.listOf vl.toArray k2) ∈ all) (hra : (ra, W.listOf vr.toArray k3) ∈ all) (hS : SelIn all ys sel) (hl : IntsAre vl nl) (hr : IntsAre vr nr) (hlen : nr.length = nl.length) (hsel : ∀ p ∈ sel, 0 ≤ p.1 ∧ p.1 < nl.length) (hn : nl.length ≤ 20)
    (hdp : dp + 4 < recursionLimit) (hun : un + 8 * 4 < cLine) (c1 : CodeHd base 41 37) (c2 : CodeHd base 34 30)
    (c : Int) (hc : cmpF nl nr sel = c) (ret : ∀ t h' tk', Fr h₀ L h' m → News h₀ L h' all → Q (.int c t) { s with heap := h', toks := tk' }) :
    wpAny (model Challenge.rw_pe0173_01.row.prog w) (ktrTop dp un gd cn cs L a ccd cl outer) (call (.ref 84) [.ref x, .ref la, .ref ra]) Q E s :=
  Ctr.same (compare w loose mean mg mb sl x d la ra t ys vl vr sel nl nr hl hr hlen hsel hn) B F X N T hk (List.forall_mem_cons.mpr ⟨hx, List.forall_mem_cons.mpr ⟨hd, fun _ h => nomatch h⟩⟩) hdp hun c1 c2
    ⟨⟨_, (N _ hsl).1, rfl, _, rfl⟩, hS.at N, ⟨_, (N _ hla).1, rfl, _, rfl⟩, ⟨_, (N _ hra).1, rfl, _, rfl⟩⟩ fun r h' tk' F' N' ⟨t', e⟩ => e ▸ (congrArg (fun z => Value.int z t') hc) ▸ ret t' h' tk' F' N'
end
theorem selA_ok {k n : Nat} (h : k ≤ n) : ∀ p ∈ selA k, 0 ≤ p.1 ∧ p.1 < (n : Int) := fun p hp => by
  obtain ⟨i, hi, rfl⟩ := List.mem_map.mp hp
  have := List.mem_range.mp hi
  dsimp only
  omega
theorem selB_ok {z k n : Nat} (h : z + k ≤ n) : ∀ p ∈ selB z k, 0 ≤ p.1 ∧ p.1 < (n : Int) := fun p hp => by
  obtain ⟨i, hi, rfl⟩ := List.mem_map.mp hp
  have := List.mem_range.mp hi
  dsimp only
  omega
theorem told_min {t z : Nat} (h : t ≤ 5) : (if 6 - (t : Int) < (z : Int) then 6 - (t : Int) else (z : Int)) = ((min z (6 - t) : Nat) : Int) := by split <;> omega
theorem told_m10 {t z : Nat} (h : z ≤ 3) : min z (6 - t) < 10 := Nat.lt_of_le_of_lt (Nat.min_le_left _ _) (Nat.lt_of_le_of_lt h (by decide))
theorem told_i {t z i : Nat} (h : t ≤ 5) (hi : i < min z (6 - t)) : t + i < 6 := by omega
theorem told_nat (t i : Nat) : ((t : Int) + (i : Int)).toNat = t + i := rfl
theorem told_i1 {t i : Nat} (h : t + i < 6) : i + 1 < 10 := by omega
theorem told_ti {t i : Nat} (h : t + i < 6) : t + i + 1 < 10 := by omega
theorem told_le {n : Nat} (h : n < 10) : n ≤ 2 ^ 24 := Nat.le_trans (Nat.le_of_lt h) (by decide)
theorem told_q (n : Nat) {x : Int} (e : (n : Int) = x) (h : n < 10) : Builtin.Range.small 0 x 1 = true ∧ Builtin.Range.rangeSize 0 x 1 = x := e ▸ rng10 n h
theorem told_A {t i z : Nat} (h : t + i < 6) : i + 1 ≤ z + 6 := by omega
theorem told_20 {n z : Nat} (e : n = z + 6) (h : z ≤ 3) : n ≤ 20 := by omega
theorem told (w : World) (loose mean mg mb) (p r : PySem.Str) (tp tr : Tok) (ca oa : Addr) (vc vo : List Value) (nc no : List Int) (total : Nat) (tt : Tok) (hp : LapOk p) (hr : LapOk r) (hlen : r.length = p.length) (hI : IntsAre vc nc) (hO : IntsAre vo no) (hcl : nc.length = 6) (hol : no.length = 6) (htot : total ≤ 5) (hp3 : p.length ≤ 3) (hpt : p.length ≤ total)
    (hok : ∀ i, i < min p.length (6 - total) → cmpF ((List.range p.length).map (lapF p) ++ nc) ((List.range r.length).map (lapF r) ++ no) (selA (i + 1)) = toldF nc no total (i + 1) ∧ cmpF ((List.range p.length).map (lapF p) ++ nc) ((List.range r.length).map (lapF r) ++ no) (selB p.length (total + i + 1)) = toldF nc no total (i + 1) ∧ cmpF ((List.range r.length).map (lapF r) ++ no) ((List.range p.length).map (lapF p) ++ nc) (selA (i + 1)) = -toldF nc no total (i + 1) ∧ cmpF ((List.range r.length).map (lapF r) ++ no) ((List.range p.length).map (lapF p) ++ nc) (selB p.length (total + i + 1)) = -toldF nc no total (i + 1)) :
    Ctr w loose mean mg mb 125 [.str p tp, .str r tr, .ref ca, .ref oa, .int (total : Int) tt] 18 [] (fun h => h.IsList ca vc.toArray ∧ h.IsList oa vo.toArray) (fun r led => r = .bool true ∧ led = []) := by
  unfold Ctr
  w_top off
  k_fill
  intro dp un gd cn cs a ccd cl outer A₀ base h₀ L m s Q E B F X N T hk hd hu c1 c2 hP hret
  obtain ⟨hP1, hP2⟩ := hP
  refine wpAny_call ?_
  k_dflt ((refine' enter_cells ?en_k1 ?en_k2 ?en_k3 ?en_k4 ?en_k5 ?en_kA ?en_kF ?en_kK ?en_k6 ?en_k7 ?en_k8 ?en_k9 ?en_kB ?en_kD ?_ ?en_c2 ?en_c3 ?en_c4; (case en_kA => exact rfl); (case en_kF => exact rfl); (case en_kK => assumption); (case en_k1 => k_asm); (case en_k2 => k_asm); (case en_k3 => k_asm); (case en_k4 => k_asm); (case en_k5 => k_asm); (case en_k6 => k_is); (case en_k7 => k_is); (case en_k8 => ktr_room); (case en_k9 => exact BindsTo.of_eq rfl); (case en_kB => exact rfl); (case en_kD => decide +kernel); (case en_c2 => exact rfl); (case en_c3 => exact rfl); (case en_c4 => exact rfl); k_whole; intro g' L' h' tk' cells' FG' F' N' Y' B' X' T' l1 kG'; (try k_lt l1); k_cells Y'; (try simp only [List.cons_append, List.nil_append] at N'); (try dsimp only); (try k_lift B'); (try k_fold)))
  rename GSub _ _ _ => kG9
  (repeat' (first | (k_unfold; (try dsimp only)) | (k_end; wrow_close) | ((fail_if_success (fail_if_success (with_reducible show wpAny _ _ (exec _ _) _ _ _))); k_fold) | ((fail_if_success (fail_if_success (with_reducible show wpAny _ _ (execs (_ :: _) _) _ _ (Shared.mk _ _ _ (HAdd.hAdd _ _) _)))); refine flat (s := s) rfl rfl rfl (fun _ => ?_)) | ((fail_if_success (with_reducible refine RangeRest.succ ?_)); (fail_if_success (with_reducible show LCg.CompSrc _ _ _ _ _ _ _ _ _ _ _ _ _ _)); (fail_if_success (with_reducible show UnrEnd _ _ _ _ _ _ _)); (fail_if_success (with_reducible show wpAny _ _ (pyIter _) _ _ _)); (fail_if_success (with_reducible show wpAny _ _ (call (Value.ref 84) _) _ _ _)); (fail_if_success (with_reducible show wpAny _ _ (call (Value.ref 87) _) _ _ _)); (fail_if_success (with_reducible show InvEndN _ _ _ _ _ _ _)); (fail_if_success (with_reducible show wpAny _ _ (eval (Expr.ListComp _ _ _ _) _) _ _ _)); first | walk1 | (dsimp only; walk1) | (leave1; walk_say "STEP leave1"; try dsimp only)) | fail "no step"))
  have hg1 := hP1.at fun o e => kG9 _ o e (fun h => nomatch h)
  have hg2 := hP2.at fun o e => kG9 _ o e (fun h => nomatch h)
  k_dflt (refine' Ctr.use0 (laps _ _ _ _ _ p _ hp) ?k19 ?k29 ?k39 ?k49 ?k59 ?kK9 ?kd9 ?ku9 ?x19 ?x29 trivial ?_; (case k19 => k_asm); (case k29 => k_asm); (case k39 => k_asm); (case k49 => k_asm); (case k59 => k_asm); (case kK9 => first | exact rfl | assumption); (case kd9 => ktr_room); (case ku9 => ktr_units); (case x19 => assumption); (case x29 => assumption); k_whole)
  rintro r9 led9 h9 tk9 F9 N9 A9 K9 ⟨D9, ys9, n9, rfl, rfl, hI9⟩
  simp only [List.cons_append, List.nil_append] at N9
  simp only [Apart, AllNe, List.not_mem_nil, not_false_eq_true, forall_const, and_true] at A9
  have hl9 : ((List.range p.length).map (lapF p)).length ≤ 8 := by rw [List.length_map, List.length_range]; omega
  (try dsimp only)
  (try k_fold)
  (repeat' (first | (k_unfold; (try dsimp only)) | (k_end; wrow_close) | ((fail_if_success (fail_if_success (with_reducible show wpAny _ _ (exec _ _) _ _ _))); k_fold) | ((fail_if_success (fail_if_success (with_reducible show wpAny _ _ (execs (_ :: _) _) _ _ (Shared.mk _ _ _ (HAdd.hAdd _ _) _)))); refine flat (s := s) rfl rfl rfl (fun _ => ?_)) | ((fail_if_success (with_reducible refine RangeRest.succ ?_)); (fail_if_success (with_reducible show LCg.CompSrc _ _ _ _ _ _ _ _ _ _ _ _ _ _)); (fail_if_success (with_reducible show UnrEnd _ _ _ _ _ _ _)); (fail_if_success (with_reducible show wpAny _ _ (pyIter _) _ _ _)); (fail_if_success (with_reducible show wpAny _ _ (call (Value.ref 84) _) _ _ _)); (fail_if_success (with_reducible show wpAny _ _ (call (Value.ref 87) _) _ _ _)); (fail_if_success (with_reducible show InvEndN _ _ _ _ _ _ _)); (fail_if_success (with_reducible show wpAny _ _ (eval (Expr.ListComp _ _ _ _) _) _ _ _)); first | walk1 | (dsimp only; walk1) | (leave1; walk_say "STEP leave1"; try dsimp only)) | fail "no step"))
  k_dflt (refine' Ctr.use0 (laps _ _ _ _ _ r _ hr) ?k18 ?k28 ?k38 ?k48 ?k58 ?kK8 ?kd8 ?ku8 ?x18 ?x28 trivial ?_; (case k18 => k_asm); (case k28 => k_asm); (case k38 => k_asm); (case k48 => k_asm); (case k58 => k_asm); (case kK8 => first | exact rfl | assumption); (case kd8 => ktr_room); (case ku8 => ktr_units); (case x18 => assumption); (case x28 => assumption); k_whole)
  rintro r8 led8 h8 tk8 F8 N8 A8 K8 ⟨D8, ys8, n8, rfl, rfl, hI8⟩
  simp only [List.cons_append, List.nil_append] at N8
  simp only [Apart, AllNe, List.not_mem_nil, not_false_eq_true, forall_const, and_true] at A8
  have hl8 : ((List.range r.length).map (lapF r)).length ≤ 8 := by rw [List.length_map, List.length_range]; omega
  (try dsimp only)
  (try k_fold)
  (repeat' (first | (k_unfold; (try dsimp only)) | (k_end; wrow_close) | ((fail_if_success (fail_if_success (with_reducible show wpAny _ _ (exec _ _) _ _ _))); k_fold) | ((fail_if_success (fail_if_success (with_reducible show wpAny _ _ (execs (_ :: _) _) _ _ (Shared.mk _ _ _ (HAdd.hAdd _ _) _)))); refine flat (s := s) rfl rfl rfl (fun _ => ?_)) | ((fail_if_success (with_reducible refine RangeRest.succ ?_)); (fail_if_success (with_reducible show LCg.CompSrc _ _ _ _ _ _ _ _ _ _ _ _ _ _)); (fail_if_success (with_reducible show UnrEnd _ _ _ _ _ _ _)); (fail_if_success (with_reducible show wpAny _ _ (pyIter _) _ _ _)); (fail_if_success (with_reducible show wpAny _ _ (call (Value.ref 84) _) _ _ _)); (fail_if_success (with_reducible show wpAny _ _ (call (Value.ref 87) _) _ _ _)); (fail_if_success (with_reducible show InvEndN _ _ _ _ _ _ _)); (fail_if_success (with_reducible show wpAny _ _ (eval (Expr.ListComp _ _ _ _) _) _ _ _)); first | walk1 | (dsimp only; walk1) | (leave1; walk_say "STEP leave1"; try dsimp only)) | fail "no step"))
  have hb9 : (if 6 - (total : Int) < (p.length : Int) then 6 - (total : Int) else (p.length : Int)) = ((min p.length (6 - total) : Nat) : Int) := told_min htot
  have hn9 : min p.length (6 - total) < 10 := told_m10 hp3
  rename IsRange _ _ _ _ _ _ _ _ => hrg
  rw [hb9] at hrg
  k_dflt (refine' told_loop (nc := nc) (no := no) (total := total) ?h hrg hn9 ?F ?N ?m ?turn ?done; (case h => with_unfolding_all rfl); (case F => k_asm); (case N => k_asm); (case m => exact rfl))
  case turn =>
    intro i t9 tt9 u9 h9 tk9 own9 hi9 ho9 F9 N9
    have hok9 := hok i hi9
    (try dsimp only)
    (try k_fold)
    have hi6 : total + i < 6 := told_i htot hi9
    k_dflt (refine' join_set (X := PySem.Str.ofString "told") (c := toldF nc no total (i + 1)) ?jF ?jN ?jif ?jnext; (case jF => k_asm); (case jN => k_asm))
    case jif =>
      (repeat' (first | (k_unfold; (try dsimp only)) | (k_end; wrow_close) | ((fail_if_success (fail_if_success (with_reducible show wpAny _ _ (exec _ _) _ _ _))); k_fold) | ((fail_if_success (fail_if_success (with_reducible show wpAny _ _ (execs (_ :: _) _) _ _ (Shared.mk _ _ _ (HAdd.hAdd _ _) _)))); refine flat (s := s) rfl rfl rfl (fun _ => ?_)) | ((fail_if_success (with_reducible refine RangeRest.succ ?_)); (fail_if_success (with_reducible show LCg.CompSrc _ _ _ _ _ _ _ _ _ _ _ _ _ _)); (fail_if_success (with_reducible show UnrEnd _ _ _ _ _ _ _)); (fail_if_success (with_reducible show wpAny _ _ (pyIter _) _ _ _)); (fail_if_success (with_reducible show wpAny _ _ (call (Value.ref 84) _) _ _ _)); (fail_if_success (with_reducible show wpAny _ _ (call (Value.ref 87) _) _ _ _)); (fail_if_success (with_reducible show InvEndN _ _ _ _ _ _ _)); (fail_if_success (with_reducible show wpAny _ _ (eval (Expr.ListComp _ _ _ _) _) _ _ _)); first | walk1 | (dsimp only; walk1) | (leave1; walk_say "STEP leave1"; try dsimp only)) | fail "no step"))
      · refine' SetPost.new ?e1 ?F1 ?N1
        case F1 => k_asm
        case N1 => k_asm
        case e1 => rw [toldF, toldN, if_pos (by assumption), told_nat]
      · exact SetPost.old rfl (by rw [toldF, toldN, if_neg (by assumption)]) (by k_asm) (by k_asm)
    case jnext =>
      intro h8 tk8 t8 F8 N8
      simp only [List.cons_append, List.nil_append] at N8
      (try dsimp only)
      (try k_fold)
      (repeat' (first | (k_unfold; (try dsimp only)) | (k_end; wrow_close) | ((fail_if_success (fail_if_success (with_reducible show wpAny _ _ (exec _ _) _ _ _))); k_fold) | ((fail_if_success (fail_if_success (with_reducible show wpAny _ _ (execs (_ :: _) _) _ _ (Shared.mk _ _ _ (HAdd.hAdd _ _) _)))); refine flat (s := s) rfl rfl rfl (fun _ => ?_)) | ((fail_if_success (with_reducible refine RangeRest.succ ?_)); (fail_if_success (with_reducible show LCg.CompSrc _ _ _ _ _ _ _ _ _ _ _ _ _ _)); (fail_if_success (with_reducible show UnrEnd _ _ _ _ _ _ _)); (fail_if_success (with_reducible show wpAny _ _ (pyIter _) _ _ _)); (fail_if_success (with_reducible show wpAny _ _ (call (Value.ref 84) _) _ _ _)); (fail_if_success (with_reducible show wpAny _ _ (call (Value.ref 87) _) _ _ _)); (fail_if_success (with_reducible show InvEndN _ _ _ _ _ _ _)); (fail_if_success (with_reducible show wpAny _ _ (eval (Expr.ListComp _ _ _ _) _) _ _ _)); first | walk1 | (dsimp only; walk1) | (leave1; walk_say "STEP leave1"; try dsimp only)) | fail "no step"))
      k_dflt (refine LCg.ListComp_U (F₀ := by k_asm) (by with_unfolding_all rfl) (by decide) (by rfl) (by decide) (by rfl) ?_)
      (repeat' (first | (k_unfold; (try dsimp only)) | (k_end; wrow_close) | ((fail_if_success (fail_if_success (with_reducible show wpAny _ _ (exec _ _) _ _ _))); k_fold) | ((fail_if_success (fail_if_success (with_reducible show wpAny _ _ (execs (_ :: _) _) _ _ (Shared.mk _ _ _ (HAdd.hAdd _ _) _)))); refine flat (s := s) rfl rfl rfl (fun _ => ?_)) | ((fail_if_success (with_reducible refine RangeRest.succ ?_)); (fail_if_success (with_reducible show LCg.CompSrc _ _ _ _ _ _ _ _ _ _ _ _ _ _)); (fail_if_success (with_reducible show UnrEnd _ _ _ _ _ _ _)); (fail_if_success (with_reducible show wpAny _ _ (pyIter _) _ _ _)); (fail_if_success (with_reducible show wpAny _ _ (call (Value.ref 84) _) _ _ _)); (fail_if_success (with_reducible show wpAny _ _ (call (Value.ref 87) _) _ _ _)); (fail_if_success (with_reducible show InvEndN _ _ _ _ _ _ _)); (fail_if_success (with_reducible show wpAny _ _ (eval (Expr.ListComp _ _ _ _) _) _ _ _)); first | walk1 | (dsimp only; walk1) | (leave1; walk_say "STEP leave1"; try dsimp only)) | fail "no step"))
      have q1 := told_q (i + 1) (x := (i : Int) + 1) rfl (told_i1 hi6)
      k_dflt (refine' LCg.CompSrc.range (n := i + 1) ?a1 ?F ?N ?r ?a2 ?a3 ?a4 ?_; (case a1 => exact rfl); (case F => k_asm); (case N => k_asm); (case r => assumption); (case a2 => exact q1.1); (case a3 => exact q1.2.trans rfl); (case a4 => exact told_le (told_i1 hi6)))
      intro g7
      clear q1
      refine comp_tups (fun i => 0 + (i : Int)) (fun _ => 1) ?rule ?_
      case rule =>
        intro i7 t7 I oI C oC D m₂ h tk ys7 nx7 E' Q' hi7 hC hx F' hs7 N' hQ
        (try k_fold)
        (repeat' (first | (k_unfold; (try dsimp only)) | (k_end; wrow_close) | ((fail_if_success (fail_if_success (with_reducible show wpAny _ _ (exec _ _) _ _ _))); k_fold) | ((fail_if_success (fail_if_success (with_reducible show wpAny _ _ (execs (_ :: _) _) _ _ (Shared.mk _ _ _ (HAdd.hAdd _ _) _)))); refine flat (s := s) rfl rfl rfl (fun _ => ?_)) | ((fail_if_success (with_reducible refine RangeRest.succ ?_)); (fail_if_success (with_reducible show LCg.CompSrc _ _ _ _ _ _ _ _ _ _ _ _ _ _)); (fail_if_success (with_reducible show UnrEnd _ _ _ _ _ _ _)); (fail_if_success (with_reducible show wpAny _ _ (pyIter _) _ _ _)); (fail_if_success (with_reducible show wpAny _ _ (call (Value.ref 84) _) _ _ _)); (fail_if_success (with_reducible show wpAny _ _ (call (Value.ref 87) _) _ _ _)); (fail_if_success (with_reducible show InvEndN _ _ _ _ _ _ _)); (fail_if_success (with_reducible show wpAny _ _ (eval (Expr.ListComp _ _ _ _) _) _ _ _)); first | walk1 | (dsimp only; walk1) | (leave1; walk_say "STEP leave1"; try dsimp only)) | fail "no step"))
        rename (_ < _ ∧ _ < _ ∧ _ < _ ∧ AllLt _ nx7) => l7
        exact hQ _ _ _ _ _ (by k_asm) (by k_asm) (Nat.ne_of_gt l7.1) (Nat.ne_of_gt l7.2.1) (Nat.ne_of_gt l7.2.2.1)
      intro ys7 nx7 hs7 hS7
      (repeat' (first | (k_unfold; (try dsimp only)) | (k_end; wrow_close) | ((fail_if_success (fail_if_success (with_reducible show wpAny _ _ (exec _ _) _ _ _))); k_fold) | ((fail_if_success (fail_if_success (with_reducible show wpAny _ _ (execs (_ :: _) _) _ _ (Shared.mk _ _ _ (HAdd.hAdd _ _) _)))); refine flat (s := s) rfl rfl rfl (fun _ => ?_)) | ((fail_if_success (with_reducible refine RangeRest.succ ?_)); (fail_if_success (with_reducible show LCg.CompSrc _ _ _ _ _ _ _ _ _ _ _ _ _ _)); (fail_if_success (with_reducible show UnrEnd _ _ _ _ _ _ _)); (fail_if_success (with_reducible show wpAny _ _ (pyIter _) _ _ _)); (fail_if_success (with_reducible show wpAny _ _ (call (Value.ref 84) _) _ _ _)); (fail_if_success (with_reducible show wpAny _ _ (call (Value.ref 87) _) _ _ _)); (fail_if_success (with_reducible show InvEndN _ _ _ _ _ _ _)); (fail_if_success (with_reducible show wpAny _ _ (eval (Expr.ListComp _ _ _ _) _) _ _ _)); first | walk1 | (dsimp only; walk1) | (leave1; walk_say "STEP leave1"; try dsimp only)) | fail "no step"))
      rename News _ _ _ (_ :: nx7) => N7
      have N6 := news_show N7 hs7
      have ho6 : ∀ p ∈ own9, p ∈ own9 ++ nx7 := fun p hp => List.mem_append_left _ hp
      have hS6 := hS7.mono (ny := own9 ++ nx7) fun p hp => List.mem_append_right _ hp
      clear N7 hs7 hS7
      simp only [List.cons_append, List.nil_append] at N6
      generalize own9 ++ nx7 = fx at N6 ho6 hS6
      walk1
      (repeat' (first | (k_unfold; (try dsimp only)) | (k_end; wrow_close) | ((fail_if_success (fail_if_success (with_reducible show wpAny _ _ (exec _ _) _ _ _))); k_fold) | ((fail_if_success (fail_if_success (with_reducible show wpAny _ _ (execs (_ :: _) _) _ _ (Shared.mk _ _ _ (HAdd.hAdd _ _) _)))); refine flat (s := s) rfl rfl rfl (fun _ => ?_)) | ((fail_if_success (with_reducible refine RangeRest.succ ?_)); (fail_if_success (with_reducible show LCg.CompSrc _ _ _ _ _ _ _ _ _ _ _ _ _ _)); (fail_if_success (with_reducible show UnrEnd _ _ _ _ _ _ _)); (fail_if_success (with_reducible show wpAny _ _ (pyIter _) _ _ _)); (fail_if_success (with_reducible show wpAny _ _ (call (Value.ref 84) _) _ _ _)); (fail_if_success (with_reducible show wpAny _ _ (call (Value.ref 87) _) _ _ _)); (fail_if_success (with_reducible show InvEndN _ _ _ _ _ _ _)); (fail_if_success (with_reducible show wpAny _ _ (eval (Expr.ListComp _ _ _ _) _) _ _ _)); first | walk1 | (dsimp only; walk1) | (leave1; walk_say "STEP leave1"; try dsimp only)) | fail "no step"))
      k_dflt (refine LCg.ListComp_U (F₀ := by k_asm) (by with_unfolding_all rfl) (by decide) (by rfl) (by decide) (by rfl) ?_)
      (repeat' (first | (k_unfold; (try dsimp only)) | (k_end; wrow_close) | ((fail_if_success (fail_if_success (with_reducible show wpAny _ _ (exec _ _) _ _ _))); k_fold) | ((fail_if_success (fail_if_success (with_reducible show wpAny _ _ (execs (_ :: _) _) _ _ (Shared.mk _ _ _ (HAdd.hAdd _ _) _)))); refine flat (s := s) rfl rfl rfl (fun _ => ?_)) | ((fail_if_success (with_reducible refine RangeRest.succ ?_)); (fail_if_success (with_reducible show LCg.CompSrc _ _ _ _ _ _ _ _ _ _ _ _ _ _)); (fail_if_success (with_reducible show UnrEnd _ _ _ _ _ _ _)); (fail_if_success (with_reducible show wpAny _ _ (pyIter _) _ _ _)); (fail_if_success (with_reducible show wpAny _ _ (call (Value.ref 84) _) _ _ _)); (fail_if_success (with_reducible show wpAny _ _ (call (Value.ref 87) _) _ _ _)); (fail_if_success (with_reducible show InvEndN _ _ _ _ _ _ _)); (fail_if_success (with_reducible show wpAny _ _ (eval (Expr.ListComp _ _ _ _) _) _ _ _)); first | walk1 | (dsimp only; walk1) | (leave1; walk_say "STEP leave1"; try dsimp only)) | fail "no step"))
      have q2 := told_q (total + i + 1) (x := (total : Int) + (i : Int) + 1) rfl (told_ti hi6)
      k_dflt (refine' LCg.CompSrc.range (n := total + i + 1) ?b1 ?bF ?bN ?br ?b2 ?b3 ?b4 ?_; (case b1 => exact rfl); (case bF => k_asm); (case bN => k_asm); (case br => assumption); (case b2 => exact q2.1); (case b3 => exact q2.2.trans rfl); (case b4 => exact told_le (told_ti hi6)))
      intro g5
      clear q2
      rename (Obj.data _ = Data.cell (some (Value.int (p.length : Int) _))) => hcell
      refine comp_tups (fun i => (p.length : Int) + (0 + (i : Int))) (fun _ => -1) ?rule2 ?_
      case rule2 =>
        intro i5 t5 I oI C oC D m₂ h tk ys5 nx5 E' Q' hi5 hC hx F' hs5 N' hQ
        k_dflt (refine' (fun Nz => ?_) (cell_show hcell ?hq N' hs5); (case hq => k_mem))
        clear N'
        (try k_fold)
        (repeat' (first | (k_unfold; (try dsimp only)) | (k_end; wrow_close) | ((fail_if_success (fail_if_success (with_reducible show wpAny _ _ (exec _ _) _ _ _))); k_fold) | ((fail_if_success (fail_if_success (with_reducible show wpAny _ _ (execs (_ :: _) _) _ _ (Shared.mk _ _ _ (HAdd.hAdd _ _) _)))); refine flat (s := s) rfl rfl rfl (fun _ => ?_)) | ((fail_if_success (with_reducible refine RangeRest.succ ?_)); (fail_if_success (with_reducible show LCg.CompSrc _ _ _ _ _ _ _ _ _ _ _ _ _ _)); (fail_if_success (with_reducible show UnrEnd _ _ _ _ _ _ _)); (fail_if_success (with_reducible show wpAny _ _ (pyIter _) _ _ _)); (fail_if_success (with_reducible show wpAny _ _ (call (Value.ref 84) _) _ _ _)); (fail_if_success (with_reducible show wpAny _ _ (call (Value.ref 87) _) _ _ _)); (fail_if_success (with_reducible show InvEndN _ _ _ _ _ _ _)); (fail_if_success (with_reducible show wpAny _ _ (eval (Expr.ListComp _ _ _ _) _) _ _ _)); first | walk1 | (dsimp only; walk1) | (leave1; walk_say "STEP leave1"; try dsimp only)) | fail "no step"))
        rename (_ < _ ∧ _ < _ ∧ _ < _ ∧ _ < _ ∧ AllLt _ nx5) => l5
        exact hQ _ _ _ _ _ (by k_asm) (cell_hide (by k_asm)) (Nat.ne_of_gt l5.1) (Nat.ne_of_gt l5.2.1) (Nat.ne_of_gt l5.2.2.1)
      intro ys5 nx5 hs5 hS5
      (repeat' (first | (k_unfold; (try dsimp only)) | (k_end; wrow_close) | ((fail_if_success (fail_if_success (with_reducible show wpAny _ _ (exec _ _) _ _ _))); k_fold) | ((fail_if_success (fail_if_success (with_reducible show wpAny _ _ (execs (_ :: _) _) _ _ (Shared.mk _ _ _ (HAdd.hAdd _ _) _)))); refine flat (s := s) rfl rfl rfl (fun _ => ?_)) | ((fail_if_success (with_reducible refine RangeRest.succ ?_)); (fail_if_success (with_reducible show LCg.CompSrc _ _ _ _ _ _ _ _ _ _ _ _ _ _)); (fail_if_success (with_reducible show UnrEnd _ _ _ _ _ _ _)); (fail_if_success (with_reducible show wpAny _ _ (pyIter _) _ _ _)); (fail_if_success (with_reducible show wpAny _ _ (call (Value.ref 84) _) _ _ _)); (fail_if_success (with_reducible show wpAny _ _ (call (Value.ref 87) _) _ _ _)); (fail_if_success (with_reducible show InvEndN _ _ _ _ _ _ _)); (fail_if_success (with_reducible show wpAny _ _ (eval (Expr.ListComp _ _ _ _) _) _ _ _)); first | walk1 | (dsimp only; walk1) | (leave1; walk_say "STEP leave1"; try dsimp only)) | fail "no step"))
      rename News _ _ _ (_ :: nx5) => N5
      have N4 := news_show N5 hs5
      have ho4 : ∀ p ∈ own9, p ∈ fx ++ nx5 := fun p hp => List.mem_append_left _ (ho6 p hp)
      have hS4 := hS6.mono (ny := fx ++ nx5) fun p hp => List.mem_append_left _ hp
      have hS3 := hS5.mono (ny := fx ++ nx5) fun p hp => List.mem_append_right _ hp
      clear N5 hs5 hS5 hS6 ho6
      simp only [List.cons_append, List.nil_append] at N4
      generalize fx ++ nx5 = fy at N4 ho4 hS4 hS3
      walk1
      (repeat' (first | (k_unfold; (try dsimp only)) | (k_end; wrow_close) | ((fail_if_success (fail_if_success (with_reducible show wpAny _ _ (exec _ _) _ _ _))); k_fold) | ((fail_if_success (fail_if_success (with_reducible show wpAny _ _ (execs (_ :: _) _) _ _ (Shared.mk _ _ _ (HAdd.hAdd _ _) _)))); refine flat (s := s) rfl rfl rfl (fun _ => ?_)) | ((fail_if_success (with_reducible refine RangeRest.succ ?_)); (fail_if_success (with_reducible show LCg.CompSrc _ _ _ _ _ _ _ _ _ _ _ _ _ _)); (fail_if_success (with_reducible show UnrEnd _ _ _ _ _ _ _)); (fail_if_success (with_reducible show wpAny _ _ (pyIter _) _ _ _)); (fail_if_success (with_reducible show wpAny _ _ (call (Value.ref 84) _) _ _ _)); (fail_if_success (with_reducible show wpAny _ _ (call (Value.ref 87) _) _ _ _)); (fail_if_success (with_reducible show InvEndN _ _ _ _ _ _ _)); (fail_if_success (with_reducible show wpAny _ _ (eval (Expr.ListComp _ _ _ _) _) _ _ _)); first | walk1 | (dsimp only; walk1) | (leave1; walk_say "STEP leave1"; try dsimp only)) | fail "no step"))
      have hSA : SelIn fy ys7 (selA (i + 1)) := hS4
      have hSB : SelIn fy ys5 (selB p.length (total + i + 1)) := hS3
      have zA : ((List.range p.length).map (lapF p) ++ nc).length = p.length + 6 := by rw [List.length_append, List.length_map, List.length_range, hcl]
      have zB : ((List.range r.length).map (lapF r) ++ no).length = p.length + 6 := by rw [List.length_append, List.length_map, List.length_range, hol, hlen]
      have yA := told_20 zA hp3
      have yB := told_20 zB hp3
      have okA := selA_ok (k := i + 1) (n := p.length + 6) (told_A hi6)
      have okB := selB_ok (z := p.length) (k := total + i + 1) (n := p.length + 6) (Nat.add_le_add_left hi6 _)
      k_dflt (refine' cmp_use (selA (i + 1)) ((List.range p.length).map (lapF p) ++ nc) ((List.range r.length).map (lapF r) ++ no) ?Bp1 ?Fp1 ?Xp1 ?Np1 ?Tp1 ?Kp1 ?xp1 ?dp1 ?lp1 ?ap1 ?rp1 ?Sp1 ?ip1 ?jp1 (zB.trans zA.symm) (zA ▸ okA) yA ?dpp1 ?unp1 ?cp1 ?ep1 (toldF nc no total (i + 1)) hok9.1 ?_; (case Bp1 => k_asm); (case Fp1 => k_asm); (case Xp1 => k_asm); (case Np1 => k_asm); (case Tp1 => k_asm); (case Kp1 => first | exact rfl | assumption); (case xp1 => k_mem); (case dp1 => k_mem); (case lp1 => k_mem); (case ap1 => k_mem); (case rp1 => k_mem); (case Sp1 => exact SelIn.mono hSA (fun p hp => by repeat (first | exact hp | refine List.Mem.tail _ ?_))); (case ip1 => assumption); (case jp1 => assumption); (case dpp1 => ktr_room); (case unp1 => ktr_units); (case cp1 => assumption); (case ep1 => assumption); k_whole)
      intro tp1 hp1 tkp1 Fp1 Np1
      (try dsimp only)
      (try k_fold)
      (repeat' (first | (k_unfold; (try dsimp only)) | (k_end; wrow_close) | ((fail_if_success (fail_if_success (with_reducible show wpAny _ _ (exec _ _) _ _ _))); k_fold) | ((fail_if_success (fail_if_success (with_reducible show wpAny _ _ (execs (_ :: _) _) _ _ (Shared.mk _ _ _ (HAdd.hAdd _ _) _)))); refine flat (s := s) rfl rfl rfl (fun _ => ?_)) | ((fail_if_success (with_reducible refine RangeRest.succ ?_)); (fail_if_success (with_reducible show LCg.CompSrc _ _ _ _ _ _ _ _ _ _ _ _ _ _)); (fail_if_success (with_reducible show UnrEnd _ _ _ _ _ _ _)); (fail_if_success (with_reducible show wpAny _ _ (pyIter _) _ _ _)); (fail_if_success (with_reducible show wpAny _ _ (call (Value.ref 84) _) _ _ _)); (fail_if_success (with_reducible show wpAny _ _ (call (Value.ref 87) _) _ _ _)); (fail_if_success (with_reducible show InvEndN _ _ _ _ _ _ _)); (fail_if_success (with_reducible show wpAny _ _ (eval (Expr.ListComp _ _ _ _) _) _ _ _)); first | walk1 | (dsimp only; walk1) | (leave1; walk_say "STEP leave1"; try dsimp only)) | fail "no step"))
      k_dflt (refine' cmp_use (selB p.length (total + i + 1)) ((List.range p.length).map (lapF p) ++ nc) ((List.range r.length).map (lapF r) ++ no) ?Bp2 ?Fp2 ?Xp2 ?Np2 ?Tp2 ?Kp2 ?xp2 ?dp2 ?lp2 ?ap2 ?rp2 ?Sp2 ?ip2 ?jp2 (zB.trans zA.symm) (zA ▸ okB) yA ?dpp2 ?unp2 ?cp2 ?ep2 (toldF nc no total (i + 1)) hok9.2.1 ?_; (case Bp2 => k_asm); (case Fp2 => k_asm); (case Xp2 => k_asm); (case Np2 => k_asm); (case Tp2 => k_asm); (case Kp2 => first | exact rfl | assumption); (case xp2 => k_mem); (case dp2 => k_mem); (case lp2 => k_mem); (case ap2 => k_mem); (case rp2 => k_mem); (case Sp2 => exact SelIn.mono hSB (fun p hp => by repeat (first | exact hp | refine List.Mem.tail _ ?_))); (case ip2 => assumption); (case jp2 => assumption); (case dpp2 => ktr_room); (case unp2 => ktr_units); (case cp2 => assumption); (case ep2 => assumption); k_whole)
      intro tp2 hp2 tkp2 Fp2 Np2
      (try dsimp only)
      (try k_fold)
      (repeat' (first | (k_unfold; (try dsimp only)) | (k_end; wrow_close) | ((fail_if_success (fail_if_success (with_reducible show wpAny _ _ (exec _ _) _ _ _))); k_fold) | ((fail_if_success (fail_if_success (with_reducible show wpAny _ _ (execs (_ :: _) _) _ _ (Shared.mk _ _ _ (HAdd.hAdd _ _) _)))); refine flat (s := s) rfl rfl rfl (fun _ => ?_)) | ((fail_if_success (with_reducible refine RangeRest.succ ?_)); (fail_if_success (with_reducible show LCg.CompSrc _ _ _ _ _ _ _ _ _ _ _ _ _ _)); (fail_if_success (with_reducible show UnrEnd _ _ _ _ _ _ _)); (fail_if_success (with_reducible show wpAny _ _ (pyIter _) _ _ _)); (fail_if_success (with_reducible show wpAny _ _ (call (Value.ref 84) _) _ _ _)); (fail_if_success (with_reducible show wpAny _ _ (call (Value.ref 87) _) _ _ _)); (fail_if_success (with_reducible show InvEndN _ _ _ _ _ _ _)); (fail_if_success (with_reducible show wpAny _ _ (eval (Expr.ListComp _ _ _ _) _) _ _ _)); first | walk1 | (dsimp only; walk1) | (leave1; walk_say "STEP leave1"; try dsimp only)) | fail "no step"))
      k_dflt (refine' cmp_use (selA (i + 1)) ((List.range r.length).map (lapF r) ++ no) ((List.range p.length).map (lapF p) ++ nc) ?Bp3 ?Fp3 ?Xp3 ?Np3 ?Tp3 ?Kp3 ?xp3 ?dp3 ?lp3 ?ap3 ?rp3 ?Sp3 ?ip3 ?jp3 (zA.trans zB.symm) (zB ▸ okA) yB ?dpp3 ?unp3 ?cp3 ?ep3 (-toldF nc no total (i + 1)) hok9.2.2.1 ?_; (case Bp3 => k_asm); (case Fp3 => k_asm); (case Xp3 => k_asm); (case Np3 => k_asm); (case Tp3 => k_asm); (case Kp3 => first | exact rfl | assumption); (case xp3 => k_mem); (case dp3 => k_mem); (case lp3 => k_mem); (case ap3 => k_mem); (case rp3 => k_mem); (case Sp3 => exact SelIn.mono hSA (fun p hp => by repeat (first | exact hp | refine List.Mem.tail _ ?_))); (case ip3 => assumption); (case jp3 => assumption); (case dpp3 => ktr_room); (case unp3 => ktr_units); (case cp3 => assumption); (case ep3 => assumption); k_whole)
      intro tp3 hp3 tkp3 Fp3 Np3
      (try dsimp only)
      (try k_fold)
      (repeat' (first | (k_unfold; (try dsimp only)) | (k_end; wrow_close) | ((fail_if_success (fail_if_success (with_reducible show wpAny _ _ (exec _ _) _ _ _))); k_fold) | ((fail_if_success (fail_if_success (with_reducible show wpAny _ _ (execs (_ :: _) _) _ _ (Shared.mk _ _ _ (HAdd.hAdd _ _) _)))); refine flat (s := s) rfl rfl rfl (fun _ => ?_)) | ((fail_if_success (with_reducible refine RangeRest.succ ?_)); (fail_if_success (with_reducible show LCg.CompSrc _ _ _ _ _ _ _ _ _ _ _ _ _ _)); (fail_if_success (with_reducible show UnrEnd _ _ _ _ _ _ _)); (fail_if_success (with_reducible show wpAny _ _ (pyIter _) _ _ _)); (fail_if_success (with_reducible show wpAny _ _ (call (Value.ref 84) _) _ _ _)); (fail_if_success (with_reducible show wpAny _ _ (call (Value.ref 87) _) _ _ _)); (fail_if_success (with_reducible show InvEndN _ _ _ _ _ _ _)); (fail_if_success (with_reducible show wpAny _ _ (eval (Expr.ListComp _ _ _ _) _) _ _ _)); first | walk1 | (dsimp only; walk1) | (leave1; walk_say "STEP leave1"; try dsimp only)) | fail "no step"))
      k_dflt (refine' cmp_use (selB p.length (total + i + 1)) ((List.range r.length).map (lapF r) ++ no) ((List.range p.length).map (lapF p) ++ nc) ?Bp4 ?Fp4 ?Xp4 ?Np4 ?Tp4 ?Kp4 ?xp4 ?dp4 ?lp4 ?ap4 ?rp4 ?Sp4 ?ip4 ?jp4 (zA.trans zB.symm) (zB ▸ okB) yB ?dpp4 ?unp4 ?cp4 ?ep4 (-toldF nc no total (i + 1)) hok9.2.2.2 ?_; (case Bp4 => k_asm); (case Fp4 => k_asm); (case Xp4 => k_asm); (case Np4 => k_asm); (case Tp4 => k_asm); (case Kp4 => first | exact rfl | assumption); (case xp4 => k_mem); (case dp4 => k_mem); (case lp4 => k_mem); (case ap4 => k_mem); (case rp4 => k_mem); (case Sp4 => exact SelIn.mono hSB (fun p hp => by repeat (first | exact hp | refine List.Mem.tail _ ?_))); (case ip4 => assumption); (case jp4 => assumption); (case dpp4 => ktr_room); (case unp4 => ktr_units); (case cp4 => assumption); (case ep4 => assumption); k_whole)
      intro tp4 hp4 tkp4 Fp4 Np4
      (try dsimp only)
      (try k_fold)
      (repeat' (first | (k_unfold; (try dsimp only)) | (k_end; wrow_close) | ((fail_if_success (fail_if_success (with_reducible show wpAny _ _ (exec _ _) _ _ _))); k_fold) | ((fail_if_success (fail_if_success (with_reducible show wpAny _ _ (execs (_ :: _) _) _ _ (Shared.mk _ _ _ (HAdd.hAdd _ _) _)))); refine flat (s := s) rfl rfl rfl (fun _ => ?_)) | ((fail_if_success (with_reducible refine RangeRest.succ ?_)); (fail_if_success (with_reducible show LCg.CompSrc _ _ _ _ _ _ _ _ _ _ _ _ _ _)); (fail_if_success (with_reducible show UnrEnd _ _ _ _ _ _ _)); (fail_if_success (with_reducible show wpAny _ _ (pyIter _) _ _ _)); (fail_if_success (with_reducible show wpAny _ _ (call (Value.ref 84) _) _ _ _)); (fail_if_success (with_reducible show wpAny _ _ (call (Value.ref 87) _) _ _ _)); (fail_if_success (with_reducible show InvEndN _ _ _ _ _ _ _)); (fail_if_success (with_reducible show wpAny _ _ (eval (Expr.ListComp _ _ _ _) _) _ _ _)); first | walk1 | (dsimp only; walk1) | (leave1; walk_say "STEP leave1"; try dsimp only)) | fail "no step"))
      refine' ⟨_, _, _, _, _, rfl, ?eF, ?eN, ?e1, ?e2, rfl, rfl, ?eT, ?eA⟩
      case eF => k_asm
      case eN => k_asm
      case e1 => exact fun p hp => List.Mem.tail _ (List.Mem.tail _ (List.Mem.tail _ (List.Mem.tail _ (List.Mem.tail _ (List.Mem.tail _ (List.Mem.tail _ (List.Mem.tail _ (List.Mem.tail _ (List.Mem.tail _ (List.mem_append_left fy hp))))))))))
      case e2 => exact fun p hp => List.Mem.tail _ (List.Mem.tail _ (List.Mem.tail _ (List.Mem.tail _ (List.Mem.tail _ (List.Mem.tail _ (List.Mem.tail _ (List.Mem.tail _ (List.Mem.tail _ (List.Mem.tail _ (List.Mem.tail _ (List.Mem.tail _ (List.Mem.tail _ (List.Mem.tail _ (List.Mem.tail _ (List.Mem.tail _ (ho4 p hp))))))))))))))))
      case eT => exact ⟨_, rfl⟩
      case eA => exact .put rfl (.put rfl (.put rfl (.put rfl (.put rfl .base))))
  case done =>
    intro m9 h9 tk9 F9 N9
    (try dsimp only)
    (try k_fold)
    (repeat' (first | (k_unfold; (try dsimp only)) | (k_end; wrow_close) | ((fail_if_success (fail_if_success (with_reducible show wpAny _ _ (exec _ _) _ _ _))); k_fold) | ((fail_if_success (fail_if_success (with_reducible show wpAny _ _ (execs (_ :: _) _) _ _ (Shared.mk _ _ _ (HAdd.hAdd _ _) _)))); refine flat (s := s) rfl rfl rfl (fun _ => ?_)) | ((fail_if_success (with_reducible refine RangeRest.succ ?_)); (fail_if_success (with_reducible show LCg.CompSrc _ _ _ _ _ _ _ _ _ _ _ _ _ _)); (fail_if_success (with_reducible show UnrEnd _ _ _ _ _ _ _)); (fail_if_success (with_reducible show wpAny _ _ (pyIter _) _ _ _)); (fail_if_success (with_reducible show wpAny _ _ (call (Value.ref 84) _) _ _ _)); (fail_if_success (with_reducible show wpAny _ _ (call (Value.ref 87) _) _ _ _)); (fail_if_success (with_reducible show InvEndN _ _ _ _ _ _ _)); (fail_if_success (with_reducible show wpAny _ _ (eval (Expr.ListComp _ _ _ _) _) _ _ _)); first | walk1 | (dsimp only; walk1) | (leave1; walk_say "STEP leave1"; try dsimp only)) | fail "no step"))
    exact ctr_end (led' := []) hret kG9 (by k_asm) (by k_asm) (by k_asm) (by k_asm) (fun _ h => nomatch h) ⟨rfl, rfl⟩
end Mine
end
section
open PySem PySem.W PyProof.Rows PySem.Calls PySem.Spec PyProof.Rows.LCg PyProof.Rows.LCp
set_option maxHeartbeats 0
namespace Mine
section
variable {prog : Program} {w : World} {A : Around} {E : Value → Shared → Prop} {s : Shared} {h₀ : Heap} {L : Addr} {m : Str → Option Value} {env : Env}
noncomputable abbrev lcE (elt iter : Expr) (x x₂ : Str) (px px₂ tp : Pos) (k : Nat) (scope : Scope) (pos : Pos) : Expr := .ListComp elt [⟨.Tuple [.Name x px, .Name x₂ px₂] k tp, iter, [], 0⟩] scope pos
/-- an enumerate over a list at hand, and what a turn and the end want -/
inductive EnumSrc (prog : Program) (w : World) (A : Around) (h₀ : Heap) (L : Addr) (m : Str → Option Value) (env : Env) (elt : Expr) (x x₂ y : Str) (scope : Scope) (cl : List (Str × Addr)) (Q : Flow → Shared → Prop) : Value → Shared → Prop
  | mk {s₁ : Shared} (e it l : Addr) (lo : Obj) (n : Nat) (vs : List Value) (news : List (Addr × Obj)) (f : Nat → Int) (hA : A.handled = none) (hvs : vs.length < 100) (hE : IsEnum s₁.heap e it 0 .none) (hI : s₁.heap.IsListIter it l 0) (hlc : lo.cls = .type "list") (hld : lo.data = .seq vs.toArray n) (hlm : (l, lo) ∈ news) (F : Fr h₀ L s₁.heap m) (N : News h₀ L s₁.heap news)
    (hei : e ≠ it) (heL : e ≠ L) (hiL : it ≠ L) (he₀ : h₀.get? e = none) (hi₀ : h₀.get? it = none) (hoff : ∀ p ∈ news, p.1 ≠ e ∧ p.1 ≠ it)
    (rule : ∀ (i : Nat) v t oe oi C oC D m₂ h tk ys (E' : Value → Shared → Prop) (Q' : Value → Shared → Prop), vs[i]? = some v → NsObj oC m₂ → m₂ x = some (.int (i : Int) t) → m₂ x₂ = some v → Fr h₀ L h m → News h₀ L h ((e, oe) :: (it, oi) :: (C, oC) :: (D, lst ys) :: news) →
      (∀ t' h' tk', Fr h₀ L h' m → News h₀ L h' ((e, oe) :: (it, oi) :: (C, oC) :: (D, lst ys) :: news) → Q' (.int (f i) t') { s₁ with heap := h', toks := tk' }) →
      wpAny (model prog w) A (eval elt (compEnvC scope cl C env)) Q' E' { s₁ with heap := h, toks := tk })
    (fin : ∀ D ys h tk, IntsAre ys ((List.range vs.length).map f) → Fr h₀ L h (fun z => if z = y then some (.ref D) else m z) → News h₀ L h ((D, lst ys) :: news) → Q .next { s₁ with heap := h, toks := tk }) : EnumSrc prog w A h₀ L m env elt x x₂ y scope cl Q (.ref e) s₁
inductive EnumInv (s₁ : Shared) (h₀ : Heap) (L e it l D C : Addr) (vs : List Value) (f : Nat → Int) (m : Str → Option Value) (news : List (Addr × Obj)) : Nat → Shared → Prop
  | mk (h : Heap) (tk i : Nat) (ys : List Value) (m' : Str → Option Value) (hi : i ≤ vs.length) (hys : IntsAre ys ((List.range i).map f)) (hst : (∃ old, IsEnum h e it (i : Nat) old) ∧ h.IsListIter it l i ∧ h.IsList l vs.toArray) (F : Fr h₀ L h m) (hn : h.Ns C m') (N : News h₀ L h ((D, lst ys) :: news)) : EnumInv s₁ h₀ L e it l D C vs f m news (vs.length + 1 - i) { s₁ with heap := h, toks := tk }
theorem Assign_enum {elt iter : Expr} {x x₂ y : Str} {px px₂ tp py : Pos} {k : Nat} {scope : Scope} {cl : List (Str × Addr)} {pos spos : Pos} {Q : Flow → Shared → Prop} (_F₀ : Fr h₀ L s.heap m) (hLe : env.locals = L)
    (hsw : swapsWith (lcE elt iter x x₂ px px₂ tp k scope pos) (some (.Name y py)) spos.line env = pure true)
    (hclos : closureFor scope env = pure cl) (hcell : ∀ z ∈ scope.names, z.2 ≠ .cell) (hkind : scope.kind = .function)
    (hnames : ∀ z ∈ scope.names, z.2 = .local → scope.names.lookup z.1 = some .local) (hx : scope.names.lookup x = some .local) (hx₂ : scope.names.lookup x₂ = some .local) (hxx : x ≠ x₂)
    (hy : env.kindOf y = some .local) (hp : (env.scope.kind == .class || (env.scope.kind == .module && env.locals != env.globals)) = false)
    (hi : wpAny (model prog w) A (eval iter env) (EnumSrc prog w A h₀ L m env elt x x₂ y scope cl Q) E s)
    (hs : ∀ x, foldedSetIterable iter env x = pure x := by intro _; rfl) :
    wpAny (model prog w) A (exec (.Assign [.Name y py] (lcE elt iter x x₂ px px₂ tp k scope pos) spos) env) Q E s := by
  subst hLe
  rw [exec_Assign_Name_used _ _ _ _ hsw]
  refine wpAny_bind (wpAny_standAt (wpAny_bind ?_))
  show wpAny _ A (do let _ ← comprehension (lcE elt iter x x₂ px px₂ tp k scope pos) scope env _ (newList []) false (eval iter env) (some (assign (.Name y py) env))) _ _ s
  refine wpAny_bind (wpAny_mono (wpAny_comprehension_free (use := some (assign (.Name y py) env)) (Q := fun _ s' => Q .next s') rfl hs hclos hkind hnames
    (wpAny_mono hi (fun xv s₁ h₁ => ?_) fun _ _ e => e)) (fun _ s' hq => wpAny_pure (wpAny_pure hq)) fun _ _ e => e)
  obtain ⟨e, it, l, lo, nn, vs, news, f, hA, hvs, hE, hI, hlc, hld, hlm, F, N, hei, heL, hiL, he₀, hi₀, hoff, rule, fin⟩ := h₁
  refine wpAny_pyIter_enum hE ?_
  refine wpAny_newObj_type (wpAny_newFunctionEnv hcell (by intro y hy; simp at hy) (fun h₁ hns₁ hsb₁ => ?_) hkind)
  dsimp only at hns₁ hsb₁ ⊢
  generalize hH2 : s₁.heap.push { cls := .type "list", dict := none, data := .seq ([] : List Value).toArray } = H2 at hns₁ hsb₁ ⊢
  have hC : H2.objs.size = s₁.heap.objs.size + 1 := by rw [← hH2, Heap.size_push]
  have hll : s₁.heap.IsList l vs.toArray := ⟨lo, (N _ hlm).1, hlc, nn, hld⟩
  have olt : ∀ b o, s₁.heap.get? b = some o → b ≠ s₁.heap.objs.size ∧ b ≠ H2.objs.size := fun b o q => ⟨Nat.ne_of_lt (Heap.lt_size q), Nat.ne_of_lt (Nat.lt_trans (Heap.lt_size q) (by omega))⟩
  have old : ∀ b o, s₁.heap.get? b = some o → h₁.get? b = some o := fun b o q => hsb₁.extBut b o (olt b o q).2 (Heap.get?_push_of_some _ (hH2 ▸ Heap.get?_push_of_some _ q))
  have hDC : s₁.heap.objs.size ≠ H2.objs.size := by omega
  have hacc : h₁.get? s₁.heap.objs.size = some (lst []) := hsb₁.extBut _ _ hDC (Heap.get?_push_of_some _ (hH2 ▸ Heap.get?_push_size _ rfl))
  have fr₀ : ∀ b, s₁.heap.objs.size ≤ b → h₀.get? b = none := fun b hb => by
    cases q : h₀.get? b with
    | none => rfl
    | some o => exact absurd (Heap.lt_size (F.keep b o q)) (Nat.not_lt.mpr hb)
  have hLlt : env.locals < s₁.heap.objs.size := F.ns.lt
  have eN : ∃ o, s₁.heap.get? e = some o := ⟨_, hE⟩
  have iN : ∃ o, s₁.heap.get? it = some o := by obtain ⟨o, q, _⟩ := hI; exact ⟨o, q⟩
  obtain ⟨oe0, heo⟩ := eN
  obtain ⟨oi0, hio⟩ := iN
  have hD₀ : h₀.get? s₁.heap.objs.size = none := fr₀ _ (Nat.le_refl _)
  have hC₀ : h₀.get? H2.objs.size = none := fr₀ _ (by omega)
  have hDe := (olt e _ heo).1
  have hCe := (olt e _ heo).2
  have hDi := (olt it _ hio).1
  have hCi := (olt it _ hio).2
  have hDL : s₁.heap.objs.size ≠ env.locals := Nat.ne_of_gt hLlt
  have hCL : H2.objs.size ≠ env.locals := Nat.ne_of_gt (Nat.lt_trans hLlt (by omega))
  have hnD : ∀ p ∈ news, p.1 ≠ s₁.heap.objs.size := fun p hp => (olt p.1 _ (N p hp).1).1
  have hnC : ∀ p ∈ news, p.1 ≠ H2.objs.size := fun p hp => (olt p.1 _ (N p hp).1).2
  have hle : l ≠ e := (hoff _ hlm).1
  have hli : l ≠ it := (hoff _ hlm).2
  have hlD : l ≠ s₁.heap.objs.size := hnD _ hlm
  have hlC : l ≠ H2.objs.size := hnC _ hlm
  have W := KTurns.ofWalksU (elts := [.Name x px, .Name x₂ px₂]) (k := k) (pos := tp) (WalksT.enumerate (prog := prog) (w := w) hA e it l hei hle hli vs.toArray).toU
  have hst0 : (∃ old, IsEnum h₁ e it (0 : Nat) old) ∧ h₁.IsListIter it l 0 ∧ h₁.IsList l vs.toArray := ⟨⟨_, old _ _ hE⟩, hI.at fun o q => old _ o q, hll.at fun o q => old _ o q⟩
  generalize s₁.heap.objs.size = D at *
  generalize H2.objs.size = C at *
  clear hH2 hsb₁
  have hsz : vs.toArray.size = vs.length := List.size_toArray ..
  rw [hsz] at W
  have loop : ∀ s₃ : Shared, s₃ = { s₁ with heap := h₁, toks := s₁.toks + ([] : List (Str × Value)).length } →
      codeAny (model prog w) A (.compLoop (lcE elt iter x x₂ px px₂ tp k scope pos) 0 (.ref e) (.ref D) (compEnvC scope cl C env))
        (compPost (model prog w) A E (some (assign (.Name y py) env)) (fun _ s' => Q .next s') (.ref D) C) s₃ := by
    rintro s₃ rfl
    refine codeAny_compLoop_pair
      (EnumInv s₁ h₀ env.locals e it l D C vs f m news) ?_ (vs.length + 1)
      (.mk h₁ _ 0 [] _ (Nat.zero_le _) .nil hst0 (F.keeps old) hns₁ fun p hp => ?_)
    · rintro _ _ ⟨h, tk, i, ys, m', hi', hys, hst, F', hn', N'⟩
      by_cases hlt : i < vs.length
      · refine W.item i _ _ _ hlt hst fun v h₂ tk₂ hMd hk₂ => ?_
        refine W.go i v _ _ _ hMd fun h₃ hP₃ hst₃ hk₃ => ?_
        obtain ⟨T, vals, rfl, ⟨t, u, hu, rfl⟩, hT⟩ := hP₃
        have kk : ∀ b o, b ≠ e → b ≠ it → h.get? b = some o → h₃.get? b = some o := fun b o q1 q2 q => hk₃ b o (by simp [q1, q2]) (hk₂ b o (by simp [q1, q2]) q)
        refine assign_Tuple_tuple hA hT rfl rfl fun h₄ he₄ => ?_
        have kk4 : ∀ b o, h₃.get? b = some o → h₄.get? b = some o := fun b o q => he₄ b o (Nat.ne_of_lt (Heap.lt_size q)) q
        refine assignInOrder_cons (wpAny_assign_Name (wpAny_storeName_local (lookup_relabel_local hx) ((hn'.at' fun o q => kk _ o (Ne.symm hCe) (Ne.symm hCi) q).at' fun o q => kk4 _ o q) (fun h₅ hn₅ hs₅ => ?_) (by simp [compEnvC, relabel, hkind])))
        refine assignInOrder_cons (wpAny_assign_Name (wpAny_storeName_local (lookup_relabel_local hx₂) hn₅ (fun h₆ hn₆ hs₆ => ?_) (by simp [compEnvC, relabel, hkind])))
        refine assignInOrder_nil ?_
        have k6 : ∀ b o, b ≠ C → h₃.get? b = some o → h₆.get? b = some o := fun b o hb q => hs₆.extBut b o hb (hs₅.extBut b o hb (kk4 b o q))
        have st₆ := W.frame _ _ h₆ hst₃ fun b hb o q => k6 b o (by
          rcases List.mem_cons.mp hb with rfl | hb
          · exact hCe
          · rcases List.mem_cons.mp hb with rfl | hb
            · exact hCi
            · rw [List.mem_singleton.mp hb]; exact hlC) q
        obtain ⟨⟨ol, hE₆⟩, hI₆, hl₆⟩ := st₆
        obtain ⟨oi, hoi, hIc⟩ := id hI₆
        obtain ⟨oC, heC, hoC⟩ := ns_obj hn₆
        have F₆ : Fr h₀ env.locals h₆ m := ⟨F'.ns.at' fun o q => k6 _ o (Ne.symm hCL) (kk _ o (Ne.symm heL) (Ne.symm hiL) q), fun b o q => k6 b o (fun z => by rw [z, hC₀] at q; cases q) (kk b o (fun z => by rw [z, he₀] at q; cases q) (fun z => by rw [z, hi₀] at q; cases q) (F'.keep b o q)), F'.above⟩
        have k7 : ∀ b o, b ≠ C → b ≠ e → b ≠ it → h.get? b = some o → h₆.get? b = some o := fun b o q1 q2 q3 q => k6 b o q1 (kk b o q2 q3 q)
        have N₆ : News h₀ env.locals h₆ ((e, _) :: (it, oi) :: (C, oC) :: (D, lst ys) :: news) := fun p hp => by
          rcases List.mem_cons.mp hp with rfl | hp
          · exact ⟨hE₆, heL, he₀⟩
          rcases List.mem_cons.mp hp with rfl | hp
          · exact ⟨hoi, hiL, hi₀⟩
          rcases List.mem_cons.mp hp with rfl | hp
          · exact ⟨heC, hCL, hC₀⟩
          rcases List.mem_cons.mp hp with rfl | hp
          · exact ⟨k7 _ _ hDC (Ne.symm hDe) (Ne.symm hDi) (N' _ (List.Mem.head _)).1, hDL, hD₀⟩
          · exact ⟨k7 _ _ (hnC p hp) (hoff p hp).1 (hoff p hp).2 (N' p (List.Mem.tail _ hp)).1, (N p hp).2⟩
        refine rule i u t _ oi C oC D _ h₆ _ ys _ _ (by simpa using hu) hoC (by simp [hxx]) (by simp) F₆ N₆ fun t' h₇ tk₇ F₇ N₇ => ?_
        have zD := (N₇ _ (List.Mem.tail _ (List.Mem.tail _ (List.Mem.tail _ (List.Mem.head _))))).1
        have hyl : ys.length = i := by rw [hys.length, List.length_map, List.length_range]
        refine append_at (hsz := by show ys.toArray.size ≤ 2 ^ 24; rw [List.size_toArray, hyl]; omega) zD fun h₈ hs₈ hD₈ => ?_
        have k8 : ∀ b o, b ≠ D → h₇.get? b = some o → h₈.get? b = some o := fun b o hb q => hs₈.extBut b o hb q
        refine ⟨vs.length + 1 - (i + 1), sub_step hlt, .mk h₈ tk₇ (i + 1) (ys ++ [.int (f i) t']) _ hlt ?_ ?_ (F₇.change hs₈ hDL hD₀) ((hoC.ns (N₇ _ (List.Mem.tail _ (List.Mem.tail _ (List.Mem.head _)))).1).sameBut hs₈ (Ne.symm hDC)) fun p hp => ?_⟩
        · rw [List.range_succ, List.map_append]
          exact hys.append (.cons _ _ .nil)
        · refine ⟨⟨ol, k8 _ _ hDe (N₇ _ (List.Mem.head _)).1⟩, ⟨oi, k8 _ _ hDi (N₇ _ (List.Mem.tail _ (List.Mem.head _))).1, hIc⟩, ⟨lo, k8 _ _ hlD (N₇ _ (List.Mem.tail _ (List.Mem.tail _ (List.Mem.tail _ (List.Mem.tail _ hlm))))).1, hlc, nn, hld⟩⟩
        · rcases List.mem_cons.mp hp with rfl | hp
          · exact ⟨hD₈.trans (congrArg some (lst_snoc ys _)), hDL, hD₀⟩
          · exact ⟨k8 _ _ (hnD p hp) (N₇ p (List.Mem.tail _ (List.Mem.tail _ (List.Mem.tail _ (List.Mem.tail _ hp))))).1, (N p hp).2⟩
      · obtain rfl : i = vs.length := Nat.le_antisymm hi' (Nat.not_lt.mp hlt)
        refine W.done _ _ _ hst fun h₂ tk₂ hk₂ => ?_
        have kk : ∀ b o, b ≠ e → b ≠ it → h.get? b = some o → h₂.get? b = some o := fun b o q1 q2 q => hk₂ b o (by simp [q1, q2]) q
        have F₂ : Fr h₀ env.locals h₂ m := ⟨F'.ns.at' fun o q => kk _ o (Ne.symm heL) (Ne.symm hiL) q, fun b o q => kk b o (fun z => by rw [z, he₀] at q; cases q) (fun z => by rw [z, hi₀] at q; cases q) (F'.keep b o q), F'.above⟩
        have N₂ : News h₀ env.locals h₂ ((D, lst ys) :: news) := fun p hp => by
          rcases List.mem_cons.mp hp with rfl | hp
          · exact ⟨kk _ _ (Ne.symm hDe) (Ne.symm hDi) (N' _ (List.Mem.head _)).1, hDL, hD₀⟩
          · exact ⟨kk _ _ (hoff p hp).1 (hoff p hp).2 (N' p (List.Mem.tail _ hp)).1, (N p hp).2⟩
        show wpAny _ A (assign (.Name y py) env (.ref D)) _ _ _
        refine wpAny_assign_Name (wpAny_storeName_local hy F₂.ns (fun h₄ hn₄ hs₄ => ?_) hp)
        have F₄ : Fr h₀ env.locals h₄ (fun z => if z = y then some (.ref D) else m z) := F₂.set hn₄ hs₄
        refine ⟨m', (hn'.at' fun o q => kk _ o (Ne.symm hCe) (Ne.symm hCi) q).sameBut hs₄ hCL, fun h₅ hs₅ => ?_⟩
        refine fin D ys h₅ _ hys (F₄.change hs₅ hCL hC₀) (fun p hp => ?_)
        refine ⟨hs₅.extBut _ _ ?_ (hs₄.extBut _ _ (N₂ p hp).2.1 (N₂ p hp).1), (N₂ p hp).2⟩
        rcases List.mem_cons.mp hp with rfl | hp
        · exact hDC
        · exact hnC p hp
    · rcases List.mem_cons.mp hp with rfl | hp
      · exact ⟨hacc, hDL, hD₀⟩
      · exact ⟨old _ _ (N p hp).1, (N p hp).2⟩
  exact codeAny_compStart_list (loop _ rfl) (wpAny_pyIter_enum hst0.1.choose_spec (loop _ rfl))
theorem enum_src {elt : Expr} {x x₂ y : Str} {scope : Scope} {cl : List (Str × Addr)} {Q : Flow → Shared → Prop} {l : Addr} {lo : Obj} {n : Nat} {vs : List Value} {news : List (Addr × Obj)} (f : Nat → Int)
    (hh : A.handled = none) (F : Fr h₀ L s.heap m) (N : News h₀ L s.heap news) (hm : (l, lo) ∈ news) (hlc : lo.cls = .type "list") (hld : lo.data = .seq vs.toArray n) (hvs : vs.length < 100)
    (rule : ∀ e it (g : Heap) (i : Nat) v t oe oi C oC D m₂ h tk ys (E' : Value → Shared → Prop) (Q' : Value → Shared → Prop), vs[i]? = some v → NsObj oC m₂ → m₂ x = some (.int (i : Int) t) → m₂ x₂ = some v → Fr h₀ L h m → News h₀ L h ((e, oe) :: (it, oi) :: (C, oC) :: (D, lst ys) :: news) →
      (∀ t' h' tk', Fr h₀ L h' m → News h₀ L h' ((e, oe) :: (it, oi) :: (C, oC) :: (D, lst ys) :: news) → Q' (.int (f i) t') { s with heap := h', toks := tk' }) →
      wpAny (model prog w) A (eval elt (compEnvC scope cl C env)) Q' E' { s with heap := h, toks := tk })
    (fin : ∀ D ys h tk, IntsAre ys ((List.range vs.length).map f) → Fr h₀ L h (fun z => if z = y then some (.ref D) else m z) → News h₀ L h ((D, lst ys) :: news) → Q .next { s with heap := h, toks := tk }) :
    wpAny (model prog w) A (call (.type "enumerate") [.ref l]) (EnumSrc prog w A h₀ L m env elt x x₂ y scope cl Q) E s := by
  have hl : s.heap.IsList l vs.toArray := ⟨lo, (N _ hm).1, hlc, n, hld⟩
  refine call_enumerate_list hl fun h' hE hI hsz hk => ?_
  have hLlt : L < s.heap.objs.size := F.ns.lt
  have new : ∀ b, s.heap.objs.size ≤ b → h₀.get? b = none := fun b hb => ktu_new F hb
  refine .mk _ _ l lo n vs news f hh hvs hE hI hlc hld hm (F.keeps hk) (N.grown hk) (Nat.succ_ne_self _) (Nat.ne_of_gt (Nat.lt_succ_of_lt hLlt)) (Nat.ne_of_gt hLlt) (new _ (Nat.le_succ _)) (new _ (Nat.le_refl _)) (fun p hp => ?_) (fun i => rule _ _ h' i) fin
  have := Heap.lt_size (N p hp).1
  exact ⟨Nat.ne_of_lt (Nat.lt_succ_of_lt this), Nat.ne_of_lt this⟩
end
end Mine
end
section
open PySem PySem.Builtin PySem.Builtin.Str
namespace Mine
noncomputable def preL : List Nat → List Nat → Option (List Nat)
  | [], t => some t
  | _ :: _, [] => none
  | c :: w, d :: t => bif Nat.beq c d then preL w t else none
noncomputable def cutL (w : List Nat) : List Nat → Option (List Nat)
  | [] => preL w []
  | d :: t => match preL w (d :: t) with | some r => some r | none => cutL w t
noncomputable def seekL : List (List Nat) → List Nat → Bool
  | [], _ => true
  | w :: ws, t => match cutL w t with | none => false | some r => seekL ws r
noncomputable def sufL (p t : List Nat) : Option (List Nat) := match preL p.reverse t.reverse with | none => none | some r => some r.reverse
noncomputable def em5L (p0 p1 p2 p3 p4 t : List Nat) : Bool := match preL p0 t with | none => false | some t' => match sufL p4 t' with | none => false | some u => seekL [p1, p2, p3] u
/-- the text of these letters -/
noncomputable abbrev S (l : List Nat) : PySem.Str := ⟨l.toArray⟩
theorem len0 {l : List Nat} (h : (l.length : Int) = 0) : l = [] := List.length_eq_zero_iff.mp (Int.ofNat.inj h)
theorem nlt_add {a b c : Nat} (h : a = b + c) : ¬ (a : Int) < b := by omega
theorem le_add {a b c : Nat} (h : a = b + c) : b ≤ a := h ▸ Nat.le_add_right b c
theorem sub_int {a b c : Nat} (h : a = b + c) : (a : Int) - (c : Int) = (b : Int) := by omega
theorem lt_sub {a b c : Nat} (h : a < c + b) : (a : Int) - (c : Int) < (b : Int) := by omega
theorem nlt_le {a b : Nat} (h : b ≤ a) : ¬ (a : Int) < (b : Int) := fun x => absurd (Int.ofNat_lt.mp x) (Nat.not_lt.mpr h)
theorem le_of_nlt {t v p q : Nat} (h : t = v + p) (hc : ¬ t < p + q) : q ≤ v := by omega
theorem S_len (l : List Nat) : (S l).length = l.length := rfl
theorem preL_some {w t r : List Nat} : preL w t = some r ↔ t = w ++ r := by
  induction w generalizing t with
  | nil => simp [preL, eq_comm]
  | cons c w ih =>
    cases t with
    | nil => simp [preL]
    | cons d t =>
      by_cases e : c = d
      · subst e; simp [preL, ih]
      · have : Nat.beq c d = false := Bool.eq_false_iff.mpr fun h => e (Nat.eq_of_beq_eq_true h)
        simp only [preL, this, cond_false]
        constructor
        · nofun
        · intro h; cases h; exact absurd rfl e
theorem preL_none {w t : List Nat} : preL w t = none ↔ ¬ w <+: t := by
  constructor
  · rintro h ⟨r, hr⟩
    rw [preL_some.mpr hr.symm] at h; cases h
  · intro h
    cases e : preL w t with
    | none => rfl
    | some r => exact absurd ⟨r, (preL_some.mp e).symm⟩ h
theorem cutL_spec (w : List Nat) : ∀ u : List Nat, (cutL w u = none ∧ ∀ j, ¬ w <+: u.drop j) ∨ ∃ j r, cutL w u = some r ∧ u.drop j = w ++ r ∧ j ≤ u.length ∧ ∀ i, i < j → ¬ w <+: u.drop i
  | [] => by
    unfold cutL
    cases e : preL w [] with
    | none => exact .inl ⟨rfl, fun j => by simpa using preL_none.mp e⟩
    | some r => exact .inr ⟨0, r, rfl, preL_some.mp e, Nat.le_refl _, fun i hi => absurd hi (Nat.not_lt_zero i)⟩
  | d :: t => by
    unfold cutL
    cases e : preL w (d :: t) with
    | some r => exact .inr ⟨0, r, rfl, preL_some.mp e, Nat.zero_le _, fun i hi => absurd hi (Nat.not_lt_zero i)⟩
    | none =>
      rcases cutL_spec w t with ⟨h1, h2⟩ | ⟨j, r, h1, h2, h3, h4⟩
      · exact .inl ⟨h1, fun j => match j with | 0 => preL_none.mp e | j + 1 => h2 j⟩
      · exact .inr ⟨j + 1, r, h1, h2, Nat.succ_le_succ h3, fun i hi => match i with | 0 => preL_none.mp e | i + 1 => h4 i (Nat.lt_of_succ_lt_succ hi)⟩
theorem at_iff (t w : List Nat) (k e i : Nat) (he : e ≤ t.length) (hi : k ≤ i) : StrLaws.At (S t) (S w) e i ↔ (i ≤ e ∧ w <+: ((t.take e).drop k).drop (i - k)) := by
  unfold StrLaws.At
  rw [StrLaws.subAt_eq, beq_iff_eq, List.drop_drop, show k + (i - k) = i by omega, S_len]
  show i + w.length ≤ e ∧ (t.drop i).take w.length = w ↔ _
  rw [List.prefix_iff_eq_take, List.drop_take, List.take_take]
  constructor
  · rintro ⟨h1, h2⟩
    exact ⟨by omega, by rw [show min w.length (e - i) = w.length by omega]; exact h2.symm⟩
  · rintro ⟨h1, h2⟩
    have h3 : i + w.length ≤ e := by
      have := congrArg List.length h2
      simp at this
      omega
    exact ⟨h3, by rw [show min w.length (e - i) = w.length by omega] at h2; exact h2.symm⟩
theorem occ_head_in (x y : PySem.Str) (lo hi : Nat) :
    (occurrences x y lo hi 1 = [] ∧ ∀ i, lo ≤ i → ¬ StrLaws.At x y hi i) ∨
    ∃ i r, occurrences x y lo hi 1 = i :: r ∧ lo ≤ i ∧ StrLaws.At x y hi i ∧ ∀ k, lo ≤ k → k < i → ¬ StrLaws.At x y hi k := by
  rw [StrLaws.occ_eq]
  rcases StrLaws.occ_first x y hi 1 (Nat.le_refl _) (List.range' lo (hi + 1 - lo)) lo (fun i hi => by have := List.mem_range'_1.mp hi; omega) with ⟨h0, hn⟩ | ⟨pre, a, post, e, h0, ha, hn⟩
  · refine .inl ⟨by rw [h0], fun i hlo hi => ?_⟩
    exact hn i (by have := hi.1; rw [List.mem_range'_1]; omega) hi
  · have hs := StrLaws.range'_split_from e
    refine .inr ⟨a, ((forIn (List.range' lo (hi + 1 - lo)) ((#[] : Array Nat), lo) (StrLaws.occBody x y hi 1)).run.fst.toList).tail, ?_, hs.1, ha, fun k hk0 hk => hn k (hs.2 k hk0 hk)⟩
    generalize (forIn (List.range' lo (hi + 1 - lo)) ((#[] : Array Nat), lo) (StrLaws.occBody x y hi 1)).run.fst = arr at h0
    have h1 : arr.toList[0]? = some a := by simpa using h0
    cases hL : arr.toList with
    | nil => rw [hL] at h1; cases h1
    | cons b t => rw [hL] at h1; simp at h1; rw [h1]; rfl
theorem fromIndex_nat (n k : Nat) : fromIndex n (k : Int) = k := by
  unfold fromIndex
  rw [if_neg (by omega)]
  omega
/-- the first place of a piece, by the letters -/
theorem find4_cut (t w : List Nat) (k e : Nat) (hk : k ≤ e) (he : e ≤ t.length) : (cutL w ((t.take e).drop k) = none ∧ find4 (S t) (S w) k e = -1) ∨ ∃ (r : List Nat) (q : Nat), cutL w ((t.take e).drop k) = some r ∧ find4 (S t) (S w) k e = q ∧ k ≤ q ∧ q + w.length ≤ e ∧ (t.take e).drop (q + w.length) = r := by
  have h0 : find4 (S t) (S w) k e = match occurrences (S t) (S w) k e 1 with | k :: _ => (k : Int) | [] => -1 := by
    unfold find4
    rw [fromIndex_nat, fromIndex_nat, S_len, Nat.min_eq_left he]
    all_goals rfl
  rw [h0]
  have hu : ((t.take e).drop k).length = e - k := by simp; omega
  rcases occ_head_in (S t) (S w) k e with ⟨h1, h2⟩ | ⟨q, r, h1, h2, h3, h4⟩
  · rw [h1]
    rcases cutL_spec w ((t.take e).drop k) with ⟨h5, _⟩ | ⟨j, r, _, h6, h7, _⟩
    · exact .inl ⟨h5, rfl⟩
    · exact absurd ((at_iff t w k e (k + j) he (by omega)).mpr ⟨by omega, by rw [show k + j - k = j by omega, h6]; exact List.prefix_append _ _⟩) (h2 (k + j) (by omega))
  · rw [h1]
    have h8 := (at_iff t w k e q he h2).mp h3
    rcases cutL_spec w ((t.take e).drop k) with ⟨_, h6⟩ | ⟨j, r', h5, h6, h7, h9⟩
    · exact absurd h8.2 (h6 _)
    · have hj : k + j = q := by
        rcases Nat.lt_trichotomy (k + j) q with h | h | h
        · exact absurd ((at_iff t w k e (k + j) he (by omega)).mpr ⟨by omega, by rw [show k + j - k = j by omega, h6]; exact List.prefix_append _ _⟩) (h4 (k + j) (by omega) h)
        · exact h
        · exact absurd h8.2 (h9 (q - k) (by omega))
      refine .inr ⟨r', q, h5, rfl, h2, h3.1, ?_⟩
      rw [List.drop_drop, hj] at h6
      rw [← List.drop_drop, h6, List.drop_left]
theorem loop_seek (t : List Nat) (e : Nat) (he : e ≤ t.length) : ∀ (ws : List (List Nat)) (k : Nat), k ≤ e → emLoop (S t) e (ws.map S) k = seekL ws ((t.take e).drop k)
  | [], k, _ => rfl
  | w :: ws, k, hk => by
    show (if find4 (S t) (S w) k e < 0 then false else emLoop (S t) e (ws.map S) (find4 (S t) (S w) k e + (S w).length)) = match cutL w ((t.take e).drop k) with | none => false | some r => seekL ws r
    rcases find4_cut t w k e hk he with ⟨h1, h2⟩ | ⟨r, q, h1, h2, h3, h4, h5⟩
    · rw [h1, h2]; rfl
    · rw [h1, h2, if_neg (by omega), S_len, show ((q : Int) + (w.length : Int)) = ((q + w.length : Nat) : Int) by omega, loop_seek t e he ws _ h4, h5]
theorem sufL_some {p t r : List Nat} : sufL p t = some r ↔ t = r ++ p := by
  unfold sufL
  cases e : preL p.reverse t.reverse with
  | none =>
    have h := preL_none.mp e
    constructor
    · nofun
    · intro h'; subst h'; exact absurd (by rw [List.reverse_append]; exact List.prefix_append _ _) h
  | some v =>
    have h := congrArg List.reverse (preL_some.mp e)
    rw [List.reverse_reverse, List.reverse_append, List.reverse_reverse] at h
    constructor
    · intro h'; cases h'; exact h
    · intro h'; rw [h'] at h; exact congrArg some (List.append_cancel_right h).symm
theorem starts_iff (t p : List Nat) : Txt.startswith (S t) (S p) = (preL p t).isSome := by
  unfold Txt.startswith
  rw [StrLaws.subAt_eq, Bool.eq_iff_iff, Bool.and_eq_true, beq_iff_eq, decide_eq_true_iff, Option.isSome_iff_exists]
  show 0 + p.length ≤ t.length ∧ (t.drop 0).take p.length = p ↔ _
  constructor
  · rintro ⟨_, h⟩
    refine ⟨t.drop p.length, preL_some.mpr ?_⟩
    conv => rhs; lhs; rw [← h]
    exact (List.take_append_drop p.length t).symm
  · rintro ⟨r, h⟩
    rw [preL_some.mp h]
    exact ⟨by simp, List.take_left⟩
theorem ends_iff (t p : List Nat) : Txt.endswith (S t) (S p) = (sufL p t).isSome := by
  unfold Txt.endswith
  rw [StrLaws.subAt_eq, Bool.eq_iff_iff, Bool.and_eq_true, beq_iff_eq, decide_eq_true_iff, Option.isSome_iff_exists]
  show 0 + p.length ≤ t.length ∧ (t.drop (t.length - p.length)).take p.length = p ↔ _
  constructor
  · rintro ⟨h1, h⟩
    rw [List.take_of_length_le (by rw [List.length_drop]; omega)] at h
    refine ⟨t.take (t.length - p.length), sufL_some.mpr ?_⟩
    conv => rhs; rhs; rw [← h]
    exact (List.take_append_drop _ t).symm
  · rintro ⟨r, h⟩
    rw [sufL_some.mp h]
    refine ⟨by simp, ?_⟩
    rw [List.length_append, Nat.add_sub_cancel, List.drop_left, List.take_length]
theorem seek_nil (ws : List (List Nat)) (t : List Nat) : seekL ([] :: ws) t = seekL ws t := by
  cases t <;> rfl
theorem seek_end : ∀ (ws : List (List Nat)) (t : List Nat), seekL (ws ++ [[]]) t = seekL ws t
  | [], t => by cases t <;> rfl
  | w :: ws, t => by
    show (match cutL w t with | none => false | some r => seekL (ws ++ [[]]) r) = match cutL w t with | none => false | some r => seekL ws r
    cases cutL w t with
    | none => rfl
    | some r => exact seek_end ws r
theorem em5_L (t p0 p1 p2 p3 p4 : List Nat) : em5F (S t) (S p0) (S p1) (S p2) (S p3) (S p4) = em5L p0 p1 p2 p3 p4 t := by
  unfold em5F em5L
  rw [starts_iff, ends_iff, S_len, S_len, S_len]
  have L0 := loop_seek t t.length (Nat.le_refl _)
  rw [List.take_length] at L0
  cases e0 : preL p0 t with
  | none =>
    have : (p0.length : Int) ≠ 0 := fun h => by
      have := len0 h
      subst this; cases e0
    rw [if_neg this]; rfl
  | some t' =>
    have ht : t = p0 ++ t' := preL_some.mp e0
    have hd : t.drop p0.length = t' := by rw [ht, List.drop_left]
    have hl : t.length = p0.length + t'.length := by rw [ht, List.length_append]
    by_cases z4 : (p4.length : Int) = 0
    · have n4 : p4 = [] := len0 z4
      subst n4
      have e4 : sufL [] t' = some t' := by unfold sufL; simp [preL]
      simp only [List.length_nil, Int.natCast_zero, if_true, e4, Option.isSome_some, Int.sub_zero]
      by_cases z0 : (p0.length : Int) = 0
      · have n0 : p0 = [] := len0 z0
        subst n0
        rw [if_pos z0]
        refine (L0 [[], p1, p2, p3, []] 0 (Nat.zero_le _)).trans ?_
        rw [seek_nil]
        exact (seek_end [p1, p2, p3] _).trans (by rw [← hd]; rfl)
      · rw [if_neg z0, if_neg (nlt_add hl)]
        refine (L0 [p1, p2, p3, []] p0.length (le_add hl)).trans ?_
        exact (seek_end [p1, p2, p3] _).trans (by rw [hd])
    · rw [if_neg z4, if_neg z4]
      cases e4 : sufL p4 t with
      | none =>
        have e5 : sufL p4 t' = none := by
          cases e5 : sufL p4 t' with
          | none => rfl
          | some v => rw [sufL_some.mpr (show t = (p0 ++ v) ++ p4 by rw [ht, sufL_some.mp e5, List.append_assoc])] at e4; cases e4
        simp only [e5, Option.isSome_none, Option.isSome_some, Bool.false_eq_true, if_false, ite_self]
      | some v =>
        have hv : t = v ++ p4 := sufL_some.mp e4
        have hvl : t.length = v.length + p4.length := by rw [hv, List.length_append]
        simp only [Option.isSome_some, if_true]
        by_cases hc : t.length < p4.length + p0.length
        · have e5 : sufL p4 t' = none := by
            cases e5 : sufL p4 t' with
            | none => rfl
            | some u => have := congrArg List.length (sufL_some.mp e5); rw [List.length_append] at this; omega
          rw [e5, if_neg (by omega), if_pos (by omega)]
        · have hq : p0.length ≤ v.length := le_of_nlt hvl hc
          have e5 : sufL p4 t' = some (v.drop p0.length) := by
            refine sufL_some.mpr ?_
            rw [← hd, hv, List.drop_append_of_le_length hq]
          have L1 := loop_seek t v.length (le_add hvl)
          rw [show t.take v.length = v by rw [hv, List.take_left]] at L1
          rw [e5, sub_int hvl]
          by_cases z0 : (p0.length : Int) = 0
          · have n0 : p0 = [] := len0 z0
            subst n0
            rw [if_pos z0, if_neg (Int.not_lt.mpr (Int.natCast_nonneg _))]
            refine (L1 [[], p1, p2, p3] 0 (Nat.zero_le _)).trans ?_
            rw [seek_nil]; rfl
          · rw [if_neg z0, if_neg (nlt_le hq)]
            exact L1 [p1, p2, p3] p0.length hq
/-- where a piece stands, one behind the other -/
noncomputable def scanL (w : List Nat) : List Nat → Nat → Nat → List Nat
  | [], _, _ => []
  | c :: u, i, 0 => match preL w (c :: u) with | some _ => i :: scanL w u (i + 1) (w.length - 1) | none => scanL w u (i + 1) 0
  | _ :: u, i, sk + 1 => scanL w u (i + 1) sk
theorem subAt_pre (t w : List Nat) (i : Nat) (hi : i ≤ t.length) : (i + w.length ≤ t.length ∧ subAt (S t) (S w) i = true) ↔ (preL w (t.drop i)).isSome = true := by
  have h := at_iff t w 0 t.length i (Nat.le_refl _) (Nat.zero_le _)
  rw [List.take_length, List.drop_zero, Nat.sub_zero] at h
  refine Iff.trans h ?_
  rw [Option.isSome_iff_exists]
  constructor
  · rintro ⟨_, r, hr⟩; exact ⟨r, preL_some.mpr hr.symm⟩
  · rintro ⟨r, hr⟩; exact ⟨hi, r, (preL_some.mp hr).symm⟩
theorem scan_occ (t w : List Nat) (hw : 0 < w.length) (lim : Nat) : ∀ (u : List Nat) (i sk free : Nat) (acc : Array Nat), t.drop i = u → i + u.length = t.length → acc.size + u.length < lim → free ≤ i + sk → (0 < sk → free = i + sk) →
    (forIn (List.range' i (u.length + 1)) (acc, free) (StrLaws.occBody (S t) (S w) t.length lim)).run.fst.toList = acc.toList ++ scanL w u i sk
  | [], i, sk, free, acc, hu, hi, hl, _, _ => by
    show (forIn (i :: []) (acc, free) (StrLaws.occBody (S t) (S w) t.length lim)).run.fst.toList = _
    rw [List.forIn_cons]
    unfold StrLaws.occBody
    rw [if_neg (fun h => by have h1 := h.1.2; rw [S_len] at h1; simp at hi; omega)]
    show acc.toList = _
    unfold scanL; simp
  | c :: u, i, sk, free, acc, hu, hi, hl, hf, hs => by
    have hd : t.drop (i + 1) = u := by rw [← List.drop_drop, hu]; rfl
    have hi' : i + 1 + u.length = t.length := by rw [← hi]; simp; omega
    rw [List.length_cons] at hl
    have hsub := subAt_pre t w i (by rw [List.length_cons] at hi; omega)
    rw [hu] at hsub
    show (forIn (i :: List.range' (i + 1) (u.length + 1)) (acc, free) (StrLaws.occBody (S t) (S w) t.length lim)).run.fst.toList = _
    rw [List.forIn_cons]
    unfold StrLaws.occBody
    cases sk with
    | succ k =>
      have := hs (Nat.succ_pos k)
      rw [if_neg (fun h => by have h1 := h.1.1.2; simp only at h1; omega)]
      refine (scan_occ t w hw lim u (i + 1) k free acc hd hi' (by omega) (by omega) (by omega)).trans ?_
      rw [scanL]
    | zero =>
      cases e : preL w (c :: u) with
      | none =>
        rw [e] at hsub
        rw [if_neg (fun h => by have h1 := hsub.mp ⟨h.1.2, h.2⟩; cases h1)]
        refine (scan_occ t w hw lim u (i + 1) 0 free acc hd hi' (by omega) (by omega) (by omega)).trans ?_
        rw [scanL, e]
      | some r =>
        rw [e] at hsub
        have h1 := hsub.mpr rfl
        rw [if_pos ⟨⟨⟨by show acc.size < lim; omega, by show free ≤ i; omega⟩, h1.1⟩, h1.2⟩]
        refine (scan_occ t w hw lim u (i + 1) (w.length - 1) (i + w.length) (acc.push i) hd hi' (by rw [Array.size_push]; omega) (by omega) (by omega)).trans ?_
        rw [scanL, e]; simp
theorem occ_scan (t w : List Nat) (hw : 0 < w.length) : occurrences (S t) (S w) 0 (S t).length ((S t).length + 1) = scanL w t 0 0 := by
  rw [StrLaws.occ_eq, S_len]
  refine (scan_occ t w hw (t.length + 1) t 0 0 0 #[] rfl (by omega) (by simp) (by omega) (by omega)).trans ?_
  simp
noncomputable def partsL (t : List Nat) (w : Nat) : Nat → List Nat → List (List Nat)
  | a, [] => [t.drop a]
  | a, c :: cuts => (t.drop a).take (c - a) :: partsL t w (c + w) cuts
theorem parts_L (t : List Nat) (w : Nat) : ∀ (cuts : List Nat) (a : Nat), StrLaws.partsFrom (S t) w a cuts = (partsL t w a cuts).map S
  | [], a => by
    show [strSub (S t) a (S t).length] = [S (t.drop a)]
    refine congrArg (fun x => [x]) ((StrLaws.mk_of_toList (StrLaws.strSub_toList _ _ _)).trans ?_)
    show S ((t.drop a).take (t.length - a)) = _
    rw [List.take_of_length_le (by simp)]
  | c :: cuts, a => by
    show strSub (S t) a c :: StrLaws.partsFrom (S t) w (c + w) cuts = S ((t.drop a).take (c - a)) :: (partsL t w (c + w) cuts).map S
    rw [parts_L t w cuts, StrLaws.mk_of_toList (StrLaws.strSub_toList (S t) a c)]
noncomputable abbrev dotL : List Nat := [46, 46, 46]
theorem dots_S : PySem.Str.ofString "..." = S dotL := by decide +kernel
theorem nil_S : PySem.Str.ofString "" = S [] := by decide +kernel
theorem strKind_pos (x : PySem.Str) : 1 ≤ Builtin.Str.strKind x := by unfold Builtin.Str.strKind; split <;> (try split) <;> omega
theorem split_L (t : List Nat) (h3 : 3 ≤ t.length) (hne : (scanL dotL t 0 0).isEmpty = false) : Txt.split (S t) (S dotL) = (partsL t 3 0 (scanL dotL t 0 0)).map S := by
  unfold Txt.split
  have hk : Builtin.Str.strKind (S dotL) = 1 := by decide +kernel
  have hk' := strKind_pos (S t)
  rw [occ_scan t dotL (by decide), hne, hk, S_len, S_len, if_neg (by simp; exact ⟨h3, by omega⟩), if_neg (by simp)]
  exact (StrLaws.partsBetween_eq _ _ _).trans (parts_L t 3 _ 0)
/-- the pattern of five pieces -/
noncomputable abbrev wantL (p0 p1 p2 p3 p4 : List Nat) : List Nat := p0 ++ dotL ++ p1 ++ dotL ++ p2 ++ dotL ++ p3 ++ dotL ++ p4
theorem join_L (p0 p1 p2 p3 p4 : List Nat) : Txt.join (PySem.Str.ofString "...") [S p0, S p1, S p2, S p3, S p4] = S (wantL p0 p1 p2 p3 p4) := by
  rw [dots_S]
  unfold Txt.join glued
  simp [S]
theorem in_L (p0 r : List Nat) : (occurrences (S (p0 ++ (dotL ++ r))) (S dotL) 0 (S (p0 ++ (dotL ++ r))).length 1).isEmpty = false := by
  have h := (StrLaws.found_iff (S (p0 ++ (dotL ++ r))) (S dotL)).mpr ⟨p0.length, (subAt_pre _ dotL p0.length (by simp)).mpr (by rw [List.drop_left, preL_some.mpr rfl]; rfl)⟩
  simpa using h
noncomputable def tkB (p0 p1 p2 p3 p4 : List Nat) : Bool := !(scanL dotL (wantL p0 p1 p2 p3 p4) 0 0).isEmpty && (partsL (wantL p0 p1 p2 p3 p4) 3 0 (scanL dotL (wantL p0 p1 p2 p3 p4) 0 0) == [p0, p1, p2, p3, p4])
theorem tk_L {p0 p1 p2 p3 p4 : List Nat} (h : tkB p0 p1 p2 p3 p4 = true) : (occurrences (Txt.join (PySem.Str.ofString "...") [S p0, S p1, S p2, S p3, S p4]) (PySem.Str.ofString "...") 0 (Txt.join (PySem.Str.ofString "...") [S p0, S p1, S p2, S p3, S p4]).length 1).isEmpty = false ∧ Txt.split (Txt.join (PySem.Str.ofString "...") [S p0, S p1, S p2, S p3, S p4]) (PySem.Str.ofString "...") = [S p0, S p1, S p2, S p3, S p4] := by
  unfold tkB at h
  rw [Bool.and_eq_true, Bool.not_eq_true', beq_iff_eq] at h
  rw [join_L, dots_S]
  constructor
  · have := in_L p0 (p1 ++ dotL ++ p2 ++ dotL ++ p3 ++ dotL ++ p4)
    simpa only [wantL, List.append_assoc] using this
  · rw [split_L _ (by simp [wantL]; omega) h.1, h.2]; rfl
/-- all texts of k letters, as lists -/
noncomputable def textsL : Nat → List (List Nat)
  | 0 => [[]]
  | k + 1 => (textsL k).flatMap fun t => [t ++ [97], t ++ [98]]
theorem ab_S : (PySem.Str.ofString "ab").cps.toList = [97, 98] := by decide +kernel
theorem texts_L : ∀ k, textsF k = (textsL k).map S
  | 0 => by show [PySem.Str.ofString ""] = [S []]; rw [nil_S]
  | k + 1 => by
    show growS (PySem.Str.ofString "ab") (textsF k) = _
    unfold growS
    rw [texts_L k, ab_S]
    show _ = ((textsL k).flatMap fun t => [t ++ [97], t ++ [98]]).map S
    rw [List.flatMap_map, List.map_flatMap]
    have e : ∀ (t : List Nat) (c : Nat), S t ++ ⟨#[c]⟩ = S (t ++ [c]) := fun t c => by show (⟨t.toArray ++ #[c]⟩ : PySem.Str) = ⟨(t ++ [c]).toArray⟩; simp
    refine congrArg (fun f => List.flatMap f (textsL k)) (funext fun t => ?_)
    show [S t ++ ⟨#[97]⟩, S t ++ ⟨#[98]⟩] = [S (t ++ [97]), S (t ++ [98])]
    rw [e, e]
noncomputable def cntL (f : List Nat → Bool) : List (List Nat) → Nat
  | [] => 0
  | t :: r => bif f t then Nat.succ (cntL f r) else cntL f r
theorem cnt_L (f : List Nat → Bool) : ∀ l : List (List Nat), (l.map f).count true = cntL f l
  | [] => rfl
  | t :: r => by
    rw [List.map_cons, cntL]
    cases h : f t
    · rw [List.count_cons_of_ne (by nofun), cnt_L f r]; rfl
    · rw [List.count_cons_self, cnt_L f r]; rfl
noncomputable def texts6 : List (List (List Nat)) := [textsL 0, textsL 1, textsL 2, textsL 3, textsL 4, textsL 5]
/-- how many texts of none to five letters the pattern takes -/
noncomputable def figL (p0 p1 p2 p3 p4 : List Nat) : List Nat := texts6.map (cntL (em5L p0 p1 p2 p3 p4))
theorem counts_L (p0 p1 p2 p3 p4 : List Nat) : ((List.range 6).map fun k => (((textsF k).map fun t => em5F t (S p0) (S p1) (S p2) (S p3) (S p4)).count true : Int)) = (figL p0 p1 p2 p3 p4).map Int.ofNat := by
  have e : ∀ k, ((textsF k).map fun t => em5F t (S p0) (S p1) (S p2) (S p3) (S p4)).count true = cntL (em5L p0 p1 p2 p3 p4) (textsL k) := fun k => by
    rw [texts_L, List.map_map, ← cnt_L]
    refine congrArg (List.count true) (List.map_congr_left fun t _ => em5_L t p0 p1 p2 p3 p4)
  simp only [e]
  rfl
end Mine
end
section
open PySem PySem.Builtin PySem.Builtin.Str
namespace Mine
noncomputable abbrev int15 : List Int := [1, 2, 3, 4, 5, 6, 7, 8, 9, 10, 11, 12, 13, 14, 15]
theorem in15 {x : Int} (h0 : 0 < x) (h : x < 16) : x ∈ int15 := by
  obtain ⟨k, rfl⟩ := Int.eq_ofNat_of_zero_le (Int.le_of_lt h0)
  exact (by decide : ∀ k : Nat, k < 16 → 0 < k → (k : Int) ∈ int15) k (Int.ofNat_lt.mp h) (Int.natCast_pos.mp h0)
/-- what _law_spelled hands back -/
noncomputable def spF (x : Int) : PySem.Str := Txt.join (PySem.Str.ofString "") (lettersF x)
theorem spell_ok : ∀ n ∈ int15, ndF n 1 ≤ 8 ∧ 0 < ndF n 1 ∧ okB 1 8 0 (ndF n 1) n = true ∧ (∀ k ∈ i2dF n 1, k = 0 ∨ k = 1) ∧ JoinOk (PySem.Str.ofString "") (lettersF n) = true := by decide +kernel
noncomputable def spT : List (List Nat) := [[], [], [97], [98], [97, 97], [98, 97], [97, 98], [98, 98], [97, 97, 97], [98, 97, 97], [97, 98, 97], [98, 98, 97], [97, 97, 98], [98, 97, 98], [97, 98, 98], [98, 98, 98]]
noncomputable def spL (n : Int) : List Nat := spT.getD n.toNat []
theorem sp_S : ∀ n ∈ int15, spF n = S (spL n) := by decide +kernel
/-- how the letters of a piece lap over themselves -/
noncomputable def lapL (p : List Nat) : List Int := (List.range p.length).map fun i => if (preL (p.drop i) p).isSome = true then 1 else 0
noncomputable def lapB (p : PySem.Str) : Bool := decide (p.length < 10) && (List.range p.length).all fun i => !(occurrences (sfx p i ++ S dotL) (S dotL) 0 (sfx p i ++ S dotL).length 1).isEmpty && decide (Txt.split (sfx p i ++ S dotL) (S dotL) = [sfx p i, S []]) && decide (0 < (sfx p i).length) && decide ((sfx p i).length < 100) && decide ((sfx p i ++ S dotL).length < 200)
theorem lap_B {p : PySem.Str} (h : lapB p = true) : LapOk p := by
  unfold lapB at h
  simp only [Bool.and_eq_true, List.all_eq_true, decide_eq_true_iff, Bool.not_eq_true', List.mem_range] at h
  refine ⟨h.1, fun i hi => ?_⟩
  have := h.2 i hi
  rw [show dots = S dotL from dots_S, show nilS = S [] from nil_S]
  exact ⟨this.1.1.1.1, this.1.1.1.2, this.1.1.2, this.1.2, this.2⟩
theorem lap_ok : ∀ n ∈ int15, lapB (S (spL n)) = true := by decide +kernel
noncomputable def lapsOf (p : PySem.Str) : List Int := (List.range p.length).map (lapF p)
theorem laps_L : ∀ n ∈ int15, lapsOf (S (spL n)) = lapL (spL n) := by decide +kernel
theorem sp_lap {x : Int} (h : x ∈ int15) : LapOk (spF x) := by rw [sp_S x h]; exact lap_B (lap_ok x h)
theorem sp_laps {x : Int} (h : x ∈ int15) : lapsOf (spF x) = lapL (spL x) := by rw [sp_S x h]; exact laps_L x h
noncomputable def hbB (ls : List Int) (n : Nat) : Bool := (List.range ls.length).all fun l => (List.range (ls.length + 1)).all fun r => decide (l < r → (dF ls n 8 l r).natAbs < 2 ^ 64)
theorem hb_B {ls : List Int} {n : Nat} (h : hbB ls n = true) : ∀ l r, l < r → r ≤ ls.length → (dF ls n 8 l r).natAbs < 2 ^ 64 := by
  unfold hbB at h
  simp only [List.all_eq_true, List.mem_range, decide_eq_true_iff] at h
  exact fun l r h1 h2 => h l (by omega) r (by omega) h1
theorem hb_ok : ∀ n ∈ int15, hbB (lapL (spL n)).reverse 8 = true := by decide +kernel
theorem lapsR_of (p : PySem.Str) : lapsR p = (lapsOf p).reverse := rfl
theorem sp_hB {x : Int} (h : x ∈ int15) : ∀ l r, l < r → r ≤ (lapsR (spF x)).length → (dF (lapsR (spF x)) 8 8 l r).natAbs < 2 ^ 64 := by
  rw [lapsR_of, sp_laps h]; exact hb_B (hb_ok x h)
theorem len_ok : ∀ n ∈ int15, (spL n).length ≤ 3 := by decide +kernel
theorem sp_len {x : Int} (h : x ∈ int15) : (spF x).length = (spL x).length := by rw [sp_S x h]; rfl
/-- the divisor of a piece with these laps -/
noncomputable def dvL (ls : List Int) : Int := 1 + 254 * d2iF ls.reverse 8
/-- the divisor of a side piece -/
noncomputable def sdL (p : List Nat) (b : Bool) : Int := if b = true then dvL (lapL p) else 256 ^ p.length
theorem sp_div {x : Int} (h : x ∈ int15) (b : Bool) : divF (spF x) b = sdL (spL x) b := by
  unfold divF sdL dvL
  rw [lapsR_of, sp_laps h, sp_len h]
noncomputable abbrev clsT : List (List Int × Int) := [([1], 255), ([1, 0], 65025), ([1, 1], 65279), ([1, 0, 0], 16646145), ([1, 0, 1], 16646399), ([1, 1, 1], 16711423)]
noncomputable abbrev int2 : List Int := [2, 3, 4, 5, 6, 7, 8, 9, 10, 11, 12, 13, 14, 15]
theorem cls_ok : ∀ n ∈ int2, (lapL (spL n), dvL (lapL (spL n))) ∈ clsT ∧ (lapL (spL n)).length = (spL n).length := by decide +kernel
noncomputable abbrev sidesT : List (List Nat × List Nat × Int) := [([], [], 1), ([97], [], 256), ([98], [], 256), ([], [97], 255), ([], [98], 255)]
noncomputable def sideL (x : Int) (l : Bool) : List Nat × List Nat × Int := (if l = true then [] else spL x, if l = true then spL x else [], sdL (spL x) l)
theorem side_ok : ∀ x ∈ ([1, 2, 3] : List Int), ∀ l ∈ [true, false], sideL x l ∈ sidesT ∧ ((sideL x l).1 ++ (sideL x l).2.1).length = (spL x).length := by decide +kernel
theorem tk_ok : ∀ s ∈ sidesT, ∀ u ∈ sidesT, ∀ n ∈ int2, tkB s.1 s.2.1 (spL n) u.2.1 u.1 = true := by decide +kernel
/-- the figures of 256 to the sixth by b, the highest first -/
noncomputable def figsI (b : Int) : List Int := [5, 4, 3, 2, 1, 0].map fun k => (256 ^ 6 / b) / 256 ^ k % 256
noncomputable def fgB (n : Int) : Bool := sidesT.all fun s => sidesT.all fun u => (figL s.1 s.2.1 (spL n) u.2.1 u.1).map Int.ofNat == figsI (254 * s.2.2 * u.2.2 * dvL (lapL (spL n)))
theorem fg_2 : fgB 2 = true := by decide +kernel
theorem fg_3 : fgB 3 = true := by decide +kernel
theorem fg_4 : fgB 4 = true := by decide +kernel
theorem fg_5 : fgB 5 = true := by decide +kernel
theorem fg_6 : fgB 6 = true := by decide +kernel
theorem fg_7 : fgB 7 = true := by decide +kernel
theorem fg_8 : fgB 8 = true := by decide +kernel
theorem fg_9 : fgB 9 = true := by decide +kernel
theorem fg_10 : fgB 10 = true := by decide +kernel
theorem fg_11 : fgB 11 = true := by decide +kernel
theorem fg_12 : fgB 12 = true := by decide +kernel
theorem fg_13 : fgB 13 = true := by decide +kernel
theorem fg_14 : fgB 14 = true := by decide +kernel
theorem fg_15 : fgB 15 = true := by decide +kernel
theorem fg_ok : ∀ n ∈ int2, fgB n = true := by
  intro n h
  simp only [int2, List.mem_cons, List.not_mem_nil, or_false] at h
  rcases h with rfl | rfl | rfl | rfl | rfl | rfl | rfl | rfl | rfl | rfl | rfl | rfl | rfl | rfl
  · exact fg_2
  · exact fg_3
  · exact fg_4
  · exact fg_5
  · exact fg_6
  · exact fg_7
  · exact fg_8
  · exact fg_9
  · exact fg_10
  · exact fg_11
  · exact fg_12
  · exact fg_13
  · exact fg_14
  · exact fg_15
noncomputable abbrev msT : List (Int × Nat) := [(1, 0), (255, 1), (256, 1)]
/-- what _law_read_off asks of the divisor -/
noncomputable def roB (b : Int) : Bool := decide (0 < b) && decide (b < 2 ^ 64) && decide (ndF (256 ^ 6) (Builtin.Int.intBits b) ≤ 8) && decide (0 < ndF (256 ^ 6) (Builtin.Int.intBits b)) && okB (Builtin.Int.intBits b) 8 0 (ndF (256 ^ 6) (Builtin.Int.intBits b)) (256 ^ 6) && decide (0 < Builtin.Int.intBits b) && dmOk b (Builtin.Int.intBits b) (i2dF (256 ^ 6) (Builtin.Int.intBits b)).reverse 0 && hbB (qdF (256 ^ 6) b).1.reverse (Builtin.Int.intBits b)
  && decide (quoF (256 ^ 6) b = 256 ^ 6 / b) && decide ((qdF (256 ^ 6) b).2 = 256 ^ 6 % b) && decide (256 ^ 6 / b < 2 ^ 64) && decide (ndF (256 ^ 6 / b) 8 ≤ 8) && decide (0 < ndF (256 ^ 6 / b) 8 ∨ 256 ^ 6 / b = 0) && okB 8 8 0 (ndF (256 ^ 6 / b) 8) (256 ^ 6 / b) && decide ((i2dF (256 ^ 6 / b) 8).length ≤ 6) && decide (i2dF (256 ^ 6 / b) 8 ++ List.replicate (6 - (i2dF (256 ^ 6 / b) 8).length) 0 = (figsI b).reverse)
theorem ro_ok : ∀ s ∈ msT, ∀ u ∈ msT, ∀ c ∈ clsT, roB (254 * s.1 * u.1 * c.2) = true := by decide +kernel
noncomputable def toB (lp lr nc no : List Int) (z total : Nat) : Bool := (List.range (min z (6 - total))).all fun i => decide (cmpF (lp ++ nc) (lr ++ no) (selA (i + 1)) = toldF nc no total (i + 1) ∧ cmpF (lp ++ nc) (lr ++ no) (selB z (total + i + 1)) = toldF nc no total (i + 1) ∧ cmpF (lr ++ no) (lp ++ nc) (selA (i + 1)) = -toldF nc no total (i + 1) ∧ cmpF (lr ++ no) (lp ++ nc) (selB z (total + i + 1)) = -toldF nc no total (i + 1))
theorem to_ok : ∀ s ∈ msT, ∀ u ∈ msT, ∀ c ∈ clsT, ∀ d ∈ clsT, d.1.length = c.1.length → toB c.1 d.1 (figsI (254 * s.1 * u.1 * c.2)) (figsI (254 * s.1 * u.1 * d.2)) c.1.length (s.2 + u.2 + c.1.length) = true := by decide +kernel
end Mine
end
section
open PySem PySem.W PyProof.Rows PySem.Calls PySem.Spec
open PySem.Builtin PySem.Builtin.Str
set_option maxHeartbeats 400000
set_option pp.deepTerms false
namespace Mine
/-- the ledger: what is in sight, then the tail fx -/
inductive Pre (fx : List (Addr × Obj)) : List (Addr × Obj) → List (Addr × Obj) → Prop
  | nil : Pre fx [] fx
  | cons {v vis all} : Pre fx vis all → Pre fx (v :: vis) (v :: all)
theorem Pre.eq {fx vis all : List (Addr × Obj)} (h : Pre fx vis all) : all = vis ++ fx := by
  induction h with
  | nil => rfl
  | cons _ ih => rw [ih]; rfl
noncomputable def NoF : List (Addr × Obj) → Prop
  | [] => True
  | p :: r => (∀ vs, p.2.data ≠ .fields vs) ∧ NoF r
theorem NoF.at {l : List (Addr × Obj)} (h : NoF l) : ∀ p ∈ l, ∀ vs, p.2.data ≠ .fields vs := by
  induction l with
  | nil => intro p hp; cases hp
  | cons q r ih =>
    intro p hp
    rcases List.mem_cons.mp hp with e' | hq
    · subst e'; exact h.1
    · exact ih h.2 p hq
/-- the tail holds the two code tables -/
noncomputable def Tb (fx : List (Addr × Obj)) : Prop := ∃ ps cd pt ct, fx = led2 ps cd pt ct ∧ TabOk 47 4 qD ps cd ∧ TabOk 32 4 qI pt ct
theorem Tb.nil : Tb (led2 #[] [] #[] []) := ⟨_, _, _, _, rfl, TabOk.empty, TabOk.empty⟩
/-- what is no longer wanted goes out of sight -/
theorem News.two {h₀ h : Heap} {L : Addr} {p a b : Addr × Obj} {fx : List (Addr × Obj)} (N : PyProof.Rows.News h₀ L h ([p, a, b] ++ fx)) : PyProof.Rows.News h₀ L h (p :: fx) := fun q hq => N q ((List.mem_cons.mp hq).elim (fun e => e ▸ List.Mem.head _) fun h => List.mem_append_right _ h)
theorem News.three {h₀ h : Heap} {L : Addr} {a b c d e f g i j k l m n : Addr × Obj} {fx : List (Addr × Obj)} (N : PyProof.Rows.News h₀ L h (a :: b :: c :: d :: e :: f :: g :: i :: j :: k :: l :: m :: n :: fx)) : PyProof.Rows.News h₀ L h (a :: f :: m :: fx) := fun q hq => N q (by
  rcases List.mem_cons.mp hq with e' | hq
  · exact e' ▸ List.Mem.head _
  rcases List.mem_cons.mp hq with e' | hq
  · exact List.mem_append_right [a, b, c, d, e] (e' ▸ List.Mem.head _)
  rcases List.mem_cons.mp hq with e' | hq
  · exact List.mem_append_right [a, b, c, d, e, f, g, i, j, k, l] (e' ▸ List.Mem.head _)
  exact List.mem_append_right [a, b, c, d, e, f, g, i, j, k, l, m, n] hq)
section
variable {w : World} {loose : List PySem.Str} {mean : ExcName → Option Value} {mg mb : PySem.Str → Option Value} {all vis fx : List (Addr × Obj)}
  {dp un : Nat} {gd : Option (List Code)} {cn : PySem.Str} {cs : Scope} {a : Addr} {ccd : Value} {cl : List (PySem.Str × Addr)} {outer : List Env} {A₀ : Around} {base h₀ : Heap} {L : Addr} {m : PySem.Str → Option Value} {s : Shared} {Q E : Value → Shared → Prop}
theorem rng15 : ∀ x ∈ int15, 0 < x ∧ x < 16 := by decide
theorem law_spell (x : Int) {y : Int} (hy : y = x) (tx : Tok) (hin : x ∈ int15) (B : Below A₀ base outer h₀) (F : Fr h₀ L s.heap m) (X : (hd.heap_39 w.params).In h₀) (N : News h₀ L s.heap all) (T : Top topProg loose mean mg mb h₀) (hk : cs.kind = .function)
    (hp : Pre fx vis all) (hf : Tb fx) (hv : NoF vis) (hdp : dp + 12 < recursionLimit) (hun : un + 8 * 12 < cLine) (c1 : CodeHd base 41 37) (c2 : CodeHd base 34 30)
    (ret : ∀ t h' tk' fx', Fr h₀ L h' m → News h₀ L h' (vis ++ fx') → Tb fx' → Q (.str (spF x) t) { s with heap := h', toks := tk' }) :
    wpAny (model Challenge.rw_pe0173_01.row.prog w) (ktrTop dp un gd cn cs L a ccd cl outer) (call (.ref 96) [.int y tx]) Q E s := by
  subst hy
  obtain ⟨o1, o2, o3, o4, o5⟩ := spell_ok y hin
  have hr := rng15 y hin
  obtain ⟨ps, cd, pt, ct, rfl, hT, hU⟩ := hf
  rw [hp.eq] at N
  have si : ∀ p ∈ (30, tabObj pt) :: ct, p ∈ vis ++ led2 ps cd pt ct := fun p hp => List.mem_append_right _ (led2_i p hp)
  have sd : ∀ p ∈ (37, tabObj ps) :: cd, p ∈ vis ++ led2 ps cd pt ct := fun p hp => List.mem_append_right _ (led2_d p hp)
  refine Ctr.use (rest := vis ++ (37, tabObj ps) :: cd) (spell w loose mean mg mb y tx pt ct hU hr.1 hr.2 o1 (fun _ => o2) o3 o4 o5) B F X N T hk si (fun p hp => (List.mem_append.mp hp).elim (fun h => List.mem_append_left _ h) (sd p)) (fun p hp => (List.mem_append.mp hp).elim (fun h => off_tab N si hU (List.mem_append_left _ h) (hv.at p h)) (tabs_off N sd si hT hU p37 qDI p)) hdp hun c1 c2 trivial ?_
  rintro r led' h' tk' F' N' _ _ ⟨ps', cd', t, rfl, hU', rfl⟩
  refine ret t h' tk' (led2 ps cd ps' cd') F' (fun p hp => N' p ?_) ⟨_, _, _, _, rfl, hT, hU'⟩
  rcases List.mem_append.mp hp with h | h
  · exact List.mem_append_right _ (List.mem_append_left _ h)
  · rcases List.mem_append.mp (led2_sub p h) with h | h
    · exact List.mem_append_right _ (List.mem_append_right _ h)
    · exact List.mem_append_left _ h
theorem law_div (p : PySem.Str) (tp : Tok) (b : Bool) (hok : LapOk p) (hB : ∀ l r, l < r → r ≤ (lapsR p).length → (dF (lapsR p) 8 8 l r).natAbs < 2 ^ 64) (hp8 : p.length ≤ 8) (B : Below A₀ base outer h₀) (F : Fr h₀ L s.heap m) (X : (hd.heap_39 w.params).In h₀) (N : News h₀ L s.heap all) (T : Top topProg loose mean mg mb h₀) (hk : cs.kind = .function)
    (hp : Pre fx vis all) (hf : Tb fx) (hv : NoF vis) (hdp : dp + 12 < recursionLimit) (hun : un + 8 * 12 < cLine) (c1 : CodeHd base 41 37) (c2 : CodeHd base 34 30)
    (ret : ∀ t h' tk' fx', Fr h₀ L h' m → News h₀ L h' (vis ++ fx') → Tb fx' → Q (.int (divF p b) t) { s with heap := h', toks := tk' }) :
    wpAny (model Challenge.rw_pe0173_01.row.prog w) (ktrTop dp un gd cn cs L a ccd cl outer) (call (.ref 108) [.str p tp, .bool b]) Q E s := by
  obtain ⟨ps, cd, pt, ct, rfl, hT, hU⟩ := hf
  rw [hp.eq] at N
  have si : ∀ p ∈ (30, tabObj pt) :: ct, p ∈ vis ++ led2 ps cd pt ct := fun p hp => List.mem_append_right _ (led2_i p hp)
  have sd : ∀ p ∈ (37, tabObj ps) :: cd, p ∈ vis ++ led2 ps cd pt ct := fun p hp => List.mem_append_right _ (led2_d p hp)
  refine Ctr.use (rest := vis ++ (30, tabObj pt) :: ct) (divisor w loose mean mg mb p tp b ps cd hT hok hB hp8) B F X N T hk sd (fun p hp => (List.mem_append.mp hp).elim (fun h => List.mem_append_left _ h) (si p)) (fun p hp => (List.mem_append.mp hp).elim (fun h => off_tab N sd hT (List.mem_append_left _ h) (hv.at p h)) (tabs_off N si sd hU hT (Ne.symm p37) (Ne.symm qDI) p)) hdp hun c1 c2 trivial ?_
  rintro r led' h' tk' F' N' _ _ ⟨ps', cd', t, rfl, hT', rfl⟩
  refine ret t h' tk' (led2 ps' cd' pt ct) F' (fun p hp => N' p ?_) ⟨_, _, _, _, rfl, hT', hU⟩
  rcases List.mem_append.mp hp with h | h
  · exact List.mem_append_right _ (List.mem_append_left _ h)
  · rcases List.mem_append.mp (led2_sub p h) with h | h
    · exact List.mem_append_left _ h
    · exact List.mem_append_right _ (List.mem_append_right _ h)
/-- what stands at front or end -/
noncomputable def sdA (x : PySem.Str) (l : Bool) : PySem.Str := if l = true then nilS else x
/-- what stands loose -/
noncomputable def sdB (x : PySem.Str) (l : Bool) : PySem.Str := if l = true then x else nilS
theorem sdA_t {x : PySem.Str} {l : Bool} (h : l = true) : sdA x l = nilS := if_pos h
theorem sdA_f {x : PySem.Str} {l : Bool} (h : l = false) : sdA x l = x := if_neg (ne_true_of_eq_false h)
theorem sdB_t {x : PySem.Str} {l : Bool} (h : l = true) : sdB x l = x := if_pos h
theorem sdB_f {x : PySem.Str} {l : Bool} (h : l = false) : sdB x l = nilS := if_neg (ne_true_of_eq_false h)
noncomputable abbrev int3 : List Int := [1, 2, 3]
theorem in3 {x : Int} (h : x ∈ int3) : x ∈ int15 := by
  simp only [int3, List.mem_cons, List.not_mem_nil, or_false] at h
  exact in15 (by omega) (by omega)
theorem in2 {x : Int} (h : x ∈ int2) : x ∈ int15 := List.Mem.tail _ h
theorem sdA_S {x : Int} (h : x ∈ int3) (l : Bool) : sdA (spF x) l = S (sideL x l).1 := by
  unfold sdA sideL; rw [sp_S x (in3 h)]; cases l
  · rfl
  · exact nil_S
theorem sdB_S {x : Int} (h : x ∈ int3) (l : Bool) : sdB (spF x) l = S (sideL x l).2.1 := by
  unfold sdB sideL; rw [sp_S x (in3 h)]; cases l
  · exact nil_S
  · rfl
theorem bool_in (l : Bool) : l ∈ [true, false] := by cases l <;> decide
/-- the divisor of a pattern -/
noncomputable def bF (xa : Int) (la : Bool) (xb : Int) (lb : Bool) (n : Int) : Int := 254 * divF (spF xa) la * divF (spF xb) lb * divF (spF n) true
theorem bF_L {xa xb n : Int} (ha : xa ∈ int3) (hb : xb ∈ int3) (hn : n ∈ int2) (la lb : Bool) : bF xa la xb lb n = 254 * (sideL xa la).2.2 * (sideL xb lb).2.2 * dvL (lapL (spL n)) := by
  unfold bF; rw [sp_div (in3 ha), sp_div (in3 hb), sp_div (in2 hn)]; rfl
theorem bF_comm (xa xb n : Int) (la lb : Bool) : bF xb lb xa la n = bF xa la xb lb n := by
  unfold bF; rw [Int.mul_right_comm 254]
theorem fg_at {xa xb n : Int} (ha : xa ∈ int3) (hb : xb ∈ int3) (hn : n ∈ int2) (la lb : Bool) : (figL (sideL xa la).1 (sideL xa la).2.1 (spL n) (sideL xb lb).2.1 (sideL xb lb).1).map Int.ofNat = figsI (bF xa la xb lb n) := by
  have h := fg_ok n hn
  unfold fgB at h
  rw [List.all_eq_true] at h
  have h1 := h _ (side_ok xa ha la (bool_in la)).1
  rw [List.all_eq_true] at h1
  rw [bF_L ha hb hn]
  exact eq_of_beq (h1 _ (side_ok xb hb lb (bool_in lb)).1)
theorem short_side {s : List Nat × List Nat × Int} (h : s ∈ sidesT) : s.1.length < 100 ∧ s.2.1.length < 100 := by
  revert s; decide
theorem short_pc {n : Int} (h : n ∈ int2) : (spL n).length < 100 := by have := len_ok n (in2 h); omega
theorem law_taken (xa xb n : Int) (la lb : Bool) (ha : xa ∈ int3) (hb : xb ∈ int3) (hn : n ∈ int2) {pl : Addr} {t0 t1 t2 t3 t4 : Tok} (B : Below A₀ base outer h₀) (F : Fr h₀ L s.heap m) (X : (hd.heap_39 w.params).In h₀) (N : News h₀ L s.heap all) (T : Top topProg loose mean mg mb h₀) (hk : cs.kind = .function)
    (hP : s.heap.IsList pl [Value.str (sdA (spF xa) la) t0, .str (sdB (spF xa) la) t1, .str (spF n) t2, .str (sdB (spF xb) lb) t3, .str (sdA (spF xb) lb) t4].toArray) (hdp : dp + 2 < recursionLimit) (hun : un + 8 * 2 < cLine) (c1 : CodeHd base 41 37) (c2 : CodeHd base 34 30)
    (ret : ∀ D vs nC h' tk', Fr h₀ L h' m → News h₀ L h' ((D, W.listOf vs nC) :: all) → IntsAre vs.toList (figsI (bF xa la xb lb n)) → Q (.ref D) { s with heap := h', toks := tk' }) :
    wpAny (model Challenge.rw_pe0173_01.row.prog w) (ktrTop dp un gd cn cs L a ccd cl outer) (call (.ref 113) [.ref pl]) Q E s := by
  have sa := (side_ok xa ha la (bool_in la)).1
  have sb := (side_ok xb hb lb (bool_in lb)).1
  rw [sdA_S ha, sdB_S ha, sdB_S hb, sdA_S hb, sp_S n (in2 hn)] at hP
  have hl : (Txt.join (PySem.Str.ofString "...") [S (sideL xa la).1, S (sideL xa la).2.1, S (spL n), S (sideL xb lb).2.1, S (sideL xb lb).1]).length < 1000 := by
    rw [join_L, S_len]
    have := short_side sa
    have := short_side sb
    have := short_pc hn
    simp only [wantL, List.length_append, List.length_cons, List.length_nil]
    omega
  have tk := tk_L (tk_ok _ sa _ sb n hn)
  refine Ctr.use0 (taken w loose mean mg mb pl _ _ _ _ _ t0 t1 t2 t3 t4 tk.1 tk.2 hl (short_side sa).1 (short_side sa).2 (short_pc hn) (short_side sb).2 (short_side sb).1) B F X N T hk hdp hun c1 c2 hP ?_
  rintro r led' h' tk' F' N' _ _ ⟨D, vs, nC, rfl, rfl, hI⟩
  refine ret D vs nC h' tk' F' N' ?_
  rw [counts_L, fg_at ha hb hn] at hI
  exact hI
theorem hpy_of {b : Int} (h0 : 0 < b) (h : b < 2 ^ 64) (y : Int) : Builtin.divisionGoesByPylong y b = false := by
  unfold Builtin.divisionGoesByPylong
  have h1 : b.natAbs.log2 < 64 := (Nat.log2_lt (by omega)).mpr (by omega)
  simp only [Bool.and_eq_false_iff, decide_eq_false_iff_not]
  refine .inl ?_
  split <;> omega
theorem ms_side {s : List Nat × List Nat × Int} (h : s ∈ sidesT) : (s.2.2, (s.1 ++ s.2.1).length) ∈ msT := by
  revert s; decide
theorem law_readoff (xa xb n : Int) (la lb : Bool) (ha : xa ∈ int3) (hb : xb ∈ int3) (hn : n ∈ int2) {tb : Tok} {ca : Addr} {vs : Array Value} {nC : Nat} {y : Int} (hy : y = bF xa la xb lb n) (hI : IntsAre vs.toList (figsI (bF xa la xb lb n))) (B : Below A₀ base outer h₀) (F : Fr h₀ L s.heap m) (X : (hd.heap_39 w.params).In h₀) (N : News h₀ L s.heap all) (T : Top topProg loose mean mg mb h₀) (hk : cs.kind = .function)
    (hp : Pre fx vis all) (hf : Tb fx) (hv : NoF vis) (hca : (ca, W.listOf vs nC) ∈ vis) (hdp : dp + 18 < recursionLimit) (hun : un + 8 * 18 < cLine) (c1 : CodeHd base 41 37) (c2 : CodeHd base 34 30)
    (ret : ∀ h' tk' fx', Fr h₀ L h' m → News h₀ L h' (vis ++ fx') → Tb fx' → Q (.bool true) { s with heap := h', toks := tk' }) :
    wpAny (model Challenge.rw_pe0173_01.row.prog w) (ktrTop dp un gd cn cs L a ccd cl outer) (call (.ref 120) [.int y tb, .ref ca]) Q E s := by
  subst hy
  obtain ⟨ps, cd, pt, ct, rfl, hT, hU⟩ := hf
  rw [hp.eq] at N
  have si : ∀ p ∈ (30, tabObj pt) :: ct, p ∈ vis ++ led2 ps cd pt ct := fun p hp => List.mem_append_right _ (led2_i p hp)
  have sd : ∀ p ∈ (37, tabObj ps) :: cd, p ∈ vis ++ led2 ps cd pt ct := fun p hp => List.mem_append_right _ (led2_d p hp)
  have off : ∀ p ∈ vis, p.1 ∉ (led2 ps cd pt ct).map (·.1) := fun p h hm => by
    obtain ⟨q, hq, e⟩ := List.mem_map.mp hm
    rcases List.mem_append.mp (led2_sub q hq) with h1 | h1
    · exact off_tab N sd hT (List.mem_append_left _ h) (hv.at p h) (e ▸ List.mem_map_of_mem h1)
    · exact off_tab N si hU (List.mem_append_left _ h) (hv.at p h) (e ▸ List.mem_map_of_mem h1)
  have sa := ms_side (side_ok xa ha la (bool_in la)).1
  have sb := ms_side (side_ok xb hb lb (bool_in lb)).1
  have ro := ro_ok _ sa _ sb _ (cls_ok n hn).1
  rw [show 254 * (sideL xa la).2.2 * (sideL xb lb).2.2 * dvL (lapL (spL n)) = bF xa la xb lb n from (bF_L ha hb hn la lb).symm] at ro
  generalize bF xa la xb lb n = b at *
  unfold roB at ro
  simp only [Bool.and_eq_true, decide_eq_true_iff] at ro
  obtain ⟨⟨⟨⟨⟨⟨⟨⟨⟨⟨⟨⟨⟨⟨⟨o1, o2⟩, o3⟩, o4⟩, o5⟩, o6⟩, o7⟩, o8⟩, o9⟩, o10⟩, o11⟩, o12⟩, o13⟩, o14⟩, o15⟩, o16⟩ := ro
  have hq0 : (0 : Int) ≤ 256 ^ 6 / b := Int.ediv_nonneg (by decide) (Int.le_of_lt o1)
  refine Ctr.use (rest := vis) (readoff w loose mean mg mb b tb ca vs.toList (figsI b) ps cd pt ct hT hU o1 o2 o3 (fun _ => o4) o5 o6 o7 (hpy_of o1 o2) (hb_B o8) (256 ^ 6 / b) (256 ^ 6 % b) o9 o10 (Int.ediv_mul_add_emod _ _) (Int.emod_nonneg _ (by omega)) (Int.emod_lt_of_pos _ o1) hq0 o11 o12 (fun h => o13.elim id fun h' => absurd h' h) o14 o15 o16 hI rfl) B F X N T hk (fun p hp => List.mem_append_right _ hp) (fun p hp => List.mem_append_left _ hp) off hdp hun c1 c2 ⟨?_, off _ hca⟩ ?_
  · exact ⟨_, (N _ (List.mem_append_left _ hca)).1, rfl, nC, rfl⟩
  rintro r led' h' tk' F' N' _ _ ⟨ps', cd', pt', ct', rfl, rfl, hT', hU'⟩
  exact ret h' tk' _ F' (fun p hp => N' p ((List.mem_append.mp hp).elim (fun h => List.mem_append_right _ h) fun h => List.mem_append_left _ h)) ⟨_, _, _, _, rfl, hT', hU'⟩
theorem law_told (xa xb n r : Int) (la lb : Bool) (ha : xa ∈ int3) (hb : xb ∈ int3) (hn : n ∈ int2) (hr : r ∈ int2) (hz : (spF r).length = (spF n).length) {tp tr tt : Tok} {ca oa : Addr} {vc vo : Array Value} {nC nO : Nat} {tot : Int} (htot : tot = ((spF xa ++ spF xb).length : Int) + (spF n).length) (hI : IntsAre vc.toList (figsI (bF xa la xb lb n))) (hO : IntsAre vo.toList (figsI (bF xa la xb lb r))) (B : Below A₀ base outer h₀) (F : Fr h₀ L s.heap m) (X : (hd.heap_39 w.params).In h₀) (N : News h₀ L s.heap all) (T : Top topProg loose mean mg mb h₀) (hk : cs.kind = .function)
    (hca : (ca, W.listOf vc nC) ∈ all) (hoa : (oa, W.listOf vo nO) ∈ all) (hdp : dp + 18 < recursionLimit) (hun : un + 8 * 18 < cLine) (c1 : CodeHd base 41 37) (c2 : CodeHd base 34 30)
    (ret : ∀ h' tk', Fr h₀ L h' m → News h₀ L h' all → Q (.bool true) { s with heap := h', toks := tk' }) :
    wpAny (model Challenge.rw_pe0173_01.row.prog w) (ktrTop dp un gd cn cs L a ccd cl outer) (call (.ref 125) [.str (spF n) tp, .str (spF r) tr, .ref ca, .ref oa, .int tot tt]) Q E s := by
  have la3 := side_ok xa ha la (bool_in la)
  have lb3 := side_ok xb hb lb (bool_in lb)
  have cn := cls_ok n hn
  have cr := cls_ok r hr
  have hlz : (spL r).length = (spL n).length := by rw [← sp_len (in2 hr), ← sp_len (in2 hn), hz]
  have key := to_ok _ (ms_side la3.1) _ (ms_side lb3.1) _ cn.1 _ cr.1 (by show (lapL (spL r)).length = (lapL (spL n)).length; rw [cr.2, cn.2, hlz])
  rw [show 254 * (sideL xa la).2.2 * (sideL xb lb).2.2 * dvL (lapL (spL n)) = bF xa la xb lb n from (bF_L ha hb hn la lb).symm, show 254 * (sideL xa la).2.2 * (sideL xb lb).2.2 * dvL (lapL (spL r)) = bF xa la xb lb r from (bF_L ha hb hr la lb).symm] at key
  simp only [la3.2, lb3.2, cn.2] at key
  have ht : tot = (((spL xa).length + (spL xb).length + (spL n).length : Nat) : Int) := by
    rw [htot, append_length, sp_len (in3 ha), sp_len (in3 hb), sp_len (in2 hn)]; omega
  subst ht
  have h1 : (spL xa).length ≤ 1 := by have := (ms_side la3.1); rw [la3.2] at this; revert this; generalize (spL xa).length = k; generalize (sideL xa la).2.2 = v; intro h; simp only [msT, List.mem_cons, Prod.mk.injEq, List.not_mem_nil, or_false] at h; omega
  have h2 : (spL xb).length ≤ 1 := by have := (ms_side lb3.1); rw [lb3.2] at this; revert this; generalize (spL xb).length = k; generalize (sideL xb lb).2.2 = v; intro h; simp only [msT, List.mem_cons, Prod.mk.injEq, List.not_mem_nil, or_false] at h; omega
  have h3 := len_ok n (in2 hn)
  unfold toB at key
  simp only [List.all_eq_true, List.mem_range, decide_eq_true_iff] at key
  refine Ctr.use0 (told w loose mean mg mb (spF n) (spF r) tp tr ca oa vc.toList vo.toList (figsI (bF xa la xb lb n)) (figsI (bF xa la xb lb r)) _ tt (sp_lap (in2 hn)) (sp_lap (in2 hr)) hz hI hO rfl rfl (by omega) (by rw [sp_len (in2 hn)]; exact h3) (by rw [sp_len (in2 hn)]; omega) ?_) B F X N T hk hdp hun c1 c2 ⟨⟨_, (N _ hca).1, rfl, nC, rfl⟩, ⟨_, (N _ hoa).1, rfl, nO, rfl⟩⟩ ?_
  · intro i hi
    have e1 : (List.range (spF n).length).map (lapF (spF n)) = lapL (spL n) := sp_laps (in2 hn)
    have e2 : (List.range (spF r).length).map (lapF (spF r)) = lapL (spL r) := sp_laps (in2 hr)
    rw [e1, e2]
    rw [sp_len (in2 hn)] at hi ⊢
    exact key i hi
  rintro r led' h' tk' F' N' _ _ ⟨rfl, rfl⟩
  exact ret h' tk' F' N'
theorem piece_tab : ∀ e ∈ [0, 1, 2], ∀ k ∈ List.range (2 ^ (e + 1)), ((2 ^ (e + 1) + k : Nat) : Int) ∈ int2 ∧ (spL ((2 ^ (e + 1) + k : Nat) : Int)).length = e + 1 := by decide
/-- the code of a piece -/
theorem piece_in {e d : Int} (h0 : 0 ≤ e) (h1 : e < 3) : ∃ x : Int, 2 ^ (e + 1).toNat + d.fmod (2 ^ (e + 1).toNat) = x ∧ x ∈ int2 ∧ ((spF x).length : Int) = e + 1 := by
  obtain ⟨n, rfl⟩ := Int.eq_ofNat_of_zero_le h0
  have hn : n ∈ [0, 1, 2] := by
    have : n < 3 := by omega
    match n, this with
    | 0, _ => decide
    | 1, _ => decide
    | 2, _ => decide
  have e1 : ((n : Int) + 1).toNat = n + 1 := rfl
  rw [e1]
  have hp : (0 : Int) < 2 ^ (n + 1) := Int.pow_pos (by decide)
  have h2 := Int.fmod_nonneg_of_pos d hp
  have h3 := Int.fmod_lt_of_pos d hp
  generalize d.fmod (2 ^ (n + 1)) = k at *
  obtain ⟨k, rfl⟩ := Int.eq_ofNat_of_zero_le h2
  have e2 : (2 : Int) ^ (n + 1) = ((2 ^ (n + 1) : Nat) : Int) := by rw [Int.natCast_pow]; rfl
  rw [e2] at h3 ⊢
  obtain ⟨t1, t2⟩ := piece_tab n hn k (List.mem_range.mpr (Int.ofNat_lt.mp h3))
  refine ⟨_, rfl, t1, ?_⟩
  rw [← Int.natCast_add, sp_len (in2 t1), t2]; rfl
theorem side_in (d : Int) : ∃ x : Int, 1 + d.fmod 3 = x ∧ x ∈ int3 := by
  have h2 := Int.fmod_nonneg_of_pos d (show (0 : Int) < 3 by decide)
  have h3 := Int.fmod_lt_of_pos d (show (0 : Int) < 3 by decide)
  generalize d.fmod 3 = k at *
  have e4 : k = 0 ∨ k = 1 ∨ k = 2 := by omega
  rcases e4 with rfl | rfl | rfl
  all_goals exact ⟨_, rfl, by decide⟩
end
section
variable {prog : Program} {w : World} {A : Around} {E : Value → Shared → Prop} {s : Shared} {h₀ : Heap} {env : Env} {Q : Flow → Shared → Prop}
/-- a name set to a new list of two texts -/
noncomputable def TwoPost (h₀ : Heap) (L : Addr) (s : Shared) (X u v : PySem.Str) (m : PySem.Str → Option Value) (news : List (Addr × Obj)) (f : Flow) (s' : Shared) : Prop := f = .next ∧ ∃ h tk D t1 t2 k, s' = { s with heap := h, toks := tk } ∧ Fr h₀ L h (fun y => if y = X then some (.ref D) else m y) ∧ News h₀ L h ((D, W.listOf #[.str u t1, .str v t2] k) :: news)
theorem join_two {X u v : PySem.Str} {st : Stmt} {rest : List Stmt} {m : PySem.Str → Option Value} {news : List (Addr × Obj)} {L : Addr} (hL : env.locals = L) (_F : Fr h₀ L s.heap m) (_N : News h₀ L s.heap news)
    (hif : wpAny (model prog w) A (exec st env) (TwoPost h₀ L s X u v m news) E s)
    (next : ∀ h tk D t1 t2 k, Fr h₀ L h (fun y => if y = X then some (.ref D) else m y) → News h₀ L h ((D, W.listOf #[.str u t1, .str v t2] k) :: news) → wpAny (model prog w) A (execs rest env) Q E { s with heap := h, toks := tk }) :
    wpAny (model prog w) A (execs (st :: rest) env) Q E s := by
  subst hL
  refine wpAny_execs_cons (wpAny_mono hif (fun f s' h => ?_) fun _ _ e => e)
  obtain ⟨rfl, h, tk, D, t1, t2, k, rfl, F, N⟩ := h
  exact next h tk D t1 t2 k F N
theorem TwoPost.mk {s : Shared} {L D : Addr} {X u v u' v' : PySem.Str} {t1 t2 : Tok} {k : Nat} {h : Heap} {tk : Nat} {m : PySem.Str → Option Value} {news : List (Addr × Obj)} (e1 : u = u') (e2 : v = v') (F : Fr h₀ L h (fun y => if y = X then some (.ref D) else m y)) (N : News h₀ L h ((D, W.listOf #[.str u' t1, .str v' t2] k) :: news)) : TwoPost h₀ L s X u v m news .next { s with heap := h, toks := tk } := by
  subst e1; subst e2; exact ⟨rfl, h, tk, D, t1, t2, k, rfl, F, N⟩
end
theorem sp8 {x : Int} (h : x ∈ int15) : (spF x).length ≤ 8 := by rw [sp_len h]; have := len_ok x h; omega
theorem div_tab : ∀ x ∈ int15, ∀ b ∈ [true, false], 0 ≤ sdL (spL x) b ∧ sdL (spL x) b < 4294967296 := by decide +kernel
theorem div_rng {x : Int} (h : x ∈ int15) (b : Bool) : 0 ≤ divF (spF x) b ∧ divF (spF x) b < 4294967296 := by
  rw [sp_div h]; exact div_tab x h b (bool_in b)
end Mine
end
section
open PySem PySem.W PyProof.Rows PySem.Calls PySem.Spec
open PySem.Builtin PySem.Builtin.Str
set_option maxHeartbeats 400000
set_option pp.deepTerms false
namespace Mine
theorem law_good {cl : PySem.Str → Option Addr} {mean : ExcName → Option Value} {ns : List Int} {s : Shared} {base h : Heap} {L : Addr} {m : PySem.Str → Option Value} {tk : Nat} (F : Fr base L h m) (hg : s.gens = #[]) :
    GoodW Challenge.rw_pe0173_01.row.claim cl mean [ofPy (PyData.list (List.map PyData.int ns))] { s with heap := base } (.ok (.ret (.bool true))) { s with heap := h, toks := tk } := by
  refine goodW_bool F hg (raisesW_false ?_) ?_
  · wrow_none_raised
  · wrow_post
theorem law_grown {h₀ h : Heap} {L : Addr} {a b c : Addr × Obj} {fx : List (Addr × Obj)} (N : PyProof.Rows.News h₀ L h (a :: b :: c :: fx)) (hf : Tb fx) : GrownAll [(41, 37), (34, 30)] h := by
  obtain ⟨ps, cd, pt, ct, rfl, _, _⟩ := hf
  exact ⟨GrownAt.of N (.tail _ (.tail _ (.tail _ (.head _)))), GrownAt.of N (.tail _ (.tail _ (.tail _ (.tail _ (.head _))))), trivial⟩
end Mine
end
section
open PySem PySem.W PyProof.Rows PySem.Calls PySem.Spec
open PySem.Builtin PySem.Builtin.Str
set_option maxHeartbeats 0
set_option pp.deepTerms false
namespace Mine
open PyProof.Rows.LCg
noncomputable abbrev ownF : List Int := [2, 2, 2, 0]
/-- what law draws from the script -/
noncomputable def drawF (ns : List Int) (i : Nat) : Int := ownF.getD i 0 + (pickNums ns (some (i : Int)) (some 20) (some 4)).sum
theorem own_get {t0 t1 t2 t3 : Tok} {i : Nat} {v : Value} (h : [Value.int 2 t0, .int 2 t1, .int 2 t2, .int 0 t3][i]? = some v) : ∃ t, v = .int (ownF.getD i 0) t := by
  match i, h with
  | 0, h => exact ⟨_, (Option.some.inj h).symm⟩
  | 1, h => exact ⟨_, (Option.some.inj h).symm⟩
  | 2, h => exact ⟨_, (Option.some.inj h).symm⟩
  | 3, h => exact ⟨_, (Option.some.inj h).symm⟩
  | n + 4, h => cases h
theorem w1 : PySem.Challenge.rw_pe0173_01.Holds := hd (by
  w_strict (k_go0; (all_goals try k_fold))
  rename PySem.Shared => sL
  refine abs1 fun P9 hP9 => ?_
  (repeat' (first | (k_unfold; (try dsimp only)) | (k_end; wrow_close) | ((fail_if_success (fail_if_success (with_reducible show wpAny _ _ (exec _ _) _ _ _))); k_fold) | ((fail_if_success (fail_if_success (with_reducible show wpAny _ _ (execs (_ :: _) _) _ _ (Shared.mk _ _ _ (HAdd.hAdd _ _) _)))); refine flat (s := sL) rfl rfl rfl (fun _ => ?_)) | ((fail_if_success (with_reducible show wpAny _ _ (exec (Stmt.Assign _ (Expr.ListComp _ _ _ _) _) _) _ _ _)); (fail_if_success (with_reducible show wpAny _ _ (call (Value.type "enumerate") _) _ _ _)); (fail_if_success (with_reducible show wpAny _ _ (execs (Stmt.Assign _ (Expr.IfExp _ _ _ _) _ :: _) _) _ _ _)); (fail_if_success (with_reducible show wpAny _ _ (call (Value.ref _) _) _ _ _)); (fail_if_success (with_reducible show wpAny _ _ (subscriptTail (PySem.Expr.BinOp _ _ _ _) _ _ _) _ _ _)); first | walk1 | (dsimp only; walk1) | (leave1; walk_say "STEP leave1"; try dsimp only)) | fail "no step"))
  k_dflt (refine' Assign_enum ?aF ?aL ?asw ?acl ?ace ?aki ?ana ?ax ?ax2 ?axx ?ay ?ap ?_; (case aF => k_asm); (case aL => exact rfl); (case asw => with_unfolding_all rfl); (case acl => with_unfolding_all rfl); (case ace => decide); (case aki => rfl); (case ana => decide); (case ax => rfl); (case ax2 => rfl); (case axx => decide); (case ay => exact rfl); (case ap => exact rfl))
  (repeat' (first | (k_unfold; (try dsimp only)) | (k_end; wrow_close) | ((fail_if_success (fail_if_success (with_reducible show wpAny _ _ (exec _ _) _ _ _))); k_fold) | ((fail_if_success (fail_if_success (with_reducible show wpAny _ _ (execs (_ :: _) _) _ _ (Shared.mk _ _ _ (HAdd.hAdd _ _) _)))); refine flat (s := sL) rfl rfl rfl (fun _ => ?_)) | ((fail_if_success (with_reducible show wpAny _ _ (exec (Stmt.Assign _ (Expr.ListComp _ _ _ _) _) _) _ _ _)); (fail_if_success (with_reducible show wpAny _ _ (call (Value.type "enumerate") _) _ _ _)); (fail_if_success (with_reducible show wpAny _ _ (execs (Stmt.Assign _ (Expr.IfExp _ _ _ _) _ :: _) _) _ _ _)); (fail_if_success (with_reducible show wpAny _ _ (call (Value.ref _) _) _ _ _)); (fail_if_success (with_reducible show wpAny _ _ (subscriptTail (PySem.Expr.BinOp _ _ _ _) _ _ _) _ _ _)); first | walk1 | (dsimp only; walk1) | (leave1; walk_say "STEP leave1"; try dsimp only)) | fail "no step"))
  rename IntsAre _ _ => hI
  rename List Int => ns
  k_dflt (refine' enum_src (vs := [.int 2 _, .int 2 _, .int 2 _, .int 0 _]) (drawF ns) ?eh ?eF ?eN ?em ?ec ?ed ?ev ?rule ?fin; (case eh => with_unfolding_all rfl); (case eF => k_asm); (case eN => k_asm); (case em => k_mem); (case ec => exact rfl); (case ed => exact rfl); (case ev => simp only [List.length_cons, List.length_nil]; decide))
  case rule =>
    intro e it g i v t oe oi C oC D m₂ h tk ys E' Q' hv hC hx hx2 F9 N9 hQ
    obtain ⟨t9, rfl⟩ := own_get hv
    (repeat' (first | (k_unfold; (try dsimp only)) | (k_end; wrow_close) | ((fail_if_success (fail_if_success (with_reducible show wpAny _ _ (exec _ _) _ _ _))); k_fold) | ((fail_if_success (fail_if_success (with_reducible show wpAny _ _ (execs (_ :: _) _) _ _ (Shared.mk _ _ _ (HAdd.hAdd _ _) _)))); refine flat (s := sL) rfl rfl rfl (fun _ => ?_)) | ((fail_if_success (with_reducible show wpAny _ _ (exec (Stmt.Assign _ (Expr.ListComp _ _ _ _) _) _) _ _ _)); (fail_if_success (with_reducible show wpAny _ _ (call (Value.type "enumerate") _) _ _ _)); (fail_if_success (with_reducible show wpAny _ _ (execs (Stmt.Assign _ (Expr.IfExp _ _ _ _) _ :: _) _) _ _ _)); (fail_if_success (with_reducible show wpAny _ _ (call (Value.ref _) _) _ _ _)); (fail_if_success (with_reducible show wpAny _ _ (subscriptTail (PySem.Expr.BinOp _ _ _ _) _ _ _) _ _ _)); first | walk1 | (dsimp only; walk1) | (leave1; walk_say "STEP leave1"; try dsimp only)) | fail "no step"))
    rename News _ _ _ (_ :: (e, oe) :: _) => N8
    k_dflt (refine' sumK (vs := (slicePick _ _ _ _).toList) ?sh ?sF ?sN ⟨_, News.get N8 (List.Mem.head _), rfl, _, rfl⟩ (IntsAre.pick hI _ _ _) ?_; (case sh => with_unfolding_all rfl); (case sF => k_asm); (case sN => k_asm); k_whole)
    intro h7 tk7 t7 F7 N7
    (try dsimp only)
    (try k_fold)
    (repeat' (first | (k_unfold; (try dsimp only)) | (k_end; wrow_close) | ((fail_if_success (fail_if_success (with_reducible show wpAny _ _ (exec _ _) _ _ _))); k_fold) | ((fail_if_success (fail_if_success (with_reducible show wpAny _ _ (execs (_ :: _) _) _ _ (Shared.mk _ _ _ (HAdd.hAdd _ _) _)))); refine flat (s := sL) rfl rfl rfl (fun _ => ?_)) | ((fail_if_success (with_reducible show wpAny _ _ (exec (Stmt.Assign _ (Expr.ListComp _ _ _ _) _) _) _ _ _)); (fail_if_success (with_reducible show wpAny _ _ (call (Value.type "enumerate") _) _ _ _)); (fail_if_success (with_reducible show wpAny _ _ (execs (Stmt.Assign _ (Expr.IfExp _ _ _ _) _ :: _) _) _ _ _)); (fail_if_success (with_reducible show wpAny _ _ (call (Value.ref _) _) _ _ _)); (fail_if_success (with_reducible show wpAny _ _ (subscriptTail (PySem.Expr.BinOp _ _ _ _) _ _ _) _ _ _)); first | walk1 | (dsimp only; walk1) | (leave1; walk_say "STEP leave1"; try dsimp only)) | fail "no step"))
    exact hQ _ _ _ (by k_asm) (fun p hp => N7 p (List.Mem.tail _ hp))
  case fin =>
    intro D ys h tk hys F9 N9
    simp only [List.length_cons, List.length_nil] at hys
    generalize hd0 : drawF ns 0 = d0 at *
    have hys' : IntsAre ys [d0, drawF ns 1, drawF ns 2, drawF ns 3] := by rw [← hd0]; exact hys
    clear hys hd0
    generalize drawF ns 1 = d1 at hys'
    generalize drawF ns 2 = d2 at hys'
    generalize drawF ns 3 = d3 at hys'
    clear hI
    obtain ⟨xp, yp, ip, zp⟩ := piece_in (d := d0.fdiv 3) (Int.fmod_nonneg_of_pos d0 (show (0 : Int) < 3 by decide)) (Int.fmod_lt_of_pos d0 (show (0 : Int) < 3 by decide))
    obtain ⟨xr, yr, ir, zr⟩ := piece_in (d := d1) (Int.fmod_nonneg_of_pos d0 (show (0 : Int) < 3 by decide)) (Int.fmod_lt_of_pos d0 (show (0 : Int) < 3 by decide))
    obtain ⟨xa, ya, ia⟩ := side_in d2
    obtain ⟨xb, yb, ib⟩ := side_in d3
    rename (_ = Data.cell _) => hcell
    (try dsimp only)
    (try k_fold)
    (repeat' (first | (k_unfold; (try dsimp only)) | (k_end; wrow_close) | ((fail_if_success (fail_if_success (with_reducible show wpAny _ _ (exec _ _) _ _ _))); k_fold) | ((fail_if_success (fail_if_success (with_reducible show wpAny _ _ (execs (_ :: _) _) _ _ (Shared.mk _ _ _ (HAdd.hAdd _ _) _)))); refine flat (s := sL) rfl rfl rfl (fun _ => ?_)) | ((fail_if_success (with_reducible show wpAny _ _ (exec (Stmt.Assign _ (Expr.ListComp _ _ _ _) _) _) _ _ _)); (fail_if_success (with_reducible show wpAny _ _ (call (Value.type "enumerate") _) _ _ _)); (fail_if_success (with_reducible show wpAny _ _ (execs (Stmt.Assign _ (Expr.IfExp _ _ _ _) _ :: _) _) _ _ _)); (fail_if_success (with_reducible show wpAny _ _ (call (Value.ref _) _) _ _ _)); (fail_if_success (with_reducible show wpAny _ _ (subscriptTail (PySem.Expr.BinOp _ _ _ _) _ _ _) _ _ _)); first | walk1 | (dsimp only; walk1) | (leave1; walk_say "STEP leave1"; try dsimp only)) | fail "no step"))
    k_dflt (refine' law_spell (fx := led2 #[] [] #[] []) xp ?y1 _ ?i1 ?b1 ?f1 ?x1 ?n1 ?t1 ?k1 ?p1 ?h1 ?v1 ?d1 ?u1 ?c1 ?e1 ?_; (case y1 => exact yp); (case i1 => exact in2 ip); (case b1 => k_asm); (case f1 => k_asm); (case x1 => k_asm); (case n1 => k_asm); (case t1 => k_asm); (case k1 => first | exact rfl | assumption); (case d1 => ktr_room); (case u1 => ktr_units); (case c1 => assumption); (case e1 => assumption); (case p1 => exact (Pre.cons (Pre.cons (Pre.cons Pre.nil)))); (case h1 => exact Tb.nil); (case v1 => exact ⟨nofun, nofun, (by intro vs e; rw [hcell] at e; cases e), trivial⟩); k_whole)
    intro t1 h1 tk1 fx1 F1 N1 hfx1
    have N1 := Mine.News.two N1
    (try dsimp only)
    (try k_fold)
    (repeat' (first | (k_unfold; (try dsimp only)) | (k_end; wrow_close) | ((fail_if_success (fail_if_success (with_reducible show wpAny _ _ (exec _ _) _ _ _))); k_fold) | ((fail_if_success (fail_if_success (with_reducible show wpAny _ _ (execs (_ :: _) _) _ _ (Shared.mk _ _ _ (HAdd.hAdd _ _) _)))); refine flat (s := sL) rfl rfl rfl (fun _ => ?_)) | ((fail_if_success (with_reducible show wpAny _ _ (exec (Stmt.Assign _ (Expr.ListComp _ _ _ _) _) _) _ _ _)); (fail_if_success (with_reducible show wpAny _ _ (call (Value.type "enumerate") _) _ _ _)); (fail_if_success (with_reducible show wpAny _ _ (execs (Stmt.Assign _ (Expr.IfExp _ _ _ _) _ :: _) _) _ _ _)); (fail_if_success (with_reducible show wpAny _ _ (call (Value.ref _) _) _ _ _)); (fail_if_success (with_reducible show wpAny _ _ (subscriptTail (PySem.Expr.BinOp _ _ _ _) _ _ _) _ _ _)); first | walk1 | (dsimp only; walk1) | (leave1; walk_say "STEP leave1"; try dsimp only)) | fail "no step"))
    k_dflt (refine' law_spell (fx := fx1) xr ?y2 _ ?i2 ?b2 ?f2 ?x2 ?n2 ?t2 ?k2 ?p2 ?h2 ?v2 ?d2 ?u2 ?c2 ?e2 ?_; (case y2 => exact yr); (case i2 => exact in2 ir); (case b2 => k_asm); (case f2 => k_asm); (case x2 => k_asm); (case n2 => k_asm); (case t2 => k_asm); (case k2 => first | exact rfl | assumption); (case d2 => ktr_room); (case u2 => ktr_units); (case c2 => assumption); (case e2 => assumption); (case p2 => exact (Pre.cons Pre.nil)); (case h2 => exact hfx1); (case v2 => exact ⟨nofun, trivial⟩); k_whole)
    intro t2 h2 tk2 fx2 F2 N2 hfx2
    simp only [List.cons_append, List.nil_append] at N2
    (try dsimp only)
    (try k_fold)
    (repeat' (first | (k_unfold; (try dsimp only)) | (k_end; wrow_close) | ((fail_if_success (fail_if_success (with_reducible show wpAny _ _ (exec _ _) _ _ _))); k_fold) | ((fail_if_success (fail_if_success (with_reducible show wpAny _ _ (execs (_ :: _) _) _ _ (Shared.mk _ _ _ (HAdd.hAdd _ _) _)))); refine flat (s := sL) rfl rfl rfl (fun _ => ?_)) | ((fail_if_success (with_reducible show wpAny _ _ (exec (Stmt.Assign _ (Expr.ListComp _ _ _ _) _) _) _ _ _)); (fail_if_success (with_reducible show wpAny _ _ (call (Value.type "enumerate") _) _ _ _)); (fail_if_success (with_reducible show wpAny _ _ (execs (Stmt.Assign _ (Expr.IfExp _ _ _ _) _ :: _) _) _ _ _)); (fail_if_success (with_reducible show wpAny _ _ (call (Value.ref _) _) _ _ _)); (fail_if_success (with_reducible show wpAny _ _ (subscriptTail (PySem.Expr.BinOp _ _ _ _) _ _ _) _ _ _)); first | walk1 | (dsimp only; walk1) | (leave1; walk_say "STEP leave1"; try dsimp only)) | fail "no step"))
    k_dflt (refine' law_spell (fx := fx2) xa ?y3 _ ?i3 ?b3 ?f3 ?x3 ?n3 ?t3 ?k3 ?p3 ?h3 ?v3 ?d3 ?u3 ?c3 ?e3 ?_; (case y3 => exact ya); (case i3 => exact in3 ia); (case b3 => k_asm); (case f3 => k_asm); (case x3 => k_asm); (case n3 => k_asm); (case t3 => k_asm); (case k3 => first | exact rfl | assumption); (case d3 => ktr_room); (case u3 => ktr_units); (case c3 => assumption); (case e3 => assumption); (case p3 => exact (Pre.cons Pre.nil)); (case h3 => exact hfx2); (case v3 => exact ⟨nofun, trivial⟩); k_whole)
    intro t3 h3 tk3 fx3 F3 N3 hfx3
    simp only [List.cons_append, List.nil_append] at N3
    (try dsimp only)
    (try k_fold)
    (repeat' (first | (k_unfold; (try dsimp only)) | (k_end; wrow_close) | ((fail_if_success (fail_if_success (with_reducible show wpAny _ _ (exec _ _) _ _ _))); k_fold) | ((fail_if_success (fail_if_success (with_reducible show wpAny _ _ (execs (_ :: _) _) _ _ (Shared.mk _ _ _ (HAdd.hAdd _ _) _)))); refine flat (s := sL) rfl rfl rfl (fun _ => ?_)) | ((fail_if_success (with_reducible show wpAny _ _ (exec (Stmt.Assign _ (Expr.ListComp _ _ _ _) _) _) _ _ _)); (fail_if_success (with_reducible show wpAny _ _ (call (Value.type "enumerate") _) _ _ _)); (fail_if_success (with_reducible show wpAny _ _ (execs (Stmt.Assign _ (Expr.IfExp _ _ _ _) _ :: _) _) _ _ _)); (fail_if_success (with_reducible show wpAny _ _ (call (Value.ref _) _) _ _ _)); (fail_if_success (with_reducible show wpAny _ _ (subscriptTail (PySem.Expr.BinOp _ _ _ _) _ _ _) _ _ _)); first | walk1 | (dsimp only; walk1) | (leave1; walk_say "STEP leave1"; try dsimp only)) | fail "no step"))
    k_dflt (refine' law_spell (fx := fx3) xb ?y4 _ ?i4 ?b4 ?f4 ?x4 ?n4 ?t4 ?k4 ?p4 ?h4 ?v4 ?d4 ?u4 ?c4 ?e4 ?_; (case y4 => exact yb); (case i4 => exact in3 ib); (case b4 => k_asm); (case f4 => k_asm); (case x4 => k_asm); (case n4 => k_asm); (case t4 => k_asm); (case k4 => first | exact rfl | assumption); (case d4 => ktr_room); (case u4 => ktr_units); (case c4 => assumption); (case e4 => assumption); (case p4 => exact (Pre.cons Pre.nil)); (case h4 => exact hfx3); (case v4 => exact ⟨nofun, trivial⟩); k_whole)
    intro t4 h4 tk4 fx4 F4 N4 hfx4
    simp only [List.cons_append, List.nil_append] at N4
    (try dsimp only)
    (try k_fold)
    (repeat' (first | (k_unfold; (try dsimp only)) | (k_end; wrow_close) | ((fail_if_success (fail_if_success (with_reducible show wpAny _ _ (exec _ _) _ _ _))); k_fold) | ((fail_if_success (fail_if_success (with_reducible show wpAny _ _ (execs (_ :: _) _) _ _ (Shared.mk _ _ _ (HAdd.hAdd _ _) _)))); refine flat (s := sL) rfl rfl rfl (fun _ => ?_)) | ((fail_if_success (with_reducible show wpAny _ _ (exec (Stmt.Assign _ (Expr.ListComp _ _ _ _) _) _) _ _ _)); (fail_if_success (with_reducible show wpAny _ _ (call (Value.type "enumerate") _) _ _ _)); (fail_if_success (with_reducible show wpAny _ _ (execs (Stmt.Assign _ (Expr.IfExp _ _ _ _) _ :: _) _) _ _ _)); (fail_if_success (with_reducible show wpAny _ _ (call (Value.ref _) _) _ _ _)); (fail_if_success (with_reducible show wpAny _ _ (subscriptTail (PySem.Expr.BinOp _ _ _ _) _ _ _) _ _ _)); first | walk1 | (dsimp only; walk1) | (leave1; walk_say "STEP leave1"; try dsimp only)) | fail "no step"))
    rename News _ _ _ _ => Nz
    generalize ((([d0, d1, d2, d3].getD (Int.toNat 2) 0).fdiv 3).fmod 2 == 1) = la at Nz
    generalize ((([d0, d1, d2, d3].getD (Int.toNat 3) 0).fdiv 3).fmod 2 == 1) = lb at Nz
    k_dflt (refine' join_two (X := PySem.Str.ofString "front") (u := sdA (spF xa) la) (v := sdB (spF xa) la) ?jL5 ?jF5 ?jN5 ?jif5 ?jn5; (case jL5 => exact rfl); (case jF5 => k_asm); (case jN5 => k_asm))
    case jif5 =>
      (repeat' (first | (k_unfold; (try dsimp only)) | (k_end; wrow_close) | ((fail_if_success (fail_if_success (with_reducible show wpAny _ _ (exec _ _) _ _ _))); k_fold) | ((fail_if_success (fail_if_success (with_reducible show wpAny _ _ (execs (_ :: _) _) _ _ (Shared.mk _ _ _ (HAdd.hAdd _ _) _)))); refine flat (s := sL) rfl rfl rfl (fun _ => ?_)) | ((fail_if_success (with_reducible show wpAny _ _ (exec (Stmt.Assign _ (Expr.ListComp _ _ _ _) _) _) _ _ _)); (fail_if_success (with_reducible show wpAny _ _ (call (Value.type "enumerate") _) _ _ _)); (fail_if_success (with_reducible show wpAny _ _ (execs (Stmt.Assign _ (Expr.IfExp _ _ _ _) _ :: _) _) _ _ _)); (fail_if_success (with_reducible show wpAny _ _ (call (Value.ref _) _) _ _ _)); (fail_if_success (with_reducible show wpAny _ _ (subscriptTail (PySem.Expr.BinOp _ _ _ _) _ _ _) _ _ _)); first | walk1 | (dsimp only; walk1) | (leave1; walk_say "STEP leave1"; try dsimp only)) | fail "no step"))
      all_goals (refine' TwoPost.mk ?e15 ?e25 ?F15 ?N15; (case F15 => k_asm); (case N15 => k_asm); (case e15 => first | exact sdA_t (by assumption) | exact sdA_f (by assumption) | exact sdB_t (by assumption) | exact sdB_f (by assumption)); (case e25 => first | exact sdA_t (by assumption) | exact sdA_f (by assumption) | exact sdB_t (by assumption) | exact sdB_f (by assumption)))
    intro h5 tk5 D5 t5a t5b k5 F5 N5
    (try dsimp only)
    (try k_fold)
    (repeat' (first | (k_unfold; (try dsimp only)) | (k_end; wrow_close) | ((fail_if_success (fail_if_success (with_reducible show wpAny _ _ (exec _ _) _ _ _))); k_fold) | ((fail_if_success (fail_if_success (with_reducible show wpAny _ _ (execs (_ :: _) _) _ _ (Shared.mk _ _ _ (HAdd.hAdd _ _) _)))); refine flat (s := sL) rfl rfl rfl (fun _ => ?_)) | ((fail_if_success (with_reducible show wpAny _ _ (exec (Stmt.Assign _ (Expr.ListComp _ _ _ _) _) _) _ _ _)); (fail_if_success (with_reducible show wpAny _ _ (call (Value.type "enumerate") _) _ _ _)); (fail_if_success (with_reducible show wpAny _ _ (execs (Stmt.Assign _ (Expr.IfExp _ _ _ _) _ :: _) _) _ _ _)); (fail_if_success (with_reducible show wpAny _ _ (call (Value.ref _) _) _ _ _)); (fail_if_success (with_reducible show wpAny _ _ (subscriptTail (PySem.Expr.BinOp _ _ _ _) _ _ _) _ _ _)); first | walk1 | (dsimp only; walk1) | (leave1; walk_say "STEP leave1"; try dsimp only)) | fail "no step"))
    k_dflt (refine' join_two (X := PySem.Str.ofString "back") (u := sdB (spF xb) lb) (v := sdA (spF xb) lb) ?jL6 ?jF6 ?jN6 ?jif6 ?jn6; (case jL6 => exact rfl); (case jF6 => k_asm); (case jN6 => k_asm))
    case jif6 =>
      (repeat' (first | (k_unfold; (try dsimp only)) | (k_end; wrow_close) | ((fail_if_success (fail_if_success (with_reducible show wpAny _ _ (exec _ _) _ _ _))); k_fold) | ((fail_if_success (fail_if_success (with_reducible show wpAny _ _ (execs (_ :: _) _) _ _ (Shared.mk _ _ _ (HAdd.hAdd _ _) _)))); refine flat (s := sL) rfl rfl rfl (fun _ => ?_)) | ((fail_if_success (with_reducible show wpAny _ _ (exec (Stmt.Assign _ (Expr.ListComp _ _ _ _) _) _) _ _ _)); (fail_if_success (with_reducible show wpAny _ _ (call (Value.type "enumerate") _) _ _ _)); (fail_if_success (with_reducible show wpAny _ _ (execs (Stmt.Assign _ (Expr.IfExp _ _ _ _) _ :: _) _) _ _ _)); (fail_if_success (with_reducible show wpAny _ _ (call (Value.ref _) _) _ _ _)); (fail_if_success (with_reducible show wpAny _ _ (subscriptTail (PySem.Expr.BinOp _ _ _ _) _ _ _) _ _ _)); first | walk1 | (dsimp only; walk1) | (leave1; walk_say "STEP leave1"; try dsimp only)) | fail "no step"))
      all_goals (refine' TwoPost.mk ?e16 ?e26 ?F16 ?N16; (case F16 => k_asm); (case N16 => k_asm); (case e16 => first | exact sdA_t (by assumption) | exact sdA_f (by assumption) | exact sdB_t (by assumption) | exact sdB_f (by assumption)); (case e26 => first | exact sdA_t (by assumption) | exact sdA_f (by assumption) | exact sdB_t (by assumption) | exact sdB_f (by assumption)))
    intro h6 tk6 D6 t6a t6b k6 F6 N6
    (try dsimp only)
    (try k_fold)
    (repeat' (first | (k_unfold; (try dsimp only)) | (k_end; wrow_close) | ((fail_if_success (fail_if_success (with_reducible show wpAny _ _ (exec _ _) _ _ _))); k_fold) | ((fail_if_success (fail_if_success (with_reducible show wpAny _ _ (execs (_ :: _) _) _ _ (Shared.mk _ _ _ (HAdd.hAdd _ _) _)))); refine flat (s := sL) rfl rfl rfl (fun _ => ?_)) | ((fail_if_success (with_reducible show wpAny _ _ (exec (Stmt.Assign _ (Expr.ListComp _ _ _ _) _) _) _ _ _)); (fail_if_success (with_reducible show wpAny _ _ (call (Value.type "enumerate") _) _ _ _)); (fail_if_success (with_reducible show wpAny _ _ (execs (Stmt.Assign _ (Expr.IfExp _ _ _ _) _ :: _) _) _ _ _)); (fail_if_success (with_reducible show wpAny _ _ (call (Value.ref _) _) _ _ _)); (fail_if_success (with_reducible show wpAny _ _ (subscriptTail (PySem.Expr.BinOp _ _ _ _) _ _ _) _ _ _)); first | walk1 | (dsimp only; walk1) | (leave1; walk_say "STEP leave1"; try dsimp only)) | fail "no step"))
    k_dflt (refine' law_taken xa xb xp la lb ia ib ip ?b7 ?f7 ?x7 ?n7 ?t7 ?k7 ?P7 ?d7 ?u7 ?c7 ?e7 ?_; (case b7 => k_asm); (case f7 => k_asm); (case x7 => k_asm); (case n7 => k_asm); (case t7 => k_asm); (case k7 => first | exact rfl | assumption); (case d7 => ktr_room); (case u7 => ktr_units); (case c7 => assumption); (case e7 => assumption); (case P7 => exact ⟨_, News.get (by k_asm) (by k_mem), rfl, _, rfl⟩); k_whole)
    intro D7 vs7 nC7 h7 tk7 F7 N7 hI7
    (try dsimp only)
    (try k_fold)
    (repeat' (first | (k_unfold; (try dsimp only)) | (k_end; wrow_close) | ((fail_if_success (fail_if_success (with_reducible show wpAny _ _ (exec _ _) _ _ _))); k_fold) | ((fail_if_success (fail_if_success (with_reducible show wpAny _ _ (execs (_ :: _) _) _ _ (Shared.mk _ _ _ (HAdd.hAdd _ _) _)))); refine flat (s := sL) rfl rfl rfl (fun _ => ?_)) | ((fail_if_success (with_reducible show wpAny _ _ (exec (Stmt.Assign _ (Expr.ListComp _ _ _ _) _) _) _ _ _)); (fail_if_success (with_reducible show wpAny _ _ (call (Value.type "enumerate") _) _ _ _)); (fail_if_success (with_reducible show wpAny _ _ (execs (Stmt.Assign _ (Expr.IfExp _ _ _ _) _ :: _) _) _ _ _)); (fail_if_success (with_reducible show wpAny _ _ (call (Value.ref _) _) _ _ _)); (fail_if_success (with_reducible show wpAny _ _ (subscriptTail (PySem.Expr.BinOp _ _ _ _) _ _ _) _ _ _)); first | walk1 | (dsimp only; walk1) | (leave1; walk_say "STEP leave1"; try dsimp only)) | fail "no step"))
    (k_here; k_dflt (refine kba_turn (value' := PySem.Expr.Name (PySem.Str.ofString "_") ⟨0, 0, 0, 0⟩) (fun _ => rfl) ?_))
    (repeat' (first | (k_unfold; (try dsimp only)) | (k_end; wrow_close) | ((fail_if_success (fail_if_success (with_reducible show wpAny _ _ (exec _ _) _ _ _))); k_fold) | ((fail_if_success (fail_if_success (with_reducible show wpAny _ _ (execs (_ :: _) _) _ _ (Shared.mk _ _ _ (HAdd.hAdd _ _) _)))); refine flat (s := sL) rfl rfl rfl (fun _ => ?_)) | ((fail_if_success (with_reducible show wpAny _ _ (exec (Stmt.Assign _ (Expr.ListComp _ _ _ _) _) _) _ _ _)); (fail_if_success (with_reducible show wpAny _ _ (call (Value.type "enumerate") _) _ _ _)); (fail_if_success (with_reducible show wpAny _ _ (execs (Stmt.Assign _ (Expr.IfExp _ _ _ _) _ :: _) _) _ _ _)); (fail_if_success (with_reducible show wpAny _ _ (call (Value.ref _) _) _ _ _)); (fail_if_success (with_reducible show wpAny _ _ (subscriptTail (PySem.Expr.BinOp _ _ _ _) _ _ _) _ _ _)); first | walk1 | (dsimp only; walk1) | (leave1; walk_say "STEP leave1"; try dsimp only)) | fail "no step"))
    k_dflt (refine' law_taken xb xa xr lb la ib ia ir ?b8 ?f8 ?x8 ?n8 ?t8 ?k8 ?P8 ?d8 ?u8 ?c8 ?e8 ?_; (case b8 => k_asm); (case f8 => k_asm); (case x8 => k_asm); (case n8 => k_asm); (case t8 => k_asm); (case k8 => first | exact rfl | assumption); (case d8 => ktr_room); (case u8 => ktr_units); (case c8 => assumption); (case e8 => assumption); (case P8 => exact ⟨_, News.get (by k_asm) (by k_mem), rfl, _, rfl⟩); k_whole)
    intro D8 vs8 nC8 h8 tk8 F8 N8 hI8
    (try dsimp only)
    (try k_fold)
    (repeat' (first | (k_unfold; (try dsimp only)) | (k_end; wrow_close) | ((fail_if_success (fail_if_success (with_reducible show wpAny _ _ (exec _ _) _ _ _))); k_fold) | ((fail_if_success (fail_if_success (with_reducible show wpAny _ _ (execs (_ :: _) _) _ _ (Shared.mk _ _ _ (HAdd.hAdd _ _) _)))); refine flat (s := sL) rfl rfl rfl (fun _ => ?_)) | ((fail_if_success (with_reducible show wpAny _ _ (exec (Stmt.Assign _ (Expr.ListComp _ _ _ _) _) _) _ _ _)); (fail_if_success (with_reducible show wpAny _ _ (call (Value.type "enumerate") _) _ _ _)); (fail_if_success (with_reducible show wpAny _ _ (execs (Stmt.Assign _ (Expr.IfExp _ _ _ _) _ :: _) _) _ _ _)); (fail_if_success (with_reducible show wpAny _ _ (call (Value.ref _) _) _ _ _)); (fail_if_success (with_reducible show wpAny _ _ (subscriptTail (PySem.Expr.BinOp _ _ _ _) _ _ _) _ _ _)); first | walk1 | (dsimp only; walk1) | (leave1; walk_say "STEP leave1"; try dsimp only)) | fail "no step"))
    obtain ⟨_, _⟩ := div_rng (in3 ia) la
    obtain ⟨_, _⟩ := div_rng (in3 ib) lb
    obtain ⟨_, _⟩ := div_rng (in2 ip) true
    obtain ⟨_, _⟩ := div_rng (in2 ir) true
    rename News _ _ _ _ => Nw
    have N8t := Mine.News.three Nw
    clear Nw
    rw [bF_comm] at hI8
    k_dflt (refine' law_div (fx := fx4) (spF xa) _ la (sp_lap (in3 ia)) (sp_hB (in3 ia)) (sp8 (in3 ia)) ?b9 ?f9 ?x9 ?n9 ?t9 ?k9 ?p9 ?h9 ?v9 ?d9 ?u9 ?c9 ?e9 ?_; (case b9 => k_asm); (case f9 => k_asm); (case x9 => k_asm); (case n9 => k_asm); (case t9 => k_asm); (case k9 => first | exact rfl | assumption); (case d9 => ktr_room); (case u9 => ktr_units); (case c9 => assumption); (case e9 => assumption); (case p9 => exact (Pre.cons (Pre.cons (Pre.cons Pre.nil)))); (case h9 => exact hfx4); (case v9 => exact ⟨nofun, nofun, nofun, trivial⟩); k_whole)
    intro t9 h9 tk9 fx9 F9 N9 hfx9
    simp only [List.cons_append, List.nil_append] at N9
    (try dsimp only)
    (try k_fold)
    (repeat' (first | (k_unfold; (try dsimp only)) | (k_end; wrow_close) | ((fail_if_success (fail_if_success (with_reducible show wpAny _ _ (exec _ _) _ _ _))); k_fold) | ((fail_if_success (fail_if_success (with_reducible show wpAny _ _ (execs (_ :: _) _) _ _ (Shared.mk _ _ _ (HAdd.hAdd _ _) _)))); refine flat (s := sL) rfl rfl rfl (fun _ => ?_)) | ((fail_if_success (with_reducible show wpAny _ _ (exec (Stmt.Assign _ (Expr.ListComp _ _ _ _) _) _) _ _ _)); (fail_if_success (with_reducible show wpAny _ _ (call (Value.type "enumerate") _) _ _ _)); (fail_if_success (with_reducible show wpAny _ _ (execs (Stmt.Assign _ (Expr.IfExp _ _ _ _) _ :: _) _) _ _ _)); (fail_if_success (with_reducible show wpAny _ _ (call (Value.ref _) _) _ _ _)); (fail_if_success (with_reducible show wpAny _ _ (subscriptTail (PySem.Expr.BinOp _ _ _ _) _ _ _) _ _ _)); first | walk1 | (dsimp only; walk1) | (leave1; walk_say "STEP leave1"; try dsimp only)) | fail "no step"))
    k_dflt (refine' law_div (fx := fx9) (spF xb) _ lb (sp_lap (in3 ib)) (sp_hB (in3 ib)) (sp8 (in3 ib)) ?b10 ?f10 ?x10 ?n10 ?t10 ?k10 ?p10 ?h10 ?v10 ?d10 ?u10 ?c10 ?e10 ?_; (case b10 => k_asm); (case f10 => k_asm); (case x10 => k_asm); (case n10 => k_asm); (case t10 => k_asm); (case k10 => first | exact rfl | assumption); (case d10 => ktr_room); (case u10 => ktr_units); (case c10 => assumption); (case e10 => assumption); (case p10 => exact (Pre.cons (Pre.cons (Pre.cons Pre.nil)))); (case h10 => exact hfx9); (case v10 => exact ⟨nofun, nofun, nofun, trivial⟩); k_whole)
    intro t10 h10 tk10 fx10 F10 N10 hfx10
    simp only [List.cons_append, List.nil_append] at N10
    (try dsimp only)
    (try k_fold)
    (repeat' (first | (k_unfold; (try dsimp only)) | (k_end; wrow_close) | ((fail_if_success (fail_if_success (with_reducible show wpAny _ _ (exec _ _) _ _ _))); k_fold) | ((fail_if_success (fail_if_success (with_reducible show wpAny _ _ (execs (_ :: _) _) _ _ (Shared.mk _ _ _ (HAdd.hAdd _ _) _)))); refine flat (s := sL) rfl rfl rfl (fun _ => ?_)) | ((fail_if_success (with_reducible show wpAny _ _ (exec (Stmt.Assign _ (Expr.ListComp _ _ _ _) _) _) _ _ _)); (fail_if_success (with_reducible show wpAny _ _ (call (Value.type "enumerate") _) _ _ _)); (fail_if_success (with_reducible show wpAny _ _ (execs (Stmt.Assign _ (Expr.IfExp _ _ _ _) _ :: _) _) _ _ _)); (fail_if_success (with_reducible show wpAny _ _ (call (Value.ref _) _) _ _ _)); (fail_if_success (with_reducible show wpAny _ _ (subscriptTail (PySem.Expr.BinOp _ _ _ _) _ _ _) _ _ _)); first | walk1 | (dsimp only; walk1) | (leave1; walk_say "STEP leave1"; try dsimp only)) | fail "no step"))
    k_dflt (refine' law_div (fx := fx10) (spF xp) _ true (sp_lap (in2 ip)) (sp_hB (in2 ip)) (sp8 (in2 ip)) ?b11 ?f11 ?x11 ?n11 ?t11 ?k11 ?p11 ?h11 ?v11 ?d11 ?u11 ?c11 ?e11 ?_; (case b11 => k_asm); (case f11 => k_asm); (case x11 => k_asm); (case n11 => k_asm); (case t11 => k_asm); (case k11 => first | exact rfl | assumption); (case d11 => ktr_room); (case u11 => ktr_units); (case c11 => assumption); (case e11 => assumption); (case p11 => exact (Pre.cons (Pre.cons (Pre.cons Pre.nil)))); (case h11 => exact hfx10); (case v11 => exact ⟨nofun, nofun, nofun, trivial⟩); k_whole)
    intro t11 h11 tk11 fx11 F11 N11 hfx11
    simp only [List.cons_append, List.nil_append] at N11
    (try dsimp only)
    (try k_fold)
    (repeat' (first | (k_unfold; (try dsimp only)) | (k_end; wrow_close) | ((fail_if_success (fail_if_success (with_reducible show wpAny _ _ (exec _ _) _ _ _))); k_fold) | ((fail_if_success (fail_if_success (with_reducible show wpAny _ _ (execs (_ :: _) _) _ _ (Shared.mk _ _ _ (HAdd.hAdd _ _) _)))); refine flat (s := sL) rfl rfl rfl (fun _ => ?_)) | ((fail_if_success (with_reducible show wpAny _ _ (exec (Stmt.Assign _ (Expr.ListComp _ _ _ _) _) _) _ _ _)); (fail_if_success (with_reducible show wpAny _ _ (call (Value.type "enumerate") _) _ _ _)); (fail_if_success (with_reducible show wpAny _ _ (execs (Stmt.Assign _ (Expr.IfExp _ _ _ _) _ :: _) _) _ _ _)); (fail_if_success (with_reducible show wpAny _ _ (call (Value.ref _) _) _ _ _)); (fail_if_success (with_reducible show wpAny _ _ (subscriptTail (PySem.Expr.BinOp _ _ _ _) _ _ _) _ _ _)); first | walk1 | (dsimp only; walk1) | (leave1; walk_say "STEP leave1"; try dsimp only)) | fail "no step"))
    k_dflt (refine' law_readoff (fx := fx11) xa xb xp la lb ia ib ip ?y12 hI7 ?b12 ?f12 ?x12 ?n12 ?t12 ?k12 ?p12 ?h12 ?v12 ?m12 ?d12 ?u12 ?c12 ?e12 ?_; (case y12 => exact rfl); (case b12 => k_asm); (case f12 => k_asm); (case x12 => k_asm); (case n12 => k_asm); (case t12 => k_asm); (case k12 => first | exact rfl | assumption); (case d12 => ktr_room); (case u12 => ktr_units); (case c12 => assumption); (case e12 => assumption); (case p12 => exact (Pre.cons (Pre.cons (Pre.cons Pre.nil)))); (case h12 => exact hfx11); (case v12 => exact ⟨nofun, nofun, nofun, trivial⟩); (case m12 => exact by k_mem); k_whole)
    intro h12 tk12 fx12 F12 N12 hfx12
    simp only [List.cons_append, List.nil_append] at N12
    (try dsimp only)
    (try k_fold)
    (repeat' (first | (k_unfold; (try dsimp only)) | (k_end; wrow_close) | ((fail_if_success (fail_if_success (with_reducible show wpAny _ _ (exec _ _) _ _ _))); k_fold) | ((fail_if_success (fail_if_success (with_reducible show wpAny _ _ (execs (_ :: _) _) _ _ (Shared.mk _ _ _ (HAdd.hAdd _ _) _)))); refine flat (s := sL) rfl rfl rfl (fun _ => ?_)) | ((fail_if_success (with_reducible show wpAny _ _ (exec (Stmt.Assign _ (Expr.ListComp _ _ _ _) _) _) _ _ _)); (fail_if_success (with_reducible show wpAny _ _ (call (Value.type "enumerate") _) _ _ _)); (fail_if_success (with_reducible show wpAny _ _ (execs (Stmt.Assign _ (Expr.IfExp _ _ _ _) _ :: _) _) _ _ _)); (fail_if_success (with_reducible show wpAny _ _ (call (Value.ref _) _) _ _ _)); (fail_if_success (with_reducible show wpAny _ _ (subscriptTail (PySem.Expr.BinOp _ _ _ _) _ _ _) _ _ _)); first | walk1 | (dsimp only; walk1) | (leave1; walk_say "STEP leave1"; try dsimp only)) | fail "no step"))
    k_dflt (refine' law_div (fx := fx12) (spF xr) _ true (sp_lap (in2 ir)) (sp_hB (in2 ir)) (sp8 (in2 ir)) ?b13 ?f13 ?x13 ?n13 ?t13 ?k13 ?p13 ?h13 ?v13 ?d13 ?u13 ?c13 ?e13 ?_; (case b13 => k_asm); (case f13 => k_asm); (case x13 => k_asm); (case n13 => k_asm); (case t13 => k_asm); (case k13 => first | exact rfl | assumption); (case d13 => ktr_room); (case u13 => ktr_units); (case c13 => assumption); (case e13 => assumption); (case p13 => exact (Pre.cons (Pre.cons (Pre.cons Pre.nil)))); (case h13 => exact hfx12); (case v13 => exact ⟨nofun, nofun, nofun, trivial⟩); k_whole)
    intro t13 h13 tk13 fx13 F13 N13 hfx13
    simp only [List.cons_append, List.nil_append] at N13
    (try dsimp only)
    (try k_fold)
    (repeat' (first | (k_unfold; (try dsimp only)) | (k_end; wrow_close) | ((fail_if_success (fail_if_success (with_reducible show wpAny _ _ (exec _ _) _ _ _))); k_fold) | ((fail_if_success (fail_if_success (with_reducible show wpAny _ _ (execs (_ :: _) _) _ _ (Shared.mk _ _ _ (HAdd.hAdd _ _) _)))); refine flat (s := sL) rfl rfl rfl (fun _ => ?_)) | ((fail_if_success (with_reducible show wpAny _ _ (exec (Stmt.Assign _ (Expr.ListComp _ _ _ _) _) _) _ _ _)); (fail_if_success (with_reducible show wpAny _ _ (call (Value.type "enumerate") _) _ _ _)); (fail_if_success (with_reducible show wpAny _ _ (execs (Stmt.Assign _ (Expr.IfExp _ _ _ _) _ :: _) _) _ _ _)); (fail_if_success (with_reducible show wpAny _ _ (call (Value.ref _) _) _ _ _)); (fail_if_success (with_reducible show wpAny _ _ (subscriptTail (PySem.Expr.BinOp _ _ _ _) _ _ _) _ _ _)); first | walk1 | (dsimp only; walk1) | (leave1; walk_say "STEP leave1"; try dsimp only)) | fail "no step"))
    k_dflt (refine' law_readoff (fx := fx13) xa xb xr la lb ia ib ir ?y14 hI8 ?b14 ?f14 ?x14 ?n14 ?t14 ?k14 ?p14 ?h14 ?v14 ?m14 ?d14 ?u14 ?c14 ?e14 ?_; (case y14 => exact rfl); (case b14 => k_asm); (case f14 => k_asm); (case x14 => k_asm); (case n14 => k_asm); (case t14 => k_asm); (case k14 => first | exact rfl | assumption); (case d14 => ktr_room); (case u14 => ktr_units); (case c14 => assumption); (case e14 => assumption); (case p14 => exact (Pre.cons (Pre.cons (Pre.cons Pre.nil)))); (case h14 => exact hfx13); (case v14 => exact ⟨nofun, nofun, nofun, trivial⟩); (case m14 => exact by k_mem); k_whole)
    intro h14 tk14 fx14 F14 N14 hfx14
    have la8 := sp8 (in3 ia)
    have lb8 := sp8 (in3 ib)
    have lab8 : (spF xa ++ spF xb).length ≤ 16 := by rw [append_length]; omega
    simp only [List.cons_append, List.nil_append] at N14
    (try dsimp only)
    (try k_fold)
    (repeat' (first | (k_unfold; (try dsimp only)) | (k_end; wrow_close) | ((fail_if_success (fail_if_success (with_reducible show wpAny _ _ (exec _ _) _ _ _))); k_fold) | ((fail_if_success (fail_if_success (with_reducible show wpAny _ _ (execs (_ :: _) _) _ _ (Shared.mk _ _ _ (HAdd.hAdd _ _) _)))); refine flat (s := sL) rfl rfl rfl (fun _ => ?_)) | ((fail_if_success (with_reducible show wpAny _ _ (exec (Stmt.Assign _ (Expr.ListComp _ _ _ _) _) _) _ _ _)); (fail_if_success (with_reducible show wpAny _ _ (call (Value.type "enumerate") _) _ _ _)); (fail_if_success (with_reducible show wpAny _ _ (execs (Stmt.Assign _ (Expr.IfExp _ _ _ _) _ :: _) _) _ _ _)); (fail_if_success (with_reducible show wpAny _ _ (call (Value.ref _) _) _ _ _)); (fail_if_success (with_reducible show wpAny _ _ (subscriptTail (PySem.Expr.BinOp _ _ _ _) _ _ _) _ _ _)); first | walk1 | (dsimp only; walk1) | (leave1; walk_say "STEP leave1"; try dsimp only)) | fail "no step"))
    k_dflt (refine' law_told xa xb xp xr la lb ia ib ip ir ?z15 ?y15 hI7 hI8 ?b15 ?f15 ?x15 ?n15 ?t15 ?k15 ?p15 ?h15 ?d15 ?u15 ?c15 ?e15 ?_; (case z15 => omega); (case y15 => (rw [zp]; rfl)); (case b15 => k_asm); (case f15 => k_asm); (case x15 => k_asm); (case n15 => k_asm); (case t15 => k_asm); (case k15 => first | exact rfl | assumption); (case d15 => ktr_room); (case u15 => ktr_units); (case c15 => assumption); (case e15 => assumption); (case p15 => k_mem); (case h15 => k_mem); k_whole)
    intro h15 tk15 F15 N15
    exact hP9 _ _ ⟨law_good F15 (by with_reducible assumption), law_grown N15 hfx14⟩)
end Mine
end
set_option maxHeartbeats 8000000 in
theorem PySem.Challenge.cw_pe0173_01_holds : PySem.Challenge.rw_pe0173_01.Holds := by
  exact Mine.w1
