import PyProof.Rows.All
import Wide.All
import OpenK.AllK
import Wide.FinOn
import Lean
import PySem.Challenge.RW_sw0052_01
open PySem PySem.W PySem.Calls PyProof.Rows PySem.Spec
set_option Elab.async false
set_option maxRecDepth 100000
set_option compiler.extract_closed false
set_option maxHeartbeats 2500000
namespace Mine
section
noncomputable def keepB (l : List Stmt) : List Stmt := l.take 1 ++ (l.drop 2).take 2 ++ (l.drop 5).take 5 ++ (l.drop 11).take 1 ++ l.drop 13
noncomputable def vw : Program := { PySem.Challenge.pw_sw0052_01 with main := { PySem.Challenge.pw_sw0052_01.main with body := keepB PySem.Challenge.pw_sw0052_01.main.body } }
local macro_rules | `(tactic| o_head $H) => `(tactic| (
  refine holds_open (q := Mine.vw) (loose := [Str.ofString "Whitespace"]) (Xt := fun s => xlAt Mine.vw [] s && recOk (RowW.records (PySem.Challenge.rw_sw0052_01.row.toRowW)) s) (XP := XL Mine.vw []) (Yf := Hook.obs $H) (Ya := Hook.val $H) (YP := Hook.says $H) (N := 2198) ?hl (Hook.of $H) (Hook.keeps $H) (fun s e => xl_of s (Bool.and_eq_true_iff.mp e).1) XL.keeps (by rfl) (by rfl) (by rfl) (fun s e => recFacts_of (Bool.and_eq_true_iff.mp e).2) (by rfl) (by first | assumption | decide +kernel) (by decide +kernel) ⟨rfl, rfl, rfl, rfl, rfl, by decide +kernel⟩ ?hw ?hc
  (case hl => exact LeftO.of_split "special-get-raises" (fun w => by kernel_rfl))
  (case' hc => (rename_i s9; clear s9))))
local macro_rules | `(tactic| o_law) => `(tactic| refine holds_law (by decide +kernel) fun said => ?_)
open_top hd for PySem.Challenge.rw_sw0052_01

end
section
/-! a goal kept small while a hypothesis is taken apart (the motives then say False) -/
theorem hide {P : Prop} (h : (P → False) → False) : P := Classical.byContradiction h
/-! ### the contract of a def, and how it is entered -/
noncomputable def KC (prog : Program) (w : World) (D U : Nat) (f : Addr) (vs : List Value) (pre : Heap → Prop) (post : Value → Heap → Heap → Prop) : Prop :=
  ∀ (p : Program) (loose : List Str) (mean : ExcName → Option Value) (mg mb : Str → Option Value) (dp un : Nat) (gd : Option (List Code)) (cn : Str) (cs : Scope) (a : Addr) (ccd : Value) (cl : List (Str × Addr)) (outer : List Env) (A₀ : Around)
    (base h₀ : Heap) (L : Addr) (m : Str → Option Value) (s : Shared) (Q E : Value → Shared → Prop),
    Below A₀ base outer h₀ → Fr h₀ L s.heap m → (Mine.hd.heap_1 w.params).In h₀ → Top p loose mean mg mb h₀ → cs.kind = .function → dp + D < recursionLimit → un + U < cLine → pre s.heap →
    (∀ (v : Value) (h' : Heap) (tk' : Nat), (∀ b o, s.heap.get? b = some o → h'.get? b = some o) → post v s.heap h' → Q v { s with heap := h', toks := tk' }) →
    wpAny (model prog w) (ktrTop dp un gd cn cs L a ccd cl outer) (call (.ref f) vs) Q E s

theorem kc_use {prog : Program} {w : World} {D U : Nat} {f : Addr} {vs : List Value} {pre : Heap → Prop} {post : Value → Heap → Heap → Prop} {p : Program} {loose : List Str} {mean : ExcName → Option Value} {mg mb : Str → Option Value} {dp un : Nat} {gd : Option (List Code)}
    {cn : Str} {cs : Scope} {a : Addr} {ccd : Value} {cl : List (Str × Addr)} {outer : List Env} {A₀ : Around} {base h₀ : Heap} {L : Addr} {m : Str → Option Value} {s : Shared} {Q E : Value → Shared → Prop}
    (C : KC prog w D U f vs pre post) (k1 : Below A₀ base outer h₀) (k2 : Fr h₀ L s.heap m) (k3 : (Mine.hd.heap_1 w.params).In h₀) (k5 : Top p loose mean mg mb h₀) (kK : cs.kind = .function) (kd : dp + D < recursionLimit) (ku : un + U < cLine) (kp : pre s.heap)
    (kR : ∀ (v : Value) (h' : Heap) (tk' : Nat), (∀ b o, s.heap.get? b = some o → h'.get? b = some o) → post v s.heap h' → Q v { s with heap := h', toks := tk' }) :
    wpAny (model prog w) (ktrTop dp un gd cn cs L a ccd cl outer) (call (.ref f) vs) Q E s :=
  C p loose mean mg mb dp un gd cn cs a ccd cl outer A₀ base h₀ L m s Q E k1 k2 k3 k5 kK kd ku kp kR

theorem kc_useA {prog : Program} {w : World} {D U : Nat} {f : Addr} {vs : List Value} {pre : Heap → Prop} {post : Value → Heap → Heap → Prop} {p : Program} {loose : List Str} {mean : ExcName → Option Value} {mg mb : Str → Option Value} {dp un : Nat} {gd : Option (List Code)}
    {cn : Str} {cs : Scope} {a : Addr} {ccd : Value} {cl : List (Str × Addr)} {outer : List Env} {A₀ : Around} {base h₀ : Heap} {L : Addr} {m : Str → Option Value} {s : Shared} {Q E : Value → Shared → Prop}
    (C : KC prog w D U f vs pre post) (kp : pre s.heap)
    (kR : ∀ (v : Value) (h' : Heap) (tk' : Nat), (∀ b o, s.heap.get? b = some o → h'.get? b = some o) → post v s.heap h' → Q v { s with heap := h', toks := tk' })
    (k1 : Below A₀ base outer h₀ := by k_asm) (k2 : Fr h₀ L s.heap m := by k_asm) (k3 : (Mine.hd.heap_1 w.params).In h₀ := by k_asm) (k5 : Top p loose mean mg mb h₀ := by k_asm) (kK : cs.kind = .function := by rfl) (kd : dp + D < recursionLimit := by ktr_room) (ku : un + U < cLine := by ktr_units) :
    wpAny (model prog w) (ktrTop dp un gd cn cs L a ccd cl outer) (call (.ref f) vs) Q E s := kc_use C k1 k2 k3 k5 kK kd ku kp kR

theorem kc_mono {prog : Program} {w : World} {D U : Nat} {f : Addr} {vs : List Value} {pre : Heap → Prop} {post post' : Value → Heap → Heap → Prop} (C : KC prog w D U f vs pre post) (h : ∀ v h h', post v h h' → post' v h h') : KC prog w D U f vs pre post' := by
  unfold KC at C ⊢
  intro p loose mean mg mb dp un gd cn cs a ccd cl outer A₀ base h₀ L m s Q E k1 k2 k3 k5 kK kd ku kp kR
  exact C p loose mean mg mb dp un gd cn cs a ccd cl outer A₀ base h₀ L m s Q E k1 k2 k3 k5 kK kd ku kp fun v h' tk' g x => kR v h' tk' g (h _ _ _ x)

section
variable {prog : Program} {w : World} {A₀ A : Around} {s : Shared} {base h₀ : Heap} {outer : List Env} {L : Addr} {m mg mb : Str → Option Value} {env : Env} {K : Frag} {p : Program} {loose : List Str} {mean : ExcName → Option Value}
  {name qual : Str} {params : Arguments} {body : List Stmt} {scope : Scope} {dV kV doc pm cdv ct oc : Value} {an od : Option Addr} {osl : Array (Option Value)} {f : Addr} {vals : List Value} {binds : List (Str × Value)} {Q E : Value → Shared → Prop}

noncomputable def HasG (h g : Heap) : Prop := ∀ b o, h.get? b = some o → g.get? b = some o
theorem HasG.none {h g : Heap} {a : Addr} (k : HasG h g) (x : g.get? a = none) : h.get? a = none := by
  cases e : h.get? a with
  | none => rfl
  | some o => rw [k _ _ e] at x; cases x
theorem HasG.list {h g : Heap} {l : Addr} {its : Array Value} (k : HasG h g) (x : h.IsList l its) : g.IsList l its := x.at fun o e => k l o e
theorem HasG.tup {h g : Heap} {l : Addr} {its : Array Value} (k : HasG h g) (x : IsTup h l its) : IsTup g l its := IsTup.keeps x k

theorem kc_enter (B : Below A₀ base outer h₀) (F : Fr h₀ L s.heap m) (X₀ : K.In h₀) (T : Top p loose mean mg mb h₀) (hA : A.frames = some (env :: outer)) (hf : env.frame = some L) (hke : env.scope.kind = .function)
    (ho : K.lookup f = some ⟨oc, od, .func (fnOf name qual params body scope dV kV doc pm an cdv ct), osl⟩) (hcd : codeIn K cdv qual = true) (hroom : A.depth < recursionLimit)
    (hbind : BindsTo s (fnOf name qual params body scope dV kV doc pm an cdv ct) ⟨vals, []⟩ binds) (hloc : ∀ y ∈ binds, scope.names.lookup y.1 = some .local)
    (h : ∀ g L' h₁, HasG s.heap g → Fr g L' h₁ (fun y => binds.reverse.lookup y) → News g L' h₁ [] → Below A base (env :: outer) g → K.In g → Top p loose mean mg mb g →
      wpAny (model prog w) (A.deeper (envOf qual scope L' f cdv)) (execs body (envOf qual scope L' f cdv))
        (fun fl s' => Q (match fl with | .ret v => v | _ => .none) s') (fun _ _ => False) { s with heap := h₁, toks := s.toks + binds.length })
    (hco : scope.isCoroutine = false) (hgen : scope.isGenerator = false) (hk : scope.kind = .function)
    (hcell : ∀ x ∈ scope.names, x.2 ≠ .cell) : wpAny (model prog w) A (call (.ref f) vals) Q E s := by
  refine wpAny_call ?_
  have N : News h₀ L s.heap [] := News.nil
  obtain ⟨FG, BG, st, _⟩ := groundX (R := fun _ _ => True) B F N hA hf hke
  refine codeAny_call_def (fd := fnX name qual params body scope [] dV kV doc pm an cdv ct) (body := body) (binds := binds) hroom ((X₀.keeps F.keep) _ _ ho) rfl (T.nolimit.keeps F.keep) (codeRec_of (X₀.keeps F.keep) hcd) rfl hbind hcell hloc (fun h₁ hns hk₁ => ?_) hco hgen hk
  exact wpAny_mono (h s.heap s.heap.objs.size h₁ (fun b o e => e) ⟨hns, fun b o e => hk₁ b o e, Nat.le_refl _⟩ News.nil BG (X₀.keeps st) (T.keeps st)) (fun fl s' hl => hl) fun _ _ y => y.elim

theorem kc_enterW {nw : List (Addr × Obj)} (N : News h₀ L s.heap nw) (B : Below A₀ base outer h₀) (F : Fr h₀ L s.heap m) (X₀ : K.In h₀) (T : Top p loose mean mg mb h₀) (hA : A.frames = some (env :: outer)) (hf : env.frame = some L) (hke : env.scope.kind = .function)
    (ho : K.lookup f = some ⟨oc, od, .func (fnOf name qual params body scope dV kV doc pm an cdv ct), osl⟩) (hcd : codeIn K cdv qual = true) (hroom : A.depth < recursionLimit)
    (hbind : BindsTo s (fnOf name qual params body scope dV kV doc pm an cdv ct) ⟨vals, []⟩ binds) (hloc : ∀ y ∈ binds, scope.names.lookup y.1 = some .local)
    (h : ∀ g L' h₁, (∀ b o, s.heap.get? b = some o → b ∉ nw.map (·.1) → g.get? b = some o) → Fr g L' h₁ (fun y => binds.reverse.lookup y) → News g L' h₁ nw → Below A base (env :: outer) g → K.In g → Top p loose mean mg mb g →
      wpAny (model prog w) (A.deeper (envOf qual scope L' f cdv)) (execs body (envOf qual scope L' f cdv))
        (fun fl s' => Q (match fl with | .ret v => v | _ => .none) s') (fun _ _ => False) { s with heap := h₁, toks := s.toks + binds.length })
    (hco : scope.isCoroutine = false) (hgen : scope.isGenerator = false) (hk : scope.kind = .function)
    (hcell : ∀ x ∈ scope.names, x.2 ≠ .cell) : wpAny (model prog w) A (call (.ref f) vals) Q E s := by
  refine wpAny_call ?_
  obtain ⟨FG, BG, st, _⟩ := groundX (R := fun _ _ => True) B F N hA hf hke
  refine codeAny_call_def (fd := fnX name qual params body scope [] dV kV doc pm an cdv ct) (body := body) (binds := binds) hroom ((X₀.keeps F.keep) _ _ ho) rfl (T.nolimit.keeps F.keep) (codeRec_of (X₀.keeps F.keep) hcd) rfl hbind hcell hloc (fun h₁ hns hk₁ => ?_) hco hgen hk
  exact wpAny_mono (h _ s.heap.objs.size h₁ (fun b o e n => hideAll_get _ e n) ⟨hns, fun b o e => hk₁ b o (of_hideAll _ e), Nat.le_of_eq (hideAll_size _ _)⟩
    (fun p hp => ⟨hk₁ _ _ (N p hp).1, Nat.ne_of_lt (Heap.lt_size (N p hp).1), hideAll_none _ (List.mem_map_of_mem hp)⟩) BG (X₀.keeps st) (T.keeps st)) (fun fl s' hl => hl) fun _ _ y => y.elim

theorem kc_enterC (B : Below A₀ base outer h₀) (F : Fr h₀ L s.heap m) (X₀ : K.In h₀) (T : Top p loose mean mg mb h₀) (hA : A.frames = some (env :: outer)) (hf : env.frame = some L) (hke : env.scope.kind = .function)
    (ho : K.lookup f = some ⟨oc, od, .func (fnOf name qual params body scope dV kV doc pm an cdv ct), osl⟩) (hcd : codeIn K cdv qual = true) (hroom : A.depth < recursionLimit)
    (hbind : BindsTo s (fnOf name qual params body scope dV kV doc pm an cdv ct) ⟨vals, []⟩ binds) (hkind : (binds.all fun y => scope.names.lookup y.1 == some .local || scope.names.lookup y.1 == some .cell) = true)
    (hnd : ((cellsFrom 0 scope.names []).map (·.1)).Nodup)
    (h : ∀ g L' h₁ tk cells, HasG s.heap g → Fr g L' h₁ (bindL (envOfC qual scope L' f cdv).kindOf binds fun _ => none) → News g L' h₁ cells →
      CellsAre (bindC (envOfC qual scope L' f cdv).kindOf binds fun _ => none) (cellsFrom (L' + 1) scope.names []) cells → Below A base (env :: outer) g → K.In g → Top p loose mean mg mb g →
      wpAny (model prog w) (A.deeper (envOfC qual scope L' f cdv)) (execs body (envOfC qual scope L' f cdv))
        (fun fl s' => Q (match fl with | .ret v => v | _ => .none) s') (fun _ _ => False) { s with heap := h₁, toks := tk })
    (hco : scope.isCoroutine = false) (hgen : scope.isGenerator = false) (hk : scope.kind = .function) : wpAny (model prog w) A (call (.ref f) vals) Q E s := by
  refine wpAny_call ?_
  have N : News h₀ L s.heap [] := News.nil
  obtain ⟨FG, BG, st, _⟩ := groundX (R := fun _ _ => True) B F N hA hf hke
  refine codeAny_call_function hroom ((X₀.keeps F.keep) _ _ ho) rfl hco hgen rfl (codeRec_of (X₀.keeps F.keep) hcd) (hbind _ _ _ _ ?_)
  refine wpAny_newFunctionEnv_cells hk ((kindsX hkind) _) fun env' he s' x => ?_
  subst he
  refine ⟨(T.nolimit.keeps F.keep).keeps x.toInCall.keep, codeAny_func ?_⟩
  obtain ⟨h₁, tk, rfl, _⟩ := x.done
  have hk₁ := x.toInCall.keep
  obtain ⟨cells, NC, Y⟩ := Cl.news (h₀ := s.heap) (Nat.le_refl _) fun n c hm => ⟨x.cell n c (lookup_of_mem_nodup (cellsFrom_names scope.names 0 (s.heap.objs.size + 1) [] [] rfl ▸ hnd) hm), x.above n c hm⟩
  exact wpAny_mono (h s.heap s.heap.objs.size h₁ tk cells (fun b o e => e) ⟨x.toInCall.ns, fun b o e => hk₁ b o e, Nat.le_refl _⟩ NC Y BG (X₀.keeps st) (T.keeps st)) (fun fl s' hl => hl) fun _ _ y => y.elim
end

/-! ### loops: one rule for every walk that writes its iterator alone -/
section
variable {prog : Program} {w : World} {A : Around} {E : Value → Shared → Prop} {s : Shared} {env : Env} {h₀ : Heap} {x : Str} {body : List Stmt} {Q : Flow → Shared → Prop}

noncomputable def LEnd (h₀ : Heap) (L : Addr) (io : Addr × Obj) (Jn : (Str → Option Value) → List (Addr × Obj) → Prop) (s₁ : Shared) (Q : Flow → Shared → Prop) (f : Flow) (s₂ : Shared) : Prop :=
  match f with
  | .ret v => Q (.ret v) s₂
  | .brk => Q .next s₂
  | _ => ∃ h' tk m' news', s₂ = { s₁ with heap := h', toks := tk } ∧ Fr h₀ L h' m' ∧ News h₀ L h' (io :: news') ∧ (∀ p ∈ news', p.1 ≠ io.1) ∧ Jn m' news'
theorem lend {L : Addr} {io : Addr × Obj} {Jn : (Str → Option Value) → List (Addr × Obj) → Prop} {s₁ : Shared} {h' : Heap} {tk : Nat} {m' : Str → Option Value} {news' : List (Addr × Obj)}
    (F : Fr h₀ L h' m') (N : News h₀ L h' (io :: news')) (hn : ∀ p ∈ news', p.1 ≠ io.1) (hj : Jn m' news') :
    ∃ h'' tk' m'' news'', ({ s₁ with heap := h', toks := tk } : Shared) = { s₁ with heap := h'', toks := tk' } ∧ Fr h₀ L h'' m'' ∧ News h₀ L h'' (io :: news'') ∧ (∀ p ∈ news'', p.1 ≠ io.1) ∧ Jn m'' news'' := ⟨h', tk, m', news', rfl, F, N, hn, hj⟩

theorem lp_core {I : Addr} {fp : List Addr} {n : Nat} {P : Nat → Value → Prop} {St : Nat → Heap → Prop} {m₀ : Str → Option Value} {news : List (Addr × Obj)} (keep : List (Addr × Obj))
    (J : Nat → (Str → Option Value) → List (Addr × Obj) → Prop)
    (W : Walks prog w A I fp [I] n P St) (hIf : I ∈ fp) (hfp : ∀ b ∈ fp, b = I ∨ (∃ q, h₀.get? b = some q) ∨ ∃ o, (b, o) ∈ keep) (hI0 : h₀.get? I = none) (hob : ∀ i h, St i h → ∃ o, h.get? I = some o)
    (hLf : env.locals ∉ fp) (hnw : ∀ p ∈ news, p.1 ≠ I) (hst : St 0 s.heap) (F : Fr h₀ env.locals s.heap m₀) (N : News h₀ env.locals s.heap news)
    (hJk : ∀ i m news, J i m news → ∀ p ∈ keep, p ∈ news) (hj : J 0 m₀ news)
    (turn : ∀ i v m₁ news₁ h tk o, i < n → P i v → J i m₁ news₁ → (∀ p ∈ news₁, p.1 ≠ I) → Fr h₀ env.locals h (fun y => if y = x then some v else m₁ y) → News h₀ env.locals h ((I, o) :: news₁) →
      wpAny (model prog w) A (execs body env) (LEnd h₀ env.locals (I, o) (J (i + 1)) { s with heap := h, toks := tk } Q) E { s with heap := h, toks := tk })
    (done : ∀ m₁ news₁ h tk, J n m₁ news₁ → Fr h₀ env.locals h m₁ → News h₀ env.locals h news₁ → Q .next { s with heap := h, toks := tk }) :
    LoopAtV prog w A h₀ env x body Q E (.ref I) s := by
  refine ⟨I, fp, [I], n, P, St, m₀, news, J, rfl, W, hLf, fun b hb => (List.mem_singleton.mp hb) ▸ hI0, fun p hp hq => hnw p hp (List.mem_singleton.mp hq), hst, F, N, hj, ?_, ?_⟩
  · rintro i v m₁ news₁ s₁ own ⟨hh', tk', rfl⟩ hin hP hJ hoff hown hget hall hst' F₁ N₁
    obtain ⟨o, ho⟩ := hob _ _ hst'
    have hio : (I, o) ∈ own := hall I hIf hI0 o ho
    have hoff' : ∀ p ∈ news₁, p.1 ≠ I := fun p hp e => hoff p hp (List.mem_singleton.mpr e)
    have N₂ : News h₀ env.locals hh' ((I, o) :: news₁) := fun p hp => by
      rcases List.mem_cons.mp hp with rfl | hp
      · exact N₁ _ (List.mem_append_left _ hio)
      · exact N₁ _ (List.mem_append_right _ hp)
    refine wpAny_mono (turn i v m₁ news₁ hh' tk' o hin hP hJ hoff' F₁ N₂) (fun f s₂ q => ?_) fun _ _ e => e
    have fin : (∃ h' tk m' news', s₂ = { ({ s with heap := hh', toks := tk' } : Shared) with heap := h', toks := tk } ∧ Fr h₀ env.locals h' m' ∧ News h₀ env.locals h' ((I, o) :: news') ∧ (∀ p ∈ news', p.1 ≠ I) ∧ J (i + 1) m' news') → LoopStepU h₀ env.locals [I] own (J (i + 1)) { s with heap := hh', toks := tk' } .next s₂ := by
      rintro ⟨h', tk, m', news', e, F', N', hn, hm⟩
      refine ⟨rfl, h', tk, m', news', e, F', fun q hq => ?_, fun p hp hq => hn p hp (List.mem_singleton.mp hq), hm⟩
      rcases List.mem_append.mp hq with hq | hq
      · have h3 := N₁ q (List.mem_append_left _ hq)
        rcases hfp q.1 (hown q hq) with e1 | ⟨z, hz⟩ | ⟨o', ho'⟩
        · have e2 : q.2 = o := by
            have h4 := h3.1
            rw [e1] at h4
            exact (Option.some.inj (h4.symm.trans ho))
          have e3 : q = (I, o) := Prod.ext e1 e2
          rw [e3]; exact N' _ (List.mem_cons_self ..)
        · have h5 := h3.2.2
          rw [hz] at h5
          exact absurd h5 (fun x => nomatch x)
        · have k1 := hJk _ _ _ hJ _ ho'
          have k2 := N₁ _ (List.mem_append_right _ k1)
          have e2 : q.2 = o' := by
            have h4 := h3.1
            exact (Option.some.inj (h4.symm.trans k2.1))
          have e3 : q = (q.1, o') := Prod.ext rfl e2
          rw [e3]; exact N' _ (List.mem_cons_of_mem _ (hJk _ _ _ hm _ ho'))
      · exact N' _ (List.mem_cons_of_mem _ hq)
    cases f with
    | ret v => exact .ret q
    | brk => exact .brk q
    | next => exact .next (fin q)
    | cont => exact .cont (fin q)
  · rintro h' tk m' news' F' N' _ hJ
    exact done m' news' h' tk hJ F' N'

theorem lp_list {l : Addr} {vs : List Value} {m₀ : Str → Option Value} {news : List (Addr × Obj)} (keep : List (Addr × Obj)) (J : Nat → (Str → Option Value) → List (Addr × Obj) → Prop)
    (hh : A.handled = none) (hl : s.heap.IsList l vs.toArray) (hb : (∃ q, h₀.get? l = some q) ∨ (l ≠ env.locals ∧ ∃ o, (l, o) ∈ keep)) (F : Fr h₀ env.locals s.heap m₀) (N : News h₀ env.locals s.heap news)
    (hJk : ∀ i m news, J i m news → ∀ p ∈ keep, p ∈ news) (hj : J 0 m₀ news)
    (turn : ∀ i v m₁ news₁ h tk I o, vs[i]? = some v → J i m₁ news₁ → (∀ p ∈ news₁, p.1 ≠ I) → Fr h₀ env.locals h (fun y => if y = x then some v else m₁ y) → News h₀ env.locals h ((I, o) :: news₁) →
      wpAny (model prog w) A (execs body env) (LEnd h₀ env.locals (I, o) (J (i + 1)) { s with heap := h, toks := tk } Q) E { s with heap := h, toks := tk })
    (done : ∀ m₁ news₁ h tk, J vs.length m₁ news₁ → Fr h₀ env.locals h m₁ → News h₀ env.locals h news₁ → Q .next { s with heap := h, toks := tk }) :
    wpAny (model prog w) A (pyIter (.ref l)) (fun it s₂ => LoopAtV prog w A h₀ env x body Q E it s₂) E s := by
  obtain ⟨ol, hol, _⟩ := id hl
  have hls : l < s.heap.objs.size := Heap.lt_size hol
  have hne : l ≠ s.heap.objs.size := Nat.ne_of_lt hls
  refine wpAny_pyIter_list hl ?_
  have W := Walks.list (prog := prog) (w := w) hh s.heap.objs.size l hne vs.toArray
  have hlen : vs.toArray.size = vs.length := by simp
  rw [hlen] at W
  refine lp_core (s := { s with heap := s.heap.push _ }) keep J W (List.mem_cons.mpr (.inl rfl)) ?_ (next_is_new F) ?_ ?_ ?_ ⟨⟨_, Heap.get?_push_size _ rfl, rfl, rfl⟩, hl.at fun o e => Heap.get?_push_of_some _ e⟩ (F.push _) (fun p hp => ⟨Heap.get?_push_of_some _ (N p hp).1, (N p hp).2⟩) hJk hj ?_ ?_
  · intro b hb'
    rcases List.mem_cons.mp hb' with e | hb'
    · exact .inl e
    · rw [List.mem_singleton.mp hb']
      exact .inr (hb.imp id And.right)
  · rintro i h ⟨⟨o, ho, _⟩, _⟩
    exact ⟨o, ho⟩
  · intro hm
    rcases List.mem_cons.mp hm with e | hm
    · exact absurd F.ns.lt (e ▸ Nat.lt_irrefl _)
    · have e := List.mem_singleton.mp hm
      rcases hb with ⟨q, hq⟩ | hb
      · exact absurd (Nat.lt_of_lt_of_le (Heap.lt_size hq) F.above) (e ▸ Nat.lt_irrefl _)
      · exact hb.1 e.symm
  · intro p hp e
    exact absurd (Heap.lt_size (N p hp).1) (e ▸ Nat.lt_irrefl _)
  · intro i v m₁ news₁ h tk o hi hP hJ hoff F₁ N₁
    exact turn i v m₁ news₁ h tk _ o (by simpa using hP) hJ hoff F₁ N₁
  · exact done

theorem lp_range {r : Addr} {a₀ b₀ : Int} {t₀ u₀ v₀ : Tok} {n : Nat} {m₀ : Str → Option Value} {news : List (Addr × Obj)} (J : Nat → (Str → Option Value) → List (Addr × Obj) → Prop)
    (hh : A.handled = none) (hr : IsRange s.heap r a₀ b₀ 1 t₀ u₀ v₀) (hsmall : Builtin.Range.small a₀ b₀ 1 = true) (hn : Builtin.Range.rangeSize a₀ b₀ 1 = (n : Int)) (F : Fr h₀ env.locals s.heap m₀) (N : News h₀ env.locals s.heap news)
    (hj : J 0 m₀ news)
    (turn : ∀ i t m₁ news₁ h tk I o, i < n → J i m₁ news₁ → (∀ p ∈ news₁, p.1 ≠ I) → Fr h₀ env.locals h (fun y => if y = x then some (.int (a₀ + (i : Nat)) t) else m₁ y) → News h₀ env.locals h ((I, o) :: news₁) →
      wpAny (model prog w) A (execs body env) (LEnd h₀ env.locals (I, o) (J (i + 1)) { s with heap := h, toks := tk } Q) E { s with heap := h, toks := tk })
    (done : ∀ m₁ news₁ h tk, J n m₁ news₁ → Fr h₀ env.locals h m₁ → News h₀ env.locals h news₁ → Q .next { s with heap := h, toks := tk }) :
    wpAny (model prog w) A (pyIter (.ref r)) (fun it s₂ => LoopAtV prog w A h₀ env x body Q E it s₂) E s := by
  refine wpAny_pyIter_range hr hsmall ?_
  have W : Walks prog w A s.heap.objs.size [s.heap.objs.size] [s.heap.objs.size] n (fun i v => i < n ∧ ∃ t, v = .int (a₀ + i * 1) t)
      (fun i h => IsRangeIter h s.heap.objs.size (a₀ + (i : Nat) * 1) ((n : Int) - (i : Nat)) 1) := (Walks.range hh _ a₀ 1 n).bound
  refine lp_core (s := { s with heap := s.heap.push _ }) [] J W (List.mem_singleton.mpr rfl) (fun b hb => .inl (List.mem_singleton.mp hb)) (next_is_new F) (fun i h hs => ⟨_, hs⟩) ?_ ?_ (by show IsRangeIter _ _ _ _ _; rw [hn]; simpa using Heap.get?_push_size _ rfl) (F.push _) (fun p hp => ⟨Heap.get?_push_of_some _ (N p hp).1, (N p hp).2⟩) (fun _ _ _ _ p hp => nomatch hp) hj ?_ ?_
  · intro hm
    exact absurd F.ns.lt ((List.mem_singleton.mp hm) ▸ Nat.lt_irrefl _)
  · intro p hp e
    exact absurd (Heap.lt_size (N p hp).1) (e ▸ Nat.lt_irrefl _)
  · rintro i v m₁ news₁ h tk o hi ⟨_, t, rfl⟩ hJ hoff F₁ N₁
    rw [Int.mul_one] at F₁
    exact turn i t m₁ news₁ h tk _ o hi hJ hoff F₁ N₁
  · exact done
end

end
section
/-! ### small facts that stand in for omega (whose terms are long) -/
theorem room1 {n i j c : Nat} (h : n + j < c := by assumption) (e : i ≤ j := by decide) : n + i < c := Nat.lt_of_le_of_lt (Nat.add_le_add_left e n) h
theorem room2 {n a i j c : Nat} (h : n + j < c := by assumption) (e : a + i ≤ j := by decide) : n + a + i < c := Nat.lt_of_le_of_lt (Nat.le_trans (Nat.le_of_eq (Nat.add_assoc n a i)) (Nat.add_le_add_left e n)) h
theorem om_nn {n : Nat} : (0 : Int) ≤ (n : Int) := Int.natCast_nonneg n
theorem om_63 {n : Nat} (h : n < 6 := by assumption) : (n : Int) < 2 ^ 63 := by omega
theorem om_63' {n : Nat} (h : n < 6 := by assumption) : (n : Int) < 9223372036854775808 := by omega
theorem om_06 {n : Nat} (h : n < 6 := by assumption) : 0 ≤ (n : Int) ∧ (n : Int) < 6 := by omega
theorem om_6 {n : Nat} (h : n < 6 := by assumption) : (n : Int) < 6 := by omega
theorem om_s6 {n : Nat} (h : n < 6 := by assumption) : n + 1 ≤ 6 := h
theorem om_z6 {z : Int} (h0 : 0 ≤ z := by assumption) (h : z < 6 := by assumption) : 0 ≤ z ∧ z < 6 := ⟨h0, h⟩
theorem om_len {α : Type} {l : List α} {n : Nat} (hl : l.length = 6 := by assumption) (h : n < 6 := by assumption) : (n : Int) < (l.length : Int) := by omega
theorem om_lenz {α : Type} {l : List α} {z : Int} (hl : l.length = 6 := by assumption) (h : z < 6 := by assumption) : z < (l.length : Int) := by omega
theorem om_lenn {α : Type} {l : List α} {n : Nat} (hl : l.length = 6 := by assumption) (h : n < 6 := by assumption) : n < l.length := by omega
theorem om_lens {α β : Type} {l : List α} {k : List β} {n : Nat} (hl : l.length = 6 := by assumption) (hk : k.length = 6 := by assumption) (h : n < k.length := by assumption) : n < l.length := by omega
theorem om_lenS {α : Type} {l : List α} {n : Nat} (hl : l.length = 6 := by assumption) (h : n < l.length := by assumption) : n + 1 ≤ 6 := by omega
theorem om_thou {α : Type} {l : List α} (hl : l.length = 6 := by assumption) : l.length ≤ 1000 := by omega
theorem om_str {x : Str} (h : x.length ≤ 1000 := by assumption) : (x.length : Int) < 9223372036854775808 := by omega
theorem om_str' {x : Str} (h : x.length ≤ 1000 := by assumption) : (x.length : Int) < 2 ^ 63 := by omega
theorem om_min {α : Type} {l : List α} {n : Nat} (hl : l.length = 6 := by assumption) : min n l.length ≤ 100000 := by omega
theorem om_sub {a b : Nat} (h : a < b := by assumption) : b + 1 - (a + 1) < b + 1 - a := by omega
theorem om_ton {z : Int} (h : 0 ≤ z ∧ z < 6 := by assumption) : ((z.toNat : Nat) : Int) = z := by omega
theorem om_ton' {z : Int} (h : 0 ≤ z ∧ z < 6 := by assumption) : z.toNat < 6 := by omega
theorem om_big : (0 : Int) ≤ 16777216 := by decide
theorem HasG.tr {a b c : Heap} (x : HasG a b) (y : ∀ k o, b.get? k = some o → c.get? k = some o) : HasG a c := fun k o e => y k o (x k o e)

end
section
noncomputable def Hold (P : Prop) : Prop := P
theorem hold {P : Prop} (h : Hold P) : P := h
theorem unhold {P : Prop} (h : P) : Hold P := h

open Builtin.Str in
noncomputable def find4 (x y : Str) (i j : Int) : Int := match occurrences x y (fromIndex x.length i) (min (fromIndex x.length j) x.length) 1 with | k :: _ => (k : Int) | [] => -1
open Builtin Builtin.Str in
theorem gives_find4 (x y : Str) (i j : Int) (t u v z : Tok) : Gives (Builtin.«str.find» ⟨[.str x t, .str y u, .int i v, .int j z], []⟩) (.int (find4 x y i j)) := by
  show Gives (match occurrences x y (fromIndex x.length i) (min (fromIndex x.length j) x.length) 1 with | k :: _ => retInt k | [] => (do rule "str.find.not-found"; retInt (-1))) _
  unfold find4
  cases occurrences x y (fromIndex x.length i) (min (fromIndex x.length j) x.length) 1 with
  | nil => exact .rule (.of_eq rfl)
  | cons k _ => exact .of_eq rfl

section
variable {prog : Program} {w : World} {A : Around} {E : Value → Shared → Prop} {s : Shared} {x y : Str} {t u v z : Tok} {i j : Int} {Q : Value → Shared → Prop} {h₀ : Heap} {L : Addr} {m : Str → Option Value} {news : List (Addr × Obj)}
theorem call_find4 (hq : Q (.int (find4 x y i j) s.toks) { s with toks := s.toks + 1 }) : wpAny (model prog w) A (call (.builtin "str.find") [.str x t, .str y u, .int i v, .int j z]) Q E s :=
  call_gives F.slot_str_find (typeIs_str _ _ _) F.entry_str_find (F.args_str_find_4 _ _ _ _) (gives_find4 x y i j t u v z) hq

noncomputable def strsT (tf : Nat → Tok) : Nat → List Str → List Value
  | _, [] => []
  | i, x :: r => .str x (tf i) :: strsT tf (i + 1) r
theorem strsT_of : ∀ (l : List (Str × Tok)) (k : Nat), ∃ tf, strValues l = strsT tf k (l.map (·.1)) := by
  intro l
  induction l with
  | nil => exact fun _ => ⟨fun _ => 0, rfl⟩
  | cons p r ih =>
    intro k
    obtain ⟨tf, e⟩ := ih (k + 1)
    refine ⟨fun i => if i = k then p.2 else tf i, ?_⟩
    have : ∀ (xs : List Str) (j : Nat), k < j → strsT (fun i => if i = k then p.2 else tf i) j xs = strsT tf j xs := by
      intro xs
      induction xs with
      | nil => intros; rfl
      | cons a b ih2 =>
        intro j hj
        show Value.str a (if j = k then p.2 else tf j) :: _ = _ :: _
        rw [if_neg (by omega), ih2 (j + 1) (by omega)]
    show Value.str p.1 p.2 :: strValues r = Value.str p.1 (if k = k then p.2 else tf k) :: strsT _ (k + 1) _
    rw [if_pos rfl, this _ _ (Nat.lt_succ_self k), e]
theorem split_ws {ws : List Str} (F : Fr h₀ L s.heap m) (N : News h₀ L s.heap news) (hs : Txt.split x y = ws) (hy : (y.length == 0) = false) (hx : x.length ≤ 100000)
    (h : ∀ D tf h' k, (∀ p ∈ news, p.1 < D) → Fr h₀ L h' m → News h₀ L h' ((D, listOf (strsT tf 0 ws).toArray 0) :: news) → Q (.ref D) { s with heap := h', toks := k }) :
    wpAny (model prog w) A (call (.builtin "str.split") [.str x t, .str y u]) Q E s := by
  refine splitN1 (hsz := ?hz) F N hy ?hk
  case hz =>
    have : sizeLine = 16777216 := by decide
    omega
  case hk =>
    intro l h' k hl F' N'
    obtain ⟨tf, e⟩ := strsT_of l 0
    rw [e, hl, hs] at N'
    exact h _ tf h' k (fun p hp => Heap.lt_size (N p hp).1) F' N'
end

/-- the search of the pieces, one behind the other -/
noncomputable def fl (got : Str) (e : Int) : List Str → Int → Bool
  | [], _ => true
  | w :: r, p => if find4 got w p e < 0 then false else fl got e r (find4 got w p e + w.length)

end
section
/-! ### walks that tell a lower bound of the tokens -/
structure WK (prog : Program) (w : World) (A : Around) (T : Nat) (I : Addr) (fp : List Addr) (n : Nat) (P : Nat → Value → Prop) (St : Nat → Heap → Prop) : Prop where
  mem : I ∈ fp
  live : ∀ i h, St i h → ∃ o, h.get? I = some o
  frame : ∀ i h h', St i h → (∀ b ∈ fp, ∀ o, h.get? b = some o → h'.get? b = some o) → St i h'
  item : ∀ i (s : Shared) (Q : Option Value → Shared → Prop) (E : Value → Shared → Prop), i < n → St i s.heap → T ≤ s.toks →
    (∀ v h' tk, P i v → T ≤ tk → St (i + 1) h' → (∀ b o, b ≠ I → s.heap.get? b = some o → h'.get? b = some o) → Q (some v) { s with heap := h', toks := tk }) → wpAny (model prog w) A (pyNext (.ref I)) Q E s
  done : ∀ (s : Shared) (Q : Option Value → Shared → Prop) (E : Value → Shared → Prop), St n s.heap → T ≤ s.toks →
    (∀ h' tk, T ≤ tk → (∀ b o, b ≠ I → s.heap.get? b = some o → h'.get? b = some o) → Q none { s with heap := h', toks := tk }) → wpAny (model prog w) A (pyNext (.ref I)) Q E s
  self : ∀ i (s : Shared) (Q : Value → Shared → Prop) (E : Value → Shared → Prop), St i s.heap → Q (.ref I) s → wpAny (model prog w) A (pyIter (.ref I)) Q E s

theorem WK.of {prog : Program} {w : World} {A : Around} {T : Nat} {I : Addr} {fp : List Addr} {n : Nat} {P : Nat → Value → Prop} {St : Nat → Heap → Prop} (W : Walks prog w A I fp [I] n P St) (hl : ∀ i h, St i h → ∃ o, h.get? I = some o) : WK prog w A T I fp n P St where
  mem := W.sub _ (List.mem_singleton.mpr rfl)
  live := hl
  frame := W.frame
  item := fun i s Q E hi st hT hQ => by
    refine wpAny_mono (wpAny_toks_of hT (W.item i s (fun r s' => ∃ v h' tk, r = some v ∧ s' = { s with heap := h', toks := tk } ∧ P i v ∧ St (i + 1) h' ∧ ∀ b o, b ∉ [I] → s.heap.get? b = some o → h'.get? b = some o) E hi st fun v h' tk a b c => ⟨v, h', tk, rfl, rfl, a, b, c⟩)) (fun r s' q => ?_) fun _ _ e => e.2
    refine hide fun hG9 => ?_
    obtain ⟨ht, v, h', tk, rfl, rfl, a, b, c⟩ := q
    refine hG9 ?_
    clear hG9
    exact hQ v h' tk a ht b fun b' o hb e => c b' o (fun hm => hb (List.mem_singleton.mp hm)) e
  done := fun s Q E st hT hQ => by
    refine wpAny_mono (wpAny_toks_of hT (W.done s (fun r s' => ∃ h' tk, r = none ∧ s' = { s with heap := h', toks := tk } ∧ ∀ b o, b ∉ [I] → s.heap.get? b = some o → h'.get? b = some o) E st fun h' tk c => ⟨h', tk, rfl, rfl, c⟩)) (fun r s' q => ?_) fun _ _ e => e.2
    refine hide fun hG9 => ?_
    obtain ⟨ht, h', tk, rfl, rfl, c⟩ := q
    refine hG9 ?_
    clear hG9
    exact hQ h' tk ht fun b' o hb e => c b' o (fun hm => hb (List.mem_singleton.mp hm)) e
  self := W.self

theorem WK.list {prog : Program} {w : World} {A : Around} {T : Nat} (hh : A.handled = none) (I ax : Addr) (hne : ax ≠ I) (items : Array Value) :
    WK prog w A T I [I, ax] items.size (fun i v => items[i]? = some v) (fun i h => h.IsListIter I ax i ∧ h.IsList ax items) :=
  WK.of (Walks.list hh I ax hne items) (by rintro i h ⟨⟨o, ho, _⟩, _⟩; exact ⟨o, ho⟩)
theorem WK.tuple {prog : Program} {w : World} {A : Around} {T : Nat} (hh : A.handled = none) (I ax : Addr) (hne : ax ≠ I) (items : Array Value) :
    WK prog w A T I [I, ax] items.size (fun i v => items[i]? = some v) (fun i h => h.IsTupleIter I ax i ∧ h.IsTuple ax items) :=
  WK.of (Walks.tuple hh I ax hne items) (by rintro i h ⟨⟨o, ho, _⟩, _⟩; exact ⟨o, ho⟩)
theorem WK.range {prog : Program} {w : World} {A : Around} {T : Nat} (hh : A.handled = none) (I : Addr) (a : Int) (n : Nat) :
    WK prog w A T I [I] n (fun i v => ∃ t, T ≤ t ∧ v = .int (a + (i : Nat)) t) (fun i h => IsRangeIter h I (a + (i : Nat)) ((n : Int) - (i : Nat)) 1) where
  mem := List.mem_singleton.mpr rfl
  live := fun i h hs => ⟨_, hs⟩
  frame := fun _ _ _ st hk => hk I (by simp) _ st
  item := fun i s Q E hi st hT hQ => by
    refine wpAny_pyNext_range_item st (by omega) fun h' hit' hs' => ?_
    refine hQ _ h' _ ⟨_, hT, rfl⟩ (Nat.le_succ_of_le hT) ?_ fun b o hb e => hs'.extBut b o hb e
    have e1 : a + ((i + 1 : Nat) : Int) = a + (i : Int) + 1 := by push_cast; omega
    have e2 : (n : Int) - ((i + 1 : Nat) : Int) = (n : Int) - (i : Int) - 1 := by push_cast; omega
    rw [e1, e2]; exact hit'
  done := fun s Q E st hT hQ => wpAny_pyNext_range_end hh st (by omega) fun h' he' => hQ h' s.toks hT fun b o hb e => he' b o hb e
  self := fun _ _ _ _ st hQ => wpAny_pyIter_rangeiter st hQ

/-! ### comprehensions whose elements may make objects -/
abbrev testsOf (ifs : List Expr) (env : Env) : Sem Bool := forIn ifs true fun c r => if r = true then do let ok ← isTrue c env (eval c env); pure (ForInStep.yield ok) else pure (ForInStep.yield r)

section
variable {prog : Program} {w : World} {A : Around} {R : Result → Shared → Prop} {s : Shared}

theorem cl_turns {elt iter target : Expr} {gens : List Comprehension} {d : Nat} {scope : Scope} {pos : Pos} {ifs : List Expr} {it acc : Value} {env : Env} (Iv : Nat → Shared → Prop)
    (hden : compTurn (.ListComp elt gens scope pos) d it acc env = (do
      standAt iter.pos
      match ← pyNext it with
      | none => pure (.done .next)
      | some v =>
        letOwnedTupleGo target it v
        assign target env v
        let mut ok := true
        for c in ifs do
          if ok then ok ← isTrue c env (eval c env)
        if ok then
          (do let _ ← call (.builtin "list.append") [acc, ← eval elt env])
        again (.compLoop (.ListComp elt gens scope pos) d it acc env)))
    (turn : ∀ n s, Iv n s → wpAny (model prog w) A (pyNext it) (fun r s₁ => match r with
      | none => R (.ok .next) s₁
      | some v => wpAny (model prog w) A (assign target env v) (fun _ s₂ =>
          wpAny (model prog w) A (testsOf ifs env) (fun ok s₃ =>
            if ok = true then wpAny (model prog w) A (eval elt env) (fun x s₄ =>
              wpAny (model prog w) A (call (.builtin "list.append") [acc, x]) (fun _ s₅ => ∃ m, m < n ∧ Iv m s₅) (notedBy (model prog w) A env fun e s' => R (.error e) s') s₄) (notedBy (model prog w) A env fun e s' => R (.error e) s') s₃
            else ∃ m, m < n ∧ Iv m s₃) (notedBy (model prog w) A env fun e s' => R (.error e) s') s₂) (notedBy (model prog w) A env fun e s' => R (.error e) s') s₁) (notedBy (model prog w) A env fun e s' => R (.error e) s') s)
    (n : Nat) (h : Iv n s) (ht : ∀ v, letOwnedTupleGo target it v = pure ()) :
    codeAny (model prog w) A (.compLoop (.ListComp elt gens scope pos) d it acc env) R s := by
  refine codeAny_loop rfl Iv (fun n s hI => ?_) n h
  show wpAny _ A ((compTurn (.ListComp elt gens scope pos) d it acc env).onRaise (fun x => do noteFrame x env; theTreesLotGoes x)) _ _ s
  refine wpAny_noted ?_
  rw [hden]
  refine wpAny_bind (wpAny_standAt (wpAny_bind (wpAny_mono (turn n s hI) (fun r s₁ h₁ => ?_) fun _ _ h' => h')))
  cases r with
  | none => exact wpAny_pure h₁
  | some v =>
    refine wpAny_bind (wpAny_of_eq (ht v) ?_)
    refine wpAny_bind (wpAny_mono h₁ (fun _ s₂ h₂ => wpAny_bind (wpAny_mono h₂ (fun ok s₃ h₃ => ?_) fun _ _ h' => h')) fun _ _ h' => h')
    cases ok with
    | false => exact wpAny_pure ⟨rfl, h₃⟩
    | true =>
      exact wpAny_bind (wpAny_bind (wpAny_mono h₃ (fun x s₄ h₄ => wpAny_bind (wpAny_mono h₄ (fun _ s₅ h₅ => wpAny_pure (wpAny_pure ⟨rfl, h₅⟩)) fun _ _ h' => h')) fun _ _ h' => h'))

/-- what holds of the heap within a comprehension: the list so far, the objects made for it, all else kept -/
structure CIn (b₀ : Heap) (off : List Addr) (D C : Addr) (ys : List Value) (nl : List (Addr × Obj)) (m : Str → Option Value) (h : Heap) : Prop where
  acc : h.PlainList D ys.toArray
  ns : h.Ns C m
  kept : ∀ b o, b ≠ C → b ∉ off → b ≠ D → b₀.get? b = some o → h.get? b = some o
  made : ∀ q ∈ nl, h.get? q.1 = some q.2 ∧ q.1 ≠ C ∧ q.1 ∉ off ∧ q.1 ≠ D

theorem CIn.grow {b₀ h h' : Heap} {off : List Addr} {D C : Addr} {ys : List Value} {nl : List (Addr × Obj)} {m : Str → Option Value} (x : CIn b₀ off D C ys nl m h) (k : ∀ b o, h.get? b = some o → h'.get? b = some o) : CIn b₀ off D C ys nl m h' :=
  ⟨x.acc.at fun o e => k _ o e, x.ns.keeps k, fun b o h1 h2 h3 e => k _ _ (x.kept b o h1 h2 h3 e), fun q hq => ⟨k _ _ (x.made q hq).1, (x.made q hq).2⟩⟩

/-- one clause, walked to its end -/
theorem cl_core {T : Nat} {elt iter : Expr} {gens : List Comprehension} {d : Nat} {scope : Scope} {pos : Pos} {ifs : List Expr} {cenv : Env} {x : Str} {px : Pos} {I D : Addr} {fp off : List Addr} {n : Nat} {P : Nat → Value → Prop} {St : Nat → Heap → Prop} {b₀ : Heap}
    {ys₀ : List Value} {nl₀ : List (Addr × Obj)} {m : Str → Option Value} (Live : Heap → Prop) (J : Nat → List Value → List (Addr × Obj) → Prop) (Jm : (Str → Option Value) → Prop)
    (hden : compTurn (.ListComp elt gens scope pos) d (.ref I) (.ref D) cenv = (do
      standAt iter.pos
      match ← pyNext (.ref I) with
      | none => pure (.done .next)
      | some v =>
        letOwnedTupleGo (.Name x px) (.ref I) v
        assign (.Name x px) cenv v
        let mut ok := true
        for c in ifs do
          if ok then ok ← isTrue c cenv (eval c cenv)
        if ok then
          (do let _ ← call (.builtin "list.append") [.ref D, ← eval elt cenv])
        again (.compLoop (.ListComp elt gens scope pos) d (.ref I) (.ref D) cenv)))
    (W : WK prog w A T I fp n P St) (hT : T ≤ s.toks) (hx : cenv.kindOf x = some .local) (hp : (cenv.scope.kind == .class || (cenv.scope.kind == .module && cenv.locals != cenv.globals)) = false)
    (hDC : D ≠ cenv.locals) (hDf : D ∉ fp) (hCf : cenv.locals ∉ fp) (hIo : I ∈ off)
    (hLi : ∀ h h' : Heap, Live h → (∀ b o, b ≠ cenv.locals → b ≠ I → b ≠ D → h.get? b = some o → h'.get? b = some o) → Live h') (hL0 : Live s.heap)
    (hoff : ∀ b, b ∈ off → b ≠ I → ∀ h : Heap, Live h → ∃ o, h.get? b = some o)
    (hst : St 0 s.heap) (hci : CIn b₀ off D cenv.locals ys₀ nl₀ m s.heap) (hj : J 0 ys₀ nl₀) (hjm : Jm m) (hJm : ∀ m v, Jm m → Jm (fun y => if y = x then some v else m y))
    (hlen : ∀ i ys nl, J i ys nl → ys.length ≤ 100000)
    (turn : ∀ i v ys nl h tk m₁ E', T ≤ tk → i < n → P i v → J i ys nl → Jm m₁ → m₁ x = some v → CIn b₀ off D cenv.locals ys nl m₁ h → Live h → (∃ o, h.get? I = some o) →
      wpAny (model prog w) A (testsOf ifs cenv) (fun ok s₃ => Keeps { s with heap := h, toks := tk } s₃ ∧
        if ok = true then wpAny (model prog w) A (eval elt cenv) (fun y s₄ => Keeps s₃ s₄ ∧ ∃ nl', (∀ q ∈ nl', h.get? q.1 = none ∧ s₄.heap.get? q.1 = some q.2) ∧ J (i + 1) (ys ++ [y]) (nl ++ nl')) E' s₃
        else J (i + 1) ys nl) E' { s with heap := h, toks := tk })
    (hR : ∀ h' tk m' ys nl, T ≤ tk → CIn b₀ off D cenv.locals ys nl m' h' → Jm m' → Live h' → J n ys nl → R (.ok .next) { s with heap := h', toks := tk }) :
    codeAny (model prog w) A (.compLoop (.ListComp elt gens scope pos) d (.ref I) (.ref D) cenv) R s := by
  refine cl_turns (target := .Name x px) (ifs := ifs) (iter := iter)
    (fun k s' => ∃ h' tk m' ys nl i, s' = { s with heap := h', toks := tk } ∧ St i h' ∧ CIn b₀ off D cenv.locals ys nl m' h' ∧ Live h' ∧ Jm m' ∧ J i ys nl ∧ i ≤ n ∧ k = n + 1 - i ∧ T ≤ tk) hden ?_ (n + 1)
    ⟨s.heap, s.toks, m, ys₀, nl₀, 0, rfl, hst, hci, hL0, hjm, hj, Nat.zero_le _, rfl, hT⟩ (fun _ => rfl)
  intro k s' hJ2_2
  refine hide fun hG9 => ?_
  obtain ⟨H, tk, m', ys, nl, i, rfl, hst', hci', hL', hjm', hJ, hi, rfl, htk⟩ := hJ2_2
  refine hG9 ?_
  clear hG9
  have hCI : cenv.locals ≠ I := fun h => hCf (h ▸ W.mem)
  have hDI : D ≠ I := fun h => hDf (h ▸ W.mem)
  by_cases hlt : i < n
  · refine W.item i _ _ _ hlt hst' htk fun v h₁ tk₁ hPv ht₁ hst₁ hk₁ => ?_
    refine wpAny_assign_Name (wpAny_storeName_local hx (hci'.ns.at' fun o e => hk₁ _ o hCI e) (fun h₂ hn₂ hs₂ => ?_) hp)
    have up₂ : ∀ b o, b ≠ cenv.locals → b ≠ I → H.get? b = some o → h₂.get? b = some o := fun b o hbC hbI e => hs₂.extBut b o hbC (hk₁ b o hbI e)
    have hst₂ : St (i + 1) h₂ := W.frame _ _ _ hst₁ fun b hb o e => hs₂.extBut b o (fun h => hCf (h ▸ hb)) e
    have hc₂ : CIn b₀ off D cenv.locals ys nl (fun y => if y = x then some v else m' y) h₂ :=
      ⟨hci'.acc.at fun o e => up₂ D o hDC hDI e, hn₂, fun b o h1 h2 h3 e => up₂ b o h1 (fun h => h2 (h ▸ hIo)) (hci'.kept b o h1 h2 h3 e),
        fun q hq => ⟨up₂ _ _ (hci'.made q hq).2.1 (fun h => (hci'.made q hq).2.2.1 (h ▸ hIo)) (hci'.made q hq).1, (hci'.made q hq).2⟩⟩
    have hL₂ : Live h₂ := hLi _ _ hL' fun b o h1 h2 _ e => up₂ b o h1 h2 e
    refine wpAny_mono (wpAny_toks_of (n := T) (Nat.le_succ_of_le ht₁) (turn i v ys nl h₂ _ _ _ (Nat.le_succ_of_le ht₁) hlt hPv hJ (hJm _ _ hjm') (by simp) hc₂ hL₂ (W.live _ _ hst₂))) (fun ok s₃ h₃ => ?_) fun _ _ e => e.2
    refine hide fun hG9 => ?_
    obtain ⟨ht₃, ⟨h₃, tk₃, rfl, hk₃⟩, h₃'⟩ := h₃
    refine hG9 ?_
    clear hG9
    have hst₃ : St (i + 1) h₃ := W.frame _ _ _ hst₂ fun b _ o e => hk₃ b o e
    have hc₃ := hc₂.grow hk₃
    have hL₃ : Live h₃ := hLi _ _ hL₂ fun b o _ _ _ e => hk₃ b o e
    cases ok with
    | false =>
      simp only [Bool.false_eq_true, if_false] at h₃' ⊢
      exact ⟨n + 1 - (i + 1), by omega, h₃, tk₃, _, ys, nl, i + 1, rfl, hst₃, hc₃, hL₃, hJm _ _ hjm', h₃', hlt, rfl, ht₃⟩
    | true =>
      simp only [if_true] at h₃' ⊢
      refine wpAny_mono (wpAny_toks_of (n := T) ht₃ h₃') (fun y s₄ h₄ => ?_) fun _ _ e => e.2
      refine hide fun hG9 => ?_
      obtain ⟨ht₄, ⟨h₄, tk₄, rfl, hk₄⟩, nl', hnl', hJ'⟩ := h₄
      refine hG9 ?_
      clear hG9
      have hc₄ := hc₃.grow hk₄
      have hz : ys.toArray.size ≤ sizeLine := by
        have := hlen _ _ _ hJ
        have e : sizeLine = 16777216 := by decide
        simp only [List.size_toArray]; omega
      refine wpAny_list_append_plain (hsz := hz) hc₄.acc fun h₅ hl₅ hs₅ => ?_
      have fr : ∀ q ∈ nl', q.1 ≠ cenv.locals ∧ q.1 ∉ off ∧ q.1 ≠ D := fun q hq => by
        have hn := (hnl' q hq).1
        refine ⟨fun e => ?_, fun e => ?_, fun e => ?_⟩
        · refine hide fun hG9 => ?_
          obtain ⟨o, _, _, ho, _⟩ := hc₂.ns
          refine hG9 ?_
          clear hG9
          rw [e] at hn
          exact absurd (hn.symm.trans ho) (fun x => nomatch x)
        · by_cases hqI : q.1 = I
          · obtain ⟨o, ho⟩ := W.live _ _ hst₂
            rw [hqI] at hn
            exact absurd (hn.symm.trans ho) (fun x => nomatch x)
          · obtain ⟨o, ho⟩ := hoff _ e hqI _ hL₂
            exact absurd (hn.symm.trans ho) (fun x => nomatch x)
        · obtain ⟨_, ho⟩ := hc₂.acc
          rw [e] at hn
          exact absurd (hn.symm.trans ho) (fun x => nomatch x)
      refine ⟨n + 1 - (i + 1), by omega, h₅, tk₄, _, ys ++ [y], nl ++ nl', i + 1, rfl, ?_, ⟨by simpa using hl₅, hc₄.ns.sameBut hs₅ (Ne.symm hDC), fun b o h1 h2 h3 e => hs₅.extBut b o h3 (hc₄.kept b o h1 h2 h3 e), fun q hq => ?_⟩, ?_, hJm _ _ hjm', hJ', hlt, rfl, ht₄⟩
      · exact W.frame _ _ _ hst₃ fun b hb o e => hs₅.extBut b o (fun h => hDf (h ▸ hb)) (hk₄ b o e)
      · rcases List.mem_append.mp hq with hq | hq
        · have z := hc₄.made q hq
          exact ⟨hs₅.extBut _ _ z.2.2.2 z.1, z.2⟩
        · have z := fr q hq
          exact ⟨hs₅.extBut _ _ z.2.2 (hnl' q hq).2, z⟩
      · exact hLi _ _ hL₃ fun b o _ _ h3 e => hs₅.extBut b o h3 (hk₄ b o e)
  · have hin : i = n := by omega
    subst hin
    refine W.done _ _ _ hst' htk fun h₁ tk₁ ht₁ hk₁ => ?_
    have kk : ∀ b o, b ≠ I → H.get? b = some o → h₁.get? b = some o := hk₁
    exact hR h₁ tk₁ m' ys nl ht₁ ⟨hci'.acc.at fun o e => kk _ o hDI e, hci'.ns.at' fun o e => kk _ o hCI e, fun b o h1 h2 h3 e => kk _ _ (fun h => h2 (h ▸ hIo)) (hci'.kept b o h1 h2 h3 e),
      fun q hq => ⟨kk _ _ (fun h => (hci'.made q hq).2.2.1 (h ▸ hIo)) (hci'.made q hq).1, (hci'.made q hq).2⟩⟩ hjm' (hLi _ _ hL' fun b o _ h2 _ e => kk b o h2 e) hJ
end
/-- behind an element: the heap has grown alone, what was made is told, the word holds -/
noncomputable def EltPost (h : Heap) (J : List Value → List (Addr × Obj) → Prop) (ys : List Value) (nl : List (Addr × Obj)) (s₃ : Shared) (y : Value) (s₄ : Shared) : Prop :=
  Keeps s₃ s₄ ∧ ∃ nl', (∀ q ∈ nl', h.get? q.1 = none ∧ s₄.heap.get? q.1 = some q.2) ∧ J (ys ++ [y]) (nl ++ nl')
/-- behind the tests -/
noncomputable def TestPost (prog : Program) (w : World) (A : Around) (elt : Expr) (cenv : Env) (E' : Value → Shared → Prop) (h : Heap) (J : List Value → List (Addr × Obj) → Prop) (ys : List Value) (nl : List (Addr × Obj)) (s₂ : Shared) (ok : Bool) (s₃ : Shared) : Prop :=
  Keeps s₂ s₃ ∧ if ok = true then wpAny (model prog w) A (eval elt cenv) (EltPost h J ys nl s₃) E' s₃ else J ys nl
theorem elt_post {h h' : Heap} {J : List Value → List (Addr × Obj) → Prop} {ys : List Value} {nl : List (Addr × Obj)} {s₃ : Shared} {y : Value} {tk : Nat} (k : ∀ b o, s₃.heap.get? b = some o → h'.get? b = some o) (j : J (ys ++ [y]) nl) :
    EltPost h J ys nl s₃ y { s₃ with heap := h', toks := tk } := ⟨⟨h', tk, rfl, k⟩, [], (fun _ hq => nomatch hq), by rw [List.append_nil]; exact j⟩
theorem elt_post1 {h h' : Heap} {J : List Value → List (Addr × Obj) → Prop} {ys : List Value} {nl : List (Addr × Obj)} {s₃ : Shared} {y : Value} {tk : Nat} {q : Addr × Obj} (k : ∀ b o, s₃.heap.get? b = some o → h'.get? b = some o) (hq : h.get? q.1 = none) (hq' : h'.get? q.1 = some q.2) (j : J (ys ++ [y]) (nl ++ [q])) :
    EltPost h J ys nl s₃ y { s₃ with heap := h', toks := tk } := ⟨⟨h', tk, rfl, k⟩, [q], (fun p hp => by rw [List.mem_singleton.mp hp]; exact ⟨hq, hq'⟩), j⟩
section
variable {prog : Program} {w : World} {A : Around} {E' : Value → Shared → Prop} {elt : Expr} {cenv : Env} {h : Heap} {J : List Value → List (Addr × Obj) → Prop} {ys : List Value} {nl : List (Addr × Obj)} {s₂ : Shared}
theorem no_tests (x : wpAny (model prog w) A (eval elt cenv) (EltPost h J ys nl s₂) E' s₂) : wpAny (model prog w) A (testsOf [] cenv) (TestPost prog w A elt cenv E' h J ys nl s₂) E' s₂ :=
  wpAny_tests_nil ⟨⟨s₂.heap, s₂.toks, rfl, fun _ _ e => e⟩, by rw [if_pos rfl]; exact x⟩
theorem one_test {c : Expr} (x : wpAny (model prog w) A (isTrue c cenv (eval c cenv)) (TestPost prog w A elt cenv E' h J ys nl s₂) E' s₂) : wpAny (model prog w) A (testsOf [c] cenv) (TestPost prog w A elt cenv E' h J ys nl s₂) E' s₂ :=
  wpAny_tests_one x
theorem test_no {h' : Heap} {tk : Nat} {b : Bool} (hb : b = false) (k : ∀ b o, s₂.heap.get? b = some o → h'.get? b = some o) (j : J ys nl) : TestPost prog w A elt cenv E' h J ys nl s₂ b { s₂ with heap := h', toks := tk } := by
  subst hb
  exact ⟨⟨h', tk, rfl, k⟩, by rw [if_neg (by decide)]; exact j⟩
theorem test_yes {h' : Heap} {tk : Nat} {b : Bool} (hb : b = true) (k : ∀ b o, s₂.heap.get? b = some o → h'.get? b = some o)
    (x : wpAny (model prog w) A (eval elt cenv) (EltPost h J ys nl { s₂ with heap := h', toks := tk }) E' { s₂ with heap := h', toks := tk }) : TestPost prog w A elt cenv E' h J ys nl s₂ b { s₂ with heap := h', toks := tk } := by
  subst hb
  exact ⟨⟨h', tk, rfl, k⟩, by rw [if_pos rfl]; exact x⟩
end
section
variable {prog : Program} {w : World} {A : Around} {E : Value → Shared → Prop} {env : Env} {h₀ : Heap} {L : Addr} {m : Str → Option Value} {news : List (Addr × Obj)}
/-- the element's and the tests' turn -/
abbrev CTurn (prog : Program) (w : World) (A : Around) (T : Nat) (h₀ : Heap) (L : Addr) (m : Str → Option Value) (news : List (Addr × Obj)) (env : Env) (scope : Scope) (cl : List (Str × Addr)) (x : Str) (ifs : List Expr) (elt : Expr) (n : Nat) (P : Nat → Value → Prop)
    (J : Nat → List Value → List (Addr × Obj) → Prop) (s₂ : Shared) : Prop :=
  ∀ C i v ys nl h tk m₁ E', T ≤ tk → i < n → P i v → J i ys nl → m₁ x = some v → h.Ns C m₁ → Fr h₀ L h m → News h₀ L h news → (∀ q ∈ nl, h.get? q.1 = some q.2) →
    wpAny (model prog w) A (testsOf ifs (compEnvC scope cl C env)) (TestPost prog w A elt (compEnvC scope cl C env) E' h (J (i + 1)) ys nl { s₂ with heap := h, toks := tk }) E' { s₂ with heap := h, toks := tk }

theorem cp_block {T : Nat} {elt iter : Expr} {x : Str} {px : Pos} {ifs : List Expr} {scope : Scope} {cl : List (Str × Addr)} {pos : Pos} {s₂ : Shared} {I : Addr} {fp : List Addr} {n : Nat} {P : Nat → Value → Prop} {St : Nat → Heap → Prop}
    (W : WK prog w A T I fp n P St) (hT : T ≤ s₂.toks) (J : Nat → List Value → List (Addr × Obj) → Prop) {RR : Value → Addr → Result → Shared → Prop}
    (hcell : ∀ y ∈ scope.names, y.2 ≠ .cell) (hkind : scope.kind = .function) (hx : scope.names.lookup x = some .local) (hst : St 0 s₂.heap) (hfp : ∀ b ∈ fp, b < s₂.heap.objs.size)
    (F : Fr h₀ L s₂.heap m) (N : News h₀ L s₂.heap news) (hI0 : h₀.get? I = none) (hIL : I ≠ L) (hIN : ∀ p ∈ news, p.1 ≠ I)
    (hj : J 0 [] []) (hlen : ∀ i ys nl, J i ys nl → ys.length ≤ 100000)
    (turn : CTurn prog w A T h₀ L m news env scope cl x ifs elt n P J s₂)
    (hRR : ∀ D C h' tk m' ys nl, s₂.heap.objs.size ≤ D → s₂.heap.get? D = none → s₂.heap.get? C = none → D ≠ C → h'.Ns C m' → h'.PlainList D ys.toArray → J n ys nl →
      (∀ b o, b ≠ I → s₂.heap.get? b = some o → h'.get? b = some o) → (∀ q ∈ nl, h'.get? q.1 = some q.2 ∧ q.1 ≠ C ∧ q.1 ≠ I ∧ q.1 ≠ D) → (∀ q ∈ nl, s₂.heap.get? q.1 = none) → RR (.ref D) C (.ok .next) { s₂ with heap := h', toks := tk }) :
    wpAny (model prog w) A (newList []) (fun acc s₃ => wpAny (model prog w) A (newFunctionEnv scope env.globals cl [] env.qual none .none (some env)) (fun cenv s₄ =>
      codeAny (model prog w) A (.compStart (.ListComp elt [⟨.Name x px, iter, ifs, 0⟩] scope pos) 0 (.ref I) acc { cenv with scope := relabel scope env }) (RR acc cenv.locals) s₄) E s₃) E s₂ := by
  refine wpAny_newObj_type (wpAny_newFunctionEnv hcell (by intro y hy; simp at hy) (fun h₁ hns₁ hsb₁ => ?_) hkind)
  dsimp only at hns₁ hsb₁ ⊢
  generalize hH2 : s₂.heap.push { cls := .type "list", dict := none, data := .seq ([] : List Value).toArray } = H2 at hns₁ hsb₁ ⊢
  have hC : H2.objs.size = s₂.heap.objs.size + 1 := by rw [← hH2, Heap.size_push]
  have hDC : s₂.heap.objs.size ≠ H2.objs.size := by rw [hC]; exact Nat.ne_of_lt (Nat.lt_succ_self _)
  have below : ∀ b, b < s₂.heap.objs.size → b ≠ H2.objs.size ∧ b ≠ s₂.heap.objs.size := fun b hb => ⟨by rw [hC]; exact Nat.ne_of_lt (Nat.lt_succ_of_lt hb), Nat.ne_of_lt hb⟩
  have hDf : s₂.heap.objs.size ∉ fp := fun hm => Nat.lt_irrefl _ (hfp _ hm)
  have hCf : H2.objs.size ∉ fp := fun hm => by have := hfp _ hm; rw [hC] at this; exact Nat.lt_irrefl _ (Nat.lt_of_succ_lt this)
  have old : ∀ b o, s₂.heap.get? b = some o → h₁.get? b = some o := fun b o e => hsb₁.extBut b o (below b (Heap.lt_size e)).1 (Heap.get?_push_of_some _ (hH2 ▸ Heap.get?_push_of_some _ e))
  have hacc : h₁.PlainList s₂.heap.objs.size ([] : List Value).toArray := ⟨_, hsb₁.extBut _ _ hDC (Heap.get?_push_of_some _ (hH2 ▸ Heap.get?_push_size _ rfl))⟩
  have hst₁ : St 0 h₁ := W.frame _ _ _ hst fun b _ o e => old b o e
  have fresh : ∀ a, s₂.heap.objs.size ≤ a → s₂.heap.get? a = none := fun a ha => by
    cases e : s₂.heap.get? a with
    | none => rfl
    | some o' => exact absurd (Heap.lt_size e) (Nat.not_lt.mpr ha)
  have hL : L < s₂.heap.objs.size := F.ns.lt
  have kb : ∀ h : Heap, (∀ b o, b ≠ H2.objs.size → b ∉ [I] → b ≠ s₂.heap.objs.size → s₂.heap.get? b = some o → h.get? b = some o) → ∀ b o, b ≠ I → s₂.heap.get? b = some o → h.get? b = some o :=
    fun h k b o hb e => k b o (below b (Heap.lt_size e)).1 (fun hm => hb (List.mem_singleton.mp hm)) (below b (Heap.lt_size e)).2 e
  have hFr : ∀ h : Heap, (∀ b o, b ≠ I → s₂.heap.get? b = some o → h.get? b = some o) → Fr h₀ L h m := fun h k => ⟨F.ns.at' fun o e => k _ o (Ne.symm hIL) e, fun b o e => k b o (fun q => by rw [q, hI0] at e; cases e) (F.keep b o e), F.above⟩
  have hNw : ∀ h : Heap, (∀ b o, b ≠ I → s₂.heap.get? b = some o → h.get? b = some o) → News h₀ L h news := fun h k p hp => ⟨k _ _ (hIN p hp) (N p hp).1, (N p hp).2⟩
  let J' : Nat → List Value → List (Addr × Obj) → Prop := fun i ys nl => J i ys nl ∧ ∀ q ∈ nl, s₂.heap.get? q.1 = none
  have loop : ∀ s₃ : Shared, s₃ = { s₂ with heap := h₁, toks := s₂.toks + ([] : List (Str × Value)).length } →
      codeAny (model prog w) A (.compLoop (.ListComp elt [⟨.Name x px, iter, ifs, 0⟩] scope pos) 0 (.ref I) (.ref s₂.heap.objs.size) (compEnvC scope cl H2.objs.size env))
        (RR (.ref s₂.heap.objs.size) H2.objs.size) s₃ := by
    rintro s₃ rfl
    refine cl_core (cenv := compEnvC scope cl H2.objs.size env) (iter := iter) (px := px) (ifs := ifs) (b₀ := s₂.heap) (off := [I]) (ys₀ := []) (nl₀ := []) (Live := fun _ => True) (J := J') (Jm := fun _ => True) (by rfl)
      W (Nat.le_trans hT (Nat.le_add_right _ _)) (lookup_relabel_local hx) (by simp [compEnvC, relabel, hkind]) hDC hDf hCf (List.mem_singleton.mpr rfl) (fun _ _ _ _ => trivial) trivial (fun b hb hn => absurd (List.mem_singleton.mp hb) hn) hst₁
      ⟨hacc, hns₁, fun b o _ _ _ e => old b o e, fun q hq => nomatch hq⟩ ⟨hj, fun q hq => nomatch hq⟩ trivial (fun _ _ _ => trivial) (fun i ys nl h => hlen i ys nl h.1) ?_ ?_
    · intro i v ys nl h tk m₁ E' htk hi hP hJ _ hm hc _ hIa
      refine wpAny_mono (turn H2.objs.size i v ys nl h tk m₁ E' htk hi hP hJ.1 hm hc.ns (hFr h (kb h hc.kept)) (hNw h (kb h hc.kept)) fun q hq => (hc.made q hq).1) (fun ok s₃ h₃ => ?_) fun _ _ e => e
      replace h₃ : Keeps { s₂ with heap := h, toks := tk } s₃ ∧ if ok = true then wpAny (model prog w) A (eval elt (compEnvC scope cl H2.objs.size env)) (EltPost h (J (i + 1)) ys nl s₃) E' s₃ else J (i + 1) ys nl := h₃
      refine ⟨h₃.1, ?_⟩
      cases ok with
      | false =>
        have := h₃.2
        simp only [Bool.false_eq_true, if_false] at this ⊢
        exact ⟨this, hJ.2⟩
      | true =>
        have h₅ := h₃.2
        simp only [if_true] at h₅ ⊢
        refine wpAny_mono h₅ (fun y s₄ h₄ => ?_) fun _ _ e => e
        refine hide fun hG9 => ?_
        obtain ⟨k₄, nl', hn, hJ'⟩ := h₄
        refine hG9 ?_
        clear hG9
        refine ⟨k₄, nl', hn, hJ', fun q hq => ?_⟩
        rcases List.mem_append.mp hq with hq | hq
        · exact hJ.2 q hq
        · cases e : s₂.heap.get? q.1 with
          | none => rfl
          | some o =>
            by_cases hqI : q.1 = I
            · have hz := (hn q hq).1
              obtain ⟨o', ho'⟩ := hIa
              rw [hqI, ho'] at hz
              exact absurd hz (fun x => nomatch x)
            · exact absurd ((hn q hq).1.symm.trans (kb h hc.kept _ _ hqI e)) (fun x => nomatch x)
    · intro h' tk m' ys nl _ hc _ _ hJ
      exact hRR _ _ h' tk m' ys nl (Nat.le_refl _) (fresh _ (Nat.le_refl _)) (fresh _ (by rw [hC]; exact Nat.le_succ _)) hDC hc.ns hc.acc hJ.1 (kb h' hc.kept) (fun q hq => ⟨(hc.made q hq).1, (hc.made q hq).2.1, fun e => (hc.made q hq).2.2.1 (e ▸ List.mem_singleton.mpr rfl), (hc.made q hq).2.2.2⟩) hJ.2
  exact codeAny_compStart_list (loop _ rfl) (W.self 0 _ _ _ hst₁ (loop _ rfl))
end
section
variable {prog : Program} {w : World} {A : Around} {E : Value → Shared → Prop} {env : Env} {h₀ : Heap} {L : Addr} {m : Str → Option Value} {s : Shared}

/-- what the source of a comprehension gives -/
noncomputable def CompAt (prog : Program) (w : World) (A : Around) (h₀ : Heap) (L : Addr) (m : Str → Option Value) (env : Env) (scope : Scope) (cl : List (Str × Addr)) (x : Str) (ifs : List Expr) (elt : Expr) (K : Addr → List (Addr × Obj) → Heap → Nat → Prop) (it : Value) (s₂ : Shared) : Prop :=
  ∃ (T : Nat) (I : Addr) (fp : List Addr) (n : Nat) (P : Nat → Value → Prop) (St : Nat → Heap → Prop) (news : List (Addr × Obj)) (J : Nat → List Value → List (Addr × Obj) → Prop),
    it = .ref I ∧ WK prog w A T I fp n P St ∧ T ≤ s₂.toks ∧ St 0 s₂.heap ∧ (∀ b ∈ fp, b < s₂.heap.objs.size) ∧ Fr h₀ L s₂.heap m ∧ News h₀ L s₂.heap news ∧ h₀.get? I = none ∧ I ≠ L ∧ (∀ p ∈ news, p.1 ≠ I) ∧
    J 0 [] [] ∧ (∀ i ys nl, J i ys nl → ys.length ≤ 100000) ∧ CTurn prog w A T h₀ L m news env scope cl x ifs elt n P J s₂ ∧
    (∀ D ys k nl h' tk, (∀ p ∈ news, p.1 < D) → (∀ q ∈ nl, q.1 ≠ D) → (∀ q ∈ nl, ∀ p ∈ news, q.1 ≠ p.1) → J n ys nl → h₀.get? D = none → D ≠ L → Fr h₀ L h' m → News h₀ L h' ((D, PySem.W.listOf ys.toArray k) :: (nl ++ news)) → K D ((D, PySem.W.listOf ys.toArray k) :: (nl ++ news)) h' tk)

theorem cp_eval {elt iter : Expr} {x : Str} {px : Pos} {ifs : List Expr} {scope : Scope} {cl : List (Str × Addr)} {pos : Pos} {Q : Value → Shared → Prop}
    (hclos : closureFor scope env = pure cl) (hcell : ∀ y ∈ scope.names, y.2 ≠ .cell) (hkind : scope.kind = .function)
    (hnames : ∀ y ∈ scope.names, y.2 = .local → scope.names.lookup y.1 = some .local) (hx : scope.names.lookup x = some .local)
    (h : wpAny (model prog w) A (eval iter env) (fun xv s₁ => wpAny (model prog w) A (pyIter xv) (fun it s₂ => CompAt prog w A h₀ L m env scope cl x ifs elt
      (fun D led h' tk => Fr h₀ L h' m → News h₀ L h' led → Q (.ref D) { s₂ with heap := h', toks := tk }) it s₂) E s₁) E s)
    (hs : ∀ x, foldedSetIterable iter env x = pure x := by intro _; rfl) :
    wpAny (model prog w) A (eval (.ListComp elt [⟨.Name x px, iter, ifs, 0⟩] scope pos) env) Q E s := by
  rw [eval_ListComp]
  refine wpAny_comprehension_free (use := none) rfl hs hclos hkind hnames (wpAny_mono h (fun xv s₁ h₁ => wpAny_mono h₁ (fun it s₂ h₂ => ?_) fun _ _ e => e) fun _ _ e => e)
  refine hide fun hG9 => ?_
  obtain ⟨T, I, fp, n, P, St, news, J, rfl, W, hT, hst, hfp, F, N, hI0, hIL, hIN, hj, hlen, turn, fin⟩ := h₂
  refine hG9 ?_
  clear hG9
  refine cp_block (RR := fun acc C => compPost (model prog w) A E none Q acc C) W hT J hcell hkind hx hst hfp F N hI0 hIL hIN hj hlen turn ?_
  intro D C h' tk m' ys nl hDs hD hC hDC hnC hl hJ hk hnl hnl0
  refine ⟨m', hnC, fun h'' hs'' => ?_⟩
  have up : ∀ b o, b ≠ I → s₂.heap.get? b = some o → h''.get? b = some o := fun b o hb e => hs''.extBut b o (by rintro rfl; rw [hC] at e; cases e) (hk b o hb e)
  obtain ⟨k, hD'⟩ := hl
  have hD'' := hs''.extBut D _ hDC hD'
  have F'' : Fr h₀ L h'' m := ⟨F.ns.at' fun o e => up _ o (Ne.symm hIL) e, fun b o e => up b o (fun q => by rw [q, hI0] at e; cases e) (F.keep b o e), F.above⟩
  have h0D : h₀.get? D = none := by
    cases e : h₀.get? D with
    | none => rfl
    | some o => have := F.keep _ _ e; rw [hD] at this; cases this
  have hDL : D ≠ L := fun e => by have := F.ns.lt; rw [← e] at this; exact absurd hDs (Nat.not_le.mpr this)
  have hall : News h₀ L h'' ((D, PySem.W.listOf ys.toArray k) :: (nl ++ news)) := fun p hp => by
    rcases List.mem_cons.mp hp with rfl | hp
    · exact ⟨hD'', hDL, h0D⟩
    · rcases List.mem_append.mp hp with hp | hp
      · have z := hnl p hp
        refine ⟨hs''.extBut _ _ z.2.1 z.1, fun e => ?_, ?_⟩
        · refine hide fun hG9 => ?_
          obtain ⟨o, _, _, ho, _⟩ := F.ns
          refine hG9 ?_
          clear hG9
          have := hnl0 p hp
          rw [e] at this
          exact absurd (this.symm.trans ho) (fun x => nomatch x)
        · cases e : h₀.get? p.1 with
          | none => rfl
          | some o => have := F.keep _ _ e; rw [hnl0 p hp] at this; cases this
      · exact ⟨up _ _ (hIN p hp) (N p hp).1, (N p hp).2⟩
  refine fin D ys k nl h'' tk (fun p hp => Nat.lt_of_lt_of_le (Heap.lt_size (N p hp).1) hDs) (fun q hq => (hnl q hq).2.2.2) (fun q hq p hp e => ?_) hJ h0D hDL F'' hall F'' hall
  have := hnl0 q hq
  rw [e] at this
  exact absurd (this.symm.trans (N p hp).1) (fun x => nomatch x)

theorem cp_assign {elt iter : Expr} {x y : Str} {px py : Pos} {ifs : List Expr} {scope : Scope} {cl : List (Str × Addr)} {pos spos : Pos} {Q : Flow → Shared → Prop}
    (hsw : swapsWith (.ListComp elt [⟨.Name x px, iter, ifs, 0⟩] scope pos) (some (.Name y py)) spos.line env = pure true) (hL : env.locals = L)
    (hclos : closureFor scope env = pure cl) (hcell : ∀ z ∈ scope.names, z.2 ≠ .cell) (hkind : scope.kind = .function)
    (hnames : ∀ z ∈ scope.names, z.2 = .local → scope.names.lookup z.1 = some .local) (hx : scope.names.lookup x = some .local)
    (hy : env.kindOf y = some .local) (hp : (env.scope.kind == .class || (env.scope.kind == .module && env.locals != env.globals)) = false)
    (h : wpAny (model prog w) A (eval iter env) (fun xv s₁ => wpAny (model prog w) A (pyIter xv) (fun it s₂ => CompAt prog w A h₀ L m env scope cl x ifs elt
      (fun D led h' _ => ∀ h'' tk', Fr h₀ L h'' (fun z => if z = y then some (.ref D) else m z) → News h₀ L h'' led → Q .next { s₂ with heap := h'', toks := tk' }) it s₂) E s₁) E s)
    (hs : ∀ x, foldedSetIterable iter env x = pure x := by intro _; rfl) :
    wpAny (model prog w) A (exec (.Assign [.Name y py] (.ListComp elt [⟨.Name x px, iter, ifs, 0⟩] scope pos) spos) env) Q E s := by
  subst hL
  rw [exec_Assign_Name_used _ _ _ _ hsw]
  refine wpAny_bind (wpAny_standAt (wpAny_bind ?_))
  show wpAny _ A (do let _ ← comprehension (.ListComp elt [⟨.Name x px, iter, ifs, 0⟩] scope pos) scope env _ (newList []) false (eval iter env) (some (assign (.Name y py) env))) _ _ s
  refine wpAny_bind (wpAny_mono (wpAny_comprehension_free (use := some (assign (.Name y py) env)) (Q := fun _ s' => Q .next s') rfl hs hclos hkind hnames
    (wpAny_mono h (fun xv s₁ h₁ => wpAny_mono h₁ (fun it s₂ h₂ => ?_) fun _ _ e => e) fun _ _ e => e)) (fun _ s' hq => wpAny_pure (wpAny_pure hq)) fun _ _ e => e)
  refine hide fun hG9 => ?_
  obtain ⟨T, I, fp, n, P, St, news, J, rfl, W, hT, hst, hfp, F, N, hI0, hIL, hIN, hj, hlen, turn, fin⟩ := h₂
  refine hG9 ?_
  clear hG9
  refine cp_block (RR := fun acc C => compPost (model prog w) A E (some (assign (.Name y py) env)) (fun _ s' => Q .next s') acc C) W hT J hcell hkind hx hst hfp F N hI0 hIL hIN hj hlen turn ?_
  intro D C h' tk m' ys nl hDs hD hC hDC hnC hl hJ hk hnl hnl0
  have hLC : env.locals ≠ C := by rintro rfl; obtain ⟨o, _, _, ho, _⟩ := F.ns; rw [hC] at ho; cases ho
  have hDL : D ≠ env.locals := fun e => by have := F.ns.lt; rw [← e] at this; exact absurd hDs (Nat.not_le.mpr this)
  show wpAny _ A (assign (.Name y py) env (.ref D)) _ _ _
  refine wpAny_assign_Name (wpAny_storeName_local hy (F.ns.at' fun o e => hk _ o (Ne.symm hIL) e) (fun h₂ hn₂ hs₂ => ?_) hp)
  refine ⟨m', hnC.sameBut hs₂ (Ne.symm hLC), fun h₃ hs₃ => ?_⟩
  have up : ∀ b o, b ≠ I → b ≠ env.locals → s₂.heap.get? b = some o → h₃.get? b = some o := fun b o hb hbL e => hs₃.extBut b o (by rintro rfl; rw [hC] at e; cases e) (hs₂.extBut b o hbL (hk b o hb e))
  obtain ⟨k, hD'⟩ := hl
  have h0D : h₀.get? D = none := by
    cases e : h₀.get? D with
    | none => rfl
    | some o => have := F.keep _ _ e; rw [hD] at this; cases this
  have h0L : ∀ b o, h₀.get? b = some o → b ≠ env.locals := fun b o e => Nat.ne_of_lt (Nat.lt_of_lt_of_le (Heap.lt_size e) F.above)
  have F' : Fr h₀ env.locals h' m := ⟨F.ns.at' fun o e => hk _ o (Ne.symm hIL) e, fun b o e => hk b o (fun q => by rw [q, hI0] at e; cases e) (F.keep b o e), F.above⟩
  have mk : ∀ H : Heap, (∀ b o, b ≠ env.locals → b ≠ C → h'.get? b = some o → H.get? b = some o) → News h₀ env.locals H ((D, PySem.W.listOf ys.toArray k) :: (nl ++ news)) := fun H up' p hp => by
    rcases List.mem_cons.mp hp with rfl | hp
    · exact ⟨up' _ _ hDL hDC hD', hDL, h0D⟩
    · rcases List.mem_append.mp hp with hp | hp
      · have z := hnl p hp
        have hpL : p.1 ≠ env.locals := fun e => by
          refine hide fun hG9 => ?_
          obtain ⟨o, _, _, ho, _⟩ := F.ns
          refine hG9 ?_
          clear hG9
          have := hnl0 p hp
          rw [e] at this
          exact absurd (this.symm.trans ho) (fun x => nomatch x)
        refine ⟨up' _ _ hpL z.2.1 z.1, hpL, ?_⟩
        · cases e : h₀.get? p.1 with
          | none => rfl
          | some o => have := F.keep _ _ e; rw [hnl0 p hp] at this; cases this
      · have hpC : p.1 ≠ C := fun e => by have := (N p hp).1; rw [e, hC] at this; cases this
        exact ⟨up' _ _ (N p hp).2.1 hpC (hk _ _ (hIN p hp) (N p hp).1), (N p hp).2⟩
  refine fin D ys k nl h' tk (fun p hp => Nat.lt_of_lt_of_le (Heap.lt_size (N p hp).1) hDs) (fun q hq => (hnl q hq).2.2.2) (fun q hq p hp e => ?_) hJ h0D hDL F' (mk h' fun _ _ _ _ e => e) h₃ _
    ⟨hn₂.sameBut hs₃ hLC, fun b o e => up b o (fun q => by rw [q, hI0] at e; cases e) (h0L b o e) (F.keep b o e), F.above⟩ (mk h₃ fun b o hbL hbC e => hs₃.extBut b o hbC (hs₂.extBut b o hbL e))
  have := hnl0 q hq
  rw [e] at this
  exact absurd (this.symm.trans (N p hp).1) (fun x => nomatch x)
end

section
variable {prog : Program} {w : World} {A : Around} {E : Value → Shared → Prop} {env : Env} {h₀ : Heap} {L : Addr} {m : Str → Option Value} {s : Shared} {news : List (Addr × Obj)}
  {scope : Scope} {cl : List (Str × Addr)} {x : Str} {ifs : List Expr} {elt : Expr} {K : Shared → Addr → List (Addr × Obj) → Heap → Nat → Prop}

theorem cs_list {T : Nat} (hT : T ≤ s.toks) {l : Addr} {vs : List Value} (J : Nat → List Value → List (Addr × Obj) → Prop) (hh : A.handled = none) (hl : s.heap.IsList l vs.toArray) (F : Fr h₀ L s.heap m) (N : News h₀ L s.heap news)
    (hj : J 0 [] []) (hlen : ∀ i ys nl, J i ys nl → ys.length ≤ 100000)
    (turn : ∀ h₂, CTurn prog w A T h₀ L m news env scope cl x ifs elt vs.length (fun i v => vs[i]? = some v) J { s with heap := h₂ })
    (fin : ∀ h₂ D ys k nl h' tk, (∀ p ∈ news, p.1 < D) → (∀ q ∈ nl, q.1 ≠ D) → (∀ q ∈ nl, ∀ p ∈ news, q.1 ≠ p.1) → J vs.length ys nl → h₀.get? D = none → D ≠ L → Fr h₀ L h' m → News h₀ L h' ((D, PySem.W.listOf ys.toArray k) :: (nl ++ news)) → K { s with heap := h₂ } D ((D, PySem.W.listOf ys.toArray k) :: (nl ++ news)) h' tk) :
    wpAny (model prog w) A (pyIter (.ref l)) (fun it s₂ => CompAt prog w A h₀ L m env scope cl x ifs elt (K s₂) it s₂) E s := by
  refine hide fun hG9 => ?_
  obtain ⟨ol, hol, _⟩ := id hl
  refine hG9 ?_
  clear hG9
  have hls : l < s.heap.objs.size := Heap.lt_size hol
  refine wpAny_pyIter_list hl ?_
  have W := WK.list (prog := prog) (w := w) (T := T) hh s.heap.objs.size l (Nat.ne_of_lt hls) vs.toArray
  refine ⟨T, _, _, vs.toArray.size, _, _, news, J, rfl, W, hT, ⟨⟨_, Heap.get?_push_size _ rfl, rfl, rfl⟩, hl.at fun o e => Heap.get?_push_of_some _ e⟩, ?_, F.push _, (fun p hp => ⟨Heap.get?_push_of_some _ (N p hp).1, (N p hp).2⟩), next_is_new F, Nat.ne_of_gt F.ns.lt, ?_, hj, hlen, ?_, ?_⟩
  · intro b hb
    show b < (s.heap.push _).objs.size
    rw [Heap.size_push]
    rcases List.mem_cons.mp hb with rfl | hb
    · exact Nat.lt_succ_self _
    · rw [List.mem_singleton.mp hb]; exact Nat.lt_succ_of_lt hls
  · intro p hp e
    exact absurd (Heap.lt_size (N p hp).1) (e ▸ Nat.lt_irrefl _)
  · intro C i v ys nl h tk m₁ E' htk hi hP
    exact turn _ C i v ys nl h tk m₁ E' htk (by simpa using hi) (by simpa using hP)
  · intro D ys k nl h' tk a b c hJ
    exact fin _ D ys k nl h' tk a b c (by simpa using hJ)

theorem cs_tup {T : Nat} (hT : T ≤ s.toks) {l : Addr} {vs : List Value} (J : Nat → List Value → List (Addr × Obj) → Prop) (hh : A.handled = none) (hl : IsTup s.heap l vs.toArray) (F : Fr h₀ L s.heap m) (N : News h₀ L s.heap news)
    (hj : J 0 [] []) (hlen : ∀ i ys nl, J i ys nl → ys.length ≤ 100000)
    (turn : ∀ h₂, CTurn prog w A T h₀ L m news env scope cl x ifs elt vs.length (fun i v => vs[i]? = some v) J { s with heap := h₂ })
    (fin : ∀ h₂ D ys k nl h' tk, (∀ p ∈ news, p.1 < D) → (∀ q ∈ nl, q.1 ≠ D) → (∀ q ∈ nl, ∀ p ∈ news, q.1 ≠ p.1) → J vs.length ys nl → h₀.get? D = none → D ≠ L → Fr h₀ L h' m → News h₀ L h' ((D, PySem.W.listOf ys.toArray k) :: (nl ++ news)) → K { s with heap := h₂ } D ((D, PySem.W.listOf ys.toArray k) :: (nl ++ news)) h' tk) :
    wpAny (model prog w) A (pyIter (.ref l)) (fun it s₂ => CompAt prog w A h₀ L m env scope cl x ifs elt (K s₂) it s₂) E s := by
  refine hide fun hG9 => ?_
  obtain ⟨ol, hol, hc, k, hd⟩ := id hl
  refine hG9 ?_
  clear hG9
  have hls : l < s.heap.objs.size := Heap.lt_size hol
  have hl' : s.heap.IsTuple l vs.toArray := ⟨ol, hol, hc, k, hd⟩
  refine wpAny_pyIter_tuple hl' ?_
  have W := WK.tuple (prog := prog) (w := w) (T := T) hh s.heap.objs.size l (Nat.ne_of_lt hls) vs.toArray
  refine ⟨T, _, _, vs.toArray.size, _, _, news, J, rfl, W, hT, ⟨⟨_, Heap.get?_push_size _ rfl, rfl, rfl⟩, hl'.at fun o e => Heap.get?_push_of_some _ e⟩, ?_, F.push _, (fun p hp => ⟨Heap.get?_push_of_some _ (N p hp).1, (N p hp).2⟩), next_is_new F, Nat.ne_of_gt F.ns.lt, ?_, hj, hlen, ?_, ?_⟩
  · intro b hb
    show b < (s.heap.push _).objs.size
    rw [Heap.size_push]
    rcases List.mem_cons.mp hb with rfl | hb
    · exact Nat.lt_succ_self _
    · rw [List.mem_singleton.mp hb]; exact Nat.lt_succ_of_lt hls
  · intro p hp e
    exact absurd (Heap.lt_size (N p hp).1) (e ▸ Nat.lt_irrefl _)
  · intro C i v ys nl h tk m₁ E' htk hi hP
    exact turn _ C i v ys nl h tk m₁ E' htk (by simpa using hi) (by simpa using hP)
  · intro D ys k nl h' tk a b c hJ
    exact fin _ D ys k nl h' tk a b c (by simpa using hJ)

theorem cs_range {T : Nat} (hT : T ≤ s.toks) {r : Addr} {a₀ b₀ : Int} {t₀ u₀ v₀ : Tok} {n : Nat} (J : Nat → List Value → List (Addr × Obj) → Prop) (hh : A.handled = none)
    (hr : IsRange s.heap r a₀ b₀ 1 t₀ u₀ v₀) (hsmall : Builtin.Range.small a₀ b₀ 1 = true) (hn : Builtin.Range.rangeSize a₀ b₀ 1 = (n : Int)) (F : Fr h₀ L s.heap m) (N : News h₀ L s.heap news)
    (hj : J 0 [] []) (hlen : ∀ i ys nl, J i ys nl → ys.length ≤ 100000)
    (turn : ∀ h₂, CTurn prog w A T h₀ L m news env scope cl x ifs elt n (fun i v => ∃ t, T ≤ t ∧ v = .int (a₀ + (i : Nat)) t) J { s with heap := h₂ })
    (fin : ∀ h₂ D ys k nl h' tk, (∀ p ∈ news, p.1 < D) → (∀ q ∈ nl, q.1 ≠ D) → (∀ q ∈ nl, ∀ p ∈ news, q.1 ≠ p.1) → J n ys nl → h₀.get? D = none → D ≠ L → Fr h₀ L h' m → News h₀ L h' ((D, PySem.W.listOf ys.toArray k) :: (nl ++ news)) → K { s with heap := h₂ } D ((D, PySem.W.listOf ys.toArray k) :: (nl ++ news)) h' tk) :
    wpAny (model prog w) A (pyIter (.ref r)) (fun it s₂ => CompAt prog w A h₀ L m env scope cl x ifs elt (K s₂) it s₂) E s := by
  refine wpAny_pyIter_range hr hsmall ?_
  have W := WK.range (prog := prog) (w := w) (T := T) hh s.heap.objs.size a₀ n
  refine ⟨T, _, _, n, _, _, news, J, rfl, W, hT, (by show IsRangeIter _ _ _ _ _; rw [hn]; simpa using Heap.get?_push_size _ rfl), ?_, F.push _, (fun p hp => ⟨Heap.get?_push_of_some _ (N p hp).1, (N p hp).2⟩), next_is_new F, Nat.ne_of_gt F.ns.lt, ?_, hj, hlen, ?_, ?_⟩
  · intro b hb
    show b < (s.heap.push _).objs.size
    rw [Heap.size_push, List.mem_singleton.mp hb]
    exact Nat.lt_succ_self _
  · intro p hp e
    exact absurd (Heap.lt_size (N p hp).1) (e ▸ Nat.lt_irrefl _)
  · intro C i v ys nl h tk m₁ E' htk hi hP
    exact turn _ C i v ys nl h tk m₁ E' htk hi hP
  · intro D ys k nl h' tk a b c hJ
    exact fin _ D ys k nl h' tk a b c hJ
end
section
variable {prog : Program} {w : World} {A : Around} {E : Value → Shared → Prop} {env : Env} {h₀ : Heap} {L : Addr} {m : Str → Option Value} {s : Shared}
theorem cp_evalF {elt iter : Expr} {x : Str} {px : Pos} {ifs : List Expr} {scope : Scope} {cl : List (Str × Addr)} {pos : Pos} {Q : Value → Shared → Prop} (_F : Fr h₀ L s.heap m)
    (hclos : closureFor scope env = pure cl) (hcell : ∀ y ∈ scope.names, y.2 ≠ .cell) (hkind : scope.kind = .function)
    (hnames : ∀ y ∈ scope.names, y.2 = .local → scope.names.lookup y.1 = some .local) (hx : scope.names.lookup x = some .local)
    (hs : ∀ x, foldedSetIterable iter env x = pure x)
    (h : wpAny (model prog w) A (eval iter env) (fun xv s₁ => wpAny (model prog w) A (pyIter xv) (fun it s₂ => CompAt prog w A h₀ L m env scope cl x ifs elt
      (fun D led h' tk => Fr h₀ L h' m → News h₀ L h' led → Q (.ref D) { s₂ with heap := h', toks := tk }) it s₂) E s₁) E s) :
    Hold (wpAny (model prog w) A (eval (.ListComp elt [⟨.Name x px, iter, ifs, 0⟩] scope pos) env) Q E s) :=
  cp_eval hclos hcell hkind hnames hx h hs
theorem cp_assignF {elt iter : Expr} {x y : Str} {px py : Pos} {ifs : List Expr} {scope : Scope} {cl : List (Str × Addr)} {pos spos : Pos} {Q : Flow → Shared → Prop} (_F : Fr h₀ L s.heap m)
    (hsw : swapsWith (.ListComp elt [⟨.Name x px, iter, ifs, 0⟩] scope pos) (some (.Name y py)) spos.line env = pure true) (hL : env.locals = L)
    (hclos : closureFor scope env = pure cl) (hcell : ∀ z ∈ scope.names, z.2 ≠ .cell) (hkind : scope.kind = .function)
    (hnames : ∀ z ∈ scope.names, z.2 = .local → scope.names.lookup z.1 = some .local) (hx : scope.names.lookup x = some .local)
    (hy : env.kindOf y = some .local) (hp : (env.scope.kind == .class || (env.scope.kind == .module && env.locals != env.globals)) = false)
    (hs : ∀ x, foldedSetIterable iter env x = pure x)
    (h : wpAny (model prog w) A (eval iter env) (fun xv s₁ => wpAny (model prog w) A (pyIter xv) (fun it s₂ => CompAt prog w A h₀ L m env scope cl x ifs elt
      (fun D led h' _ => ∀ h'' tk', Fr h₀ L h'' (fun z => if z = y then some (.ref D) else m z) → News h₀ L h'' led → Q .next { s₂ with heap := h'', toks := tk' }) it s₂) E s₁) E s) :
    Hold (wpAny (model prog w) A (exec (.Assign [.Name y py] (.ListComp elt [⟨.Name x px, iter, ifs, 0⟩] scope pos) spos) env) Q E s) :=
  cp_assign hsw hL hclos hcell hkind hnames hx hy hp h hs

theorem tests_nil {env : Env} {Q : Bool → Shared → Prop} (h : Q true s) : wpAny (model prog w) A (testsOf [] env) Q E s := wpAny_tests_nil h
theorem tests_one {env : Env} {c : Expr} {Q : Bool → Shared → Prop} (h : wpAny (model prog w) A (isTrue c env (eval c env)) Q E s) : wpAny (model prog w) A (testsOf [c] env) Q E s := wpAny_tests_one h
theorem Keeps.same {s : Shared} : Keeps s s := ⟨s.heap, s.toks, rfl, fun _ _ e => e⟩
end

/-! ### the letters -/
open Builtin.Str in
theorem item_abc {prog : Program} {w : World} {A : Around} {E : Value → Shared → Prop} {s : Shared} {value slice : Expr} {i : Int} {t u : Tok} {Q : Value → Shared → Prop} (h0 : 0 ≤ i) (h6 : i < 6)
    (h : ∀ t' k, Q (.str (Str.mk #[97 + i.toNat]) t') { s with toks := k })
    (hs : subscripted slice false (.str (Str.ofString "abcdef") t) (.int i u) = operate [.str (Str.ofString "abcdef") t, .int i u] (getItem (.str (Str.ofString "abcdef") t) (.int i u)))
    (ht : ∀ r, letTemporaryGo value (.str (Str.ofString "abcdef") t) r = pure ()) :
    wpAny (model prog w) A (subscriptTail value slice (.str (Str.ofString "abcdef") t) (.int i u)) Q E s := by
  have e : Txt.item (Str.ofString "abcdef") i = Str.mk #[97 + i.toNat] := by
    have : i = 0 ∨ i = 1 ∨ i = 2 ∨ i = 3 ∨ i = 4 ∨ i = 5 := by omega
    rcases this with rfl | rfl | rfl | rfl | rfl | rfl <;> decide +kernel
  have hl : (Str.ofString "abcdef").length = 6 := by decide +kernel
  refine item_str (fitsSsize_of (N := 9223372036854775808) (by omega) (by omega) (Int.le_refl _)) (by rw [hl]; omega) (by rw [hl]; omega) (fun _ => ?_) hs ht
  rw [e]
  exact h _ _

end
section
/-- texts put end to end -/
noncomputable def cat (l : List Str) : Str := ⟨(l.map (·.cps.toList)).flatten.toArray⟩
theorem cat_cps (l : List Str) : (cat l).cps.toList = (l.map (·.cps.toList)).flatten := by simp [cat]
theorem cat_len (l : List Str) : (cat l).length = (l.map (·.length)).sum := by
  show (cat l).cps.size = _
  unfold cat
  simp only [List.size_toArray, List.length_flatten, List.map_map]
  congr 1
theorem join_cat (l : List Str) : Txt.join (Str.ofString "") l = cat l := by
  have e : (Str.ofString "").cps = #[] := by decide +kernel
  have e2 : Str.empty.cps = #[] := by decide +kernel
  have go : ∀ (r : List Str) (a : Array Nat), (r.foldl (fun acc p => acc ++ (Str.ofString "").cps ++ p.cps) a).toList = a.toList ++ (r.map (·.cps.toList)).flatten := by
    intro r
    induction r with
    | nil => intro a; simp
    | cons p r ih =>
      intro a
      rw [List.foldl_cons, ih, e]
      simp
  unfold Txt.join Builtin.Str.glued cat
  congr 1
  apply Array.toList_inj.mp
  rw [go]
  cases l with
  | nil => simp [e2]
  | cons p r => simp
theorem joinOk_cat (l : List Str) (h : (l.map (·.length)).sum ≤ 100000) : JoinOk (Str.ofString "") l = true := by
  have e : (Str.ofString "").length = 0 := by decide +kernel
  have go : ∀ (r : List Str) (a : Nat), r.foldl (fun acc p => acc + p.length + (Str.ofString "").length) a = a + (r.map (·.length)).sum := by
    intro r
    induction r with
    | nil => intro a; simp
    | cons p r ih => intro a; rw [List.foldl_cons, ih, e]; simp; omega
  unfold JoinOk Builtin.Str.tooLong
  have : (l.toArray.foldl (fun x1 x2 => x1 + x2.length + (Str.ofString "").length) 0) = l.foldl (fun acc p => acc + p.length + (Str.ofString "").length) 0 := by simp
  rw [this, go]
  have s : sizeLine = 16777216 := by decide
  simp only [Nat.zero_add, Bool.not_eq_true', decide_eq_false_iff_not, gt_iff_lt, Nat.not_lt]
  omega

section
variable {prog : Program} {w : World} {A : Around} {E : Value → Shared → Prop} {s : Shared} {t : Tok} {Q : Value → Shared → Prop} {h₀ : Heap} {L : Addr} {m : Str → Option Value} {news : List (Addr × Obj)}
theorem join_led {D : Addr} {k : Nat} {ys : List Value} {texts : List Str} (N : News h₀ L s.heap news) (hm : (D, listOf ys.toArray k) ∈ news) (hy : ∃ l, ys = strValues l ∧ l.map (·.1) = texts) (hok : (texts.map (·.length)).sum ≤ 100000)
    (hq : ∀ t' k, Q (.str (cat texts) t') { s with toks := k }) : wpAny (model prog w) A (call (.builtin "str.join") [.str (Str.ofString "") t, .ref D]) Q E s := by
  obtain ⟨l, rfl, hl⟩ := hy
  have hL : s.heap.IsList D (strValues l).toArray := ⟨_, (N _ hm).1, rfl, k, rfl⟩
  refine SC.join hL hl (joinOk_cat _ hok) ?_
  rw [join_cat]
  exact hq
end

/-- a letter, and a letter with its dots -/
noncomputable def letter (k : Int) : Str := Str.mk #[97 + k.toNat]
noncomputable def piece (k : Int) : Str := letter k ++ Str.ofString "..."
noncomputable def wantOf (ks : List Int) : Str := Str.ofString "..." ++ cat (ks.map piece)
noncomputable def foundB (page : Str) (ks : List Int) : Bool := fl page page.length (Str.ofString "" :: (ks.map letter ++ [Str.ofString ""])) 0
theorem letter_len (k : Int) : (letter k).length = 1 := rfl
theorem piece_len (k : Int) : (piece k).length = 4 := by
  have e : (Str.ofString "...").length = 3 := by decide +kernel
  unfold piece
  rw [Str.length_append, e]; rfl

/-! ### cutting a text at its dots -/
noncomputable def dots : List Nat := [46, 46, 46]
noncomputable def gl : List (List Nat) → List Nat
  | [] => []
  | [w] => w
  | w :: v :: r => w ++ dots ++ gl (v :: r)
theorem dots_cps : (Str.ofString "...").cps.toList = dots := by decide +kernel
theorem dots_len : (Str.ofString "...").length = 3 := by decide +kernel

open StrLaws Builtin.Str in
theorem at_dots (x : Str) (c : Nat) : At x (Str.ofString "...") x.length c ↔ c + 3 ≤ x.length ∧ (x.cps.toList.drop c).take 3 = dots := by
  unfold At
  rw [dots_len, subAt_eq, dots_cps, dots_len]
  exact and_congr Iff.rfl ⟨fun h => eq_of_beq h, fun h => by rw [h]; exact beq_self_eq_true _⟩

theorem str_toList {x y : Str} (h : x.cps.toList = y.cps.toList) : x = y := Str.ext' (Array.toList_inj.mp h)
theorem str_len (x : Str) : x.cps.toList.length = x.length := by simp [Str.length]

open StrLaws Builtin.Str in
theorem parts_gl (x : Str) : ∀ (ws : List Str) (a : Nat) (cuts : List Nat) (f : Nat), ws ≠ [] → (∀ w ∈ ws, 46 ∉ w.cps.toList) → x.cps.toList.drop a = gl (ws.map (·.cps.toList)) → a ≤ x.length →
    ChainG x (Str.ofString "...") x.length a cuts f → (∀ k, f ≤ k → ¬ At x (Str.ofString "...") x.length k) → partsFrom x 3 a cuts = ws
  | [], _, _, _, h, _, _, _, _, _ => absurd rfl h
  | [w], a, cuts, f, _, hw, hx, ha, hc, hn => by
    have hx' : x.cps.toList.drop a = w.cps.toList := hx
    cases cuts with
    | nil =>
      show [strSub x a x.length] = [w]
      congr 1
      apply str_toList
      rw [strSub_toList, hx', ← hx', List.take_of_length_le]
      rw [List.length_drop, str_len]; omega
    | cons c r =>
      exfalso
      obtain ⟨h1, h2, _, _⟩ := hc
      obtain ⟨h3, h4⟩ := (at_dots x c).mp h2
      refine hw w (List.mem_singleton.mpr rfl) ?_
      rw [← hx']
      have e : x.cps.toList[c]? = some 46 := by
        have := congrArg (fun l => l[0]?) h4
        simpa [List.getElem?_take, List.getElem?_drop, dots] using this
      have e2 : (x.cps.toList.drop a)[c - a]? = some 46 := by
        rw [List.getElem?_drop, show a + (c - a) = c by omega]; exact e
      exact List.mem_of_getElem? e2
  | w :: v :: r, a, cuts, f, _, hw, hx, ha, hc, hn => by
    have hx' : x.cps.toList.drop a = w.cps.toList ++ (dots ++ gl ((v :: r).map (·.cps.toList))) := by rw [hx]; simp [gl]
    have hlen : x.length = a + (w.length + (3 + (gl ((v :: r).map (·.cps.toList))).length)) := by
      have := congrArg List.length hx'
      rw [List.length_drop, str_len, List.length_append, List.length_append, str_len] at this
      have e : dots.length = 3 := rfl
      omega
    have hat : At x (Str.ofString "...") x.length (a + w.length) := by
      refine (at_dots x _).mpr ⟨by omega, ?_⟩
      rw [← List.drop_drop, hx', List.drop_left' (str_len w)]
      rfl
    cases cuts with
    | nil =>
      have e : f = a := hc
      subst e
      exact absurd hat (hn _ (by omega))
    | cons c q =>
      obtain ⟨h1, h2, h3, h4⟩ := hc
      have hle : c ≤ a + w.length := by
        by_cases hh : c ≤ a + w.length
        · exact hh
        · exact absurd hat (h3 _ (by omega) (by omega))
      have hge : a + w.length ≤ c := by
        by_cases hh : a + w.length ≤ c
        · exact hh
        · exfalso
          obtain ⟨h5, h6⟩ := (at_dots x c).mp h2
          refine hw w (List.mem_cons_self ..) ?_
          have e : x.cps.toList[c]? = some 46 := by
            have := congrArg (fun l => l[0]?) h6
            simpa [List.getElem?_take, List.getElem?_drop, dots] using this
          have e2 : (x.cps.toList.drop a)[c - a]? = some 46 := by
            rw [List.getElem?_drop, show a + (c - a) = c by omega]; exact e
          rw [hx', List.getElem?_append_left (by rw [str_len]; omega)] at e2
          exact List.mem_of_getElem? e2
      have hc' : c = a + w.length := Nat.le_antisymm hle hge
      subst hc'
      show strSub x a (a + w.length) :: partsFrom x 3 (a + w.length + 3) q = w :: v :: r
      congr 1
      · apply str_toList
        rw [strSub_toList, hx', show a + w.length - a = w.length by omega, List.take_left' (str_len w)]
      · refine parts_gl x (v :: r) (a + w.length + 3) q f (by simp) (fun u hu => hw u (List.mem_cons_of_mem _ hu)) ?_ (by omega) (by rw [dots_len] at h4; exact h4) hn
        rw [← List.drop_drop, ← List.drop_drop, hx', List.drop_left' (str_len w), List.drop_left' (by rfl)]

open StrLaws Builtin.Str in
theorem split_gl (x : Str) (w v : Str) (r : List Str) (hw : ∀ u ∈ w :: v :: r, 46 ∉ u.cps.toList) (hx : x.cps.toList = gl ((w :: v :: r).map (·.cps.toList))) :
    Txt.split x (Str.ofString "...") = w :: v :: r ∧ (occurrences x (Str.ofString "...") 0 x.length 1).isEmpty = false := by
  have hx' : x.cps.toList = w.cps.toList ++ (dots ++ gl ((v :: r).map (·.cps.toList))) := by rw [hx]; simp [gl]
  have hlen : x.length = w.length + (3 + (gl ((v :: r).map (·.cps.toList))).length) := by
    have := congrArg List.length hx'
    rw [str_len, List.length_append, List.length_append, str_len] at this
    exact this
  have hat : At x (Str.ofString "...") x.length w.length := by
    refine (at_dots x _).mpr ⟨by omega, ?_⟩
    rw [hx', List.drop_left' (str_len w)]
    rfl
  obtain ⟨f, hG, hn⟩ := occ_tight x (Str.ofString "...") (by rw [dots_len]; decide)
  refine ⟨?_, ?_⟩
  · unfold Txt.split
    rw [if_neg, if_neg, partsBetween_eq, dots_len]
    · exact parts_gl x (w :: v :: r) 0 _ f (by simp) hw (by rw [List.drop_zero]; exact hx) (Nat.zero_le _) hG hn
    · intro he
      have e : occurrences x (Str.ofString "...") 0 x.length (x.length + 1) = [] := List.isEmpty_iff.mp he
      rw [e] at hG
      have e2 : f = 0 := hG
      exact hn w.length (by omega) hat
    · rw [Bool.or_eq_true, decide_eq_true_eq, decide_eq_true_eq, dots_len]
      rintro (h | h)
      · omega
      · have k1 : Builtin.Str.strKind (Str.ofString "...") = 1 := by decide +kernel
        rw [k1] at h
        unfold Builtin.Str.strKind at h
        split at h
        · omega
        · split at h <;> omega
  · have := (found_iff x (Str.ofString "...")).mpr ⟨w.length, hat.1, hat.2⟩
    simpa using this

theorem letter_cps (k : Int) : (letter k).cps.toList = [97 + k.toNat] := rfl
theorem empty_cps : (Str.ofString "").cps.toList = [] := by decide +kernel
theorem piece_cps (k : Int) : (piece k).cps.toList = [97 + k.toNat] ++ dots := by
  unfold piece
  rw [Str.cps_append, Array.toList_append, dots_cps, letter_cps]
theorem wantOf_cps (ks : List Int) : (wantOf ks).cps.toList = dots ++ (ks.map fun k => [97 + k.toNat] ++ dots).flatten := by
  unfold wantOf
  rw [Str.cps_append, Array.toList_append, dots_cps, cat_cps, List.map_map]
  have e : ks.map ((fun x => x.cps.toList) ∘ piece) = ks.map fun k => [97 + k.toNat] ++ dots := List.map_congr_left fun k _ => piece_cps k
  rw [e]
theorem want_gl : ∀ (ks : List Int), dots ++ (ks.map fun k => [97 + k.toNat] ++ dots).flatten = gl ((Str.ofString "" :: (ks.map letter ++ [Str.ofString ""])).map (·.cps.toList)) := by
  have go : ∀ (ks : List Int), (ks.map fun k => [97 + k.toNat] ++ dots).flatten = gl ((ks.map letter ++ [Str.ofString ""]).map (·.cps.toList)) := by
    intro ks
    induction ks with
    | nil => simp [gl, empty_cps]
    | cons k r ih =>
      rw [List.map_cons, List.flatten_cons, ih]
      cases r with
      | nil => simp [gl, empty_cps, letter_cps]
      | cons k2 r2 => simp [gl, letter_cps]
  intro ks
  rw [go ks]
  cases ks with
  | nil => simp [gl, empty_cps]
  | cons k r => simp [gl, empty_cps]
theorem letter_nodot (k : Int) : 46 ∉ (letter k).cps.toList := by
  rw [letter_cps, List.mem_singleton]; omega
theorem want_split3 (x y z : Int) : Txt.split (wantOf [x, y, z]) (Str.ofString "...") = [Str.ofString "", letter x, letter y, letter z, Str.ofString ""] ∧ (Builtin.Str.occurrences (wantOf [x, y, z]) (Str.ofString "...") 0 (wantOf [x, y, z]).length 1).isEmpty = false := by
  refine split_gl _ (Str.ofString "") (letter x) [letter y, letter z, Str.ofString ""] ?_ ((wantOf_cps _).trans (want_gl [x, y, z]))
  intro u hu
  simp only [List.mem_cons, List.not_mem_nil, or_false] at hu
  rcases hu with rfl | rfl | rfl | rfl | rfl <;> first | exact letter_nodot _ | (rw [empty_cps]; exact List.not_mem_nil)
theorem want_split4 (x y z v : Int) : Txt.split (wantOf [x, y, z, v]) (Str.ofString "...") = [Str.ofString "", letter x, letter y, letter z, letter v, Str.ofString ""] ∧ (Builtin.Str.occurrences (wantOf [x, y, z, v]) (Str.ofString "...") 0 (wantOf [x, y, z, v]).length 1).isEmpty = false := by
  refine split_gl _ (Str.ofString "") (letter x) [letter y, letter z, letter v, Str.ofString ""] ?_ ((wantOf_cps _).trans (want_gl [x, y, z, v]))
  intro u hu
  simp only [List.mem_cons, List.not_mem_nil, or_false] at hu
  rcases hu with rfl | rfl | rfl | rfl | rfl | rfl <;> first | exact letter_nodot _ | (rw [empty_cps]; exact List.not_mem_nil)
theorem wantOf_len (ks : List Int) : (wantOf ks).length = 3 + 4 * ks.length := by
  have e : (ks.map fun x => (piece x).length).sum = 4 * ks.length := by
    induction ks with
    | nil => rfl
    | cons k r ih => rw [List.map_cons, List.sum_cons, ih, piece_len, List.length_cons]; omega
  unfold wantOf
  rw [Str.length_append, dots_len, cat_len, List.map_map]
  show 3 + (ks.map fun x => (piece x).length).sum = _
  rw [e]

end
section
section
variable {prog : Program} {w : World} {A : Around} {E : Value → Shared → Prop}
theorem ha_kind : builtinKind "hasattr" = none := by decide +kernel
theorem ha_plain : plainId "hasattr" = true := by decide +kernel
theorem ha_entry : entryFor table "hasattr" = some Builtin.«hasattr» := entryFor_of_fast (by kernel_rfl)
theorem ha_args (a b : Value) : argsOk "hasattr" ⟨[a, b], []⟩ := by
  first | exact rfl | kernel_rfl
theorem lk_gi : typeLookup (.type "list") "__getitem__" = pure (some (.builtin "list.__getitem__")) := by rw [typeLookup_type, builtinLookup_eq_fast]; kernel_rfl
theorem ty_gi : typeOf (.builtin "list.__getitem__") = pure (.type "method_descriptor") := by show builtinType _ = _; rw [builtinType_eq_fast]; kernel_rfl
theorem md_get : typeLookup (.type "method_descriptor") "__get__" = pure (some (.builtin "method_descriptor.__get__")) := by rw [typeLookup_type, builtinLookup_eq_fast]; kernel_rfl
theorem md_set : typeLookup (.type "method_descriptor") "__set__" = pure none := by rw [typeLookup_type, builtinLookup_eq_fast]; kernel_rfl
theorem md_del : typeLookup (.type "method_descriptor") "__delete__" = pure none := by rw [typeLookup_type, builtinLookup_eq_fast]; kernel_rfl
theorem slot_md_get : Slot "method_descriptor" "__get__" "method_descriptor.__get__" :=
  .of (owner := "method_descriptor") (n := "__get__") (by rw [typeLookup_type, builtinLookup_eq_fast]; kernel_rfl) (by decide +kernel) (by decide +kernel) (by decide +kernel)
    (by first | exact .inl (by decide +kernel) | exact .inr (by decide +kernel)) (by rw [isSubtype_type]; kernel_rfl)
theorem entry_md_get : entryFor table "method_descriptor.__get__" = some Builtin.«method_descriptor.__get__» := entryFor_of_tree (by kernel_rfl)
theorem args_md_get (a b c : Value) : argsOk "method_descriptor.__get__" ⟨[a, b, c], []⟩ := by unfold argsOk; kernel_rfl
theorem owner_gi : (".".intercalate ("list.__getitem__".cutAt '.').dropLast) = "list" := by
  first | decide +kernel | rfl
theorem sub_gi : isSubtype (.type "list") (.type (".".intercalate ("list.__getitem__".cutAt '.').dropLast)) = pure true := by
  rw [owner_gi, isSubtype_type]; kernel_rfl
theorem gi_get {R : Result → Shared → Prop} {hp : Heap} {g : Array GenState} {d : Drawn} {tk : Nat} {os : OsState} {l : Addr} {xs : Array Value} {k : Nat} (hx : hp.get? l = some (listOf xs k))
    (hq : ∀ v h' tk', (∀ b o, hp.get? b = some o → h'.get? b = some o) → handedOut v = pure v → R (.ok (.ret v)) ⟨h', g, d, tk', os⟩) :
    codeAny (model prog w) A (.call (.builtin "method_descriptor.__get__") ⟨[.builtin "list.__getitem__", .ref l, .type "list"], []⟩) R ⟨hp, g, d, tk, os⟩ := by
  have hT : ∀ tk', (⟨hp, g, d, tk', os⟩ : Shared).TypeIs (.ref l) "list" := fun _ => ⟨_, hx, rfl⟩
  have f6 := ty_gi
  have f7 := sub_gi
  have hT5 : ∀ tk', (⟨hp, g, d, tk', os⟩ : Shared).TypeIs (.builtin "list.__getitem__") "method_descriptor" := fun _ => f6
  refine codeAny_call_builtin slot_md_get.plain entry_md_get (slot_md_get.check _ _ _ _ _ _ _ _ (hT5 _) (args_md_get _ _ _) ?_)
  unfold Builtin.«method_descriptor.__get__»
  repeat (any_goals (first | with_reducible assumption | (with_reducible exact hT _) | (with_reducible exact hT5 _) | wp_step | dsimp only))
  exact hq _ _ _ (fun b o e => Heap.get?_push_of_some _ e) rfl

theorem gi_attr {R : Result → Shared → Prop} {hp : Heap} {g : Array GenState} {d : Drawn} {tk : Nat} {os : OsState} {l : Addr} {xs : Array Value} {k : Nat} {t : Tok} (hx : hp.get? l = some (listOf xs k))
    (hq : ∀ v h' tk', (∀ b o, hp.get? b = some o → h'.get? b = some o) → handedOut v = pure v → R (.ok (.ret v)) ⟨h', g, d, tk', os⟩) :
    codeAny (model prog w) A (.call (.builtin "list.__getattribute__") ⟨[.ref l, .str (Str.ofString "__getitem__") t], []⟩) R ⟨hp, g, d, tk, os⟩ := by
  have hT : ∀ tk', (⟨hp, g, d, tk', os⟩ : Shared).TypeIs (.ref l) "list" := fun _ => ⟨_, hx, rfl⟩
  have f1 := lk_gi
  refine codeAny_call_builtin F.slot_list_getattribute.plain am_entry_list_getattribute (F.slot_list_getattribute.check _ _ _ _ _ _ _ _ (hT _) (F.args_list_getattribute_2 _ _) ?_)
  unfold Builtin.«object.__getattribute__»
  have f6 := ty_gi
  have f7 := md_get
  have f8 := md_set
  have f9 := md_del
  repeat (any_goals (first | with_reducible assumption | (with_reducible exact hT _) | ((with_reducible show codeAny _ _ (Code.call (Value.builtin "method_descriptor.__get__") _) _ _); refine gi_get hx fun v h' tk' k e => ?_) | wp_step | dsimp only))
  exact hq _ _ _ k e

theorem hasattr_list {hp : Heap} {g : Array GenState} {d : Drawn} {tk : Nat} {os : OsState} {l : Addr} {xs : Array Value} {k : Nat} {t : Tok} {Q : Value → Shared → Prop} (hx : hp.get? l = some (listOf xs k))
    (hq : ∀ h' tk', (∀ b o, hp.get? b = some o → h'.get? b = some o) → Q (.bool true) ⟨h', g, d, tk', os⟩) :
    wpAny (model prog w) A (call (.builtin "hasattr") [.ref l, .str (Str.ofString "__getitem__") t]) Q E ⟨hp, g, d, tk, os⟩ := by
  have hT : ∀ tk', (⟨hp, g, d, tk', os⟩ : Shared).TypeIs (.ref l) "list" := fun _ => ⟨_, hx, rfl⟩
  refine Calls.call_function_entry ha_kind ha_plain ha_entry (ha_args _ _) ?_
  unfold Builtin.«hasattr»
  have f1 := lk_gi
  have f3 := F.slot_list_getattribute.lookup
  have f4 := F.slot_list_getattribute.bind (.ref l)
  have f5 : isSubtype (.type "list") (.type "module") = pure false := by rw [isSubtype_type]; kernel_rfl
  repeat (any_goals (first | with_reducible assumption | (with_reducible exact hT _) | ((with_reducible show codeAny _ _ (Code.call (Value.builtin "list.__getattribute__") _) _ _); refine gi_attr hx fun v h' tk' k e => ?_) | wp_step | dsimp only))
  exact ⟨_, rfl, hq _ _ k⟩
end

end
section
/-! ### loops over a name, with the tokens' lower bound; no exception comes out -/
section
variable {prog : Program} {w : World} {A : Around} {s : Shared} {env : Env} {h₀ : Heap} {x : Str} {px : Pos} {body : List Stmt} {Q : Flow → Shared → Prop}

abbrev LoopK (prog : Program) (w : World) (A : Around) (env : Env) (x : Str) (px : Pos) (body : List Stmt) (Q : Flow → Shared → Prop) (it : Value) (s₂ : Shared) : Prop :=
  codeAny (model prog w) A (.forLoop (.Name x px) it body [] env) (fun r s' => match r with | .ok f => Q f s' | .error e => cameBackBy (model prog w) A env (fun _ _ => False) e s') s₂

theorem For_K {iter : Expr} {pos : Pos} (h : wpAny (model prog w) A (eval iter env) (fun xv s₁ => wpAny (model prog w) A (pyIter xv) (fun it s₂ => LoopK prog w A env x px body Q it s₂) (fun _ _ => False) s₁) (fun _ _ => False) s)
    (hs : ∀ x, foldedSetIterable iter env x = pure x) : Hold (wpAny (model prog w) A (exec (.For (.Name x px) iter body [] pos) env) Q (fun _ _ => False) s) := wpAny_For h hs

theorem lk_core {T : Nat} {I : Addr} {fp : List Addr} {n : Nat} {P : Nat → Value → Prop} {St : Nat → Heap → Prop} {m₀ : Str → Option Value} {news : List (Addr × Obj)} (keep : List (Addr × Obj))
    (J : Nat → (Str → Option Value) → List (Addr × Obj) → Prop)
    (W : WK prog w A T I fp n P St) (hT : T ≤ s.toks) (hx : env.kindOf x = some .local) (hp : (env.scope.kind == .class || (env.scope.kind == .module && env.locals != env.globals)) = false)
    (hfp : ∀ b ∈ fp, b = I ∨ (∃ q, h₀.get? b = some q) ∨ ∃ o, (b, o) ∈ keep) (hI0 : h₀.get? I = none)
    (hLf : env.locals ∉ fp) (hnw : ∀ p ∈ news, p.1 ≠ I) (hst : St 0 s.heap) (F : Fr h₀ env.locals s.heap m₀) (N : News h₀ env.locals s.heap news)
    (hJk : ∀ i m news, J i m news → ∀ p ∈ keep, p ∈ news) (hj : J 0 m₀ news)
    (turn : ∀ i v m₁ news₁ h tk o, T ≤ tk → i < n → P i v → J i m₁ news₁ → (∀ p ∈ news₁, p.1 ≠ I) → Fr h₀ env.locals h (fun y => if y = x then some v else m₁ y) → News h₀ env.locals h ((I, o) :: news₁) →
      wpAny (model prog w) A (execs body env) (LEnd h₀ env.locals (I, o) (J (i + 1)) { s with heap := h, toks := tk } Q) (fun _ _ => False) { s with heap := h, toks := tk })
    (done : ∀ m₁ news₁ h tk, T ≤ tk → J n m₁ news₁ → Fr h₀ env.locals h m₁ → News h₀ env.locals h news₁ → Q .next { s with heap := h, toks := tk }) :
    LoopK prog w A env x px body Q (.ref I) s := by
  have hLI : env.locals ≠ I := fun h => hLf (h ▸ W.mem)
  refine codeAny_forLoop_any (fun k s' => ∃ h' tk m' news' i, s' = { s with heap := h', toks := tk } ∧ St i h' ∧ Fr h₀ env.locals h' m' ∧ News h₀ env.locals h' news' ∧ (∀ p ∈ news', p.1 ≠ I) ∧ J i m' news' ∧ i ≤ n ∧ k = n + 1 - i ∧ T ≤ tk) ?_ (n + 1)
    ⟨s.heap, s.toks, m₀, news, 0, rfl, hst, F, N, hnw, hj, Nat.zero_le _, rfl, hT⟩
  intro k s' hJ0_2
  refine hide fun hG9 => ?_
  obtain ⟨h', tk, m', news', i, rfl, hst', F', N', hnw', hJ, hi, rfl, htk⟩ := hJ0_2
  refine hG9 ?_
  clear hG9
  have next : ∀ h₁ : Heap, (∀ b o, b ≠ I → h'.get? b = some o → h₁.get? b = some o) → Fr h₀ env.locals h₁ m' ∧ News h₀ env.locals h₁ news' := fun h₁ hk₁ =>
    ⟨⟨F'.ns.at' fun o e => hk₁ _ o hLI e, fun b o e => hk₁ b o (fun q => by rw [q, hI0] at e; cases e) (F'.keep b o e), F'.above⟩, fun p hp => ⟨hk₁ _ _ (hnw' p hp) (N' p hp).1, (N' p hp).2⟩⟩
  by_cases hlt : i < n
  · refine W.item i _ _ _ hlt hst' htk fun v h₁ tk₁ hP ht₁ hst₁ hk₁ => ?_
    obtain ⟨F₁, N₁⟩ := next h₁ hk₁
    show wpAny _ A (pure ()) _ _ _
    refine wpAny_pure (wpAny_assign_Name (wpAny_storeName_local hx F₁.ns (fun h₂ hn₂ hs₂ => ?_) hp))
    have F₂ := F₁.set hn₂ hs₂
    have N₂ := N₁.set hs₂
    have hst₂ : St (i + 1) h₂ := W.frame _ _ _ hst₁ fun b hb o e => (hs₂.2 b fun q => hLf (q ▸ hb)).trans e
    obtain ⟨oI, hoI⟩ := W.live _ _ hst₂
    have NI : News h₀ env.locals h₂ ((I, oI) :: news') := fun p hp => by
      rcases List.mem_cons.mp hp with rfl | hp
      · exact ⟨hoI, Ne.symm hLI, hI0⟩
      · exact N₂ p hp
    refine wpAny_mono (wpAny_toks_of (n := T) (Nat.le_succ_of_le ht₁) (turn i v m' news' h₂ _ oI (Nat.le_succ_of_le ht₁) hlt hP hJ hnw' F₂ NI)) (fun f s₃ q => ?_) fun _ _ e => e.2.elim
    obtain ⟨ht₃, q⟩ := q
    have fin : (∃ h' tk m' news', s₃ = { s with heap := h', toks := tk } ∧ Fr h₀ env.locals h' m' ∧ News h₀ env.locals h' ((I, oI) :: news') ∧ (∀ p ∈ news', p.1 ≠ I) ∧ J (i + 1) m' news') →
        ∃ mm, mm < n + 1 - i ∧ ∃ h' tk m' news' i, s₃ = { s with heap := h', toks := tk } ∧ St i h' ∧ Fr h₀ env.locals h' m' ∧ News h₀ env.locals h' news' ∧ (∀ p ∈ news', p.1 ≠ I) ∧ J i m' news' ∧ i ≤ n ∧ mm = n + 1 - i ∧ T ≤ tk := by
      intro hJ1_0
      refine hide fun hG9 => ?_
      obtain ⟨hA, tkA, mA, nA, e, FA, NA, hnA, hJA⟩ := hJ1_0
      refine hG9 ?_
      clear hG9
      subst e
      refine ⟨n + 1 - (i + 1), by omega, hA, tkA, mA, nA, i + 1, rfl, ?_, FA, fun p hp => NA p (List.mem_cons_of_mem _ hp), hnA, hJA, hlt, rfl, ht₃⟩
      refine W.frame _ _ _ hst₂ fun b hb o e => ?_
      rcases hfp b hb with rfl | ⟨z, hz⟩ | ⟨o', ho'⟩
      · have := (NA _ (List.mem_cons_self ..)).1
        rw [← hoI] at this
        exact this.trans e
      · have h1 := F₂.keep b z hz
        have h2 : z = o := Option.some.inj (h1.symm.trans e)
        exact h2 ▸ FA.keep b z hz
      · have h1 := (N₂ _ (hJk _ _ _ hJ _ ho')).1
        have h2 : o' = o := Option.some.inj (h1.symm.trans e)
        exact h2 ▸ (NA _ (List.mem_cons_of_mem _ (hJk _ _ _ hJA _ ho'))).1
    cases f with
    | ret v => exact q
    | brk => exact q
    | next => obtain ⟨hA, tkA, mA, nA, e, r⟩ := q; exact fin ⟨hA, tkA, mA, nA, e, r⟩
    | cont => obtain ⟨hA, tkA, mA, nA, e, r⟩ := q; exact fin ⟨hA, tkA, mA, nA, e, r⟩
  · have hin : i = n := by omega
    subst hin
    refine W.done _ _ _ hst' htk fun h₁ tk₁ ht₁ hk₁ => wpAny_execs_nil ?_
    obtain ⟨F₁, N₁⟩ := next h₁ hk₁
    exact done m' news' h₁ tk₁ ht₁ hJ F₁ N₁

theorem lk_list {T : Nat} (hT : T ≤ s.toks) {l : Addr} {vs : List Value} {m₀ : Str → Option Value} {news : List (Addr × Obj)} (keep : List (Addr × Obj)) (J : Nat → (Str → Option Value) → List (Addr × Obj) → Prop)
    (hh : A.handled = none) (hx : env.kindOf x = some .local) (hp : (env.scope.kind == .class || (env.scope.kind == .module && env.locals != env.globals)) = false)
    (hl : s.heap.IsList l vs.toArray) (hb : (∃ q, h₀.get? l = some q) ∨ (l ≠ env.locals ∧ ∃ o, (l, o) ∈ keep)) (F : Fr h₀ env.locals s.heap m₀) (N : News h₀ env.locals s.heap news)
    (hJk : ∀ i m news, J i m news → ∀ p ∈ keep, p ∈ news) (hj : J 0 m₀ news)
    (turn : ∀ i v m₁ news₁ h tk I o, T ≤ tk → vs[i]? = some v → J i m₁ news₁ → (∀ p ∈ news₁, p.1 ≠ I) → Fr h₀ env.locals h (fun y => if y = x then some v else m₁ y) → News h₀ env.locals h ((I, o) :: news₁) →
      wpAny (model prog w) A (execs body env) (LEnd h₀ env.locals (I, o) (J (i + 1)) { s with heap := h, toks := tk } Q) (fun _ _ => False) { s with heap := h, toks := tk })
    (done : ∀ m₁ news₁ h tk, T ≤ tk → J vs.length m₁ news₁ → Fr h₀ env.locals h m₁ → News h₀ env.locals h news₁ → Q .next { s with heap := h, toks := tk }) :
    wpAny (model prog w) A (pyIter (.ref l)) (fun it s₂ => LoopK prog w A env x px body Q it s₂) (fun _ _ => False) s := by
  refine hide fun hG9 => ?_
  obtain ⟨ol, hol, _⟩ := id hl
  refine hG9 ?_
  clear hG9
  have hls : l < s.heap.objs.size := Heap.lt_size hol
  refine wpAny_pyIter_list hl ?_
  have W := WK.list (prog := prog) (w := w) (T := T) hh s.heap.objs.size l (Nat.ne_of_lt hls) vs.toArray
  have hlen : vs.toArray.size = vs.length := by simp
  rw [hlen] at W
  refine lk_core (s := { s with heap := s.heap.push _ }) keep J W hT hx hp ?_ (next_is_new F) ?_ ?_ ⟨⟨_, Heap.get?_push_size _ rfl, rfl, rfl⟩, hl.at fun o e => Heap.get?_push_of_some _ e⟩ (F.push _) (fun p hp => ⟨Heap.get?_push_of_some _ (N p hp).1, (N p hp).2⟩) hJk hj ?_ ?_
  · intro b hb'
    rcases List.mem_cons.mp hb' with e | hb'
    · exact .inl e
    · rw [List.mem_singleton.mp hb']
      exact .inr (hb.imp id And.right)
  · intro hm
    rcases List.mem_cons.mp hm with e | hm
    · exact absurd F.ns.lt (e ▸ Nat.lt_irrefl _)
    · have e := List.mem_singleton.mp hm
      rcases hb with ⟨q, hq⟩ | hb
      · exact absurd (Nat.lt_of_lt_of_le (Heap.lt_size hq) F.above) (e ▸ Nat.lt_irrefl _)
      · exact hb.1 e.symm
  · intro p hp e
    exact absurd (Heap.lt_size (N p hp).1) (e ▸ Nat.lt_irrefl _)
  · intro i v m₁ news₁ h tk o ht hi hP hJ hoff F₁ N₁
    exact turn i v m₁ news₁ h tk _ o ht (by simpa using hP) hJ hoff F₁ N₁
  · exact done

theorem lk_range {T : Nat} (hT : T ≤ s.toks) {r : Addr} {a₀ b₀ : Int} {t₀ u₀ v₀ : Tok} {n : Nat} {m₀ : Str → Option Value} {news : List (Addr × Obj)} (J : Nat → (Str → Option Value) → List (Addr × Obj) → Prop)
    (hh : A.handled = none) (hx : env.kindOf x = some .local) (hp : (env.scope.kind == .class || (env.scope.kind == .module && env.locals != env.globals)) = false)
    (hr : IsRange s.heap r a₀ b₀ 1 t₀ u₀ v₀) (hsmall : Builtin.Range.small a₀ b₀ 1 = true) (hn : Builtin.Range.rangeSize a₀ b₀ 1 = (n : Int)) (F : Fr h₀ env.locals s.heap m₀) (N : News h₀ env.locals s.heap news)
    (hj : J 0 m₀ news)
    (turn : ∀ i t m₁ news₁ h tk I o, T ≤ tk → i < n → J i m₁ news₁ → (∀ p ∈ news₁, p.1 ≠ I) → Fr h₀ env.locals h (fun y => if y = x then some (.int (a₀ + (i : Nat)) t) else m₁ y) → News h₀ env.locals h ((I, o) :: news₁) →
      wpAny (model prog w) A (execs body env) (LEnd h₀ env.locals (I, o) (J (i + 1)) { s with heap := h, toks := tk } Q) (fun _ _ => False) { s with heap := h, toks := tk })
    (done : ∀ m₁ news₁ h tk, T ≤ tk → J n m₁ news₁ → Fr h₀ env.locals h m₁ → News h₀ env.locals h news₁ → Q .next { s with heap := h, toks := tk }) :
    wpAny (model prog w) A (pyIter (.ref r)) (fun it s₂ => LoopK prog w A env x px body Q it s₂) (fun _ _ => False) s := by
  refine wpAny_pyIter_range hr hsmall ?_
  have W := WK.range (prog := prog) (w := w) (T := T) hh s.heap.objs.size a₀ n
  refine lk_core (s := { s with heap := s.heap.push _ }) [] J W hT hx hp (fun b hb => .inl (List.mem_singleton.mp hb)) (next_is_new F) ?_ ?_ (by show IsRangeIter _ _ _ _ _; rw [hn]; simpa using Heap.get?_push_size _ rfl) (F.push _) (fun p hp => ⟨Heap.get?_push_of_some _ (N p hp).1, (N p hp).2⟩) (fun _ _ _ _ p hp => nomatch hp) hj ?_ ?_
  · intro hm
    exact absurd F.ns.lt ((List.mem_singleton.mp hm) ▸ Nat.lt_irrefl _)
  · intro p hp e
    exact absurd (Heap.lt_size (N p hp).1) (e ▸ Nat.lt_irrefl _)
  · intro i v m₁ news₁ h tk o ht hi hJ3_9 hJ hoff F₁ N₁
    refine hide fun hG9 => ?_
    obtain ⟨t, _, rfl⟩ := hJ3_9
    refine hG9 ?_
    clear hG9
    exact turn i t m₁ news₁ h tk _ o ht hi hJ hoff F₁ N₁
  · exact done
end

end
section
/-! ### what a frame is known to hold; the ledger behind a call -/
noncomputable def ovr : List (Str × Value) → (Str → Option Value) → Str → Option Value
  | [], m, y => m y
  | p :: r, m, y => if y = p.1 then some p.2 else ovr r m y
noncomputable def Kn : List (Str × Value) → (Str → Option Value) → Prop
  | [], _ => True
  | p :: r, m => m p.1 = some p.2 ∧ Kn r m
theorem Kn.ovr {m : Str → Option Value} : ∀ {l : List (Str × Value)}, Kn l m → Mine.ovr l m = m
  | [], _ => rfl
  | p :: r, h => by
    funext y
    show (if y = p.1 then some p.2 else Mine.ovr r m y) = m y
    by_cases e : y = p.1
    · rw [if_pos e, e, h.1]
    · rw [if_neg e, Kn.ovr h.2]
section
variable {h₀ h h' : Heap} {L : Addr} {m : Str → Option Value} {news : List (Addr × Obj)} {l : List (Str × Value)} {x : Str} {v : Value}
theorem Fr.kn (F : Fr h₀ L h m) (k : Kn l m) : Fr h₀ L h (fun y => ovr l m y) := by
  have e := k.ovr
  show Fr h₀ L h (ovr l m)
  rw [e]; exact F
theorem Fr.knX (F : Fr h₀ L h (fun y => if y = x then some v else m y)) (k : Kn l m) : Fr h₀ L h (fun y => if y = x then some v else ovr l m y) := by
  rw [k.ovr]; exact F
theorem News.lst {a : Addr} {xs : Array Value} {k : Nat} (N : News h₀ L h news) (hm : (a, listOf xs k) ∈ news) : h.IsList a xs := ⟨_, (N _ hm).1, rfl, _, rfl⟩
theorem News.born {a : Addr} {o : Obj} (F : Fr h₀ L h m) (N : News h₀ L h news) (G : ∀ b o, h.get? b = some o → h'.get? b = some o) (hn : h.get? a = none) (hg : h'.get? a = some o) : News h₀ L h' ((a, o) :: news) := fun p hp => by
  rcases List.mem_cons.mp hp with rfl | hp
  · refine ⟨hg, fun e => ?_, F.noneBack hn⟩
    obtain ⟨o', _, _, ho, _⟩ := F.ns
    rw [← e, hn] at ho; cases ho
  · exact ⟨G _ _ (N p hp).1, (N p hp).2⟩
theorem News.off {a : Addr} (N : News h₀ L h news) (hn : h.get? a = none) : ∀ p ∈ news, p.1 ≠ a := fun p hp e => by
  have := (N p hp).1
  rw [e, hn] at this; cases this
theorem Fr.but {a : Addr} (F : Fr h₀ L h m) (hL : a ≠ L) (h0 : h₀.get? a = none) (k : ∀ b o, b ≠ a → h.get? b = some o → h'.get? b = some o) : Fr h₀ L h' m :=
  ⟨F.ns.at' fun o e => k _ o (Ne.symm hL) e, fun b o e => k b o (fun q => by rw [q, h0] at e; cases e) (F.keep b o e), F.above⟩
theorem News.but {a : Addr} {o o' : Obj} {rest : List (Addr × Obj)} (N : News h₀ L h news) (hm : (a, o) ∈ news) (k : ∀ b o, b ≠ a → h.get? b = some o → h'.get? b = some o) (ho : h'.get? a = some o') (hr : ∀ p ∈ rest, p ∈ news ∧ p.1 ≠ a) : News h₀ L h' ((a, o') :: rest) := fun p hp => by
  rcases List.mem_cons.mp hp with rfl | hp
  · exact ⟨ho, (N _ hm).2⟩
  · exact ⟨k _ _ (hr p hp).2 (N p (hr p hp).1).1, (N p (hr p hp).1).2⟩
theorem News.one {a : Addr} {o : Obj} (N : News h₀ L h news) (hm : (a, o) ∈ news) : News h₀ L h [(a, o)] := fun p hp => by
  rw [List.mem_singleton.mp hp]; exact N _ hm
theorem News.two {a b : Addr} {o o' : Obj} (N : News h₀ L h news) (hm : (a, o) ∈ news) (hm' : (b, o') ∈ news) : News h₀ L h [(a, o), (b, o')] := fun p hp => by
  rcases List.mem_cons.mp hp with rfl | hp
  · exact N _ hm
  · rw [List.mem_singleton.mp hp]; exact N _ hm'
theorem News.three {a b c : Addr} {o o' o'' : Obj} (N : News h₀ L h news) (hm : (a, o) ∈ news) (hm' : (b, o') ∈ news) (hm'' : (c, o'') ∈ news) : News h₀ L h [(a, o), (b, o'), (c, o'')] := fun p hp => by
  rcases List.mem_cons.mp hp with rfl | hp
  · exact N _ hm
  · exact News.two N hm' hm'' p hp
end

section
variable {prog : Program} {w : World} {A : Around} {Q : Flow → Shared → Prop} {s : Shared} {env : Env} {h₀ : Heap} {L : Addr}
theorem While_K {test : Expr} {body : List Stmt} {pos : Pos} {m : Str → Option Value} {news : List (Addr × Obj)} (J : Nat → (Str → Option Value) → List (Addr × Obj) → Prop) (n₀ : Nat)
    (F : Fr h₀ L s.heap m) (N : News h₀ L s.heap news) (hJ : J n₀ m news)
    (turn : ∀ n m₁ news₁ h₁ tk₁, Fr h₀ L h₁ m₁ → News h₀ L h₁ news₁ → J n m₁ news₁ →
      wpAny (model prog w) A (isTrue test env (eval test env)) (fun b s₂ =>
        if b = true then wpAny (model prog w) A (execs body env) (WhileStep h₀ L s J n) (fun _ _ => False) s₂ else Q .next s₂) (fun _ _ => False) { s with heap := h₁, toks := tk₁ }) :
    Hold (wpAny (model prog w) A (exec (.While test body [] pos) env) Q (fun _ _ => False) s) :=
  While_inv (n₀ := n₀) J F N hJ turn PassesOwn.never
end

section
variable {prog : Program} {w : World} {A : Around} {E : Value → Shared → Prop} {s : Shared}
theorem ne_nil {a b : Addr} {vs : List Value} {x : Value} {ns : List Int} {Q : Value → Shared → Prop} (hl : s.heap.IsList a (vs ++ [x]).toArray) (hi : IntsAre (vs ++ [x]) ns) (hl' : s.heap.IsList b #[]) (hu : A.units + 64 < cLine)
    (h : Q (.bool true) s) : wpAny (model prog w) A (compareOp .NotEq (.ref a) (.ref b)) Q E s := by
  refine ne_intsK (us := []) (ms := []) hl hi hl' .nil hu ?_
  have : ns ≠ [] := by
    rintro rfl
    have := hi.length
    simp at this
  rw [decide_eq_false this]
  exact h
theorem ne_nil0 {a b : Addr} {Q : Value → Shared → Prop} (hl : s.heap.IsList a #[]) (hl' : s.heap.IsList b #[]) (hu : A.units + 64 < cLine)
    (h : Q (.bool false) s) : wpAny (model prog w) A (compareOp .NotEq (.ref a) (.ref b)) Q E s :=
  ne_intsK (vs := []) (us := []) (ns := []) (ms := []) hl .nil hl' .nil hu h
end
theorem decT {b : Bool} {p : Prop} [Decidable p] (h : b = decide p) (h' : b = true) : p := of_decide_eq_true (h ▸ h')
theorem decF {b : Bool} {p : Prop} [Decidable p] (h : b = decide p) (h' : b = false) : ¬ p := of_decide_eq_false (h ▸ h')
theorem eqT {b c : Bool} (h : b = c) (h' : b = true) : c = true := h ▸ h'
theorem eqF {b c : Bool} (h : b = c) (h' : b = false) : c = false := h ▸ h'

end
section
/-! ### lists of pairs in the ledger; ends of turns by filters -/
section
variable {h₀ h : Heap} {L I : Addr} {o : Obj} {m' : Str → Option Value} {news : List (Addr × Obj)} {Jn : (Str → Option Value) → List (Addr × Obj) → Prop} {s₁ : Shared} {tk : Nat} {Q : Flow → Shared → Prop}
noncomputable def butI (I : Addr) (news : List (Addr × Obj)) : List (Addr × Obj) := news.filter fun p => decide (p.1 ≠ I)
theorem mem_butI {p : Addr × Obj} (h : p ∈ news) (hn : p.1 ≠ I) : p ∈ butI I news := List.mem_filter.mpr ⟨h, decide_eq_true hn⟩
theorem lendF (F : Fr h₀ L h m') (N : News h₀ L h news) (hI : (I, o) ∈ news) (hj : Jn m' (butI I news)) : LEnd h₀ L (I, o) Jn s₁ Q .next { s₁ with heap := h, toks := tk } :=
  ⟨h, tk, m', butI I news, rfl, F, (fun p hp => by
    rcases List.mem_cons.mp hp with rfl | hp
    · exact N _ hI
    · exact N p (List.mem_filter.mp hp).1), (fun p hp => of_decide_eq_true (List.mem_filter.mp hp).2), hj⟩
theorem lendC (F : Fr h₀ L h m') (N : News h₀ L h news) (hI : (I, o) ∈ news) (hj : Jn m' (butI I news)) : LEnd h₀ L (I, o) Jn s₁ Q .cont { s₁ with heap := h, toks := tk } := lendF (Q := Q) F N hI hj
end

abbrev tupOf (its : Array Value) : Obj := { cls := .type "tuple", data := .seq its }
theorem lbrk {h₀ : Heap} {L : Addr} {io : Addr × Obj} {Jn : (Str → Option Value) → List (Addr × Obj) → Prop} {s₁ s₂ : Shared} {Q : Flow → Shared → Prop} (h : Q .next s₂) : LEnd h₀ L io Jn s₁ Q .brk s₂ := h
inductive PairsL (nl : List (Addr × Obj)) : List Value → List (Int × Int) → Prop
  | nil : PairsL nl [] []
  | cons {a : Addr} {x z : Int} {tx tz : Tok} {vs ps} (h : (a, tupOf #[.int x tx, .int z tz]) ∈ nl) (r : PairsL nl vs ps) : PairsL nl (.ref a :: vs) ((x, z) :: ps)
theorem PairsL.mono {nl nl' : List (Addr × Obj)} (hs : ∀ q ∈ nl, q ∈ nl') : ∀ {vs ps}, PairsL nl vs ps → PairsL nl' vs ps
  | _, _, .nil => .nil
  | _, _, .cons h r => .cons (hs _ h) (r.mono hs)
theorem PairsL.snoc {nl : List (Addr × Obj)} {a : Addr} {x z : Int} {tx tz : Tok} (h : (a, tupOf #[.int x tx, .int z tz]) ∈ nl) : ∀ {vs ps}, PairsL nl vs ps → PairsL nl (vs ++ [.ref a]) (ps ++ [(x, z)])
  | _, _, .nil => .cons h .nil
  | _, _, .cons h' r => .cons h' (r.snoc h)
inductive PairsIn (h : Heap) : List Value → List (Int × Int) → Prop
  | nil : PairsIn h [] []
  | cons {a : Addr} {x z : Int} {tx tz : Tok} {vs ps} (k : IsTup h a #[.int x tx, .int z tz]) (r : PairsIn h vs ps) : PairsIn h (.ref a :: vs) ((x, z) :: ps)
theorem PairsL.inn {h₀ h : Heap} {L : Addr} {nl news : List (Addr × Obj)} (N : News h₀ L h news) (hs : ∀ q ∈ nl, q ∈ news) : ∀ {vs ps}, PairsL nl vs ps → PairsIn h vs ps
  | _, _, .nil => .nil
  | _, _, .cons h r => .cons (News.isTup N (hs _ h)) (r.inn N hs)
theorem PairsIn.keeps {h h' : Heap} (k : ∀ b o, h.get? b = some o → h'.get? b = some o) : ∀ {vs ps}, PairsIn h vs ps → PairsIn h' vs ps
  | _, _, .nil => .nil
  | _, _, .cons x r => .cons (IsTup.keeps x k) (r.keeps k)
theorem PairsIn.length {h : Heap} : ∀ {vs ps}, PairsIn h vs ps → vs.length = ps.length
  | _, _, .nil => rfl
  | _, _, .cons _ r => congrArg (· + 1) r.length

/-- the list, its tuples and the iterators above, apart from one another -/
structure AccN (Is : List (Addr × Obj)) (K : Addr) (ps : List (Int × Int)) (news : List (Addr × Obj)) : Prop where
  ex : ∃ its kk nl, (K, listOf its.toArray kk) ∈ news ∧ (∀ q ∈ nl, q ∈ news ∧ q.1 ≠ K ∧ ∀ p ∈ Is, q.1 ≠ p.1) ∧ PairsL nl its ps
  its : ∀ p ∈ Is, p ∈ news ∧ p.1 ≠ K
theorem AccN.push {I : Addr} {o : Obj} {Is news : List (Addr × Obj)} {K : Addr} {ps : List (Int × Int)} (x : AccN Is K ps news) (hn : ∀ p ∈ news, p.1 ≠ I) : AccN ((I, o) :: Is) K ps ((I, o) :: news) := by
  obtain ⟨⟨its, kk, nl, hK, hnl, hp⟩, hi⟩ := x
  refine ⟨⟨its, kk, nl, List.mem_cons_of_mem _ hK, fun q hq => ⟨List.mem_cons_of_mem _ (hnl q hq).1, (hnl q hq).2.1, fun p hp => ?_⟩, hp⟩, fun p hp => ?_⟩
  · rcases List.mem_cons.mp hp with rfl | hp
    · exact hn q (hnl q hq).1
    · exact (hnl q hq).2.2 p hp
  · rcases List.mem_cons.mp hp with rfl | hp
    · exact ⟨List.mem_cons_self .., fun e => hn _ hK e.symm⟩
    · exact ⟨List.mem_cons_of_mem _ (hi p hp).1, (hi p hp).2⟩
theorem AccN.pop {I : Addr} {o : Obj} {Is news : List (Addr × Obj)} {K : Addr} {ps : List (Int × Int)} (x : AccN ((I, o) :: Is) K ps news) (hI : ∀ p ∈ Is, p.1 ≠ I) : AccN Is K ps (butI I news) := by
  obtain ⟨⟨its, kk, nl, hK, hnl, hp⟩, hi⟩ := x
  refine ⟨⟨its, kk, nl, mem_butI hK fun e => (hi _ (List.mem_cons_self ..)).2 e.symm, fun q hq => ⟨mem_butI (hnl q hq).1 ((hnl q hq).2.2 _ (List.mem_cons_self ..)), (hnl q hq).2.1, fun p hp => (hnl q hq).2.2 p (List.mem_cons_of_mem _ hp)⟩, hp⟩, fun p hp => ?_⟩
  exact ⟨mem_butI (hi p (List.mem_cons_of_mem _ hp)).1 (hI p hp), (hi p (List.mem_cons_of_mem _ hp)).2⟩
theorem AccN.up {Is news news' : List (Addr × Obj)} {K : Addr} {ps : List (Int × Int)} (x : AccN Is K ps news) (hs : ∀ q ∈ news, q ∈ news') : AccN Is K ps news' := by
  obtain ⟨⟨its, kk, nl, hK, hnl, hp⟩, hi⟩ := x
  exact ⟨⟨its, kk, nl, hs _ hK, fun q hq => ⟨hs _ (hnl q hq).1, (hnl q hq).2⟩, hp⟩, fun p hp => ⟨hs _ (hi p hp).1, (hi p hp).2⟩⟩
section
variable {prog : Program} {w : World} {A : Around} {E : Value → Shared → Prop} {s : Shared} {Q : Value → Shared → Prop} {h₀ : Heap} {L : Addr} {m : Str → Option Value} {news : List (Addr × Obj)}
theorem AllLt.lt {D : Addr} : ∀ {news : List (Addr × Obj)}, AllLt D news → ∀ p ∈ news, p.1 < D
  | [], _, _, hp => nomatch hp
  | _ :: _, h, p, hp => by
    rcases List.mem_cons.mp hp with rfl | hp
    · exact h.1
    · exact AllLt.lt h.2 p hp
theorem acc_append {Is nl news₃ : List (Addr × Obj)} {K T : Addr} {its : List Value} {kk : Nat} {ps : List (Int × Int)} {x z : Int} {tx tz : Tok} (F : Fr h₀ L s.heap m) (N : News h₀ L s.heap news) (hsub : ∀ q ∈ news₃, q ∈ news) (hKm : (K, listOf its.toArray kk) ∈ news₃)
    (hnl : ∀ q ∈ nl, q ∈ news₃ ∧ q.1 ≠ K ∧ ∀ p ∈ Is, q.1 ≠ p.1) (hpl : PairsL nl its ps) (hIs : ∀ p ∈ Is, p ∈ news₃ ∧ p.1 ≠ K) (hT : (T, tupOf #[.int x tx, .int z tz]) ∈ news) (hTn : ∀ q ∈ news₃, q.1 < T) (hlen : ps.length ≤ 1000)
    (h : ∀ h' news', Fr h₀ L h' m → News h₀ L h' news' → AccN Is K (ps ++ [(x, z)]) news' → Q .none { s with heap := h' }) : wpAny (model prog w) A (call (.builtin "list.append") [.ref K, .ref T]) Q E s := by
  have hKn := N _ (hsub _ hKm)
  have hTK : T ≠ K := fun e => absurd (hTn _ hKm) (e ▸ Nat.lt_irrefl _)
  have hplen : its.length = ps.length := (PairsL.inn N (fun q hq => hsub q (hnl q hq).1) hpl).length
  have hz : its.toArray.size ≤ sizeLine := by
    have e : sizeLine = 16777216 := by decide
    simp only [List.size_toArray]; omega
  refine wpAny_list_append_plain (hsz := hz) ⟨kk, hKn.1⟩ fun h' hl hs => ?_
  obtain ⟨k', hl⟩ := hl
  have hl' : h'.get? K = some (listOf (its ++ [Value.ref T]).toArray k') := by simpa using hl
  have keep : ∀ b o, b ≠ K → s.heap.get? b = some o → h'.get? b = some o := fun b o hb e => hs.extBut b o hb e
  refine h h' ((K, listOf (its ++ [Value.ref T]).toArray k') :: butI K news) (Fr.but F hKn.2.1 hKn.2.2 keep)
    (News.but N (hsub _ hKm) keep hl' fun p hp => ⟨(List.mem_filter.mp hp).1, of_decide_eq_true (List.mem_filter.mp hp).2⟩) ⟨⟨its ++ [Value.ref T], k', nl ++ [(T, tupOf #[.int x tx, .int z tz])], List.mem_cons_self .., ?_, ?_⟩, ?_⟩
  · intro q hq
    rcases List.mem_append.mp hq with hq | hq
    · exact ⟨List.mem_cons_of_mem _ (mem_butI (hsub _ (hnl q hq).1) (hnl q hq).2.1), (hnl q hq).2⟩
    · rw [List.mem_singleton.mp hq]
      exact ⟨List.mem_cons_of_mem _ (mem_butI hT hTK), hTK, fun p hp e => absurd (hTn p (hIs p hp).1) (e ▸ Nat.lt_irrefl _)⟩
  · exact (hpl.mono fun q hq => List.mem_append_left _ hq).snoc (List.mem_append_right _ (List.mem_singleton.mpr rfl))
  · intro p hp
    exact ⟨List.mem_cons_of_mem _ (mem_butI (hsub _ (hIs p hp).1) (hIs p hp).2), (hIs p hp).2⟩
end

end
section
/-! ### defs with cells, entered with the tokens' bound; bounds kept over statements -/
section
variable {prog : Program} {w : World} {A₀ A : Around} {s : Shared} {base h₀ : Heap} {outer : List Env} {L : Addr} {m mg mb : Str → Option Value} {env : Env} {K : Frag} {p : Program} {loose : List Str} {mean : ExcName → Option Value}
  {name qual : Str} {params : Arguments} {body : List Stmt} {scope : Scope} {dV kV doc pm cdv ct oc : Value} {an od : Option Addr} {osl : Array (Option Value)} {f : Addr} {vals : List Value} {binds : List (Str × Value)} {Q E : Value → Shared → Prop}
theorem kc_enterT (B : Below A₀ base outer h₀) (F : Fr h₀ L s.heap m) (X₀ : K.In h₀) (T : Top p loose mean mg mb h₀) (hA : A.frames = some (env :: outer)) (hf : env.frame = some L) (hke : env.scope.kind = .function)
    (ho : K.lookup f = some ⟨oc, od, .func (fnOf name qual params body scope dV kV doc pm an cdv ct), osl⟩) (hcd : codeIn K cdv qual = true) (hroom : A.depth < recursionLimit)
    (hbind : BindsTo s (fnOf name qual params body scope dV kV doc pm an cdv ct) ⟨vals, []⟩ binds) (hkind : (binds.all fun y => scope.names.lookup y.1 == some .local || scope.names.lookup y.1 == some .cell) = true)
    (hnd : ((cellsFrom 0 scope.names []).map (·.1)).Nodup)
    (h : ∀ g L' h₁ tk cells, s.toks ≤ tk → HasG s.heap g → Fr g L' h₁ (bindL (envOfC qual scope L' f cdv).kindOf binds fun _ => none) → News g L' h₁ cells →
      CellsAre (bindC (envOfC qual scope L' f cdv).kindOf binds fun _ => none) (cellsFrom (L' + 1) scope.names []) cells → Below A base (env :: outer) g → K.In g → Top p loose mean mg mb g →
      wpAny (model prog w) (A.deeper (envOfC qual scope L' f cdv)) (execs body (envOfC qual scope L' f cdv))
        (fun fl s' => Q (match fl with | .ret v => v | _ => .none) s') (fun _ _ => False) { s with heap := h₁, toks := tk })
    (hco : scope.isCoroutine = false) (hgen : scope.isGenerator = false) (hk : scope.kind = .function) : wpAny (model prog w) A (call (.ref f) vals) Q E s := by
  refine wpAny_call ?_
  have N : News h₀ L s.heap [] := News.nil
  obtain ⟨FG, BG, st, _⟩ := groundX (R := fun _ _ => True) B F N hA hf hke
  refine codeAny_call_function hroom ((X₀.keeps F.keep) _ _ ho) rfl hco hgen rfl (codeRec_of (X₀.keeps F.keep) hcd) (hbind _ _ _ _ ?_)
  refine wpAny_mono (wpAny_toks_of (n := s.toks) (Nat.le_refl _) (wpAny_newFunctionEnv_cells (Q := fun env' s' => env' = _ ∧ InCallC s env'.locals (bindL env'.kindOf binds fun _ => none) env'.cells (bindC env'.kindOf binds fun _ => none) s') hk ((kindsX hkind) _)
    fun env' he s' x => ⟨he, x⟩)) (fun env' s' q => ?_) fun _ _ e => e.2
  obtain ⟨ht, he, x⟩ := q
  subst he
  refine ⟨(T.nolimit.keeps F.keep).keeps x.toInCall.keep, codeAny_func ?_⟩
  obtain ⟨h₁, tk, rfl, _⟩ := x.done
  have hk₁ := x.toInCall.keep
  obtain ⟨cells, NC, Y⟩ := Cl.news (h₀ := s.heap) (Nat.le_refl _) fun n c hm => ⟨x.cell n c (lookup_of_mem_nodup (cellsFrom_names scope.names 0 (s.heap.objs.size + 1) [] [] rfl ▸ hnd) hm), x.above n c hm⟩
  exact wpAny_mono (h s.heap s.heap.objs.size h₁ tk cells ht (fun b o e => e) ⟨x.toInCall.ns, fun b o e => hk₁ b o e, Nat.le_refl _⟩ NC Y BG (X₀.keeps st) (T.keeps st)) (fun fl s' hl => hl) fun _ _ y => y.elim
end
section
variable {prog : Program} {w : World} {A : Around} {s : Shared} {env : Env} {Q : Flow → Shared → Prop} {E : Value → Shared → Prop}
theorem execs_T {T : Nat} {st : Stmt} {rest : List Stmt} (hT : T ≤ s.toks) (h : wpAny (model prog w) A (exec st env) (fun f s' => T ≤ s'.toks → match f with | .next => wpAny (model prog w) A (execs rest env) Q E s' | f => Q f s') E s) :
    wpAny (model prog w) A (execs (st :: rest) env) Q E s :=
  wpAny_execs_cons (wpAny_mono (wpAny_toks_of hT h) (fun f s' q => q.2 q.1) fun _ _ e => e.2)
end

end
section
/-! ### a comprehension of two clauses over names -/
theorem compTurn_two (elt it1 it2 t1 t2 : Expr) (ifs : List Expr) (scope : Scope) (pos : Pos) (it acc : Value) (env : Env) :
    compTurn (.ListComp elt [⟨t1, it1, [], 0⟩, ⟨t2, it2, ifs, 0⟩] scope pos) 0 it acc env = (do
      standAt it1.pos
      match ← pyNext it with
      | none => pure (.done .next)
      | some v =>
        letOwnedTupleGo t1 it v
        assign t1 env v
        let x ← eval it2 env
        standAt it2.pos
        let x ← foldedSetIterable it2 env x
        let _ ← runOwn (.compStart (.ListComp elt [⟨t1, it1, [], 0⟩, ⟨t2, it2, ifs, 0⟩] scope pos) 1 (← holding [x] (pyIter x)) acc env) env
        again (.compLoop (.ListComp elt [⟨t1, it1, [], 0⟩, ⟨t2, it2, ifs, 0⟩] scope pos) 0 it acc env)) := by
  unfold compTurn
  rfl
section
variable {prog : Program} {w : World} {A : Around} {R : Result → Shared → Prop} {s : Shared}
theorem compStart_two {elt it1 it2 t1 t2 : Expr} {ifs : List Expr} {scope : Scope} {pos : Pos} {it acc : Value} {env : Env}
    (h0 : codeAny (model prog w) A (.compLoop (.ListComp elt [⟨t1, it1, [], 0⟩, ⟨t2, it2, ifs, 0⟩] scope pos) 1 it acc env) R s)
    (h : wpAny (model prog w) A (pyIter it) (fun it' s' => codeAny (model prog w) A (.compLoop (.ListComp elt [⟨t1, it1, [], 0⟩, ⟨t2, it2, ifs, 0⟩] scope pos) 1 it' acc env) R s')
      (notedBy (model prog w) A env fun x s' => R (.error x) s') s) :
    codeAny (model prog w) A (.compStart (.ListComp elt [⟨t1, it1, [], 0⟩, ⟨t2, it2, ifs, 0⟩] scope pos) 1 it acc env) R s := by
  refine codeAny_of_tree ?_
  show wpAny _ _ ((compStart (.ListComp elt [⟨t1, it1, [], 0⟩, ⟨t2, it2, ifs, 0⟩] scope pos) 1 it acc env).onRaise (fun x => do noteFrame x env; standAt theWindowsPlace)) _ _ s
  refine wpAny_notedAt ?_
  unfold compStart
  show wpAny _ _ (ask >>= _) _ _ s
  refine wpAny_bind (wpAny_askSetting (wpAny_ite ?_))
  split
  · first
      | exact wpAny_bind (wpAny_pure (wpAny_pure (And.intro rfl h0)))
      | exact wpAny_pure (And.intro rfl h0)
  · refine wpAny_bind (wpAny_rule ?_)
    show wpAny _ _ (standAt it2.pos >>= _) _ _ s
    exact wpAny_bind (wpAny_standAt (wpAny_bind (wpAny_mono h (fun it' s' h' => wpAny_pure (And.intro rfl h')) fun _ _ x => x)))

theorem cl_outer {elt it1 it2 t1 t2 : Expr} {ifs : List Expr} {scope : Scope} {pos : Pos} {it acc : Value} {env : Env} (Iv : Nat → Shared → Prop)
    (turn : ∀ n s, Iv n s → wpAny (model prog w) A (pyNext it) (fun r s₁ => match r with
      | none => R (.ok .next) s₁
      | some v => wpAny (model prog w) A (assign t1 env v) (fun _ s₂ => wpAny (model prog w) A (eval it2 env) (fun x s₃ => wpAny (model prog w) A (pyIter x) (fun i2 s₄ =>
          codeAny (model prog w) A (.compStart (.ListComp elt [⟨t1, it1, [], 0⟩, ⟨t2, it2, ifs, 0⟩] scope pos) 1 i2 acc env) (fun r s' => match r with | .ok _ => ∃ m, m < n ∧ Iv m s' | .error _ => False) s₄)
          (fun _ _ => False) s₃) (fun _ _ => False) s₂) (fun _ _ => False) s₁) (fun _ _ => False) s)
    (n : Nat) (h : Iv n s) (ht : ∀ v, letOwnedTupleGo t1 it v = pure ()) (hs : ∀ x, foldedSetIterable it2 env x = pure x) :
    codeAny (model prog w) A (.compLoop (.ListComp elt [⟨t1, it1, [], 0⟩, ⟨t2, it2, ifs, 0⟩] scope pos) 0 it acc env) R s := by
  refine codeAny_loop rfl Iv (fun n s hI => ?_) n h
  show wpAny _ A ((compTurn (.ListComp elt [⟨t1, it1, [], 0⟩, ⟨t2, it2, ifs, 0⟩] scope pos) 0 it acc env).onRaise (fun x => do noteFrame x env; theTreesLotGoes x)) _ _ s
  refine wpAny_noted ?_
  rw [compTurn_two]
  refine wpAny_bind (wpAny_standAt (wpAny_bind (wpAny_mono (turn n s hI) (fun r s₁ h₁ => ?_) fun _ _ h' => h'.elim)))
  cases r with
  | none => exact wpAny_pure h₁
  | some v =>
    refine wpAny_bind (wpAny_of_eq (ht v) ?_)
    refine wpAny_bind (wpAny_mono h₁ (fun _ s₂ h₂ => ?_) fun _ _ h' => h'.elim)
    refine wpAny_bind (wpAny_mono h₂ (fun x s₃ h₃ => ?_) fun _ _ h' => h'.elim)
    refine wpAny_bind (wpAny_standAt ?_)
    refine wpAny_bind (wpAny_of_eq (hs x) ?_)
    refine wpAny_bind (wpAny_holding (wpAny_mono h₃ (fun i2 s₄ h₄ => ?_) fun _ _ h' => h'.elim))
    refine wpAny_bind (wpAny_runOwn ?_)
    refine codeAny_mono h₄ fun r s' q => ?_
    cases r with
    | ok f => exact wpAny_pure ⟨rfl, q⟩
    | error e => exact q.elim
end
/-- the turn of two clauses -/
abbrev CTurn2 (prog : Program) (w : World) (A : Around) (h₀ : Heap) (L : Addr) (m : Str → Option Value) (news : List (Addr × Obj)) (env : Env) (scope : Scope) (cl : List (Str × Addr)) (x z : Str) (ifs : List Expr) (elt : Expr) (n : Nat) (P : Nat → Value → Prop)
    (J : Nat → Nat → List Value → List (Addr × Obj) → Prop) (s₂ : Shared) : Prop :=
  ∀ C i j v t ys nl h tk m₁ E', i < n → j < 6 → P i v → J i j ys nl → m₁ x = some v → m₁ z = some (.int (j : Nat) t) → h.Ns C m₁ → Fr h₀ L h m → News h₀ L h news → (∀ q ∈ nl, h.get? q.1 = some q.2) →
    wpAny (model prog w) A (testsOf ifs (compEnvC scope cl C env)) (TestPost prog w A elt (compEnvC scope cl C env) E' h (J i (j + 1)) ys nl { s₂ with heap := h, toks := tk }) E' { s₂ with heap := h, toks := tk }
/-- the second source is range(6) -/
abbrev Src2 (prog : Program) (w : World) (A : Around) (h₀ : Heap) (L : Addr) (m : Str → Option Value) (news : List (Addr × Obj)) (env : Env) (scope : Scope) (cl : List (Str × Addr)) (it2 : Expr) (s₂ : Shared) : Prop :=
  ∀ C h tk m₁, h.Ns C m₁ → Fr h₀ L h m → News h₀ L h news →
    wpAny (model prog w) A (eval it2 (compEnvC scope cl C env)) (fun xv s₃ => Keeps { s₂ with heap := h, toks := tk } s₃ ∧ ∃ r t u v, xv = .ref r ∧ IsRange s₃.heap r 0 6 1 t u v) (fun _ _ => False) { s₂ with heap := h, toks := tk }

section
variable {prog : Program} {w : World} {A : Around} {E : Value → Shared → Prop} {env : Env} {h₀ : Heap} {L : Addr} {m : Str → Option Value} {news : List (Addr × Obj)}
theorem cp_block2 {T : Nat} {elt it1 it2 : Expr} {x z : Str} {px pz : Pos} {ifs : List Expr} {scope : Scope} {cl : List (Str × Addr)} {pos : Pos} {s₂ : Shared} {I : Addr} {fp : List Addr} {n : Nat} {P : Nat → Value → Prop} {St : Nat → Heap → Prop}
    (hh : A.handled = none) (W : WK prog w A T I fp n P St) (hT : T ≤ s₂.toks) (J : Nat → Nat → List Value → List (Addr × Obj) → Prop) {RR : Value → Addr → Result → Shared → Prop}
    (hcell : ∀ y ∈ scope.names, y.2 ≠ .cell) (hkind : scope.kind = .function) (hx : scope.names.lookup x = some .local) (hz : scope.names.lookup z = some .local) (hxz : x ≠ z) (hst : St 0 s₂.heap) (hfp : ∀ b ∈ fp, b < s₂.heap.objs.size)
    (F : Fr h₀ L s₂.heap m) (N : News h₀ L s₂.heap news) (hI0 : h₀.get? I = none) (hIL : I ≠ L) (hIN : ∀ p ∈ news, p.1 ≠ I)
    (hj : J 0 0 [] []) (hJ6 : ∀ i ys nl, J i 6 ys nl → J (i + 1) 0 ys nl) (hlen : ∀ i j ys nl, J i j ys nl → ys.length ≤ 100000)
    (src2 : Src2 prog w A h₀ L m news env scope cl it2 s₂) (hfs : ∀ C x, foldedSetIterable it2 (compEnvC scope cl C env) x = pure x)
    (turn : CTurn2 prog w A h₀ L m news env scope cl x z ifs elt n P J s₂)
    (hRR : ∀ D C h' tk m' ys nl, s₂.heap.objs.size ≤ D → s₂.heap.get? D = none → s₂.heap.get? C = none → D ≠ C → h'.Ns C m' → h'.PlainList D ys.toArray → J n 0 ys nl →
      (∀ b o, b ≠ I → s₂.heap.get? b = some o → h'.get? b = some o) → (∀ q ∈ nl, h'.get? q.1 = some q.2 ∧ q.1 ≠ C ∧ q.1 ≠ I ∧ q.1 ≠ D) → (∀ q ∈ nl, s₂.heap.get? q.1 = none) → RR (.ref D) C (.ok .next) { s₂ with heap := h', toks := tk }) :
    wpAny (model prog w) A (newList []) (fun acc s₃ => wpAny (model prog w) A (newFunctionEnv scope env.globals cl [] env.qual none .none (some env)) (fun cenv s₄ =>
      codeAny (model prog w) A (.compStart (.ListComp elt [⟨.Name x px, it1, [], 0⟩, ⟨.Name z pz, it2, ifs, 0⟩] scope pos) 0 (.ref I) acc { cenv with scope := relabel scope env }) (RR acc cenv.locals) s₄) E s₃) E s₂ := by
  refine wpAny_newObj_type (wpAny_newFunctionEnv hcell (by intro y hy; simp at hy) (fun h₁ hns₁ hsb₁ => ?_) hkind)
  dsimp only at hns₁ hsb₁ ⊢
  generalize hH2 : s₂.heap.push { cls := .type "list", dict := none, data := .seq ([] : List Value).toArray } = H2 at hns₁ hsb₁ ⊢
  have hC : H2.objs.size = s₂.heap.objs.size + 1 := by rw [← hH2, Heap.size_push]
  have hDC : s₂.heap.objs.size ≠ H2.objs.size := by rw [hC]; exact Nat.ne_of_lt (Nat.lt_succ_self _)
  have below : ∀ b, b < s₂.heap.objs.size → b ≠ H2.objs.size ∧ b ≠ s₂.heap.objs.size := fun b hb => ⟨by rw [hC]; exact Nat.ne_of_lt (Nat.lt_succ_of_lt hb), Nat.ne_of_lt hb⟩
  have hDf : s₂.heap.objs.size ∉ fp := fun hm => Nat.lt_irrefl _ (hfp _ hm)
  have hCf : H2.objs.size ∉ fp := fun hm => by have := hfp _ hm; rw [hC] at this; exact Nat.lt_irrefl _ (Nat.lt_of_succ_lt this)
  have old : ∀ b o, s₂.heap.get? b = some o → h₁.get? b = some o := fun b o e => hsb₁.extBut b o (below b (Heap.lt_size e)).1 (Heap.get?_push_of_some _ (hH2 ▸ Heap.get?_push_of_some _ e))
  have hacc : h₁.PlainList s₂.heap.objs.size ([] : List Value).toArray := ⟨_, hsb₁.extBut _ _ hDC (Heap.get?_push_of_some _ (hH2 ▸ Heap.get?_push_size _ rfl))⟩
  have hst₁ : St 0 h₁ := W.frame _ _ _ hst fun b _ o e => old b o e
  have fresh : ∀ a, s₂.heap.objs.size ≤ a → s₂.heap.get? a = none := fun a ha => by
    cases e : s₂.heap.get? a with
    | none => rfl
    | some o' => exact absurd (Heap.lt_size e) (Nat.not_lt.mpr ha)
  have hDn := fresh _ (Nat.le_refl _)
  have hCn := fresh H2.objs.size (by rw [hC]; exact Nat.le_succ _)
  have hFr : ∀ h : Heap, (∀ b o, b ≠ I → s₂.heap.get? b = some o → h.get? b = some o) → Fr h₀ L h m := fun h k => ⟨F.ns.at' fun o e => k _ o (Ne.symm hIL) e, fun b o e => k b o (fun q => by rw [q, hI0] at e; cases e) (F.keep b o e), F.above⟩
  have hNw : ∀ h : Heap, (∀ b o, b ≠ I → s₂.heap.get? b = some o → h.get? b = some o) → News h₀ L h news := fun h k p hp => ⟨k _ _ (hIN p hp) (N p hp).1, (N p hp).2⟩
  have hCI : H2.objs.size ≠ I := fun h => hCf (h ▸ W.mem)
  have hDI : s₂.heap.objs.size ≠ I := fun h => hDf (h ▸ W.mem)
  have kb : ∀ {ys nl mm h} (_ : CIn s₂.heap [I] s₂.heap.objs.size H2.objs.size ys nl mm h), ∀ b o, b ≠ I → s₂.heap.get? b = some o → h.get? b = some o :=
    fun c b o hb e => c.kept b o (below b (Heap.lt_size e)).1 (fun hm => hb (List.mem_singleton.mp hm)) (below b (Heap.lt_size e)).2 e
  generalize s₂.heap.objs.size = D at *
  generalize H2.objs.size = C at *
  have loop : ∀ s₃ : Shared, s₃ = { s₂ with heap := h₁, toks := s₂.toks + ([] : List (Str × Value)).length } →
      codeAny (model prog w) A (.compLoop (.ListComp elt [⟨.Name x px, it1, [], 0⟩, ⟨.Name z pz, it2, ifs, 0⟩] scope pos) 0 (.ref I) (.ref D) (compEnvC scope cl C env)) (RR (.ref D) C) s₃ := by
    rintro s₃ rfl
    refine cl_outer (fun k s' => ∃ h tk m' ys nl i, s' = { s₂ with heap := h, toks := tk } ∧ St i h ∧ CIn s₂.heap [I] D C ys nl m' h ∧ J i 0 ys nl ∧ (∀ q ∈ nl, s₂.heap.get? q.1 = none) ∧ i ≤ n ∧ k = n + 1 - i ∧ T ≤ tk) ?_ (n + 1)
      ⟨h₁, _, _, [], [], 0, rfl, hst₁, ⟨hacc, hns₁, fun b o _ _ _ e => old b o e, fun q hq => nomatch hq⟩, hj, (fun q hq => nomatch hq), Nat.zero_le _, rfl, Nat.le_trans hT (Nat.le_add_right _ _)⟩ (fun _ => rfl) (hfs C)
    intro k s' hJ0_2
    refine hide fun hG9 => ?_
    obtain ⟨h, tk, m', ys, nl, i, rfl, hst', hci, hJ, hnl, hi, rfl, htk⟩ := hJ0_2
    refine hG9 ?_
    clear hG9
    by_cases hlt : i < n
    · refine W.item i _ _ _ hlt hst' htk fun v h₂ tk₂ hPv ht₂ hst₂ hk₂ => ?_
      have hns₂ : h₂.Ns C m' := hci.ns.at' fun o e => hk₂ _ o hCI e
      refine wpAny_assign_Name (wpAny_storeName_local (lookup_relabel_local hx) hns₂ (fun h₃ hn₃ hs₃ => ?_) (by simp [compEnvC, relabel, hkind]))
      replace hs₃ : Heap.SameBut C h₂ h₃ := hs₃
      have up : ∀ b o, b ≠ C → b ≠ I → h.get? b = some o → h₃.get? b = some o := fun b o hbC hbI e => hs₃.extBut b o hbC (hk₂ b o hbI e)
      have hst₃ : St (i + 1) h₃ := W.frame _ _ _ hst₂ fun b hb o e => hs₃.extBut b o (fun q => hCf (q ▸ hb)) e
      have hc₃ : CIn s₂.heap [I] D C ys nl (fun y => if y = x then some v else m' y) h₃ :=
        ⟨hci.acc.at fun o e => up D o hDC hDI e, hn₃, fun b o q1 q2 q3 e => up b o q1 (fun q => q2 (q ▸ List.mem_singleton.mpr rfl)) (hci.kept b o q1 q2 q3 e),
          fun q hq => ⟨up _ _ (hci.made q hq).2.1 (fun e => (hci.made q hq).2.2.1 (e ▸ List.mem_singleton.mpr rfl)) (hci.made q hq).1, (hci.made q hq).2⟩⟩
      refine wpAny_mono (wpAny_toks_of (n := T) (Nat.le_succ_of_le ht₂) (src2 C h₃ _ _ hn₃ (hFr _ (kb hc₃)) (hNw _ (kb hc₃)))) (fun xv s₄ q => ?_) fun _ _ e => e.2
      refine hide fun hG9 => ?_
      obtain ⟨ht₄, ⟨h₄, tk₄, rfl, hk₄⟩, r, t, u, v', rfl, hr⟩ := q
      refine hG9 ?_
      clear hG9
      refine wpAny_pyIter_range hr (by decide) ?_
      have hc₄ := hc₃.grow hk₄
      have hst₄ : St (i + 1) h₄ := W.frame _ _ _ hst₃ fun b _ o e => hk₄ b o e
      have fr4 : ∀ b, (∃ o, h₄.get? b = some o) → b ≠ h₄.objs.size := fun b ⟨o, e⟩ q => absurd (Heap.lt_size e) (q ▸ Nat.lt_irrefl _)
      have hCS : C ≠ h₄.objs.size := fr4 _ (let ⟨o, _, _, ho, _⟩ := hc₄.ns; ⟨o, ho⟩)
      have hDS : D ≠ h₄.objs.size := fr4 _ (let ⟨_, ho⟩ := hc₄.acc; ⟨_, ho⟩)
      have hIS : I ≠ h₄.objs.size := fr4 _ (W.live _ _ hst₄)
      have hfS : ∀ b ∈ fp, b ≠ h₄.objs.size := fun b hb q => by
        obtain ⟨_, ho⟩ := hc₄.acc
        have h1 := Heap.lt_size ho
        have h2 := hfp b hb
        rw [q] at h2
        exact absurd (Nat.lt_trans h1 h2) (Nat.lt_irrefl _)
      have hS0 : s₂.heap.get? h₄.objs.size = none := by
        cases e : s₂.heap.get? h₄.objs.size with
        | none => rfl
        | some o => exact absurd rfl (fr4 _ ⟨o, kb hc₄ _ _ (Ne.symm hIS) e⟩)
      have hnS : ∀ q ∈ nl, q.1 ≠ h₄.objs.size := fun q hq => fr4 _ ⟨_, (hc₄.made q hq).1⟩
      have push : ∀ (ob : Obj) b o, h₄.get? b = some o → (h₄.push ob).get? b = some o := fun ob b o e => Heap.get?_push_of_some _ e
      have hn6 : Builtin.Range.rangeSize 0 6 1 = ((6 : Nat) : Int) := by decide
      suffices key : ∀ ob, IsRangeIter (h₄.push ob) h₄.objs.size (0 + ((0 : Nat) : Int)) (((6 : Nat) : Int) - ((0 : Nat) : Int)) 1 →
          codeAny (model prog w) A (.compStart (.ListComp elt [⟨.Name x px, it1, [], 0⟩, ⟨.Name z pz, it2, ifs, 0⟩] scope pos) 1 (.ref h₄.objs.size) (.ref D) (compEnvC scope cl C env))
            (fun r s' => match r with | .ok _ => ∃ mm, mm < n + 1 - i ∧ ∃ h tk m' ys nl i, s' = { s₂ with heap := h, toks := tk } ∧ St i h ∧ CIn s₂.heap [I] D C ys nl m' h ∧ J i 0 ys nl ∧ (∀ q ∈ nl, s₂.heap.get? q.1 = none) ∧ i ≤ n ∧ mm = n + 1 - i ∧ T ≤ tk | .error _ => False)
            { s₂ with heap := h₄.push ob, toks := tk₄ } from
        key _ (by show IsRangeIter _ _ _ _ _; rw [hn6]; simpa using Heap.get?_push_size _ rfl)
      intro ob hri
      have loop2 : ∀ s' : Shared, s' = { s₂ with heap := h₄.push ob, toks := tk₄ } →
          codeAny (model prog w) A (.compLoop (.ListComp elt [⟨.Name x px, it1, [], 0⟩, ⟨.Name z pz, it2, ifs, 0⟩] scope pos) 1 (.ref h₄.objs.size) (.ref D) (compEnvC scope cl C env))
            (fun r s' => match r with | .ok _ => ∃ mm, mm < n + 1 - i ∧ ∃ h tk m' ys nl i, s' = { s₂ with heap := h, toks := tk } ∧ St i h ∧ CIn s₂.heap [I] D C ys nl m' h ∧ J i 0 ys nl ∧ (∀ q ∈ nl, s₂.heap.get? q.1 = none) ∧ i ≤ n ∧ mm = n + 1 - i ∧ T ≤ tk | .error _ => False) s' := by
        rintro s' rfl
        refine cl_core (T := T) (cenv := compEnvC scope cl C env) (iter := it2) (px := pz) (ifs := ifs) (b₀ := s₂.heap) (off := [h₄.objs.size, I]) (m := fun y => if y = x then some v else m' y) (ys₀ := ys) (nl₀ := nl) (Live := fun h => St (i + 1) h) (J := fun j ys nl => J i j ys nl ∧ ∀ q ∈ nl, s₂.heap.get? q.1 = none)
          (Jm := fun m => m x = some v) (by rfl) (WK.range hh h₄.objs.size 0 6) ht₄ (lookup_relabel_local hz) (by simp [compEnvC, relabel, hkind]) (fun q => ?_) (fun hm => hDS (List.mem_singleton.mp hm)) (fun hm => hCS (List.mem_singleton.mp hm)) (List.mem_cons_self ..)
          ?_ ?_ ?_ hri ?_ ⟨hJ, hnl⟩ (if_pos rfl) (fun m v' hm => ?_) (fun j ys nl h => hlen i j ys nl h.1) ?_ ?_
        · exact hDC q
        · exact fun h h' st k => W.frame _ _ _ st fun b hb o e => k b o (fun q => hCf ((show b = C from q) ▸ hb)) (hfS b hb) (fun q => hDf (q ▸ hb)) e
        · exact W.frame _ _ _ hst₄ fun b _ o e => push _ b o e
        · intro b hb hne h st
          rcases List.mem_cons.mp hb with rfl | hb
          · exact absurd rfl hne
          · rw [List.mem_singleton.mp hb]; exact W.live _ _ st
        · have hc₅ := hc₄.grow (push ob)
          exact ⟨hc₅.acc, hc₅.ns, fun b o q1 q2 q3 e => hc₅.kept b o q1 (fun hm => q2 (List.mem_cons_of_mem _ hm)) q3 e, fun q hq => ⟨(hc₅.made q hq).1, (hc₅.made q hq).2.1, fun hm => by
            rcases List.mem_cons.mp hm with e | hm
            · exact hnS q hq e
            · exact (hc₅.made q hq).2.2.1 hm, (hc₅.made q hq).2.2.2⟩⟩
        · show (if x = z then some v' else m x) = some v
          rw [if_neg hxz]; exact hm
        · rintro j vz ys' nl' h6 tk6 m6 E' _ hj6 ⟨tz, _, rfl⟩ hJ' hm hmz hc6 hst6 ⟨oS, hoS⟩
          rw [Int.zero_add] at hmz
          have hk6 : ∀ b o, b ≠ I → s₂.heap.get? b = some o → h6.get? b = some o := fun b o hb e =>
            hc6.kept b o (fun q => by rw [show b = C from q, hCn] at e; cases e) (fun hm => by
              rcases List.mem_cons.mp hm with q | hm
              · rw [q, hS0] at e; cases e
              · exact hb (List.mem_singleton.mp hm)) (fun q => by rw [q, hDn] at e; cases e) e
          refine wpAny_mono (turn C i j v tz ys' nl' h6 tk6 m6 E' hlt hj6 hPv hJ'.1 hm hmz hc6.ns (hFr h6 hk6) (hNw h6 hk6) fun q hq => (hc6.made q hq).1) (fun ok s₅ h₅ => ?_) fun _ _ e => e
          replace h₅ : Keeps { s₂ with heap := h6, toks := tk6 } s₅ ∧ if ok = true then wpAny (model prog w) A (eval elt (compEnvC scope cl C env)) (EltPost h6 (J i (j + 1)) ys' nl' s₅) E' s₅ else J i (j + 1) ys' nl' := h₅
          refine ⟨h₅.1, ?_⟩
          cases ok with
          | false =>
            have := h₅.2
            simp only [Bool.false_eq_true, if_false] at this ⊢
            exact ⟨this, hJ'.2⟩
          | true =>
            have h₇ := h₅.2
            simp only [if_true] at h₇ ⊢
            refine wpAny_mono h₇ (fun y s₈ h₈ => ?_) fun _ _ e => e
            refine hide fun hG9 => ?_
            obtain ⟨k₈, nl'', hn'', hJ''⟩ := h₈
            refine hG9 ?_
            clear hG9
            refine ⟨k₈, nl'', hn'', hJ'', fun q hq => ?_⟩
            rcases List.mem_append.mp hq with hq | hq
            · exact hJ'.2 q hq
            · cases e : s₂.heap.get? q.1 with
              | none => rfl
              | some o =>
                by_cases hqI : q.1 = I
                · have hz' := (hn'' q hq).1
                  obtain ⟨o', ho'⟩ := W.live _ _ hst6
                  rw [hqI, ho'] at hz'
                  exact absurd hz' (fun x => nomatch x)
                · exact absurd ((hn'' q hq).1.symm.trans (hk6 _ _ hqI e)) (fun x => nomatch x)
        · rintro h' tk' m'' ys' nl' ht' hc' _ hst' ⟨hJ', hnl'⟩
          refine ⟨n + 1 - (i + 1), by omega, h', tk', m'', ys', nl', i + 1, rfl, hst', ⟨hc'.acc, hc'.ns, fun b o q1 q2 q3 e => hc'.kept b o q1 (fun hm => ?_) q3 e, fun q hq => ⟨(hc'.made q hq).1, (hc'.made q hq).2.1, fun hm => (hc'.made q hq).2.2.1 (List.mem_cons_of_mem _ hm), (hc'.made q hq).2.2.2⟩⟩, hJ6 _ _ _ hJ', hnl', hlt, rfl, ht'⟩
          rcases List.mem_cons.mp hm with q | hm
          · rw [q, hS0] at e; cases e
          · exact q2 hm
      exact compStart_two (loop2 _ rfl) ((WK.range (prog := prog) (w := w) (T := T) hh h₄.objs.size 0 6).self 0 _ _ _ hri (loop2 _ rfl))
    · have hin : i = n := by omega
      subst hin
      refine W.done _ _ _ hst' htk fun h₂ tk₂ ht₂ hk₂ => ?_
      refine hRR _ _ h₂ tk₂ m' ys nl (Nat.le_refl _) hDn hCn hDC (hci.ns.at' fun o e => hk₂ _ o hCI e) (hci.acc.at fun o e => hk₂ _ o hDI e) hJ (fun b o hb e => hk₂ _ _ hb (kb hci b o hb e)) (fun q hq => ?_) hnl
      have hqI : q.1 ≠ I := fun e => (hci.made q hq).2.2.1 (e ▸ List.mem_singleton.mpr rfl)
      exact ⟨hk₂ _ _ hqI (hci.made q hq).1, (hci.made q hq).2.1, hqI, (hci.made q hq).2.2.2⟩
  exact codeAny_compStart_list (loop _ rfl) (W.self 0 _ _ _ hst₁ (loop _ rfl))
end
section
variable {prog : Program} {w : World} {A : Around} {E : Value → Shared → Prop} {env : Env} {h₀ : Heap} {L : Addr} {m : Str → Option Value} {s : Shared}
noncomputable def CompAt2 (prog : Program) (w : World) (A : Around) (h₀ : Heap) (L : Addr) (m : Str → Option Value) (env : Env) (scope : Scope) (cl : List (Str × Addr)) (x z : Str) (ifs : List Expr) (elt it2 : Expr) (K : Addr → List (Addr × Obj) → Heap → Nat → Prop) (it : Value) (s₂ : Shared) : Prop :=
  ∃ (T : Nat) (I : Addr) (fp : List Addr) (n : Nat) (P : Nat → Value → Prop) (St : Nat → Heap → Prop) (news : List (Addr × Obj)) (J : Nat → Nat → List Value → List (Addr × Obj) → Prop),
    it = .ref I ∧ WK prog w A T I fp n P St ∧ T ≤ s₂.toks ∧ St 0 s₂.heap ∧ (∀ b ∈ fp, b < s₂.heap.objs.size) ∧ Fr h₀ L s₂.heap m ∧ News h₀ L s₂.heap news ∧ h₀.get? I = none ∧ I ≠ L ∧ (∀ p ∈ news, p.1 ≠ I) ∧
    J 0 0 [] [] ∧ (∀ i ys nl, J i 6 ys nl → J (i + 1) 0 ys nl) ∧ (∀ i j ys nl, J i j ys nl → ys.length ≤ 100000) ∧ Src2 prog w A h₀ L m news env scope cl it2 s₂ ∧ CTurn2 prog w A h₀ L m news env scope cl x z ifs elt n P J s₂ ∧
    (∀ D ys k nl h' tk, (∀ p ∈ news, p.1 < D) → (∀ q ∈ nl, q.1 ≠ D) → (∀ q ∈ nl, ∀ p ∈ news, q.1 ≠ p.1) → J n 0 ys nl → h₀.get? D = none → D ≠ L → Fr h₀ L h' m → News h₀ L h' ((D, PySem.W.listOf ys.toArray k) :: (nl ++ news)) → K D ((D, PySem.W.listOf ys.toArray k) :: (nl ++ news)) h' tk)
theorem cp_eval2F {elt it1 it2 : Expr} {x z : Str} {px pz : Pos} {ifs : List Expr} {scope : Scope} {cl : List (Str × Addr)} {pos : Pos} {Q : Value → Shared → Prop} (_F : Fr h₀ L s.heap m) (hh : A.handled = none)
    (hclos : closureFor scope env = pure cl) (hcell : ∀ y ∈ scope.names, y.2 ≠ .cell) (hkind : scope.kind = .function)
    (hnames : ∀ y ∈ scope.names, y.2 = .local → scope.names.lookup y.1 = some .local) (hx : scope.names.lookup x = some .local) (hz : scope.names.lookup z = some .local) (hxz : x ≠ z)
    (hs : ∀ x, foldedSetIterable it1 env x = pure x) (hfs : ∀ C x, foldedSetIterable it2 (compEnvC scope cl C env) x = pure x)
    (h : wpAny (model prog w) A (eval it1 env) (fun xv s₁ => wpAny (model prog w) A (pyIter xv) (fun it s₂ => CompAt2 prog w A h₀ L m env scope cl x z ifs elt it2
      (fun D led h' tk => Fr h₀ L h' m → News h₀ L h' led → Q (.ref D) { s₂ with heap := h', toks := tk }) it s₂) E s₁) E s) :
    Hold (wpAny (model prog w) A (eval (.ListComp elt [⟨.Name x px, it1, [], 0⟩, ⟨.Name z pz, it2, ifs, 0⟩] scope pos) env) Q E s) := by
  refine unhold ?_
  rw [eval_ListComp]
  refine wpAny_comprehension_free (use := none) rfl hs hclos hkind hnames (wpAny_mono h (fun xv s₁ h₁ => wpAny_mono h₁ (fun it s₂ h₂ => ?_) fun _ _ e => e) fun _ _ e => e)
  refine hide fun hG9 => ?_
  obtain ⟨T, I, fp, n, P, St, news, J, rfl, W, hT, hst, hfp, F, N, hI0, hIL, hIN, hj, hJ6, hlen, src2, turn, fin⟩ := h₂
  refine hG9 ?_
  clear hG9
  refine cp_block2 (RR := fun acc C => compPost (model prog w) A E none Q acc C) hh W hT J hcell hkind hx hz hxz hst hfp F N hI0 hIL hIN hj hJ6 hlen src2 hfs turn ?_
  intro D C h' tk m' ys nl hDs hD hC hDC hnC hl hJ hk hnl hnl0
  refine ⟨m', hnC, fun h'' hs'' => ?_⟩
  have up : ∀ b o, b ≠ I → s₂.heap.get? b = some o → h''.get? b = some o := fun b o hb e => hs''.extBut b o (by rintro rfl; rw [hC] at e; cases e) (hk b o hb e)
  obtain ⟨k, hD'⟩ := hl
  have hD'' := hs''.extBut D _ hDC hD'
  have F'' : Fr h₀ L h'' m := ⟨F.ns.at' fun o e => up _ o (Ne.symm hIL) e, fun b o e => up b o (fun q => by rw [q, hI0] at e; cases e) (F.keep b o e), F.above⟩
  have h0D : h₀.get? D = none := F.noneBack hD
  have hDL : D ≠ L := fun e => by have := F.ns.lt; rw [← e] at this; exact absurd hDs (Nat.not_le.mpr this)
  have hall : News h₀ L h'' ((D, PySem.W.listOf ys.toArray k) :: (nl ++ news)) := fun p hp => by
    rcases List.mem_cons.mp hp with rfl | hp
    · exact ⟨hD'', hDL, h0D⟩
    · rcases List.mem_append.mp hp with hp | hp
      · have z := hnl p hp
        refine ⟨hs''.extBut _ _ z.2.1 z.1, fun e => ?_, F.noneBack (hnl0 p hp)⟩
        refine hide fun hG9 => ?_
        obtain ⟨o, _, _, ho, _⟩ := F.ns
        refine hG9 ?_
        clear hG9
        have := hnl0 p hp
        rw [e] at this
        exact absurd (this.symm.trans ho) (fun x => nomatch x)
      · exact ⟨up _ _ (hIN p hp) (N p hp).1, (N p hp).2⟩
  refine fin D ys k nl h'' tk (fun p hp => Nat.lt_of_lt_of_le (Heap.lt_size (N p hp).1) hDs) (fun q hq => (hnl q hq).2.2.2) (fun q hq p hp e => ?_) hJ h0D hDL F'' hall F'' hall
  have := hnl0 q hq
  rw [e] at this
  exact absurd (this.symm.trans (N p hp).1) (fun x => nomatch x)

theorem cs2_range {T : Nat} {news : List (Addr × Obj)} {scope : Scope} {cl : List (Str × Addr)} {x z : Str} {ifs : List Expr} {elt it2 : Expr} {K : Shared → Addr → List (Addr × Obj) → Heap → Nat → Prop} (hT : T ≤ s.toks) {r : Addr} {a₀ b₀ : Int} {t₀ u₀ v₀ : Tok} {n : Nat} (J : Nat → Nat → List Value → List (Addr × Obj) → Prop) (hh : A.handled = none)
    (hr : IsRange s.heap r a₀ b₀ 1 t₀ u₀ v₀) (hsmall : Builtin.Range.small a₀ b₀ 1 = true) (hn : Builtin.Range.rangeSize a₀ b₀ 1 = (n : Int)) (F : Fr h₀ L s.heap m) (N : News h₀ L s.heap news)
    (hj : J 0 0 [] []) (hJ6 : ∀ i ys nl, J i 6 ys nl → J (i + 1) 0 ys nl) (hlen : ∀ i j ys nl, J i j ys nl → ys.length ≤ 100000)
    (src2 : ∀ h₂, Src2 prog w A h₀ L m news env scope cl it2 { s with heap := h₂ })
    (turn : ∀ h₂, CTurn2 prog w A h₀ L m news env scope cl x z ifs elt n (fun i v => ∃ t, T ≤ t ∧ v = .int (a₀ + (i : Nat)) t) J { s with heap := h₂ })
    (fin : ∀ h₂ D ys k nl h' tk, (∀ p ∈ news, p.1 < D) → (∀ q ∈ nl, q.1 ≠ D) → (∀ q ∈ nl, ∀ p ∈ news, q.1 ≠ p.1) → J n 0 ys nl → h₀.get? D = none → D ≠ L → Fr h₀ L h' m → News h₀ L h' ((D, PySem.W.listOf ys.toArray k) :: (nl ++ news)) → K { s with heap := h₂ } D ((D, PySem.W.listOf ys.toArray k) :: (nl ++ news)) h' tk) :
    wpAny (model prog w) A (pyIter (.ref r)) (fun it s₂ => CompAt2 prog w A h₀ L m env scope cl x z ifs elt it2 (K s₂) it s₂) E s := by
  refine wpAny_pyIter_range hr hsmall ?_
  have W := WK.range (prog := prog) (w := w) (T := T) hh s.heap.objs.size a₀ n
  refine ⟨T, _, _, n, _, _, news, J, rfl, W, hT, (by show IsRangeIter _ _ _ _ _; rw [hn]; simpa using Heap.get?_push_size _ rfl), ?_, F.push _, (fun p hp => ⟨Heap.get?_push_of_some _ (N p hp).1, (N p hp).2⟩), next_is_new F, Nat.ne_of_gt F.ns.lt, ?_, hj, hJ6, hlen, src2 _, ?_, ?_⟩
  · intro b hb
    show b < (s.heap.push _).objs.size
    rw [Heap.size_push, List.mem_singleton.mp hb]
    exact Nat.lt_succ_self _
  · intro p hp e
    exact absurd (Heap.lt_size (N p hp).1) (e ▸ Nat.lt_irrefl _)
  · exact turn _
  · intro D ys k nl h' tk a b c hJ
    exact fin _ D ys k nl h' tk a b c hJ
end
/-- the bound of the tokens, told behind a step -/
theorem toksIn {prog : Program} {w : World} {A : Around} {E : Value → Shared → Prop} {s : Shared} {α : Type} {t : Sem α} {Q : α → Shared → Prop} {T : Nat} (hT : T ≤ s.toks) (h : wpAny (model prog w) A t (fun a s' => T ≤ s'.toks → Q a s') E s) : wpAny (model prog w) A t Q E s :=
  wpAny_mono (wpAny_toks_of hT h) (fun _ _ q => q.2 q.1) fun _ _ e => e.2

end
section
/-! ### loops over a range whose name is a cell -/
section
variable {prog : Program} {w : World} {A : Around} {s : Shared} {env : Env} {h₀ : Heap} {x : Str} {px : Pos} {body : List Stmt} {Q : Flow → Shared → Prop}
theorem lk_coreC {T : Nat} {I : Addr} {a₀ : Int} {n : Nat} {m₀ : Str → Option Value} {news : List (Addr × Obj)} (c : Addr) (J : Nat → (Str → Option Value) → List (Addr × Obj) → Prop)
    (W : WK prog w A T I [I] n (fun i v => ∃ t, T ≤ t ∧ v = .int (a₀ + (i : Nat)) t) (fun i h => IsRangeIter h I (a₀ + (i : Nat)) ((n : Int) - (i : Nat)) 1)) (hT : T ≤ s.toks) (hk : env.scope.kind = .function) (hx : env.kindOf x = some .cell) (hc : env.cells.lookup x = some c)
    (hI0 : h₀.get? I = none) (hLI : env.locals ≠ I) (hnw : ∀ p ∈ news, p.1 ≠ I) (hst : IsRangeIter s.heap I (a₀ + ((0 : Nat) : Int)) ((n : Int) - ((0 : Nat) : Int)) 1) (F : Fr h₀ env.locals s.heap m₀) (N : News h₀ env.locals s.heap news)
    (hj : J 0 m₀ news) (hcell : ∀ i m news, J i m news → ∃ oc v₀, (c, oc) ∈ news ∧ oc.data = .cell v₀)
    (turn : ∀ i t m₁ news₁ h tk o oc, T ≤ tk → i < n → J i m₁ news₁ → (∀ p ∈ news₁, p.1 ≠ I) → oc.data = .cell (some (.int (a₀ + (i : Nat)) t)) → Fr h₀ env.locals h m₁ → News h₀ env.locals h ((I, o) :: (c, oc) :: butI c news₁) →
      wpAny (model prog w) A (execs body env) (LEnd h₀ env.locals (I, o) (J (i + 1)) { s with heap := h, toks := tk } Q) (fun _ _ => False) { s with heap := h, toks := tk })
    (done : ∀ m₁ news₁ h tk, T ≤ tk → J n m₁ news₁ → Fr h₀ env.locals h m₁ → News h₀ env.locals h news₁ → Q .next { s with heap := h, toks := tk }) :
    LoopK prog w A env x px body Q (.ref I) s := by
  refine codeAny_forLoop_any (fun k s' => ∃ h' tk m' news' i, s' = { s with heap := h', toks := tk } ∧ IsRangeIter h' I (a₀ + (i : Nat)) ((n : Int) - (i : Nat)) 1 ∧ Fr h₀ env.locals h' m' ∧ News h₀ env.locals h' news' ∧ (∀ p ∈ news', p.1 ≠ I) ∧ J i m' news' ∧ i ≤ n ∧ k = n + 1 - i ∧ T ≤ tk) ?_ (n + 1)
    ⟨s.heap, s.toks, m₀, news, 0, rfl, hst, F, N, hnw, hj, Nat.zero_le _, rfl, hT⟩
  intro k s' hJ0_2
  refine hide fun hG9 => ?_
  obtain ⟨h', tk, m', news', i, rfl, hst', F', N', hnw', hJ, hi, rfl, htk⟩ := hJ0_2
  refine hG9 ?_
  clear hG9
  have next : ∀ h₁ : Heap, (∀ b o, b ≠ I → h'.get? b = some o → h₁.get? b = some o) → Fr h₀ env.locals h₁ m' ∧ News h₀ env.locals h₁ news' := fun h₁ hk₁ =>
    ⟨⟨F'.ns.at' fun o e => hk₁ _ o hLI e, fun b o e => hk₁ b o (fun q => by rw [q, hI0] at e; cases e) (F'.keep b o e), F'.above⟩, fun p hp => ⟨hk₁ _ _ (hnw' p hp) (N' p hp).1, (N' p hp).2⟩⟩
  by_cases hlt : i < n
  · refine W.item i _ _ _ hlt hst' htk fun v h₁ tk₁ hP ht₁ hst₁ hk₁ => ?_
    refine hide fun hG9 => ?_
    obtain ⟨t, _, rfl⟩ := hP
    refine hG9 ?_
    clear hG9
    obtain ⟨F₁, N₁⟩ := next h₁ hk₁
    refine hide fun hG9 => ?_
    obtain ⟨oc, v₁, hcm, hcd⟩ := hcell _ _ _ hJ
    refine hG9 ?_
    clear hG9
    have hcN := N₁ _ hcm
    show wpAny _ A (pure ()) _ _ _
    refine wpAny_pure (wpAny_assign_Name (wpAny_storeName_cell hk hx hc ⟨oc, hcN.1, hcd⟩ (fun h₂ hv hs₂ => ?_)))
    refine hide fun hG9 => ?_
    obtain ⟨o', ho', hd'⟩ := hv
    refine hG9 ?_
    clear hG9
    have hcI : c ≠ I := hnw' _ hcm
    have keep : ∀ b o, b ≠ c → h₁.get? b = some o → h₂.get? b = some o := fun b o hb e => hs₂.extBut b o hb e
    have F₂ := Fr.but F₁ hcN.2.1 hcN.2.2 keep
    have N₂ := News.but (rest := butI c news') N₁ hcm keep ho' fun p hp => ⟨(List.mem_filter.mp hp).1, of_decide_eq_true (List.mem_filter.mp hp).2⟩
    have hst₂ : IsRangeIter h₂ I (a₀ + ((i + 1 : Nat) : Int)) ((n : Int) - ((i + 1 : Nat) : Int)) 1 := W.frame _ _ _ hst₁ fun b hb o e => keep b o (by rw [List.mem_singleton.mp hb]; exact Ne.symm hcI) e
    obtain ⟨oI, hoI⟩ := W.live _ _ hst₂
    have NI : News h₀ env.locals h₂ ((I, oI) :: (c, o') :: butI c news') := fun p hp => by
      rcases List.mem_cons.mp hp with rfl | hp
      · exact ⟨hoI, Ne.symm hLI, hI0⟩
      · exact N₂ p hp
    refine wpAny_mono (wpAny_toks_of (n := T) ht₁ (turn i t m' news' h₂ _ oI o' ht₁ hlt hJ hnw' hd' F₂ NI)) (fun f s₃ q => ?_) fun _ _ e => e.2.elim
    obtain ⟨ht₃, q⟩ := q
    have fin : (∃ h' tk m' news', s₃ = { s with heap := h', toks := tk } ∧ Fr h₀ env.locals h' m' ∧ News h₀ env.locals h' ((I, oI) :: news') ∧ (∀ p ∈ news', p.1 ≠ I) ∧ J (i + 1) m' news') →
        ∃ mm, mm < n + 1 - i ∧ ∃ h' tk m' news' i, s₃ = { s with heap := h', toks := tk } ∧ IsRangeIter h' I (a₀ + (i : Nat)) ((n : Int) - (i : Nat)) 1 ∧ Fr h₀ env.locals h' m' ∧ News h₀ env.locals h' news' ∧ (∀ p ∈ news', p.1 ≠ I) ∧ J i m' news' ∧ i ≤ n ∧ mm = n + 1 - i ∧ T ≤ tk := by
      intro hJ4_0
      refine hide fun hG9 => ?_
      obtain ⟨hA, tkA, mA, nA, e, FA, NA, hnA, hJA⟩ := hJ4_0
      refine hG9 ?_
      clear hG9
      subst e
      refine ⟨n + 1 - (i + 1), by omega, hA, tkA, mA, nA, i + 1, rfl, ?_, FA, fun p hp => NA p (List.mem_cons_of_mem _ hp), hnA, hJA, hlt, rfl, ht₃⟩
      refine W.frame _ _ _ hst₂ fun b hb o e => ?_
      rw [List.mem_singleton.mp hb] at e ⊢
      have := (NA _ (List.mem_cons_self ..)).1
      rw [← hoI] at this
      exact this.trans e
    cases f with
    | ret v => exact q
    | brk => exact q
    | next => obtain ⟨hA, tkA, mA, nA, e, r⟩ := q; exact fin ⟨hA, tkA, mA, nA, e, r⟩
    | cont => obtain ⟨hA, tkA, mA, nA, e, r⟩ := q; exact fin ⟨hA, tkA, mA, nA, e, r⟩
  · have hin : i = n := by omega
    subst hin
    refine W.done _ _ _ hst' htk fun h₁ tk₁ ht₁ hk₁ => wpAny_execs_nil ?_
    obtain ⟨F₁, N₁⟩ := next h₁ hk₁
    exact done m' news' h₁ tk₁ ht₁ hJ F₁ N₁
theorem lk_rangeC {T : Nat} (hT : T ≤ s.toks) {r : Addr} {a₀ b₀ : Int} {t₀ u₀ v₀ : Tok} {n : Nat} {m₀ : Str → Option Value} {news : List (Addr × Obj)} (c : Addr) (J : Nat → (Str → Option Value) → List (Addr × Obj) → Prop)
    (hh : A.handled = none) (hk : env.scope.kind = .function) (hx : env.kindOf x = some .cell) (hc : env.cells.lookup x = some c)
    (hr : IsRange s.heap r a₀ b₀ 1 t₀ u₀ v₀) (hsmall : Builtin.Range.small a₀ b₀ 1 = true) (hn : Builtin.Range.rangeSize a₀ b₀ 1 = (n : Int)) (F : Fr h₀ env.locals s.heap m₀) (N : News h₀ env.locals s.heap news)
    (hj : J 0 m₀ news) (hcell : ∀ i m news, J i m news → ∃ oc v₀, (c, oc) ∈ news ∧ oc.data = .cell v₀)
    (turn : ∀ i t m₁ news₁ h tk I o oc, T ≤ tk → i < n → J i m₁ news₁ → (∀ p ∈ news₁, p.1 ≠ I) → oc.data = .cell (some (.int (a₀ + (i : Nat)) t)) → Fr h₀ env.locals h m₁ → News h₀ env.locals h ((I, o) :: (c, oc) :: butI c news₁) →
      wpAny (model prog w) A (execs body env) (LEnd h₀ env.locals (I, o) (J (i + 1)) { s with heap := h, toks := tk } Q) (fun _ _ => False) { s with heap := h, toks := tk })
    (done : ∀ m₁ news₁ h tk, T ≤ tk → J n m₁ news₁ → Fr h₀ env.locals h m₁ → News h₀ env.locals h news₁ → Q .next { s with heap := h, toks := tk }) :
    wpAny (model prog w) A (pyIter (.ref r)) (fun it s₂ => LoopK prog w A env x px body Q it s₂) (fun _ _ => False) s := by
  refine wpAny_pyIter_range hr hsmall ?_
  have W := WK.range (prog := prog) (w := w) (A := A) (T := T) hh s.heap.objs.size a₀ n
  refine lk_coreC (s := { s with heap := s.heap.push _ }) c J W hT hk hx hc (next_is_new F) (Nat.ne_of_lt F.ns.lt) ?_ (by show IsRangeIter _ _ _ _ _; rw [hn]; simpa using Heap.get?_push_size _ rfl) (F.push _) (fun p hp => ⟨Heap.get?_push_of_some _ (N p hp).1, (N p hp).2⟩) hj hcell ?_ ?_
  · intro p hp e
    exact absurd (Heap.lt_size (N p hp).1) (e ▸ Nat.lt_irrefl _)
  · intro i t m₁ news₁ h tk o oc ht hi hJ hoff hd F₁ N₁
    exact turn i t m₁ news₁ h tk _ o oc ht hi hJ hoff hd F₁ N₁
  · exact done
end
theorem ints_at {vs : List Value} {ns : List Int} (h : IntsAre vs ns) : ∀ j, j < ns.length → ∃ t, vs[j]? = some (.int (ns.getD j 0) t) := by
  induction h with
  | nil => exact fun j hj => absurd hj (Nat.not_lt_zero _)
  | cons n t _ ih =>
    intro j hj
    cases j with
    | zero => exact ⟨t, rfl⟩
    | succ j => exact ih j (Nat.lt_of_succ_lt_succ hj)

end
section
local macro_rules | `(tactic| walk_at "MyFill") => `(tactic| ((have hfill : PySem.Challenge.rw_sw0052_01 = PySem.Challenge.rw_sw0052_01 ∧ Mine.hd.heap_1 = Mine.hd.heap_1 := by (k_fill; exact ⟨rfl, rfl⟩)); clear hfill))
local macro_rules | `(tactic| walk_at "eval ListComp") => `(tactic| (refine hold ?_))
local macro_rules | `(tactic| walk_at "call builtin:str.join") => `(tactic| ((rename News _ _ _ _ => N'); k_dflt (refine' join_led N' ?k1 ?k2 ?k3 ?_; (case k1 => k_mem); (case k2 => assumption); (case k3 => (simp only [List.map_cons, List.map_nil, List.sum_cons, List.sum_nil, piece_len]; decide)); k_whole); intro t' k'))
local macro_rules | `(tactic| walk_at "MyBack") => `(tactic| (intro v9 h9 tk9 G9 hv9; (obtain ⟨b9, hb9, hv9⟩ := hv9); subst hv9; (with_reducible rename Fr _ _ _ _ => F8); (with_reducible rename News _ _ _ _ => N8); (have F9 := Fr.keeps F8 G9); (have N9 := News.grown N8 G9); clear F8 N8 G9; (try dsimp only); (try k_unmd); (try k_fold)))
local macro_rules | `(tactic| walk_at "MyAsk") => `(tactic| ((case k1 => k_asm); (case k2 => k_asm); (case k3 => k_asm); (case k5 => k_asm); (case kK => exact rfl); (case kd => ktr_room); (case ku => ktr_units)))
local macro_rules | `(tactic| ktr_room) => `(tactic| first | exact room2 | exact room1 | decide | fail "room")
local macro_rules | `(tactic| ktr_units) => `(tactic| first | exact room2 | exact room1 | decide | fail "room")
local macro_rules | `(tactic| omega) => `(tactic| with_reducible (first | exact om_nn | exact om_63 | exact om_63' | exact om_06 | exact om_6 | exact om_s6 | exact om_z6 | exact om_len | exact om_lenz | exact om_lenn | exact om_lens | exact om_lenS | exact om_thou | exact om_str | exact om_str' | exact om_min | exact om_sub | exact om_ton | exact om_ton' | exact om_big | fail "om"))
local macro_rules | `(tactic| k_qdec) => `(tactic| decide +kernel)

section
local macro_rules | `(tactic| walk_at "call builtin:str.split") => `(tactic| ((with_reducible rename Fr _ _ _ _ => F'); (with_reducible rename News _ _ _ _ => N'); (refine split_ws F' N' (by assumption) (by first | rfl | assumption) (by omega) ?_); intro D' tf' h' k' l1 F' N'; (try k_lt l1); (try dsimp only [strsT] at N'); (try k_sweep)))
local macro_rules | `(tactic| walk_at "call builtin:str.find") => `(tactic| (refine call_find4 ?_))
local macro_rules | `(tactic| walk_at "call builtin:len") => `(tactic| ((with_reducible show wpAny _ _ (call (Value.builtin "len") [Value.str _ _]) _ _ _); refine SBL.len (by omega) ?_))
local macro_rules | `(tactic| walk_at "truthy str") => `(tactic| (refine P.truthy_str (by omega) ?_))

theorem ell_A3 {prog : Program} {w : World} (want got c1 c2 c3 : Str) (t1 t2 : Tok) (hw : want.length ≤ 1000) (hg : got.length ≤ 1000) (h1 : c1.length ≤ 1000) (h2 : c2.length ≤ 1000) (h3 : c3.length ≤ 1000)
   (hin : (Builtin.Str.occurrences want (Str.ofString "...") 0 want.length 1).isEmpty = false)
   (hsp : Txt.split want (Str.ofString "...") = [Str.ofString "", c1, c2, c3, Str.ofString ""]) :
   KC prog w 1 8 28 [.str want t1, .str got t2] (fun _ => True) (fun v _ _ => v = .bool (fl got got.length [Str.ofString "", c1, c2, c3, Str.ofString ""] 0)) := by
  walk_at "MyFill"
  have e0 : (Str.ofString "").length = 0 := by decide +kernel
  have e1 : (Str.ofString "\n").length = 1 := by decide +kernel
  unfold KC
  intro p loose mean mg mb dp un gd cn cs a ccd cl outer A₀ base h₀ L m s Q E B F X T hk hd hu _ hret
  k_dflt ((refine' kc_enter ?k1_1 ?k2_1 ?k3_1 ?k5_1 ?kA_1 ?kF_1 ?kK_1 ?k6_1 ?k7_1 ?k8_1 ?k9_1 ?kB_1 ?_ ?c2_1 ?c3_1 ?c4_1 ?c5_1; ((case kA_1 => exact rfl); (case kF_1 => exact rfl); (case kK_1 => assumption); (case k1_1 => k_asm); (case k2_1 => k_asm); (case k3_1 => k_asm); (case k5_1 => k_asm); (case k6_1 => k_is); (case k7_1 => k_is); (case k8_1 => ktr_room); (case k9_1 => exact BindsTo.of_eq rfl); (case c2_1 => exact rfl); (case c3_1 => exact rfl); (case c4_1 => exact rfl)); (case c5_1 => decide); (case kB_1 => exact locs rfl); k_whole))
  intro g' L' h' G' F' N' B' X' T'
  clear B F X T hk
  replace F' : Fr g' L' h' (fun y => List.lookup y [("got", .str got t2), ("want", .str want t1)]) := F'
  dsimp only
  k_unmd
  k_fold
  k_steps
  all_goals (refine hret _ _ _ (fun b o e => Fr.keep (by assumption) _ _ (G' b o e)) ?_)
  all_goals (refine congrArg Value.bool ?_; simp only [fl, e0, e1]; (repeat' split) <;> first | rfl | (exfalso; omega) | (simp_all; done) | (simp_all; omega))


theorem ell_A4 {prog : Program} {w : World} (want got c1 c2 c3 c4 : Str) (t1 t2 : Tok) (hw : want.length ≤ 1000) (hg : got.length ≤ 1000) (h1 : c1.length ≤ 1000) (h2 : c2.length ≤ 1000) (h3 : c3.length ≤ 1000) (h4 : c4.length ≤ 1000)
   (hin : (Builtin.Str.occurrences want (Str.ofString "...") 0 want.length 1).isEmpty = false)
   (hsp : Txt.split want (Str.ofString "...") = [Str.ofString "", c1, c2, c3, c4, Str.ofString ""]) :
   KC prog w 1 8 28 [.str want t1, .str got t2] (fun _ => True) (fun v _ _ => v = .bool (fl got got.length [Str.ofString "", c1, c2, c3, c4, Str.ofString ""] 0)) := by
  walk_at "MyFill"
  have e0 : (Str.ofString "").length = 0 := by decide +kernel
  have e1 : (Str.ofString "\n").length = 1 := by decide +kernel
  unfold KC
  intro p loose mean mg mb dp un gd cn cs a ccd cl outer A₀ base h₀ L m s Q E B F X T hk hd hu _ hret
  k_dflt ((refine' kc_enter ?k1_2 ?k2_2 ?k3_2 ?k5_2 ?kA_2 ?kF_2 ?kK_2 ?k6_2 ?k7_2 ?k8_2 ?k9_2 ?kB_2 ?_ ?c2_2 ?c3_2 ?c4_2 ?c5_2; ((case kA_2 => exact rfl); (case kF_2 => exact rfl); (case kK_2 => assumption); (case k1_2 => k_asm); (case k2_2 => k_asm); (case k3_2 => k_asm); (case k5_2 => k_asm); (case k6_2 => k_is); (case k7_2 => k_is); (case k8_2 => ktr_room); (case k9_2 => exact BindsTo.of_eq rfl); (case c2_2 => exact rfl); (case c3_2 => exact rfl); (case c4_2 => exact rfl)); (case c5_2 => decide); (case kB_2 => exact locs rfl); k_whole))
  intro g' L' h' G' F' N' B' X' T'
  clear B F X T hk
  replace F' : Fr g' L' h' (fun y => List.lookup y [("got", .str got t2), ("want", .str want t1)]) := F'
  dsimp only
  k_unmd
  k_fold
  k_steps
  all_goals (refine hret _ _ _ (fun b o e => Fr.keep (by assumption) _ _ (G' b o e)) ?_)
  all_goals (refine congrArg Value.bool ?_; simp only [fl, e0, e1]; (repeat' split) <;> first | rfl | (exfalso; omega) | (simp_all; done) | (simp_all; omega))


theorem ell_C {prog : Program} {w : World} (want got c1 : Str) (t1 t2 : Tok) (hw : want.length ≤ 1000) (hg : got.length ≤ 1000) (h1 : c1.length ≤ 1000)
   (hin : (Builtin.Str.occurrences want (Str.ofString "...") 0 want.length 1).isEmpty = false)
   (hsp : Txt.split want (Str.ofString "...") = [Str.ofString "", c1, Str.ofString "\n", Str.ofString "\n"]) :
   KC prog w 1 8 28 [.str want t1, .str got t2] (fun _ => True) (fun v _ _ => v = .bool (Txt.endswith got (Str.ofString "\n") && (decide ((0 : Int) ≤ (got.length : Int) - 1) && fl got ((got.length : Int) - 1) [Str.ofString "", c1, Str.ofString "\n"] 0))) := by
  walk_at "MyFill"
  have e0 : (Str.ofString "").length = 0 := by decide +kernel
  have e1 : (Str.ofString "\n").length = 1 := by decide +kernel
  unfold KC
  intro p loose mean mg mb dp un gd cn cs a ccd cl outer A₀ base h₀ L m s Q E B F X T hk hd hu _ hret
  k_dflt ((refine' kc_enter ?k1_3 ?k2_3 ?k3_3 ?k5_3 ?kA_3 ?kF_3 ?kK_3 ?k6_3 ?k7_3 ?k8_3 ?k9_3 ?kB_3 ?_ ?c2_3 ?c3_3 ?c4_3 ?c5_3; ((case kA_3 => exact rfl); (case kF_3 => exact rfl); (case kK_3 => assumption); (case k1_3 => k_asm); (case k2_3 => k_asm); (case k3_3 => k_asm); (case k5_3 => k_asm); (case k6_3 => k_is); (case k7_3 => k_is); (case k8_3 => ktr_room); (case k9_3 => exact BindsTo.of_eq rfl); (case c2_3 => exact rfl); (case c3_3 => exact rfl); (case c4_3 => exact rfl)); (case c5_3 => decide); (case kB_3 => exact locs rfl); k_whole))
  intro g' L' h' G' F' N' B' X' T'
  clear B F X T hk
  replace F' : Fr g' L' h' (fun y => List.lookup y [("got", .str got t2), ("want", .str want t1)]) := F'
  dsimp only
  k_unmd
  k_fold
  k_steps
  all_goals (refine hret _ _ _ (fun b o e => Fr.keep (by assumption) _ _ (G' b o e)) ?_)
  all_goals (refine congrArg Value.bool ?_; simp only [fl, e0, e1]; (repeat' split) <;> first | rfl | (exfalso; omega) | (simp_all; done) | (simp_all; omega))



section
variable {prog : Program} {w : World} {A : Around} {E : Value → Shared → Prop} {s : Shared} {env : Env} {h₀ : Heap} {x : Str} {body : List Stmt} {Q : Flow → Shared → Prop}
theorem lp_nil {l : Addr} {o : Obj} {k : Nat} {m₀ : Str → Option Value} {news : List (Addr × Obj)} (hh : A.handled = none) (F : Fr h₀ env.locals s.heap m₀) (N : News h₀ env.locals s.heap news) (hm : (l, o) ∈ news) (hc : o.cls = .type "list") (hd : o.data = .seq #[] k)
    (done : ∀ h tk, Fr h₀ env.locals h m₀ → News h₀ env.locals h news → Q .next { s with heap := h, toks := tk }) :
    wpAny (model prog w) A (pyIter (.ref l)) (fun it s₂ => LoopAtV prog w A h₀ env x body Q E it s₂) E s := by
  have hax := N _ hm
  refine lp_list (vs := []) [(l, o)] (fun _ m' news' => m' = m₀ ∧ news' = news) hh ⟨o, hax.1, hc, k, hd⟩ (.inr ⟨hax.2.1, o, List.mem_singleton.mpr rfl⟩) F N ?_ ⟨rfl, rfl⟩ ?_ ?_
  · rintro i m news' ⟨_, rfl⟩ p hp
    rw [List.mem_singleton.mp hp]; exact hm
  · intro i v _ _ _ _ _ _ hv
    cases hv
  · rintro m₁ news₁ h tk ⟨rfl, rfl⟩ F N
    exact done h tk F N
end
local macro_rules | `(tactic| walk_at "pyIter ref") => `(tactic| ((with_reducible rename Fr _ _ _ _ => F'); (with_reducible rename News _ _ _ _ => N'); (k_dflt (refine' lp_nil ?k0 F' N' ?k1 ?k2 ?k3 ?_; (case k0 => exact rfl); (case k1 => k_mem); (case k2 => exact rfl); (case k3 => exact rfl); k_whole)); intro h' tk' F' N'))

theorem ell_B {prog : Program} {w : World} (want got line : Str) (t1 t2 : Tok) (hw : want.length ≤ 1000) (hg : got.length ≤ 1000) (hl : line.length ≤ 1000) (hl0 : 1 ≤ line.length)
   (hin : (Builtin.Str.occurrences want (Str.ofString "...") 0 want.length 1).isEmpty = false)
   (hsp : Txt.split want (Str.ofString "...") = [line, Str.ofString "\n"]) :
   KC prog w 1 8 28 [.str want t1, .str got t2] (fun _ => True) (fun v _ _ => v = .bool (Txt.startswith got line && (Txt.endswith got (Str.ofString "\n") && decide ((line.length : Int) ≤ (got.length : Int) - 1)))) := by
  walk_at "MyFill"
  have e0 : (Str.ofString "").length = 0 := by decide +kernel
  have e1 : (Str.ofString "\n").length = 1 := by decide +kernel
  unfold KC
  intro p loose mean mg mb dp un gd cn cs a ccd cl outer A₀ base h₀ L m s Q E B F X T hk hd hu _ hret
  k_dflt ((refine' kc_enter ?k1_4 ?k2_4 ?k3_4 ?k5_4 ?kA_4 ?kF_4 ?kK_4 ?k6_4 ?k7_4 ?k8_4 ?k9_4 ?kB_4 ?_ ?c2_4 ?c3_4 ?c4_4 ?c5_4; ((case kA_4 => exact rfl); (case kF_4 => exact rfl); (case kK_4 => assumption); (case k1_4 => k_asm); (case k2_4 => k_asm); (case k3_4 => k_asm); (case k5_4 => k_asm); (case k6_4 => k_is); (case k7_4 => k_is); (case k8_4 => ktr_room); (case k9_4 => exact BindsTo.of_eq rfl); (case c2_4 => exact rfl); (case c3_4 => exact rfl); (case c4_4 => exact rfl)); (case c5_4 => decide); (case kB_4 => exact locs rfl); k_whole))
  intro g' L' h' G' F' N' B' X' T'
  clear B F X T hk
  replace F' : Fr g' L' h' (fun y => List.lookup y [("got", .str got t2), ("want", .str want t1)]) := F'
  dsimp only
  k_unmd
  k_fold
  k_steps
  all_goals (refine hret _ _ _ (fun b o e => Fr.keep (by assumption) _ _ (G' b o e)) ?_)
  all_goals (refine congrArg Value.bool ?_; (simp only [e1, gt_iff_lt, Int.not_lt] at *); first | (simp_all; done) | (simp_all; omega))

end
section
local macro_rules | `(tactic| walk_at "subscriptTail") => `(tactic| ((with_reducible show wpAny _ _ (subscriptTail _ _ (Value.str (PySem.Str.ofString "abcdef") _) (Value.int _ _)) _ _ _); (refine item_abc (by omega) (by omega) ?_ (by with_unfolding_all rfl) (by intro _; with_unfolding_all rfl)); intro _ _))
theorem strs_snoc {ys : List Value} {xs : List Str} {x : Str} {t : Tok} (h : ∃ l, ys = strValues l ∧ l.map (·.1) = xs) : ∃ l, ys ++ [.str x t] = strValues l ∧ l.map (·.1) = xs ++ [x] := by
  refine hide fun hG9 => ?_
  obtain ⟨l, rfl, rfl⟩ := h
  refine hG9 ?_
  clear hG9
  exact ⟨l ++ [(x, t)], by simp [strValues], by simp⟩
theorem ell_want3 {prog : Program} {w : World} (page : Str) (x y z : Int) (t1 t2 : Tok) (hg : page.length ≤ 1000) :
   KC prog w 1 8 28 [.str (Str.ofString "..." ++ cat ([x, y, z].map piece)) t1, .str page t2] (fun _ => True) (fun v _ _ => ∃ b, b = foundB page [x, y, z] ∧ v = .bool b) :=
  kc_mono (ell_A3 (wantOf [x, y, z]) page (letter x) (letter y) (letter z) t1 t2 (by rw [wantOf_len]; simp) hg (by rw [letter_len]; decide) (by rw [letter_len]; decide) (by rw [letter_len]; decide) (want_split3 x y z).2 (want_split3 x y z).1) fun v _ _ h => ⟨_, rfl, h⟩
theorem ell_want4 {prog : Program} {w : World} (page : Str) (x y z v : Int) (t1 t2 : Tok) (hg : page.length ≤ 1000) :
   KC prog w 1 8 28 [.str (Str.ofString "..." ++ cat ([x, y, z, v].map piece)) t1, .str page t2] (fun _ => True) (fun r _ _ => ∃ b, b = foundB page [x, y, z, v] ∧ r = .bool b) :=
  kc_mono (ell_A4 (wantOf [x, y, z, v]) page (letter x) (letter y) (letter z) (letter v) t1 t2 (by rw [wantOf_len]; simp) hg (by rw [letter_len]; decide) (by rw [letter_len]; decide) (by rw [letter_len]; decide) (by rw [letter_len]; decide) (want_split4 x y z v).2 (want_split4 x y z v).1) fun v _ _ h => ⟨_, rfl, h⟩
section
local macro_rules | `(tactic| walk_at "call ref") => `(tactic| (k_here; (with_reducible show wpAny _ _ (call (Value.ref 28) [_, _]) _ _ _); k_dflt (refine' kc_use (ell_want3 _ _ _ _ _ _ ?hg) ?k1 ?k2 ?k3 ?k5 ?kK ?kd ?ku ?kp ?kR; walk_at "MyAsk"; (case hg => omega); (case kp => exact trivial); walk_at "MyBack")))
theorem found3 {prog : Program} {w : World} (page : Str) (l : Addr) (x y z : Int) (t1 tx ty tz : Tok) (hg : page.length ≤ 1000) (hx : 0 ≤ x ∧ x < 6) (hy : 0 ≤ y ∧ y < 6) (hz : 0 ≤ z ∧ z < 6) :
   KC prog w 2 16 148 [.str page t1, .ref l] (fun h => IsTup h l #[.int x tx, .int y ty, .int z tz]) (fun v _ _ => ∃ b, b = foundB page [x, y, z] ∧ v = .bool b) := by
  walk_at "MyFill"
  unfold KC
  intro p loose mean mg mb dp un gd cn cs a ccd cl outer A₀ base h₀ L m s Q E B F X T hk hd hu hpre hret
  k_dflt ((refine' kc_enter ?k1_5 ?k2_5 ?k3_5 ?k5_5 ?kA_5 ?kF_5 ?kK_5 ?k6_5 ?k7_5 ?k8_5 ?k9_5 ?kB_5 ?_ ?c2_5 ?c3_5 ?c4_5 ?c5_5; ((case kA_5 => exact rfl); (case kF_5 => exact rfl); (case kK_5 => assumption); (case k1_5 => k_asm); (case k2_5 => k_asm); (case k3_5 => k_asm); (case k5_5 => k_asm); (case k6_5 => k_is); (case k7_5 => k_is); (case k8_5 => ktr_room); (case k9_5 => exact BindsTo.of_eq rfl); (case c2_5 => exact rfl); (case c3_5 => exact rfl); (case c4_5 => exact rfl)); (case c5_5 => decide); (case kB_5 => exact locs rfl); k_whole))
  intro g' L' h' G' F' N' B' X' T'
  clear B F X T hk
  replace hpre := HasG.tup G' hpre
  replace F' : Fr g' L' h' (fun y => List.lookup y [("places", .ref l), ("page", .str page t1)]) := F'
  dsimp only
  k_unmd
  k_fold
  k_steps
  ((with_reducible rename Fr _ _ _ _ => kF); k_dflt (refine' cp_evalF kF ?a_6 ?b_6 ?c_6 ?d_6 ?e_6 ?f_6 ?_; (case a_6 => with_unfolding_all rfl); (case b_6 => decide); (case c_6 => with_unfolding_all rfl); (case d_6 => decide); (case e_6 => with_unfolding_all rfl); (case f_6 => (intro _; with_unfolding_all rfl)); k_whole))
  k_steps
  with_reducible rename Fr _ _ _ _ => F9
  have hp9 := IsTup.keeps hpre F9.keep
  refine cs_tup (T := 0) (Nat.zero_le _) (vs := [.int x tx, .int y ty, .int z tz]) (fun i ys nl => nl = [] ∧ ys.length ≤ i ∧ i ≤ 3 ∧ ∃ l, ys = strValues l ∧ l.map (·.1) = ([x, y, z].take i).map piece) rfl hp9 F9 N' ⟨rfl, Nat.zero_le _, Nat.zero_le _, [], rfl, rfl⟩ (fun i _ _ h => by omega) ?_ ?_
  · intro h₂ C i v ys nl h tk m₁ E' _ hi hP hJ hm hn F N hnl
    refine no_tests ?_
    obtain ⟨k, t, rfl, hk0, hk6, hki⟩ : ∃ k t, v = .int k t ∧ 0 ≤ k ∧ k < 6 ∧ [x, y, z][i]? = some k := by
      match i, hP with
      | 0, hP => cases hP; exact ⟨_, _, rfl, hx.1, hx.2, rfl⟩
      | 1, hP => cases hP; exact ⟨_, _, rfl, hy.1, hy.2, rfl⟩
      | 2, hP => cases hP; exact ⟨_, _, rfl, hz.1, hz.2, rfl⟩
    clear hP
    k_fold
    k_steps
    refine hide fun hG9 => ?_
    obtain ⟨rfl, hlen, _, hl'⟩ := hJ
    refine hG9 ?_
    clear hG9
    refine elt_post (fun b o e => e) ⟨rfl, ?_, hi, ?_⟩
    · rw [List.length_append]; exact Nat.succ_le_succ hlen
    · rw [List.take_add_one, hki, List.map_append]
      exact strs_snoc hl'
  · intro h₂ D ys k nl h' tk l1 l2 l3 hJ hD0 hDL F N _ _
    refine hide fun hG9 => ?_
    obtain ⟨rfl, _, _, hj⟩ := hJ
    refine hG9 ?_
    clear hG9
    replace hj : ∃ l, ys = strValues l ∧ l.map (·.1) = [x, y, z].map piece := hj
    k_unmd
    k_fold
    k_steps
    all_goals (refine hret _ _ _ (fun b o e => Fr.keep (by assumption) _ _ (G' b o e)) ?_)
    all_goals (refine ⟨_, ?_, rfl⟩; rw [beq_true]; with_reducible assumption)
end
section
local macro_rules | `(tactic| walk_at "MyDummy") => `(tactic| skip)
local macro_rules | `(tactic| walk_at "call ref") => `(tactic| (k_here; (with_reducible show wpAny _ _ (call (Value.ref 28) [_, _]) _ _ _); k_dflt (refine' kc_use (ell_want4 _ _ _ _ _ _ _ ?hg) ?k1 ?k2 ?k3 ?k5 ?kK ?kd ?ku ?kp ?kR; walk_at "MyAsk"; (case hg => omega); (case kp => exact trivial); walk_at "MyBack")))
theorem found4 {prog : Program} {w : World} (page : Str) (l : Addr) (x y z v1 : Int) (t1 tx ty tz tv1 : Tok) (hg : page.length ≤ 1000) (hx : 0 ≤ x ∧ x < 6) (hy : 0 ≤ y ∧ y < 6) (hz : 0 ≤ z ∧ z < 6) (hv1 : 0 ≤ v1 ∧ v1 < 6) :
   KC prog w 2 16 148 [.str page t1, .ref l] (fun h => IsTup h l #[.int x tx, .int y ty, .int z tz, .int v1 tv1]) (fun v _ _ => ∃ b, b = foundB page [x, y, z, v1] ∧ v = .bool b) := by
  walk_at "MyFill"
  unfold KC
  intro p loose mean mg mb dp un gd cn cs a ccd cl outer A₀ base h₀ L m s Q E B F X T hk hd hu hpre hret
  k_dflt ((refine' kc_enter ?k1_7 ?k2_7 ?k3_7 ?k5_7 ?kA_7 ?kF_7 ?kK_7 ?k6_7 ?k7_7 ?k8_7 ?k9_7 ?kB_7 ?_ ?c2_7 ?c3_7 ?c4_7 ?c5_7; ((case kA_7 => exact rfl); (case kF_7 => exact rfl); (case kK_7 => assumption); (case k1_7 => k_asm); (case k2_7 => k_asm); (case k3_7 => k_asm); (case k5_7 => k_asm); (case k6_7 => k_is); (case k7_7 => k_is); (case k8_7 => ktr_room); (case k9_7 => exact BindsTo.of_eq rfl); (case c2_7 => exact rfl); (case c3_7 => exact rfl); (case c4_7 => exact rfl)); (case c5_7 => decide); (case kB_7 => exact locs rfl); k_whole))
  intro g' L' h' G' F' N' B' X' T'
  clear B F X T hk
  replace hpre := HasG.tup G' hpre
  replace F' : Fr g' L' h' (fun y => List.lookup y [("places", .ref l), ("page", .str page t1)]) := F'
  dsimp only
  k_unmd
  k_fold
  k_steps
  ((with_reducible rename Fr _ _ _ _ => kF); k_dflt (refine' cp_evalF kF ?a_8 ?b_8 ?c_8 ?d_8 ?e_8 ?f_8 ?_; (case a_8 => with_unfolding_all rfl); (case b_8 => decide); (case c_8 => with_unfolding_all rfl); (case d_8 => decide); (case e_8 => with_unfolding_all rfl); (case f_8 => (intro _; with_unfolding_all rfl)); k_whole))
  k_steps
  with_reducible rename Fr _ _ _ _ => F9
  have hp9 := IsTup.keeps hpre F9.keep
  refine cs_tup (T := 0) (Nat.zero_le _) (vs := [.int x tx, .int y ty, .int z tz, .int v1 tv1]) (fun i ys nl => nl = [] ∧ ys.length ≤ i ∧ i ≤ 4 ∧ ∃ l, ys = strValues l ∧ l.map (·.1) = ([x, y, z, v1].take i).map piece) rfl hp9 F9 N' ⟨rfl, Nat.zero_le _, Nat.zero_le _, [], rfl, rfl⟩ (fun i _ _ h => by omega) ?_ ?_
  · intro h₂ C i v ys nl h tk m₁ E' _ hi hP hJ hm hn F N hnl
    refine no_tests ?_
    obtain ⟨k, t, rfl, hk0, hk6, hki⟩ : ∃ k t, v = .int k t ∧ 0 ≤ k ∧ k < 6 ∧ [x, y, z, v1][i]? = some k := by
      match i, hP with
      | 0, hP => cases hP; exact ⟨_, _, rfl, hx.1, hx.2, rfl⟩
      | 1, hP => cases hP; exact ⟨_, _, rfl, hy.1, hy.2, rfl⟩
      | 2, hP => cases hP; exact ⟨_, _, rfl, hz.1, hz.2, rfl⟩
      | 3, hP => cases hP; exact ⟨_, _, rfl, hv1.1, hv1.2, rfl⟩
    clear hP
    k_fold
    k_steps
    refine hide fun hG9 => ?_
    obtain ⟨rfl, hlen, _, hl'⟩ := hJ
    refine hG9 ?_
    clear hG9
    refine elt_post (fun b o e => e) ⟨rfl, ?_, hi, ?_⟩
    · rw [List.length_append]; exact Nat.succ_le_succ hlen
    · rw [List.take_add_one, hki, List.map_append]
      exact strs_snoc hl'
  · intro h₂ D ys k nl h' tk l1 l2 l3 hJ hD0 hDL F N _ _
    refine hide fun hG9 => ?_
    obtain ⟨rfl, _, _, hj⟩ := hJ
    refine hG9 ?_
    clear hG9
    replace hj : ∃ l, ys = strValues l ∧ l.map (·.1) = [x, y, z, v1].map piece := hj
    k_unmd
    k_fold
    k_steps
    all_goals (refine hret _ _ _ (fun b o e => Fr.keep (by assumption) _ _ (G' b o e)) ?_)
    all_goals (refine ⟨_, ?_, rfl⟩; rw [beq_true]; with_reducible assumption)
end

end
section
theorem lt_c {prog : Program} {w : World} (a b : Int) (ta tb : Tok) : KC prog w 1 8 35 [.int a ta, .int b tb] (fun _ => True) (fun v _ _ => ∃ c, c = decide (a < b) ∧ v = .bool c) := by
  walk_at "MyFill"
  unfold KC
  intro p loose mean mg mb dp un gd cn cs a' ccd cl outer A₀ base h₀ L m s Q E B F X T hk hd hu _ hret
  k_dflt ((refine' kc_enter ?k1_9 ?k2_9 ?k3_9 ?k5_9 ?kA_9 ?kF_9 ?kK_9 ?k6_9 ?k7_9 ?k8_9 ?k9_9 ?kB_9 ?_ ?c2_9 ?c3_9 ?c4_9 ?c5_9; ((case kA_9 => exact rfl); (case kF_9 => exact rfl); (case kK_9 => assumption); (case k1_9 => k_asm); (case k2_9 => k_asm); (case k3_9 => k_asm); (case k5_9 => k_asm); (case k6_9 => k_is); (case k7_9 => k_is); (case k8_9 => ktr_room); (case k9_9 => exact BindsTo.of_eq rfl); (case c2_9 => exact rfl); (case c3_9 => exact rfl); (case c4_9 => exact rfl)); (case c5_9 => decide); (case kB_9 => exact locs rfl); k_whole))
  intro g' L' h' G' F' N' B' X' T'
  clear B F X T hk
  replace F' : Fr g' L' h' (fun y => List.lookup y [("b", .int b tb), ("a", .int a ta)]) := F'
  dsimp only
  k_unmd
  k_fold
  k_steps
  exact hret _ _ _ (fun b o e => Fr.keep (by assumption) _ _ (G' b o e)) ⟨_, rfl, rfl⟩

theorem item_last {prog : Program} {w : World} {A : Around} {E : Value → Shared → Prop} {s : Shared} {value slice : Expr} {l : Addr} {vs : List Value} {x : Value} {u : Tok} {Q : Value → Shared → Prop}
    (hl : s.heap.IsList l (vs ++ [x]).toArray) (hz : vs.length ≤ 1000) (h : Q x s)
    (hs : subscripted slice false (.ref l) (.int (-1) u) = operate [.ref l, .int (-1) u] (getItem (.ref l) (.int (-1) u))) :
    wpAny (model prog w) A (subscriptTail value slice (.ref l) (.int (-1) u)) Q E s := by
  refine tail_any hl.typeIs slot_list_getitem.lookup (wpAny_getItem_list_neg hl (by decide) ?_ (by decide) ?_ h) hs
  · simp only [List.size_toArray, List.length_append, List.length_singleton]; omega
  · have e : (-1 + ((vs ++ [x]).toArray.size : Int)).toNat = vs.length := by simp only [List.size_toArray, List.length_append, List.length_singleton]; omega
    rw [e]; simp
section
local macro_rules | `(tactic| walk_at "subscriptTail") => `(tactic| ((with_reducible show wpAny _ _ (subscriptTail _ _ (Value.ref _) (Value.int (-1) _)) _ _ _); (with_reducible rename Fr _ _ _ _ => F'); k_dflt (refine' item_last (HasG.list F'.keep (by assumption)) (by assumption) ?_ (by with_unfolding_all rfl); k_whole)))
theorem getitem_c {prog : Program} {w : World} (l : Addr) (vs : List Value) (x : Value) (tb : Tok) (hz : vs.length ≤ 1000) :
    KC prog w 1 8 56 [.ref l, .int (-1) tb] (fun h => h.IsList l (vs ++ [x]).toArray) (fun v _ _ => v = x) := by
  walk_at "MyFill"
  unfold KC
  intro p loose mean mg mb dp un gd cn cs a' ccd cl outer A₀ base h₀ L m s Q E B F X T hk hd hu hpre hret
  k_dflt ((refine' kc_enter ?k1_10 ?k2_10 ?k3_10 ?k5_10 ?kA_10 ?kF_10 ?kK_10 ?k6_10 ?k7_10 ?k8_10 ?k9_10 ?kB_10 ?_ ?c2_10 ?c3_10 ?c4_10 ?c5_10; ((case kA_10 => exact rfl); (case kF_10 => exact rfl); (case kK_10 => assumption); (case k1_10 => k_asm); (case k2_10 => k_asm); (case k3_10 => k_asm); (case k5_10 => k_asm); (case k6_10 => k_is); (case k7_10 => k_is); (case k8_10 => ktr_room); (case k9_10 => exact BindsTo.of_eq rfl); (case c2_10 => exact rfl); (case c3_10 => exact rfl); (case c4_10 => exact rfl)); (case c5_10 => decide); (case kB_10 => exact locs rfl); k_whole))
  intro g' L' h' G' F' N' B' X' T'
  clear B F X T hk
  replace hpre := HasG.list G' hpre
  replace F' : Fr g' L' h' (fun y => List.lookup y [("b", .int (-1) tb), ("a", .ref l)]) := F'
  dsimp only
  k_unmd
  k_fold
  k_steps
  exact hret _ _ _ (fun b o e => Fr.keep (by assumption) _ _ (G' b o e)) rfl
end

section
local macro_rules | `(tactic| walk_at "MyDummy") => `(tactic| skip)
local macro_rules | `(tactic| walk_at "call builtin:hasattr") => `(tactic| ((with_reducible rename Fr _ _ _ _ => F'); (with_reducible rename News _ _ _ _ => N'); k_dflt (refine' hasattr_list (F'.keep _ _ (by assumption)) ?_; k_whole); intro h8 tk8 G8; (have F8 := Fr.keeps F' G8); (have N8 := News.grown N' G8); clear F' N' G8))
local macro_rules | `(tactic| walk_at "binaryOp Add ref ref") => `(tactic| ((with_reducible rename Fr _ _ _ _ => F'); (with_reducible rename News _ _ _ _ => N'); k_dflt (refine' add_lists F' N' (HasG.list F'.keep (by assumption)) (HasG.list F'.keep (by assumption)) ?_ ?hz; (case hz => exact Nat.le_trans (Nat.add_le_add (by assumption) (by assumption)) (by decide)); k_whole); intro h8 F8 N8; clear F' N'))
theorem concat_c {prog : Program} {w : World} (l1 l2 : Addr) (vs1 vs2 : List Value) (k1 : Nat) (hz1 : vs1.length ≤ 1000) (hz2 : vs2.length ≤ 1001) :
    KC prog w 1 8 42 [.ref l1, .ref l2] (fun h => h.get? l1 = some (listOf vs1.toArray k1) ∧ h.IsList l2 vs2.toArray) (fun v h h' => ∃ l, v = .ref l ∧ h.get? l = none ∧ h'.get? l = some (listOf (vs1 ++ vs2).toArray 0)) := by
  walk_at "MyFill"
  unfold KC
  intro p loose mean mg mb dp un gd cn cs a' ccd cl outer A₀ base h₀ L m s Q E B F X T hk hd hu hpre hret
  k_dflt ((refine' kc_enter ?k1_11 ?k2_11 ?k3_11 ?k5_11 ?kA_11 ?kF_11 ?kK_11 ?k6_11 ?k7_11 ?k8_11 ?k9_11 ?kB_11 ?_ ?c2_11 ?c3_11 ?c4_11 ?c5_11; ((case kA_11 => exact rfl); (case kF_11 => exact rfl); (case kK_11 => assumption); (case k1_11 => k_asm); (case k2_11 => k_asm); (case k3_11 => k_asm); (case k5_11 => k_asm); (case k6_11 => k_is); (case k7_11 => k_is); (case k8_11 => ktr_room); (case k9_11 => exact BindsTo.of_eq rfl); (case c2_11 => exact rfl); (case c3_11 => exact rfl); (case c4_11 => exact rfl)); (case c5_11 => decide); (case kB_11 => exact locs rfl); k_whole))
  intro g' L' h' G' F' N' B' X' T'
  clear B F X T hk
  have hp1 := G' _ _ hpre.1
  have hp1' : g'.IsList l1 vs1.toArray := ⟨_, hp1, rfl, _, rfl⟩
  have hp2 := HasG.list G' hpre.2
  replace F' : Fr g' L' h' (fun y => List.lookup y [("b", .ref l2), ("a", .ref l1)]) := F'
  dsimp only
  k_unmd
  k_fold
  k_steps
  with_reducible rename Fr _ _ _ _ => F9
  with_reducible rename News _ _ _ _ => N9
  have z := N9 _ (List.mem_cons_self ..)
  exact hret _ _ _ (fun b o e => F9.keep _ _ (G' b o e)) ⟨_, rfl, G'.none z.2.2, z.1⟩
end

theorem del_last {prog : Program} {w : World} {A : Around} {E : Value → Shared → Prop} {s : Shared} {h₀ : Heap} {L : Addr} {m : Str → Option Value} {l : Addr} {vs : List Value} {x : Value} {u : Tok} {k : Nat} {Q : Unit → Shared → Prop}
    (F : Fr h₀ L s.heap m) (N : News h₀ L s.heap [(l, listOf (vs ++ [x]).toArray k)]) (hz : vs.length ≤ 1000)
    (h : ∀ h' k', Fr h₀ L h' m → News h₀ L h' [(l, listOf vs.toArray k')] → Q () { s with heap := h' }) : wpAny (model prog w) A (delItem (.ref l) (.int (-1) u)) Q E s := by
  have z := N _ (List.mem_cons_self ..)
  have hsz : (vs ++ [x]).toArray.size = vs.length + 1 := by simp
  have hz' : (vs ++ [x]).toArray.size ≤ sizeLine := by
    rw [hsz]; have e : sizeLine = 16777216 := by decide
    omega
  have hk' : seqIndex? (-1) (vs ++ [x]).toArray.size = some vs.length := by
    rw [hsz, seqIndex_neg (by decide) (by omega)]
    congr 1; omega
  refine wpAny_delItem_plain (hsz := hz') (k := vs.length) ⟨k, z.1⟩ (by decide) hk' fun h' hp hs => ?_
  have e : (vs ++ [x]).toArray.eraseIdxIfInBounds vs.length = vs.toArray := by
    apply Array.toList_inj.mp
    rw [Array.toList_eraseIdxIfInBounds]
    simp [List.eraseIdx_append_of_length_le]
  rw [e] at hp
  obtain ⟨k', hp⟩ := hp
  refine h h' k' (F.change hs z.2.1 z.2.2) fun p hp' => ?_
  rw [List.mem_singleton.mp hp']
  exact ⟨hp, z.2⟩

section
local macro_rules | `(tactic| walk_at "MyDummy") => `(tactic| skip)
local macro_rules | `(tactic| walk_at "MyDummy") => `(tactic| skip)
local macro_rules | `(tactic| walk_at "delItem ref int") => `(tactic| ((with_reducible rename Fr _ _ _ _ => F'); (with_reducible rename News _ _ _ _ => N'); k_dflt (refine' del_last F' N' (by assumption) ?_; k_whole); intro h8 k8 F8 N8; clear F' N'))
theorem delitem_c {prog : Program} {w : World} (l : Addr) (vs : List Value) (x : Value) (tb : Tok) (k : Nat) (hz : vs.length ≤ 1000)
    {p : Program} {loose : List Str} {mean : ExcName → Option Value} {mg mb : Str → Option Value} {dp un : Nat} {gd : Option (List Code)} {cn : Str} {cs : Scope} {a' : Addr} {ccd : Value} {cl : List (Str × Addr)} {outer : List Env} {A₀ : Around}
    {base h₀ : Heap} {L : Addr} {m : Str → Option Value} {s : Shared} {Q E : Value → Shared → Prop}
    (B : Below A₀ base outer h₀) (F : Fr h₀ L s.heap m) (X : (Mine.hd.heap_1 w.params).In h₀) (T : Top p loose mean mg mb h₀) (hk : cs.kind = .function) (hd : dp + 1 < recursionLimit) (hu : un + 8 < cLine)
    (N : News h₀ L s.heap [(l, listOf (vs ++ [x]).toArray k)])
    (hret : ∀ (h' : Heap) (tk' k' : Nat), (∀ b o, b ≠ l → s.heap.get? b = some o → h'.get? b = some o) → h'.get? l = some (listOf vs.toArray k') → Q .none { s with heap := h', toks := tk' }) :
    wpAny (model prog w) (ktrTop dp un gd cn cs L a' ccd cl outer) (call (.ref 49) [.ref l, .int (-1) tb]) Q E s := by
  walk_at "MyFill"
  k_dflt ((refine' kc_enterW ?k0_12 ?k1_12 ?k2_12 ?k3_12 ?k5_12 ?kA_12 ?kF_12 ?kK_12 ?k6_12 ?k7_12 ?k8_12 ?k9_12 ?kB_12 ?_ ?c2_12 ?c3_12 ?c4_12 ?c5_12; (case k0_12 => k_asm); ((case kA_12 => exact rfl); (case kF_12 => exact rfl); (case kK_12 => assumption); (case k1_12 => k_asm); (case k2_12 => k_asm); (case k3_12 => k_asm); (case k5_12 => k_asm); (case k6_12 => k_is); (case k7_12 => k_is); (case k8_12 => ktr_room); (case k9_12 => exact BindsTo.of_eq rfl); (case c2_12 => exact rfl); (case c3_12 => exact rfl); (case c4_12 => exact rfl)); (case c5_12 => decide); (case kB_12 => exact locs rfl); k_whole))
  intro g' L' h' G' F' N' B' X' T'
  clear B F X T hk N
  replace F' : Fr g' L' h' (fun y => List.lookup y [("b", .int (-1) tb), ("a", .ref l)]) := F'
  dsimp only
  k_unmd
  k_fold
  k_steps
  with_reducible rename Fr _ _ _ _ => F9
  with_reducible rename News _ _ _ _ => N9
  have z := N9 _ (List.mem_cons_self ..)
  exact hret _ _ _ (fun b o hb e => F9.keep _ _ (G' b o e (by simpa using hb))) z.1
end

end
section
local macro_rules | `(tactic| walk_at "MyDummy") => `(tactic| skip)
section
variable {prog : Program} {w : World} {A : Around} {s : Shared} {env : Env} {h₀ : Heap} {body orelse : List Stmt} {Q : Flow → Shared → Prop}

noncomputable def EEnd (h₀ : Heap) (L : Addr) (own : List (Addr × Obj)) (Jn : (Str → Option Value) → Prop) (s₁ : Shared) (Q : Flow → Shared → Prop) (f : Flow) (s₂ : Shared) : Prop :=
  match f with
  | .ret v => Q (.ret v) s₂
  | .brk => Q .next s₂
  | _ => ∃ h' tk m', s₂ = { s₁ with heap := h', toks := tk } ∧ Fr h₀ L h' m' ∧ News h₀ L h' own ∧ Jn m'

/-- a loop over enumerate of a base list that leaves before its end -/
theorem lp_enum {l : Addr} {vs : List Value} {m₀ : Str → Option Value} {xi xv : Str} {pi pv pt : Pos} {x1 : Nat} (J : Nat → (Str → Option Value) → Prop)
    (hh : A.handled = none) (hxi : env.kindOf xi = some .local) (hxv : env.kindOf xv = some .local) (hp : (env.scope.kind == .class || (env.scope.kind == .module && env.locals != env.globals)) = false)
    (hl : h₀.IsList l vs.toArray) (F : Fr h₀ env.locals s.heap m₀) (hj : J 0 m₀)
    (turn : ∀ (i : Nat) v t m₁ h tk e oe it oi, vs[i]? = some v → J i m₁ → Fr h₀ env.locals h (fun y => if y = xv then some v else if y = xi then some (.int i t) else m₁ y) → News h₀ env.locals h [(e, oe), (it, oi)] →
      wpAny (model prog w) A (execs body env) (EEnd h₀ env.locals [(e, oe), (it, oi)] (J (i + 1)) { s with heap := h, toks := tk } Q) (fun _ _ => False) { s with heap := h, toks := tk })
    (nodone : ∀ m', J vs.length m' → False) :
    wpAny (model prog w) A (call (.type "enumerate") [.ref l]) (fun xval s₁ => wpAny (model prog w) A (pyIter xval) (fun it s₂ =>
      codeAny (model prog w) A (.forLoop (.Tuple [.Name xi pi, .Name xv pv] x1 pt) it body orelse env) (fun r s' => match r with | .ok f => Q f s' | .error e => cameBackBy (model prog w) A env (fun _ _ => False) e s') s₂) (fun _ _ => False) s₁) (fun _ _ => False) s := by
  have hls : s.heap.IsList l vs.toArray := hl.at fun o e => F.keep l o e
  refine call_enumerate_list hls fun h' hE hI hsz hk => ?_
  suffices key : ∀ e it : Addr, e = it + 1 → it = s.heap.objs.size → IsEnum h' e it 0 .none → h'.IsListIter it l 0 → wpAny (model prog w) A (pyIter (.ref e)) (fun it s₂ =>
      codeAny (model prog w) A (.forLoop (.Tuple [.Name xi pi, .Name xv pv] x1 pt) it body orelse env) (fun r s' => match r with | .ok f => Q f s' | .error e => cameBackBy (model prog w) A env (fun _ _ => False) e s') s₂) (fun _ _ => False) { s with heap := h' } from
    key _ _ rfl rfl hE hI
  clear hE hI
  intro e it he' hi' hE hI
  refine wpAny_pyIter_enum hE ?_
  refine hide fun hG9 => ?_
  obtain ⟨ol, hol, _⟩ := id hl
  refine hG9 ?_
  clear hG9
  have hl0 : l < h₀.objs.size := Heap.lt_size hol
  have hsz0 : h₀.objs.size ≤ s.heap.objs.size := Nat.le_trans F.above (Nat.le_of_lt F.ns.lt)
  have fresh0 : ∀ a, s.heap.objs.size ≤ a → h₀.get? a = none := fun a ha => by
    cases e : h₀.get? a with
    | none => rfl
    | some o => exact absurd (Heap.lt_size e) (Nat.not_lt.mpr (Nat.le_trans hsz0 ha))
  have hei : e ≠ it := fun q => by rw [q] at he'; exact absurd he' (Nat.ne_of_lt (Nat.lt_succ_self _))
  have hLi : env.locals < it := hi' ▸ F.ns.lt
  have he0 : h₀.get? e = none := fresh0 e (by rw [he', hi']; exact Nat.le_succ _)
  have hi0 : h₀.get? it = none := fresh0 it (Nat.le_of_eq hi'.symm)
  have heL : e ≠ env.locals := Nat.ne_of_gt (Nat.lt_of_lt_of_le hLi (by rw [he']; exact Nat.le_succ _))
  have hiL : it ≠ env.locals := Nat.ne_of_gt hLi
  have hle : l ≠ e := fun q => by rw [q, he0] at hol; cases hol
  have hli : l ≠ it := fun q => by rw [q, hi0] at hol; cases hol
  refine codeAny_forLoop_any (fun k s' => ∃ h' tk m' i old, s' = { s with heap := h', toks := tk } ∧ IsEnum h' e it ((i : Nat) : Int) old ∧ h'.IsListIter it l i ∧ Fr h₀ env.locals h' m' ∧ J i m' ∧ i ≤ vs.length ∧ k = vs.length + 1 - i)
    ?_ (vs.length + 1) ⟨h', s.toks, m₀, 0, .none, rfl, hE, hI, F.keeps hk, hj, Nat.zero_le _, rfl⟩
  intro k s' hJ1_2
  refine hide fun hG9 => ?_
  obtain ⟨H, tk, m', i, old, rfl, heH, hiH, FH, hJ, hi, rfl⟩ := hJ1_2
  refine hG9 ?_
  clear hG9
  have hlH : H.IsList l vs.toArray := hl.at fun o x => FH.keep l o x
  cases hv : vs[i]? with
  | none =>
    have : i = vs.length := Nat.le_antisymm hi (by simpa using hv)
    subst this
    exact (nodone _ hJ).elim
  | some v =>
    have hlt : i < vs.length := (List.getElem?_eq_some_iff.mp hv).1
    refine wpAny_pyNext_enum_item heH hiH hlH (by simpa using hv) hei fun h₁ heo hit₁ ht₁ hz₁ hk₁ => ?_
    refine wpAny_letOwnedTupleGo_enum heo fun h₂ he₂ hs₂ => ?_
    replace hs₂ : Heap.SameBut e h₁ h₂ := hs₂
    have heHs : e < H.objs.size := Heap.lt_size heH
    have ht₂ : h₂.IsTuple H.objs.size #[.int i tk, v] := ⟨_, (hs₂.2 _ (Nat.ne_of_gt heHs)).trans ht₁, rfl, _, rfl⟩
    have hz₂ : h₂.objs.size = H.objs.size + 1 := hs₂.1.trans hz₁
    refine wpAny_assign_Tuple hh ht₂ rfl rfl fun h₃ hx₃ => ?_
    replace hx₃ : Heap.ExtBut h₂.objs.size h₂ h₃ := hx₃
    have old₃ : ∀ b o, b < H.objs.size → h₂.get? b = some o → h₃.get? b = some o := fun b o hb x => hx₃ b o (by rw [hz₂]; exact Nat.ne_of_lt (Nat.lt_succ_of_lt hb)) x
    have kp : ∀ b o, b ≠ e → b ≠ it → H.get? b = some o → h₃.get? b = some o := fun b o hbe hbi x => old₃ b o (Heap.lt_size x) ((hs₂.2 b hbe).trans (hk₁ b o hbe hbi x))
    have F₃ : Fr h₀ env.locals h₃ m' := ⟨FH.ns.at' fun o x => kp _ o (Ne.symm heL) (Ne.symm hiL) x, fun b o x => kp b o (fun q => by rw [q, he0] at x; cases x) (fun q => by rw [q, hi0] at x; cases x) (FH.keep b o x), FH.above⟩
    have heA : h₃.get? e = some { cls := .type "enumerate", dict := none, data := .fields #[.none, .bool false, .ref it, rawInt ((i : Int) + 1), .none, v], slots := #[] } := old₃ e _ heHs he₂
    refine hide fun hG9 => ?_
    obtain ⟨oi, hoi, hoic, hoid⟩ := id hiH
    refine hG9 ?_
    clear hG9
    have hiHs : it < H.objs.size := Heap.lt_size hoi
    have hit₃ : h₃.IsListIter it l (i + 1) := ((hit₁.extBut hs₂.extBut (Ne.symm hei)).at fun o x => old₃ it o hiHs x)
    refine hide fun hG9 => ?_
    obtain ⟨oj, hoj, hojc, hojd⟩ := id hit₃
    refine hG9 ?_
    clear hG9
    show wpAny _ A (do holding [v] (assign (.Name xi pi) env (.int i tk)); do holding [] (assign (.Name xv pv) env v); pure ()) _ _ _
    refine wpAny_bind (wpAny_holding (wpAny_assign_Name (wpAny_storeName_local hxi F₃.ns (fun h₄ hn₄ hs₄ => ?_) hp)))
    replace hs₄ : Heap.SameBut env.locals h₃ h₄ := hs₄
    refine wpAny_bind (wpAny_holding (wpAny_assign_Name (wpAny_storeName_local hxv hn₄ (fun h₅ hn₅ hs₅ => wpAny_pure ?_) hp)))
    replace hs₅ : Heap.SameBut env.locals h₄ h₅ := hs₅
    have F₅ := (F₃.set hn₄ hs₄).set hn₅ hs₅
    have up : ∀ b o, b ≠ env.locals → h₃.get? b = some o → h₅.get? b = some o := fun b o hb x => hs₅.extBut b o hb (hs₄.extBut b o hb x)
    refine wpAny_mono (turn i v tk m' h₅ _ e { cls := .type "enumerate", dict := none, data := .fields #[.none, .bool false, .ref it, rawInt ((i : Int) + 1), .none, v], slots := #[] } it oj hv hJ F₅ (fun p hp => ?_)) (fun f s₃ h₆ => ?_) fun _ _ x => x.elim
    · rcases List.mem_cons.mp hp with rfl | hp
      · exact ⟨up _ _ heL heA, heL, he0⟩
      · rw [List.mem_singleton.mp hp]
        exact ⟨up _ _ hiL hoj, hiL, hi0⟩
    · have fin : (∃ h' tk' m'', s₃ = { s with heap := h', toks := tk' } ∧ Fr h₀ env.locals h' m'' ∧ News h₀ env.locals h' [(e, { cls := .type "enumerate", dict := none, data := .fields #[.none, .bool false, .ref it, rawInt ((i : Int) + 1), .none, v], slots := #[] }), (it, oj)] ∧ J (i + 1) m'') → ∃ mm, mm < vs.length + 1 - i ∧ ∃ h' tk m' i old, s₃ = { s with heap := h', toks := tk } ∧ IsEnum h' e it ((i : Nat) : Int) old ∧ h'.IsListIter it l i ∧ Fr h₀ env.locals h' m' ∧ J i m' ∧ i ≤ vs.length ∧ mm = vs.length + 1 - i := by
        intro hJ4_0
        refine hide fun hG9 => ?_
        obtain ⟨hA, tkA, mA, eA, FA, NA, hJA⟩ := hJ4_0
        refine hG9 ?_
        clear hG9
        refine ⟨vs.length + 1 - (i + 1), by omega, hA, tkA, mA, i + 1, v, eA, ?_, ⟨oj, (NA _ (List.mem_cons_of_mem _ (List.mem_singleton.mpr rfl))).1, hojc, hojd⟩, FA, hJA, hlt, rfl⟩
        have := (NA _ (List.mem_cons_self ..)).1
        have e1 : ((i + 1 : Nat) : Int) = (i : Int) + 1 := by push_cast; rfl
        rw [e1]
        exact this
      cases f with
      | ret v => exact h₆
      | brk => exact h₆
      | next => obtain ⟨h₆', tk₆, m₆, e6, F₆, N₆, hJ₆⟩ := h₆; exact fin ⟨h₆', tk₆, m₆, e6, F₆, N₆, hJ₆⟩
      | cont => obtain ⟨h₆', tk₆, m₆, e6, F₆, N₆, hJ₆⟩ := h₆; exact fin ⟨h₆', tk₆, m₆, e6, F₆, N₆, hJ₆⟩
end

theorem is_int {prog : Program} {w : World} {A : Around} {E : Value → Shared → Prop} {s : Shared} {p q : Int} {t u : Tok} {Q : Value → Shared → Prop} (ht : t ≠ 0 ∧ t ≠ u) (hu : u ≠ 0) (hq : 0 ≤ q ∧ q < 6) (h : Q (.bool (decide (p = q))) s) :
    wpAny (model prog w) A (compareOp .Is (.int p t) (.int q u)) Q E s := by
  show wpAny _ A (isSame (.int p t) (.int q u) >>= fun r => pure (.bool r)) Q E s
  have h0 : ((t == 0) || (u == 0)) = false := by
    rw [Bool.or_eq_false_iff]
    exact ⟨beq_eq_false_iff_ne.mpr ht.1, beq_eq_false_iff_ne.mpr hu⟩
  refine wpAny_bind ?_
  show wpAny _ A (if (p == q && smallInt p) = true then isSame.cachedInt t u else isSame.created (p == q) t u) _ E s
  by_cases hpq : p = q
  · subst hpq
    have hsm : smallInt p = true := by unfold smallInt; simp only [Bool.and_eq_true, decide_eq_true_eq]; omega
    rw [if_pos (by rw [beq_self_eq_true, hsm]; rfl)]
    unfold isSame.cachedInt
    rw [if_neg (by rw [h0]; decide)]
    refine wpAny_bind (wpAny_rule (wpAny_pure (wpAny_pure ?_)))
    rw [decide_eq_true rfl] at h
    exact h
  · have e : (p == q) = false := beq_eq_false_iff_ne.mpr hpq
    rw [e, if_neg (by simp)]
    unfold isSame.created
    rw [if_neg (by rw [h0]; decide), if_neg (by rw [beq_eq_false_iff_ne.mpr ht.2]; decide)]
    show wpAny _ A (if (!false) = true then pure false else _) _ E s
    rw [if_pos (by decide)]
    refine wpAny_pure (wpAny_pure ?_)
    rw [decide_eq_false hpq] at h
    exact h
local macro_rules | `(tactic| walk_at "compareOp Is int int") => `(tactic| (refine is_int (by assumption) (by assumption) (by assumption) ?_))
local macro_rules | `(tactic| walk_at "call type:enumerate") => `(tactic| (refine hold ?_))
local macro_rules | `(tactic| walk_at "exec For Tuple Call cons cons") => `(tactic| (refine hold ?_))
theorem indexOf_c {prog : Program} {w : World} (l : Addr) (vs : List Value) (ks : List Int) (k : Int) (tk0 : Tok) (n : Nat) (hv : IntsAre vs ks) (hz : vs.length ≤ 1000) (hn : ks[n]? = some k) (hf : ∀ j, j < n → ks[j]? ≠ some k) (hk0 : 0 ≤ k ∧ k < 6) (htk : tk0 ≠ 0) (htv : ∀ (i : Nat) (m : Int) (t : Tok), vs[i]? = some (Value.int m t) → t ≠ 0 ∧ t ≠ tk0) :
    KC prog w 1 16 63 [.ref l, .int k tk0] (fun h => h.IsList l vs.toArray) (fun v _ _ => ∃ b, b = n ∧ ∃ t, v = .int (b : Nat) t) := by
  walk_at "MyFill"
  unfold KC
  intro p loose mean mg mb dp un gd cn cs a' ccd cl outer A₀ base h₀ L m s Q E B F X T hk hd hu hpre hret
  k_dflt ((refine' kc_enter ?k1_13 ?k2_13 ?k3_13 ?k5_13 ?kA_13 ?kF_13 ?kK_13 ?k6_13 ?k7_13 ?k8_13 ?k9_13 ?kB_13 ?_ ?c2_13 ?c3_13 ?c4_13 ?c5_13; ((case kA_13 => exact rfl); (case kF_13 => exact rfl); (case kK_13 => assumption); (case k1_13 => k_asm); (case k2_13 => k_asm); (case k3_13 => k_asm); (case k5_13 => k_asm); (case k6_13 => k_is); (case k7_13 => k_is); (case k8_13 => ktr_room); (case k9_13 => exact BindsTo.of_eq rfl); (case c2_13 => exact rfl); (case c3_13 => exact rfl); (case c4_13 => exact rfl)); (case c5_13 => decide); (case kB_13 => exact locs rfl); k_whole))
  intro g' L' h' G' F' N' B' X' T'
  clear B F X T hk
  replace hpre := HasG.list G' hpre
  replace F' : Fr g' L' h' (fun y => List.lookup y [("b", .int k tk0), ("a", .ref l)]) := F'
  dsimp only
  k_unmd
  k_fold
  k_steps
  refine unhold (wpAny_For ?_ (fun _ => rfl))
  k_steps
  with_reducible rename Fr _ _ _ _ => F9
  refine unhold (lp_enum (s := { s with heap := h', toks := _ }) (vs := vs) (fun i m' => i ≤ n ∧ m' (Str.ofString "b") = some (.int k tk0)) rfl rfl rfl rfl hpre F9 ⟨Nat.zero_le _, rfl⟩ ?_ ?_)
  · intro i v t m₁ h tk' e oe it oi hvi hJ F N
    obtain ⟨hin, hb⟩ := hJ
    have hik : i < ks.length := by rw [← hv.length]; exact (List.getElem?_eq_some_iff.mp hvi).1
    obtain ⟨t', hx⟩ := hv.get i ks[i] (List.getElem?_eq_getElem hik)
    rw [hx] at hvi
    have htt := htv _ _ _ hx
    obtain rfl := Option.some.inj hvi
    have hki : ks[i]? = some ks[i] := List.getElem?_eq_getElem hik
    have em : (fun y => if y = Str.ofString "j" then some (Value.int ks[i] t') else if y = Str.ofString "i" then some (.int i t) else m₁ y) =
        fun y => if y = Str.ofString "j" then some (Value.int ks[i] t') else if y = Str.ofString "i" then some (.int i t) else if y = Str.ofString "b" then some (.int k tk0) else m₁ y := by
      funext y
      by_cases h3 : y = Str.ofString "b"
      · subst h3; simp [hb]
      · simp [h3]
    rw [em] at F
    generalize hkk : ks[i] = kk at *
    clear em hvi
    k_unmd
    k_fold
    k_steps
    · have hlast : i = n := by
        rcases Nat.lt_or_ge i n with hlt | hge
        · exact absurd (by subst_vars; exact hki) (hf i hlt)
        · omega
      exact hret _ _ _ (fun b o e => F.keep _ _ (G' b o e)) ⟨_, hlast, _, rfl⟩
    · have hlast : i = n := by
        rcases Nat.lt_or_ge i n with hlt | hge
        · exact absurd (by subst_vars; exact hki) (hf i hlt)
        · omega
      exact hret _ _ _ (fun b o e => F.keep _ _ (G' b o e)) ⟨_, hlast, _, rfl⟩
    · have hne : i ≠ n := by
        rintro rfl
        rw [hki] at hn
        exact absurd (Option.some.inj hn) (by assumption)
      exact ⟨h, _, _, rfl, F, N, by omega, rfl⟩
  · rintro m' ⟨h1, _⟩
    have : n < ks.length := (List.getElem?_eq_some_iff.mp hn).1
    rw [hv.length] at h1
    omega

end
local macro_rules | `(tactic| walk_at "call ref") => `(tactic| (k_here; (with_reducible show wpAny _ _ (call (Value.ref 35) [_, _]) _ _ _); k_dflt (refine kc_useA (lt_c _ _ _ _) trivial ?_); walk_at "MyBack"))
local macro_rules | `(tactic| walk_at "subscriptTail") => `(tactic| ((with_reducible show wpAny _ _ (subscriptTail _ _ (Value.ref _) (Value.int _ _)) _ _ _); (with_reducible rename Fr _ _ _ _ => F7); k_dflt (refine' item_anyK (HasG.list F7.keep (by assumption)) (by assumption) ?_ ?_ ?_ ?_ (by with_unfolding_all rfl); (· omega); (· omega); (· omega)); intro _))
local macro_rules | `(tactic| walk_at "pyIter ref") => `(tactic| (refine hold ?_))
local macro_rules | `(tactic| walk_at "exec For Name Name cons nil") => `(tactic| (refine hold ?_))
local macro_rules | `(tactic| walk_at "exec For Name Call cons nil") => `(tactic| (refine hold ?_))
local macro_rules | `(tactic| walk_at "call builtin:list.append") => `(tactic| (refine hold ?_))
local macro_rules | `(tactic| walk_at "call ref") => `(tactic| (k_here; (with_reducible show wpAny _ _ (call (Value.ref 148) [Value.str _ _, Value.ref _]) _ _ _); (with_reducible rename News _ _ _ _ => N7); k_dflt (refine kc_useA (found3 _ _ _ _ _ _ _ _ _ ?_ ?_ ?_ ?_) (News.isTup N7 (by k_mem)) ?_); (· omega); (· omega); (· omega); (· omega); walk_at "MyBack"))
local macro_rules | `(tactic| walk_at "getMethod ref") => `(tactic| (k_here; (with_reducible show wpAny _ _ (getMethod (Value.ref _) (PySem.Str.ofString "append") _) _ _ _); (with_reducible rename News _ _ _ _ => N7); k_dflt (refine listMethod_K N7 (by (repeat (first | with_reducible assumption | refine List.mem_cons_of_mem _ ?_))) PySem.F.slot_list_append PySem.F.type_list_append ?_)))
local macro_rules | `(tactic| walk_at "MyBackH") => `(tactic| ((with_reducible rename Heap.Ns _ _ _ => NS8); (with_reducible rename HasG _ _ => HG8); intro v9 h9 tk9 G9 hv9; (obtain ⟨b9, hb9, hv9⟩ := hv9); subst hv9; (with_reducible rename Fr _ _ _ _ => F8); (with_reducible rename News _ _ _ _ => N8); (have F9 := Fr.keeps F8 G9); (have N9 := News.grown N8 G9); (have NS9 := Heap.Ns.keeps NS8 G9); (have HG9 := HasG.tr HG8 G9); clear F8 N8 NS8 HG8 G9; (try dsimp only); (try k_unmd); (try k_fold)))
local macro_rules | `(tactic| walk_at "call builtin:str.join") => `(tactic| ((with_reducible rename News _ _ _ _ => N'); k_dflt (refine' join_led N' ?k1 ?k2 ?k3 ?_; (case k1 => (repeat (first | with_reducible assumption | exact List.mem_cons_self .. | refine List.mem_cons_of_mem _ ?_))); (case k2 => assumption); (case k3 => assumption); k_whole); intro t' k'))
local macro_rules | `(tactic| walk_at "subscriptTail") => `(tactic| ((with_reducible show wpAny _ _ (subscriptTail _ _ (Value.str (PySem.Str.ofString "abcdef") _) (Value.int _ _)) _ _ _); (refine item_abc (by omega) (by omega) ?_ (by with_unfolding_all rfl) (by intro _; with_unfolding_all rfl)); intro _ _))

section
/-! ### _law_piled -/
noncomputable def kv : Value → Int | .int k _ => k | _ => 0
noncomputable def spill (f : Value → Int) (v : Value) : List Value → List Value → List Value × List Value
  | off, [] => (off, [])
  | off, a :: r => if f a < f v then spill f v (off ++ [a]) r else (off, a :: r)
noncomputable def pstep (f : Value → Int) (st : List Value × List Value) (v : Value) : List Value × List Value := ((spill f v st.1 st.2).1, v :: (spill f v st.1 st.2).2)
noncomputable def piledV (f : Value → Int) (vs : List Value) : List Value := (vs.foldl (pstep f) ([], [])).1 ++ (vs.foldl (pstep f) ([], [])).2
noncomputable def tf (ts : List Int) (v : Value) : Int := ts.getD (kv v).toNat 0
theorem pstep_done {f : Value → Int} {vs off rp off' rp' : List Value} {i : Nat} {v : Value} (hst : (off, rp) = (vs.take i).foldl (pstep f) ([], [])) (hv : vs[i]? = some v) (hsp : spill f v off' rp' = spill f v off rp) (hx : spill f v off' rp' = (off', rp')) :
    (off', v :: rp') = (vs.take (i + 1)).foldl (pstep f) ([], []) := by
  rw [List.take_add_one, hv, Option.toList_some, List.foldl_append, ← hst]
  show _ = pstep f (off, rp) v
  unfold pstep
  rw [← hsp, hx]
noncomputable def K6 (v : Value) : Prop := ∃ k t, v = .int k t ∧ 0 ≤ k ∧ k < 6
theorem ints_kv : ∀ (l : List Value), (∀ a ∈ l, K6 a) → IntsAre l (l.map kv)
  | [], _ => .nil
  | a :: r, h => by
    refine hide fun hG9 => ?_
    obtain ⟨k, t, rfl, _⟩ := h a (List.mem_cons_self ..)
    refine hG9 ?_
    clear hG9
    exact .cons k t (ints_kv r fun b hb => h b (List.mem_cons_of_mem _ hb))

local macro_rules | `(tactic| walk_at "call ref") => `(tactic| (k_here; (with_reducible show wpAny _ _ (call (Value.ref 49) [_, _]) _ _ _); refine hold ?_))
local macro_rules | `(tactic| walk_at "call ref") => `(tactic| (k_here; (with_reducible show wpAny _ _ (call (Value.ref 42) [_, _]) _ _ _); refine hold ?_))
local macro_rules | `(tactic| walk_at "call ref") => `(tactic| (k_here; (with_reducible show wpAny _ _ (call (Value.ref 56) [_, _]) _ _ _); (with_reducible rename News _ _ _ _ => N7); k_dflt (refine kc_useA (getitem_c _ _ _ _ ?_) (News.lst N7 (by k_mem)) ?_); (· with_reducible assumption); (intro v9 h9 tk9 G9 hv9; subst hv9; (with_reducible rename Fr _ _ _ _ => F8); (with_reducible rename News _ _ _ _ => N8); (have F9 := Fr.keeps F8 G9); (have N9 := News.grown N8 G9); clear F8 N8 G9; (try dsimp only); (try k_unmd); (try k_fold))))
local macro_rules | `(tactic| walk_at "compareOp NotEq ref ref") => `(tactic| ((with_reducible rename News _ _ _ _ => N7); (k_dflt first | (refine' ne_nil (News.lst N7 (by k_mem)) (by assumption) (News.lst N7 (by k_mem)) (by units_room) ?_) | (refine' ne_nil0 (News.lst N7 (by k_mem)) (News.lst N7 (by k_mem)) (by units_room) ?_))))
local macro_rules | `(tactic| walk_at "MyConcat") => `(tactic| ((with_reducible rename News _ _ _ _ => N7); k_dflt (refine unhold (kc_useA (concat_c _ _ _ _ _ ?_ ?_) ⟨News.get N7 (by k_mem), News.lst N7 (by k_mem)⟩ ?_)); (· first | with_reducible assumption | exact Nat.zero_le _); (· first | with_reducible assumption | exact Nat.le_of_ble_eq_true rfl)))
local macro_rules | `(tactic| walk_at "subscriptTail") => `(tactic| ((with_reducible show wpAny _ _ (subscriptTail _ _ (Value.ref _) (Value.ref _)) _ _ _); refine hold ?_))
local macro_rules | `(tactic| walk_at "exec While BoolOp cons nil") => `(tactic| (refine hold ?_))
theorem piled_c {prog : Program} {w : World} (lo lt : Addr) (vs tv : List Value) (ts : List Int) (hk6 : ∀ v ∈ vs, K6 v) (htv : IntsAre tv ts) (ht6 : ts.length = 6) (hz : vs.length ≤ 6) :
    KC prog w 2 128 155 [.ref lo, .ref lt] (fun h => h.IsList lo vs.toArray ∧ h.IsList lt tv.toArray) (fun v h h' => ∃ l b, b = piledV (tf ts) vs ∧ v = .ref l ∧ h.get? l = none ∧ h'.get? l = some (listOf b.toArray 0)) := by
  walk_at "MyFill"
  unfold KC
  intro p loose mean mg mb dp un gd cn cs a' ccd cl outer A₀ base h₀ L m s Q E B F X T hk hd hu hpre hret
  k_dflt ((refine' kc_enter ?k1_14 ?k2_14 ?k3_14 ?k5_14 ?kA_14 ?kF_14 ?kK_14 ?k6_14 ?k7_14 ?k8_14 ?k9_14 ?kB_14 ?_ ?c2_14 ?c3_14 ?c4_14 ?c5_14; ((case kA_14 => exact rfl); (case kF_14 => exact rfl); (case kK_14 => assumption); (case k1_14 => k_asm); (case k2_14 => k_asm); (case k3_14 => k_asm); (case k5_14 => k_asm); (case k6_14 => k_is); (case k7_14 => k_is); (case k8_14 => ktr_room); (case k9_14 => exact BindsTo.of_eq rfl); (case c2_14 => exact rfl); (case c3_14 => exact rfl); (case c4_14 => exact rfl)); (case c5_14 => decide); (case kB_14 => exact locs rfl); k_whole))
  intro g' L' h' G' F' N' B' X' T'
  clear B F X T hk
  have hlo := HasG.list G' hpre.1
  have hlt := HasG.list G' hpre.2
  replace F' : Fr g' L' h' (fun y => List.lookup y [("told", .ref lt), ("order", .ref lo)]) := F'
  dsimp only
  k_unmd
  k_fold
  k_steps
  refine For_K ?_ (fun _ => rfl)
  k_steps
  with_reducible rename Fr _ _ _ _ => F9
  with_reducible rename News _ _ _ _ => N9
  refine hide fun hG9 => ?_
  obtain ⟨olo, holo, _⟩ := id hlo
  refine hG9 ?_
  clear hG9
  refine unhold (lk_list (T := 0) (Nat.zero_le _) [] (fun i m news => ∃ P O kP rp off, (P, listOf rp.reverse.toArray kP) ∈ news ∧ (O, listOf off.toArray 0) ∈ news ∧ P ≠ O ∧
      (off, rp) = (vs.take i).foldl (pstep (tf ts)) ([], []) ∧ off.length + rp.length = i ∧ (∀ a ∈ off, a ∈ vs) ∧ (∀ a ∈ rp, a ∈ vs) ∧ Kn [(Str.ofString "pile", .ref P), (Str.ofString "off", .ref O), (Str.ofString "told", .ref lt)] m)
    rfl rfl rfl (HasG.list F9.keep hlo) (.inl ⟨_, holo⟩) F9 N9 (fun _ _ _ _ p hp => nomatch hp) ?_ ?_ ?_)
  · exact ⟨_, _, 0, [], [], List.Mem.tail _ (List.Mem.head _), List.Mem.head _, Nat.ne_of_lt (by assumption), rfl, rfl, (fun _ h => nomatch h), (fun _ h => nomatch h), rfl, rfl, rfl, trivial⟩
  · intro i v m₁ news₁ h tk I o _ hvi hJ hnI F N
    clear F9 N9
    refine hide fun hG9 => ?_
    obtain ⟨P, O, kP, rp, off, hP, hO, hPO, hst, hlen, hoff, hrp, kn⟩ := hJ
    refine hG9 ?_
    clear hG9
    have hvm : v ∈ vs := List.mem_of_getElem? hvi
    have hi : i < vs.length := (List.getElem?_eq_some_iff.mp hvi).1
    refine hide fun hG9 => ?_
    obtain ⟨k, t, rfl, hk0, hk6'⟩ := hk6 v hvm
    refine hG9 ?_
    clear hG9
    replace F := Fr.knX F kn
    have N1 := News.three N (List.mem_cons_self ..) (List.mem_cons_of_mem _ hP) (List.mem_cons_of_mem _ hO)
    have hPI := hnI _ hP
    have hOI := hnI _ hO
    clear N hP hO hnI kn
    simp only [ovr] at F
    k_unmd
    k_fold
    k_steps
    refine While_K (fun n m news => ∃ P O kP rp' off', n = rp'.length ∧ (P, listOf rp'.reverse.toArray kP) ∈ news ∧ (O, listOf off'.toArray 0) ∈ news ∧ (I, o) ∈ news ∧ P ≠ O ∧ P ≠ I ∧ O ≠ I ∧ spill (tf ts) (.int k t) off' rp' = spill (tf ts) (.int k t) off rp ∧
      off'.length + rp'.length = i ∧ (∀ a ∈ off', a ∈ vs) ∧ (∀ a ∈ rp', a ∈ vs) ∧ Kn [(Str.ofString "pile", .ref P), (Str.ofString "off", .ref O), (Str.ofString "told", .ref lt), (Str.ofString "k", .int k t)] m) rp.length F N1
      ⟨P, O, kP, rp, off, rfl, List.Mem.tail _ (List.Mem.head _), List.Mem.tail _ (List.Mem.tail _ (List.Mem.head _)), List.Mem.head _, hPO, hPI, hOI, rfl, hlen, hoff, hrp, rfl, rfl, rfl, rfl, trivial⟩ ?_
    clear F N1 hPO hPI hOI hrp hoff hlen
    clear P O kP
    intro n m₂ news₂ h₂ tk₂ F N hJ4_7
    refine hide fun hG9 => ?_
    obtain ⟨P, O, kP, rp', off', rfl, hP, hO, hI, hPO, hPI, hOI, hsp, hlen, hoff, hrp, kn⟩ := hJ4_7
    refine hG9 ?_
    clear hG9
    replace F := Fr.kn F kn
    have N1 := News.three N hI hP hO
    clear N hP hO hI kn
    simp only [ovr] at F
    have hzo : off'.length ≤ 1000 := by omega
    cases rp' with
    | nil =>
      k_unmd
      k_fold
      k_steps
      walk_at "MyConcat"
      with_reducible rename Fr _ _ _ _ => F7
      with_reducible rename News _ _ _ _ => N7
      intro v9 h9 tk9 G9 hJ5_4
      refine hide fun hG9 => ?_
      obtain ⟨l9, rfl, hn9, hg9⟩ := hJ5_4
      refine hG9 ?_
      clear hG9
      have F9 := Fr.keeps F7 G9
      have N9 := News.born F7 N7 G9 hn9 hg9
      have D9 := News.off N7 hn9
      clear F7 N7 G9 hn9 hg9
      (try dsimp only)
      k_unmd
      k_fold
      k_steps
      with_reducible rename Fr _ _ _ _ => F7
      with_reducible rename News _ _ _ _ => N7
      refine lend F7 (News.three N7 (by k_mem) (List.Mem.head _) (by k_mem)) ?_ ⟨l9, O, 0, [.int k t], off', List.Mem.head _, List.Mem.tail _ (List.Mem.head _), fun e => D9 (O, listOf off'.toArray 0) (by k_mem) e.symm, pstep_done hst hvi hsp rfl, by simp only [List.length_cons, List.length_nil] at hlen ⊢; omega, hoff, ?_, rfl, rfl, rfl, trivial⟩
      · intro p hp
        rcases List.mem_cons.mp hp with rfl | hp
        · exact fun e => D9 (I, o) (by k_mem) e.symm
        · rw [List.mem_singleton.mp hp]; exact hOI
      · intro b hb
        rcases List.mem_cons.mp hb with rfl | hb
        · exact hvm
        · exact hrp b hb
    | cons a r =>
      refine hide fun hG9 => ?_
      obtain ⟨ka, ta, rfl, ha0, ha6⟩ := hk6 a (hrp a (List.mem_cons_self ..))
      refine hG9 ?_
      clear hG9
      have hzr : r.reverse.length ≤ 1000 := by rw [List.length_reverse]; simp only [List.length_cons] at hlen; omega
      have hzp : (r.reverse ++ [Value.int ka ta]).length ≤ 1000 := by simp only [List.length_append, List.length_reverse, List.length_cons, List.length_nil] at hlen ⊢; omega
      have hia : IntsAre (r.reverse ++ [Value.int ka ta]) ((r.reverse ++ [Value.int ka ta]).map kv) := by
        refine ints_kv _ fun b hb => hk6 b (hrp b ?_)
        rcases List.mem_append.mp hb with hb | hb
        · exact List.mem_cons_of_mem _ (List.mem_reverse.mp hb)
        · rw [List.mem_singleton.mp hb]; exact List.mem_cons_self ..
      rw [List.reverse_cons] at N1
      k_unmd
      k_fold
      k_steps
      · have hc : tf ts (.int ka ta) < tf ts (.int k t) := decT (by assumption) (by assumption)
        walk_at "MyConcat"
        with_reducible rename Fr _ _ _ _ => F7
        with_reducible rename News _ _ _ _ => N7
        intro v9 h9 tk9 G9 hJ7_4
        refine hide fun hG9 => ?_
        obtain ⟨l9, rfl, hn9, hg9⟩ := hJ7_4
        refine hG9 ?_
        clear hG9
        have F9 := Fr.keeps F7 G9
        have N9 := News.born F7 N7 G9 hn9 hg9
        have D9 := News.off N7 hn9
        clear F7 N7 G9 hn9 hg9
        (try dsimp only)
        k_unmd
        k_fold
        k_steps
        with_reducible rename Fr _ _ _ _ => F7
        with_reducible rename News _ _ _ _ => N7
        k_dflt (refine unhold (delitem_c P r.reverse (.int ka ta) _ kP hzr (by k_asm) (by k_asm) (by k_asm) (by k_asm) rfl (by ktr_room) (by ktr_units) (News.one N7 (by k_mem)) ?_))
        intro h8 tk8 k8 G8 hP8
        have F8 := Fr.but F7 (N7 (P, _) (by k_mem)).2.1 (N7 (P, _) (by k_mem)).2.2 G8
        have N8 := News.but (rest := [(I, o), (l9, listOf (off' ++ [Value.int ka ta]).toArray 0)]) N7 (by k_mem) G8 hP8 (by
          intro p hp
          rcases List.mem_cons.mp hp with rfl | hp
          · exact ⟨by k_mem, fun e => hPI e.symm⟩
          · rw [List.mem_singleton.mp hp]
            exact ⟨by k_mem, fun e => D9 (P, _) (by k_mem) e.symm⟩)
        clear F7 N7
        (try dsimp only)
        k_unmd
        (try k_fold)
        k_steps
        with_reducible rename Fr _ _ _ _ => F7
        with_reducible rename News _ _ _ _ => N7
        exact WhileStep.intro F7 N7 (Nat.lt_succ_self _) ⟨P, l9, k8, r, off' ++ [.int ka ta], rfl, (by k_mem), (by k_mem), (by k_mem), fun e => D9 (P, _) (by k_mem) e, hPI, fun e => D9 (I, o) (by k_mem) e.symm,
          by rw [← hsp]; (conv => rhs; unfold spill); rw [if_pos hc], by simp only [List.length_append, List.length_cons, List.length_nil] at hlen ⊢; omega,
          fun b hb => by
            rcases List.mem_append.mp hb with hb | hb
            · exact hoff b hb
            · rw [List.mem_singleton.mp hb]; exact hrp _ (List.mem_cons_self ..), fun b hb => hrp b (List.mem_cons_of_mem _ hb), rfl, rfl, rfl, rfl, trivial⟩
      · have hc : ¬ tf ts (.int ka ta) < tf ts (.int k t) := decF (by assumption) (by assumption)
        walk_at "MyConcat"
        with_reducible rename Fr _ _ _ _ => F7
        with_reducible rename News _ _ _ _ => N7
        intro v9 h9 tk9 G9 hJ8_4
        refine hide fun hG9 => ?_
        obtain ⟨l9, rfl, hn9, hg9⟩ := hJ8_4
        refine hG9 ?_
        clear hG9
        have F9 := Fr.keeps F7 G9
        have N9 := News.born F7 N7 G9 hn9 hg9
        have D9 := News.off N7 hn9
        clear F7 N7 G9 hn9 hg9
        (try dsimp only)
        k_unmd
        k_fold
        k_steps
        with_reducible rename Fr _ _ _ _ => F7
        with_reducible rename News _ _ _ _ => N7
        refine lend F7 (News.three N7 (by k_mem) (List.Mem.head _) (by k_mem)) ?_ ⟨l9, O, 0, .int k t :: .int ka ta :: r, off', (by rw [List.reverse_cons, List.reverse_cons]; exact List.Mem.head _), List.Mem.tail _ (List.Mem.head _), fun e => D9 (O, listOf off'.toArray 0) (by k_mem) e.symm, pstep_done hst hvi hsp (by unfold spill; rw [if_neg hc]), by simp only [List.length_cons, List.length_nil] at hlen ⊢; omega, hoff, ?_, rfl, rfl, rfl, trivial⟩
        · intro p hp
          rcases List.mem_cons.mp hp with rfl | hp
          · exact fun e => D9 (I, o) (by k_mem) e.symm
          · rw [List.mem_singleton.mp hp]; exact hOI
        · intro b hb
          rcases List.mem_cons.mp hb with rfl | hb
          · exact hvm
          · exact hrp b hb
  · intro m₁ news₁ h tk _ hJ9_5 F N
    refine hide fun hG9 => ?_
    obtain ⟨P, O, kP, rp, off, hP, hO, hPO, hst, hlen, hoff, hrp, kn⟩ := hJ9_5
    refine hG9 ?_
    clear hG9
    replace F := Fr.kn F kn
    have N1 := News.two N hP hO
    clear F9 N9 N hP hO kn
    simp only [ovr] at F
    dsimp only
    k_unmd
    (try k_fold)
    k_steps
    with_reducible rename Fr _ _ _ _ => F7
    with_reducible rename News _ _ _ _ => N7
    have hl7 := News.lst (a := P) N7 (by k_mem)
    have hzr : rp.reverse.length ≤ 1000 := by rw [List.length_reverse]; omega
    have hzr' : rp.length ≤ 1001 := by omega
    have hzo : off.length ≤ 1000 := by omega
    k_dflt (refine unhold (slice_list3 F7 N7 hl7 .none .none (.int _ _) (by decide) ?_ (hsz := ?_)))
    rotate_left
    · have e : sizeLine = 16777216 := by decide
      simp only [List.size_toArray]; omega
    intro h8 F8 N8
    have e8 : slicePick rp.reverse.toArray none none (some (-1)) = rp.toArray := by rw [krv_pick]; simp
    rw [e8] at N8
    clear F7 N7
    (try dsimp only)
    k_unmd
    (try k_fold)
    k_steps
    walk_at "MyConcat"
    with_reducible rename Fr _ _ _ _ => F7
    intro v9 h9 tk9 G9 hJ10_4
    refine hide fun hG9 => ?_
    obtain ⟨l9, rfl, hn9, hg9⟩ := hJ10_4
    refine hG9 ?_
    clear hG9
    have F9 := Fr.keeps F7 G9
    have hn := HasG.none G' (Fr.noneBack F7 hn9)
    clear F7
    (try dsimp only)
    k_unmd
    (try k_fold)
    k_steps
    rw [List.take_length] at hst
    exact hret _ _ _ (fun b o e => F9.keep _ _ (G' b o e)) ⟨l9, off ++ rp, by unfold piledV; rw [← hst], rfl, hn, hg9⟩

end
section
/-! ### _law_kept -/
noncomputable def tI (ts : List Int) (k : Int) : Int := ts.getD k.toNat 0
noncomputable def midB (ts : List Int) (page : Str) (x z : Int) (r : Nat) : Bool := decide (tI ts x < tI ts (r : Nat)) && foundB page [x, (r : Nat), z]
noncomputable def keptCell (ts : List Int) (page : Str) (x z : Int) : List (Int × Int) := if (decide (tI ts z < tI ts x) && (List.range 6).any (midB ts page x z)) = true then [(x, z)] else []
noncomputable def keptRow (ts : List Int) (page : Str) (x : Int) (n : Nat) : List (Int × Int) := (List.range n).flatMap fun z => keptCell ts page x (z : Nat)
noncomputable def keptL (ts : List Int) (page : Str) (n : Nat) : List (Int × Int) := (List.range n).flatMap fun x => keptRow ts page (x : Nat) 6
theorem keptRow_succ (ts : List Int) (page : Str) (x : Int) (n : Nat) : keptRow ts page x (n + 1) = keptRow ts page x n ++ keptCell ts page x (n : Nat) := by
  unfold keptRow; rw [List.range_succ, List.flatMap_append]; simp
theorem keptL_succ (ts : List Int) (page : Str) (n : Nat) : keptL ts page (n + 1) = keptL ts page n ++ keptRow ts page (n : Nat) 6 := by
  unfold keptL; rw [List.range_succ, List.flatMap_append]; simp
theorem keptRow_len (ts : List Int) (page : Str) (x : Int) (n : Nat) : (keptRow ts page x n).length ≤ n := by
  induction n with
  | zero => exact Nat.le_refl _
  | succ n ih =>
    rw [keptRow_succ, List.length_append]
    have : (keptCell ts page x (n : Nat)).length ≤ 1 := by unfold keptCell; split <;> simp
    omega
theorem keptL_len (ts : List Int) (page : Str) (n : Nat) : (keptL ts page n).length ≤ 6 * n := by
  induction n with
  | zero => exact Nat.le_refl _
  | succ n ih =>
    rw [keptL_succ, List.length_append]
    have := keptRow_len ts page (n : Nat) 6
    omega
theorem keptCell_no {ts : List Int} {page : Str} {x z : Int} (h : ¬ tI ts z < tI ts x) : keptCell ts page x z = [] := by
  unfold keptCell; rw [decide_eq_false h]; rfl
theorem keptCell_none {ts : List Int} {page : Str} {x z : Int} (h : ∀ r, r < 6 → midB ts page x z r = false) : keptCell ts page x z = [] := by
  unfold keptCell
  have : (List.range 6).any (midB ts page x z) = false := by
    rw [List.any_eq_false]
    intro r hr; rw [h r (List.mem_range.mp hr)]; decide
  rw [this, Bool.and_false]; rfl
theorem keptCell_one {ts : List Int} {page : Str} {x z : Int} (h : tI ts z < tI ts x) {r : Nat} (hr : r < 6) (hm : midB ts page x z r = true) : keptCell ts page x z = [(x, z)] := by
  unfold keptCell
  have : (List.range 6).any (midB ts page x z) = true := List.any_eq_true.mpr ⟨r, List.mem_range.mpr hr, hm⟩
  rw [this, decide_eq_true h]; rfl

theorem kept_c {prog : Program} {w : World} (page : Str) (lt : Addr) (t1 : Tok) (tv : List Value) (ts : List Int) (htv : IntsAre tv ts) (ht6 : ts.length = 6) (hg : page.length ≤ 1000) :
    KC prog w 3 128 172 [.str page t1, .ref lt] (fun h => h.IsList lt tv.toArray) (fun v h h' => ∃ l b its k, b = keptL ts page 6 ∧ v = .ref l ∧ h.get? l = none ∧ h'.get? l = some (listOf its.toArray k) ∧ PairsIn h' its b) := by
  walk_at "MyFill"
  unfold KC
  intro p loose mean mg mb dp un gd cn cs a' ccd cl outer A₀ base h₀ L m s Q E B F X T hk hd hu hpre hret
  k_dflt ((refine' kc_enter ?k1_15 ?k2_15 ?k3_15 ?k5_15 ?kA_15 ?kF_15 ?kK_15 ?k6_15 ?k7_15 ?k8_15 ?k9_15 ?kB_15 ?_ ?c2_15 ?c3_15 ?c4_15 ?c5_15; ((case kA_15 => exact rfl); (case kF_15 => exact rfl); (case kK_15 => assumption); (case k1_15 => k_asm); (case k2_15 => k_asm); (case k3_15 => k_asm); (case k5_15 => k_asm); (case k6_15 => k_is); (case k7_15 => k_is); (case k8_15 => ktr_room); (case k9_15 => exact BindsTo.of_eq rfl); (case c2_15 => exact rfl); (case c3_15 => exact rfl); (case c4_15 => exact rfl)); (case c5_15 => decide); (case kB_15 => exact locs rfl); k_whole))
  intro g' L' h' G' F' N' B' X' T'
  clear B F X T hk
  have hlt := HasG.list G' hpre
  replace F' : Fr g' L' h' (fun y => List.lookup y [("told", .ref lt), ("page", .str page t1)]) := F'
  dsimp only
  k_unmd
  k_fold
  k_steps
  refine For_K ?_ (fun _ => rfl)
  k_steps
  with_reducible rename Fr _ _ _ _ => F9
  with_reducible rename News _ _ _ _ => N9
  refine unhold (lk_range (T := 0) (n := 6) (Nat.zero_le _) (fun i m news => ∃ K, AccN [] K (keptL ts page i) news ∧ Kn [(Str.ofString "kept", .ref K), (Str.ofString "told", .ref lt), (Str.ofString "page", .str page t1)] m)
    rfl rfl rfl (by assumption) (by decide) (by decide) F9 N9 ?_ ?_ ?_)
  · exact ⟨_, ⟨⟨[], 0, [], List.Mem.head _, (fun _ h => nomatch h), .nil⟩, fun _ h => nomatch h⟩, rfl, rfl, rfl, trivial⟩
  · intro i tx m₁ news₁ h tk Ix ox _ hi hJ0_10 hnI F N
    refine hide fun hG9 => ?_
    obtain ⟨K, acc, kn⟩ := hJ0_10
    refine hG9 ?_
    clear hG9
    clear F9 N9
    rw [Int.zero_add] at F
    replace F := Fr.knX F kn
    have acc1 := acc.push (o := ox) hnI
    simp only [ovr] at F
    clear kn acc
    k_unmd
    k_fold
    k_steps
    refine For_K ?_ (fun _ => rfl)
    k_steps
    with_reducible rename Fr _ _ _ _ => F9
    with_reducible rename News _ _ _ _ => N9
    refine unhold (lk_range (T := 0) (n := 6) (Nat.zero_le _) (fun j m news => AccN [(Ix, ox)] K (keptL ts page i ++ keptRow ts page (i : Nat) j) news ∧ Kn [(Str.ofString "kept", .ref K), (Str.ofString "told", .ref lt), (Str.ofString "page", .str page t1), (Str.ofString "x", .int (i : Nat) tx)] m)
      rfl rfl rfl (by assumption) (by decide) (by decide) F9 N9 ?_ ?_ ?_)
    · exact ⟨by simpa [keptRow] using acc1, rfl, rfl, rfl, rfl, trivial⟩
    · rintro j tz m₂ news₂ h₂ tk₂ Iz oz _ hj ⟨acc2, kn⟩ hnI2 F N
      clear F9 N9
      rw [Int.zero_add] at F
      replace F := Fr.knX F kn
      have acc3 := acc2.push (o := oz) hnI2
      have hzx : ∀ p ∈ [(Ix, ox)], p.1 ≠ Iz := fun p hp => hnI2 p (acc2.its p hp).1
      simp only [ovr] at F
      clear kn acc2 acc1
      k_unmd
      k_fold
      k_steps
      · have hc : tI ts (j : Nat) < tI ts (i : Nat) := decT (by assumption) (by assumption)
        refine For_K ?_ (fun _ => rfl)
        k_steps
        with_reducible rename Fr _ _ _ _ => F9
        with_reducible rename News _ _ _ _ => N9
        refine unhold (lk_range (T := 0) (n := 6) (Nat.zero_le _) (fun r m news => AccN [(Iz, oz), (Ix, ox)] K (keptL ts page i ++ keptRow ts page (i : Nat) j) news ∧ (∀ r', r' < r → midB ts page (i : Nat) (j : Nat) r' = false) ∧
            Kn [(Str.ofString "kept", .ref K), (Str.ofString "told", .ref lt), (Str.ofString "page", .str page t1), (Str.ofString "x", .int (i : Nat) tx), (Str.ofString "z", .int (j : Nat) tz)] m)
          rfl rfl rfl (by assumption) (by decide) (by decide) F9 N9 ?_ ?_ ?_)
        · exact ⟨acc3, (fun _ h => absurd h (Nat.not_lt_zero _)), rfl, rfl, rfl, rfl, rfl, trivial⟩
        · intro r tr m₃ news₃ h₃ tk₃ Ir orr _ hr hJ1_10 hnI3 F N
          refine hide fun hG9 => ?_
          obtain ⟨acc4, hno, kn⟩ := hJ1_10
          refine hG9 ?_
          clear hG9
          clear F9 N9
          rw [Int.zero_add] at F
          replace F := Fr.knX F kn
          simp only [ovr] at F
          clear kn
          obtain ⟨⟨its, kk, nl, hKm, hnl, hpl⟩, hIs⟩ := acc4
          k_unmd
          k_fold
          k_steps
          · have hm1 : tI ts (i : Nat) < tI ts (r : Nat) := decT (by assumption) (by assumption)
            have hm2 : foundB page [(i : Nat), (r : Nat), (j : Nat)] = true := eqT (by assumption) (by assumption)
            with_reducible rename Fr _ _ _ _ => F7
            with_reducible rename News _ _ _ _ => N7
            refine unhold (acc_append F7 N7 (fun q hq => by (repeat (first | with_reducible assumption | refine List.mem_cons_of_mem _ ?_))) hKm hnl hpl hIs (by k_mem) (AllLt.lt (And.right (And.right (by assumption)))) ?_ ?_)
            · have h1 := keptL_len ts page i
              have h2 := keptRow_len ts page (i : Nat) j
              rw [List.length_append]; omega
            intro h5 news5 F5 N5 acc5
            clear F7 N7
            (try dsimp only)
            k_unmd
            (try k_fold)
            k_steps
            (try dsimp only)
            refine lbrk ?_
            dsimp only
            k_unmd
            (try k_fold)
            k_steps
            with_reducible rename Fr _ _ _ _ => F7
            with_reducible rename News _ _ _ _ => N7
            refine lendF F7 N7 (acc5.its _ (List.mem_cons_self ..)).1 ⟨?_, rfl, rfl, rfl, rfl, trivial⟩
            have hmid : midB ts page (i : Nat) (j : Nat) r = true := by unfold midB; rw [decide_eq_true hm1, hm2]; rfl
            rw [keptRow_succ, keptCell_one hc hr hmid, ← List.append_assoc]
            exact acc5.pop hzx
          · have hm2 : foundB page [(i : Nat), (r : Nat), (j : Nat)] = false := eqF (by assumption) (by assumption)
            have hmid : midB ts page (i : Nat) (j : Nat) r = false := by unfold midB; rw [hm2, Bool.and_false]
            have acc4 : AccN [(Iz, oz), (Ix, ox)] K (keptL ts page i ++ keptRow ts page (i : Nat) j) news₃ := ⟨⟨its, kk, nl, hKm, hnl, hpl⟩, hIs⟩
            with_reducible rename Fr _ _ _ _ => F7
            with_reducible rename News _ _ _ _ => N7
            refine lendF F7 N7 (by (repeat (first | with_reducible assumption | exact List.mem_cons_self .. | refine List.mem_cons_of_mem _ ?_))) ⟨?_, fun r' hr' => ?_, rfl, rfl, rfl, rfl, rfl, trivial⟩
            · exact acc4.up (fun q hq => mem_butI (by (repeat (first | with_reducible assumption | exact List.mem_cons_self .. | refine List.mem_cons_of_mem _ ?_))) (hnI3 q hq))
            · rcases Nat.lt_succ_iff_lt_or_eq.mp hr' with hr' | rfl
              · exact hno r' hr'
              · exact hmid
          · have hm1 : ¬ tI ts (i : Nat) < tI ts (r : Nat) := decF (by assumption) (by assumption)
            have hmid : midB ts page (i : Nat) (j : Nat) r = false := by unfold midB; rw [decide_eq_false hm1]; rfl
            have acc4 : AccN [(Iz, oz), (Ix, ox)] K (keptL ts page i ++ keptRow ts page (i : Nat) j) news₃ := ⟨⟨its, kk, nl, hKm, hnl, hpl⟩, hIs⟩
            with_reducible rename Fr _ _ _ _ => F7
            with_reducible rename News _ _ _ _ => N7
            refine lendF F7 N7 (by (repeat (first | with_reducible assumption | exact List.mem_cons_self .. | refine List.mem_cons_of_mem _ ?_))) ⟨?_, fun r' hr' => ?_, rfl, rfl, rfl, rfl, rfl, trivial⟩
            · exact acc4.up (fun q hq => mem_butI (by (repeat (first | with_reducible assumption | exact List.mem_cons_self .. | refine List.mem_cons_of_mem _ ?_))) (hnI3 q hq))
            · rcases Nat.lt_succ_iff_lt_or_eq.mp hr' with hr' | rfl
              · exact hno r' hr'
              · exact hmid
        · intro m₃ news₃ h₃ tk₃ _ hJ2_5 F N
          refine hide fun hG9 => ?_
          obtain ⟨acc4, hno, kn⟩ := hJ2_5
          refine hG9 ?_
          clear hG9
          clear F9 N9
          replace F := Fr.kn F kn
          simp only [ovr] at F
          dsimp only
          k_unmd
          (try k_fold)
          k_steps
          with_reducible rename Fr _ _ _ _ => F7
          with_reducible rename News _ _ _ _ => N7
          exact lendF F7 N7 (acc4.its _ (List.mem_cons_self ..)).1 ⟨by rw [keptRow_succ, keptCell_none hno, List.append_nil]; exact acc4.pop hzx, rfl, rfl, rfl, rfl, trivial⟩
      · have hc : ¬ tI ts (j : Nat) < tI ts (i : Nat) := decF (by assumption) (by assumption)
        with_reducible rename Fr _ _ _ _ => F9
        with_reducible rename News _ _ _ _ => N9
        exact lendF F9 N9 (List.mem_cons_self ..) ⟨by rw [keptRow_succ, keptCell_no hc, List.append_nil]; exact acc3.pop hzx, rfl, rfl, rfl, rfl, trivial⟩
    · rintro m₃ news₃ h₃ tk₃ _ ⟨acc4, kn⟩ F N
      clear F9 N9
      replace F := Fr.kn F kn
      simp only [ovr] at F
      dsimp only
      k_unmd
      (try k_fold)
      k_steps
      with_reducible rename Fr _ _ _ _ => F7
      with_reducible rename News _ _ _ _ => N7
      exact lendF F7 N7 (acc4.its _ (List.mem_cons_self ..)).1 ⟨K, by rw [keptL_succ]; exact (acc4.pop (fun _ h => nomatch h)), rfl, rfl, rfl, trivial⟩
  · intro m₃ news₃ h₃ tk₃ _ hJ3_5 F N
    refine hide fun hG9 => ?_
    obtain ⟨K, acc4, kn⟩ := hJ3_5
    refine hG9 ?_
    clear hG9
    clear F9 N9
    replace F := Fr.kn F kn
    simp only [ovr] at F
    dsimp only
    k_unmd
    (try k_fold)
    k_steps
    with_reducible rename Fr _ _ _ _ => F7
    with_reducible rename News _ _ _ _ => N7
    obtain ⟨⟨its, kk, nl, hKm, hnl, hpl⟩, _⟩ := acc4
    exact hret _ _ _ (fun b o e => F7.keep _ _ (G' b o e)) ⟨K, _, its, kk, rfl, rfl, HasG.none G' (News.fresh N7 hKm), News.get N7 hKm, PairsL.inn N7 (fun q hq => (hnl q hq).1) hpl⟩

end
section
/-! ### _law_behind -/
theorem setItem_plain {prog : Program} {w : World} {A : Around} {E : Value → Shared → Prop} {s : Shared} {l : Addr} {items : Array Value} {n : Nat} {k : Int} {t : Tok} {v : Value} {Q : Unit → Shared → Prop} (ho : s.heap.get? l = some (listOf items n))
    (h0 : 0 ≤ k) (hfit : k < 2 ^ 63) (hn : k < items.size)
    (hQ : ∀ h' n', h'.get? l = some (listOf (items.setIfInBounds k.toNat v) n') → Heap.SameBut l s.heap h' → Q () { s with heap := h' }) :
    wpAny (model prog w) A (setItem (.ref l) (.int k t) v) Q E s := by
  have hl : s.heap.IsList l items := ⟨_, ho, rfl, n, rfl⟩
  unfold setItem
  try with_reducible refine wpAny_holding ?_
  first | refine wpAny_bind (wpAny_pure ?_) | skip
  refine wpAny_bind (wpAny_sequenceKey hl.typeIs (by decide) ?_)
  refine wpAny_bind (wpAny_callSpecial?_slot (name := Str.ofString "__setitem__") hl.typeIs slot_list_setitem (wpAny_call_entry slot_list_setitem hl.typeIs entry_list_setitem ?_ (args_list_setitem _ _ _)))
  show wpAny _ _ (Builtin.List.listSubscript? (.int k t) >>= _) _ _ s
  refine wpAny_bind (wpAny_listSubscript_int (fitsIndex_of h0 hfit) ?_)
  clear hfit
  obtain ⟨j, rfl⟩ := Int.eq_ofNat_of_zero_le h0
  have hj : j < items.size := by omega
  show wpAny _ _ ((seqItemAt l j >>= fun r => pure (r.map (j, ·))) >>= _) _ _ s
  refine wpAny_bind (wpAny_bind (wpAny_seqItemAt ho rfl (wpAny_pure ?_)))
  rw [Array.getElem?_eq_getElem hj]
  show wpAny _ _ (setSeqItemAt l j v >>= _) _ _ s
  have hfin : (s.heap.update l (Obj.mapSeq (·.setIfInBounds j v))).get? l = some ((listOf items n).mapSeq (·.setIfInBounds j v)) := Heap.get?_update_self _ ho rfl
  refine wpAny_bind (wpAny_setSeqItemAt ho rfl ?_)
  exact wpAny_bind (wpAny_pure (wpAny_pure ⟨.none, rfl, wpAny_pure (hQ _ _ hfin (Heap.SameBut.update ..))⟩))
noncomputable def LObj (o : Obj) (its : List Value) : Prop := ∃ k, o = listOf its.toArray k
theorem LObj.lst {h₀ h : Heap} {L D : Addr} {o : Obj} {its : List Value} {news : List (Addr × Obj)} (N : News h₀ L h news) (hm : (D, o) ∈ news) (x : LObj o its) : h.IsList D its.toArray := by
  obtain ⟨k, rfl⟩ := x
  exact ⟨_, (N _ hm).1, rfl, k, rfl⟩
/-- does the row hold a bigger one behind place i up to place j -/
noncomputable def bigB (cs os : List Int) (i j : Nat) : Bool := ((os.drop (i + 1)).take (j - i)).any fun k => decide (cs.getD (os.getD i 0).toNat 0 < cs.getD k.toNat 0)
noncomputable def bump (as : List Int) (k : Nat) : List Int := as.set k (as.getD k 0 + 1)
noncomputable def aheadI (cs os : List Int) (j : Nat) (as : List Int) (n : Nat) : List Int := (List.range n).foldl (fun as i => if bigB cs os i j = true then bump as j else bump as i) as
noncomputable def aheadJ (cs os : List Int) (n : Nat) : List Int := (List.range n).foldl (fun as j => aheadI cs os j as j) [0, 0, 0, 0, 0, 0]
local macro_rules | `(tactic| walk_at "subscriptTail Name Slice ref ref") => `(tactic| (refine hold ?_))
local macro_rules | `(tactic| walk_at "call builtin:max") => `(tactic| (refine hold ?_))
theorem aheadI_len (cs os : List Int) (j : Nat) (as : List Int) (n : Nat) : (aheadI cs os j as n).length = as.length := by
  unfold aheadI
  induction n with
  | zero => rfl
  | succ n ih => rw [List.range_succ, List.foldl_append]; simp only [List.foldl_cons, List.foldl_nil]; split <;> (unfold bump; rw [List.length_set]; exact ih)
theorem aheadI_succ (cs os : List Int) (j : Nat) (as : List Int) (n : Nat) : aheadI cs os j as (n + 1) = if bigB cs os n j = true then bump (aheadI cs os j as n) j else bump (aheadI cs os j as n) n := by
  unfold aheadI; rw [List.range_succ, List.foldl_append]; rfl
theorem aheadJ_succ (cs os : List Int) (n : Nat) : aheadJ cs os (n + 1) = aheadI cs os n (aheadJ cs os n) n := by
  unfold aheadJ; rw [List.range_succ, List.foldl_append]; rfl
theorem aheadJ_len (cs os : List Int) (n : Nat) : (aheadJ cs os n).length = 6 := by
  induction n with
  | zero => rfl
  | succ n ih => rw [aheadJ_succ, aheadI_len, ih]
theorem ints_set {vs : List Value} {ns : List Int} (h : IntsAre vs ns) (m : Int) (t : Tok) : ∀ k : Nat, IntsAre (vs.set k (.int m t)) (ns.set k m) := by
  induction h with
  | nil => exact fun _ => .nil
  | cons n u _ ih =>
    intro k
    cases k with
    | zero => exact .cons m t (by assumption)
    | succ k => exact .cons n u (ih k)
theorem index_small {prog : Program} {w : World} {A : Around} {E : Value → Shared → Prop} {s : Shared} {l : Addr} {vs : List Value} {ns : List Int} {k : Int} {t : Tok} {n : Nat} {Q : Value → Shared → Prop} (ho : s.heap.get? l = some (listOf vs.toArray n)) (hi : IntsAre vs ns)
    (hb : ns.length ≤ 1000) (hk : k ∈ ns) (h : Q (.int (ns.idxOf k : Nat) s.toks) { s with toks := s.toks + 1 }) : wpAny (model prog w) A (call (.builtin "list.index") [.ref l, .int k t]) Q E s := by
  have hlen := hi.length
  have hj : ns.idxOf k < ns.length := List.idxOf_lt_length_iff.mpr hk
  refine call_meets PySem.F.slot_list_index ⟨_, ho, rfl⟩ PySem.F.entry_list_index (PySem.F.args_list_index_2 _ _)
    (PySem.SeqAt.list_indexAt l vs.toArray n none #[] (.int k t) (isInt k) (ns.idxOf k) (by simpa [hlen] using hj) (by omega) ?_ ?_) ⟨ho, fun y hy => (eq_isInt k t hi y (by simpa using hy)).at _ _, h⟩
  · show isInt k vs[ns.idxOf k] = true
    rw [isInt_at k hi _ (by omega) hj]
    simpa using List.getElem_idxOf hj
  · intro j hjs hlt
    show isInt k vs[j] = false
    rw [isInt_at k hi j (by simpa using hjs) (by omega)]
    exact ne_of_lt_idxOf hlt _
noncomputable def behindL (cs os : List Int) (n : Nat) : List Int := (List.range n).map fun p => os.getD ((aheadJ cs os 6).idxOf ((p : Nat) : Int)) 0
local macro_rules | `(tactic| walk_at "getMethod ref") => `(tactic| (k_here; (with_reducible show wpAny _ _ (getMethod (Value.ref _) (PySem.Str.ofString "index") _) _ _ _); (with_reducible rename News _ _ _ _ => N7); k_dflt (refine listMethod_K N7 (by k_mem) PySem.F.slot_list_index PySem.F.type_list_index ?_)))
local macro_rules | `(tactic| walk_at "call builtin:list.index") => `(tactic| (k_here; (with_reducible rename News _ _ _ _ => N7); k_dflt (refine index_small (News.get N7 (by k_mem)) (by assumption) (by omega) (by assumption) ?_)))
local macro_rules | `(tactic| walk_at "getItem ref int") => `(tactic| ((with_reducible show wpAny _ _ (getItem (Value.ref _) (Value.int _ _)) _ _ _); (with_reducible rename News _ _ _ _ => N7); k_dflt (refine getItem_intsK (LObj.lst N7 (by k_mem) (by assumption)) (by assumption) (by omega) (by omega) (by omega) ?_); intro _))
local macro_rules | `(tactic| walk_at "setItem ref int") => `(tactic| (refine hold ?_))
theorem behind_c {prog : Program} {w : World} (lo lc : Addr) (vs cv : List Value) (os cs' : List Int) (hvs : IntsAre vs os) (hcv : IntsAre cv cs') (ho6 : os.length = 6) (hc6 : cs'.length = 6) (hk6 : ∀ k ∈ os, 0 ≤ k ∧ k < 6) (hperm : ∀ p : Nat, p < 6 → (p : Int) ∈ aheadJ cs' os 6) :
    KC prog w 3 128 160 [.ref lo, .ref lc] (fun h => h.IsList lo vs.toArray ∧ h.IsList lc cv.toArray) (fun v h h' => ∃ l its b k, b = behindL cs' os 6 ∧ v = .ref l ∧ h'.get? l = some (listOf its.toArray k) ∧ IntsAre its b) := by
  walk_at "MyFill"
  unfold KC
  intro p loose mean mg mb dp un gd cn cs a' ccd cl outer A₀ base h₀ L m s Q E B F X T hk hd hu hpre hret
  k_dflt ((refine' kc_enterT ?k1_16 ?k2_16 ?k3_16 ?k5_16 ?kA_16 ?kF_16 ?kK_16 ?k6_16 ?k7_16 ?k8_16 ?k9_16 ?kB_16 ?kD_16 ?_ ?c2_16 ?c3_16 ?c4_16; ((case kA_16 => exact rfl); (case kF_16 => exact rfl); (case kK_16 => assumption); (case k1_16 => k_asm); (case k2_16 => k_asm); (case k3_16 => k_asm); (case k5_16 => k_asm); (case k6_16 => k_is); (case k7_16 => k_is); (case k8_16 => ktr_room); (case k9_16 => exact BindsTo.of_eq rfl); (case c2_16 => exact rfl); (case c3_16 => exact rfl); (case c4_16 => exact rfl)); (case kB_16 => exact rfl); (case kD_16 => decide +kernel); k_whole))
  intro g' L' h' tk' cells' ht' G' F' N' Y' B' X' T'
  k_cells Y'
  rename_i oA0 oC oO dA0 dC dO
  replace dC : oC.data = Data.cell (some (.ref lc)) := dC
  replace dO : oO.data = Data.cell (some (.ref lo)) := dO
  clear B F X T hk
  have hlo := HasG.list G' hpre.1
  have hlc := HasG.list G' hpre.2
  (try dsimp only)
  k_unmd
  k_fold
  k_steps
  refine For_K ?_ (fun _ => rfl)
  k_steps
  with_reducible rename Fr _ _ _ _ => F9
  with_reducible rename News _ _ _ _ => N9
  refine unhold (lk_range (T := 0) (n := 6) (Nat.zero_le _) (fun j m news => ∃ D oA its oD, LObj oD its ∧ (D, oD) ∈ news ∧ (L' + 1 + 1 + 1, oA) ∈ news ∧ (L' + 1 + 1, oC) ∈ news ∧ (L' + 1, oO) ∈ news ∧ oA.data = Data.cell (some (.ref D)) ∧ D ≠ L' + 1 + 1 + 1 ∧ D ≠ L' + 1 + 1 ∧ D ≠ L' + 1 ∧
      IntsAre its (aheadJ cs' os j))
    rfl rfl rfl (by assumption) (by decide) (by decide) F9 N9 ?_ ?_ ?_)
  · exact ⟨_, _, _, _, ⟨_, rfl⟩, List.Mem.head _, by k_mem, by k_mem, by k_mem, by assumption, neN (by omega), neN (by omega), neN (by omega), by assumption⟩
  · intro j tj m₁ news₁ h tk Ij oj _ hj hJ0_10 hnI F N
    refine hide fun hG9 => ?_
    obtain ⟨D, oA, its, oD, hoD, hD, hA, hC, hO, dA, hDA, hDC, hDO, hia⟩ := hJ0_10
    refine hG9 ?_
    clear hG9
    clear F9 N9
    rw [Int.zero_add] at F
    have N1 : News g' L' h [(Ij, oj), (D, oD), (L' + 1 + 1 + 1, oA), (L' + 1 + 1, oC), (L' + 1, oO)] := News.perm N (by
      intro p hp
      simp only [List.mem_cons, List.not_mem_nil, or_false] at hp
      rcases hp with rfl | rfl | rfl | rfl | rfl
      · exact List.mem_cons_self ..
      all_goals (refine List.mem_cons_of_mem _ ?_; assumption))
    have hI1 := hnI _ hD
    have hI2 := hnI _ hA
    have hI3 := hnI _ hC
    have hI4 := hnI _ hO
    clear N hnI hD hA hC hO
    k_unmd
    (try k_fold)
    k_steps
    refine For_K ?_ (fun _ => rfl)
    k_steps
    with_reducible rename Fr _ _ _ _ => F9
    with_reducible rename News _ _ _ _ => N9
    refine unhold (lk_range (T := 0) (n := j) (Nat.zero_le _) (fun i m news => ∃ its oD, LObj oD its ∧ (D, oD) ∈ news ∧ (L' + 1 + 1 + 1, oA) ∈ news ∧ (L' + 1 + 1, oC) ∈ news ∧ (L' + 1, oO) ∈ news ∧ (Ij, oj) ∈ news ∧
        IntsAre its (aheadI cs' os j (aheadJ cs' os j) i) ∧ Kn [(Str.ofString "j", .int (j : Nat) tj)] m)
      rfl rfl rfl (by assumption) (small_one (by omega) (by omega) (by omega) (by omega)) ((rangeSize_nat 0 j).trans (by omega)) F9 N9 ?_ ?_ ?_)
    · exact ⟨its, oD, hoD, by k_mem, by k_mem, by k_mem, by k_mem, by k_mem, hia, rfl, trivial⟩
    · clear hia
      intro i ti m₂ news₂ h₂ tk₂ Ii oi _ hi hJ1_10 hnI F N
      refine hide fun hG9 => ?_
      obtain ⟨its, oD, hoD, hD, hA, hC, hO, hIj, hia, kn⟩ := hJ1_10
      refine hG9 ?_
      clear hG9
      clear F9 N9
      rw [Int.zero_add] at F
      replace F := Fr.knX F kn
      simp only [ovr] at F
      have N1 : News g' L' h₂ [(Ii, oi), (D, oD), (L' + 1 + 1 + 1, oA), (L' + 1 + 1, oC), (L' + 1, oO), (Ij, oj)] := News.perm N (by
        intro p hp
        simp only [List.mem_cons, List.not_mem_nil, or_false] at hp
        rcases hp with rfl | rfl | rfl | rfl | rfl | rfl
        · exact List.mem_cons_self ..
        all_goals (refine List.mem_cons_of_mem _ ?_; assumption))
      have hJ1 := hnI _ hD
      have hJ2 := hnI _ hA
      have hJ3 := hnI _ hC
      have hJ4 := hnI _ hO
      have hJ5 := hnI _ hIj
      clear N hnI hD hA hC hO hIj
      k_unmd
      (try k_fold)
      k_steps
      ((with_reducible rename Fr _ _ _ _ => kF); k_dflt (refine' cp_evalF kF ?a_17 ?b_17 ?c_17 ?d_17 ?e_17 ?f_17 ?_; (case a_17 => with_unfolding_all rfl); (case b_17 => decide); (case c_17 => with_unfolding_all rfl); (case d_17 => decide); (case e_17 => with_unfolding_all rfl); (case f_17 => (intro _; with_unfolding_all rfl)); k_whole))
      k_steps
      with_reducible rename Fr _ _ _ _ => F7
      with_reducible rename News _ _ _ _ => N7
      have hl7 := HasG.list F7.keep hlo
      have hv6 : vs.length = 6 := hvs.length.trans ho6
      k_dflt (refine unhold (slice_list F7 N7 hl7 (.int _ _) (.int _ _) ?_ (hsz := ?_)))
      rotate_left
      · have e : sizeLine = 16777216 := by decide
        simp only [List.size_toArray]; omega
      intro h8 F8 N8
      have e8 : slicePick vs.toArray (some ((i : Int) + 1)) (some ((j : Int) + 1)) none = ((vs.drop (i + 1)).take (j - i)).toArray := by
        have := slicePick_run vs.toArray (i + 1) (j + 1) (by simp only [List.size_toArray]; omega) (by omega)
        rw [Nat.add_sub_add_right] at this
        exact_mod_cast this
      rw [e8] at N8
      clear F7 N7 hl7
      have hsl : IntsAre ((vs.drop (i + 1)).take (j - i)) ((os.drop (i + 1)).take (j - i)) := (hvs.drop _).take _
      generalize hslv : (vs.drop (i + 1)).take (j - i) = slv at *
      have hmem : ∀ k ∈ (os.drop (i + 1)).take (j - i), 0 ≤ k ∧ k < 6 := fun k hk => hk6 k (List.mem_of_mem_drop (List.mem_of_mem_take hk))
      have hpos : 0 < ((os.drop (i + 1)).take (j - i)).length := by rw [List.length_take, List.length_drop]; omega
      have hbig : bigB cs' os i j = ((os.drop (i + 1)).take (j - i)).any fun k => decide (cs'.getD (os.getD i 0).toNat 0 < cs'.getD k.toNat 0) := rfl
      have hslen : ((os.drop (i + 1)).take (j - i)).length ≤ 6 := by rw [List.length_take, List.length_drop]; omega
      generalize (os.drop (i + 1)).take (j - i) = sl at *
      (try dsimp only)
      k_unmd
      (try k_fold)
      k_steps
      with_reducible rename Fr _ _ _ _ => F9
      with_reducible rename News _ _ _ _ => N9
      refine unhold (cs_list (T := 0) (Nat.zero_le _) (vs := slv) (fun n ys nl => nl = [] ∧ n ≤ sl.length ∧ IntsAre ys ((sl.take n).map fun k => cs'.getD k.toNat 0)) rfl (News.lst N9 (by k_mem)) F9 N9 ⟨rfl, Nat.zero_le _, .nil⟩ ?_ ?_ ?_)
      · rintro n ys nl ⟨_, hn, hy⟩
        rw [hy.length, List.length_map, List.length_take]; omega
      · intro h₃ C n v ys nl h4 tk4 m4 E' _ hn hv hJ hm hns F N hnl
        refine no_tests ?_
        have hn' : n < sl.length := by rw [← hsl.length]; exact hn
        obtain ⟨t4, hv4⟩ := hsl.get n sl[n] (List.getElem?_eq_getElem hn')
        rw [hv4] at hv
        obtain rfl := Option.some.inj hv
        have hkk := hmem _ (List.getElem_mem hn')
        have hse : sl[n]? = some sl[n] := List.getElem?_eq_getElem hn'
        generalize sl[n] = kk at *
        clear hv hv4
        k_unmd
        k_fold
        k_steps
        refine hide fun hG9 => ?_
        obtain ⟨rfl, hnl', hy⟩ := hJ
        refine hG9 ?_
        clear hG9
        refine elt_post (fun b o e => e) ⟨rfl, hn', ?_⟩
        rw [List.take_add_one, hse, List.map_append]
        exact hy.append (.cons _ _ .nil)
      · intro h₃ D8 ys k8 nl h4 tk4 l1 l2 l3 hJ hD0 hDL F N _ _
        refine hide fun hG9 => ?_
        obtain ⟨rfl, _, hy⟩ := hJ
        refine hG9 ?_
        clear hG9
        k_unmd
        (try k_fold)
        k_steps
        with_reducible rename Fr _ _ _ _ => F7
        with_reducible rename News _ _ _ _ => N7
        rw [hsl.length, List.take_length] at hy
        refine unhold (max_list_N rfl F7 N7 (News.lst N7 (by k_mem)) hy (by rw [List.length_map]; exact hpos) ?_)
        intro h5 M tM tk5 F5 N5 hM hMle
        have hbM : bigB cs' os i j = decide (cs'.getD (os.getD i 0).toNat 0 < M) := by
          rw [hbig]
          apply Bool.eq_iff_iff.mpr
          rw [List.any_eq_true, decide_eq_true_eq]
          constructor
          · rintro ⟨k, hk, hlt⟩
            exact Int.lt_of_lt_of_le (of_decide_eq_true hlt) (hMle _ (List.mem_map_of_mem hk))
          · intro hlt
            refine hide fun hG9 => ?_
            obtain ⟨k, hk, rfl⟩ := List.mem_map.mp hM
            refine hG9 ?_
            clear hG9
            exact ⟨k, hk, decide_eq_true hlt⟩
        have hio : 0 ≤ os.getD i 0 ∧ os.getD i 0 < 6 := by
          rw [List.getD_eq_getElem?_getD, List.getElem?_eq_getElem (by omega), Option.getD_some]
          exact hk6 _ (List.getElem_mem _)
        have hal : (aheadI cs' os j (aheadJ cs' os j) i).length = 6 := (aheadI_len ..).trans (aheadJ_len ..)
        have hio' : 0 ≤ os.getD (Int.toNat (i : Int)) 0 ∧ os.getD (Int.toNat (i : Int)) 0 < 6 := hio
        clear F7 N7 hM hMle
        (try dsimp only)
        k_unmd
        (try k_fold)
        k_steps
        · have hb : bigB cs' os i j = true := by rw [hbM]; exact decide_eq_true (by assumption)
          with_reducible rename Fr _ _ _ _ => F7
          with_reducible rename News _ _ _ _ => N7
          have hil : its.length = 6 := hia.length.trans hal
          obtain ⟨kD, rfl⟩ := id hoD
          refine unhold (setItem_plain (News.get N7 (by k_mem)) (by omega) (by omega) (by simp only [List.size_toArray]; omega) ?_)
          intro h6 k6 ho6 hs6
          obtain ⟨u6, ho6⟩ : ∃ u, h6.get? D = some (listOf (its.set j (.int ((aheadI cs' os j (aheadJ cs' os j) i).getD j 0 + 1) u)).toArray k6) := ⟨_, by rw [ho6, Int.toNat_natCast, List.setIfInBounds_toArray]⟩
          have keep : ∀ b o, b ≠ D → _ := fun b o hb e => hs6.extBut b o hb e
          have F6 := Fr.but F7 (N7 (D, _) (by k_mem)).2.1 (N7 (D, _) (by k_mem)).2.2 keep
          have N6 := News.but (rest := [(L' + 1 + 1 + 1, oA), (L' + 1 + 1, oC), (L' + 1, oO), (Ij, oj), (Ii, oi)]) N7 (by k_mem) keep ho6 (by
            intro p hp
            simp only [List.mem_cons, List.not_mem_nil, or_false] at hp
            rcases hp with rfl | rfl | rfl | rfl | rfl
            · exact ⟨by k_mem, Ne.symm hDA⟩
            · exact ⟨by k_mem, Ne.symm hDC⟩
            · exact ⟨by k_mem, Ne.symm hDO⟩
            · exact ⟨by k_mem, Ne.symm hI1⟩
            · exact ⟨by k_mem, Ne.symm hJ1⟩)
          clear F7 N7 keep
          (try dsimp only)
          k_unmd
          (try k_fold)
          k_steps
          with_reducible rename Fr _ _ _ _ => F7
          refine lend F7 (News.perm N6 (news' := [(Ii, oi), (D, listOf (its.set j (.int ((aheadI cs' os j (aheadJ cs' os j) i).getD j 0 + 1) u6)).toArray k6), (L' + 1 + 1 + 1, oA), (L' + 1 + 1, oC), (L' + 1, oO), (Ij, oj)]) ?_) ?_ ⟨_, _, ⟨k6, rfl⟩, by k_mem, by k_mem, by k_mem, by k_mem, by k_mem, ?_, rfl, trivial⟩
          · intro p hp
            simp only [List.mem_cons, List.not_mem_nil, or_false] at hp ⊢
            rcases hp with rfl | rfl | rfl | rfl | rfl | rfl <;> simp
          · intro p hp
            simp only [List.mem_cons, List.not_mem_nil, or_false] at hp
            rcases hp with rfl | rfl | rfl | rfl | rfl <;> assumption
          · rw [aheadI_succ, if_pos hb]
            exact ints_set hia _ _ _
        · have hb : bigB cs' os i j = false := by rw [hbM]; exact decide_eq_false (by assumption)
          with_reducible rename Fr _ _ _ _ => F7
          with_reducible rename News _ _ _ _ => N7
          have hil : its.length = 6 := hia.length.trans hal
          obtain ⟨kD, rfl⟩ := id hoD
          refine unhold (setItem_plain (News.get N7 (by k_mem)) (by omega) (by omega) (by simp only [List.size_toArray]; omega) ?_)
          intro h6 k6 ho6 hs6
          obtain ⟨u6, ho6⟩ : ∃ u, h6.get? D = some (listOf (its.set i (.int ((aheadI cs' os j (aheadJ cs' os j) i).getD i 0 + 1) u)).toArray k6) := ⟨_, by rw [ho6, Int.toNat_natCast, List.setIfInBounds_toArray]⟩
          have keep : ∀ b o, b ≠ D → _ := fun b o hb e => hs6.extBut b o hb e
          have F6 := Fr.but F7 (N7 (D, _) (by k_mem)).2.1 (N7 (D, _) (by k_mem)).2.2 keep
          have N6 := News.but (rest := [(L' + 1 + 1 + 1, oA), (L' + 1 + 1, oC), (L' + 1, oO), (Ij, oj), (Ii, oi)]) N7 (by k_mem) keep ho6 (by
            intro p hp
            simp only [List.mem_cons, List.not_mem_nil, or_false] at hp
            rcases hp with rfl | rfl | rfl | rfl | rfl
            · exact ⟨by k_mem, Ne.symm hDA⟩
            · exact ⟨by k_mem, Ne.symm hDC⟩
            · exact ⟨by k_mem, Ne.symm hDO⟩
            · exact ⟨by k_mem, Ne.symm hI1⟩
            · exact ⟨by k_mem, Ne.symm hJ1⟩)
          clear F7 N7 keep
          (try dsimp only)
          k_unmd
          (try k_fold)
          k_steps
          with_reducible rename Fr _ _ _ _ => F7
          refine lend F7 (News.perm N6 (news' := [(Ii, oi), (D, listOf (its.set i (.int ((aheadI cs' os j (aheadJ cs' os j) i).getD i 0 + 1) u6)).toArray k6), (L' + 1 + 1 + 1, oA), (L' + 1 + 1, oC), (L' + 1, oO), (Ij, oj)]) ?_) ?_ ⟨_, _, ⟨k6, rfl⟩, by k_mem, by k_mem, by k_mem, by k_mem, by k_mem, ?_, rfl, trivial⟩
          · intro p hp
            simp only [List.mem_cons, List.not_mem_nil, or_false] at hp ⊢
            rcases hp with rfl | rfl | rfl | rfl | rfl | rfl <;> simp
          · intro p hp
            simp only [List.mem_cons, List.not_mem_nil, or_false] at hp
            rcases hp with rfl | rfl | rfl | rfl | rfl <;> assumption
          · rw [aheadI_succ, if_neg (by rw [hb]; decide)]
            exact ints_set hia _ _ _
    · intro m₂ news₂ h₂ tk₂ _ hJ5_5 F N
      refine hide fun hG9 => ?_
      obtain ⟨its, oD, hoD, hD, hA, hC, hO, hIj, hia, kn⟩ := hJ5_5
      refine hG9 ?_
      clear hG9
      clear F9 N9
      dsimp only
      k_unmd
      (try k_fold)
      k_steps
      with_reducible rename Fr _ _ _ _ => F7
      with_reducible rename News _ _ _ _ => N7
      refine lendF F7 N7 hIj ⟨D, oA, its, oD, hoD, mem_butI hD hI1, mem_butI hA hI2, mem_butI hC hI3, mem_butI hO hI4, dA, hDA, hDC, hDO, ?_⟩
      rw [aheadJ_succ]; exact hia
  · intro m₂ news₂ h₂ tk₂ _ hJ6_5 F N
    refine hide fun hG9 => ?_
    obtain ⟨D, oA, its, oD, hoD, hD, hA, hC, hO, dA, hDA, hDC, hDO, hia⟩ := hJ6_5
    refine hG9 ?_
    clear hG9
    clear F9 N9
    have N1 : News g' L' h₂ [(D, oD), (L' + 1 + 1 + 1, oA), (L' + 1 + 1, oC), (L' + 1, oO)] := News.perm N (by
      intro p hp
      simp only [List.mem_cons, List.not_mem_nil, or_false] at hp
      rcases hp with rfl | rfl | rfl | rfl <;> assumption)
    clear N hD hA hC hO
    dsimp only
    k_unmd
    (try k_fold)
    k_steps
    obtain ⟨kD, rfl⟩ := hoD
    have hal : (aheadJ cs' os 6).length = 6 := aheadJ_len ..
    ((with_reducible rename Fr _ _ _ _ => kF); k_dflt (refine' cp_evalF kF ?a_18 ?b_18 ?c_18 ?d_18 ?e_18 ?f_18 ?_; (case a_18 => with_unfolding_all rfl); (case b_18 => decide); (case c_18 => with_unfolding_all rfl); (case d_18 => decide); (case e_18 => with_unfolding_all rfl); (case f_18 => (intro _; with_unfolding_all rfl)); k_whole))
    k_steps
    with_reducible rename Fr _ _ _ _ => F9
    with_reducible rename News _ _ _ _ => N9
    refine unhold (cs_range (T := 0) (Nat.zero_le _) (n := 6) (fun n ys nl => nl = [] ∧ n ≤ 6 ∧ IntsAre ys (behindL cs' os n)) rfl (by assumption) (by decide) (by decide) F9 N9 ⟨rfl, Nat.zero_le _, .nil⟩ ?_ ?_ ?_)
    · rintro n ys nl ⟨_, hn, hy⟩
      rw [hy.length]; unfold behindL; rw [List.length_map, List.length_range]; omega
    · intro h₃ C n v ys nl h4 tk4 m4 E' _ hn hJ7_12 hJ hm hns F N hnl
      refine hide fun hG9 => ?_
      obtain ⟨tp, _, rfl⟩ := hJ7_12
      refine hG9 ?_
      clear hG9
      refine no_tests ?_
      rw [Int.zero_add] at hm
      have hmem := hperm n hn
      have hlt : (aheadJ cs' os 6).idxOf (n : Int) < os.length := by
        have := List.idxOf_lt_length_iff.mpr hmem
        omega
      k_unmd
      k_fold
      k_steps
      refine hide fun hG9 => ?_
      obtain ⟨rfl, hn6, hy⟩ := hJ
      refine hG9 ?_
      clear hG9
      refine elt_post (fun b o e => e) ⟨rfl, hn, ?_⟩
      have e : behindL cs' os (n + 1) = behindL cs' os n ++ [os.getD ((aheadJ cs' os 6).idxOf (n : Int)) 0] := by
        unfold behindL; rw [List.range_succ, List.map_append]; rfl
      rw [e]
      exact hy.append (.cons _ _ .nil)
    · intro h₃ D8 ys k8 nl h4 tk4 l1 l2 l3 hJ hD0 hDL F N _ _
      refine hide fun hG9 => ?_
      obtain ⟨rfl, _, hy⟩ := hJ
      refine hG9 ?_
      clear hG9
      k_unmd
      (try k_fold)
      k_steps
      with_reducible rename Fr _ _ _ _ => F7
      with_reducible rename News _ _ _ _ => N7
      exact hret _ _ _ (fun b o e => F7.keep _ _ (G' b o e)) ⟨D8, ys, _, k8, rfl, rfl, News.get N7 (List.mem_cons_self ..), hy⟩

end
section
/-! ### _law_falling -/
noncomputable def placesL (os : List Int) (n : Nat) : List Int := (List.range n).map fun k => ((os.idxOf ((k : Nat) : Int) : Nat) : Int)
theorem placesL_len (os : List Int) (n : Nat) : (placesL os n).length = n := by unfold placesL; rw [List.length_map, List.length_range]
theorem placesL_succ (os : List Int) (n : Nat) : placesL os (n + 1) = placesL os n ++ [((os.idxOf (n : Int) : Nat) : Int)] := by unfold placesL; rw [List.range_succ, List.map_append]; rfl
theorem HasG.trans {a b c : Heap} (x : HasG a b) (y : ∀ k o, b.get? k = some o → c.get? k = some o) : HasG a c := fun k o e => y k o (x k o e)
local macro_rules | `(tactic| walk_at "call ref") => `(tactic| (k_here; (with_reducible show wpAny _ _ (call (Value.ref 35) [_, _]) _ _ _); k_dflt (refine kc_useA (lt_c _ _ _ _) trivial ?_); walk_at "MyBackH"))
local macro_rules | `(tactic| walk_at "call ref") => `(tactic| (k_here; (with_reducible show wpAny _ _ (call (Value.ref 63) [_, _]) _ _ _); refine hold ?_))
noncomputable def fallCell (os ts : List Int) (x z : Int) : List (Int × Int) := if (decide (ts.getD z.toNat 0 < ts.getD x.toNat 0) && decide ((placesL os 6).getD x.toNat 0 < (placesL os 6).getD z.toNat 0)) = true then [(x, z)] else []
noncomputable def fallRow (os ts : List Int) (x : Int) (n : Nat) : List (Int × Int) := (List.range n).flatMap fun z => fallCell os ts x (z : Nat)
noncomputable def fallL (os ts : List Int) (n : Nat) : List (Int × Int) := (List.range n).flatMap fun x => fallRow os ts (x : Nat) 6
theorem fallRow_succ (os ts : List Int) (x : Int) (n : Nat) : fallRow os ts x (n + 1) = fallRow os ts x n ++ fallCell os ts x (n : Nat) := by
  unfold fallRow; rw [List.range_succ, List.flatMap_append]; simp
theorem fallL_succ (os ts : List Int) (n : Nat) : fallL os ts (n + 1) = fallL os ts n ++ fallRow os ts (n : Nat) 6 := by
  unfold fallL; rw [List.range_succ, List.flatMap_append]; simp
theorem fallRow_len (os ts : List Int) (x : Int) (n : Nat) : (fallRow os ts x n).length ≤ n := by
  induction n with
  | zero => exact Nat.le_refl _
  | succ n ih =>
    rw [fallRow_succ, List.length_append]
    have : (fallCell os ts x (n : Nat)).length ≤ 1 := by unfold fallCell; split <;> simp
    omega
theorem fallL_len (os ts : List Int) (n : Nat) : (fallL os ts n).length ≤ 6 * n := by
  induction n with
  | zero => exact Nat.le_refl _
  | succ n ih =>
    rw [fallL_succ, List.length_append]
    have := fallRow_len os ts (n : Nat) 6
    omega
theorem PairsL.len {nl : List (Addr × Obj)} : ∀ {vs ps}, PairsL nl vs ps → vs.length = ps.length
  | _, _, .nil => rfl
  | _, _, .cons _ r => congrArg (· + 1) r.len
local macro_rules | `(tactic| walk_at "subscriptTail") => `(tactic| ((with_reducible show wpAny _ _ (subscriptTail _ _ (Value.ref _) (Value.int _ _)) _ _ _); (with_reducible rename News _ _ _ _ => N7); k_dflt (refine' item_anyK (News.lst N7 (by k_mem)) (by assumption) ?_ ?_ ?_ ?_ (by with_unfolding_all rfl); (· omega); (· omega); (· omega)); intro _))
local macro_rules | `(tactic| walk_at "newTuple") => `(tactic| (refine hold ?_))
theorem falling_c {prog : Program} {w : World} (T : Nat) (lo lt : Addr) (vs tv : List Value) (os ts : List Int) (hvs : IntsAre vs os) (htv : IntsAre tv ts) (ho6 : os.length = 6) (ht6 : ts.length = 6) (hk6 : ∀ k : Nat, k < 6 → (k : Int) ∈ os) (htk : ∀ (i : Nat) (m : Int) (t : Tok), vs[i]? = some (Value.int m t) → 0 < t ∧ t < T)
    {p : Program} {loose : List Str} {mean : ExcName → Option Value} {mg mb : Str → Option Value} {dp un : Nat} {gd : Option (List Code)} {cn : Str} {cs : Scope} {a' : Addr} {ccd : Value} {cl : List (Str × Addr)} {outer : List Env} {A₀ : Around}
    {base h₀ : Heap} {L : Addr} {m : Str → Option Value} {s : Shared} {Q E : Value → Shared → Prop}
    (B : Below A₀ base outer h₀) (F : Fr h₀ L s.heap m) (X : (Mine.hd.heap_1 w.params).In h₀) (Tp : Top p loose mean mg mb h₀) (hk : cs.kind = .function) (hd : dp + 2 < recursionLimit) (hu : un + 128 < cLine) (hT : T ≤ s.toks)
    (hlo : s.heap.IsList lo vs.toArray) (hlt : s.heap.IsList lt tv.toArray)
    (hret : ∀ (v : Value) (h' : Heap) (tk' : Nat), (∀ b o, s.heap.get? b = some o → h'.get? b = some o) → (∃ l its b k, b = fallL os ts 6 ∧ v = .ref l ∧ h'.get? l = some (listOf its.toArray k) ∧ PairsIn h' its b) → Q v { s with heap := h', toks := tk' }) :
    wpAny (model prog w) (ktrTop dp un gd cn cs L a' ccd cl outer) (call (.ref 165) [.ref lo, .ref lt]) Q E s := by
  walk_at "MyFill"
  k_dflt ((refine' kc_enterT ?k1_19 ?k2_19 ?k3_19 ?k5_19 ?kA_19 ?kF_19 ?kK_19 ?k6_19 ?k7_19 ?k8_19 ?k9_19 ?kB_19 ?kD_19 ?_ ?c2_19 ?c3_19 ?c4_19; ((case kA_19 => exact rfl); (case kF_19 => exact rfl); (case kK_19 => assumption); (case k1_19 => k_asm); (case k2_19 => k_asm); (case k3_19 => k_asm); (case k5_19 => k_asm); (case k6_19 => k_is); (case k7_19 => k_is); (case k8_19 => ktr_room); (case k9_19 => exact BindsTo.of_eq rfl); (case c2_19 => exact rfl); (case c3_19 => exact rfl); (case c4_19 => exact rfl)); (case kB_19 => exact rfl); (case kD_19 => decide +kernel); k_whole))
  intro g' L' h' tk' cells' ht' G' F' N' Y' B' X' T'
  k_cells Y'
  rename_i oP oT oO dP dT dO
  replace dT : oT.data = Data.cell (some (.ref lt)) := dT
  replace dO : oO.data = Data.cell (some (.ref lo)) := dO
  clear B F X Tp hk
  replace hlo := HasG.list G' hlo
  replace hlt := HasG.list G' hlt
  (try dsimp only)
  k_unmd
  k_fold
  k_steps
  have hT' : T ≤ tk' := Nat.le_trans hT ht'
  ((with_reducible rename Fr _ _ _ _ => kF); k_dflt (refine' cp_evalF kF ?a_20 ?b_20 ?c_20 ?d_20 ?e_20 ?f_20 ?_; (case a_20 => with_unfolding_all rfl); (case b_20 => decide); (case c_20 => with_unfolding_all rfl); (case d_20 => decide); (case e_20 => with_unfolding_all rfl); (case f_20 => (intro _; with_unfolding_all rfl)); k_whole))
  refine toksIn hT' ?_
  k_unmd
  (try k_fold)
  k_steps
  with_reducible rename Fr _ _ _ _ => F9
  with_reducible rename News _ _ _ _ => N9
  refine unhold (cs_range (T := T) (by assumption) (n := 6) (fun n ys nl => nl = [] ∧ n ≤ 6 ∧ IntsAre ys (placesL os n)) rfl (by assumption) (by decide) (by decide) F9 N9 ⟨rfl, Nat.zero_le _, .nil⟩ ?_ ?_ ?_)
  · rintro n ys nl ⟨_, hn, hy⟩
    rw [hy.length, placesL_len]; omega
  · intro h₃ C n v ys nl h4 tk4 m4 E' _ hn hJ0_12 hJ hm hns F N hnl
    refine hide fun hG9 => ?_
    obtain ⟨tp, htp, rfl⟩ := hJ0_12
    refine hG9 ?_
    clear hG9
    refine no_tests ?_
    rw [Int.zero_add] at hm
    k_unmd
    k_fold
    k_steps
    have hin := hk6 n hn
    have hix : os.idxOf (n : Int) < os.length := List.idxOf_lt_length_iff.mpr hin
    have htp0 : 0 < tp := by
      obtain ⟨t0, hv0⟩ := hvs.get 0 os[0] (List.getElem?_eq_getElem (by omega))
      have := htk _ _ _ hv0
      exact Nat.lt_of_lt_of_le (Nat.lt_trans this.1 this.2) htp
    k_dflt (refine unhold (kc_use (indexOf_c lo vs os (n : Int) tp (os.idxOf (n : Int)) hvs (by have := hvs.length; omega) ?_ ?_ ⟨by omega, by omega⟩ (Nat.ne_of_gt htp0) ?_) (by k_asm) (by k_asm) (by k_asm) (by k_asm) rfl (by ktr_room) (by ktr_units) (HasG.list F.keep hlo) ?_))
    · rw [List.getElem?_eq_getElem hix, List.getElem_idxOf]
    · intro j hj e
      obtain ⟨hjl, e⟩ := List.getElem?_eq_some_iff.mp e
      have := ne_of_lt_idxOf hj hjl
      simp [e] at this
    · intro i m t h
      have := htk _ _ _ h
      exact ⟨Nat.ne_of_gt this.1, Nat.ne_of_lt (Nat.lt_of_lt_of_le this.2 htp)⟩
    intro v9 h9 tk9 G9 hJ1_4
    refine hide fun hG9 => ?_
    obtain ⟨b, hb, t9, rfl⟩ := hJ1_4
    refine hG9 ?_
    clear hG9
    subst hb
    refine hide fun hG9 => ?_
    obtain ⟨rfl, hn6, hy⟩ := hJ
    refine hG9 ?_
    clear hG9
    (try dsimp only)
    k_unmd
    (try k_fold)
    k_steps
    refine elt_post G9 ⟨rfl, hn, ?_⟩
    rw [placesL_succ]
    exact hy.append (.cons _ _ .nil)
  · intro h₃ D8 ys k8 nl h4 tk4 l1 l2 l3 hJ hD0 hDL F N _ _
    refine hide fun hG9 => ?_
    obtain ⟨rfl, _, hy⟩ := hJ
    refine hG9 ?_
    clear hG9
    k_unmd
    (try k_fold)
    k_steps
    with_reducible rename Fr _ _ _ _ => F9
    k_dflt (refine' cp_eval2F F9 rfl ?a ?b ?c ?d ?e ?e2 ?e3 ?f ?g ?_; (case a => with_unfolding_all rfl); (case b => decide); (case c => with_unfolding_all rfl); (case d => decide); (case e => with_unfolding_all rfl); (case e3 => decide); (case e2 => with_unfolding_all rfl); (case f => (intro _; with_unfolding_all rfl)); (case g => (intro _ _; with_unfolding_all rfl)))
    k_steps
    with_reducible rename Fr _ _ _ _ => F9
    with_reducible rename News _ _ _ _ => N9
    simp only [List.cons_append, List.nil_append] at N9
    refine unhold (cs2_range (T := 0) (Nat.zero_le _) (n := 6) (fun i j ys nl => PairsL nl ys (fallL os ts i ++ fallRow os ts (i : Nat) j) ∧ i ≤ 6 ∧ j ≤ 6 ∧ (j ≠ 0 → i < 6)) rfl (by assumption) (by decide) (by decide) F9 N9 ⟨.nil, by omega, by omega, by omega⟩ ?_ ?_ ?_ ?_ ?_)
    · rintro i ys nl ⟨h, hi, _, h6⟩
      have := h6 (by omega)
      exact ⟨by rw [fallL_succ, show fallRow os ts ((i + 1 : Nat) : Int) 0 = [] from rfl, List.append_nil]; exact h, by omega, by omega, by omega⟩
    · rintro i j ys nl ⟨h, hi, hj, _⟩
      rw [h.len, List.length_append]
      have h1 := fallL_len os ts i
      have h2 := fallRow_len os ts (i : Nat) j
      omega
    · intro h₂ C h tk m₁ hns F N
      k_unmd
      (try k_fold)
      k_steps
      exact ⟨_, _, rfl, by assumption⟩
    · rintro h₂ C i j v t5 ys5 nl5 h tk m₁ E' hi hj ⟨tx, _, rfl⟩ ⟨hJ, _⟩ hmx hmz hns F N hnl
      rw [Int.zero_add] at hmx
      have hpl : (placesL os 6).length = 6 := placesL_len ..
      have hcell : fallRow os ts (i : Nat) (j + 1) = fallRow os ts (i : Nat) j ++ fallCell os ts (i : Nat) (j : Nat) := fallRow_succ ..
      have HH : HasG h h := fun _ _ e => e
      refine one_test ?_
      k_unmd
      (try k_fold)
      k_steps
      · have c1 : ts.getD (Int.toNat (j : Nat)) 0 < ts.getD (Int.toNat (i : Nat)) 0 := decT (by assumption) (by assumption)
        have c2 : (placesL os 6).getD (Int.toNat (i : Nat)) 0 < (placesL os 6).getD (Int.toNat (j : Nat)) 0 := decT (by assumption) (by assumption)
        with_reducible rename HasG _ _ => HG
        refine test_yes rfl HG ?_
        k_unmd
        (try k_fold)
        k_steps
        refine unhold (wpAny_newTuple ?_)
        have hfree : ∀ {b : Heap} , HasG h b → h.get? b.objs.size = none := fun {b} g => by
          cases e : h.get? b.objs.size with
          | none => rfl
          | some o => exact absurd (Heap.lt_size (g _ _ e)) (Nat.lt_irrefl _)
        with_reducible rename HasG _ _ => HG
        refine elt_post1 (q := (_, tupOf #[_, _])) (fun b o e => Heap.get?_push_of_some _ e) (hfree HG) (Heap.get?_push_size _ rfl) ⟨?_, by omega, by omega, by omega⟩
        rw [hcell, ← List.append_assoc]
        unfold fallCell
        rw [decide_eq_true (show ts.getD (Int.toNat ((j : Nat) : Int)) 0 < ts.getD (Int.toNat ((i : Nat) : Int)) 0 from c1), decide_eq_true c2, Bool.and_self, if_pos rfl]
        exact PairsL.snoc (List.mem_append_right _ (List.mem_singleton.mpr rfl)) (hJ.mono fun q hq => List.mem_append_left _ hq)
      · have c2 : ¬ (placesL os 6).getD (Int.toNat (i : Nat)) 0 < (placesL os 6).getD (Int.toNat (j : Nat)) 0 := decF (by assumption) (by assumption)
        with_reducible rename HasG _ _ => HG
        refine test_no rfl HG ⟨?_, by omega, by omega, by omega⟩
        rw [hcell]; unfold fallCell
        rw [decide_eq_false c2, Bool.and_false, if_neg (by decide), List.append_nil]
        exact hJ
      · have c1 : ¬ ts.getD (Int.toNat (j : Nat)) 0 < ts.getD (Int.toNat (i : Nat)) 0 := decF (by assumption) (by assumption)
        with_reducible rename HasG _ _ => HG
        refine test_no rfl HG ⟨?_, by omega, by omega, by omega⟩
        rw [hcell]; unfold fallCell
        rw [decide_eq_false c1, Bool.false_and, if_neg (by decide), List.append_nil]
        exact hJ
    · rintro h₂ D9 ys9 k9 nl9 h' tk l1 l2 l3 ⟨hJ, _⟩ hD0 hDL F N _ _
      k_unmd
      (try k_fold)
      k_steps
      rw [show fallRow os ts ((6 : Nat) : Int) 0 = [] from rfl, List.append_nil] at hJ
      exact hret _ _ _ (fun b o e => F.keep _ _ (G' b o e)) ⟨D9, ys9, _, k9, rfl, rfl, News.get N (List.mem_cons_self ..), PairsL.inn N (fun q hq => List.mem_cons_of_mem _ (List.mem_append_left _ hq)) hJ⟩

end
section
/-! ### loops over an ascii string; _law_column -/
section
variable {prog : Program} {w : World} {A : Around} {s : Shared} {env : Env} {h₀ : Heap} {x : Str} {px : Pos} {body : List Stmt} {Q : Flow → Shared → Prop}
theorem lk_str {T : Nat} (hT : T ≤ s.toks) {l : Str} {tl : Tok} {cs : List Nat} {m₀ : Str → Option Value} {news : List (Addr × Obj)} (J : Nat → (Str → Option Value) → List (Addr × Obj) → Prop)
    (hh : A.handled = none) (hx : env.kindOf x = some .local) (hp : (env.scope.kind == .class || (env.scope.kind == .module && env.locals != env.globals)) = false)
    (hl : l = Str.mk cs.toArray) (ha : ∀ c ∈ cs, c < 128) (F : Fr h₀ env.locals s.heap m₀) (N : News h₀ env.locals s.heap news)
    (hj : J 0 m₀ news)
    (turn : ∀ i c t m₁ news₁ h tk I o, T ≤ tk → cs[i]? = some c → J i m₁ news₁ → (∀ p ∈ news₁, p.1 ≠ I) → Fr h₀ env.locals h (fun y => if y = x then some (.str (Str.mk #[c]) t) else m₁ y) → News h₀ env.locals h ((I, o) :: news₁) →
      wpAny (model prog w) A (execs body env) (LEnd h₀ env.locals (I, o) (J (i + 1)) { s with heap := h, toks := tk } Q) (fun _ _ => False) { s with heap := h, toks := tk })
    (done : ∀ m₁ news₁ h tk, T ≤ tk → J cs.length m₁ news₁ → Fr h₀ env.locals h m₁ → News h₀ env.locals h news₁ → Q .next { s with heap := h, toks := tk }) :
    wpAny (model prog w) A (pyIter (.str l tl)) (fun it s₂ => LoopK prog w A env x px body Q it s₂) (fun _ _ => False) s := by
  subst hl
  refine wpAny_pyIter_ascii (by simpa using ha) ?_
  have W := WK.of (T := T) (Walks.strAscii (prog := prog) (w := w) (A := A) hh s.heap.objs.size (Str.mk cs.toArray) tl) (fun i h st => let ⟨o, ho, _⟩ := st; ⟨o, ho⟩)
  have hlen : (Str.mk cs.toArray).cps.size = cs.length := by simp
  rw [hlen] at W
  refine lk_core (s := { s with heap := s.heap.push _ }) [] J W hT hx hp (fun b hb => .inl (List.mem_singleton.mp hb)) (next_is_new F) ?_ ?_ ⟨_, Heap.get?_push_size _ rfl, rfl, rfl⟩ (F.push _) (fun p hp => ⟨Heap.get?_push_of_some _ (N p hp).1, (N p hp).2⟩) (fun _ _ _ _ p hp => nomatch hp) hj ?_ ?_
  · intro hm
    exact absurd F.ns.lt ((List.mem_singleton.mp hm) ▸ Nat.lt_irrefl _)
  · intro p hp e
    exact absurd (Heap.lt_size (N p hp).1) (e ▸ Nat.lt_irrefl _)
  · intro i v m₁ news₁ h tk o ht hi hJ0_9 hJ hoff F₁ N₁
    refine hide fun hG9 => ?_
    obtain ⟨c, u, hc, rfl⟩ := hJ0_9
    refine hG9 ?_
    clear hG9
    exact turn i c u m₁ news₁ h tk _ o ht (by simpa using hc) hJ hoff F₁ N₁
  · exact done
end

noncomputable def colStep (size : Int) (col : Int) (c : Nat) : Int := if c = 9 then (col.fdiv size + 1) * size else col + 1
noncomputable def colZ (size : Int) (cs : List Nat) : Int := cs.foldl (colStep size) 0
theorem colZ_take {size : Int} {cs : List Nat} {i c : Nat} (h : cs[i]? = some c) : colZ size (cs.take (i + 1)) = colStep size (colZ size (cs.take i)) c := by
  unfold colZ
  rw [List.take_add_one, h, List.foldl_append]; rfl

theorem colStep_bd {size col : Int} {c : Nat} (hs : 1 ≤ size) (h0 : 0 ≤ col) : 0 ≤ colStep size col c ∧ colStep size col c ≤ col + size := by
  unfold colStep
  split
  · rw [Int.fdiv_eq_ediv_of_nonneg _ (by omega), Int.add_mul, Int.one_mul]
    have h1 := Int.ediv_mul_le col (b := size) (by omega)
    have h2 := Int.mul_nonneg (Int.ediv_nonneg h0 (by omega : 0 ≤ size)) (by omega : 0 ≤ size)
    omega
  · omega
theorem colZ_bd {size : Int} (hs : 1 ≤ size) (h6 : size ≤ 6) (cs : List Nat) : ∀ col : Int, 0 ≤ col → 0 ≤ cs.foldl (colStep size) col ∧ cs.foldl (colStep size) col ≤ col + 6 * cs.length := by
  induction cs with
  | nil => intro col h; simpa using h
  | cons c cs ih =>
    intro col h
    have h1 := colStep_bd (c := c) hs h
    have h2 := ih _ h1.1
    rw [List.foldl_cons, List.length_cons]
    omega
theorem colZ_take_bd {size : Int} (hs : 1 ≤ size) (h6 : size ≤ 6) (cs : List Nat) (hl : cs.length ≤ 100) (i : Nat) : 0 ≤ colZ size (cs.take i) ∧ colZ size (cs.take i) ≤ 600 := by
  have h := colZ_bd hs h6 (cs.take i) 0 (Int.le_refl _)
  have h2 : (cs.take i).length ≤ cs.length := by rw [List.length_take]; exact Nat.min_le_right ..
  unfold colZ
  omega
theorem tab_of {c : Nat} (h : (Str.mk #[c] == Str.ofString "\t") = true) : c = 9 := by
  have e : Str.mk #[c] = Str.mk #[9] := (eq_of_beq h).trans (by decide +kernel)
  have := congrArg Str.cps e
  simpa using this
theorem tab_not {c : Nat} (h : (Str.mk #[c] == Str.ofString "\t") = false) : ¬ c = 9 := by
  rintro rfl
  rw [show (Str.ofString "\t") = Str.mk #[9] by decide +kernel, beq_self_eq_true] at h
  cases h
theorem column_c {prog : Program} {w : World} (x : Str) (t1 t2 : Tok) (cs : List Nat) (size : Int) (hx : x = Str.mk cs.toArray) (ha : ∀ c ∈ cs, c < 128) (hs : 1 ≤ size) (h6 : size ≤ 6) (hl : cs.length ≤ 100) :
    KC prog w 1 16 143 [.str x t1, .int size t2] (fun _ => True) (fun v _ _ => ∃ b t, b = colZ size cs ∧ v = .int b t) := by
  walk_at "MyFill"
  unfold KC
  intro p loose mean mg mb dp un gd cn cs' a' ccd cl outer A₀ base h₀ L m s Q E B F X T hk hd hu hpre hret
  k_dflt ((refine' kc_enter ?k1_21 ?k2_21 ?k3_21 ?k5_21 ?kA_21 ?kF_21 ?kK_21 ?k6_21 ?k7_21 ?k8_21 ?k9_21 ?kB_21 ?_ ?c2_21 ?c3_21 ?c4_21 ?c5_21; ((case kA_21 => exact rfl); (case kF_21 => exact rfl); (case kK_21 => assumption); (case k1_21 => k_asm); (case k2_21 => k_asm); (case k3_21 => k_asm); (case k5_21 => k_asm); (case k6_21 => k_is); (case k7_21 => k_is); (case k8_21 => ktr_room); (case k9_21 => exact BindsTo.of_eq rfl); (case c2_21 => exact rfl); (case c3_21 => exact rfl); (case c4_21 => exact rfl)); (case c5_21 => decide); (case kB_21 => exact locs rfl); k_whole))
  intro g' L' h' G' F' N' B' X' T'
  clear B F X T hk
  replace F' : Fr g' L' h' (fun y => List.lookup y [("size", .int size t2), ("lead", .str x t1)]) := F'
  dsimp only
  k_unmd
  k_fold
  k_steps
  refine For_K ?_ (fun _ => rfl)
  k_steps
  with_reducible rename Fr _ _ _ _ => F9
  with_reducible rename News _ _ _ _ => N9
  refine unhold (lk_str (T := 0) (Nat.zero_le _) (fun i m _ => ∃ tc, Kn [(Str.ofString "column", .int (colZ size (cs.take i)) tc), (Str.ofString "size", .int size t2)] m)
    rfl rfl rfl hx ha F9 N9 ?_ ?_ ?_)
  · exact ⟨_, rfl, rfl, trivial⟩
  · rintro i c tx m₁ news₁ h tk Ix ox _ hi ⟨tc, kn⟩ hnI F N
    clear F9 N9
    replace F := Fr.knX F kn
    simp only [ovr] at F
    clear kn
    obtain ⟨hb0, hb1⟩ := colZ_take_bd hs h6 cs hl i
    k_unmd
    k_fold
    k_steps
    · have hc : c = 9 := tab_of (by assumption)
      with_reducible rename Fr _ _ _ _ => F
      with_reducible rename News _ _ _ _ => N
      refine lendF F N (List.mem_cons_self ..) ?_
      rw [colZ_take hi, colStep, if_pos hc]
      exact ⟨_, rfl, rfl, trivial⟩
    · have hc : ¬ c = 9 := tab_not (by assumption)
      with_reducible rename Fr _ _ _ _ => F
      with_reducible rename News _ _ _ _ => N
      refine lendF F N (List.mem_cons_self ..) ?_
      rw [colZ_take hi, colStep, if_neg hc]
      exact ⟨_, rfl, rfl, trivial⟩
  · rintro m₁ news₁ h tk _ ⟨tc, kn⟩ F N
    clear F9 N9
    replace F := Fr.kn F kn
    simp only [ovr] at F
    clear kn
    dsimp only
    k_unmd
    (try k_fold)
    k_steps
    rw [List.take_length]
    with_reducible rename Fr _ _ _ _ => F
    refine hret _ _ _ (fun b o e => F.keep _ _ (G' b o e)) ?_
    exact ⟨_, _, rfl, rfl⟩

end
section
/-! ### _law_leads -/
noncomputable def leadCs (a b c : Nat) : List Nat := List.replicate a 32 ++ List.replicate b 9 ++ List.replicate c 32
noncomputable def LeadLike (l : List Nat) : Prop := ∃ a b c, a < 3 ∧ b < 3 ∧ c < 3 ∧ l = leadCs a b c
inductive LeadsAre : List Value → List (List Nat) → Prop
  | nil : LeadsAre [] []
  | cons {l : List Nat} {t : Tok} {vs ls} (h : LeadLike l) (r : LeadsAre vs ls) : LeadsAre (.str (Str.mk l.toArray) t :: vs) (l :: ls)
theorem LeadsAre.snoc {l : List Nat} {t : Tok} (hl : LeadLike l) : ∀ {vs ls}, LeadsAre vs ls → LeadsAre (vs ++ [.str (Str.mk l.toArray) t]) (ls ++ [l])
  | _, _, .nil => .cons hl .nil
  | _, _, .cons h r => .cons h (r.snoc hl)
theorem LeadsAre.length : ∀ {vs ls}, LeadsAre vs ls → vs.length = ls.length
  | _, _, .nil => rfl
  | _, _, .cons _ r => congrArg (· + 1) r.length

section
variable {prog : Program} {w : World} {A : Around} {E : Value → Shared → Prop} {s : Shared} {Q : Value → Shared → Prop} {h₀ : Heap} {L : Addr} {m : Str → Option Value} {news : List (Addr × Obj)}
theorem sum_slice {l : Addr} {vs : List Value} {ns : List Int} {lo hv st : Option Int} (F : Fr h₀ L s.heap m) (N : News h₀ L s.heap news) (hh : A.handled = none) (hm : (l, listOf (slicePick vs.toArray lo hv st) 0) ∈ news) (hi : IntsAre vs ns)
    (h : ∀ n h' tk t', Fr h₀ L h' m → News h₀ L h' news → Q (.int n t') { s with heap := h', toks := tk }) : wpAny (model prog w) A (call (.builtin "sum") [.ref l]) Q E s :=
  LSm.sum_ints F N hh (vs := (slicePick vs.toArray lo hv st).toList) (News.lst N hm) (hi.pick lo hv st) (h _)
theorem led_append {news₃ : List (Addr × Obj)} {K : Addr} {its : List Value} {kk : Nat} {v : Value} (F : Fr h₀ L s.heap m) (N : News h₀ L s.heap news) (hsub : ∀ q ∈ news₃, q ∈ news) (hK : (K, listOf its.toArray kk) ∈ news₃) (hlen : its.length ≤ 1000)
    (h : ∀ h' k', Fr h₀ L h' m → News h₀ L h' ((K, listOf (its ++ [v]).toArray k') :: butI K news) → Q .none { s with heap := h' }) : wpAny (model prog w) A (call (.builtin "list.append") [.ref K, v]) Q E s := by
  have hKn := N _ (hsub _ hK)
  have hz : its.toArray.size ≤ sizeLine := by
    have e : sizeLine = 16777216 := by decide
    simp only [List.size_toArray]; omega
  refine wpAny_list_append_plain (hsz := hz) ⟨kk, hKn.1⟩ fun h' hl hs => ?_
  obtain ⟨k', hl⟩ := hl
  have hl' : h'.get? K = some (listOf (its ++ [v]).toArray k') := by simpa using hl
  have keep : ∀ b o, b ≠ K → s.heap.get? b = some o → h'.get? b = some o := fun b o hb e => hs.extBut b o hb e
  exact h h' k' (Fr.but F hKn.2.1 hKn.2.2 keep) (News.but N (hsub _ hK) keep hl' fun p hp => ⟨(List.mem_filter.mp hp).1, of_decide_eq_true (List.mem_filter.mp hp).2⟩)
end
theorem mul_sp {m : Int} (h0 : 0 ≤ m) (h3 : m < 3) : Txt.mul (Str.ofString " ") m = Str.mk (List.replicate m.toNat 32).toArray := by
  have : m = 0 ∨ m = 1 ∨ m = 2 := by omega
  rcases this with rfl | rfl | rfl <;> decide +kernel
theorem mul_tab {m : Int} (h0 : 0 ≤ m) (h3 : m < 3) : Txt.mul (Str.ofString "\t") m = Str.mk (List.replicate m.toNat 9).toArray := by
  have : m = 0 ∨ m = 1 ∨ m = 2 := by omega
  rcases this with rfl | rfl | rfl <;> decide +kernel
theorem str_app (a b : List Nat) : Str.mk a.toArray ++ Str.mk b.toArray = Str.mk (a ++ b).toArray := by
  show Str.mk (a.toArray ++ b.toArray) = _
  rw [List.append_toArray]
theorem lead_str (x y z : Int) : Txt.mul (Str.ofString " ") (x.fmod 3) ++ Txt.mul (Str.ofString "\t") (y.fmod 3) ++ Txt.mul (Str.ofString " ") (z.fmod 3) = Str.mk (leadCs (x.fmod 3).toNat (y.fmod 3).toNat (z.fmod 3).toNat).toArray := by
  have p : ∀ x : Int, 0 ≤ x.fmod 3 ∧ x.fmod 3 < 3 := fun x => ⟨Int.fmod_nonneg_of_pos _ (by decide), Int.fmod_lt_of_pos _ (by decide)⟩
  rw [mul_sp (p x).1 (p x).2, mul_tab (p y).1 (p y).2, mul_sp (p z).1 (p z).2, str_app, str_app]; rfl
theorem lead_like (x y z : Int) : LeadLike (leadCs (x.fmod 3).toNat (y.fmod 3).toNat (z.fmod 3).toNat) := by
  have p : ∀ x : Int, 0 ≤ x.fmod 3 ∧ x.fmod 3 < 3 := fun x => ⟨Int.fmod_nonneg_of_pos _ (by decide), Int.fmod_lt_of_pos _ (by decide)⟩
  have := p x; have := p y; have := p z
  exact ⟨_, _, _, by omega, by omega, by omega, rfl⟩
local macro_rules | `(tactic| walk_at "call builtin:sum") => `(tactic| (k_here; (with_reducible rename Fr _ _ _ _ => F7); (with_reducible rename News _ _ _ _ => N7); k_dflt (refine sum_slice F7 N7 rfl (List.mem_cons_self ..) (by assumption) ?_); intro n9 h9 tk9 t9 F9 N9; clear F7 N7))
theorem leads_c {prog : Program} {w : World} (ls : Addr) (vs : List Value) (ns : List Int) (hvs : IntsAre vs ns) (hl : vs.length ≤ 63) :
    KC prog w 1 16 136 [.ref ls] (fun h => h.IsList ls vs.toArray) (fun v h h' => ∃ l its kk cs, v = .ref l ∧ h.get? l = none ∧ h'.get? l = some (listOf its.toArray kk) ∧ LeadsAre its cs ∧ cs.length = 6) := by
  walk_at "MyFill"
  unfold KC
  intro p loose mean mg mb dp un gd cn cs' a' ccd cl outer A₀ base h₀ L m s Q E B F X T hk hd hu hpre hret
  k_dflt ((refine' kc_enter ?k1_22 ?k2_22 ?k3_22 ?k5_22 ?kA_22 ?kF_22 ?kK_22 ?k6_22 ?k7_22 ?k8_22 ?k9_22 ?kB_22 ?_ ?c2_22 ?c3_22 ?c4_22 ?c5_22; ((case kA_22 => exact rfl); (case kF_22 => exact rfl); (case kK_22 => assumption); (case k1_22 => k_asm); (case k2_22 => k_asm); (case k3_22 => k_asm); (case k5_22 => k_asm); (case k6_22 => k_is); (case k7_22 => k_is); (case k8_22 => ktr_room); (case k9_22 => exact BindsTo.of_eq rfl); (case c2_22 => exact rfl); (case c3_22 => exact rfl); (case c4_22 => exact rfl)); (case c5_22 => decide); (case kB_22 => exact locs rfl); k_whole))
  intro g' L' h' G' F' N' B' X' T'
  clear B F X T hk
  replace hpre := HasG.list G' hpre
  replace F' : Fr g' L' h' (fun y => List.lookup y [("script", .ref ls)]) := F'
  dsimp only
  k_unmd
  k_fold
  k_steps
  refine For_K ?_ (fun _ => rfl)
  k_steps
  with_reducible rename Fr _ _ _ _ => F9
  with_reducible rename News _ _ _ _ => N9
  refine unhold (lk_range (T := 0) (n := 6) (Nat.zero_le _) (fun i m news => ∃ K its kk cs, (K, listOf its.toArray kk) ∈ news ∧ LeadsAre its cs ∧ cs.length = i ∧ Kn [(Str.ofString "leads", .ref K), (Str.ofString "script", .ref ls)] m)
    rfl rfl rfl (by assumption) (by decide) (by decide) F9 N9 ?_ ?_ ?_)
  · exact ⟨_, [], 0, [], List.Mem.head _, .nil, rfl, rfl, rfl, trivial⟩
  · intro i tx m₁ news₁ h tk Ix ox _ hi hJ0_10 hnI F N
    refine hide fun hG9 => ?_
    obtain ⟨K, its, kk, cs, hK, hI, hlen, kn⟩ := hJ0_10
    refine hG9 ?_
    clear hG9
    clear F9 N9
    rw [Int.zero_add] at F
    replace F := Fr.knX F kn
    simp only [ovr] at F
    clear kn
    k_unmd
    k_fold
    k_steps
    with_reducible rename Fr _ _ _ _ => F7
    with_reducible rename News _ _ _ _ => N7
    simp only [lead_str]
    have hil := hI.length
    refine unhold (led_append (news₃ := news₁) F7 N7 (fun q hq => by (repeat (first | with_reducible assumption | refine List.mem_cons_of_mem _ ?_))) hK (by omega) ?_)
    intro h5 k5 F5 N5
    clear F7 N7
    (try dsimp only)
    k_unmd
    (try k_fold)
    k_steps
    refine lendF F5 N5 (List.mem_cons_of_mem _ (mem_butI ?_ ?_)) ?_
    · (repeat (first | exact List.mem_cons_self .. | refine List.mem_cons_of_mem _ ?_))
    · exact fun e => hnI _ hK e.symm
    · exact ⟨K, _, _, _, mem_butI (List.mem_cons_self ..) (show K ≠ Ix from hnI _ hK), hI.snoc (lead_like ..), by rw [List.length_append, hlen]; rfl, rfl, rfl, trivial⟩
  · intro m₁ news₁ h tk _ hJ1_5 F N
    refine hide fun hG9 => ?_
    obtain ⟨K, its, kk, cs, hK, hI, hlen, kn⟩ := hJ1_5
    refine hG9 ?_
    clear hG9
    clear F9 N9
    replace F := Fr.kn F kn
    simp only [ovr] at F
    clear kn
    dsimp only
    k_unmd
    (try k_fold)
    k_steps
    refine hret _ _ _ (fun b o e => F.keep _ _ (G' b o e)) ⟨K, its, kk, cs, rfl, HasG.none G' (News.fresh N hK), News.get N hK, hI, hlen⟩

end
section
/-! ### Whitespace: its making -/
section
variable {prog : Program} {w : World} {A₀ A : Around} {s : Shared} {base h₀ : Heap} {outer : List Env} {L C : Addr} {m mg mb : Str → Option Value} {env : Env} {K : Frag} {p : Program} {loose : List Str} {mean : ExcName → Option Value}
  {name qual : Str} {params : Arguments} {body : List Stmt} {scope : Scope} {dV kV doc pm cdv ct oc : Value} {an od : Option Addr} {osl : Array (Option Value)} {f : Addr} {vals : List Value} {binds : Value → List (Str × Value)} {Q E : Value → Shared → Prop}
theorem kc_make (B : Below A₀ base outer h₀) (F : Fr h₀ L s.heap m) (X₀ : K.In h₀) (T : Top p loose mean mg mb h₀) (hA : A.frames = some (env :: outer)) (hf : env.frame = some L) (hke : env.scope.kind = .function)
    (hm : makesIn K C = true) (hi : findIn K (.ref C) "__init__" = some (some (.ref f))) (hfn : typeIn K (.ref f) = some (.type "function"))
    (ho : K.lookup f = some ⟨oc, od, .func (fnOf name qual params body scope dV kV doc pm an cdv ct), osl⟩) (hcd : codeIn K cdv qual = true) (hroom : (A.under (.builtin "type.__call__" ⟨.ref C :: vals, []⟩)).depth < recursionLimit)
    (hbind : ∀ x s', BindsTo s' (fnOf name qual params body scope dV kV doc pm an cdv ct) ⟨.ref x :: vals, []⟩ (binds (.ref x))) (hloc : ∀ x, ∀ y ∈ binds (.ref x), scope.names.lookup y.1 = some .local)
    (h : ∀ x dx L' h₁ tk, s.heap.get? x = none → s.heap.get? dx = none → dx < x → Fr s.heap L' h₁ (fun y => (binds (.ref x)).reverse.lookup y) → News s.heap L' h₁ [(x, instObj C dx), (dx, dictOf [] 0)] → Below (A.under (.builtin "type.__call__" ⟨.ref C :: vals, []⟩)) base (env :: outer) s.heap → K.In s.heap → Top p loose mean mg mb s.heap →
      wpAny (model prog w) ((A.under (.builtin "type.__call__" ⟨.ref C :: vals, []⟩)).deeper (envOf qual scope L' f cdv)) (execs body (envOf qual scope L' f cdv))
        (fun fl s' => (match fl with | .ret v => v | _ => Value.none) = .none ∧ Q (.ref x) s') (fun _ _ => False) { s with heap := h₁, toks := tk })
    (hco : scope.isCoroutine = false) (hgen : scope.isGenerator = false) (hk : scope.kind = .function)
    (hcell : ∀ x ∈ scope.names, x.2 ≠ .cell) : wpAny (model prog w) A (call (.ref C) vals) Q E s := by
  refine wpAny_call ?_
  have N : News h₀ L s.heap [] := News.nil
  refine hide fun hG9 => ?_
  obtain ⟨FG, BG, st, _⟩ := groundX (A := A.under (.builtin "type.__call__" ⟨.ref C :: vals, []⟩)) (R := fun _ _ => True) B F N hA hf hke
  refine hG9 ?_
  clear hG9
  have X := X₀.keeps F.keep
  have X1 : K.In ((s.heap.push emptyDict).push (instObj C s.heap.objs.size)) := X.keeps fun b o e => Heap.get?_push_of_some _ (Heap.get?_push_of_some _ e)
  have T1 := T.keeps F.keep
  have X1k : ∀ b o, s.heap.get? b = some o → ((s.heap.push emptyDict).push (instObj C s.heap.objs.size)).get? b = some o := fun b o e => Heap.get?_push_of_some _ (Heap.get?_push_of_some _ e)
  have hsz : ((s.heap.push emptyDict).push (instObj C s.heap.objs.size)).objs.size = s.heap.objs.size + 2 := by rw [Heap.size_push, Heap.size_push]
  have fresh : ∀ n, s.heap.get? (s.heap.objs.size + n) = none := fun n => by
    cases e : s.heap.get? (s.heap.objs.size + n) with
    | none => rfl
    | some o => exact absurd (Heap.lt_size e) (Nat.not_lt.mpr (Nat.le_add_right ..))
  refine hide fun hG9 => ?_
  obtain ⟨hh, g, d, t, os⟩ := s
  refine hG9 ?_
  clear hG9
  refine make_core (makes_of X hm) (looks_findIn X hi) (fun self => bind_fn X self hfn) (.inl rfl) ?_
  refine codeAny_call_def (fd := fnX name qual params body scope [] dV kV doc pm an cdv ct) (body := body) (binds := binds (.ref (hh.objs.size + 1))) hroom (X1 _ _ ho) rfl (T1.nolimit.keeps X1k) (codeRec_of X1 hcd) rfl (hbind _ _) hcell (hloc _) (fun h₁ hns hk₁ => ?_) hco hgen hk
  refine wpAny_mono (h (hh.objs.size + 1) hh.objs.size _ h₁ _ (fresh 1) (fresh 0) (Nat.lt_succ_self _) ⟨hns, fun b o e => hk₁ b o (X1k b o e), (by rw [hsz]; exact Nat.le_add_right _ 2)⟩ (fun q hq => ?_) BG X T1) (fun fl s' hl => hl) fun _ _ y => y.elim
  rcases List.mem_cons.mp hq with rfl | hq
  · refine ⟨hk₁ _ _ ?_, (by rw [hsz]; exact Nat.ne_of_lt (Nat.lt_succ_self _)), fresh 1⟩
    have := Heap.get?_push_size (h := hh.push emptyDict) (o := instObj C hh.objs.size) rfl
    rw [Heap.size_push] at this
    exact this
  · rw [List.mem_singleton.mp hq]
    exact ⟨hk₁ _ _ (Heap.get?_push_of_some _ (Heap.get?_push_size _ rfl)), (by rw [hsz]; exact Nat.ne_of_lt (Nat.lt_add_of_pos_right (by decide))), fresh 0⟩
end
section
variable {prog : Program} {w : World} {A : Around} {E : Value → Shared → Prop} {s : Shared} {h₀ : Heap} {L : Addr} {m : Str → Option Value} {news : List (Addr × Obj)}
theorem len_led {K : Addr} {its : List Value} {kk : Nat} {Q : Value → Shared → Prop} (N : News h₀ L s.heap news) (hK : (K, listOf its.toArray kk) ∈ news) (hb : its.length ≤ 1000)
    (h : Q (.int its.length (s.toks + 1)) { s with toks := s.toks + 1 + 1 }) : wpAny (model prog w) A (call (.builtin "len") [.ref K]) Q E s :=
  len_list (News.lst N hK) (by simp only [List.size_toArray]; omega) (by simpa only [List.size_toArray] using h)
theorem led_new (F : Fr h₀ L s.heap m) (N : News h₀ L s.heap news) : ∀ p ∈ news, p.1 ≠ s.heap.objs.size := fun p hp e => absurd (Heap.lt_size (N p hp).1) (e ▸ Nat.lt_irrefl _)
theorem flat_one (n : Nat) (v : Value) : List.foldl (fun (x1 x2 : Array Value) => x1 ++ x2) #[] (List.replicate (if (#[v] : Array Value).isEmpty = true then 0 else n) #[v]) = (List.replicate n v).toArray := by
  have key : ∀ (n : Nat) (a : List Value), List.foldl (fun (x1 x2 : Array Value) => x1 ++ x2) a.toArray (List.replicate n #[v]) = (a ++ List.replicate n v).toArray := by
    intro n
    induction n with
    | zero => intro a; simp
    | succ n ih =>
      intro a
      rw [List.replicate_succ, List.foldl_cons, show a.toArray ++ #[v] = (a ++ [v]).toArray by simp, ih]
      simp [List.replicate_succ]
  simpa using key n []
theorem mul_led {l : Addr} {v : Value} {k : Nat} {x : Int} {u : Tok} {Q : Value → Shared → Prop} (F : Fr h₀ L s.heap m) (N : News h₀ L s.heap news) (hl : (l, listOf #[v] k) ∈ news) (h0 : 0 ≤ x) (h1 : x ≤ 1000)
    (h : ∀ h' K2, Fr h₀ L h' m → News h₀ L h' ((K2, listOf (List.replicate x.toNat v).toArray 0) :: news) → (∀ p ∈ news, p.1 ≠ K2) → Q (.ref K2) { s with heap := h' }) :
    wpAny (model prog w) A (binaryOp .Mult (.ref l) (.int x u)) Q E s :=
  mul_list F N (N _ hl).1 (by omega) (by omega) (by show 1 * x.toNat ≤ 2 ^ 24; omega) fun h' F' N' => by
    rw [flat_one] at N'
    exact h h' _ F' N' (led_new F N)
theorem add_led {l b : Addr} {vs ws : List Value} {k k2 : Nat} {Q : Value → Shared → Prop} (F : Fr h₀ L s.heap m) (N : News h₀ L s.heap news) (hl : (l, listOf vs.toArray k) ∈ news) (hb : (b, listOf ws.toArray k2) ∈ news) (h1 : vs.length ≤ 1000) (h2 : ws.length ≤ 1001)
    (h : ∀ h' K2, Fr h₀ L h' m → News h₀ L h' ((K2, listOf (vs ++ ws).toArray 0) :: news) → (∀ p ∈ news, p.1 ≠ K2) → Q (.ref K2) { s with heap := h' }) :
    wpAny (model prog w) A (binaryOp .Add (.ref l) (.ref b)) Q E s :=
  add_lists (hsz := by have e : sizeLine = 16777216 := by decide
                       omega) F N (News.lst N hl) (News.lst N hb) fun h' F' N' => h h' _ F' N' (led_new F N)
theorem led_setItem {K : Addr} {its : List Value} {kk : Nat} {k : Int} {t : Tok} {v : Value} {Q : Unit → Shared → Prop} (F : Fr h₀ L s.heap m) (N : News h₀ L s.heap news) (hK : (K, listOf its.toArray kk) ∈ news) (h0 : 0 ≤ k) (hn : k < its.length) (hb : its.length ≤ 5000)
    (h : ∀ h' k', Fr h₀ L h' m → News h₀ L h' ((K, listOf (its.set k.toNat v).toArray k') :: butI K news) → Q () { s with heap := h' }) :
    wpAny (model prog w) A (setItem (.ref K) (.int k t) v) Q E s := by
  have hKn := N _ hK
  refine setItem_plain hKn.1 h0 (by omega) (by simp only [List.size_toArray]; omega) fun h' k' ho hs => ?_
  have keep : ∀ b o, b ≠ K → s.heap.get? b = some o → h'.get? b = some o := fun b o hb e => hs.extBut b o hb e
  rw [List.setIfInBounds_toArray] at ho
  exact h h' k' (Fr.but F hKn.2.1 hKn.2.2 keep) (News.but N hK keep ho fun p hp => ⟨(List.mem_filter.mp hp).1, of_decide_eq_true (List.mem_filter.mp hp).2⟩)
end
structure WSt where
  cnt : List Int
  b : Int
  nt : Int
noncomputable def padTo (cnt : List Int) (b : Int) : List Int := if (cnt.length : Int) ≤ b then cnt ++ List.replicate (b - cnt.length + 1).toNat 0 else cnt
noncomputable def wsStep (st : WSt) (c : Nat) : WSt := if c = 9 then ⟨(padTo st.cnt st.b).set st.b.toNat ((padTo st.cnt st.b).getD st.b.toNat 0 + 1), 0, st.nt + 1⟩ else ⟨st.cnt, st.b + 1, st.nt⟩
noncomputable def wsZ (cs : List Nat) : WSt := cs.foldl wsStep ⟨[], 0, 0⟩
theorem wsZ_take {cs : List Nat} {i c : Nat} (h : cs[i]? = some c) : wsZ (cs.take (i + 1)) = wsStep (wsZ (cs.take i)) c := by
  unfold wsZ
  rw [List.take_add_one, h, List.foldl_append]; rfl
theorem ch_of {c k : Nat} {x : Str} (e : x = Str.mk #[k]) (h : (Str.mk #[c] == x) = true) : c = k := by
  have e : Str.mk #[c] = Str.mk #[k] := (eq_of_beq h).trans e
  have := congrArg Str.cps e
  simpa using this
theorem ch_not {c k : Nat} {x : Str} (e : x = Str.mk #[k]) (h : (Str.mk #[c] == x) = false) : ¬ c = k := by
  rintro rfl
  rw [e, beq_self_eq_true] at h
  cases h
theorem News.apart {h₀ h : Heap} {L a b : Addr} {o o' : Obj} {news : List (Addr × Obj)} (N : News h₀ L h news) (ha : (a, o) ∈ news) (hb : (b, o') ∈ news) (hne : o ≠ o') : a ≠ b := fun e => by
  have h1 := (N _ ha).1
  have h2 := (N _ hb).1
  rw [show ((a, o) : Addr × Obj).1 = ((b, o') : Addr × Obj).1 from e, h2] at h1
  exact hne (Option.some.inj h1).symm
theorem ints_rep (n : Nat) (z : Int) (t : Tok) : IntsAre (List.replicate n (.int z t)) (List.replicate n z) := by
  induction n with
  | zero => exact .nil
  | succ n ih => exact .cons _ _ ih
theorem lead_at {lead rest : List Nat} {c0 i c : Nat} (hi : (lead ++ c0 :: rest)[i]? = some c) (hil : i ≤ lead.length) : (i < lead.length ∧ lead[i]? = some c) ∨ (i = lead.length ∧ c = c0) := by
  by_cases h : i < lead.length
  · rw [List.getElem?_append_left h] at hi; exact .inl ⟨h, hi⟩
  · have e : i = lead.length := by omega
    rw [List.getElem?_append_right (by omega), e, Nat.sub_self] at hi
    exact .inr ⟨e, (Option.some.inj hi).symm⟩
theorem wsStep_bd {st : WSt} {c i : Nat} (h : 0 ≤ st.b ∧ st.b ≤ i ∧ st.cnt.length ≤ i) : 0 ≤ (wsStep st c).b ∧ (wsStep st c).b ≤ (i + 1 : Nat) ∧ (wsStep st c).cnt.length ≤ i + 1 := by
  refine hide fun hG9 => ?_
  obtain ⟨h0, h1, h2⟩ := h
  refine hG9 ?_
  clear hG9
  unfold wsStep
  split
  · refine ⟨Int.le_refl _, (by show (0 : Int) ≤ _; omega), ?_⟩
    show (List.set _ _ _).length ≤ _
    rw [List.length_set]
    unfold padTo
    split
    · rw [List.length_append, List.length_replicate]; omega
    · omega
  · show 0 ≤ st.b + 1 ∧ st.b + 1 ≤ _ ∧ st.cnt.length ≤ _
    omega
theorem wsZ_bd (cs : List Nat) : ∀ i, i ≤ cs.length → 0 ≤ (wsZ (cs.take i)).b ∧ (wsZ (cs.take i)).b ≤ (i : Nat) ∧ (wsZ (cs.take i)).cnt.length ≤ i
  | 0, _ => by rw [List.take_zero]; decide
  | i + 1, h => by
    rw [wsZ_take (List.getElem?_eq_getElem (show i < cs.length by omega))]
    exact wsStep_bd (wsZ_bd cs i (by omega))
local macro_rules | `(tactic| walk_at "exec For Name Attribute cons nil") => `(tactic| (refine hold ?_))
local macro_rules | `(tactic| walk_at "pyIter str") => `(tactic| (refine hold ?_))
local macro_rules | `(tactic| walk_at "call builtin:len") => `(tactic| (k_here; (with_reducible show wpAny _ _ (call (Value.builtin "len") [Value.ref _]) _ _ _); (with_reducible rename News _ _ _ _ => N7); k_dflt (refine len_led N7 (by (repeat (first | with_reducible assumption | exact List.mem_cons_self .. | refine List.mem_cons_of_mem _ ?_))) (by omega) ?_)))
local macro_rules | `(tactic| walk_at "binaryOp Mult ref int") => `(tactic| (k_here; (with_reducible rename Fr _ _ _ _ => F7); (with_reducible rename News _ _ _ _ => N7); k_dflt (refine mul_led F7 N7 (List.mem_cons_self ..) (by omega) (by omega) ?_); intro h9 K9 F9 N9 l9; clear F7 N7))
local macro_rules | `(tactic| walk_at "binaryOp Add ref ref") => `(tactic| (k_here; (with_reducible rename Fr _ _ _ _ => F7); (with_reducible rename News _ _ _ _ => N7); k_dflt (refine add_led F7 N7 (by (repeat (first | with_reducible assumption | exact List.mem_cons_self .. | refine List.mem_cons_of_mem _ ?_))) (List.mem_cons_self ..) (by omega) (by (try rw [List.length_replicate]); omega) ?_); intro h9 K9 F9 N9 l9; clear F7 N7))
local macro_rules | `(tactic| walk_at "setItem ref int") => `(tactic| (refine hold ?_))
local macro_rules | `(tactic| walk_at "subscriptTail") => `(tactic| (refine hold ?_))
noncomputable def wsEs (w : World) (line : Str) (n nt : Int) (D : Addr) (sm : Bool) (t1 r1 r2 r3 r4 r5 tn tnt : Tok) : List DictEntry :=
  [{ hash := PyData.keyHash w.params (Str.ofString "raw"), key := .str (Str.ofString "raw") r1, val := .str line t1 }, { hash := PyData.keyHash w.params (Str.ofString "n"), key := .str (Str.ofString "n") r2, val := .int n tn },
    { hash := PyData.keyHash w.params (Str.ofString "nt"), key := .str (Str.ofString "nt") r3, val := .int nt tnt }, { hash := PyData.keyHash w.params (Str.ofString "norm"), key := .str (Str.ofString "norm") r4, val := .ref D },
    { hash := PyData.keyHash w.params (Str.ofString "is_simple"), key := .str (Str.ofString "is_simple") r5, val := .bool sm }]
theorem ws_c {prog : Program} {w : World} (x : Str) (t1 : Tok) (lead rest : List Nat) (c0 : Nat) (hx : x = Str.mk (lead ++ c0 :: rest).toArray) (hlead : ∀ c ∈ lead, c = 32 ∨ c = 9) (h0 : c0 ≠ 32) (h0' : c0 ≠ 9) (ha : ∀ c ∈ lead ++ c0 :: rest, c < 128) (hl : lead.length ≤ 100) :
    KC prog w 2 16 125 [.str x t1] (fun _ => True) (fun v h h' => ∃ xo dx D Tp its n sm r1 r2 r3 r4 r5 tn tnt tb, v = .ref xo ∧ IntsAre its (wsZ lead).cnt ∧ h.get? xo = none ∧ h.get? dx = none ∧ h.get? D = none ∧ h.get? Tp = none ∧
      h'.get? xo = some (instObj 125 dx) ∧ h'.get? dx = some (dictOf (wsEs w x n (wsZ lead).nt D sm t1 r1 r2 r3 r4 r5 tn tnt) 5) ∧ h'.get? D = some (tupOf #[.ref Tp, .int (wsZ lead).b tb]) ∧ h'.get? Tp = some (tupOf its.toArray)) := by
  walk_at "MyFill"
  unfold KC
  intro p loose mean mg mb dp un gd cn cs' a' ccd cl outer A₀ base h₀ L m s Q E B F X T hk hd hu hpre hret
  k_dflt (refine' kc_make (binds := fun v => [(Str.ofString "self", v), (Str.ofString "ws", .str x t1)]) ?k1 ?k2 ?k3 ?k5 ?kA ?kF ?kK ?kM ?kI ?kJ ?k6 ?k7 ?k8 ?k9 ?kB ?_ ?c2 ?c3 ?c4 ?c5; (case kA => exact rfl); (case kF => exact rfl); (case kK => assumption); (case k1 => k_asm); (case k2 => k_asm); (case k3 => k_asm); (case k5 => k_asm); (case kM => k_is); (case kI => k_is); (case kJ => k_is); (case k6 => k_is); (case k7 => k_is); (case k8 => ktr_room); (case k9 => exact fun _ _ => BindsTo.of_eq rfl); (case c5 => decide); (case kB => exact fun _ => locs rfl); (case c2 => exact rfl); (case c3 => exact rfl); (case c4 => exact rfl); k_whole)
  intro xo dx L' h' tk' hxn hdn hdx F' N' B' X' T'
  clear B F X T hk
  k_lt2 hdx
  replace F' : Fr s.heap L' h' (fun y => List.lookup y [(Str.ofString "ws", .str x t1), (Str.ofString "self", .ref xo)]) := F'
  (try dsimp only)
  k_unmd
  k_fold
  k_steps
  refine For_K ?_ (fun _ => rfl)
  k_steps
  with_reducible rename Fr _ _ _ _ => F9
  with_reducible rename News _ _ _ _ => N9
  refine unhold (lk_str (T := 0) (Nat.zero_le _) (fun i m news => i ≤ lead.length ∧ ∃ K its kk tb tn tnt n td, (K, listOf its.toArray kk) ∈ news ∧ IntsAre its (wsZ (lead.take i)).cnt ∧ (xo, instObj 125 dx) ∈ news ∧
      (dx, dictOf [{ hash := PyData.keyHash w.params (Str.ofString "raw"), key := .str (Str.ofString "raw") td, val := .str x t1 }] 1) ∈ news ∧ K ≠ xo ∧ K ≠ dx ∧
      Kn [(Str.ofString "count", .ref K), (Str.ofString "b", .int (wsZ (lead.take i)).b tb), (Str.ofString "n", .int n tn), (Str.ofString "nt", .int (wsZ (lead.take i)).nt tnt), (Str.ofString "S", .str (Str.ofString " ") 270), (Str.ofString "T", .str (Str.ofString "\t") 271), (Str.ofString "self", .ref xo)] m)
    rfl rfl rfl hx ha F9 N9 ?_ ?_ ?_)
  · exact ⟨Nat.zero_le _, _, [], 0, _, _, _, _, _, List.mem_cons_self .., .nil, List.mem_cons_of_mem _ (List.mem_cons_of_mem _ (List.mem_cons_self ..)), List.mem_cons_of_mem _ (List.mem_cons_of_mem _ (List.mem_cons_of_mem _ (List.mem_cons_self ..))), neN (by omega), neN (by omega), rfl, rfl, rfl, rfl, rfl, rfl, rfl, trivial⟩
  · intro i c tx m₁ news₁ h tk Ix ox _ hi hJ3_11 hnI F N
    refine hide fun hG9 => ?_
    obtain ⟨hil, K, its, kk, tb, tn, tnt, n, td, hK, hcnt, hxm, hdm, hKx, hKd, kn⟩ := hJ3_11
    refine hG9 ?_
    clear hG9
    clear F9 N9
    replace F := Fr.knX F kn
    simp only [ovr] at F
    clear kn
    refine hide fun hG9 => ?_
    obtain ⟨hb0, hb1, hb2⟩ := wsZ_bd lead i hil
    refine hG9 ?_
    clear hG9
    have hil2 := hcnt.length
    k_unmd
    k_fold
    k_steps
    · have hc : c = 32 := ch_of (k := 32) (x := Str.ofString " ") (by decide +kernel) (by assumption)
      rcases lead_at hi hil with ⟨hlt, hi1⟩ | ⟨_, e⟩
      · with_reducible rename Fr _ _ _ _ => F7
        with_reducible rename News _ _ _ _ => N7
        refine lendF F7 N7 (List.mem_cons_self ..) ?_
        rw [wsZ_take hi1, wsStep, if_neg (by omega)]
        exact ⟨hlt, _, _, _, _, _, _, _, _, mem_butI (List.mem_cons_of_mem _ hK) (hnI _ hK), hcnt, mem_butI (List.mem_cons_of_mem _ hxm) (hnI _ hxm), mem_butI (List.mem_cons_of_mem _ hdm) (hnI _ hdm), hKx, hKd, rfl, rfl, rfl, rfl, rfl, rfl, rfl, trivial⟩
      · exact absurd (e ▸ hc) h0
    · rename_i l9K _ _ _
      with_reducible rename Fr _ _ _ _ => F7
      with_reducible rename News _ _ _ _ => N7
      have hc : c = 9 := ch_of (k := 9) (x := Str.ofString "\t") (by decide +kernel) (by assumption)
      rcases lead_at hi hil with ⟨hlt, hi1⟩ | ⟨_, e⟩
      · have hcmp : ((its.length : Nat) : Int) ≤ (wsZ (lead.take i)).b := by assumption
        have hpad : padTo (wsZ (lead.take i)).cnt (wsZ (lead.take i)).b = (wsZ (lead.take i)).cnt ++ List.replicate ((wsZ (lead.take i)).b - (its.length : Nat) + 1).toNat 0 := by rw [hil2]; exact if_pos (by omega)
        have hI1 : ∀ tz, IntsAre (its ++ List.replicate ((wsZ (lead.take i)).b - (its.length : Nat) + 1).toNat (.int 0 tz)) (padTo (wsZ (lead.take i)).cnt (wsZ (lead.take i)).b) := fun tz => by rw [hpad]; exact hcnt.append (ints_rep _ _ _)
        have hlen1 : (wsZ (lead.take i)).b < (padTo (wsZ (lead.take i)).cnt (wsZ (lead.take i)).b).length := by rw [hpad, List.length_append, List.length_replicate]; omega
        have hlen2 : (padTo (wsZ (lead.take i)).cnt (wsZ (lead.take i)).b).length ≤ 1000 := by rw [hpad, List.length_append, List.length_replicate]; omega
        k_dflt (refine' unhold (item_anyK (News.lst N7 (List.mem_cons_self ..)) (hI1 _) ?_ ?_ ?_ ?_ (by with_unfolding_all rfl)))
        · omega
        · omega
        · omega
        intro t8
        k_unmd
        (try k_fold)
        k_steps
        with_reducible rename Fr _ _ _ _ => F7
        with_reducible rename News _ _ _ _ => N7
        refine unhold (led_setItem F7 N7 (List.mem_cons_self ..) (by omega) (by rw [List.length_append, List.length_replicate]; omega) (by rw [List.length_append, List.length_replicate]; omega) ?_)
        intro h9 k9 F9 N9
        clear F7 N7
        (try dsimp only)
        k_unmd
        (try k_fold)
        k_steps
        with_reducible rename Fr _ _ _ _ => F7
        with_reducible rename News _ _ _ _ => N9
        refine lendF F7 N9 (List.mem_cons_of_mem _ (mem_butI (List.mem_cons_of_mem _ (List.mem_cons_of_mem _ (List.mem_cons_of_mem _ (List.mem_cons_self ..)))) (l9K _ (List.mem_cons_of_mem _ (List.mem_cons_of_mem _ (List.mem_cons_self ..)))))) ?_
        rw [wsZ_take hi1, wsStep, if_pos hc]
        exact ⟨hlt, _, _, _, _, _, _, _, _, mem_butI (List.mem_cons_self ..) (Ne.symm (l9K _ (List.mem_cons_of_mem _ (List.mem_cons_of_mem _ (List.mem_cons_self ..))))), ints_set (hI1 _) _ _ _, mem_butI (List.mem_cons_of_mem _ (mem_butI (List.mem_cons_of_mem _ (List.mem_cons_of_mem _ (List.mem_cons_of_mem _ (List.mem_cons_of_mem _ hxm)))) (l9K _ (List.mem_cons_of_mem _ (List.mem_cons_of_mem _ (List.mem_cons_of_mem _ hxm)))))) (hnI _ hxm), mem_butI (List.mem_cons_of_mem _ (mem_butI (List.mem_cons_of_mem _ (List.mem_cons_of_mem _ (List.mem_cons_of_mem _ (List.mem_cons_of_mem _ hdm)))) (l9K _ (List.mem_cons_of_mem _ (List.mem_cons_of_mem _ (List.mem_cons_of_mem _ hdm)))))) (hnI _ hdm), Ne.symm (l9K _ (List.mem_cons_of_mem _ (List.mem_cons_of_mem _ (List.mem_cons_of_mem _ hxm)))), Ne.symm (l9K _ (List.mem_cons_of_mem _ (List.mem_cons_of_mem _ (List.mem_cons_of_mem _ hdm)))), rfl, rfl, rfl, rfl, rfl, rfl, rfl, trivial⟩
      · exact absurd (e ▸ hc) h0'
    · skip
      with_reducible rename Fr _ _ _ _ => F7
      with_reducible rename News _ _ _ _ => N7
      have hc : c = 9 := ch_of (k := 9) (x := Str.ofString "\t") (by decide +kernel) (by assumption)
      rcases lead_at hi hil with ⟨hlt, hi1⟩ | ⟨_, e⟩
      · have hcmp : ¬ ((its.length : Nat) : Int) ≤ (wsZ (lead.take i)).b := by assumption
        have hpad : padTo (wsZ (lead.take i)).cnt (wsZ (lead.take i)).b = (wsZ (lead.take i)).cnt := if_neg (by omega)
        have hI1 : IntsAre its (padTo (wsZ (lead.take i)).cnt (wsZ (lead.take i)).b) := by rw [hpad]; exact hcnt
        have hlen1 : (wsZ (lead.take i)).b < (padTo (wsZ (lead.take i)).cnt (wsZ (lead.take i)).b).length := by rw [hpad]; omega
        have hlen2 : (padTo (wsZ (lead.take i)).cnt (wsZ (lead.take i)).b).length ≤ 1000 := by rw [hpad]; omega
        have hb3 := hI1.length
        k_dflt (refine' unhold (item_anyK (News.lst N7 ((by (repeat (first | with_reducible assumption | exact List.mem_cons_self .. | refine List.mem_cons_of_mem _ ?_))))) hI1 ?_ ?_ ?_ ?_ (by with_unfolding_all rfl)))
        · omega
        · omega
        · omega
        intro t8
        k_unmd
        (try k_fold)
        k_steps
        with_reducible rename Fr _ _ _ _ => F7
        with_reducible rename News _ _ _ _ => N7
        refine unhold (led_setItem F7 N7 ((by (repeat (first | with_reducible assumption | exact List.mem_cons_self .. | refine List.mem_cons_of_mem _ ?_)))) (by omega) (by omega) (by omega) ?_)
        intro h9 k9 F9 N9
        clear F7 N7
        (try dsimp only)
        k_unmd
        (try k_fold)
        k_steps
        with_reducible rename Fr _ _ _ _ => F7
        with_reducible rename News _ _ _ _ => N9
        refine lendF F7 N9 (List.mem_cons_of_mem _ (mem_butI (List.mem_cons_self ..) (Ne.symm (show K ≠ Ix from hnI _ hK)))) ?_
        rw [wsZ_take hi1, wsStep, if_pos hc]
        exact ⟨hlt, _, _, _, _, _, _, _, _, mem_butI (List.mem_cons_self ..) (show K ≠ Ix from hnI _ hK), ints_set hI1 _ _ _, mem_butI (List.mem_cons_of_mem _ (mem_butI (List.mem_cons_of_mem _ hxm) (Ne.symm hKx))) (hnI _ hxm), mem_butI (List.mem_cons_of_mem _ (mem_butI (List.mem_cons_of_mem _ hdm) (Ne.symm hKd))) (hnI _ hdm), hKx, hKd, rfl, rfl, rfl, rfl, rfl, rfl, rfl, trivial⟩
      · exact absurd (e ▸ hc) h0'
    · have hc1 : ¬ c = 32 := ch_not (k := 32) (x := Str.ofString " ") (by decide +kernel) (by assumption)
      have hc2 : ¬ c = 9 := ch_not (k := 9) (x := Str.ofString "\t") (by decide +kernel) (by assumption)
      rcases lead_at hi hil with ⟨hlt, hi1⟩ | ⟨hie, _⟩
      · rcases hlead c (List.mem_of_getElem? hi1) with e | e
        · exact absurd e hc1
        · exact absurd e hc2
      refine lbrk ?_
      dsimp only
      rw [hie, List.take_length] at hcnt
      rw [hie, List.take_length] at F
      have N3 := News.three N (List.mem_cons_of_mem _ hxm) (List.mem_cons_of_mem _ hdm) (List.mem_cons_of_mem _ hK)
      clear N
      k_unmd
      (try k_fold)
      k_steps
      with_reducible rename News _ _ _ _ => N5
      have hDd : (_ : Addr) ≠ dx := News.apart N5 (List.mem_cons_of_mem _ (List.mem_cons_self ..)) (List.mem_cons_of_mem _ (List.mem_cons_of_mem _ (List.mem_cons_of_mem _ (List.mem_cons_self ..)))) (fun e => nomatch congrArg Obj.data e)
      k_steps
      with_reducible rename News _ _ _ _ => N5
      with_reducible rename Fr _ _ _ _ => F5
      refine hret _ _ _ (fun b o e => F5.keep _ _ e) ⟨xo, dx, _, _, its, n, _, _, _, _, _, _, tn, tnt, tb, rfl, hcnt, hxn, hdn, News.fresh N5 (List.mem_cons_self ..), News.fresh N5 (List.mem_cons_of_mem _ (List.mem_cons_self ..)),
        News.get N5 (List.mem_cons_of_mem _ (List.mem_cons_of_mem _ (List.mem_cons_self ..))), News.get N5 (List.mem_cons_of_mem _ (List.mem_cons_of_mem _ (List.mem_cons_of_mem _ (List.mem_cons_self ..)))), News.get N5 (List.mem_cons_self ..), News.get N5 (List.mem_cons_of_mem _ (List.mem_cons_self ..))⟩
  · rintro m₁ news₁ h tk _ ⟨hil, _⟩ F N
    rw [List.length_append, List.length_cons] at hil
    omega

end
section
/-! ### Whitespace.indent_level -/
noncomputable def ilZ (size : Int) (cnt : List Int) : Nat → Int
  | 0 => 0
  | k + 1 => ilZ size cnt k + ((size + (k : Nat)).fdiv size) * cnt.getD (size + (k : Nat)).toNat 0
noncomputable def ilN (size : Int) (cnt : List Int) : Nat := ((cnt.length : Nat) - size).toNat
noncomputable def indentZ (size : Int) (st : WSt) : Int := st.b + size * (ilZ size st.cnt (ilN size st.cnt) + st.nt)
section
variable {prog : Program} {w : World} {A : Around} {E : Value → Shared → Prop} {s : Shared} {h₀ : Heap} {L : Addr} {m : Str → Option Value} {news : List (Addr × Obj)}
theorem tup_item {value slice : Expr} {l : Addr} {vs : List Value} {ns : List Int} {k : Int} {u : Tok} {Q : Value → Shared → Prop} (N : News h₀ L s.heap news) (hl : (l, tupOf vs.toArray) ∈ news) (hi : IntsAre vs ns)
    (h0 : 0 ≤ k) (h1 : k < ns.length) (hb : ns.length ≤ 5000) (hs : subscripted slice false (.ref l) (.int k u) = operate [.ref l, .int k u] (getItem (.ref l) (.int k u))) (hg : ∀ r, letTemporaryGo value (.ref l) r = pure ())
    (h : ∀ t, Q (.int (ns.getD k.toNat 0) t) s) : wpAny (model prog w) A (subscriptTail value slice (.ref l) (.int k u)) Q E s := by
  obtain ⟨t, ht⟩ := ints_at hi k.toNat (by omega)
  exact item_tupleL (News.isTup N hl) (by omega) (by omega) (seqIndex_of h0 (by rw [hi.length]; exact h1)) ht (h t) hs hg
theorem tup_len {K : Addr} {its : List Value} {Q : Value → Shared → Prop} (N : News h₀ L s.heap news) (hK : (K, tupOf its.toArray) ∈ news) (hb : its.length ≤ 1000)
    (h : Q (.int its.length (s.toks + 1)) { s with toks := s.toks + 1 + 1 }) : wpAny (model prog w) A (call (.builtin "len") [.ref K]) Q E s :=
  len_tuple (News.isTup N hK) (by simp only [List.size_toArray]; omega) (by simpa only [List.size_toArray] using h)
end
local macro_rules | `(tactic| walk_at "subscriptTail") => `(tactic| ((with_reducible show wpAny _ _ (subscriptTail _ _ (Value.ref _) (Value.int _ _)) _ _ _); (with_reducible rename News _ _ _ _ => N7); k_dflt (refine tup_item N7 (by (repeat (first | with_reducible assumption | exact List.mem_cons_self .. | refine List.mem_cons_of_mem _ ?_))) (by assumption) (by omega) (by omega) (by omega) (by with_unfolding_all rfl) (by intro _; with_unfolding_all rfl) ?_); intro _))
local macro_rules | `(tactic| walk_at "call builtin:len") => `(tactic| (k_here; (with_reducible show wpAny _ _ (call (Value.builtin "len") [Value.ref _]) _ _ _); (with_reducible rename News _ _ _ _ => N7); k_dflt (refine tup_len N7 (by (repeat (first | with_reducible assumption | exact List.mem_cons_self .. | refine List.mem_cons_of_mem _ ?_))) (by omega) ?_)))
theorem indent_c {prog : Program} {w : World} (x : Str) (xo dx D Tp : Addr) (its : List Value) (n : Int) (sm : Bool) (t1 r1 r2 r3 r4 r5 tn tnt tb t2 : Tok) (st : WSt) (size : Int) (hcnt : IntsAre its st.cnt) (hs : 1 ≤ size) (h6 : size ≤ 6) (hlen : its.length ≤ 100) (hbd : ∀ k, 0 ≤ st.cnt.getD k 0 ∧ st.cnt.getD k 0 ≤ 100)
    {p : Program} {loose : List Str} {mean : ExcName → Option Value} {mg mb : Str → Option Value} {dp un : Nat} {gd : Option (List Code)} {cn : Str} {cs : Scope} {a' : Addr} {ccd : Value} {cl : List (Str × Addr)} {outer : List Env} {A₀ : Around}
    {base h₀ : Heap} {L : Addr} {m : Str → Option Value} {s : Shared} {Q E : Value → Shared → Prop} (N : News h₀ L s.heap [(xo, instObj 125 dx), (dx, dictOf (wsEs w x n st.nt D sm t1 r1 r2 r3 r4 r5 tn tnt) 5), (D, tupOf #[.ref Tp, .int st.b tb]), (Tp, tupOf its.toArray)])
    (B : Below A₀ base outer h₀) (F : Fr h₀ L s.heap m) (X : (Mine.hd.heap_1 w.params).In h₀) (T : Top p loose mean mg mb h₀) (hk : cs.kind = .function) (hd : dp + 1 < recursionLimit) (hu : un + 16 < cLine)
    (hret : ∀ t h' tk', (∀ b o, s.heap.get? b = some o → h'.get? b = some o) → Q (.int (indentZ size st) t) { s with heap := h', toks := tk' }) :
    wpAny (model prog w) (ktrTop dp un gd cn cs L a' ccd cl outer) (call (.ref 94) [.ref xo, .int size t2]) Q E s := by
  walk_at "MyFill"
  have hN0 := N
  k_dflt ((refine' kc_enterW ?k0_23 ?k1_23 ?k2_23 ?k3_23 ?k5_23 ?kA_23 ?kF_23 ?kK_23 ?k6_23 ?k7_23 ?k8_23 ?k9_23 ?kB_23 ?_ ?c2_23 ?c3_23 ?c4_23 ?c5_23; (case k0_23 => k_asm); ((case kA_23 => exact rfl); (case kF_23 => exact rfl); (case kK_23 => assumption); (case k1_23 => k_asm); (case k2_23 => k_asm); (case k3_23 => k_asm); (case k5_23 => k_asm); (case k6_23 => k_is); (case k7_23 => k_is); (case k8_23 => ktr_room); (case k9_23 => exact BindsTo.of_eq rfl); (case c2_23 => exact rfl); (case c3_23 => exact rfl); (case c4_23 => exact rfl)); (case c5_23 => decide); (case kB_23 => exact locs rfl); k_whole))
  intro g' L' h' G' F' N' B' X' T'
  clear B F X T hk
  replace F' : Fr g' L' h' (fun y => List.lookup y [(Str.ofString "tabsize", .int size t2), (Str.ofString "self", .ref xo)]) := F'
  (try dsimp only [wsEs] at N')
  (try dsimp only)
  have hil := hcnt.length
  k_unmd
  (try k_fold)
  k_steps


  refine For_K ?_ (fun _ => rfl)
  k_steps
  with_reducible rename Fr _ _ _ _ => F9
  with_reducible rename News _ _ _ _ => N9
  refine unhold (lk_range (T := 0) (n := ilN size st.cnt) (Nat.zero_le _) (fun i m news => (∀ q ∈ [(xo, instObj 125 dx), (dx, dictOf (wsEs w x n st.nt D sm t1 r1 r2 r3 r4 r5 tn tnt) 5), (D, tupOf #[.ref Tp, .int st.b tb]), (Tp, tupOf its.toArray)], q ∈ news) ∧
      ∃ tl, Kn [(Str.ofString "il", .int (ilZ size st.cnt i) tl), (Str.ofString "trailing", .int st.b tb), (Str.ofString "count", .ref Tp), (Str.ofString "tabsize", .int size t2), (Str.ofString "self", .ref xo)] m)
    rfl rfl rfl (by assumption) (small_one (by omega) (by omega) (by omega) (by omega)) ((rangeSize_nat _ _).trans rfl) F9 N9 ?_ ?_ ?_)
  · exact ⟨fun q hq => hq, _, rfl, rfl, rfl, rfl, rfl, trivial⟩
  · intro i tx m₁ news₁ h tk Ix ox _ hi hJ0_10 hnI F N
    refine hide fun hG9 => ?_
    obtain ⟨hsub, tl, kn⟩ := hJ0_10
    refine hG9 ?_
    clear hG9
    clear F9 N9
    replace F := Fr.knX F kn
    simp only [ovr] at F
    clear kn
    have hT := hsub (Tp, tupOf its.toArray) (List.mem_cons_of_mem _ (List.mem_cons_of_mem _ (List.mem_cons_of_mem _ (List.mem_cons_self ..))))
    have hib : (size + (i : Nat) : Int) < st.cnt.length := by unfold ilN at hi; omega
    have hfd : 0 ≤ (size + (i : Nat) : Int).fdiv size ∧ (size + (i : Nat) : Int).fdiv size ≤ 100 := by
      rw [Int.fdiv_eq_ediv_of_nonneg _ (by omega)]
      exact ⟨Int.ediv_nonneg (by omega) (by omega), Int.le_trans (Int.ediv_le_self _ (by omega)) (by omega)⟩
    obtain ⟨hf0, hf1⟩ := hfd
    have hg0 := hbd (size + (i : Nat) : Int).toNat
    obtain ⟨hg0, hg1⟩ := hg0
    k_unmd
    (try k_fold)
    k_steps
    with_reducible rename Fr _ _ _ _ => F7
    with_reducible rename News _ _ _ _ => N7
    refine lendF F7 N7 (List.mem_cons_self ..) ⟨fun q hq => mem_butI (List.mem_cons_of_mem _ (hsub q hq)) (hnI q (hsub q hq)), _, rfl, rfl, rfl, rfl, rfl, trivial⟩
  · intro m₁ news₁ h tk _ hJ1_5 F N
    refine hide fun hG9 => ?_
    obtain ⟨hsub, tl, kn⟩ := hJ1_5
    refine hG9 ?_
    clear hG9
    clear F9 N9
    replace F := Fr.kn F kn
    simp only [ovr] at F
    clear kn
    replace N : News g' L' h [(xo, instObj 125 dx), (dx, dictOf (wsEs w x n st.nt D sm t1 r1 r2 r3 r4 r5 tn tnt) 5), (D, tupOf #[.ref Tp, .int st.b tb]), (Tp, tupOf its.toArray)] := fun q hq => N q (hsub q hq)
    dsimp only [wsEs] at N
    dsimp only
    k_unmd
    (try k_fold)
    k_steps
    with_reducible rename Fr _ _ _ _ => F7
    with_reducible rename News _ _ _ _ => N7
    refine hret _ _ _ (fun b o e => ?_)
    by_cases hb : b ∈ List.map (fun x : Addr × Obj => x.1) [(xo, instObj 125 dx), (dx, dictOf (wsEs w x n st.nt D sm t1 r1 r2 r3 r4 r5 tn tnt) 5), (D, tupOf #[.ref Tp, .int st.b tb]), (Tp, tupOf its.toArray)]
    · refine hide fun hG9 => ?_
      obtain ⟨q, hq, rfl⟩ := List.mem_map.mp hb
      refine hG9 ?_
      clear hG9
      have h1 := (hN0 q hq).1
      rw [e] at h1
      rw [Option.some.inj h1]
      exact (N7 q hq).1
    · exact F7.keep _ _ (G' b o e hb)

end
section
/-! ### _law_hard -/
noncomputable def farL (ts : List Int) (y : Nat) (n : Nat) : List Int := ((List.range n).filter fun r => decide (tI ts (y : Nat) < tI ts (r : Nat))).map fun r : Nat => (r : Int)
noncomputable def hardR (ts : List Int) (page : Str) (z x y : Nat) (r : Int) : Bool :=
  foundB page [(x : Nat), (y : Nat), r, (z : Nat)] || (foundB page [(y : Nat), (x : Nat), r, (z : Nat)] && ((farL ts y 6).filter fun s => foundB page [(y : Nat), s, (x : Nat)]).isEmpty)
noncomputable def hardY (ts : List Int) (page : Str) (z x y : Nat) : Bool := decide (tI ts (x : Nat) < tI ts (y : Nat)) && (farL ts y 6).any (hardR ts page z x y)
noncomputable def hardX (ts : List Int) (page : Str) (z x : Nat) : Bool := decide (tI ts (z : Nat) < tI ts (x : Nat)) && (List.range 6).any (hardY ts page z x)
noncomputable def hardB (ts : List Int) (page : Str) : Bool := (List.range 6).any fun z => (List.range 6).any (hardX ts page z)

theorem farL_succ (ts : List Int) (y n : Nat) : farL ts y (n + 1) = farL ts y n ++ (if tI ts (y : Nat) < tI ts (n : Nat) then [(n : Int)] else []) := by
  unfold farL
  rw [List.range_succ, List.filter_append, List.map_append]
  congr 1
  by_cases c : tI ts (y : Nat) < tI ts (n : Nat)
  · rw [if_pos c, List.filter_cons_of_pos (by simpa using c)]; rfl
  · rw [if_neg c, List.filter_cons_of_neg (by simpa using c)]; rfl
theorem farL_len (ts : List Int) (y n : Nat) : (farL ts y n).length ≤ n := by
  unfold farL
  rw [List.length_map]
  exact Nat.le_trans (List.length_filter_le ..) (by rw [List.length_range]; exact Nat.le_refl _)
theorem farL_mem {ts : List Int} {y n : Nat} {r : Int} (h : r ∈ farL ts y n) : 0 ≤ r ∧ r < n := by
  unfold farL at h
  refine hide fun hG9 => ?_
  obtain ⟨k, hk, rfl⟩ := List.mem_map.mp h
  refine hG9 ?_
  clear hG9
  have := List.mem_range.mp (List.mem_filter.mp hk).1
  omega
local macro_rules | `(tactic| walk_at "call ref") => `(tactic| (k_here; (with_reducible show wpAny _ _ (call (Value.ref 35) [_, _]) _ _ _); k_dflt (refine kc_useA (lt_c _ _ _ _) trivial ?_); walk_at "MyBackH"))
local macro_rules | `(tactic| walk_at "call ref") => `(tactic| (k_here; (with_reducible show wpAny _ _ (call (Value.ref 148) [Value.str _ _, Value.ref _]) _ _ _); (with_reducible rename News _ _ _ _ => N7); k_dflt (refine kc_useA (found4 _ _ _ _ _ _ _ _ _ _ _ ?_ ?_ ?_ ?_ ?_) (News.isTup N7 (by k_mem)) ?_); (· omega); (· omega); (· omega); (· omega); (· omega); walk_at "MyBack"))
theorem el_newTuple {prog : Program} {w : World} {A : Around} {E : Value → Shared → Prop} {s : Shared} {h₀ hE : Heap} {L C : Addr} {m mE : Str → Option Value} {news : List (Addr × Obj)} {items : List Value} {Q : Value → Shared → Prop}
    (F : Fr h₀ L s.heap m) (N : News h₀ L s.heap news) (NS : s.heap.Ns C mE) (HG : HasG hE s.heap) (hz : items.length ≤ sizeLine)
    (h : ∀ h' a, Fr h₀ L h' m → News h₀ L h' ((a, tupOf items.toArray) :: news) → h'.Ns C mE → HasG hE h' → Q (.ref a) { s with heap := h' }) : wpAny (model prog w) A (newTuple items) Q E s :=
  wpAny_newTuple (hsz := hz) (h _ _ (F.push _) (News.push F N _) (NS.keeps fun _ _ e => Heap.get?_push_of_some _ e) (HasG.tr HG fun _ _ e => Heap.get?_push_of_some _ e))
local macro_rules | `(tactic| walk_at "newTuple") => `(tactic| (k_here; (with_reducible rename Heap.Ns _ _ _ => NS8); (with_reducible rename HasG _ _ => HG8); (with_reducible rename Fr _ _ _ _ => F8); (with_reducible rename News _ _ _ _ => N8); k_dflt (refine el_newTuple F8 N8 NS8 HG8 (by simp only [List.length_cons, List.length_nil]; decide) ?_); intro h9 a9 F9 N9 NS9 HG9; clear F8 N8 NS8 HG8))
local macro_rules | `(tactic| walk_at "call ref") => `(tactic| (k_here; (with_reducible show wpAny _ _ (call (Value.ref 148) [Value.str _ _, Value.ref _]) _ _ _); (with_reducible rename News _ _ _ _ => N7); k_dflt (refine kc_useA (found3 _ _ _ _ _ _ _ _ _ ?_ ?_ ?_ ?_) (News.isTup N7 (List.mem_cons_self ..)) ?_); (· omega); (· omega); (· omega); (· omega); walk_at "MyBackH"))
local macro_rules | `(tactic| walk_at "exec Assign cons ListComp") => `(tactic| (refine hold ?_))
theorem hard_yes {ts : List Int} {page : Str} {z x y : Nat} {r : Int} (hz : z < 6) (hx : x < 6) (hy : y < 6) (c1 : tI ts (z : Nat) < tI ts (x : Nat)) (c2 : tI ts (x : Nat) < tI ts (y : Nat)) (hr : r ∈ farL ts y 6) (h : hardR ts page z x y r = true) : hardB ts page = true := by
  have h1 : hardY ts page z x y = true := by
    unfold hardY; rw [decide_eq_true c2, Bool.true_and]; exact List.any_eq_true.mpr ⟨r, hr, h⟩
  have h2 : hardX ts page z x = true := by
    unfold hardX; rw [decide_eq_true c1, Bool.true_and]; exact List.any_eq_true.mpr ⟨y, List.mem_range.mpr hy, h1⟩
  exact List.any_eq_true.mpr ⟨z, List.mem_range.mpr hz, List.any_eq_true.mpr ⟨x, List.mem_range.mpr hx, h2⟩⟩
theorem any_range {P : Nat → Bool} {n : Nat} (h : ∀ j, j < n → P j = false) : (List.range n).any P = false := by
  rw [List.any_eq_false]
  intro j hj
  rw [h j (List.mem_range.mp hj)]; decide
theorem any_getD {P : Int → Bool} {l : List Int} (h : ∀ j, j < l.length → P (l.getD j 0) = false) : l.any P = false := by
  rw [List.any_eq_false]
  intro r hr
  refine hide fun hG9 => ?_
  obtain ⟨j, hj, rfl⟩ := List.getElem_of_mem hr
  refine hG9 ?_
  clear hG9
  have := h j hj
  rw [List.getD_eq_getElem?_getD, List.getElem?_eq_getElem hj, Option.getD_some] at this
  rw [this]; decide
theorem upto {P : Nat → Bool} {i : Nat} (h : ∀ j, j < i → P j = false) (hi : P i = false) : ∀ j, j < i + 1 → P j = false := fun j hj => by
  by_cases e : j = i
  · rw [e]; exact hi
  · exact h j (by omega)
theorem hard_c {prog : Program} {w : World} (page : Str) (lt : Addr) (t1 : Tok) (tv : List Value) (ts : List Int) (htv : IntsAre tv ts) (ht6 : ts.length = 6) (hg : page.length ≤ 1000) :
    KC prog w 3 128 177 [.str page t1, .ref lt] (fun h => h.IsList lt tv.toArray) (fun v h h' => v = .bool (hardB ts page)) := by
  walk_at "MyFill"
  unfold KC
  intro p loose mean mg mb dp un gd cn cs a' ccd cl outer A₀ base h₀ L m s Q E B F X T hk hd hu hpre hret
  k_dflt ((refine' kc_enterT ?k1_24 ?k2_24 ?k3_24 ?k5_24 ?kA_24 ?kF_24 ?kK_24 ?k6_24 ?k7_24 ?k8_24 ?k9_24 ?kB_24 ?kD_24 ?_ ?c2_24 ?c3_24 ?c4_24; ((case kA_24 => exact rfl); (case kF_24 => exact rfl); (case kK_24 => assumption); (case k1_24 => k_asm); (case k2_24 => k_asm); (case k3_24 => k_asm); (case k5_24 => k_asm); (case k6_24 => k_is); (case k7_24 => k_is); (case k8_24 => ktr_room); (case k9_24 => exact BindsTo.of_eq rfl); (case c2_24 => exact rfl); (case c3_24 => exact rfl); (case c4_24 => exact rfl)); (case kB_24 => exact rfl); (case kD_24 => decide +kernel); k_whole))
  intro g' L' h' tk' cells' ht' G' F' N' Y' B' X' T'
  k_cells Y'
  rename_i oY0 oX0 oT oP dY0 dX0 dT dP
  replace dT : oT.data = Data.cell (some (.ref lt)) := dT
  replace dP : oP.data = Data.cell (some (.str page t1)) := dP
  clear B F X T hk
  have hlt := HasG.list G' hpre
  (try dsimp only)
  k_unmd
  k_fold
  k_steps
  refine For_K ?_ (fun _ => rfl)
  k_steps
  with_reducible rename Fr _ _ _ _ => F9
  with_reducible rename News _ _ _ _ => N9
  refine unhold (lk_range (T := 0) (n := 6) (Nat.zero_le _) (fun i m news => ∃ oX vX oY vY, oX.data = Data.cell vX ∧ oY.data = Data.cell vY ∧ (L' + 1 + 1 + 1 + 1, oY) ∈ news ∧ (L' + 1 + 1 + 1, oX) ∈ news ∧ (L' + 1 + 1, oT) ∈ news ∧ (L' + 1, oP) ∈ news ∧
      ∀ z, z < i → (List.range 6).any (hardX ts page z) = false)
    rfl rfl rfl (by assumption) (by decide) (by decide) F9 N9 ?_ ?_ ?_)
  · exact ⟨_, _, _, _, dX0, dY0, by k_mem, by k_mem, by k_mem, by k_mem, fun _ h => absurd h (Nat.not_lt_zero _)⟩
  · intro z tz m₁ news₁ h tk Iz oz _ hz hJ2_10 hnI F N
    refine hide fun hG9 => ?_
    obtain ⟨oX, vX, oY, vY, dX, dY, hY, hX, hT, hP, hno⟩ := hJ2_10
    refine hG9 ?_
    clear hG9
    clear F9 N9
    rw [Int.zero_add] at F
    have N1 : News g' L' h [(Iz, oz), (L' + 1 + 1 + 1 + 1, oY), (L' + 1 + 1 + 1, oX), (L' + 1 + 1, oT), (L' + 1, oP)] := News.perm N (by
      intro p hp
      simp only [List.mem_cons, List.not_mem_nil, or_false] at hp
      rcases hp with rfl | rfl | rfl | rfl | rfl
      · exact List.mem_cons_self ..
      all_goals (refine List.mem_cons_of_mem _ ?_; assumption))
    have hIY : L' + 1 + 1 + 1 + 1 ≠ Iz := hnI _ hY
    have hIX : L' + 1 + 1 + 1 ≠ Iz := hnI _ hX
    have hIT : L' + 1 + 1 ≠ Iz := hnI _ hT
    have hIP : L' + 1 ≠ Iz := hnI _ hP
    clear N hnI hY hX hT hP
    k_unmd
    (try k_fold)
    k_steps
    refine For_K ?_ (fun _ => rfl)
    k_steps
    with_reducible rename Fr _ _ _ _ => F9
    with_reducible rename News _ _ _ _ => N9
    refine unhold (lk_rangeC (T := 0) (n := 6) (Nat.zero_le _) (L' + 1 + 1 + 1) (fun i m news => ∃ oX vX oY vY, oX.data = Data.cell vX ∧ oY.data = Data.cell vY ∧ (L' + 1 + 1 + 1 + 1, oY) ∈ news ∧ (L' + 1 + 1 + 1, oX) ∈ news ∧ (L' + 1 + 1, oT) ∈ news ∧ (L' + 1, oP) ∈ news ∧
        (Iz, oz) ∈ news ∧ (∀ x, x < i → hardX ts page z x = false) ∧ Kn [(Str.ofString "z", .int (z : Nat) tz)] m)
      rfl rfl rfl rfl (by assumption) (by decide) (by decide) F9 N9 ?_ ?_ ?_ ?_)
    · exact ⟨_, _, _, _, dX, dY, by k_mem, by k_mem, by k_mem, by k_mem, by k_mem, (fun _ h => absurd h (Nat.not_lt_zero _)), rfl, trivial⟩
    · rintro i m news ⟨oX, vX, oY, vY, dX, dY, hY, hX, _⟩
      exact ⟨oX, vX, hX, dX⟩
    · intro x tx m₂ news₂ h₂ tk₂ Ix ox oX' _ hx hJ3_11 hnI dX' F N
      refine hide fun hG9 => ?_
      obtain ⟨oX, vX, oY, vY, dX, dY, hY, hX, hT, hP, hIz, hno2, kn⟩ := hJ3_11
      refine hG9 ?_
      clear hG9
      clear F9 N9
      rw [Int.zero_add] at dX'
      replace F := Fr.kn F kn
      simp only [ovr] at F
      clear kn
      have N1 : News g' L' h₂ [(Ix, ox), (L' + 1 + 1 + 1 + 1, oY), (L' + 1 + 1 + 1, oX'), (L' + 1 + 1, oT), (L' + 1, oP), (Iz, oz)] := News.perm N (by
        intro p hp
        simp only [List.mem_cons, List.not_mem_nil, or_false] at hp
        rcases hp with rfl | rfl | rfl | rfl | rfl | rfl
        · exact List.mem_cons_self ..
        · exact List.mem_cons_of_mem _ (List.mem_cons_of_mem _ (mem_butI hY (neN (by omega))))
        · exact List.mem_cons_of_mem _ (List.mem_cons_self ..)
        · exact List.mem_cons_of_mem _ (List.mem_cons_of_mem _ (mem_butI hT (neN (by omega))))
        · exact List.mem_cons_of_mem _ (List.mem_cons_of_mem _ (mem_butI hP (neN (by omega))))
        · exact List.mem_cons_of_mem _ (List.mem_cons_of_mem _ (mem_butI hIz (Ne.symm hIX))))
      have hJY : L' + 1 + 1 + 1 + 1 ≠ Ix := hnI _ hY
      have hJX : L' + 1 + 1 + 1 ≠ Ix := hnI _ hX
      have hJT : L' + 1 + 1 ≠ Ix := hnI _ hT
      have hJP : L' + 1 ≠ Ix := hnI _ hP
      have hJI : Iz ≠ Ix := hnI _ hIz
      clear N hnI hY hX hT hP hIz
      k_unmd
      (try k_fold)
      k_steps
      rotate_left
      · have c1 : ¬ tI ts (z : Nat) < tI ts (x : Nat) := decF (by assumption) (by assumption)
        with_reducible rename Fr _ _ _ _ => F7
        with_reducible rename News _ _ _ _ => N7
        dsimp only
        refine lendC F7 N7 (List.mem_cons_self ..) ?_
        exact ⟨_, _, _, _, dX', dY, mem_butI (by k_mem) hJY, mem_butI (by k_mem) hJX, mem_butI (by k_mem) hJT, mem_butI (by k_mem) hJP, mem_butI (by k_mem) hJI, upto hno2 (by unfold hardX; rw [decide_eq_false c1]; rfl), rfl, trivial⟩
      have c1 : tI ts (z : Nat) < tI ts (x : Nat) := decT (by assumption) (by assumption)
      refine For_K ?_ (fun _ => rfl)
      k_steps
      with_reducible rename Fr _ _ _ _ => F9
      with_reducible rename News _ _ _ _ => N9
      refine unhold (lk_rangeC (T := 0) (n := 6) (Nat.zero_le _) (L' + 1 + 1 + 1 + 1) (fun i m news => ∃ oY vY, oY.data = Data.cell vY ∧ (L' + 1 + 1 + 1 + 1, oY) ∈ news ∧ (L' + 1 + 1 + 1, oX') ∈ news ∧ (L' + 1 + 1, oT) ∈ news ∧ (L' + 1, oP) ∈ news ∧
          (Iz, oz) ∈ news ∧ (Ix, ox) ∈ news ∧ (∀ y, y < i → hardY ts page z x y = false) ∧ Kn [(Str.ofString "z", .int (z : Nat) tz)] m)
        rfl rfl rfl rfl (by assumption) (by decide) (by decide) F9 N9 ?_ ?_ ?_ ?_)
      · exact ⟨_, _, dY, by k_mem, by k_mem, by k_mem, by k_mem, by k_mem, by k_mem, (fun _ h => absurd h (Nat.not_lt_zero _)), rfl, trivial⟩
      · rintro i m news ⟨oY, vY, dY, hY, _⟩
        exact ⟨oY, vY, hY, dY⟩
      · intro y ty m₃ news₃ h₃ tk₃ Iy oy oY' _ hy hJ4_11 hnI dY' F N
        refine hide fun hG9 => ?_
        obtain ⟨oY, vY, dY, hY, hX, hT, hP, hIz, hIx, hno3, kn⟩ := hJ4_11
        refine hG9 ?_
        clear hG9
        clear F9 N9
        rw [Int.zero_add] at dY'
        replace F := Fr.kn F kn
        simp only [ovr] at F
        clear kn
        have N1 : News g' L' h₃ [(Iy, oy), (L' + 1 + 1 + 1 + 1, oY'), (L' + 1 + 1 + 1, oX'), (L' + 1 + 1, oT), (L' + 1, oP), (Ix, ox), (Iz, oz)] := News.perm N (by
          intro p hp
          simp only [List.mem_cons, List.not_mem_nil, or_false] at hp
          rcases hp with rfl | rfl | rfl | rfl | rfl | rfl | rfl
          · exact List.mem_cons_self ..
          · exact List.mem_cons_of_mem _ (List.mem_cons_self ..)
          · exact List.mem_cons_of_mem _ (List.mem_cons_of_mem _ (mem_butI hX (neN (by omega))))
          · exact List.mem_cons_of_mem _ (List.mem_cons_of_mem _ (mem_butI hT (neN (by omega))))
          · exact List.mem_cons_of_mem _ (List.mem_cons_of_mem _ (mem_butI hP (neN (by omega))))
          · exact List.mem_cons_of_mem _ (List.mem_cons_of_mem _ (mem_butI hIx (Ne.symm hJY)))
          · exact List.mem_cons_of_mem _ (List.mem_cons_of_mem _ (mem_butI hIz (Ne.symm hIY))))
        have hKY : L' + 1 + 1 + 1 + 1 ≠ Iy := hnI _ hY
        have hKX : L' + 1 + 1 + 1 ≠ Iy := hnI _ hX
        have hKT : L' + 1 + 1 ≠ Iy := hnI _ hT
        have hKP : L' + 1 ≠ Iy := hnI _ hP
        have hKx : Ix ≠ Iy := hnI _ hIx
        have hKz : Iz ≠ Iy := hnI _ hIz
        clear N hnI hY hX hT hP hIz hIx
        k_unmd
        (try k_fold)
        k_steps
        rotate_left
        · have c2 : ¬ tI ts (x : Nat) < tI ts (y : Nat) := decF (by assumption) (by assumption)
          with_reducible rename Fr _ _ _ _ => F7
          with_reducible rename News _ _ _ _ => N7
          dsimp only
          refine lendC F7 N7 (List.mem_cons_self ..) ?_
          exact ⟨_, _, dY', mem_butI (by k_mem) hKY, mem_butI (by k_mem) hKX, mem_butI (by k_mem) hKT, mem_butI (by k_mem) hKP, mem_butI (by k_mem) hKz, mem_butI (by k_mem) hKx, upto hno3 (by unfold hardY; rw [decide_eq_false c2]; rfl), rfl, trivial⟩
        have c2 : tI ts (x : Nat) < tI ts (y : Nat) := decT (by assumption) (by assumption)
        ((with_reducible rename Fr _ _ _ _ => kF); k_dflt (refine' cp_assignF kF ?a_25 ?a2_25 ?b_25 ?c_25 ?d_25 ?e_25 ?f_25 ?f2_25 ?f3_25 ?g_25 ?_; (case a_25 => with_unfolding_all rfl); (case a2_25 => rfl); (case b_25 => with_unfolding_all rfl); (case c_25 => decide); (case d_25 => with_unfolding_all rfl); (case e_25 => decide); (case f_25 => with_unfolding_all rfl); (case f2_25 => with_unfolding_all rfl); (case f3_25 => with_unfolding_all rfl); (case g_25 => (intro _; with_unfolding_all rfl)); k_whole))
        k_steps
        with_reducible rename Fr _ _ _ _ => F9
        with_reducible rename News _ _ _ _ => N9
        refine unhold (cs_range (T := 0) (Nat.zero_le _) (n := 6) (fun n ys nl => nl = [] ∧ n ≤ 6 ∧ IntsAre ys (farL ts y n)) rfl (by assumption) (by decide) (by decide) F9 N9 ⟨rfl, Nat.zero_le _, .nil⟩ ?_ ?_ ?_)
        · rintro n ys nl ⟨_, hn, hy⟩
          rw [hy.length]
          have h1 := farL_len ts y n
          have h2 := hy.length
          omega
        · intro h₄ C n v ys nl h5 tk5 m5 E' _ hn hJ5_12 hJ hm hns F N hnl
          refine hide fun hG9 => ?_
          obtain ⟨tp, htp, rfl⟩ := hJ5_12
          refine hG9 ?_
          clear hG9
          refine one_test ?_
          rw [Int.zero_add] at hm
          k_unmd
          (try k_fold)
          have HH : HasG h5 h5 := fun _ _ e => e
          k_steps
          with_reducible rename HasG _ _ => HG
          by_cases c3 : tI ts (y : Nat) < tI ts (n : Nat)
          · refine test_yes (by rename_i hb9 _ _ _; exact hb9.trans (decide_eq_true c3)) HG ?_
            k_unmd
            (try k_fold)
            k_steps
            refine elt_post (fun _ _ e => e) ⟨hJ.1, by omega, ?_⟩
            rw [farL_succ, if_pos c3]
            exact hJ.2.2.append (.cons _ _ .nil)
          · refine test_no (by rename_i hb9 _ _ _; exact hb9.trans (decide_eq_false c3)) HG ⟨hJ.1, by omega, ?_⟩
            rw [farL_succ, if_neg c3, List.append_nil]
            exact hJ.2.2
        · intro h₄ D ys k nl h' tk hDn hnD hnn hJ6_10 hD0 hDL F N h'' tk' F2 N2
          refine hide fun hG9 => ?_
          obtain ⟨rfl, _, hys⟩ := hJ6_10
          refine hG9 ?_
          clear hG9
          have hDL' : D ≠ L' := hDL
          clear F N hDL
          rw [List.nil_append] at N2
          k_unmd
          (try k_fold)
          k_steps
          refine For_K ?_ (fun _ => rfl)
          k_steps
          with_reducible rename Fr _ _ _ _ => F9
          with_reducible rename News _ _ _ _ => N9
          have dD1 : D ≠ L' + 1 + 1 + 1 + 1 := neN (Nat.ne_of_gt (hDn (L' + 1 + 1 + 1 + 1, oY') (by k_mem)))
          have dD2 : D ≠ L' := hDL'
          have hfl := farL_len ts y 6
          have hyl := hys.length
          refine unhold (lk_list (T := 0) (Nat.zero_le _) [(D, listOf ys.toArray k)] (fun i m news => (∀ q ∈ [(D, listOf ys.toArray k), (Iy, oy), (L' + 1 + 1 + 1 + 1, oY'), (L' + 1 + 1 + 1, oX'), (L' + 1 + 1, oT), (L' + 1, oP), (Ix, ox), (Iz, oz)], q ∈ news) ∧
              (∀ j, j < i → hardR ts page z x y ((farL ts y 6).getD j 0) = false) ∧ Kn [(Str.ofString "z", .int (z : Nat) tz), (Str.ofString "farther", .ref D)] m)
            rfl rfl rfl (News.lst N9 (List.mem_cons_self ..)) (.inr ⟨dD2, _, List.mem_cons_self ..⟩) F9 N9 ?_ ?_ ?_ ?_)
          · rintro i m news ⟨hs, _⟩ q hq
            rw [List.mem_singleton.mp hq]
            exact hs _ (List.mem_cons_self ..)
          · exact ⟨fun q hq => hq, (fun _ h => absurd h (Nat.not_lt_zero _)), rfl, rfl, trivial⟩
          · intro i v m₄ news₄ h₆ tk₆ Ir orr _ hv hJ7_10 hnI F N
            refine hide fun hG9 => ?_
            obtain ⟨hsub, hno4, kn⟩ := hJ7_10
            refine hG9 ?_
            clear hG9
            clear F9 N9
            have hi : i < ys.length := (List.getElem?_eq_some_iff.mp hv).1
            obtain ⟨tr, hvr⟩ := ints_at hys i (by omega)
            rw [hv] at hvr
            cases Option.some.inj hvr
            have hrm : (farL ts y 6).getD i 0 ∈ farL ts y 6 := (by rw [List.getD_eq_getElem?_getD, List.getElem?_eq_getElem (by omega), Option.getD_some]; exact List.getElem_mem _)
            obtain ⟨hr0, hr6⟩ := farL_mem hrm
            generalize hrg : (farL ts y 6).getD i 0 = r at *
            replace F := Fr.knX F kn
            simp only [ovr] at F
            clear kn
            have N1 : News g' L' h₆ [(Ir, orr), (D, listOf ys.toArray k), (Iy, oy), (L' + 1 + 1 + 1 + 1, oY'), (L' + 1 + 1 + 1, oX'), (L' + 1 + 1, oT), (L' + 1, oP), (Ix, ox), (Iz, oz)] := News.perm N (by
              intro p hp
              rcases List.mem_cons.mp hp with rfl | hp
              · exact List.mem_cons_self ..
              · exact List.mem_cons_of_mem _ (hsub _ hp))
            have hRn : ∀ q ∈ [(D, listOf ys.toArray k), (Iy, oy), (L' + 1 + 1 + 1 + 1, oY'), (L' + 1 + 1 + 1, oX'), (L' + 1 + 1, oT), (L' + 1, oP), (Ix, ox), (Iz, oz)], q.1 ≠ Ir := fun q hq => hnI q (hsub q hq)
            clear N hnI hsub
            k_unmd
            (try k_fold)
            k_steps
            · dsimp only
              with_reducible rename Fr _ _ _ _ => F7
              have hfnd : foundB page [(x : Nat), (y : Nat), r, (z : Nat)] = true := eqT (by assumption) (by assumption)
              refine hret _ _ _ (fun b o e => F7.keep _ _ (G' b o e)) ?_
              rw [hard_yes hz hx hy c1 c2 hrm (by unfold hardR; rw [hfnd]; rfl)]
            · have hf1 : foundB page [(x : Nat), (y : Nat), r, (z : Nat)] = false := eqF (by assumption) (by assumption)
              have hf2 : foundB page [(y : Nat), (x : Nat), r, (z : Nat)] = true := eqT (by assumption) (by assumption)
              ((with_reducible rename Fr _ _ _ _ => kF); k_dflt (refine' cp_evalF kF ?a_26 ?b_26 ?c_26 ?d_26 ?e_26 ?f_26 ?_; (case a_26 => with_unfolding_all rfl); (case b_26 => decide); (case c_26 => with_unfolding_all rfl); (case d_26 => decide); (case e_26 => with_unfolding_all rfl); (case f_26 => (intro _; with_unfolding_all rfl)); k_whole))
              k_steps
              with_reducible rename Fr _ _ _ _ => F9
              with_reducible rename News _ _ _ _ => N9
              refine unhold (cs_list (T := 0) (Nat.zero_le _) (vs := ys) (fun n ys nl => nl = [] ∧ n ≤ 6 ∧ IntsAre ys (((farL ts y 6).take n).filter fun s => foundB page [(y : Nat), s, (x : Nat)])) rfl (News.lst N9 (by k_mem)) F9 N9 ⟨rfl, Nat.zero_le _, .nil⟩ ?_ ?_ ?_)
              · rintro n ys nl ⟨_, hn, hy⟩
                rw [hy.length]
                refine Nat.le_trans (List.length_filter_le ..) ?_
                rw [List.length_take]
                omega
              · rintro h₇ C n v ys' nl h8 tk8 m8 E' _ hn hv8 hJ hm hns F N hnl
                refine one_test ?_
                obtain ⟨t8, hvr⟩ := ints_at hys n (by omega)
                rw [hv8] at hvr
                cases Option.some.inj hvr
                have hsm : (farL ts y 6).getD n 0 ∈ farL ts y 6 := (by rw [List.getD_eq_getElem?_getD, List.getElem?_eq_getElem (by omega), Option.getD_some]; exact List.getElem_mem _)
                obtain ⟨hs0, hs6⟩ := farL_mem hsm
                have htake : ((farL ts y 6).take (n + 1)).filter (fun s => foundB page [(y : Nat), s, (x : Nat)]) = ((farL ts y 6).take n).filter (fun s => foundB page [(y : Nat), s, (x : Nat)]) ++ (if foundB page [(y : Nat), (farL ts y 6).getD n 0, (x : Nat)] = true then [(farL ts y 6).getD n 0] else []) := by
                  rw [List.take_add_one, List.filter_append, List.getElem?_eq_getElem (by omega), List.getD_eq_getElem?_getD, List.getElem?_eq_getElem (by omega)]
                  congr 1
                  simp only [Option.toList_some, Option.getD_some]
                  by_cases c : foundB page [(y : Nat), (farL ts y 6)[n]'(by omega), (x : Nat)] = true
                  · rw [if_pos c, List.filter_cons_of_pos (p := fun s => foundB page [(y : Nat), s, (x : Nat)]) c]; rfl
                  · rw [if_neg c, List.filter_cons_of_neg (p := fun s => foundB page [(y : Nat), s, (x : Nat)]) c]; rfl
                generalize (farL ts y 6).getD n 0 = s1 at *
                k_unmd
                (try k_fold)
                have HH : HasG h8 h8 := fun _ _ e => e
                k_steps
                with_reducible rename HasG _ _ => HG
                by_cases c3 : foundB page [(y : Nat), s1, (x : Nat)] = true
                · refine test_yes (by rename_i hb9 _ _ _; exact hb9.trans c3) HG ?_
                  k_unmd
                  (try k_fold)
                  k_steps
                  refine elt_post (fun _ _ e => e) ⟨hJ.1, by omega, ?_⟩
                  rw [htake, if_pos c3]
                  exact hJ.2.2.append (.cons _ _ .nil)
                · refine test_no (by rename_i hb9 _ _ _; exact hb9.trans (Bool.eq_false_iff.mpr c3)) HG ⟨hJ.1, by omega, ?_⟩
                  rw [htake, if_neg c3, List.append_nil]
                  exact hJ.2.2
              · intro h₇ D8 ys8 k8 nl h' tk hDn8 hnD8 hnn8 hJ8_10 hD80 hDL8 F N
                refine hide fun hG9 => ?_
                obtain ⟨rfl, _, hys8⟩ := hJ8_10
                refine hG9 ?_
                clear hG9
                rw [List.nil_append] at N
                have hys9 : IntsAre ys8 ((farL ts y 6).filter fun s => foundB page [(y : Nat), s, (x : Nat)]) := by
                  rw [List.take_of_length_le (by omega)] at hys8
                  exact hys8
                k_unmd
                (try k_fold)
                k_steps
                · dsimp only
                  with_reducible rename Fr _ _ _ _ => F7
                  have hemp : (farL ts y 6).filter (fun s => foundB page [(y : Nat), s, (x : Nat)]) = [] := of_decide_eq_true (by assumption)
                  refine hret _ _ _ (fun b o e => F7.keep _ _ (G' b o e)) ?_
                  rw [hard_yes hz hx hy c1 c2 hrm (by unfold hardR; rw [hf1, hf2, hemp]; rfl)]
                · with_reducible rename Fr _ _ _ _ => F7
                  with_reducible rename News _ _ _ _ => N7
                  simp only [List.nil_append] at N7
                  have hemp : ¬ (farL ts y 6).filter (fun s => foundB page [(y : Nat), s, (x : Nat)]) = [] := of_decide_eq_false (by assumption)
                  refine lendF F7 N7 (by (repeat (first | with_reducible assumption | exact List.mem_cons_self .. | refine List.mem_cons_of_mem _ ?_))) ⟨fun q hq => mem_butI (by (repeat (first | with_reducible assumption | exact List.mem_cons_self .. | refine List.mem_cons_of_mem _ ?_))) (hRn q hq), upto hno4 ?_, rfl, rfl, trivial⟩
                  rw [hrg]
                  unfold hardR
                  rw [hf1, hf2, List.isEmpty_eq_false_iff.mpr hemp]; rfl
            · have hf1 : foundB page [(x : Nat), (y : Nat), r, (z : Nat)] = false := eqF (by assumption) (by assumption)
              have hf2 : foundB page [(y : Nat), (x : Nat), r, (z : Nat)] = false := eqF (by assumption) (by assumption)
              with_reducible rename Fr _ _ _ _ => F7
              with_reducible rename News _ _ _ _ => N7
              refine lendF F7 N7 (by (repeat (first | with_reducible assumption | exact List.mem_cons_self .. | refine List.mem_cons_of_mem _ ?_))) ⟨fun q hq => mem_butI (by (repeat (first | with_reducible assumption | exact List.mem_cons_self .. | refine List.mem_cons_of_mem _ ?_))) (hRn q hq), upto hno4 ?_, rfl, rfl, trivial⟩
              rw [hrg]
              unfold hardR
              rw [hf1, hf2]; rfl
          · intro m₄ news₄ h₆ tk₆ _ hJ9_5 F N
            refine hide fun hG9 => ?_
            obtain ⟨hsub, hno4, kn⟩ := hJ9_5
            refine hG9 ?_
            clear hG9
            clear F9 N9
            replace F := Fr.kn F kn
            simp only [ovr] at F
            clear kn
            have N1 : News g' L' h₆ [(D, listOf ys.toArray k), (Iy, oy), (L' + 1 + 1 + 1 + 1, oY'), (L' + 1 + 1 + 1, oX'), (L' + 1 + 1, oT), (L' + 1, oP), (Ix, ox), (Iz, oz)] := fun q hq => N q (hsub q hq)
            clear N hsub
            dsimp only
            k_unmd
            (try k_fold)
            k_steps
            with_reducible rename Fr _ _ _ _ => F7
            refine lendF F7 N1 (by (repeat (first | with_reducible assumption | exact List.mem_cons_self .. | refine List.mem_cons_of_mem _ ?_))) ?_
            refine ⟨_, _, dY', mem_butI (by k_mem) hKY, mem_butI (by k_mem) hKX, mem_butI (by k_mem) hKT, mem_butI (by k_mem) hKP, mem_butI (by k_mem) hKz, mem_butI (by k_mem) hKx, upto hno3 ?_, rfl, trivial⟩
            unfold hardY
            rw [any_getD (fun j hj => hno4 j (by omega)), Bool.and_false]
      · intro m₃ news₃ h₃ tk₃ _ hJ10_5 F N
        refine hide fun hG9 => ?_
        obtain ⟨oY, vY, dY, hY, hX, hT, hP, hIz, hIx, hno3, kn⟩ := hJ10_5
        refine hG9 ?_
        clear hG9
        clear F9 N9
        replace F := Fr.kn F kn
        simp only [ovr] at F
        clear kn
        dsimp only
        k_unmd
        (try k_fold)
        k_steps
        with_reducible rename Fr _ _ _ _ => F7
        refine lendF F7 N hIx ?_
        refine ⟨_, _, _, _, dX', dY, mem_butI hY hJY, mem_butI hX hJX, mem_butI hT hJT, mem_butI hP hJP, mem_butI hIz hJI, upto hno2 ?_, rfl, trivial⟩
        unfold hardX
        rw [any_range hno3, Bool.and_false]
    · intro m₂ news₂ h₂ tk₂ _ hJ11_5 F N
      refine hide fun hG9 => ?_
      obtain ⟨oX, vX, oY, vY, dX, dY, hY, hX, hT, hP, hIz, hno2, kn⟩ := hJ11_5
      refine hG9 ?_
      clear hG9
      clear F9 N9
      replace F := Fr.kn F kn
      simp only [ovr] at F
      clear kn
      dsimp only
      k_unmd
      (try k_fold)
      k_steps
      with_reducible rename Fr _ _ _ _ => F7
      refine lendF F7 N hIz ?_
      exact ⟨_, _, _, _, dX, dY, mem_butI hY hIY, mem_butI hX hIX, mem_butI hT hIT, mem_butI hP hIP, upto hno (any_range hno2)⟩
  · intro m₁ news₁ h tk _ hJ12_5 F N
    refine hide fun hG9 => ?_
    obtain ⟨oX, vX, oY, vY, dX, dY, hY, hX, hT, hP, hno⟩ := hJ12_5
    refine hG9 ?_
    clear hG9
    clear F9 N9
    dsimp only
    k_unmd
    (try k_fold)
    k_steps
    with_reducible rename Fr _ _ _ _ => F7
    refine hret _ _ _ (fun b o e => F7.keep _ _ (G' b o e)) ?_
    rw [show hardB ts page = false from any_range hno]

end
section
local macro_rules | `(tactic| walk_at "MyDummy") => `(tactic| skip)
/-! ### _law_ends -/
noncomputable def lnAt (lns : List Str) (k : Int) : Str := lns.getD k.toNat (Str.ofString "")
noncomputable def restOf (lns : List Str) (ks : List Int) : Str := cat (ks.map (lnAt lns))
noncomputable def bB (rest line : Str) : Bool := Txt.startswith rest line && (Txt.endswith rest (Str.ofString "\n") && decide ((line.length : Int) ≤ (rest.length : Int) - 1))
noncomputable def cB (page : Str) (k : Int) : Bool := Txt.endswith page (Str.ofString "\n") && (decide ((0 : Int) ≤ (page.length : Int) - 1) && fl page ((page.length : Int) - 1) [Str.ofString "", letter k ++ Str.ofString "\n", Str.ofString "\n"] 0)
noncomputable def endRow (lns : List Str) (ks : List Int) : List Int := ks.filter fun k => bB (restOf lns ks) (lnAt lns k)
noncomputable def lastRow (lns : List Str) (ks : List Int) : List Int := ks.filter fun k => cB (restOf lns ks) k
inductive RowsL (nl : List (Addr × Obj)) : List Value → List (List Int) → Prop
  | nil : RowsL nl [] []
  | cons {a : Addr} {its : List Value} {k : Nat} {row : List Int} {vs rows} (h : (a, listOf its.toArray k) ∈ nl) (hi : IntsAre its row) (r : RowsL nl vs rows) : RowsL nl (.ref a :: vs) (row :: rows)
theorem RowsL.mono {nl nl' : List (Addr × Obj)} (hs : ∀ q ∈ nl, q ∈ nl') : ∀ {vs rows}, RowsL nl vs rows → RowsL nl' vs rows
  | _, _, .nil => .nil
  | _, _, .cons h hi r => .cons (hs _ h) hi (r.mono hs)
theorem RowsL.snoc {nl : List (Addr × Obj)} {a : Addr} {its : List Value} {k : Nat} {row : List Int} (h : (a, listOf its.toArray k) ∈ nl) (hi : IntsAre its row) : ∀ {vs rows}, RowsL nl vs rows → RowsL nl (vs ++ [.ref a]) (rows ++ [row])
  | _, _, .nil => .cons h hi .nil
  | _, _, .cons h' hi' r => .cons h' hi' (r.snoc h hi)
theorem RowsL.len {nl : List (Addr × Obj)} : ∀ {vs rows}, RowsL nl vs rows → vs.length = rows.length
  | _, _, .nil => rfl
  | _, _, .cons _ _ r => congrArg (· + 1) r.len
inductive RowsIn (h : Heap) : List Value → List (List Int) → Prop
  | nil : RowsIn h [] []
  | cons {a : Addr} {its : List Value} {k : Nat} {row : List Int} {vs rows} (g : h.get? a = some (listOf its.toArray k)) (hi : IntsAre its row) (r : RowsIn h vs rows) : RowsIn h (.ref a :: vs) (row :: rows)
theorem RowsL.inn {h₀ h : Heap} {L : Addr} {nl news : List (Addr × Obj)} (N : News h₀ L h news) (hs : ∀ q ∈ nl, q ∈ news) : ∀ {vs rows}, RowsL nl vs rows → RowsIn h vs rows
  | _, _, .nil => .nil
  | _, _, .cons h hi r => .cons (News.get N (hs _ h)) hi (r.inn N hs)
noncomputable def endsUpto (lns : List Str) (os : List Int) (n : Nat) : List (List Int) := (List.range n).map fun p => endRow lns (os.drop p)
theorem endsUpto_succ (lns : List Str) (os : List Int) (n : Nat) : endsUpto lns os (n + 1) = endsUpto lns os n ++ [endRow lns (os.drop n)] := by unfold endsUpto; rw [List.range_succ, List.map_append]; rfl
structure LineOk (x : Str) : Prop where
  pos : 1 ≤ x.length
  len : x.length ≤ 100
  occ : (Builtin.Str.occurrences (x ++ Str.ofString "...\n") (Str.ofString "...") 0 (x ++ Str.ofString "...\n").length 1).isEmpty = false
  split : Txt.split (x ++ Str.ofString "...\n") (Str.ofString "...") = [x, Str.ofString "\n"]

section
variable {prog : Program} {w : World} {A : Around} {E : Value → Shared → Prop} {s : Shared} {h₀ : Heap} {L : Addr} {m : Str → Option Value} {news : List (Addr × Obj)} {env : Env} {x : Str} {v : Value}
theorem hold_cell {Q : Unit → Shared → Prop} (_hx : env.kindOf x = some .cell) (h : Hold (wpAny (model prog w) A (storeName env x v) Q E s)) : wpAny (model prog w) A (storeName env x v) Q E s := hold h
theorem st_cell {c : Addr} {oc : Obj} {v₀ : Option Value} {Q : Unit → Shared → Prop} (F : Fr h₀ L s.heap m) (N : News h₀ L s.heap news) (hk : env.scope.kind = .function) (hx : env.kindOf x = some .cell) (hc : env.cells.lookup x = some c) (hm : (c, oc) ∈ news) (hd : oc.data = .cell v₀)
    (h : ∀ h' o', Fr h₀ L h' m → News h₀ L h' ((c, o') :: butI c news) → o'.data = .cell (some v) → Q () { s with heap := h' }) : wpAny (model prog w) A (storeName env x v) Q E s := by
  have hcN := N _ hm
  refine wpAny_storeName_cell hk hx hc ⟨oc, hcN.1, hd⟩ (fun h₂ hv hs₂ => ?_)
  refine hide fun hG9 => ?_
  obtain ⟨o', ho', hd'⟩ := hv
  refine hG9 ?_
  clear hG9
  have keep : ∀ b o, b ≠ c → s.heap.get? b = some o → h₂.get? b = some o := fun b o hb e => hs₂.extBut b o hb e
  exact h h₂ o' (Fr.but F hcN.2.1 hcN.2.2 keep) (News.but (rest := butI c news) N hm keep ho' fun p hp => ⟨(List.mem_filter.mp hp).1, of_decide_eq_true (List.mem_filter.mp hp).2⟩) hd'
theorem str_item {value slice : Expr} {l : Addr} {lv : List Value} {lns : List Str} {k : Int} {u : Tok} {Q : Value → Shared → Prop} (hl : s.heap.IsList l lv.toArray) (hs' : ∃ l, lv = strValues l ∧ l.map (·.1) = lns)
    (h0 : 0 ≤ k) (h1 : k < lns.length) (hb : lns.length ≤ 1000) (hs : subscripted slice false (.ref l) (.int k u) = operate [.ref l, .int k u] (getItem (.ref l) (.int k u))) (hg : ∀ r, letTemporaryGo value (.ref l) r = pure ())
    (h : ∀ t, Q (.str (lnAt lns k) t) s) : wpAny (model prog w) A (subscriptTail value slice (.ref l) (.int k u)) Q E s := by
  refine hide fun hG9 => ?_
  obtain ⟨ps, rfl, rfl⟩ := hs'
  refine hG9 ?_
  clear hG9
  have hk : k.toNat < ps.length := by rw [List.length_map] at h1; omega
  refine item_listL (x := .str (lnAt (ps.map (·.1)) k) (ps[k.toNat]'hk).2) hl h0 (by rw [List.length_map] at hb; omega) ?_ (h _) hs hg
  unfold strValues lnAt
  rw [List.getElem?_map, List.getElem?_eq_getElem hk, List.getD_eq_getElem?_getD, List.getElem?_map, List.getElem?_eq_getElem hk]
  rfl
theorem slice_from {value slice : Expr} {l : Addr} {vs : List Value} {i : Nat} {ti : Tok} {Q : Value → Shared → Prop} (F : Fr h₀ L s.heap m) (N : News h₀ L s.heap news) (hl : s.heap.IsList l vs.toArray)
    (h : ∀ h' S, Fr h₀ L h' m → News h₀ L h' ((S, listOf (vs.drop i).toArray 0) :: news) → (∀ p ∈ news, p.1 < S) → Q (.ref S) { s with heap := h' })
    (hs : subscripted slice false (.ref l) (.ref s.heap.objs.size) = operate [.ref s.heap.objs.size, .ref l] (getItem (.ref l) (.ref s.heap.objs.size))) (ht : ∀ r, letTemporaryGo value (.ref l) r = pure ())
    (hsz : vs.length ≤ 1000) :
    wpAny (model prog w) A (subscriptTail value slice (.ref l) (.ref s.heap.objs.size)) Q E { s with heap := s.heap.push { cls := .type "slice", data := .fields #[.int (i : Nat) ti, .none, .none] } } :=
  slice_list F N hl (.int _ _) .none (fun h' F' N' => by
    rw [slicePick_from'] at N'
    exact h h' _ F' N' fun p hp => Nat.lt_succ_of_lt (Heap.lt_size (N p hp).1)) hs ht (by
      have e : sizeLine = 16777216 := by decide
      simp only [List.size_toArray]; omega)
end
local macro_rules | `(tactic| walk_at "subscriptTail Name Slice ref ref") => `(tactic| (refine hold ?_))
local macro_rules | `(tactic| walk_at "storeName") => `(tactic| (refine hold_cell (by with_unfolding_all rfl) ?_))
local macro_rules | `(tactic| walk_at "subscriptTail") => `(tactic| ((with_reducible show wpAny _ _ (subscriptTail _ _ (Value.ref _) (Value.int _ _)) _ _ _); (with_reducible rename Fr _ _ _ _ => F7); k_dflt (refine str_item (HasG.list F7.keep (by assumption)) (by assumption) (by omega) (by omega) (by omega) (by with_unfolding_all rfl) (by intro _; with_unfolding_all rfl) ?_); intro _))
theorem sum_le {α : Type} {f : α → Nat} {b : Nat} : ∀ {l : List α}, (∀ a ∈ l, f a ≤ b) → (l.map f).sum ≤ b * l.length
  | [], _ => Nat.zero_le _
  | a :: l, h => by
    rw [List.map_cons, List.sum_cons, List.length_cons, Nat.mul_succ]
    have h1 := h a (List.mem_cons_self ..)
    have h2 := sum_le (l := l) fun x hx => h x (List.mem_cons_of_mem _ hx)
    omega
theorem rest_sum {lns : List Str} {ks : List Int} (hok : ∀ k : Nat, k < 6 → LineOk (lnAt lns k)) (hk : ∀ k ∈ ks, 0 ≤ k ∧ k < 6) (hl : ks.length ≤ 6) : ((ks.map (lnAt lns)).map (·.length)).sum ≤ 600 := by
  rw [List.map_map]
  refine Nat.le_trans (sum_le (b := 100) fun k hm => ?_) (by omega)
  obtain ⟨h0, h6⟩ := hk k hm
  have := (hok k.toNat (by omega)).len
  rwa [show ((k.toNat : Nat) : Int) = k by omega] at this
theorem rest_len {lns : List Str} {ks : List Int} (hok : ∀ k : Nat, k < 6 → LineOk (lnAt lns k)) (hk : ∀ k ∈ ks, 0 ≤ k ∧ k < 6) (hl : ks.length ≤ 6) : (restOf lns ks).length ≤ 600 := by
  unfold restOf
  rw [cat_len]
  exact rest_sum hok hk hl
theorem ks_take {ks : List Int} {n : Nat} (h : n < ks.length) {β : Type} (f : Int → β) : (ks.take (n + 1)).map f = (ks.take n).map f ++ [f (ks.getD n 0)] := by
  rw [List.take_add_one, List.map_append, List.getD_eq_getElem?_getD, List.getElem?_eq_getElem h]; rfl
theorem ell_line {prog : Program} {w : World} {line rest : Str} {t1 t2 : Tok} (hL : LineOk line) (hr : rest.length ≤ 600) : KC prog w 1 8 28 [.str (line ++ Str.ofString "...\n") t1, .str rest t2] (fun _ => True) (fun v _ _ => ∃ b, b = bB rest line ∧ v = .bool b) :=
  kc_mono (ell_B _ _ line t1 t2 (by rw [Str.length_append, show (Str.ofString "...\n").length = 4 by decide +kernel]; have := hL.len; omega) (by omega) (by have := hL.len; omega) hL.pos hL.occ hL.split) fun v _ _ h => ⟨_, rfl, h⟩
theorem filt_take {ks : List Int} {n : Nat} (h : n < ks.length) (P : Int → Bool) : (ks.take (n + 1)).filter P = (ks.take n).filter P ++ (if P (ks.getD n 0) = true then [ks.getD n 0] else []) := by
  rw [List.take_add_one, List.filter_append, List.getD_eq_getElem?_getD, List.getElem?_eq_getElem h]
  congr 1
  simp only [Option.toList_some, Option.getD_some]
  by_cases c : P ks[n] = true
  · rw [if_pos c, List.filter_cons_of_pos (p := P) c]; rfl
  · rw [if_neg c, List.filter_cons_of_neg (p := P) c]; rfl
local macro_rules | `(tactic| walk_at "call ref") => `(tactic| (k_here; (with_reducible show wpAny _ _ (call (Value.ref 28) [_, _]) _ _ _); k_dflt (refine kc_useA (ell_line (by assumption) (by assumption)) trivial ?_); walk_at "MyBackH"))
theorem ell_last {prog : Program} {w : World} {page : Str} {k : Int} {t1 t2 : Tok} (hr : page.length ≤ 600) : KC prog w 1 8 28 [.str (Str.ofString "..." ++ Str.mk #[97 + k.toNat] ++ Str.ofString "\n...\n...\n") t1, .str page t2] (fun _ => True) (fun v _ _ => ∃ b, b = cB page k ∧ v = .bool b) := by
  have e1 : (Str.ofString "\n").cps.toList = [10] := by decide +kernel
  have e2 : (Str.ofString "\n...\n...\n").cps.toList = [10] ++ dots ++ [10] ++ dots ++ [10] := by decide +kernel
  have e3 : (Str.ofString "\n...\n...\n").length = 9 := by decide +kernel
  have e4 : (Str.ofString "\n").length = 1 := by decide +kernel
  have hs := split_gl (Str.ofString "..." ++ letter k ++ Str.ofString "\n...\n...\n") (Str.ofString "") (letter k ++ Str.ofString "\n") [Str.ofString "\n", Str.ofString "\n"] (by
    intro u hu
    simp only [List.mem_cons, List.not_mem_nil, or_false] at hu
    rcases hu with rfl | rfl | rfl | rfl
    · rw [empty_cps]; exact List.not_mem_nil
    · rw [Str.cps_append, Array.toList_append, letter_cps, e1]; simp; omega
    · rw [e1]; decide
    · rw [e1]; decide) (by
    simp only [Str.cps_append, Array.toList_append, letter_cps, e1, e2, dots_cps, empty_cps, List.map_cons, List.map_nil, gl]
    simp)
  exact kc_mono (ell_C _ page (letter k ++ Str.ofString "\n") t1 t2 (by show (Str.ofString "..." ++ letter k ++ Str.ofString "\n...\n...\n").length ≤ 1000; rw [Str.length_append, Str.length_append, dots_len, letter_len, e3]; decide) (by omega) (by rw [Str.length_append, letter_len, e4]; decide) hs.2 hs.1) fun v _ _ h => ⟨_, rfl, h⟩
local macro_rules | `(tactic| walk_at "call ref") => `(tactic| (k_here; (with_reducible show wpAny _ _ (call (Value.ref 28) [Value.str (_ ++ _ ++ _) _, _]) _ _ _); k_dflt (refine kc_useA (ell_last (by assumption)) trivial ?_); walk_at "MyBackH"))
theorem ends_c {prog : Program} {w : World} (lo ll : Addr) (vs lv : List Value) (os : List Int) (lns : List Str) (hvs : IntsAre vs os) (ho6 : os.length = 6) (hk6 : ∀ k ∈ os, 0 ≤ k ∧ k < 6) (hlv : ∃ l, lv = strValues l ∧ l.map (·.1) = lns) (hl6 : lns.length = 6) (hok : ∀ k : Nat, k < 6 → LineOk (lnAt lns k)) :
    KC prog w 2 128 182 [.ref lo, .ref ll] (fun h => h.IsList lo vs.toArray ∧ h.IsList ll lv.toArray) (fun v h h' => ∃ l its k, v = .ref l ∧ h'.get? l = some (listOf its.toArray k) ∧ RowsIn h' its (endsUpto lns os 6 ++ [lastRow lns os])) := by
  walk_at "MyFill"
  unfold KC
  intro p loose mean mg mb dp un gd cn cs a' ccd cl outer A₀ base h₀ L m s Q E B F X T hk hd hu hpre hret
  k_dflt ((refine' kc_enterT ?k1_27 ?k2_27 ?k3_27 ?k5_27 ?kA_27 ?kF_27 ?kK_27 ?k6_27 ?k7_27 ?k8_27 ?k9_27 ?kB_27 ?kD_27 ?_ ?c2_27 ?c3_27 ?c4_27; ((case kA_27 => exact rfl); (case kF_27 => exact rfl); (case kK_27 => assumption); (case k1_27 => k_asm); (case k2_27 => k_asm); (case k3_27 => k_asm); (case k5_27 => k_asm); (case k6_27 => k_is); (case k7_27 => k_is); (case k8_27 => ktr_room); (case k9_27 => exact BindsTo.of_eq rfl); (case c2_27 => exact rfl); (case c3_27 => exact rfl); (case c4_27 => exact rfl)); (case kB_27 => exact rfl); (case kD_27 => decide +kernel); k_whole))
  intro g' L' h' tk' cells' ht' G' F' N' Y' B' X' T'
  k_cells Y'
  rename_i oP0 oR0 oL dP0 dR0 dL
  replace dL : oL.data = Data.cell (some (.ref ll)) := dL
  clear B F X T hk
  have hlo := HasG.list G' hpre.1
  have hll := HasG.list G' hpre.2
  replace F' : Fr g' L' h' (fun y => if y = Str.ofString "order" then some (.ref lo) else none) := F'
  (try dsimp only)
  k_unmd
  k_fold
  k_steps
  refine For_K ?_ (fun _ => rfl)
  k_steps
  with_reducible rename Fr _ _ _ _ => F9
  with_reducible rename News _ _ _ _ => N9
  with_reducible rename IntsAre _ _ => hvs
  refine unhold (lk_range (T := 0) (n := 6) (Nat.zero_le _) (fun i m news => ∃ K its kk nl oR vR oPg vPg, (K, listOf its.toArray kk) ∈ news ∧ (∀ q ∈ nl, q ∈ news ∧ q.1 ≠ K ∧ q.1 ≠ L' + 1 + 1 ∧ q.1 ≠ L' + 1 + 1 + 1) ∧ RowsL nl its (endsUpto lns os i) ∧
      oR.data = Data.cell vR ∧ oPg.data = Data.cell vPg ∧ (L' + 1 + 1, oR) ∈ news ∧ (L' + 1 + 1 + 1, oPg) ∈ news ∧ (L' + 1, oL) ∈ news ∧ K ≠ L' + 1 + 1 ∧ K ≠ L' + 1 + 1 + 1 ∧ K ≠ L' + 1 ∧ Kn [(Str.ofString "order", .ref lo), (Str.ofString "ends", .ref K)] m)
    rfl rfl rfl (by assumption) (by decide) (by decide) F9 N9 ?_ ?_ ?_)
  · exact ⟨_, [], 0, [], _, _, _, _, List.mem_cons_self .., (fun _ h => nomatch h), .nil, dR0, dP0, by k_mem, by k_mem, by k_mem, neN (by omega), neN (by omega), neN (by omega), rfl, rfl, trivial⟩
  · intro i tx m₁ news₁ h tk Ii oi _ hi hJ2_10 hnI F N
    refine hide fun hG9 => ?_
    obtain ⟨K, its, kk, nl, oR, vR, oPg, vPg, hK, hnl, hrows, dR, dPg, hR, hPg, hL, hKR, hKP, hKL, kn⟩ := hJ2_10
    refine hG9 ?_
    clear hG9
    clear F9 N9
    rw [Int.zero_add] at F
    replace F := Fr.knX F kn
    simp only [ovr] at F
    clear kn
    have N1 : News g' L' h ((Ii, oi) :: (K, listOf its.toArray kk) :: (L' + 1 + 1 + 1, oPg) :: (L' + 1 + 1, oR) :: (L' + 1, oL) :: nl) := News.perm N (by
      intro p hp
      simp only [List.mem_cons] at hp
      rcases hp with rfl | rfl | rfl | rfl | rfl | hp
      · exact List.mem_cons_self ..
      · exact List.mem_cons_of_mem _ hK
      · exact List.mem_cons_of_mem _ hPg
      · exact List.mem_cons_of_mem _ hR
      · exact List.mem_cons_of_mem _ hL
      · exact List.mem_cons_of_mem _ (hnl p hp).1)
    have hIK : K ≠ Ii := hnI _ hK
    have hIP : L' + 1 + 1 + 1 ≠ Ii := hnI _ hPg
    have hIR : L' + 1 + 1 ≠ Ii := hnI _ hR
    have hIL : L' + 1 ≠ Ii := hnI _ hL
    have hIn : ∀ q ∈ nl, q.1 ≠ Ii := fun q hq => hnI _ (hnl q hq).1
    have hnl2 : ∀ q ∈ nl, q.1 ≠ K ∧ q.1 ≠ L' + 1 + 1 ∧ q.1 ≠ L' + 1 + 1 + 1 := fun q hq => (hnl q hq).2
    clear N hnI hnl hK hPg hR hL
    have hv6 : vs.length = 6 := hvs.length.trans ho6
    k_unmd
    (try k_fold)
    k_steps
    ((with_reducible rename Fr _ _ _ _ => kF); k_dflt (refine' cp_evalF kF ?a_28 ?b_28 ?c_28 ?d_28 ?e_28 ?f_28 ?_; (case a_28 => with_unfolding_all rfl); (case b_28 => decide); (case c_28 => with_unfolding_all rfl); (case d_28 => decide); (case e_28 => with_unfolding_all rfl); (case f_28 => (intro _; with_unfolding_all rfl)); k_whole))
    k_steps
    with_reducible rename Fr _ _ _ _ => F7
    with_reducible rename News _ _ _ _ => N7
    k_dflt (refine' unhold (slice_from F7 N7 (HasG.list F7.keep hlo) ?_ (by with_unfolding_all rfl) (by intro _; with_unfolding_all rfl) (by omega)))
    intro h8 S8 F8 N8 l8
    clear F7 N7
    have hks : ∀ k ∈ os.drop i, 0 ≤ k ∧ k < 6 := fun k hk => hk6 k (List.mem_of_mem_drop hk)
    have hkl : (os.drop i).length ≤ 6 := by rw [List.length_drop]; omega
    have hvd : IntsAre (vs.drop i) (os.drop i) := hvs.drop _
    have hrow : endsUpto lns os (i + 1) = endsUpto lns os i ++ [endRow lns (os.drop i)] := endsUpto_succ ..
    have hvl := hvd.length
    generalize hksd : os.drop i = ks at *
    generalize hkvd : vs.drop i = kv at *
    (try dsimp only)
    k_unmd
    (try k_fold)
    k_steps
    have hsum : ((ks.map (lnAt lns)).map (·.length)).sum ≤ 100000 := Nat.le_trans (rest_sum hok hks hkl) (by decide)
    have hrl := rest_len hok hks hkl
    refine unhold (cs_list (T := 0) (Nat.zero_le _) (vs := kv) (fun n ys nl => nl = [] ∧ n ≤ 6 ∧ ∃ l, ys = strValues l ∧ l.map (·.1) = (ks.take n).map (lnAt lns)) rfl (News.lst N8 (List.mem_cons_self ..)) F8 N8 ⟨rfl, Nat.zero_le _, [], rfl, rfl⟩ ?_ ?_ ?_)
    · rintro n ys nl ⟨_, hn, l, rfl, hl⟩
      have := congrArg List.length hl
      simp only [List.length_map, List.length_take] at this
      unfold strValues
      rw [List.length_map]
      omega
    · rintro h₇ C n v ys' nl h8 tk8 m8 E' _ hn hv8 hJ hm hns F N hnl
      refine no_tests ?_
      obtain ⟨t8, hvr⟩ := ints_at hvd n (by omega)
      rw [hv8] at hvr
      cases Option.some.inj hvr
      have hsm : ks.getD n 0 ∈ ks := (by rw [List.getD_eq_getElem?_getD, List.getElem?_eq_getElem (by omega), Option.getD_some]; exact List.getElem_mem _)
      obtain ⟨hs0, hs6⟩ := hks _ hsm
      have htk := ks_take (ks := ks) (n := n) (by omega) (lnAt lns)
      generalize ks.getD n 0 = s1 at *
      k_unmd
      (try k_fold)
      k_steps
      refine elt_post (fun b o e => e) ⟨hJ.1, by omega, ?_⟩
      rw [htk]
      exact strs_snoc hJ.2.2
    · intro h₇ D8 ys8 k8 nl9 h9 tk9 hDn8 hnD8 hnn8 hJ3_10 hD80 hDL8 _ _ F N
      refine hide fun hG9 => ?_
      obtain ⟨rfl, _, hys8⟩ := hJ3_10
      refine hG9 ?_
      clear hG9
      rw [List.nil_append] at N
      rw [List.take_of_length_le (by omega)] at hys8
      clear F8 N8
      k_unmd
      (try k_fold)
      k_steps
      with_reducible rename Fr _ _ _ _ => F7
      with_reducible rename News _ _ _ _ => N7
      refine unhold (st_cell F7 N7 rfl rfl rfl (by (repeat (first | with_reducible assumption | exact List.mem_cons_self .. | refine List.mem_cons_of_mem _ ?_))) dR ?_)
      intro h5 oR1 F5 N5 dR1
      clear F7 N7
      have hDn9 : ∀ p ∈ ((Ii, oi) :: (K, listOf its.toArray kk) :: (L' + 1 + 1 + 1, oPg) :: (L' + 1 + 1, oR) :: (L' + 1, oL) :: nl), p.1 < D8 := fun p hp => hDn8 p (List.mem_cons_of_mem _ hp)
      have N6 : News g' L' h5 ((L' + 1 + 1, oR1) :: (Ii, oi) :: (K, listOf its.toArray kk) :: (L' + 1 + 1 + 1, oPg) :: (L' + 1, oL) :: nl) := News.perm N5 (by
        intro p hp
        simp only [List.mem_cons] at hp
        rcases hp with rfl | rfl | rfl | rfl | rfl | hp
        · exact List.mem_cons_self ..
        · exact List.mem_cons_of_mem _ (mem_butI (by k_mem) (Ne.symm hIR))
        · exact List.mem_cons_of_mem _ (mem_butI (by k_mem) hKR)
        · exact List.mem_cons_of_mem _ (mem_butI (by k_mem) (neN (by omega)))
        · exact List.mem_cons_of_mem _ (mem_butI (by k_mem) (neN (by omega)))
        · exact List.mem_cons_of_mem _ (mem_butI (by (repeat (first | with_reducible assumption | refine List.mem_cons_of_mem _ ?_))) (hnl2 p hp).2.1))
      clear N5
      k_unmd
      (try k_fold)
      k_steps
      ((with_reducible rename Fr _ _ _ _ => kF); k_dflt (refine' cp_evalF kF ?a_29 ?b_29 ?c_29 ?d_29 ?e_29 ?f_29 ?_; (case a_29 => with_unfolding_all rfl); (case b_29 => decide); (case c_29 => with_unfolding_all rfl); (case d_29 => decide); (case e_29 => with_unfolding_all rfl); (case f_29 => (intro _; with_unfolding_all rfl)); k_whole))
      k_steps
      with_reducible rename Fr _ _ _ _ => F7
      with_reducible rename News _ _ _ _ => N7
      k_dflt (refine' unhold (slice_from F7 N7 (HasG.list F7.keep hlo) ?_ (by with_unfolding_all rfl) (by intro _; with_unfolding_all rfl) (by omega)))
      intro h8 S9 F8 N8 l8
      clear F7 N7
      rw [hkvd] at N8
      have hrl9 : (restOf lns ks).length ≤ 600 := hrl
      replace dR1 : oR1.data = Data.cell (some (.str (restOf lns ks) _)) := dR1
      have hs9 : ∀ p ∈ ((L' + 1 + 1, oR1) :: (Ii, oi) :: (K, listOf its.toArray kk) :: (L' + 1 + 1 + 1, oPg) :: (L' + 1, oL) :: nl), p.1 < S9 := l8
      (try dsimp only)
      k_unmd
      (try k_fold)
      k_steps
      refine unhold (cs_list (T := 0) (Nat.zero_le _) (vs := kv) (fun n ys nl => nl = [] ∧ n ≤ 6 ∧ IntsAre ys ((ks.take n).filter fun k => bB (restOf lns ks) (lnAt lns k))) rfl (News.lst N8 (List.mem_cons_self ..)) F8 N8 ⟨rfl, Nat.zero_le _, .nil⟩ ?_ ?_ ?_)
      · rintro n ys nl ⟨_, hn, hy⟩
        rw [hy.length]
        refine Nat.le_trans (List.length_filter_le ..) ?_
        rw [List.length_take]
        omega
      · rintro h₇ C n v ys' nl h8 tk8 m8 E' _ hn hv8 hJ hm hns F N hnl
        refine one_test ?_
        obtain ⟨t8, hvr⟩ := ints_at hvd n (by omega)
        rw [hv8] at hvr
        cases Option.some.inj hvr
        have hsm : ks.getD n 0 ∈ ks := (by rw [List.getD_eq_getElem?_getD, List.getElem?_eq_getElem (by omega), Option.getD_some]; exact List.getElem_mem _)
        obtain ⟨hs0, hs6⟩ := hks _ hsm
        have hLk : LineOk (lnAt lns (ks.getD n 0)) := by
          have := hok (ks.getD n 0).toNat (by omega)
          rwa [show (((ks.getD n 0).toNat : Nat) : Int) = ks.getD n 0 by omega] at this
        have htk := filt_take (ks := ks) (n := n) (by omega) fun k => bB (restOf lns ks) (lnAt lns k)
        generalize ks.getD n 0 = s1 at *
        have HH : HasG h8 h8 := fun _ _ e => e
        have hLl := hLk.len
        have hdl : (Str.ofString "...\n").length = 4 := by decide +kernel
        k_unmd
        (try k_fold)
        k_steps
        with_reducible rename HasG _ _ => HG
        by_cases c3 : bB (restOf lns ks) (lnAt lns s1) = true
        · refine test_yes (by rename_i hb9 _ _ _; rw [hb9, c3]; rfl) HG ?_
          k_unmd
          (try k_fold)
          k_steps
          refine elt_post (fun _ _ e => e) ⟨hJ.1, by omega, ?_⟩
          rw [htk, if_pos c3]
          exact hJ.2.2.append (.cons _ _ .nil)
        · refine test_no (by rename_i hb9 _ _ _; rw [hb9, Bool.eq_false_iff.mpr c3]; rfl) HG ⟨hJ.1, by omega, ?_⟩
          rw [htk, if_neg c3, List.append_nil]
          exact hJ.2.2
      · intro h₇ D9 ys9 k9 nl9 h9 tk9 hDn10 hnD9 hnn9 hJ4_10 hD90 hDL9 _ _ F N
        refine hide fun hG9 => ?_
        obtain ⟨rfl, _, hys9⟩ := hJ4_10
        refine hG9 ?_
        clear hG9
        rw [List.nil_append] at N
        rw [List.take_of_length_le (by omega)] at hys9
        clear F8 N8
        k_unmd
        (try k_fold)
        k_steps
        with_reducible rename Fr _ _ _ _ => F7
        have hil := hrows.len
        have hul : (endsUpto lns os i).length = i := by unfold endsUpto; rw [List.length_map, List.length_range]
        refine unhold (led_append (its := its) F7 N (fun q hq => hq) (by (repeat (first | with_reducible assumption | exact List.mem_cons_self .. | refine List.mem_cons_of_mem _ ?_))) (by omega) ?_)
        intro h5 k5 F5 N5
        clear F7 N
        (try dsimp only)
        k_unmd
        (try k_fold)
        k_steps
        have hD9 : ∀ p ∈ ((Ii, oi) :: (K, listOf its.toArray kk) :: (L' + 1 + 1 + 1, oPg) :: (L' + 1, oL) :: nl), p.1 < D9 := fun p hp => hDn10 p (List.mem_cons_of_mem _ (List.mem_cons_of_mem _ hp))
        have hDK : K < D9 := hD9 (K, listOf its.toArray kk) (by k_mem)
        have hDI : Ii < D9 := hD9 (Ii, oi) (by k_mem)
        have hDP : L' + 1 + 1 + 1 < D9 := hD9 (L' + 1 + 1 + 1, oPg) (by k_mem)
        have hDR : L' + 1 + 1 < D9 := Nat.lt_of_succ_lt hDP
        with_reducible rename Fr _ _ _ _ => F7
        with_reducible rename News _ _ _ _ => N7
        refine lendF F7 N7 (List.mem_cons_of_mem _ (mem_butI (by (repeat (first | with_reducible assumption | exact List.mem_cons_self .. | refine List.mem_cons_of_mem _ ?_))) (Ne.symm hIK))) ?_
        refine ⟨K, its ++ [.ref D9], k5, nl ++ [(D9, listOf ys9.toArray k9)], oR1, _, oPg, vPg, mem_butI (List.mem_cons_self ..) (show K ≠ Ii from hIK), ?_, ?_, dR1, dPg, mem_butI (List.mem_cons_of_mem _ (mem_butI (by (repeat (first | with_reducible assumption | exact List.mem_cons_self .. | refine List.mem_cons_of_mem _ ?_))) (Ne.symm hKR))) hIR, mem_butI (List.mem_cons_of_mem _ (mem_butI (by (repeat (first | with_reducible assumption | exact List.mem_cons_self .. | refine List.mem_cons_of_mem _ ?_))) (Ne.symm hKP))) hIP, ?_, hKR, hKP, hKL, rfl, rfl, trivial⟩
        · intro q hq
          rcases List.mem_append.mp hq with hq | hq
          · exact ⟨mem_butI (List.mem_cons_of_mem _ (mem_butI (by (repeat (first | with_reducible assumption | exact List.mem_cons_self .. | refine List.mem_cons_of_mem _ ?_))) (hnl2 q hq).1)) (hIn q hq), hnl2 q hq⟩
          · rw [List.mem_singleton.mp hq]
            exact ⟨mem_butI (List.mem_cons_of_mem _ (mem_butI (List.mem_cons_self ..) (Nat.ne_of_gt hDK))) (Nat.ne_of_gt hDI), Nat.ne_of_gt hDK, Nat.ne_of_gt hDR, Nat.ne_of_gt hDP⟩
        · rw [hrow]
          exact (hrows.mono fun q hq => List.mem_append_left _ hq).snoc (List.mem_append_right _ (List.mem_singleton.mpr rfl)) hys9
        · exact mem_butI (List.mem_cons_of_mem _ (mem_butI (by (repeat (first | with_reducible assumption | exact List.mem_cons_self .. | refine List.mem_cons_of_mem _ ?_))) (Ne.symm hKL))) hIL
  · intro m₁ news₁ h tk _ hJ5_5 F N
    refine hide fun hG9 => ?_
    obtain ⟨K, its, kk, nl, oR, vR, oPg, vPg, hK, hnl, hrows, dR, dPg, hR, hPg, hL, hKR, hKP, hKL, kn⟩ := hJ5_5
    refine hG9 ?_
    clear hG9
    clear F9 N9
    replace F := Fr.kn F kn
    simp only [ovr] at F
    clear kn
    have N1 : News g' L' h ((K, listOf its.toArray kk) :: (L' + 1 + 1 + 1, oPg) :: (L' + 1 + 1, oR) :: (L' + 1, oL) :: nl) := News.perm N (by
      intro p hp
      simp only [List.mem_cons] at hp
      rcases hp with rfl | rfl | rfl | rfl | hp
      · exact hK
      · exact hPg
      · exact hR
      · exact hL
      · exact (hnl p hp).1)
    have hnl2 : ∀ q ∈ nl, q.1 ≠ K ∧ q.1 ≠ L' + 1 + 1 ∧ q.1 ≠ L' + 1 + 1 + 1 := fun q hq => (hnl q hq).2
    clear N hnl hK hPg hR hL
    have hv6 : vs.length = 6 := hvs.length.trans ho6
    dsimp only
    k_unmd
    (try k_fold)
    k_steps
    ((with_reducible rename Fr _ _ _ _ => kF); k_dflt (refine' cp_evalF kF ?a_30 ?b_30 ?c_30 ?d_30 ?e_30 ?f_30 ?_; (case a_30 => with_unfolding_all rfl); (case b_30 => decide); (case c_30 => with_unfolding_all rfl); (case d_30 => decide); (case e_30 => with_unfolding_all rfl); (case f_30 => (intro _; with_unfolding_all rfl)); k_whole))
    k_steps
    with_reducible rename Fr _ _ _ _ => F8
    with_reducible rename News _ _ _ _ => N8
    have hsum : ((os.map (lnAt lns)).map (·.length)).sum ≤ 100000 := Nat.le_trans (rest_sum hok hk6 (by omega)) (by decide)
    have hrl := rest_len hok hk6 (by omega : os.length ≤ 6)
    have hlo8 := HasG.list F8.keep hlo
    refine unhold (cs_list (T := 0) (Nat.zero_le _) (vs := vs) (fun n ys nl => nl = [] ∧ n ≤ 6 ∧ ∃ l, ys = strValues l ∧ l.map (·.1) = (os.take n).map (lnAt lns)) rfl hlo8 F8 N8 ⟨rfl, Nat.zero_le _, [], rfl, rfl⟩ ?_ ?_ ?_)
    · rintro n ys nl ⟨_, hn, l, rfl, hl⟩
      have := congrArg List.length hl
      simp only [List.length_map, List.length_take] at this
      unfold strValues
      rw [List.length_map]
      omega
    · rintro h₇ C n v ys' nl h8 tk8 m8 E' _ hn hv8 hJ hm hns F N hnl
      refine no_tests ?_
      obtain ⟨t8, hvr⟩ := ints_at hvs n (by omega)
      rw [hv8] at hvr
      cases Option.some.inj hvr
      have hsm : os.getD n 0 ∈ os := (by rw [List.getD_eq_getElem?_getD, List.getElem?_eq_getElem (by omega), Option.getD_some]; exact List.getElem_mem _)
      obtain ⟨hs0, hs6⟩ := hk6 _ hsm
      have htk := ks_take (ks := os) (n := n) (by omega) (lnAt lns)
      generalize os.getD n 0 = s1 at *
      k_unmd
      (try k_fold)
      k_steps
      refine elt_post (fun b o e => e) ⟨hJ.1, by omega, ?_⟩
      rw [htk]
      exact strs_snoc hJ.2.2
    · intro h₇ D8 ys8 k8 nl9 h9 tk9 hDn8 hnD8 hnn8 hJ6_10 hD80 hDL8 _ _ F N
      refine hide fun hG9 => ?_
      obtain ⟨rfl, _, hys8⟩ := hJ6_10
      refine hG9 ?_
      clear hG9
      rw [List.nil_append] at N
      rw [List.take_of_length_le (by omega)] at hys8
      clear F8 N8
      k_unmd
      (try k_fold)
      k_steps
      with_reducible rename Fr _ _ _ _ => F7
      with_reducible rename News _ _ _ _ => N7
      refine unhold (st_cell F7 N7 rfl rfl rfl (by (repeat (first | with_reducible assumption | exact List.mem_cons_self .. | refine List.mem_cons_of_mem _ ?_))) dPg ?_)
      intro h5 oP1 F5 N5 dP1
      clear F7 N7
      have N6 : News g' L' h5 ((L' + 1 + 1 + 1, oP1) :: (K, listOf its.toArray kk) :: (L' + 1 + 1, oR) :: (L' + 1, oL) :: nl) := News.perm N5 (by
        intro p hp
        simp only [List.mem_cons] at hp
        rcases hp with rfl | rfl | rfl | rfl | hp
        · exact List.mem_cons_self ..
        · exact List.mem_cons_of_mem _ (mem_butI (by k_mem) hKP)
        · exact List.mem_cons_of_mem _ (mem_butI (by k_mem) (neN (by omega)))
        · exact List.mem_cons_of_mem _ (mem_butI (by k_mem) (neN (by omega)))
        · exact List.mem_cons_of_mem _ (mem_butI (by (repeat (first | with_reducible assumption | refine List.mem_cons_of_mem _ ?_))) (hnl2 p hp).2.2))
      clear N5
      replace dP1 : oP1.data = Data.cell (some (.str (restOf lns os) _)) := dP1
      have hrl9 : (restOf lns os).length ≤ 600 := hrl
      k_unmd
      (try k_fold)
      k_steps
      ((with_reducible rename Fr _ _ _ _ => kF); k_dflt (refine' cp_evalF kF ?a_31 ?b_31 ?c_31 ?d_31 ?e_31 ?f_31 ?_; (case a_31 => with_unfolding_all rfl); (case b_31 => decide); (case c_31 => with_unfolding_all rfl); (case d_31 => decide); (case e_31 => with_unfolding_all rfl); (case f_31 => (intro _; with_unfolding_all rfl)); k_whole))
      k_steps
      with_reducible rename Fr _ _ _ _ => F8
      with_reducible rename News _ _ _ _ => N8
      have hlo9 := HasG.list F8.keep hlo
      refine unhold (cs_list (T := 0) (Nat.zero_le _) (vs := vs) (fun n ys nl => nl = [] ∧ n ≤ 6 ∧ IntsAre ys ((os.take n).filter fun k => cB (restOf lns os) k)) rfl hlo9 F8 N8 ⟨rfl, Nat.zero_le _, .nil⟩ ?_ ?_ ?_)
      · rintro n ys nl ⟨_, hn, hy⟩
        rw [hy.length]
        refine Nat.le_trans (List.length_filter_le ..) ?_
        rw [List.length_take]
        omega
      · rintro h₇ C n v ys' nl h8 tk8 m8 E' _ hn hv8 hJ hm hns F N hnl
        refine one_test ?_
        obtain ⟨t8, hvr⟩ := ints_at hvs n (by omega)
        rw [hv8] at hvr
        cases Option.some.inj hvr
        have hsm : os.getD n 0 ∈ os := (by rw [List.getD_eq_getElem?_getD, List.getElem?_eq_getElem (by omega), Option.getD_some]; exact List.getElem_mem _)
        obtain ⟨hs0, hs6⟩ := hk6 _ hsm
        have htk := filt_take (ks := os) (n := n) (by omega) fun k => cB (restOf lns os) k
        generalize os.getD n 0 = s1 at *
        have HH : HasG h8 h8 := fun _ _ e => e
        k_unmd
        (try k_fold)
        k_steps
        with_reducible rename HasG _ _ => HG
        by_cases c3 : cB (restOf lns os) s1 = true
        · refine test_yes (by rename_i hb9 _ _ _; rw [hb9, c3]; rfl) HG ?_
          k_unmd
          (try k_fold)
          k_steps
          refine elt_post (fun _ _ e => e) ⟨hJ.1, by omega, ?_⟩
          rw [htk, if_pos c3]
          exact hJ.2.2.append (.cons _ _ .nil)
        · refine test_no (by rename_i hb9 _ _ _; rw [hb9, Bool.eq_false_iff.mpr c3]; rfl) HG ⟨hJ.1, by omega, ?_⟩
          rw [htk, if_neg c3, List.append_nil]
          exact hJ.2.2
      · intro h₇ D9 ys9 k9 nl9 h9 tk9 hDn10 hnD9 hnn9 hJ7_10 hD90 hDL9 _ _ F N
        refine hide fun hG9 => ?_
        obtain ⟨rfl, _, hys9⟩ := hJ7_10
        refine hG9 ?_
        clear hG9
        rw [List.nil_append] at N
        rw [List.take_of_length_le (by omega)] at hys9
        clear F8 N8
        k_unmd
        (try k_fold)
        k_steps
        with_reducible rename Fr _ _ _ _ => F7
        have hil := hrows.len
        have hul : (endsUpto lns os 6).length = 6 := by unfold endsUpto; rw [List.length_map, List.length_range]
        refine unhold (led_append (its := its) F7 N (fun q hq => hq) (by (repeat (first | with_reducible assumption | exact List.mem_cons_self .. | refine List.mem_cons_of_mem _ ?_))) (by omega) ?_)
        intro h5 k5 F5 N5
        clear F7 N
        (try dsimp only)
        k_unmd
        (try k_fold)
        k_steps
        dsimp only
        have hD9 : ∀ p ∈ ((L' + 1 + 1 + 1, oP1) :: (K, listOf its.toArray kk) :: (L' + 1 + 1, oR) :: (L' + 1, oL) :: nl), p.1 < D9 := hDn10
        have hDK : K < D9 := hD9 (K, listOf its.toArray kk) (by k_mem)
        refine hret _ _ _ (fun b o e => F5.keep _ _ (G' b o e)) ⟨K, _, k5, rfl, News.get N5 (List.mem_cons_self ..), ?_⟩
        refine RowsL.inn (nl := nl ++ [(D9, listOf ys9.toArray k9)]) N5 (fun q hq => ?_) ((hrows.mono fun q hq => List.mem_append_left _ hq).snoc (List.mem_append_right _ (List.mem_singleton.mpr rfl)) hys9)
        rcases List.mem_append.mp hq with hq | hq
        · exact List.mem_cons_of_mem _ (mem_butI (by (repeat (first | with_reducible assumption | exact List.mem_cons_self .. | refine List.mem_cons_of_mem _ ?_))) (hnl2 q hq).1)
        · rw [List.mem_singleton.mp hq]
          exact List.mem_cons_of_mem _ (mem_butI (List.mem_cons_self ..) (Nat.ne_of_gt hDK))

end
section
/-! ### lists of pairs and lists of lists, compared -/
open PyProof.V PySem.SeqAt
noncomputable def pairD (p : Int × Int) : PyData := .tuple [.int p.1, .int p.2]
noncomputable def rowD (r : List Int) : PyData := .list (r.map PyData.int)
theorem readsAll_pairs {h : Heap} : ∀ {vs : List Value} {ps : List (Int × Int)}, PairsIn h vs ps → ReadsAll h vs (ps.map pairD) []
  | _, _, .nil => .nil
  | _, _, .cons (x := x) (z := z) (tx := tx) (tz := tz) k r => by
    obtain ⟨o, ho, hc, n, hd⟩ := k
    have h2 : ReadsAll h [.int x tx, .int z tz] [.int x, .int z] [] := ReadsAll.cons (as := []) (bs := []) (.int x tx) (ReadsAll.cons (as := []) (bs := []) (.int z tz) .nil)
    have h1 : Reads h _ (pairD (x, z)) [] := Reads.tuple ho hc hd h2
    exact ReadsAll.cons (as := []) (bs := []) h1 (readsAll_pairs r)
theorem reads_pairs {h : Heap} {a : Addr} {vs : List Value} {ps : List (Int × Int)} {k : Nat} (hl : h.get? a = some (listOf vs.toArray k)) (hi : PairsIn h vs ps) : Reads h (.ref a) (.list (ps.map pairD)) [a] :=
  Reads.list hl rfl rfl (by simpa using readsAll_pairs hi)
theorem canLay_pairs : ∀ ps : List (Int × Int), PyData.canLayAll0 (ps.map pairD) = true
  | [] => by simp [PyData.canLayAll0]
  | p :: r => by simp [PyData.canLayAll0, PyData.canLay0, pairD, canLay_pairs r]
theorem depth_pairs : ∀ ps : List (Int × Int), PyData.depthAll (ps.map pairD) ≤ 3
  | [] => by simp [PyData.depthAll]
  | p :: r => by
    have := depth_pairs r
    simp only [List.map_cons, PyData.depthAll, pairD, PyData.depth]
    omega
theorem shaped_pairs (ps : List (Int × Int)) : shaped (.list (ps.map pairD)) = true := by
  have h1 := depth_pairs ps
  have h2 : PyData.depth (.list (ps.map pairD)) ≤ 64 := by simp only [PyData.depth]; omega
  show (PyData.canLay0 (.list (ps.map pairD)) && decide (PyData.depth (.list (ps.map pairD)) ≤ 64)) = true
  rw [Bool.and_eq_true]
  exact ⟨by simp only [PyData.canLay0]; exact canLay_pairs ps, decide_eq_true h2⟩
theorem noMix_pairs : ∀ ps qs : List (Int × Int), noMixAll (ps.map pairD) (qs.map pairD) = true
  | [], [] => by simp [noMixAll]
  | [], _ :: _ => by simp [noMixAll]
  | _ :: _, [] => by simp [noMixAll]
  | _ :: r, _ :: q => by simp [noMixAll, noMix, pairD, noMix_pairs r q]
theorem same_pairs : ∀ ps qs : List (Int × Int), PySem.Spec.sameAll (ps.map pairD) (qs.map pairD) = decide (ps = qs)
  | [], [] => by simp [PySem.Spec.sameAll]
  | [], _ :: _ => by simp [PySem.Spec.sameAll]
  | _ :: _, [] => by simp [PySem.Spec.sameAll]
  | (a, b) :: r, (c, d) :: q => by
    simp only [List.map_cons, PySem.Spec.sameAll, PySem.Spec.same, pairD, same_pairs r q]
    by_cases h : a = c <;> by_cases h' : b = d <;> simp [h, h']
theorem readsAll_rows {h : Heap} : ∀ {vs : List Value} {rows : List (List Int)}, RowsIn h vs rows → ∃ as, ReadsAll h vs (rows.map rowD) as
  | _, _, .nil => ⟨_, .nil⟩
  | _, _, .cons g hi r => by
    obtain ⟨as, hr⟩ := readsAll_rows r
    exact ⟨_, .cons (reads_of_ints ⟨_, g, rfl, _, rfl⟩ hi) hr⟩
theorem reads_rows {h : Heap} {a : Addr} {vs : List Value} {rows : List (List Int)} {k : Nat} (hl : h.get? a = some (listOf vs.toArray k)) (hi : RowsIn h vs rows) : ∃ as, Reads h (.ref a) (.list (rows.map rowD)) as := by
  obtain ⟨as, hr⟩ := readsAll_rows hi
  exact ⟨_, Reads.list hl rfl rfl (by simpa using hr)⟩
theorem canLay_rows : ∀ rows : List (List Int), PyData.canLayAll0 (rows.map rowD) = true
  | [] => by simp [PyData.canLayAll0]
  | r :: rs => by simp [PyData.canLayAll0, PyData.canLay0, rowD, canLayAll0_ints r, canLay_rows rs]
theorem depth_rows : ∀ rows : List (List Int), PyData.depthAll (rows.map rowD) ≤ 3
  | [] => by simp [PyData.depthAll]
  | r :: rs => by
    have := depth_rows rs
    have := PySem.W.depthAll_ints r
    simp only [List.map_cons, PyData.depthAll, rowD, PyData.depth]
    omega
theorem shaped_rows (rows : List (List Int)) : shaped (.list (rows.map rowD)) = true := by
  have h1 := depth_rows rows
  have h2 : PyData.depth (.list (rows.map rowD)) ≤ 64 := by simp only [PyData.depth]; omega
  show (PyData.canLay0 (.list (rows.map rowD)) && decide (PyData.depth (.list (rows.map rowD)) ≤ 64)) = true
  rw [Bool.and_eq_true]
  exact ⟨by simp only [PyData.canLay0]; exact canLay_rows rows, decide_eq_true h2⟩
theorem noMix_rows : ∀ ps qs : List (List Int), noMixAll (ps.map rowD) (qs.map rowD) = true
  | [], [] => by simp [noMixAll]
  | [], _ :: _ => by simp [noMixAll]
  | _ :: _, [] => by simp [noMixAll]
  | p :: r, q :: t => by simp [noMixAll, noMix, rowD, noMix_ints p q, noMix_rows r t]
theorem same_rows : ∀ ps qs : List (List Int), PySem.Spec.sameAll (ps.map rowD) (qs.map rowD) = decide (ps = qs)
  | [], [] => by simp [PySem.Spec.sameAll]
  | [], _ :: _ => by simp [PySem.Spec.sameAll]
  | _ :: _, [] => by simp [PySem.Spec.sameAll]
  | p :: r, q :: t => by
    simp only [List.map_cons, PySem.Spec.sameAll, PySem.Spec.same, rowD, same_ints p q]
    rw [same_rows r t]
    by_cases h : p = q <;> simp [h]
section
variable {prog : Program} {w : World} {A : Around} {E : Value → Shared → Prop} {s : Shared}
theorem ne_pairs {a b : Addr} {vs us : List Value} {ps qs : List (Int × Int)} {k k2 : Nat} {Q : Value → Shared → Prop} (hl : s.heap.get? a = some (listOf vs.toArray k)) (hi : PairsIn s.heap vs ps) (hl' : s.heap.get? b = some (listOf us.toArray k2)) (hi' : PairsIn s.heap us qs) (hu : A.units + 64 < cLine)
    (h : Q (.bool (!decide (ps = qs))) s) : wpAny (model prog w) A (compareOp .NotEq (.ref a) (.ref b)) Q E s :=
  ne_dataH_same (reads_pairs hl hi) (reads_pairs hl' hi') (shaped_pairs ps) (shaped_pairs qs) hu (by simp only [noMix]; exact noMix_pairs ps qs) (by simp only [PySem.Spec.same]; rw [same_pairs]; exact h)
theorem eq_pairs {a b : Addr} {vs us : List Value} {ps qs : List (Int × Int)} {k k2 : Nat} {Q : Value → Shared → Prop} (hl : s.heap.get? a = some (listOf vs.toArray k)) (hi : PairsIn s.heap vs ps) (hl' : s.heap.get? b = some (listOf us.toArray k2)) (hi' : PairsIn s.heap us qs) (hu : A.units + 64 < cLine)
    (h : Q (.bool (decide (ps = qs))) s) : wpAny (model prog w) A (compareOp .Eq (.ref a) (.ref b)) Q E s :=
  eq_dataH_same (reads_pairs hl hi) (reads_pairs hl' hi') (shaped_pairs ps) (shaped_pairs qs) hu (by simp only [noMix]; exact noMix_pairs ps qs) (by simp only [PySem.Spec.same]; rw [same_pairs]; exact h)
theorem ne_rows {a b : Addr} {vs us : List Value} {ps qs : List (List Int)} {k k2 : Nat} {Q : Value → Shared → Prop} (hl : s.heap.get? a = some (listOf vs.toArray k)) (hi : RowsIn s.heap vs ps) (hl' : s.heap.get? b = some (listOf us.toArray k2)) (hi' : RowsIn s.heap us qs) (hu : A.units + 64 < cLine)
    (h : Q (.bool (!decide (ps = qs))) s) : wpAny (model prog w) A (compareOp .NotEq (.ref a) (.ref b)) Q E s := by
  obtain ⟨as, ra⟩ := reads_rows hl hi
  obtain ⟨bs, rb⟩ := reads_rows hl' hi'
  exact ne_dataH_same ra rb (shaped_rows ps) (shaped_rows qs) hu (by simp only [noMix]; exact noMix_rows ps qs) (by simp only [PySem.Spec.same]; rw [same_rows]; exact h)
end

end
section
/-! ### what holds of every heap that has the ground and a ledger's objects -/
noncomputable def Via (h₀ : Heap) (nl : List (Addr × Obj)) (P : Heap → Prop) : Prop := ∀ h₂ : Heap, (∀ b o, h₀.get? b = some o → h₂.get? b = some o) → (∀ q ∈ nl, h₂.get? q.1 = some q.2) → P h₂
theorem Via.mono {h₀ : Heap} {nl nl' : List (Addr × Obj)} {P : Heap → Prop} (v : Via h₀ nl P) (hs : ∀ q ∈ nl, q ∈ nl') : Via h₀ nl' P := fun h₂ a b => v h₂ a fun q hq => b q (hs q hq)
theorem Via.at {h₀ h : Heap} {L : Addr} {m : Str → Option Value} {news nl : List (Addr × Obj)} {P : Heap → Prop} (v : Via h₀ nl P) (F : Fr h₀ L h m) (N : News h₀ L h news) (hs : ∀ q ∈ nl, q ∈ news) : P h := v h F.keep fun q hq => (N q (hs q hq)).1
theorem via_obj {h₀ h : Heap} {L a : Addr} {m : Str → Option Value} {o : Obj} (F : Fr h₀ L h m) (g : h.get? a = some o) (hd : ∃ its k, o.data = .seq its k) : ∃ nl, News h₀ L h nl ∧ Via h₀ nl fun h₂ => h₂.get? a = some o := by
  cases e : h₀.get? a with
  | none =>
    refine ⟨[(a, o)], fun q hq => ?_, fun h₂ _ hn => hn _ (List.mem_singleton.mpr rfl)⟩
    rw [List.mem_singleton.mp hq]
    refine ⟨g, fun q => ?_, e⟩
    obtain ⟨oL, _, _, hoL, hcl, _⟩ := F.ns
    obtain ⟨_, _, hd⟩ := hd
    rw [show a = L from q, hoL] at g
    cases g
    rw [hcl] at hd
    cases hd
  | some o' =>
    have := F.keep _ _ e
    rw [g] at this
    cases this
    exact ⟨[], (fun _ hq => nomatch hq), fun h₂ hk _ => hk _ _ e⟩
theorem News.app {h₀ h : Heap} {L : Addr} {n1 n2 : List (Addr × Obj)} (a : News h₀ L h n1) (b : News h₀ L h n2) : News h₀ L h (n1 ++ n2) := fun q hq => (List.mem_append.mp hq).elim (a q) (b q)
theorem via_pairs {h₀ h : Heap} {L : Addr} {m : Str → Option Value} (F : Fr h₀ L h m) : ∀ {vs : List Value} {ps : List (Int × Int)}, PairsIn h vs ps → ∃ nl, News h₀ L h nl ∧ Via h₀ nl fun h₂ => PairsIn h₂ vs ps
  | _, _, .nil => ⟨[], (fun _ hq => nomatch hq), fun _ _ _ => .nil⟩
  | _, _, .cons k r => by
    obtain ⟨o, ho, hc, hd⟩ := k
    obtain ⟨n1, N1, v1⟩ := via_obj F ho (let ⟨k, hk⟩ := hd; ⟨_, k, hk⟩)
    obtain ⟨n2, N2, v2⟩ := via_pairs F r
    exact ⟨n1 ++ n2, News.app N1 N2, fun h₂ a b => .cons ⟨o, v1 h₂ a fun q hq => b q (List.mem_append_left _ hq), hc, hd⟩ (v2 h₂ a fun q hq => b q (List.mem_append_right _ hq))⟩
theorem via_rows {h₀ h : Heap} {L : Addr} {m : Str → Option Value} (F : Fr h₀ L h m) : ∀ {vs : List Value} {rows : List (List Int)}, RowsIn h vs rows → ∃ nl, News h₀ L h nl ∧ Via h₀ nl fun h₂ => RowsIn h₂ vs rows
  | _, _, .nil => ⟨[], (fun _ hq => nomatch hq), fun _ _ _ => .nil⟩
  | _, _, .cons g hi r => by
    obtain ⟨n1, N1, v1⟩ := via_obj F g ⟨_, _, rfl⟩
    obtain ⟨n2, N2, v2⟩ := via_rows F r
    exact ⟨n1 ++ n2, News.app N1 N2, fun h₂ a b => .cons (v1 h₂ a fun q hq => b q (List.mem_append_left _ hq)) hi (v2 h₂ a fun q hq => b q (List.mem_append_right _ hq))⟩

end
section
/-! ### the column and the indent level of a lead -/
theorem told_all : ∀ a, a < 3 → ∀ b, b < 3 → ∀ c, c < 3 → ((∀ s, s < 6 → indentZ ((s : Nat) + 1 : Int) (wsZ (leadCs a b c)) = colZ ((s : Nat) + 1 : Int) (leadCs a b c)) ∧ ((wsZ (leadCs a b c)).cnt.all fun x => decide (0 ≤ x ∧ x ≤ 100)) = true ∧ (wsZ (leadCs a b c)).cnt.length ≤ 6) := by
  decide +kernel
theorem told_eq {l : List Nat} (h : LeadLike l) {sz : Int} (h1 : 1 ≤ sz) (h6 : sz ≤ 6) : indentZ sz (wsZ l) = colZ sz l := by
  obtain ⟨a, b, c, ha, hb, hc, rfl⟩ := h
  have := (told_all a ha b hb c hc).1 (sz - 1).toNat (by omega)
  rwa [show (((sz - 1).toNat : Nat) : Int) + 1 = sz by omega] at this
theorem cnt_bd {l : List Nat} (h : LeadLike l) : ∀ k, 0 ≤ (wsZ l).cnt.getD k 0 ∧ (wsZ l).cnt.getD k 0 ≤ 100 := by
  obtain ⟨a, b, c, ha, hb, hc, rfl⟩ := h
  have h := (told_all a ha b hb c hc).2.1
  intro k
  rw [List.getD_eq_getElem?_getD]
  cases e : (wsZ (leadCs a b c)).cnt[k]? with
  | none => decide
  | some x => exact of_decide_eq_true (List.all_eq_true.mp h x (List.mem_of_getElem? e))
theorem cnt_len {l : List Nat} (h : LeadLike l) : (wsZ l).cnt.length ≤ 6 := by
  obtain ⟨a, b, c, ha, hb, hc, rfl⟩ := h
  exact (told_all a ha b hb c hc).2.2

end
section
/-! ### the pile, in plain Lean -/
section
variable {α : Type}
noncomputable def run (f : α → Int) : List α → List α → List α
  | st, [] => st
  | st, v :: l => st.takeWhile (fun a => decide (f a < f v)) ++ run f (v :: st.dropWhile (fun a => decide (f a < f v))) l
theorem run_perm (f : α → Int) : ∀ (l st : List α), (run f st l).Perm (st ++ l)
  | [], st => by rw [List.append_nil]; exact List.Perm.refl _
  | v :: l, st => by
    have ih := run_perm f l (v :: st.dropWhile (fun a => decide (f a < f v)))
    show List.Perm (_ ++ _) _
    refine (List.Perm.append_left _ ih).trans ?_
    have h : (st.takeWhile (fun a => decide (f a < f v)) ++ st.dropWhile (fun a => decide (f a < f v))) = st := List.takeWhile_append_dropWhile
    have h2 : (st.takeWhile (fun a => decide (f a < f v)) ++ (st.dropWhile (fun a => decide (f a < f v)) ++ v :: l)) = st ++ v :: l := by rw [← List.append_assoc, h]
    rw [← h2]
    exact List.Perm.append_left _ List.perm_middle.symm
theorem run_sub (f : α → Int) : ∀ (l st : List α), st.Sublist (run f st l)
  | [], st => List.Sublist.refl _
  | v :: l, st => by
    have ih := run_sub f l (v :: st.dropWhile (fun a => decide (f a < f v)))
    have h : (st.takeWhile (fun a => decide (f a < f v)) ++ st.dropWhile (fun a => decide (f a < f v))) = st := List.takeWhile_append_dropWhile
    have h2 := List.Sublist.append (List.Sublist.refl (st.takeWhile (fun a => decide (f a < f v)))) ((List.sublist_cons_self v _).trans ih)
    rw [h] at h2
    exact h2
abbrev Bef (l : List α) (a b : α) : Prop := [a, b].Sublist l
theorem Bef.left {l m : List α} {a b : α} (h : Bef l a b) : Bef (l ++ m) a b := h.trans (List.sublist_append_left ..)
theorem Bef.right {l m : List α} {a b : α} (h : Bef m a b) : Bef (l ++ m) a b := h.trans (List.sublist_append_right ..)
theorem Bef.mid {l m : List α} {a b : α} (ha : a ∈ l) (hb : b ∈ m) : Bef (l ++ m) a b := List.Sublist.append (List.singleton_sublist.mpr ha) (List.singleton_sublist.mpr hb)
/-- the heart: when does what lies on the pile come off ahead of what is still to come -/
theorem run_main (f : α → Int) : ∀ (l st : List α), st.Pairwise (fun a b => f a ≤ f b) → ∀ (a j : α) (m w : List α), a ∈ st → l = m ++ j :: w →
    ((∃ k ∈ m ++ [j], f a < f k) → Bef (run f st l) a j) ∧ ((∀ k ∈ m ++ [j], f k ≤ f a) → Bef (run f st l) j a)
  | [], st, _, a, j, m, w, _, e => by cases m <;> cases e
  | v :: l, st, hst, a, j, m, w, ha, e => by
    have hsplit : (st.takeWhile (fun a => decide (f a < f v)) ++ st.dropWhile (fun a => decide (f a < f v))) = st := List.takeWhile_append_dropWhile
    have hjl : j ∈ v :: l := by rw [e]; exact List.mem_append_right _ (List.mem_cons_self ..)
    have hmem : ∀ x ∈ v :: l, x ∈ run f (v :: st.dropWhile (fun a => decide (f a < f v))) l := fun x hx => by
      refine (run_perm f l _).mem_iff.mpr ?_
      rcases List.mem_cons.mp hx with rfl | hx
      · exact List.mem_append_left _ (List.mem_cons_self ..)
      · exact List.mem_append_right _ hx
    have hvm : v ∈ m ++ [j] := by
      cases m with
      | nil => cases e; exact List.mem_cons_self ..
      | cons x m' => cases e; exact List.mem_cons_self ..
    have hd : ∀ b ∈ st.dropWhile (fun a => decide (f a < f v)), f v ≤ f b := by
      intro b hb
      have hp : (st.dropWhile (fun a => decide (f a < f v))).Pairwise (fun a b => f a ≤ f b) := hst.sublist (List.dropWhile_sublist _)
      cases hdw : st.dropWhile (fun a => decide (f a < f v)) with
      | nil => rw [hdw] at hb; cases hb
      | cons x r =>
        have hx : ¬ (decide (f x < f v)) = true := by
          have := List.head?_dropWhile_not (fun a => decide (f a < f v)) st
          rw [hdw] at this
          simpa using this
        have hx' : f v ≤ f x := by simpa using hx
        rw [hdw] at hb hp
        rcases List.mem_cons.mp hb with rfl | hb
        · exact hx'
        · exact Int.le_trans hx' (List.rel_of_pairwise_cons hp hb)
    rw [← hsplit] at ha
    show (_ → Bef (_ ++ _) a j) ∧ (_ → Bef (_ ++ _) j a)
    rcases List.mem_append.mp ha with ha | ha
    · have hav : f a < f v := by
        have := List.all_eq_true.mp List.all_takeWhile a ha
        simpa using this
      exact ⟨fun _ => Bef.mid ha (hmem j hjl), fun h => absurd (h v hvm) (by omega)⟩
    · have hav := hd a ha
      have hst' : (v :: st.dropWhile (fun a => decide (f a < f v))).Pairwise (fun a b => f a ≤ f b) := List.pairwise_cons.mpr ⟨hd, hst.sublist (List.dropWhile_sublist _)⟩
      cases m with
      | nil =>
        cases e
        refine ⟨fun ⟨k, hk, hlt⟩ => ?_, fun _ => ?_⟩
        · rw [List.nil_append, List.mem_singleton] at hk
          subst hk
          omega
        · refine Bef.right (List.Sublist.trans ?_ (run_sub f l _))
          exact List.Sublist.cons_cons _ (List.singleton_sublist.mpr ha)
      | cons x m' =>
        cases e
        have ih := run_main f (m' ++ j :: w) (v :: st.dropWhile (fun a => decide (f a < f v))) hst' a j m' w (List.mem_cons_of_mem _ ha) rfl
        refine ⟨fun ⟨k, hk, hlt⟩ => Bef.right (ih.1 ⟨k, ?_, hlt⟩), fun h => Bef.right (ih.2 fun k hk => h k (List.mem_cons_of_mem _ hk))⟩
        rcases List.mem_cons.mp hk with rfl | hk
        · omega
        · exact hk
theorem run_two (f : α → Int) : ∀ (m0 st : List α), st.Pairwise (fun a b => f a ≤ f b) → ∀ (i j : α) (m w : List α),
    ((∃ k ∈ m ++ [j], f i < f k) → Bef (run f st (m0 ++ i :: (m ++ j :: w))) i j) ∧ ((∀ k ∈ m ++ [j], f k ≤ f i) → Bef (run f st (m0 ++ i :: (m ++ j :: w))) j i)
  | [], st, hst, i, j, m, w => by
    have hst' : (i :: st.dropWhile (fun a => decide (f a < f i))).Pairwise (fun a b => f a ≤ f b) := List.pairwise_cons.mpr ⟨?_, hst.sublist (List.dropWhile_sublist _)⟩
    · have := run_main f (m ++ j :: w) _ hst' i j m w (List.mem_cons_self ..) rfl
      exact ⟨fun h => Bef.right (this.1 h), fun h => Bef.right (this.2 h)⟩
    · intro b hb
      have hp : (st.dropWhile (fun a => decide (f a < f i))).Pairwise (fun a b => f a ≤ f b) := hst.sublist (List.dropWhile_sublist _)
      cases hdw : st.dropWhile (fun a => decide (f a < f i)) with
      | nil => rw [hdw] at hb; cases hb
      | cons x r =>
        have hx : ¬ (decide (f x < f i)) = true := by
          have := List.head?_dropWhile_not (fun a => decide (f a < f i)) st
          rw [hdw] at this
          simpa using this
        have hx' : f i ≤ f x := by simpa using hx
        rw [hdw] at hb hp
        rcases List.mem_cons.mp hb with rfl | hb
        · exact hx'
        · exact Int.le_trans hx' (List.rel_of_pairwise_cons hp hb)
  | v :: m0, st, hst, i, j, m, w => by
    have hst' : (v :: st.dropWhile (fun a => decide (f a < f v))).Pairwise (fun a b => f a ≤ f b) := List.pairwise_cons.mpr ⟨?_, hst.sublist (List.dropWhile_sublist _)⟩
    · have := run_two f m0 _ hst' i j m w
      exact ⟨fun h => Bef.right (this.1 h), fun h => Bef.right (this.2 h)⟩
    · intro b hb
      have hp : (st.dropWhile (fun a => decide (f a < f v))).Pairwise (fun a b => f a ≤ f b) := hst.sublist (List.dropWhile_sublist _)
      cases hdw : st.dropWhile (fun a => decide (f a < f v)) with
      | nil => rw [hdw] at hb; cases hb
      | cons x r =>
        have hx : ¬ (decide (f x < f v)) = true := by
          have := List.head?_dropWhile_not (fun a => decide (f a < f v)) st
          rw [hdw] at this
          simpa using this
        have hx' : f v ≤ f x := by simpa using hx
        rw [hdw] at hb hp
        rcases List.mem_cons.mp hb with rfl | hb
        · exact hx'
        · exact Int.le_trans hx' (List.rel_of_pairwise_cons hp hb)
end
/-! ### the walk's form -/
theorem spill_eq (f : Value → Int) (v : Value) : ∀ (st off : List Value), spill f v off st = (off ++ st.takeWhile (fun a => decide (f a < f v)), st.dropWhile (fun a => decide (f a < f v)))
  | [], off => by simp [spill]
  | a :: r, off => by
    unfold spill
    by_cases h : f a < f v
    · rw [if_pos h, spill_eq f v r, List.takeWhile_cons_of_pos (by simpa using h), List.dropWhile_cons_of_pos (by simpa using h), List.append_assoc]; rfl
    · rw [if_neg h, List.takeWhile_cons_of_neg (by simpa using h), List.dropWhile_cons_of_neg (by simpa using h), List.append_nil]
theorem foldl_run (f : Value → Int) : ∀ (l off st : List Value), (l.foldl (pstep f) (off, st)).1 ++ (l.foldl (pstep f) (off, st)).2 = off ++ run f st l
  | [], off, st => rfl
  | v :: l, off, st => by
    rw [List.foldl_cons]
    have h : pstep f (off, st) v = (off ++ st.takeWhile (fun a => decide (f a < f v)), v :: st.dropWhile (fun a => decide (f a < f v))) := by
      unfold pstep
      rw [spill_eq]
    rw [h, foldl_run f l, List.append_assoc]; rfl
theorem piledV_run (f : Value → Int) (vs : List Value) : piledV f vs = run f [] vs := foldl_run f vs [] []
theorem run_map {α β : Type} (g : β → Int) (e : α → β) : ∀ (l st : List α), (run (fun a => g (e a)) st l).map e = run g (st.map e) (l.map e)
  | [], st => rfl
  | v :: l, st => by
    show (_ ++ run _ _ l).map e = _
    rw [List.map_append, run_map g e l, List.map_cons, List.map_cons]
    show _ = List.takeWhile _ _ ++ run _ (e v :: List.dropWhile _ _) _
    rw [List.takeWhile_map, List.dropWhile_map]; rfl

/-! ### places -/
theorem idx_ne {α : Type} [BEq α] [LawfulBEq α] {x a : α} {t : List α} (h : ¬ x = a) : (x :: t).idxOf a = t.idxOf a + 1 := by
  rw [List.idxOf_cons, beq_false_of_ne h]; rfl
theorem idx_in {α : Type} [BEq α] [LawfulBEq α] {a : α} {l m : List α} (h : a ∈ l) : (l ++ m).idxOf a = l.idxOf a := by rw [List.idxOf_append, if_pos h]
theorem idx_out {α : Type} [BEq α] [LawfulBEq α] {a : α} {l m : List α} (h : a ∉ l) : (l ++ m).idxOf a = m.idxOf a + l.length := by rw [List.idxOf_append, if_neg h]
theorem bef_idx {α : Type} [BEq α] [LawfulBEq α] {a b : α} : ∀ {l : List α}, l.Nodup → Bef l a b → l.idxOf a < l.idxOf b
  | [], _, h => by cases h
  | x :: t, hn, h => by
    have hx : x ∉ t := (List.nodup_cons.mp hn).1
    have ht := (List.nodup_cons.mp hn).2
    cases h with
    | cons _ h' =>
      have ha : a ∈ t := h'.subset (List.mem_cons_self ..)
      have hb : b ∈ t := h'.subset (List.mem_cons_of_mem _ (List.mem_cons_self ..))
      have hax : ¬ x = a := fun e => hx (e ▸ ha)
      have hbx : ¬ x = b := fun e => hx (e ▸ hb)
      rw [idx_ne hax, idx_ne hbx]
      exact Nat.succ_lt_succ (bef_idx ht h')
    | cons_cons _ h' =>
      have hb : b ∈ t := List.singleton_sublist.mp h'
      have hbx : ¬ a = b := fun e => hx (e ▸ hb)
      rw [List.idxOf_cons_self, idx_ne hbx]
      exact Nat.succ_pos _
theorem idx_split {α : Type} [BEq α] [LawfulBEq α] {l : List α} {i j : α} (hn : l.Nodup) (hi : i ∈ l) (hj : j ∈ l) (h : l.idxOf i < l.idxOf j) : ∃ m0 m w, l = m0 ++ i :: (m ++ j :: w) ∧ ∀ k, k ∈ m ++ [j] ↔ (k ∈ l ∧ l.idxOf i < l.idxOf k ∧ l.idxOf k ≤ l.idxOf j) := by
  refine hide fun hG9 => ?_
  obtain ⟨m0, r, rfl⟩ := List.append_of_mem hi
  refine hG9 ?_
  clear hG9
  have hn' := hn
  rw [List.nodup_append] at hn
  refine hide fun hG9 => ?_
  obtain ⟨h0, hr, hd⟩ := hn
  refine hG9 ?_
  clear hG9
  have hi0 : i ∉ m0 := fun h => hd i h i (List.mem_cons_self ..) rfl
  have hii : (m0 ++ i :: r).idxOf i = m0.length := by rw [idx_out hi0, List.idxOf_cons_self, Nat.zero_add]
  have hjr : j ∈ r := by
    rcases List.mem_append.mp hj with hj | hj
    · have := List.idxOf_lt_length_iff.mpr hj
      rw [hii, idx_in hj] at h
      omega
    · rcases List.mem_cons.mp hj with rfl | hj
      · exact absurd h (Nat.lt_irrefl _)
      · exact hj
  refine hide fun hG9 => ?_
  obtain ⟨m, w, rfl⟩ := List.append_of_mem hjr
  refine hG9 ?_
  clear hG9
  refine ⟨m0, m, w, rfl, fun k => ?_⟩
  have hir : i ∉ m ++ j :: w := (List.nodup_cons.mp hr).1
  have hmw := (List.nodup_cons.mp hr).2
  rw [List.nodup_append] at hmw
  refine hide fun hG9 => ?_
  obtain ⟨hm, hjw, hmd⟩ := hmw
  refine hG9 ?_
  clear hG9
  have hjm : j ∉ m := fun h => hmd j h j (List.mem_cons_self ..) rfl
  have at1 : ∀ x, x ∉ m0 → x ≠ i → (m0 ++ i :: (m ++ j :: w)).idxOf x = m0.length + 1 + (m ++ j :: w).idxOf x := fun x h1 h2 => by
    rw [idx_out h1, idx_ne (fun e => h2 e.symm)]; omega
  have hj0 : j ∉ m0 := fun h => hd j h j (List.mem_cons_of_mem _ hjr) rfl
  have hji : j ≠ i := fun e => hir (e ▸ hjr)
  have hjj : (m0 ++ i :: (m ++ j :: w)).idxOf j = m0.length + 1 + m.length := by rw [at1 j hj0 hji, idx_out hjm, List.idxOf_cons_self]; omega
  rw [hii, hjj]
  constructor
  · intro hk
    have hkr : k ∈ m ++ j :: w := by
      rcases List.mem_append.mp hk with hk | hk
      · exact List.mem_append_left _ hk
      · rw [List.mem_singleton.mp hk]; exact List.mem_append_right _ (List.mem_cons_self ..)
    have hk0 : k ∉ m0 := fun h => hd k h k (List.mem_cons_of_mem _ hkr) rfl
    have hki : k ≠ i := fun e => hir (e ▸ hkr)
    refine ⟨List.mem_append_right _ (List.mem_cons_of_mem _ hkr), ?_⟩
    rw [at1 k hk0 hki]
    refine ⟨by omega, ?_⟩
    rcases List.mem_append.mp hk with hk | hk
    · rw [idx_in hk]
      have := List.idxOf_lt_length_iff.mpr hk
      omega
    · rw [List.mem_singleton.mp hk, idx_out hjm, List.idxOf_cons_self]; omega
  · intro hJ4_0
    refine hide fun hG9 => ?_
    obtain ⟨hk, h1, h2⟩ := hJ4_0
    refine hG9 ?_
    clear hG9
    have hk0 : k ∉ m0 := fun hk => by
      have := List.idxOf_lt_length_iff.mpr hk
      rw [idx_in hk] at h1
      omega
    have hki : k ≠ i := fun e => by rw [e, hii] at h1; omega
    rw [at1 k hk0 hki] at h2
    by_cases hkm : k ∈ m
    · exact List.mem_append_left _ hkm
    · rw [idx_out hkm] at h2
      by_cases hkj : k = j
      · rw [hkj]; exact List.mem_append_right _ (List.mem_singleton.mpr rfl)
      · rw [idx_ne (fun e => hkj e.symm)] at h2
        omega
/-- of two in a row the one ahead comes off first if and only if one behind it, down to the other one, is bigger -/
theorem run_idx {f : Int → Int} {os : List Int} (hn : os.Nodup) {i j : Int} (hi : i ∈ os) (hj : j ∈ os) (h : os.idxOf i < os.idxOf j) :
    ((∃ k ∈ os, os.idxOf i < os.idxOf k ∧ os.idxOf k ≤ os.idxOf j ∧ f i < f k) → (run f [] os).idxOf i < (run f [] os).idxOf j) ∧
    ((∀ k ∈ os, os.idxOf i < os.idxOf k → os.idxOf k ≤ os.idxOf j → f k ≤ f i) → (run f [] os).idxOf j < (run f [] os).idxOf i) := by
  refine hide fun hG9 => ?_
  obtain ⟨m0, m, w, e, hk⟩ := idx_split hn hi hj h
  refine hG9 ?_
  clear hG9
  have hR : (run f [] os).Nodup := ((run_perm f os []).nodup_iff).mpr hn
  have := run_two f m0 [] .nil i j m w
  rw [← e] at this
  exact ⟨fun ⟨k, h1, h2, h3, h4⟩ => bef_idx hR (this.1 ⟨k, (hk k).mpr ⟨h1, h2, h3⟩, h4⟩), fun h => bef_idx hR (this.2 fun k hk' => h k ((hk k).mp hk').1 ((hk k).mp hk').2.1 ((hk k).mp hk').2.2)⟩

end
section
/-! ### the pass, the pairs that fall, and the places, in plain Lean -/
noncomputable def os0 : List Int := [0, 1, 2, 3, 4, 5]
noncomputable def pileI (cs : List Int) (os : List Int) : List Int := run (fun k => tI cs k) [] os
noncomputable def itI (cs : List Int) : Nat → List Int
  | 0 => os0
  | n + 1 => pileI cs (itI cs n)
theorem pile_map (cs : List Int) (vs : List Value) : (piledV (tf cs) vs).map kv = pileI cs (vs.map kv) := by
  rw [piledV_run]
  exact run_map (fun k => tI cs k) kv vs []
theorem pile_mem {f : Value → Int} {vs : List Value} {v : Value} (h : v ∈ piledV f vs) : v ∈ vs := by
  rw [piledV_run] at h
  exact (run_perm f vs []).mem_iff.mp h
theorem pile_perm (cs os : List Int) : (pileI cs os).Perm os := run_perm _ os []
theorem it_perm (cs : List Int) : ∀ n : Nat, (itI cs n).Perm os0
  | 0 => List.Perm.refl _
  | n + 1 => (pile_perm cs _).trans (it_perm cs n)
theorem perm_facts {os : List Int} (h : os.Perm os0) : os.length = 6 ∧ (∀ k ∈ os, 0 ≤ k ∧ k < 6) ∧ ∀ k : Nat, k < 6 → (k : Int) ∈ os := by
  refine ⟨h.length_eq, fun k hk => ?_, fun k hk => h.mem_iff.mpr ?_⟩
  · have := h.mem_iff.mp hk
    simp only [os0, List.mem_cons, List.not_mem_nil, or_false] at this
    omega
  · have : k = 0 ∨ k = 1 ∨ k = 2 ∨ k = 3 ∨ k = 4 ∨ k = 5 := by omega
    rcases this with rfl | rfl | rfl | rfl | rfl | rfl <;> decide
theorem os_nodup {os : List Int} (h : os.Perm os0) : os.Nodup := h.nodup_iff.mpr (by decide)
theorem idx_inj {l : List Int} {a b : Int} (ha : a ∈ l) (h : l.idxOf a = l.idxOf b) : a = b := by
  have hl := List.idxOf_lt_length_iff.mpr ha
  have h1 : l[l.idxOf a] = a := List.getElem_idxOf hl
  have hb : l.idxOf b < l.length := h ▸ hl
  have h2 : l[l.idxOf b] = b := List.getElem_idxOf hb
  rw [← h1, ← h2]
  congr 1
theorem idx_tri {l : List Int} {a b : Int} (ha : a ∈ l) (hne : a ≠ b) : l.idxOf a < l.idxOf b ∨ l.idxOf b < l.idxOf a := by
  rcases Nat.lt_trichotomy (l.idxOf a) (l.idxOf b) with h | h | h
  · exact .inl h
  · exact absurd (idx_inj ha h) hne
  · exact .inr h
/-- a pair falls if and only if a bigger one stands between -/
theorem fall_iff {cs os : List Int} (ho : os.Perm os0) {x z : Int} (hx : x ∈ os) (hz : z ∈ os) (hlt : tI cs z < tI cs x) :
    (∃ r ∈ os, tI cs x < tI cs r ∧ os.idxOf x < os.idxOf r ∧ os.idxOf r < os.idxOf z) ↔ (pileI cs os).idxOf x < (pileI cs os).idxOf z := by
  have hn := os_nodup ho
  constructor
  · intro hJ0_0
    refine hide fun hG9 => ?_
    obtain ⟨r, hr, h1, h2, h3⟩ := hJ0_0
    refine hG9 ?_
    clear hG9
    exact (run_idx hn hx hz (by omega)).1 ⟨r, hr, h2, by omega, h1⟩
  · intro h
    have hne : x ≠ z := by rintro rfl; omega
    rcases idx_tri hx hne with hp | hp
    · have h2 := (run_idx (f := fun k => tI cs k) hn hx hz hp).2
      by_cases he : ∃ r ∈ os, tI cs x < tI cs r ∧ os.idxOf x < os.idxOf r ∧ os.idxOf r < os.idxOf z
      · exact he
      · refine absurd (h2 fun k hk k1 k2 => ?_) (by unfold pileI at h; omega)
        by_cases hkz : k = z
        · subst hkz; exact Int.le_of_lt hlt
        · have : os.idxOf k ≠ os.idxOf z := fun e => hkz (idx_inj hk e)
          refine Int.not_lt.mp fun hh => he ⟨k, hk, hh, k1, by omega⟩
    · have h1 := (run_idx (f := fun k => tI cs k) hn hz hx hp).1 ⟨x, hx, hp, Nat.le_refl _, hlt⟩
      unfold pileI at h
      omega
theorem flatMap_ext {α β : Type} {f g : α → List β} : ∀ {l : List α}, (∀ a ∈ l, f a = g a) → l.flatMap f = l.flatMap g
  | [], _ => rfl
  | a :: l, h => by
    rw [List.flatMap_cons, List.flatMap_cons, h a (List.mem_cons_self ..), flatMap_ext fun b hb => h b (List.mem_cons_of_mem _ hb)]
theorem places_at (os : List Int) {n : Nat} (h : n < 6) : (placesL os 6).getD n 0 = ((os.idxOf (n : Int) : Nat) : Int) := by
  unfold placesL
  rw [List.getD_eq_getElem?_getD, List.getElem?_map, List.getElem?_range h]; rfl
theorem fall_cond {cs R : List Int} {x z : Nat} (hx : x < 6) (hz : z < 6) : (cs.getD (Int.toNat z) 0 < cs.getD (Int.toNat x) 0 ∧ (placesL R 6).getD (Int.toNat x) 0 < (placesL R 6).getD (Int.toNat z) 0) ↔ (tI cs z < tI cs x ∧ R.idxOf (x : Int) < R.idxOf (z : Int)) := by
  rw [Int.toNat_natCast, Int.toNat_natCast, places_at R hx, places_at R hz]
  unfold tI
  rw [Int.toNat_natCast, Int.toNat_natCast]
  omega
/-- what the finding of three letters tells -/
noncomputable def Finds3 (page : Str) (os : List Int) : Prop := ∀ x r z, x ∈ os → r ∈ os → z ∈ os → (foundB page [x, r, z] = true ↔ os.idxOf x < os.idxOf r ∧ os.idxOf r < os.idxOf z)
noncomputable def Finds4 (page : Str) (os : List Int) : Prop := ∀ x y r z, x ∈ os → y ∈ os → r ∈ os → z ∈ os → (foundB page [x, y, r, z] = true ↔ os.idxOf x < os.idxOf y ∧ os.idxOf y < os.idxOf r ∧ os.idxOf r < os.idxOf z)
theorem mid_iff {cs os : List Int} {page : Str} (ho : os.Perm os0) (hF : Finds3 page os) {x z : Nat} (hx : x < 6) (hz : z < 6) :
    (List.range 6).any (midB cs page x z) = true ↔ ∃ r ∈ os, tI cs (x : Nat) < tI cs r ∧ os.idxOf (x : Int) < os.idxOf r ∧ os.idxOf r < os.idxOf (z : Int) := by
  refine hide fun hG9 => ?_
  obtain ⟨_, h06, hm⟩ := perm_facts ho
  refine hG9 ?_
  clear hG9
  rw [List.any_eq_true]
  constructor
  · intro hJ2_0
    refine hide fun hG9 => ?_
    obtain ⟨r, hr, h⟩ := hJ2_0
    refine hG9 ?_
    clear hG9
    have hr6 := List.mem_range.mp hr
    unfold midB at h
    rw [Bool.and_eq_true, decide_eq_true_eq] at h
    exact ⟨(r : Nat), hm r hr6, h.1, (hF _ _ _ (hm x hx) (hm r hr6) (hm z hz)).mp h.2⟩
  · intro hJ3_0
    refine hide fun hG9 => ?_
    obtain ⟨r, hr, h1, h2⟩ := hJ3_0
    refine hG9 ?_
    clear hG9
    obtain ⟨h0, h6⟩ := h06 r hr
    have e : ((r.toNat : Nat) : Int) = r := by omega
    refine ⟨r.toNat, List.mem_range.mpr (by omega), ?_⟩
    unfold midB
    rw [Bool.and_eq_true, decide_eq_true_eq, e]
    exact ⟨h1, (hF _ _ _ (hm x hx) hr (hm z hz)).mpr h2⟩
theorem kept_fall' {cs os : List Int} {page : Str} (ho : os.Perm os0) (hF : Finds3 page os) : keptL cs page 6 = fallL (pileI cs os) cs 6 := by
  refine hide fun hG9 => ?_
  obtain ⟨_, h06, hm⟩ := perm_facts ho
  refine hG9 ?_
  clear hG9
  unfold keptL fallL
  refine flatMap_ext fun x hx => ?_
  have hx6 := List.mem_range.mp hx
  unfold keptRow fallRow
  refine flatMap_ext fun z hz => ?_
  have hz6 := List.mem_range.mp hz
  have hc := fall_cond (cs := cs) (R := pileI cs os) hx6 hz6
  unfold keptCell fallCell
  rw [← Bool.decide_and]
  by_cases c : tI cs (z : Nat) < tI cs (x : Nat)
  · have h1 := mid_iff (cs := cs) ho hF hx6 hz6
    have h2 := fall_iff (cs := cs) ho (hm x hx6) (hm z hz6) c
    by_cases d : (pileI cs os).idxOf ((x : Nat) : Int) < (pileI cs os).idxOf ((z : Nat) : Int)
    · rw [if_pos (by rw [decide_eq_true c, h1.mpr (h2.mpr d)]; rfl), if_pos (decide_eq_true (hc.mpr ⟨c, d⟩))]
    · rw [if_neg (fun h => d (h2.mp (h1.mp ((Bool.and_eq_true_iff.mp h).2)))), if_neg (fun h => d (hc.mp (of_decide_eq_true h)).2)]
  · rw [if_neg (fun h => c (of_decide_eq_true (Bool.and_eq_true_iff.mp h).1)), if_neg (fun h => c (hc.mp (of_decide_eq_true h)).1)]
theorem fall_nil {cs R : List Int} : fallL R cs 6 = [] ↔ ∀ x z : Nat, x < 6 → z < 6 → ¬ (tI cs z < tI cs x ∧ R.idxOf (x : Int) < R.idxOf (z : Int)) := by
  unfold fallL fallRow
  constructor
  · intro h x z hx hz hc
    have h1 := List.flatMap_eq_nil_iff.mp h x (List.mem_range.mpr hx)
    have h2 := List.flatMap_eq_nil_iff.mp h1 z (List.mem_range.mpr hz)
    unfold fallCell at h2
    rw [← Bool.decide_and, if_pos (decide_eq_true ((fall_cond hx hz).mpr hc))] at h2
    cases h2
  · intro h
    refine List.flatMap_eq_nil_iff.mpr fun x hx => List.flatMap_eq_nil_iff.mpr fun z hz => ?_
    unfold fallCell
    rw [← Bool.decide_and, if_neg fun hc => h x z (List.mem_range.mp hx) (List.mem_range.mp hz) ((fall_cond (List.mem_range.mp hx) (List.mem_range.mp hz)).mp (of_decide_eq_true hc))]
theorem fall_ne {cs R : List Int} (hR : R.Perm os0) : fallL R cs 6 ≠ [] ↔ ∃ x ∈ R, ∃ z ∈ R, tI cs z < tI cs x ∧ R.idxOf x < R.idxOf z := by
  refine hide fun hG9 => ?_
  obtain ⟨_, h06, hm⟩ := perm_facts hR
  refine hG9 ?_
  clear hG9
  constructor
  · intro h
    refine Classical.byContradiction fun hn => h (fall_nil.mpr fun x z hx hz hc => hn ⟨x, hm x hx, z, hm z hz, hc⟩)
  · intro hJ6_0 h
    refine hide fun hG9 => ?_
    obtain ⟨x, hx, z, hz, hc⟩ := hJ6_0
    refine hG9 ?_
    clear hG9
    have hx' := h06 x hx
    have hz' := h06 z hz
    refine fall_nil.mp h x.toNat z.toNat (by omega) (by omega) ?_
    rw [show ((x.toNat : Nat) : Int) = x by omega, show ((z.toNat : Nat) : Int) = z by omega]
    exact hc
theorem far_mem {cs os : List Int} (ho : os.Perm os0) {y : Nat} {r : Int} : r ∈ farL cs y 6 ↔ r ∈ os ∧ tI cs (y : Nat) < tI cs r := by
  refine hide fun hG9 => ?_
  obtain ⟨_, h06, hm⟩ := perm_facts ho
  refine hG9 ?_
  clear hG9
  unfold farL
  rw [List.mem_map]
  constructor
  · intro hJ8_0
    refine hide fun hG9 => ?_
    obtain ⟨k, hk, rfl⟩ := hJ8_0
    refine hG9 ?_
    clear hG9
    rw [List.mem_filter, decide_eq_true_eq] at hk
    exact ⟨hm k (List.mem_range.mp hk.1), hk.2⟩
  · rintro ⟨hr, h⟩
    have hr' := h06 r hr
    refine ⟨r.toNat, List.mem_filter.mpr ⟨List.mem_range.mpr (by omega), ?_⟩, by omega⟩
    rw [decide_eq_true_eq, show ((r.toNat : Nat) : Int) = r by omega]
    exact h
theorem hard_iff {cs os : List Int} {page : Str} (ho : os.Perm os0) (h3 : Finds3 page os) (h4 : Finds4 page os) : hardB cs page = true ↔
    ∃ z ∈ os, ∃ x ∈ os, ∃ y ∈ os, ∃ r ∈ os, tI cs z < tI cs x ∧ tI cs x < tI cs y ∧ tI cs y < tI cs r ∧
      ((os.idxOf x < os.idxOf y ∧ os.idxOf y < os.idxOf r ∧ os.idxOf r < os.idxOf z) ∨
        ((os.idxOf y < os.idxOf x ∧ os.idxOf x < os.idxOf r ∧ os.idxOf r < os.idxOf z) ∧ ∀ s ∈ os, tI cs y < tI cs s → ¬ (os.idxOf y < os.idxOf s ∧ os.idxOf s < os.idxOf x))) := by
  refine hide fun hG9 => ?_
  obtain ⟨_, h06, hm⟩ := perm_facts ho
  refine hG9 ?_
  clear hG9
  have emp : ∀ x y : Nat, x < 6 → y < 6 → (((farL cs y 6).filter fun s => foundB page [(y : Nat), s, (x : Nat)]).isEmpty = true ↔ ∀ s ∈ os, tI cs (y : Nat) < tI cs s → ¬ (os.idxOf ((y : Nat) : Int) < os.idxOf s ∧ os.idxOf s < os.idxOf ((x : Nat) : Int))) := fun x y hx hy => by
    rw [List.isEmpty_iff, List.filter_eq_nil_iff]
    constructor
    · intro h s hs h1 h2
      exact h s ((far_mem ho).mpr ⟨hs, h1⟩) ((h3 _ _ _ (hm y hy) hs (hm x hx)).mpr h2)
    · intro h s hs hf
      obtain ⟨hs, h1⟩ := (far_mem ho).mp hs
      exact h s hs h1 ((h3 _ _ _ (hm y hy) hs (hm x hx)).mp hf)
  unfold hardB
  rw [List.any_eq_true]
  constructor
  · intro hJ10_0
    refine hide fun hG9 => ?_
    obtain ⟨z, hz, h⟩ := hJ10_0
    refine hG9 ?_
    clear hG9
    have hz6 := List.mem_range.mp hz
    refine hide fun hG9 => ?_
    obtain ⟨x, hx, h⟩ := List.any_eq_true.mp h
    refine hG9 ?_
    clear hG9
    have hx6 := List.mem_range.mp hx
    unfold hardX at h
    rw [Bool.and_eq_true, decide_eq_true_eq] at h
    obtain ⟨c1, h⟩ := h
    refine hide fun hG9 => ?_
    obtain ⟨y, hy, h⟩ := List.any_eq_true.mp h
    refine hG9 ?_
    clear hG9
    have hy6 := List.mem_range.mp hy
    unfold hardY at h
    rw [Bool.and_eq_true, decide_eq_true_eq] at h
    obtain ⟨c2, h⟩ := h
    refine hide fun hG9 => ?_
    obtain ⟨r, hr, h⟩ := List.any_eq_true.mp h
    refine hG9 ?_
    clear hG9
    obtain ⟨hr, c3⟩ := (far_mem ho).mp hr
    unfold hardR at h
    rw [Bool.or_eq_true, Bool.and_eq_true] at h
    refine ⟨z, hm z hz6, x, hm x hx6, y, hm y hy6, r, hr, c1, c2, c3, ?_⟩
    rcases h with h | ⟨h, he⟩
    · exact .inl ((h4 _ _ _ _ (hm x hx6) (hm y hy6) hr (hm z hz6)).mp h)
    · exact .inr ⟨(h4 _ _ _ _ (hm y hy6) (hm x hx6) hr (hm z hz6)).mp h, (emp x y hx6 hy6).mp he⟩
  · intro hJ14_0
    refine hide fun hG9 => ?_
    obtain ⟨z, hz, x, hx, y, hy, r, hr, c1, c2, c3, h⟩ := hJ14_0
    refine hG9 ?_
    clear hG9
    have hz' := h06 z hz
    have hx' := h06 x hx
    have hy' := h06 y hy
    obtain ⟨z, rfl⟩ := Int.eq_ofNat_of_zero_le hz'.1
    obtain ⟨x, rfl⟩ := Int.eq_ofNat_of_zero_le hx'.1
    obtain ⟨y, rfl⟩ := Int.eq_ofNat_of_zero_le hy'.1
    refine ⟨z, List.mem_range.mpr (by omega), List.any_eq_true.mpr ⟨x, List.mem_range.mpr (by omega), ?_⟩⟩
    unfold hardX
    rw [Bool.and_eq_true, decide_eq_true_eq]
    refine ⟨c1, List.any_eq_true.mpr ⟨y, List.mem_range.mpr (by omega), ?_⟩⟩
    unfold hardY
    rw [Bool.and_eq_true, decide_eq_true_eq]
    refine ⟨c2, List.any_eq_true.mpr ⟨r, (far_mem ho).mpr ⟨hr, c3⟩, ?_⟩⟩
    unfold hardR
    rw [Bool.or_eq_true, Bool.and_eq_true]
    rcases h with h | ⟨h, he⟩
    · exact .inl ((h4 _ _ _ _ hx hy hr hz).mpr h)
    · exact .inr ⟨(h4 _ _ _ _ hy hx hr hz).mpr h, (emp x y (by omega) (by omega)).mpr he⟩
theorem hard_two {cs os : List Int} {page : Str} (ho : os.Perm os0) (h3 : Finds3 page os) (h4 : Finds4 page os) : hardB cs page = true ↔ fallL (pileI cs (pileI cs os)) cs 6 ≠ [] := by
  have hn := os_nodup ho
  have ho1 : (pileI cs os).Perm os0 := (pile_perm cs os).trans ho
  have ho2 : (pileI cs (pileI cs os)).Perm os0 := (pile_perm cs _).trans ho1
  have m1 : ∀ k, k ∈ pileI cs os ↔ k ∈ os := fun k => (pile_perm cs os).mem_iff
  have m2 : ∀ k, k ∈ pileI cs (pileI cs os) ↔ k ∈ pileI cs os := fun k => (pile_perm cs _).mem_iff
  rw [hard_iff ho h3 h4, fall_ne ho2]
  constructor
  · intro hJ15_0
    refine hide fun hG9 => ?_
    obtain ⟨z, hz, x, hx, y, hy, r, hr, c1, c2, c3, h⟩ := hJ15_0
    refine hG9 ?_
    clear hG9
    refine ⟨x, (m2 x).mpr ((m1 x).mpr hx), z, (m2 z).mpr ((m1 z).mpr hz), c1, ?_⟩
    refine (fall_iff ho1 ((m1 x).mpr hx) ((m1 z).mpr hz) c1).mp ⟨y, (m1 y).mpr hy, c2, ?_, ?_⟩
    · rcases h with h | ⟨h, he⟩
      · exact (run_idx (f := fun k => tI cs k) hn hx hy (by omega)).1 ⟨y, hy, by omega, Nat.le_refl _, c2⟩
      · refine (run_idx (f := fun k => tI cs k) hn hy hx (by omega)).2 fun k hk k1 k2 => ?_
        by_cases hkx : k = x
        · subst hkx; exact Int.le_of_lt c2
        · have : os.idxOf k ≠ os.idxOf x := fun e => hkx (idx_inj hk e)
          exact Int.not_lt.mp fun hh => he k hk hh ⟨k1, by omega⟩
    · exact (fall_iff ho hy hz (Int.lt_trans c1 c2)).mp ⟨r, hr, c3, by omega, by omega⟩
  · intro hJ16_0
    refine hide fun hG9 => ?_
    obtain ⟨x, hx, z, hz, c1, h⟩ := hJ16_0
    refine hG9 ?_
    clear hG9
    rw [m2] at hx hz
    refine hide fun hG9 => ?_
    obtain ⟨y, hy, c2, h1, h2⟩ := (fall_iff ho1 hx hz c1).mpr h
    refine hG9 ?_
    clear hG9
    rw [m1] at hx hz hy
    refine hide fun hG9 => ?_
    obtain ⟨r, hr, c3, h5, h6⟩ := (fall_iff ho hy hz (Int.lt_trans c1 c2)).mpr h2
    refine hG9 ?_
    clear hG9
    refine ⟨z, hz, x, hx, y, hy, r, hr, c1, c2, c3, ?_⟩
    have hne : x ≠ y := by rintro rfl; omega
    rcases idx_tri hx hne with hp | hp
    · exact .inl ⟨hp, h5, h6⟩
    · have hno : ∀ k ∈ os, os.idxOf y < os.idxOf k → os.idxOf k ≤ os.idxOf x → ¬ tI cs y < tI cs k := fun k hk k1 k2 hh => by
        have := (run_idx (f := fun k => tI cs k) hn hy hx hp).1 ⟨k, hk, k1, k2, hh⟩
        unfold pileI at h1
        omega
      refine .inr ⟨⟨hp, ?_, h6⟩, fun s hs hh hc => hno s hs hc.1 (by omega) hh⟩
      exact Nat.not_le.mp fun hle => hno r hr h5 hle c3
theorem fall_stop {cs os : List Int} (ho : os.Perm os0) (h : fallL (pileI cs os) cs 6 = []) : fallL (pileI cs (pileI cs os)) cs 6 = [] := by
  have ho1 : (pileI cs os).Perm os0 := (pile_perm cs os).trans ho
  have ho2 : (pileI cs (pileI cs os)).Perm os0 := (pile_perm cs _).trans ho1
  have m2 : ∀ k, k ∈ pileI cs (pileI cs os) ↔ k ∈ pileI cs os := fun k => (pile_perm cs _).mem_iff
  refine Classical.byContradiction fun hne => ?_
  refine hide fun hG9 => ?_
  obtain ⟨x, hx, z, hz, c1, hq⟩ := (fall_ne ho2).mp hne
  refine hG9 ?_
  clear hG9
  rw [m2] at hx hz
  refine hide fun hG9 => ?_
  obtain ⟨y, hy, c2, h1, h2⟩ := (fall_iff ho1 hx hz c1).mpr hq
  refine hG9 ?_
  clear hG9
  exact (fall_ne ho1).mpr ⟨x, hx, z, hz, c1, by omega⟩ h
/-! ### the counting of places -/
noncomputable def aheadG (big : Nat → Nat → Bool) (n : Nat) : List Int := (List.range n).foldl (fun as j => (List.range j).foldl (fun as i => if big i j = true then bump as j else bump as i) as) [0, 0, 0, 0, 0, 0]
theorem foldl_ext' {α β : Type} {f g : α → β → α} : ∀ {l : List β} {a : α}, (∀ a, ∀ b ∈ l, f a b = g a b) → l.foldl f a = l.foldl g a
  | [], _, _ => rfl
  | b :: l, a, h => by
    rw [List.foldl_cons, List.foldl_cons, h a b (List.mem_cons_self ..)]
    exact foldl_ext' fun a c hc => h a c (List.mem_cons_of_mem _ hc)
theorem aheadG_ext {big big' : Nat → Nat → Bool} {n : Nat} (h : ∀ i j, i < j → j < n → big i j = big' i j) : aheadG big n = aheadG big' n := by
  unfold aheadG
  refine foldl_ext' fun a j hj => foldl_ext' fun a i hi => ?_
  rw [h i j (List.mem_range.mp hi) (List.mem_range.mp hj)]
noncomputable def bigS (S : List Nat) (i j : Nat) : Bool := decide (S.getD i 0 < S.getD j 0)
noncomputable def moreS (P : List (List Nat)) : List (List Nat) := P.flatMap fun l => ((List.range 6).filter fun k => !l.contains k).map fun k => l ++ [k]
noncomputable def permsS : Nat → List (List Nat)
  | 0 => [[]]
  | n + 1 => moreS (permsS n)
theorem perms_mem : ∀ (n : Nat) (S : List Nat), S.length = n → S.Nodup → (∀ k ∈ S, k < 6) → S ∈ permsS n
  | 0, S, h, _, _ => by rw [List.length_eq_zero_iff.mp h]; exact List.mem_singleton.mpr rfl
  | n + 1, S, h, hn, hk => by
    rcases List.eq_nil_or_concat S with rfl | ⟨T, k, rfl⟩
    · cases h
    · rw [List.concat_eq_append] at h hn hk ⊢
      rw [List.length_append, List.length_singleton] at h
      rw [List.nodup_append] at hn
      refine List.mem_flatMap.mpr ⟨T, perms_mem n T (by omega) hn.1 (fun j hj => hk j (List.mem_append_left _ hj)), List.mem_map.mpr ⟨k, List.mem_filter.mpr ⟨List.mem_range.mpr (hk k (List.mem_append_right _ (List.mem_singleton.mpr rfl))), ?_⟩, rfl⟩⟩
      have : k ∉ T := fun hkT => hn.2.2 k hkT k (List.mem_singleton.mpr rfl) rfl
      simpa using this
theorem ahead_all : ((permsS 6).all fun S => aheadG (bigS S) 6 == S.map fun k : Nat => (k : Int)) = true := by decide +kernel
theorem ahead_eq {S : List Nat} (h : S.length = 6) (hn : S.Nodup) (hk : ∀ k ∈ S, k < 6) : aheadG (bigS S) 6 = S.map fun k : Nat => (k : Int) :=
  eq_of_beq (List.all_eq_true.mp ahead_all S (perms_mem 6 S h hn hk))
theorem any_slice {os : List Int} (hn : os.Nodup) {i j : Nat} (hij : i < j) (hj : j < os.length) {P : Int → Bool} : ((os.drop (i + 1)).take (j - i)).any P = true ↔ ∃ k ∈ os, i < os.idxOf k ∧ os.idxOf k ≤ j ∧ P k = true := by
  rw [List.any_eq_true]
  constructor
  · intro hJ21_0
    refine hide fun hG9 => ?_
    obtain ⟨k, hk, hP⟩ := hJ21_0
    refine hG9 ?_
    clear hG9
    refine hide fun hG9 => ?_
    obtain ⟨n, hl, rfl⟩ := List.getElem_of_mem hk
    refine hG9 ?_
    clear hG9
    rw [List.length_take, List.length_drop] at hl
    rw [List.getElem_take, List.getElem_drop] at hP
    refine ⟨os[i + 1 + n], List.getElem_mem _, ?_, ?_, hP⟩
    · rw [hn.idxOf_getElem]; omega
    · rw [hn.idxOf_getElem]; omega
  · intro hJ23_0
    refine hide fun hG9 => ?_
    obtain ⟨k, hk, h1, h2, hP⟩ := hJ23_0
    refine hG9 ?_
    clear hG9
    have hl := List.idxOf_lt_length_iff.mpr hk
    refine ⟨k, ?_, hP⟩
    have e : ((os.drop (i + 1)).take (j - i))[os.idxOf k - (i + 1)]? = some k := by
      rw [List.getElem?_take_of_lt (by omega), List.getElem?_drop, show i + 1 + (os.idxOf k - (i + 1)) = os.idxOf k by omega, List.getElem?_eq_getElem hl, List.getElem_idxOf hl]
    exact List.mem_of_getElem? e
theorem getD_mem {os : List Int} {i : Nat} (h : i < os.length) : os.getD i 0 ∈ os := by
  rw [List.getD_eq_getElem?_getD, List.getElem?_eq_getElem h, Option.getD_some]; exact List.getElem_mem _
theorem getD_idx {os : List Int} (hn : os.Nodup) {i : Nat} (h : i < os.length) : os.idxOf (os.getD i 0) = i := by
  rw [List.getD_eq_getElem?_getD, List.getElem?_eq_getElem h, Option.getD_some, hn.idxOf_getElem]
theorem behind_eq' {cs os : List Int} (ho : os.Perm os0) : behindL cs os 6 = pileI cs os ∧ ∀ p : Nat, p < 6 → (p : Int) ∈ aheadJ cs os 6 := by
  refine hide fun hG9 => ?_
  obtain ⟨h6, h06, hm⟩ := perm_facts ho
  refine hG9 ?_
  clear hG9
  have hn := os_nodup ho
  have ho1 : (pileI cs os).Perm os0 := (pile_perm cs os).trans ho
  refine hide fun hG9 => ?_
  obtain ⟨k6, k06, km⟩ := perm_facts ho1
  refine hG9 ?_
  clear hG9
  have kn := os_nodup ho1
  have m1 : ∀ k, k ∈ pileI cs os ↔ k ∈ os := fun k => (pile_perm cs os).mem_iff
  have big : ∀ i j, i < j → j < 6 → bigB cs os i j = bigS (os.map fun k => (pileI cs os).idxOf k) i j := fun i j hij hj => by
    have gi := getD_mem (os := os) (i := i) (by omega)
    have gj := getD_mem (os := os) (i := j) (by omega)
    have ii := getD_idx hn (i := i) (by omega)
    have jj := getD_idx hn (i := j) (by omega)
    have hS : ∀ i, i < 6 → (os.map fun k => (pileI cs os).idxOf k).getD i 0 = (pileI cs os).idxOf (os.getD i 0) := fun i hi => by
      rw [List.getD_eq_getElem?_getD, List.getD_eq_getElem?_getD, List.getElem?_map, List.getElem?_eq_getElem (by omega)]; rfl
    have hr := run_idx (f := fun k => tI cs k) hn gi gj (by omega)
    rw [ii, jj] at hr
    unfold bigS
    rw [hS i (by omega), hS j hj]
    unfold bigB
    by_cases c : ((os.drop (i + 1)).take (j - i)).any (fun k => decide (cs.getD (os.getD i 0).toNat 0 < cs.getD k.toNat 0)) = true
    · rw [c]
      refine hide fun hG9 => ?_
      obtain ⟨k, hk, k1, k2, k3⟩ := (any_slice hn hij (by omega)).mp c
      refine hG9 ?_
      clear hG9
      exact (decide_eq_true (hr.1 ⟨k, hk, k1, k2, of_decide_eq_true k3⟩)).symm
    · rw [Bool.eq_false_iff.mpr c]
      refine (decide_eq_false ?_).symm
      have := hr.2 fun k hk k1 k2 => Int.not_lt.mp fun hh => c ((any_slice hn hij (by omega)).mpr ⟨k, hk, k1, k2, decide_eq_true hh⟩)
      show ¬ (run _ [] os).idxOf _ < (run _ [] os).idxOf _
      omega
  have hS6 : (os.map fun k => (pileI cs os).idxOf k).length = 6 := by rw [List.length_map]; exact h6
  have hSn : (os.map fun k => (pileI cs os).idxOf k).Nodup := by
    rw [List.nodup_iff_pairwise_ne, List.pairwise_map]
    exact List.Pairwise.imp_of_mem (fun {a b} ha hb hab e => hab (idx_inj ((m1 a).mpr ha) e)) hn
  have hSk : ∀ k ∈ (os.map fun k => (pileI cs os).idxOf k), k < 6 := fun k hk => by
    refine hide fun hG9 => ?_
    obtain ⟨a, ha, rfl⟩ := List.mem_map.mp hk
    refine hG9 ?_
    clear hG9
    have := List.idxOf_lt_length_iff.mpr ((m1 a).mpr ha)
    omega
  have hJ : aheadJ cs os 6 = (os.map fun k => (pileI cs os).idxOf k).map fun k : Nat => (k : Int) := by
    rw [← ahead_eq hS6 hSn hSk, ← aheadG_ext big]
    rfl
  have place : ∀ p : Nat, p < 6 → ∃ x ∈ os, (pileI cs os).idxOf x = p ∧ (pileI cs os)[p]? = some x := fun p hp => by
    have hx : (pileI cs os)[p]'(by omega) ∈ os := (m1 _).mp (List.getElem_mem _)
    exact ⟨_, hx, kn.idxOf_getElem _ _, List.getElem?_eq_getElem (by omega)⟩
  constructor
  · refine List.ext_getElem? fun p => ?_
    by_cases hp : p < 6
    · refine hide fun hG9 => ?_
      obtain ⟨x, hx, e1, e2⟩ := place p hp
      refine hG9 ?_
      clear hG9
      unfold behindL
      rw [List.getElem?_map, List.getElem?_range hp, e2]
      show some _ = _
      congr 1
      have e3 : (aheadJ cs os 6).idxOf ((p : Nat) : Int) = os.idxOf x := by
        rw [hJ, List.map_map]
        have hl := List.idxOf_lt_length_iff.mpr hx
        have hn2 : (os.map ((fun k : Nat => (k : Int)) ∘ fun k => (pileI cs os).idxOf k)).Nodup := by
          rw [List.nodup_iff_pairwise_ne, List.pairwise_map]
          refine List.Pairwise.imp_of_mem (fun {a b} ha hb hab e => hab (idx_inj ((m1 a).mpr ha) ?_)) hn
          exact Int.ofNat.inj e
        have := hn2.idxOf_getElem (os.idxOf x) (by rw [List.length_map]; exact hl)
        rw [List.getElem_map, List.getElem_idxOf hl] at this
        rw [← e1]
        exact this
      show os.getD ((aheadJ cs os 6).idxOf ((p : Nat) : Int)) 0 = x
      rw [e3, List.getD_eq_getElem?_getD, List.getElem?_eq_getElem (List.idxOf_lt_length_iff.mpr hx), Option.getD_some, List.getElem_idxOf]
    · rw [List.getElem?_eq_none (by unfold behindL; rw [List.length_map, List.length_range]; omega), List.getElem?_eq_none (by omega)]
  · intro p hp
    refine hide fun hG9 => ?_
    obtain ⟨x, hx, e1, _⟩ := place p hp
    refine hG9 ?_
    clear hG9
    rw [hJ]
    exact List.mem_map.mpr ⟨p, List.mem_map.mpr ⟨x, hx, e1⟩, rfl⟩

end
section
/-! ### the page as a list of signs -/
noncomputable def LeadsOk (css : List (List Nat)) : Prop := css.length = 6 ∧ ∀ k, k < 6 → LeadLike (css.getD k [])
noncomputable def LI (css : List (List Nat)) (k : Int) : List Nat := css.getD k.toNat [] ++ [97 + k.toNat, 10]
noncomputable def PC (css : List (List Nat)) (os : List Int) : List Nat := (os.map (LI css)).flatten
noncomputable def In6 (os : List Int) : Prop := ∀ k ∈ os, 0 ≤ k ∧ k < 6
section
variable {css : List (List Nat)}
theorem lead_small (h : LeadsOk css) {k : Int} (h0 : 0 ≤ k) (h6 : k < 6) : ∀ c ∈ css.getD k.toNat [], c < 97 ∧ c ≠ 10 := by
  refine hide fun hG9 => ?_
  obtain ⟨a, b, c, _, _, _, e⟩ := h.2 k.toNat (by omega)
  refine hG9 ?_
  clear hG9
  rw [e]
  intro x hx
  unfold leadCs at hx
  simp only [List.mem_append, List.mem_replicate] at hx
  rcases hx with (⟨_, rfl⟩ | ⟨_, rfl⟩) | ⟨_, rfl⟩ <;> decide
theorem letter_out (h : LeadsOk css) {k j : Int} (h0 : 0 ≤ k) (h6 : k < 6) (j0 : 0 ≤ j) (hne : j ≠ k) : 97 + j.toNat ∉ LI css k := by
  intro hm
  unfold LI at hm
  rcases List.mem_append.mp hm with hm | hm
  · have := (lead_small h h0 h6 _ hm).1; omega
  · simp only [List.mem_cons, List.not_mem_nil, or_false] at hm
    omega
theorem PC_cons (k : Int) (os : List Int) : PC css (k :: os) = LI css k ++ PC css os := rfl
theorem letter_outC (h : LeadsOk css) {j : Int} (j0 : 0 ≤ j) : ∀ {os : List Int}, In6 os → j ∉ os → 97 + j.toNat ∉ PC css os
  | [], _, _ => List.not_mem_nil
  | k :: os, h6, hj => by
    rw [PC_cons]
    intro hm
    rcases List.mem_append.mp hm with hm | hm
    · exact letter_out h (h6 k (List.mem_cons_self ..)).1 (h6 k (List.mem_cons_self ..)).2 j0 (fun e => hj (e ▸ List.mem_cons_self ..)) hm
    · exact letter_outC h j0 (fun k hk => h6 k (List.mem_cons_of_mem _ hk)) (fun hk => hj (List.mem_cons_of_mem _ hk)) hm
theorem letter_at (h : LeadsOk css) {k : Int} (h0 : 0 ≤ k) (h6 : k < 6) (r : List Nat) : (LI css k ++ r).idxOf (97 + k.toNat) = (css.getD k.toNat []).length := by
  have hn : 97 + k.toNat ∉ css.getD k.toNat [] := fun hm => by have := (lead_small h h0 h6 _ hm).1; omega
  unfold LI
  rw [List.append_assoc, idx_out hn, List.cons_append, List.idxOf_cons_self, Nat.zero_add]
theorem LI_len (k : Int) : (LI css k).length = (css.getD k.toNat []).length + 2 := by unfold LI; rw [List.length_append]; rfl
/-- the letters stand in the page as the numbers stand in the order -/
theorem idx_mono (h : LeadsOk css) {a b : Int} : ∀ {os : List Int}, os.Nodup → In6 os → a ∈ os → b ∈ os → os.idxOf a < os.idxOf b → (PC css os).idxOf (97 + a.toNat) < (PC css os).idxOf (97 + b.toNat)
  | [], _, _, ha, _, _ => by cases ha
  | k :: os, hn, h6, ha, hb, hlt => by
    have hk := h6 k (List.mem_cons_self ..)
    have h6' : In6 os := fun k hk => h6 k (List.mem_cons_of_mem _ hk)
    rw [PC_cons]
    by_cases hbk : k = b
    · subst hbk
      rw [List.idxOf_cons_self] at hlt
      exact absurd hlt (Nat.not_lt_zero _)
    have hb' : b ∈ os := (List.mem_cons.mp hb).resolve_left fun e => hbk e.symm
    have b6 := h6' b hb'
    rw [idx_out (letter_out h hk.1 hk.2 b6.1 (fun e => hbk e.symm))]
    by_cases hak : k = a
    · subst hak
      rw [letter_at h hk.1 hk.2, LI_len]
      omega
    · have ha' : a ∈ os := (List.mem_cons.mp ha).resolve_left fun e => hak e.symm
      have a6 := h6' a ha'
      rw [idx_ne hak, idx_ne hbk] at hlt
      rw [idx_out (letter_out h hk.1 hk.2 a6.1 (fun e => hak e.symm))]
      have := idx_mono h (List.nodup_cons.mp hn).2 h6' ha' hb' (by omega)
      omega
theorem idx_iff (h : LeadsOk css) {a b : Int} {os : List Int} (hn : os.Nodup) (h6 : In6 os) (ha : a ∈ os) (hb : b ∈ os) : (PC css os).idxOf (97 + a.toNat) < (PC css os).idxOf (97 + b.toNat) ↔ os.idxOf a < os.idxOf b := by
  constructor
  · intro hlt
    by_cases hne : a = b
    · subst hne; omega
    · rcases idx_tri ha hne with hp | hp
      · exact hp
      · have := idx_mono h hn h6 hb ha hp; omega
  · exact idx_mono h hn h6 ha hb
theorem letter_once (h : LeadsOk css) {a : Int} : ∀ {os : List Int}, os.Nodup → In6 os → a ∈ os → ∀ i, (PC css os)[i]? = some (97 + a.toNat) → i = (PC css os).idxOf (97 + a.toNat)
  | [], _, _, ha, _, _ => by cases ha
  | k :: os, hn, h6, ha, i, hi => by
    have hk := h6 k (List.mem_cons_self ..)
    have h6' : In6 os := fun k hk => h6 k (List.mem_cons_of_mem _ hk)
    have a6 := h6 a ha
    rw [PC_cons] at hi ⊢
    by_cases hak : k = a
    · subst hak
      rw [letter_at h hk.1 hk.2]
      by_cases hl : i < (LI css k).length
      · rw [List.getElem?_append_left hl] at hi
        rw [LI_len] at hl
        unfold LI at hi
        by_cases hl2 : i < (css.getD k.toNat []).length
        · rw [List.getElem?_append_left hl2] at hi
          have := (lead_small h hk.1 hk.2 _ (List.mem_of_getElem? hi)).1
          omega
        · rw [List.getElem?_append_right (by omega)] at hi
          have : i - (css.getD k.toNat []).length = 0 ∨ i - (css.getD k.toNat []).length = 1 := by omega
          rcases this with e | e
          · omega
          · rw [e] at hi
            have : 10 = 97 + k.toNat := Option.some.inj hi
            omega
      · rw [List.getElem?_append_right (by omega)] at hi
        exact absurd (List.mem_of_getElem? hi) (letter_outC h hk.1 h6' (List.nodup_cons.mp hn).1)
    · have ha' : a ∈ os := (List.mem_cons.mp ha).resolve_left fun e => hak e.symm
      have hout := letter_out h hk.1 hk.2 a6.1 (fun e => hak e.symm)
      rw [idx_out hout]
      by_cases hl : i < (LI css k).length
      · rw [List.getElem?_append_left hl] at hi
        exact absurd (List.mem_of_getElem? hi) hout
      · rw [List.getElem?_append_right (by omega)] at hi
        have := letter_once h (List.nodup_cons.mp hn).2 h6' ha' _ hi
        omega
theorem letter_in {a : Int} : ∀ {os : List Int}, a ∈ os → 97 + a.toNat ∈ PC css os
  | k :: os, ha => by
    rw [PC_cons]
    rcases List.mem_cons.mp ha with rfl | ha
    · exact List.mem_append_left _ (by unfold LI; exact List.mem_append_right _ (List.mem_cons_self ..))
    · exact List.mem_append_right _ (letter_in ha)
end
/-! ### the finding -/
section
open StrLaws Builtin.Str
theorem occ_to (x y : Str) (lo hi : Nat) {k : Nat} (hk : lo ≤ k) (hit : At x y hi k) (no : ∀ i, lo ≤ i → i < k → ¬ At x y hi i) : ∃ r, occurrences x y lo hi 1 = k :: r := by
  rw [occ_eq]
  have hkm : k ∈ List.range' lo (hi + 1 - lo) := by have := hit.1; rw [List.mem_range'_1]; omega
  rcases occ_first x y hi 1 (Nat.le_refl _) (List.range' lo (hi + 1 - lo)) lo (fun i hi => by have := List.mem_range'_1.mp hi; omega) with ⟨_, hn⟩ | ⟨pre, a, post, e, h0, ha, hn⟩
  · exact absurd hit (hn k hkm)
  · have hpw : (List.range' lo (hi + 1 - lo)).Pairwise (· < ·) := List.pairwise_lt_range'
    have ham : a ∈ List.range' lo (hi + 1 - lo) := by rw [e]; exact List.mem_append_right _ (List.mem_cons_self ..)
    have hak : a = k := by
      rw [e] at hkm hpw
      rcases List.mem_append.mp hkm with hp | hp
      · exact absurd hit (hn k hp)
      · rcases List.mem_cons.mp hp with rfl | hp
        · rfl
        · have hlt := List.rel_of_pairwise_cons (List.pairwise_append.mp hpw).2.1 hp
          exact absurd ha (no a (List.mem_range'_1.mp ham).1 hlt)
    subst hak
    generalize (forIn (List.range' lo (hi + 1 - lo)) ((#[] : Array Nat), lo) (occBody x y hi 1)).run.fst = arr at h0
    cases hL : arr.toList with
    | nil => rw [← Array.getElem?_toList, hL] at h0; cases h0
    | cons b t => rw [← Array.getElem?_toList, hL] at h0; exact ⟨t, by rw [← Option.some.inj h0]⟩
theorem occ_nil (x y : Str) (lo hi : Nat) (no : ∀ i, lo ≤ i → ¬ At x y hi i) : occurrences x y lo hi 1 = [] := by
  rw [occ_eq]
  rcases occ_first x y hi 1 (Nat.le_refl _) (List.range' lo (hi + 1 - lo)) lo (fun i hi => by have := List.mem_range'_1.mp hi; omega) with ⟨h0, _⟩ | ⟨pre, a, post, e, _, ha, _⟩
  · rw [h0]
  · have ham : a ∈ List.range' lo (hi + 1 - lo) := by rw [e]; exact List.mem_append_right _ (List.mem_cons_self ..)
    exact absurd ha (no a (List.mem_range'_1.mp ham).1)
theorem from_nat (n : Nat) (i : Nat) : PySem.fromIndex n (i : Int) = i := by
  unfold PySem.fromIndex
  rw [if_neg (by omega)]
  omega
theorem find_hit (x y : Str) {p e k : Nat} (he : e ≤ x.length) (hk : p ≤ k) (hit : At x y e k) (no : ∀ i, p ≤ i → i < k → ¬ At x y e i) : find4 x y (p : Int) (e : Int) = (k : Int) := by
  unfold find4
  rw [from_nat, from_nat, Nat.min_eq_left he]
  obtain ⟨r, hr⟩ := occ_to x y p e hk hit no
  rw [hr]
theorem find_no (x y : Str) {p e : Nat} (he : e ≤ x.length) (no : ∀ i, p ≤ i → ¬ At x y e i) : find4 x y (p : Int) (e : Int) = -1 := by
  unfold find4
  rw [from_nat, from_nat, Nat.min_eq_left he, occ_nil x y p e no]
theorem at_list (x y : Str) (hi i : Nat) : At x y hi i ↔ i + y.cps.toList.length ≤ hi ∧ (x.cps.toList.drop i).take y.cps.toList.length = y.cps.toList := by
  unfold At
  rw [subAt_eq, ← str_len y]
  exact and_congr Iff.rfl ⟨fun h => eq_of_beq h, fun h => by rw [h]; exact beq_self_eq_true _⟩
theorem take1 {C : List Nat} {i c : Nat} : (C.drop i).take 1 = [c] ↔ C[i]? = some c := by
  rw [← List.head?_drop]
  cases C.drop i with
  | nil => simp
  | cons a r => simp
theorem at_letter (x : Str) (k : Int) (hi i : Nat) : At x (letter k) hi i ↔ i + 1 ≤ hi ∧ x.cps.toList[i]? = some (97 + k.toNat) := by
  rw [at_list, letter_cps]
  exact and_congr Iff.rfl take1
end
theorem find_empty (x : Str) {p e : Nat} (he : e ≤ x.length) (hp : p ≤ e) : find4 x (Str.ofString "") (p : Int) (e : Int) = (p : Int) := by
  refine find_hit x _ he (Nat.le_refl _) ((at_list ..).mpr ?_) fun i h1 h2 => absurd h2 (by omega)
  rw [empty_cps]
  exact ⟨hp, by rw [List.length_nil, List.take_zero]⟩
section
variable {css : List (List Nat)} {os : List Int} {page : Str}
theorem find_letter (h : LeadsOk css) (hn : os.Nodup) (h6 : In6 os) (hp : page.cps.toList = PC css os) {k : Int} (hk : k ∈ os) (p : Nat) :
    find4 page (letter k) (p : Int) (page.length : Int) = if p ≤ (PC css os).idxOf (97 + k.toNat) then (((PC css os).idxOf (97 + k.toNat) : Nat) : Int) else -1 := by
  have hl := List.idxOf_lt_length_iff.mpr (letter_in (css := css) hk)
  have hlen : page.length = (PC css os).length := by rw [← str_len, hp]
  have once := fun i (hi : StrLaws.At page (letter k) page.length i) => by
    have h2 := ((at_letter ..).mp hi).2
    rw [hp] at h2
    exact letter_once h hn h6 hk i h2
  split
  · next hpos =>
    refine find_hit page _ (Nat.le_refl _) hpos ((at_letter ..).mpr ⟨by omega, ?_⟩) fun i _ h2 hi => absurd (once i hi) (by omega)
    rw [hp, List.getElem?_eq_getElem hl, List.getElem_idxOf]
  · next hpos => exact find_no page _ (Nat.le_refl _) fun i hi hat => hpos (by rw [← once i hat]; exact hi)
theorem fl_start (ws : List Str) : fl page page.length (Str.ofString "" :: ws) 0 = fl page page.length ws 0 := by
  have e := find_empty page (p := 0) (Nat.le_refl page.length) (Nat.zero_le _)
  show (if find4 page (Str.ofString "") 0 page.length < 0 then false else fl page page.length ws (find4 page (Str.ofString "") 0 page.length + (Str.ofString "").length)) = _
  rw [show ((0 : Int)) = ((0 : Nat) : Int) from rfl, e, if_neg (by omega), show (Str.ofString "").length = 0 by decide +kernel]
  rfl
theorem fl_end {p : Nat} (hp : p ≤ page.length) : fl page page.length [Str.ofString ""] (p : Int) = true := by
  show (if find4 page (Str.ofString "") p page.length < 0 then false else true) = true
  rw [find_empty page (Nat.le_refl _) hp, if_neg (by omega)]
theorem fl_letter (h : LeadsOk css) (hn : os.Nodup) (h6 : In6 os) (hp : page.cps.toList = PC css os) {k : Int} (hk : k ∈ os) (ws : List Str) (p : Nat) :
    fl page page.length (letter k :: ws) (p : Int) = if p ≤ (PC css os).idxOf (97 + k.toNat) then fl page page.length ws (((PC css os).idxOf (97 + k.toNat) + 1 : Nat) : Int) else false := by
  show (if find4 page (letter k) p page.length < 0 then false else fl page page.length ws (find4 page (letter k) p page.length + (letter k).length)) = _
  rw [find_letter h hn h6 hp hk p]
  by_cases c : p ≤ (PC css os).idxOf (97 + k.toNat)
  · rw [if_pos c, if_pos c, if_neg (by omega)]; rfl
  · rw [if_neg c, if_neg c, if_pos (by decide)]
theorem finds3 (h : LeadsOk css) (hn : os.Nodup) (h6 : In6 os) (hp : page.cps.toList = PC css os) : Finds3 page os := by
  intro x r z hx hr hz
  have hlen : page.length = (PC css os).length := by rw [← str_len, hp]
  have hl := List.idxOf_lt_length_iff.mpr (letter_in (css := css) hz)
  rw [← idx_iff h hn h6 hx hr, ← idx_iff h hn h6 hr hz]
  show fl page page.length [Str.ofString "", letter x, letter r, letter z, Str.ofString ""] 0 = true ↔ _
  rw [fl_start, show ((0 : Int)) = ((0 : Nat) : Int) from rfl, fl_letter h hn h6 hp hx, fl_letter h hn h6 hp hr, fl_letter h hn h6 hp hz, fl_end (by omega), if_pos (Nat.zero_le _)]
  constructor
  · intro e
    split at e
    · split at e
      · omega
      · cases e
    · cases e
  · rintro ⟨h1, h2⟩
    rw [if_pos (by omega), if_pos (by omega)]
theorem finds4 (h : LeadsOk css) (hn : os.Nodup) (h6 : In6 os) (hp : page.cps.toList = PC css os) : Finds4 page os := by
  intro x y r z hx hy hr hz
  have hlen : page.length = (PC css os).length := by rw [← str_len, hp]
  have hl := List.idxOf_lt_length_iff.mpr (letter_in (css := css) hz)
  rw [← idx_iff h hn h6 hx hy, ← idx_iff h hn h6 hy hr, ← idx_iff h hn h6 hr hz]
  show fl page page.length [Str.ofString "", letter x, letter y, letter r, letter z, Str.ofString ""] 0 = true ↔ _
  rw [fl_start, show ((0 : Int)) = ((0 : Nat) : Int) from rfl, fl_letter h hn h6 hp hx, fl_letter h hn h6 hp hy, fl_letter h hn h6 hp hr, fl_letter h hn h6 hp hz, fl_end (by omega), if_pos (Nat.zero_le _)]
  constructor
  · intro e
    split at e
    · split at e
      · split at e
        · omega
        · cases e
      · cases e
    · cases e
  · intro hJ1_0
    refine hide fun hG9 => ?_
    obtain ⟨h1, h2, h3⟩ := hJ1_0
    refine hG9 ?_
    clear hG9
    rw [if_pos (by omega), if_pos (by omega), if_pos (by omega)]
end

end
section
/-! ### the ends, in plain Lean -/
noncomputable def lineS (css : List (List Nat)) (k : Nat) : Str := Str.mk (css.getD k [] ++ [97 + k, 10]).toArray
noncomputable def linesL (css : List (List Nat)) (n : Nat) : List Str := (List.range n).map (lineS css)
section
variable {css : List (List Nat)}
theorem ln_cps {k : Int} (h0 : 0 ≤ k) (h6 : k < 6) : (lnAt (linesL css 6) k).cps.toList = LI css k := by
  unfold lnAt linesL
  rw [List.getD_eq_getElem?_getD, List.getElem?_map, List.getElem?_range (by omega)]; rfl
theorem rest_cps {os : List Int} (h6 : In6 os) : (restOf (linesL css 6) os).cps.toList = PC css os := by
  unfold restOf PC
  rw [cat_cps, List.map_map]
  congr 1
  exact List.map_congr_left fun k hk => ln_cps (h6 k hk).1 (h6 k hk).2
theorem nl_cps : (Str.ofString "\n").cps.toList = [10] := by decide +kernel
theorem line_ok (h : LeadsOk css) : ∀ k : Nat, k < 6 → LineOk (lnAt (linesL css 6) k) := fun k hk => by
  have e : (lnAt (linesL css 6) k).cps.toList = LI css k := ln_cps (by omega) (by omega)
  have hll : (LI css (k : Nat)).length = (css.getD k []).length + 2 := by rw [LI_len, Int.toNat_natCast]
  have hl : (lnAt (linesL css 6) k).length = (css.getD k []).length + 2 := by rw [← str_len, e, hll]
  have hlead : (css.getD k []).length ≤ 6 := by
    refine hide fun hG9 => ?_
    obtain ⟨a, b, c, _, _, _, e⟩ := h.2 k hk
    refine hG9 ?_
    clear hG9
    rw [e]; unfold leadCs; simp only [List.length_append, List.length_replicate]; omega
  have hdot : 46 ∉ (lnAt (linesL css 6) k).cps.toList := by
    rw [e]
    unfold LI
    intro hm
    rw [Int.toNat_natCast] at hm
    rcases List.mem_append.mp hm with hm | hm
    · refine hide fun hG9 => ?_
      obtain ⟨a, b, c, _, _, _, e⟩ := h.2 k hk
      refine hG9 ?_
      clear hG9
      rw [e] at hm
      unfold leadCs at hm
      simp at hm
    · simp only [List.mem_cons, List.not_mem_nil, or_false] at hm; omega
  have e2 : (Str.ofString "...\n").cps.toList = dots ++ [10] := by decide +kernel
  have hs := split_gl (lnAt (linesL css 6) k ++ Str.ofString "...\n") (lnAt (linesL css 6) k) (Str.ofString "\n") [] (by
    intro u hu
    simp only [List.mem_cons, List.not_mem_nil, or_false] at hu
    rcases hu with rfl | rfl
    · exact hdot
    · rw [nl_cps]; decide) (by
    simp only [Str.cps_append, Array.toList_append, e2, List.map_cons, List.map_nil, gl, nl_cps]
    simp)
  exact ⟨by omega, by omega, hs.2, hs.1⟩
theorem PC_last {os : List Int} (hne : os ≠ []) : ∃ X, PC css os = X ++ [10] := by
  induction os with
  | nil => exact absurd rfl hne
  | cons k t ih =>
    rw [PC_cons]
    by_cases ht : t = []
    · subst ht
      refine ⟨css.getD k.toNat [] ++ [97 + k.toNat], ?_⟩
      show LI css k ++ [] = _
      unfold LI
      simp
    · obtain ⟨X, hX⟩ := ih ht
      exact ⟨LI css k ++ X, by rw [hX, List.append_assoc]⟩
theorem ends_nl {P : Str} {os : List Int} (hp : P.cps.toList = PC css os) (hne : os ≠ []) : Txt.endswith P (Str.ofString "\n") = true := by
  obtain ⟨X, hX⟩ := PC_last (css := css) hne
  have hl : P.length = X.length + 1 := by rw [← str_len, hp, hX, List.length_append]; rfl
  have h1 : (Str.ofString "\n").length = 1 := by decide +kernel
  unfold Txt.endswith
  rw [StrLaws.subAt_eq, hp, hX, hl, h1, nl_cps, decide_eq_true (by omega), Nat.add_sub_cancel, List.drop_left]
  rfl
theorem starts_iff (x y : Str) : Txt.startswith x y = true ↔ y.cps.toList.length ≤ x.cps.toList.length ∧ x.cps.toList.take y.cps.toList.length = y.cps.toList := by
  unfold Txt.startswith
  rw [Bool.and_eq_true, decide_eq_true_eq, StrLaws.subAt_eq, Nat.zero_add, List.drop_zero, ← str_len x, ← str_len y, beq_iff_eq]
theorem starts_other (h : LeadsOk css) {a k : Int} {t : List Int} (hn : (a :: t).Nodup) (h6 : In6 (a :: t)) (hk : k ∈ t) : ¬ (PC css (a :: t)).take (LI css k).length = LI css k := by
  intro e
  have ka : k ≠ a := fun e => (List.nodup_cons.mp hn).1 (e ▸ hk)
  have a6 := h6 a (List.mem_cons_self ..)
  have k6 := h6 k (List.mem_cons_of_mem _ hk)
  have g : (PC css (a :: t))[(css.getD k.toNat []).length]? = some (97 + k.toNat) := by
    have e1 : ((PC css (a :: t)).take (LI css k).length)[(css.getD k.toNat []).length]? = some (97 + k.toNat) := by
      rw [e]; unfold LI; rw [List.getElem?_append_right (Nat.le_refl _), Nat.sub_self]; rfl
    rwa [List.getElem?_take_of_lt (by rw [LI_len]; omega)] at e1
  have p1 := letter_once h hn h6 (List.mem_cons_of_mem _ hk) _ g
  rw [PC_cons, idx_out (letter_out h a6.1 a6.2 k6.1 ka), LI_len] at p1
  have g2 : (PC css (a :: t))[(css.getD a.toNat []).length]? = some (97 + a.toNat) := by
    rw [PC_cons]
    unfold LI
    rw [List.append_assoc, List.getElem?_append_right (Nat.le_refl _), Nat.sub_self]; rfl
  have g3 : ((PC css (a :: t)).take (LI css k).length)[(css.getD a.toNat []).length]? = some (97 + a.toNat) := by
    rw [List.getElem?_take_of_lt (by rw [LI_len]; omega)]; exact g2
  rw [e] at g3
  unfold LI at g3
  rw [List.getElem?_append_left (by omega)] at g3
  have := (lead_small h k6.1 k6.2 _ (List.mem_of_getElem? g3)).1
  omega
theorem end_row (h : LeadsOk css) {a : Int} {t : List Int} (hn : (a :: t).Nodup) (h6 : In6 (a :: t)) : endRow (linesL css 6) (a :: t) = if t = [] then [] else [a] := by
  have hr := rest_cps (css := css) h6
  have a6 := h6 a (List.mem_cons_self ..)
  have ht : t.filter (fun k => bB (restOf (linesL css 6) (a :: t)) (lnAt (linesL css 6) k)) = [] := by
    rw [List.filter_eq_nil_iff]
    intro k hk hb
    have k6 := h6 k (List.mem_cons_of_mem _ hk)
    unfold bB at hb
    have hs := (starts_iff ..).mp (Bool.and_eq_true_iff.mp hb).1
    rw [ln_cps k6.1 k6.2, hr] at hs
    exact starts_other h hn h6 hk hs.2
  have ha : bB (restOf (linesL css 6) (a :: t)) (lnAt (linesL css 6) a) = !decide (t = []) := by
    unfold bB
    have hs : Txt.startswith (restOf (linesL css 6) (a :: t)) (lnAt (linesL css 6) a) = true := by
      rw [starts_iff, ln_cps a6.1 a6.2, hr, PC_cons]
      exact ⟨by rw [List.length_append]; omega, List.take_left⟩
    rw [hs, ends_nl hr (by simp), Bool.true_and, Bool.true_and, ← str_len, ← str_len, ln_cps a6.1 a6.2, hr, PC_cons, List.length_append]
    by_cases hte : t = []
    · subst hte
      rw [show PC css [] = [] from rfl, List.length_nil, decide_eq_false (by omega)]; rfl
    · obtain ⟨X, hX⟩ := PC_last (css := css) hte
      rw [hX, List.length_append, List.length_singleton, decide_eq_true (by omega), decide_eq_false hte]; rfl
  unfold endRow
  by_cases hte : t = []
  · rw [if_pos hte, List.filter_cons_of_neg (by rw [ha, decide_eq_true hte]; decide), ht]
  · rw [if_neg hte, List.filter_cons_of_pos (by rw [ha, decide_eq_false hte]; rfl), ht]
theorem at_nl (x : Str) (hi i : Nat) : StrLaws.At x (Str.ofString "\n") hi i ↔ i + 1 ≤ hi ∧ x.cps.toList[i]? = some 10 := by
  rw [at_list, nl_cps]
  exact and_congr Iff.rfl take1
theorem last_cell (h : LeadsOk css) {u v : List Int} {k : Int} (hn : (u ++ k :: v).Nodup) (h6 : In6 (u ++ k :: v)) : cB (restOf (linesL css 6) (u ++ k :: v)) k = decide (2 ≤ v.length) := by
  have hr := rest_cps (css := css) h6
  have hk : k ∈ u ++ k :: v := List.mem_append_right _ (List.mem_cons_self ..)
  have k6 := h6 k hk
  generalize hPg : restOf (linesL css 6) (u ++ k :: v) = P at *
  have hC : PC css (u ++ k :: v) = (PC css u ++ css.getD k.toNat []) ++ ((97 + k.toNat) :: 10 :: PC css v) := by
    unfold PC
    rw [List.map_append, List.flatten_append, List.map_cons, List.flatten_cons]
    show _ ++ (LI css k ++ _) = _
    unfold LI
    simp
  have hku : k ∉ u := fun hm => by
    rw [List.nodup_append] at hn
    exact hn.2.2 k hm k (List.mem_cons_self ..) rfl
  have hpos : (PC css (u ++ k :: v)).idxOf (97 + k.toNat) = (PC css u ++ css.getD k.toNat []).length := by
    have hnm : 97 + k.toNat ∉ PC css u ++ css.getD k.toNat [] := fun hm => by
      rcases List.mem_append.mp hm with hm | hm
      · exact letter_outC h k6.1 (fun j hj => h6 j (List.mem_append_left _ hj)) hku hm
      · have := (lead_small h k6.1 k6.2 _ hm).1; omega
    rw [hC, idx_out hnm, List.idxOf_cons_self, Nat.zero_add]
  have once := letter_once h hn h6 hk
  rw [hpos] at once
  have hlen : P.length = (PC css u ++ css.getD k.toNat []).length + 2 + (PC css v).length := by
    rw [← str_len, hr, hC, List.length_append]
    simp only [List.length_cons]; omega
  generalize hX : PC css u ++ css.getD k.toNat [] = X at *
  have hdrop : ∀ n, (PC css (u ++ k :: v))[X.length + n]? = ((97 + k.toNat) :: 10 :: PC css v)[n]? := fun n => by
    rw [hC, List.getElem?_append_right (by omega), Nat.add_sub_cancel_left]
  have c1 : (letter k ++ Str.ofString "\n").cps.toList = [97 + k.toNat, 10] := by rw [Str.cps_append, Array.toList_append, letter_cps, nl_cps]; rfl
  have at2 : ∀ e i, StrLaws.At P (letter k ++ Str.ofString "\n") e i ↔ i + 2 ≤ e ∧ (P.cps.toList.drop i).take 2 = [97 + k.toNat, 10] := fun e i => by rw [at_list, c1]; rfl
  have at2i : ∀ e i, StrLaws.At P (letter k ++ Str.ofString "\n") e i → i = X.length ∧ i + 2 ≤ e := fun e i hi => by
    obtain ⟨h1, h2⟩ := (at2 e i).mp hi
    refine ⟨once i ?_, h1⟩
    rw [← hr]
    have := congrArg (fun l => l[0]?) h2
    simpa [List.getElem?_take, List.getElem?_drop] using this
  unfold cB
  rw [ends_nl hr (by simp), decide_eq_true (by omega), Bool.true_and, Bool.true_and]
  have hE : ((P.length : Nat) : Int) - 1 = ((X.length + 1 + (PC css v).length : Nat) : Int) := by omega
  rw [hE]
  have hEl : X.length + 1 + (PC css v).length ≤ P.length := by omega
  show (if find4 P (Str.ofString "") 0 _ < 0 then false else fl P _ [letter k ++ Str.ofString "\n", Str.ofString "\n"] (find4 P (Str.ofString "") 0 _ + (Str.ofString "").length)) = _
  rw [show ((0 : Int)) = ((0 : Nat) : Int) from rfl, find_empty P hEl (Nat.zero_le _), if_neg (by omega), show (Str.ofString "").length = 0 by decide +kernel]
  show (if find4 P (letter k ++ Str.ofString "\n") ((0 : Nat) : Int) _ < 0 then false else (if find4 P (Str.ofString "\n") (find4 P (letter k ++ Str.ofString "\n") ((0 : Nat) : Int) _ + (letter k ++ Str.ofString "\n").length) _ < 0 then false else true)) = _
  by_cases hv : v = []
  · subst hv
    rw [find_no P _ hEl (fun i _ hi => by
      obtain ⟨h1, h2⟩ := at2i _ i hi
      rw [show PC css [] = [] from rfl, List.length_nil] at h2
      omega), if_pos (by decide)]
    rfl
  · obtain ⟨Z, hZ⟩ := PC_last (css := css) hv
    have hZl : (PC css v).length = Z.length + 1 := by rw [hZ, List.length_append]; rfl
    rw [find_hit P _ hEl (k := X.length) (Nat.zero_le _) ((at2 _ _).mpr ⟨by omega, by rw [hr, hC, List.drop_left]; rfl⟩) (fun i _ h2 hi => absurd (at2i _ i hi).1 (by omega)), if_neg (by omega),
      show (letter k ++ Str.ofString "\n").length = 2 by rw [← str_len, c1]; rfl, show ((X.length : Nat) : Int) + ((2 : Nat) : Int) = ((X.length + 2 : Nat) : Int) by omega]
    have atv : ∀ e n, StrLaws.At P (Str.ofString "\n") e (X.length + 2 + n) ↔ X.length + 2 + n + 1 ≤ e ∧ (PC css v)[n]? = some 10 := fun e n => by
      rw [at_nl, hr, show X.length + 2 + n = X.length + (n + 2) by omega, hdrop]; rfl
    cases v with
    | nil => exact absurd rfl hv
    | cons j w =>
      have j6 := h6 j (List.mem_append_right _ (List.mem_cons_of_mem _ (List.mem_cons_self ..)))
      have hLj : (LI css j).length = (css.getD j.toNat []).length + 2 := LI_len j
      have early : ∀ n, n < (css.getD j.toNat []).length + 1 → (PC css (j :: w))[n]? ≠ some 10 := fun n hn hs => by
        rw [PC_cons, List.getElem?_append_left (by omega)] at hs
        unfold LI at hs
        by_cases hnl : n < (css.getD j.toNat []).length
        · rw [List.getElem?_append_left hnl] at hs
          exact (lead_small h j6.1 j6.2 _ (List.mem_of_getElem? hs)).2 rfl
        · rw [List.getElem?_append_right (by omega), show n - (css.getD j.toNat []).length = 0 by omega] at hs
          have : 97 + j.toNat = 10 := Option.some.inj hs
          omega
      cases w with
      | nil =>
        have hl1 : (PC css [j]).length = (css.getD j.toNat []).length + 2 := by show (LI css j ++ []).length = _; rw [List.append_nil, hLj]
        rw [find_no P _ hEl (fun i hi hat => by
          obtain ⟨n, rfl⟩ : ∃ n, i = X.length + 2 + n := ⟨i - (X.length + 2), by omega⟩
          obtain ⟨h1, h2⟩ := (atv _ n).mp hat
          exact early n (by omega) h2), if_pos (by decide)]
        rfl
      | cons j2 w =>
        have hl2 : (PC css (j :: j2 :: w)).length = (css.getD j.toNat []).length + 2 + ((css.getD j2.toNat []).length + 2 + (PC css w).length) := by
          rw [PC_cons, PC_cons, List.length_append, List.length_append, LI_len, LI_len]
        have hhit : (PC css (j :: j2 :: w))[(css.getD j.toNat []).length + 1]? = some 10 := by
          rw [PC_cons, List.getElem?_append_left (by omega)]
          unfold LI
          rw [List.getElem?_append_right (by omega), Nat.add_sub_cancel_left]; rfl
        rw [find_hit P _ hEl (k := X.length + 2 + ((css.getD j.toNat []).length + 1)) (by omega) ((atv _ _).mpr ⟨by omega, hhit⟩) (fun i hi hlt hat => by
          obtain ⟨n, rfl⟩ : ∃ n, i = X.length + 2 + n := ⟨i - (X.length + 2), by omega⟩
          exact early n (by omega) ((atv _ n).mp hat).2), if_neg (by omega)]
        rw [decide_eq_true (by simp only [List.length_cons]; omega)]
theorem ends_eq (h : LeadsOk css) (os : List Int) (ho : os.Perm os0) : endsUpto (linesL css 6) os 6 ++ [lastRow (linesL css 6) os] = (os.take 5).map (fun k => [k]) ++ [[], os.take 4] := by
  refine hide fun hG9 => ?_
  obtain ⟨h6, h06, _⟩ := perm_facts ho
  refine hG9 ?_
  clear hG9
  have hn := os_nodup ho
  match os, h6, h06, hn with
  | [a, b, c, d, e, f], _, h06, hn =>
    have row : ∀ u x t, [a, b, c, d, e, f] = u ++ x :: t → endRow (linesL css 6) (x :: t) = if t = [] then [] else [x] := fun u x t e => by
      rw [e] at hn h06
      rw [List.nodup_append] at hn
      exact end_row h hn.2.1 fun k hk => h06 k (List.mem_append_right _ hk)
    have cell : ∀ u x t, [a, b, c, d, e, f] = u ++ x :: t → cB (restOf (linesL css 6) [a, b, c, d, e, f]) x = decide (2 ≤ t.length) := fun u x t e => by
      rw [e] at hn h06 ⊢
      exact last_cell h hn h06
    have l1 : endsUpto (linesL css 6) [a, b, c, d, e, f] 6 = [[a], [b], [c], [d], [e], []] := by
      show [endRow _ [a, b, c, d, e, f], endRow _ [b, c, d, e, f], endRow _ [c, d, e, f], endRow _ [d, e, f], endRow _ [e, f], endRow _ [f]] = _
      rw [row [] a _ rfl, row [a] b _ rfl, row [a, b] c _ rfl, row [a, b, c] d _ rfl, row [a, b, c, d] e _ rfl, row [a, b, c, d, e] f _ rfl]
      simp
    have l2 : lastRow (linesL css 6) [a, b, c, d, e, f] = [a, b, c, d] := by
      unfold lastRow
      rw [List.filter_cons_of_pos (by rw [cell [] a _ rfl]; rfl), List.filter_cons_of_pos (by rw [cell [a] b _ rfl]; rfl), List.filter_cons_of_pos (by rw [cell [a, b] c _ rfl]; rfl), List.filter_cons_of_pos (by rw [cell [a, b, c] d _ rfl]; rfl),
        List.filter_cons_of_neg (by rw [cell [a, b, c, d] e _ rfl]; exact Bool.false_ne_true), List.filter_cons_of_neg (by rw [cell [a, b, c, d, e] f _ rfl]; exact Bool.false_ne_true)]
      rfl
    rw [l1, l2]
    rfl
end

end
section
/-! ### the plain law, put together -/
theorem kept_fall {css : List (List Nat)} (h : LeadsOk css) (cs : List Int) (os : List Int) (ho : os.Perm os0) : keptL cs (restOf (linesL css 6) os) 6 = fallL (pileI cs os) cs 6 :=
  kept_fall' ho (finds3 h (os_nodup ho) (perm_facts ho).2.1 (rest_cps (perm_facts ho).2.1))
theorem behind_eq (cs : List Int) (os : List Int) (ho : os.Perm os0) : behindL cs os 6 = pileI cs os ∧ ∀ p : Nat, p < 6 → (p : Int) ∈ aheadJ cs os 6 := behind_eq' ho
theorem hard_eq {css : List (List Nat)} (h : LeadsOk css) (cs : List Int) : hardB cs (restOf (linesL css 6) os0) = decide (fallL (itI cs 2) cs 6 ≠ []) ∧ (fallL (itI cs 1) cs 6 = [] → fallL (itI cs 2) cs 6 = []) := by
  have ho : os0.Perm os0 := List.Perm.refl _
  have hr := rest_cps (css := css) (perm_facts ho).2.1
  refine ⟨?_, fall_stop ho⟩
  rw [Bool.eq_iff_iff, decide_eq_true_eq]
  exact hard_two ho (finds3 h (os_nodup ho) (perm_facts ho).2.1 hr) (finds4 h (os_nodup ho) (perm_facts ho).2.1 hr)

end
section
/-! ### law -/
local macro_rules | `(tactic| walk_at "call ref") => `(tactic| (refine hold ?_))
local macro_rules | `(tactic| walk_at "storeName") => `(tactic| (refine hold_cell (by with_unfolding_all rfl) ?_))
local macro_rules | `(tactic| walk_at "call builtin:sum") => `(tactic| (k_here; (with_reducible rename Fr _ _ _ _ => F7); (with_reducible rename News _ _ _ _ => N7); k_dflt (refine sum_slice F7 N7 rfl (List.mem_cons_self ..) (by assumption) ?_); intro n9 h9 tk9 t9 F9 N9; clear F7 N7))
theorem hold_loc {prog : Program} {w : World} {A : Around} {E : Value → Shared → Prop} {s : Shared} {env : Env} {y : Str} {py spos : Pos} {v : Expr} {Q : Flow → Shared → Prop} (_hy : env.kindOf y = some .local) (h : Hold (wpAny (model prog w) A (exec (.Assign [.Name y py] v spos) env) Q E s)) : wpAny (model prog w) A (exec (.Assign [.Name y py] v spos) env) Q E s := hold h
local macro_rules | `(tactic| walk_at "exec Assign cons ListComp") => `(tactic| (refine hold_loc (by with_unfolding_all rfl) ?_))
theorem linesL_succ (css : List (List Nat)) (n : Nat) : linesL css (n + 1) = linesL css n ++ [lineS css n] := by unfold linesL; rw [List.range_succ, List.map_append]; rfl
theorem line_str (css : List (List Nat)) (k : Nat) : Str.mk (css.getD k []).toArray ++ Str.mk #[97 + ((k : Nat) : Int).toNat] ++ Str.ofString "\n" = lineS css k := by
  rw [show Str.ofString "\n" = Str.mk [10].toArray by decide +kernel, show (Str.mk #[97 + ((k : Nat) : Int).toNat]) = Str.mk [97 + k].toArray from rfl, str_app, str_app, List.append_assoc]
  rfl
theorem lead_item {prog : Program} {w : World} {A : Around} {E : Value → Shared → Prop} {s : Shared} {h₀ : Heap} {L : Addr} {news : List (Addr × Obj)} {value slice : Expr} {l : Addr} {lv : List Value} {kk : Nat} {css : List (List Nat)} {k : Nat} {u : Tok} {Q : Value → Shared → Prop} (N : News h₀ L s.heap news) (hl : (l, listOf lv.toArray kk) ∈ news) (hA : ∀ j, j < css.length → LeadLike (css.getD j []) ∧ ∃ t, lv[j]? = some (.str (Str.mk (css.getD j []).toArray) t))
    (h1 : k < css.length) (hb : css.length ≤ 1000) (hs : subscripted slice false (.ref l) (.int (k : Nat) u) = operate [.ref l, .int (k : Nat) u] (getItem (.ref l) (.int (k : Nat) u))) (hg : ∀ r, letTemporaryGo value (.ref l) r = pure ())
    (h : ∀ t, Q (.str (Str.mk (css.getD k []).toArray) t) s) : wpAny (model prog w) A (subscriptTail value slice (.ref l) (.int (k : Nat) u)) Q E s := by
  refine hide fun hG9 => ?_
  obtain ⟨_, t, ht⟩ := hA k h1
  refine hG9 ?_
  clear hG9
  exact item_listL (News.lst N hl) (by omega) (by omega) (by rw [Int.toNat_natCast]; exact ht) (h t) hs hg
theorem strs_at {lv : List Value} {xs : List Str} (h : ∃ l, lv = strValues l ∧ l.map (·.1) = xs) (n : Nat) (hn : n < xs.length) : ∃ t, lv[n]? = some (.str (xs.getD n (Str.ofString "")) t) := by
  refine hide fun hG9 => ?_
  obtain ⟨l, rfl, rfl⟩ := h
  refine hG9 ?_
  clear hG9
  have hl : n < l.length := by rwa [List.length_map] at hn
  refine ⟨(l[n]'hl).2, ?_⟩
  unfold strValues
  rw [List.getElem?_map, List.getElem?_eq_getElem hl, List.getD_eq_getElem?_getD, List.getElem?_map, List.getElem?_eq_getElem hl]
  rfl
theorem linesL_len (css : List (List Nat)) (n : Nat) : (linesL css n).length = n := by unfold linesL; rw [List.length_map, List.length_range]
theorem linesL_at (css : List (List Nat)) {n : Nat} (hn : n < 6) : (linesL css 6).getD n (Str.ofString "") = lineS css n := by
  unfold linesL
  rw [List.getD_eq_getElem?_getD, List.getElem?_map, List.getElem?_range hn]; rfl
local macro_rules | `(tactic| walk_at "compareOp NotEq ref ref") => `(tactic| (refine hold ?_))
local macro_rules | `(tactic| walk_at "compareOp Eq ref ref") => `(tactic| (refine hold ?_))
local macro_rules | `(tactic| walk_at "execs cons") => `(tactic| (refine execs_T (by assumption) ?_))
local macro_rules | `(tactic| walk_at "execs cons") => `(tactic| ((with_reducible show wpAny _ _ (execs (Stmt.Assign [Expr.Name (PySem.Str.ofString "hard") _] _ _ :: _) _) _ _ _); (refine hold ?_)))
theorem leads_at {vs : List Value} {ls : List (List Nat)} (h : LeadsAre vs ls) : ∀ j, j < ls.length → LeadLike (ls.getD j []) ∧ ∃ t, vs[j]? = some (.str (Str.mk (ls.getD j []).toArray) t) := by
  induction h with
  | nil => exact fun j hj => absurd hj (Nat.not_lt_zero _)
  | cons hl r ih =>
    intro j hj
    cases j with
    | zero => exact ⟨hl, _, rfl⟩
    | succ j => exact ih j (Nat.lt_of_succ_lt_succ hj)
theorem lead_ws {l : List Nat} (h : LeadLike l) : (∀ c ∈ l, c = 32 ∨ c = 9) ∧ l.length ≤ 6 := by
  refine hide fun hG9 => ?_
  obtain ⟨a, b, c, ha, hb, hc, rfl⟩ := h
  refine hG9 ?_
  clear hG9
  unfold leadCs
  constructor
  · intro x hx
    simp only [List.mem_append, List.mem_replicate] at hx
    rcases hx with (⟨_, rfl⟩ | ⟨_, rfl⟩) | ⟨_, rfl⟩ <;> simp
  · simp only [List.length_append, List.length_replicate]; omega
theorem take_map {α β : Type} {l : List α} {n : Nat} (h : n < l.length) (d : α) (f : α → β) : (l.take (n + 1)).map f = (l.take n).map f ++ [f (l.getD n d)] := by
  rw [List.take_add_one, List.map_append, List.getD_eq_getElem?_getD, List.getElem?_eq_getElem h]; rfl
local macro_rules | `(tactic| walk_at "subscriptTail") => `(tactic| ((with_reducible show wpAny _ _ (subscriptTail _ _ (Value.ref _) (Value.int (Nat.cast _) _)) _ _ _); (with_reducible rename News _ _ _ _ => N7); k_dflt (refine lead_item N7 (by k_mem) (by assumption) (by omega) (by omega) (by with_unfolding_all rfl) (by intro _; with_unfolding_all rfl) ?_); intro _))
local macro_rules | `(tactic| walk_at "subscriptTail") => `(tactic| ((with_reducible show wpAny _ _ (subscriptTail _ _ (Value.ref _) (Value.int _ _)) _ _ _); (with_reducible rename News _ _ _ _ => N7); k_dflt (refine str_item (News.lst N7 (by k_mem)) (by assumption) (by omega) (by omega) (by omega) (by with_unfolding_all rfl) (by intro _; with_unfolding_all rfl) ?_); intro _))
theorem kv_ints {vs : List Value} {os : List Int} (h : IntsAre vs os) : vs.map kv = os := by
  induction h with
  | nil => rfl
  | cons k t _ ih => rw [List.map_cons, ih]; rfl
theorem k6_of {vs : List Value} {os : List Int} (h : IntsAre vs os) (hk : ∀ k ∈ os, 0 ≤ k ∧ k < 6) : ∀ v ∈ vs, K6 v := by
  induction h with
  | nil => exact fun _ hv => nomatch hv
  | cons k t _ ih =>
    intro v hv
    rcases List.mem_cons.mp hv with rfl | hv
    · exact ⟨k, t, rfl, hk k (List.mem_cons_self ..)⟩
    · exact ih (fun k hk' => hk k (List.mem_cons_of_mem _ hk')) v hv
theorem tok_in {a n : Nat} (h : 1 ≤ a) (hn : n < 6) : 0 < a + n ∧ a + n < a + 1 + 1 + 1 + 1 + 1 + 1 := by omega
section
variable {prog : Program} {w : World} {A : Around} {s : Shared} {env : Env} {h₀ : Heap} {x : Str} {px : Pos} {body : List Stmt} {Q : Flow → Shared → Prop}
noncomputable def TailQ (h₀ : Heap) (L : Addr) (G : (Str → Option Value) → List (Addr × Obj) → Prop) (Q : Flow → Shared → Prop) (s : Shared) (f : Flow) (s' : Shared) : Prop :=
  match f with
  | .next => ∃ h' tk' m' news', s' = { s with heap := h', toks := tk' } ∧ Fr h₀ L h' m' ∧ News h₀ L h' news' ∧ G m' news'
  | f => Q f s'
theorem lk_tail {T : Nat} (hT : T ≤ s.toks) {r : Addr} {a₀ b₀ : Int} {t₀ u₀ v₀ : Tok} {n : Nat} {m₀ : Str → Option Value} {news : List (Addr × Obj)} (J : Nat → (Str → Option Value) → List (Addr × Obj) → Prop) (G : (Str → Option Value) → List (Addr × Obj) → Prop)
    (hh : A.handled = none) (hx : env.kindOf x = some .local) (hp : (env.scope.kind == .class || (env.scope.kind == .module && env.locals != env.globals)) = false)
    (hr : IsRange s.heap r a₀ b₀ 1 t₀ u₀ v₀) (hsmall : Builtin.Range.small a₀ b₀ 1 = true) (hn : Builtin.Range.rangeSize a₀ b₀ 1 = (n : Int)) (F : Fr h₀ env.locals s.heap m₀) (N : News h₀ env.locals s.heap news)
    (hj : J 0 m₀ news)
    (turn : ∀ i t m₁ news₁ h tk I o, T ≤ tk → i < n → J i m₁ news₁ → (∀ p ∈ news₁, p.1 ≠ I) → Fr h₀ env.locals h (fun y => if y = x then some (.int (a₀ + (i : Nat)) t) else m₁ y) → News h₀ env.locals h ((I, o) :: news₁) →
      wpAny (model prog w) A (execs body env) (LEnd h₀ env.locals (I, o) (J (i + 1)) { s with heap := h, toks := tk } (TailQ h₀ env.locals G Q s)) (fun _ _ => False) { s with heap := h, toks := tk })
    (hG : ∀ m₁ news₁, J n m₁ news₁ → G m₁ news₁)
    (tail : ∀ h tk m₁ news₁, Fr h₀ env.locals h m₁ → News h₀ env.locals h news₁ → G m₁ news₁ → Q .next { s with heap := h, toks := tk }) :
    wpAny (model prog w) A (pyIter (.ref r)) (fun it s₂ => LoopK prog w A env x px body Q it s₂) (fun _ _ => False) s := by
  refine lk_range hT J hh hx hp hr hsmall hn F N hj (fun i t m₁ news₁ h tk I o a b c d e f => ?_) fun m₁ news₁ h tk _ hJ F1 N1 => tail h tk m₁ news₁ F1 N1 (hG _ _ hJ)
  refine wpAny_mono (turn i t m₁ news₁ h tk I o a b c d e f) (fun fl s' q => ?_) fun _ _ q => q
  cases fl with
  | ret v => exact q
  | brk =>
    refine hide fun hG9 => ?_
    obtain ⟨h', tk', m', news', rfl, F1, N1, g⟩ := q
    refine hG9 ?_
    clear hG9
    exact tail h' tk' m' news' F1 N1 g
  | next => exact q
  | cont => exact q
end
theorem hard_brk {cs : List Int} {i : Nat} (h2 : fallL (itI cs 1) cs 6 = [] → fallL (itI cs 2) cs 6 = []) (hno : ∀ j, j < i → fallL (itI cs (j + 1)) cs 6 ≠ []) (he : fallL (itI cs (i + 1)) cs 6 = []) : decide (fallL (itI cs 2) cs 6 ≠ []) = decide ((1 + (i : Nat) : Int) > 2) := by
  match i, hno, he with
  | 0, _, he => rw [h2 he]; rfl
  | 1, _, he => rw [he]; rfl
  | n + 2, hno, _ =>
    rw [decide_eq_true (hno 1 (by omega)), decide_eq_true (by omega)]
local macro_rules | `(tactic| walk_at "newList") => `(tactic| (k_here; (with_reducible rename Heap.Ns _ _ _ => NS8); (with_reducible rename HasG _ _ => HG8); (refine hold ?_)))
local macro_rules | `(tactic| walk_at "binaryOp Add ref ref") => `(tactic| (refine hold ?_))
theorem slice_upto {prog : Program} {w : World} {A : Around} {E : Value → Shared → Prop} {s : Shared} {h₀ : Heap} {L : Addr} {m : Str → Option Value} {news : List (Addr × Obj)} {value slice : Expr} {l : Addr} {vs : List Value} {kk : Nat} {b : Nat} {ti : Tok} {Q : Value → Shared → Prop} (F : Fr h₀ L s.heap m) (N : News h₀ L s.heap news) (hl : (l, listOf vs.toArray kk) ∈ news)
    (h : ∀ h' S, Fr h₀ L h' m → News h₀ L h' ((S, listOf (vs.take b).toArray 0) :: news) → (∀ p ∈ news, p.1 < S) → Q (.ref S) { s with heap := h' })
    (hs : subscripted slice false (.ref l) (.ref s.heap.objs.size) = operate [.ref s.heap.objs.size, .ref l] (getItem (.ref l) (.ref s.heap.objs.size))) (ht : ∀ r, letTemporaryGo value (.ref l) r = pure ())
    (hsz : vs.length ≤ 1000) :
    wpAny (model prog w) A (subscriptTail value slice (.ref l) (.ref s.heap.objs.size)) Q E { s with heap := s.heap.push { cls := .type "slice", data := .fields #[.none, .int (b : Nat) ti, .none] } } :=
  slice_list F N (News.lst N hl) .none (.int _ _) (fun h' F' N' => by
    rw [slicePick_upto'] at N'
    exact h h' _ F' N' fun p hp => Nat.lt_succ_of_lt (Heap.lt_size (N p hp).1)) hs ht (by
      have e : sizeLine = 16777216 := by decide
      simp only [List.size_toArray]; omega)
local macro_rules | `(tactic| walk_at "subscriptTail Name Slice ref ref") => `(tactic| ((with_reducible rename RowsL _ _ _ => hR7); (refine hold ?_)))
theorem noE {prog : Program} {w : World} {A : Around} {α : Type} {t : Sem α} {Q : α → Shared → Prop} {E : Value → Shared → Prop} {s : Shared} (h : Hold (wpAny (model prog w) A t Q (fun _ _ => False) s)) : Hold (wpAny (model prog w) A t Q E s) :=
  unhold (wpAny_mono (hold h) (fun _ _ q => q) fun _ _ e => e.elim)
theorem law_holds : PySem.Challenge.rw_sw0052_01.Holds := by
  refine Mine.hd ?_
  k_go0
  (try k_fold)
  rename_i w s₀ s₁ mg mb G Y fa ob pm doc ho hgens KX XM V GL Tp BT TE TW aw6 ow5 M aw4 aw3 hcd script _ _ _ _ _ _ _ lst vs _ hL _ _ _ hI _ hlen _ K0 hD h₁ tk₁ F0 oZ oY oX dZ dY dX N0 X0
  have hlen' : vs.length ≤ 63 := by have := hI.length; omega
  clear hD X0
  replace F0 : Fr s₁.heap s₁.heap.objs.size h₁ (fun y => if y = Str.ofString "script" then some (.ref lst) else none) := F0
  k_steps
  with_reducible rename Fr _ _ _ _ => F1
  with_reducible rename News _ _ _ _ => N1
  refine unhold (kc_use (leads_c lst vs _ hI hlen') (by k_asm) (by k_asm) (by k_asm) (by k_asm) rfl (by ktr_room) (by ktr_units) (HasG.list (Fr.keep F1) hL) ?_)
  intro v9 h9 tk9 G9 hJ4_4
  refine hide fun hG9 => ?_
  obtain ⟨lL, lits, lk, css, rfl, hLn, hLg, hLA, hL6⟩ := hJ4_4
  refine hG9 ?_
  clear hG9
  have F2 := Fr.keeps F1 G9
  have N2 := News.born F1 N1 G9 hLn hLg
  have oLn := News.off N1 hLn
  clear F1 N1 G9 hLn hLg
  (try dsimp only)
  k_unmd
  (try k_fold)
  k_steps
  with_reducible rename Fr _ _ _ _ => F1
  with_reducible rename News _ _ _ _ => N1
  refine unhold (st_cell F1 N1 rfl rfl rfl (by (repeat (first | with_reducible assumption | exact List.mem_cons_self .. | refine List.mem_cons_of_mem _ ?_))) dX ?_)
  intro h5 oX1 F5 N5 dX1
  have hLZ : s₁.heap.objs.size + 1 + 1 + 1 ≠ lL := oLn (_, oZ) (by k_mem)
  have hLY : s₁.heap.objs.size + 1 + 1 ≠ lL := oLn (_, oY) (by k_mem)
  have hLX : s₁.heap.objs.size + 1 ≠ lL := oLn (_, oX) (by k_mem)
  have N6 : News s₁.heap s₁.heap.objs.size h5 [(s₁.heap.objs.size + 1, oX1), (lL, listOf lits.toArray lk), (s₁.heap.objs.size + 1 + 1 + 1, oZ), (s₁.heap.objs.size + 1 + 1, oY)] := News.perm N5 (by
    intro p hp
    simp only [List.mem_cons, List.not_mem_nil, or_false] at hp
    rcases hp with rfl | rfl | rfl | rfl
    · exact List.mem_cons_self ..
    · exact List.mem_cons_of_mem _ (mem_butI (by k_mem) (Ne.symm hLX))
    · exact List.mem_cons_of_mem _ (mem_butI (by k_mem) (neN (by omega)))
    · exact List.mem_cons_of_mem _ (mem_butI (by k_mem) (neN (by omega))))
  clear F1 N1 N5 oLn
  (try dsimp only)
  k_unmd
  (try k_fold)
  k_steps
  have hz : 1 ≤ 1 + (3 + (script.take 60).sum).fmod 6 ∧ 1 + (3 + (script.take 60).sum).fmod 6 ≤ 6 := by
    have h1 := Int.fmod_nonneg_of_pos (3 + (script.take 60).sum) (show (0 : Int) < 6 by decide)
    have h2 := Int.fmod_lt_of_pos (3 + (script.take 60).sum) (show (0 : Int) < 6 by decide)
    omega
  obtain ⟨hz1, hz6⟩ := hz
  generalize 1 + (3 + (script.take 60).sum).fmod 6 = sz at *
  with_reducible rename Fr _ _ _ _ => F1
  with_reducible rename News _ _ _ _ => N1
  refine unhold (st_cell F1 N1 rfl rfl rfl (by (repeat (first | with_reducible assumption | exact List.mem_cons_self .. | refine List.mem_cons_of_mem _ ?_))) dY ?_)
  intro h6 oY1 F5 N5 dY1
  have N6 : News s₁.heap s₁.heap.objs.size h6 [(s₁.heap.objs.size + 1 + 1, oY1), (s₁.heap.objs.size + 1, oX1), (lL, listOf lits.toArray lk), (s₁.heap.objs.size + 1 + 1 + 1, oZ)] := News.perm N5 (by
    intro p hp
    simp only [List.mem_cons, List.not_mem_nil, or_false] at hp
    rcases hp with rfl | rfl | rfl | rfl
    · exact List.mem_cons_self ..
    · exact List.mem_cons_of_mem _ (mem_butI (by k_mem) (neN (by omega)))
    · exact List.mem_cons_of_mem _ (mem_butI (by k_mem) (Ne.symm hLY))
    · exact List.mem_cons_of_mem _ (mem_butI (by k_mem) (neN (by omega))))
  obtain ⟨tsz, dY1⟩ : ∃ t, oY1.data = Data.cell (some (.int sz t)) := ⟨_, dY1⟩
  clear F1 N1 N5
  (try dsimp only)
  k_unmd
  refine execs_T (T := 1) (Nat.succ_le_succ (Nat.zero_le _)) ?_
  (try k_fold)
  k_steps
  ((with_reducible rename Fr _ _ _ _ => kF); k_dflt (refine' cp_assignF kF ?a_32 ?a2_32 ?b_32 ?c_32 ?d_32 ?e_32 ?f_32 ?f2_32 ?f3_32 ?g_32 ?_; (case a_32 => with_unfolding_all rfl); (case a2_32 => rfl); (case b_32 => with_unfolding_all rfl); (case c_32 => decide); (case d_32 => with_unfolding_all rfl); (case e_32 => decide); (case f_32 => with_unfolding_all rfl); (case f2_32 => with_unfolding_all rfl); (case f3_32 => with_unfolding_all rfl); (case g_32 => (intro _; with_unfolding_all rfl)); k_whole))
  k_steps
  with_reducible rename Fr _ _ _ _ => F1
  have hlit := hLA.length
  refine unhold (cs_list (T := 0) (Nat.zero_le _) (vs := lits) (fun n ys nl => nl = [] ∧ n ≤ 6 ∧ IntsAre ys ((css.take n).map (colZ sz))) rfl (News.lst N6 (by k_mem)) F1 N6 ⟨rfl, Nat.zero_le _, .nil⟩ ?_ ?_ ?_)
  · rintro n ys nl ⟨_, hn, hy⟩
    rw [hy.length, List.length_map, List.length_take]
    omega
  · rintro h₇ C n v ys' nl h8 tk8 m8 E' _ hn hv8 hJ hm hns F N hnl
    refine no_tests ?_
    refine hide fun hG9 => ?_
    obtain ⟨hlead, t8, hvr⟩ := leads_at hLA n (by omega)
    refine hG9 ?_
    clear hG9
    rw [hv8] at hvr
    cases Option.some.inj hvr
    have htk := take_map (l := css) (n := n) (by omega) [] (colZ sz)
    generalize css.getD n [] = c1 at *
    obtain ⟨hws, hwl⟩ := lead_ws hlead
    k_unmd
    (try k_fold)
    k_steps
    refine unhold (kc_use (column_c _ t8 tsz c1 sz rfl (fun c hc => by rcases hws c hc with rfl | rfl <;> decide) hz1 hz6 (by omega)) (by k_asm) (by k_asm) (by k_asm) (by k_asm) rfl (by ktr_room) (by ktr_units) trivial ?_)
    intro v9 h9 tk9 G9 hJ6_4
    refine hide fun hG9 => ?_
    obtain ⟨b9, t9, rfl, rfl⟩ := hJ6_4
    refine hG9 ?_
    clear hG9
    refine elt_post G9 ⟨hJ.1, by omega, ?_⟩
    rw [htk]
    exact hJ.2.2.append (.cons _ _ .nil)
  intro h₇ lC cvs ck nl h8 tk8 hDn8 hnD8 hnn8 hJ7_10 hD80 hDL8 _ _ h9 tk9 F2 N2 hT1
  refine hide fun hG9 => ?_
  obtain ⟨rfl, _, hcv⟩ := hJ7_10
  refine hG9 ?_
  clear hG9
  rw [List.nil_append] at N2
  rw [List.take_of_length_le (by omega)] at hcv
  have hlC : ∀ p ∈ [(s₁.heap.objs.size + 1 + 1, oY1), (s₁.heap.objs.size + 1, oX1), (lL, listOf lits.toArray lk), (s₁.heap.objs.size + 1 + 1 + 1, oZ)], p.1 < lC := hDn8
  clear F1 N6 hDn8 hnD8 hnn8
  (try dsimp only)
  k_unmd
  (try k_fold)
  k_steps
  ((with_reducible rename Fr _ _ _ _ => kF); k_dflt (refine' cp_evalF kF ?a_33 ?b_33 ?c_33 ?d_33 ?e_33 ?f_33 ?_; (case a_33 => with_unfolding_all rfl); (case b_33 => decide); (case c_33 => with_unfolding_all rfl); (case d_33 => decide); (case e_33 => with_unfolding_all rfl); (case f_33 => (intro _; with_unfolding_all rfl)); k_whole))
  k_steps
  with_reducible rename Fr _ _ _ _ => F1
  with_reducible rename News _ _ _ _ => N1
  have hLAt := leads_at hLA
  refine unhold (cs_range (T := 0) (Nat.zero_le _) (n := 6) (fun n ys nl => nl = [] ∧ n ≤ 6 ∧ ∃ l, ys = strValues l ∧ l.map (·.1) = linesL css n) rfl (by assumption) (by decide) (by decide) F1 N1 ⟨rfl, Nat.zero_le _, [], rfl, rfl⟩ ?_ ?_ ?_)
  · rintro n ys nl ⟨_, hn, l, rfl, hl⟩
    have := congrArg List.length hl
    unfold linesL at this
    simp only [List.length_map, List.length_range] at this
    unfold strValues
    rw [List.length_map]
    omega
  · intro h₇ C n v ys' nl h8 tk8 m8 E' _ hn hJ8_12 hJ hm hns F N hnl
    refine hide fun hG9 => ?_
    obtain ⟨tp, _, rfl⟩ := hJ8_12
    refine hG9 ?_
    clear hG9
    refine no_tests ?_
    rw [Int.zero_add] at hm
    obtain ⟨hlead, _⟩ := leads_at hLA n (by omega)
    obtain ⟨hws, hwl⟩ := lead_ws hlead
    have hcl : (Str.mk (css.getD n []).toArray).length ≤ 6 := by show (css.getD n []).toArray.size ≤ 6; rw [List.size_toArray]; exact hwl
    k_unmd
    (try k_fold)
    k_steps
    rw [line_str]
    refine elt_post (fun _ _ e => e) ⟨hJ.1, by omega, ?_⟩
    rw [linesL_succ]
    exact strs_snoc hJ.2.2
  intro h₇ lN lnv lnk nl h8 tk8 hDn8 hnD8 hnn8 hJ9_10 hD80 hDL8 _ _ F2 N2
  refine hide fun hG9 => ?_
  obtain ⟨rfl, _, hlnv⟩ := hJ9_10
  refine hG9 ?_
  clear hG9
  rw [List.nil_append] at N2
  have hlN : ∀ p ∈ [(lC, listOf cvs.toArray ck), (s₁.heap.objs.size + 1 + 1, oY1), (s₁.heap.objs.size + 1, oX1), (lL, listOf lits.toArray lk), (s₁.heap.objs.size + 1 + 1 + 1, oZ)], p.1 < lN := hDn8
  have hCZ : s₁.heap.objs.size + 1 + 1 + 1 < lC := hlC (_, oZ) (by k_mem)
  have hNZ : s₁.heap.objs.size + 1 + 1 + 1 < lN := hlN (_, oZ) (by k_mem)
  have hNC : lC < lN := hlN (lC, listOf cvs.toArray ck) (by k_mem)
  clear F1 N1 hDn8 hnD8 hnn8 hlN hlC
  (try dsimp only)
  k_unmd
  (try k_fold)
  k_steps
  with_reducible rename Fr _ _ _ _ => F1
  with_reducible rename News _ _ _ _ => N1
  refine unhold (st_cell F1 N1 rfl rfl rfl (by (repeat (first | with_reducible assumption | exact List.mem_cons_self .. | refine List.mem_cons_of_mem _ ?_))) dZ ?_)
  intro h5 oZ1 F5 N5 dZ1
  have N6 : News s₁.heap s₁.heap.objs.size h5 [(s₁.heap.objs.size + 1 + 1 + 1, oZ1), (lN, listOf lnv.toArray lnk), (lC, listOf cvs.toArray ck), (s₁.heap.objs.size + 1 + 1, oY1), (s₁.heap.objs.size + 1, oX1)] := News.perm N5 (by
    intro p hp
    simp only [List.mem_cons, List.not_mem_nil, or_false] at hp
    rcases hp with rfl | rfl | rfl | rfl | rfl
    · exact List.mem_cons_self ..
    · exact List.mem_cons_of_mem _ (mem_butI (by k_mem) (Nat.ne_of_gt hNZ))
    · exact List.mem_cons_of_mem _ (mem_butI (by k_mem) (Nat.ne_of_gt hCZ))
    · exact List.mem_cons_of_mem _ (mem_butI (by k_mem) (neN (by omega)))
    · exact List.mem_cons_of_mem _ (mem_butI (by k_mem) (neN (by omega))))
  clear F1 N1 N5
  intro hT2
  (try dsimp only)
  k_unmd
  (try k_fold)
  k_steps
  ((with_reducible rename Fr _ _ _ _ => kF); k_dflt (refine' cp_assignF kF ?a_34 ?a2_34 ?b_34 ?c_34 ?d_34 ?e_34 ?f_34 ?f2_34 ?f3_34 ?g_34 ?_; (case a_34 => with_unfolding_all rfl); (case a2_34 => rfl); (case b_34 => with_unfolding_all rfl); (case c_34 => decide); (case d_34 => with_unfolding_all rfl); (case e_34 => decide); (case f_34 => with_unfolding_all rfl); (case f2_34 => with_unfolding_all rfl); (case f3_34 => with_unfolding_all rfl); (case g_34 => (intro _; with_unfolding_all rfl)); k_whole))
  k_steps
  with_reducible rename Fr _ _ _ _ => F1
  have hlnl : lnv.length = 6 := by
    refine hide fun hG9 => ?_
    obtain ⟨l, rfl, hl⟩ := hlnv
    refine hG9 ?_
    clear hG9
    have := congrArg List.length hl
    rw [List.length_map, linesL_len] at this
    unfold strValues; rw [List.length_map]; exact this
  refine unhold (cs_list (T := 0) (Nat.zero_le _) (vs := lnv) (fun n ys nl => nl = [] ∧ n ≤ 6 ∧ IntsAre ys ((css.take n).map fun c => indentZ sz (wsZ c))) rfl (News.lst N6 (by k_mem)) F1 N6 ⟨rfl, Nat.zero_le _, .nil⟩ ?_ ?_ ?_)
  · rintro n ys nl ⟨_, hn, hy⟩
    rw [hy.length, List.length_map, List.length_take]
    omega
  · rintro h₇ C n v ys' nl h8 tk8 m8 E' _ hn hv8 hJ hm hns F N hnl
    refine no_tests ?_
    have hn6 : n < 6 := by omega
    obtain ⟨hlead, _⟩ := leads_at hLA n (by omega)
    obtain ⟨t8, hvr⟩ := strs_at hlnv n (by rw [linesL_len]; exact hn6)
    rw [linesL_at css hn6] at hvr
    rw [hv8] at hvr
    cases Option.some.inj hvr
    have htk := take_map (l := css) (n := n) (by omega) [] fun c => indentZ sz (wsZ c)
    have hls : lineS css n = Str.mk (css.getD n [] ++ (97 + n) :: [10]).toArray := rfl
    generalize css.getD n [] = c1 at *
    obtain ⟨hws, hwl⟩ := lead_ws hlead
    k_unmd
    (try k_fold)
    k_steps
    refine unhold (kc_use (ws_c (lineS css n) t8 c1 [10] (97 + n) hls hws (by omega) (by omega) (by
      intro c hc
      rcases List.mem_append.mp hc with hc | hc
      · rcases hws c hc with rfl | rfl <;> decide
      · rcases List.mem_cons.mp hc with rfl | hc
        · omega
        · rw [List.mem_singleton.mp hc]; decide) (by omega)) (by k_asm) (by k_asm) (by k_asm) (by k_asm) rfl (by ktr_room) (by ktr_units) trivial ?_)
    intro v9 h9 tk9 G9 hJ11_4
    refine hide fun hG9 => ?_
    obtain ⟨xo, dx, Do, Tp, its, nn, sm, r1, r2, r3, r4, r5, tn, tnt, tb, rfl, hcnt, hx0, hdx0, hD0, hTp0, gx, gdx, gD, gTp⟩ := hJ11_4
    refine hG9 ?_
    clear hG9
    have b1 := News.born F N G9 hx0 gx
    have b2 := News.born F N G9 hdx0 gdx
    have b3 := News.born F N G9 hD0 gD
    have b4 := News.born F N G9 hTp0 gTp
    have N9 : News s₁.heap s₁.heap.objs.size h9 ((xo, instObj 125 dx) :: (dx, dictOf (wsEs w (lineS css n) nn (wsZ c1).nt Do sm t8 r1 r2 r3 r4 r5 tn tnt) 5) :: (Do, tupOf #[.ref Tp, .int (wsZ c1).b tb]) :: (Tp, tupOf its.toArray) :: [(s₁.heap.objs.size + 1 + 1 + 1, oZ1), (lN, listOf lnv.toArray lnk), (lC, listOf cvs.toArray ck), (s₁.heap.objs.size + 1 + 1, oY1), (s₁.heap.objs.size + 1, oX1)]) := by
      intro q hq
      rcases List.mem_cons.mp hq with rfl | hq
      · exact b1 _ (List.mem_cons_self ..)
      rcases List.mem_cons.mp hq with rfl | hq
      · exact b2 _ (List.mem_cons_self ..)
      rcases List.mem_cons.mp hq with rfl | hq
      · exact b3 _ (List.mem_cons_self ..)
      rcases List.mem_cons.mp hq with rfl | hq
      · exact b4 _ (List.mem_cons_self ..)
      exact b4 _ (List.mem_cons_of_mem _ hq)
    have F9 := Fr.keeps F G9
    have NS9 := Heap.Ns.keeps hns G9
    clear b1 b2 b3 b4 F N hns
    k_unmd
    (try k_fold)
    k_steps
    have N4 : News s₁.heap s₁.heap.objs.size h9 [(xo, instObj 125 dx), (dx, dictOf (wsEs w (lineS css n) nn (wsZ c1).nt Do sm t8 r1 r2 r3 r4 r5 tn tnt) 5), (Do, tupOf #[.ref Tp, .int (wsZ c1).b tb]), (Tp, tupOf its.toArray)] := fun q hq => N9 q (List.mem_append_left [(s₁.heap.objs.size + 1 + 1 + 1, oZ1), (lN, listOf lnv.toArray lnk), (lC, listOf cvs.toArray ck), (s₁.heap.objs.size + 1 + 1, oY1), (s₁.heap.objs.size + 1, oX1)] hq)
    refine unhold (indent_c (lineS css n) xo dx Do Tp its nn sm t8 r1 r2 r3 r4 r5 tn tnt tb tsz (wsZ c1) sz hcnt hz1 hz6 (by have := cnt_len hlead; have := hcnt.length; omega) (cnt_bd hlead) N4 (by k_asm) (by k_asm) (by k_asm) (by k_asm) rfl (by ktr_room) (by ktr_units) ?_)
    intro t10 h10 tk10 G10
    refine elt_post (fun b o e => G10 b o (G9 b o e)) ⟨hJ.1, by omega, ?_⟩
    rw [htk]
    exact hJ.2.2.append (.cons _ _ .nil)
  intro h₇ lT tvs tvk nl h8 tk8 hDn8 hnD8 hnn8 hJ12_10 hD80 hDL8 _ _ h9 tk9 F2 N2 hT3
  refine hide fun hG9 => ?_
  obtain ⟨rfl, _, htv⟩ := hJ12_10
  refine hG9 ?_
  clear hG9
  rw [List.nil_append] at N2
  rw [List.take_of_length_le (by omega), show (css.map fun c => indentZ sz (wsZ c)) = css.map (colZ sz) from List.map_congr_left fun c hc => by
    refine hide fun hG9 => ?_
    obtain ⟨j, hj, rfl⟩ := List.getElem_of_mem hc
    refine hG9 ?_
    clear hG9
    have := (leads_at hLA j hj).1
    rw [List.getD_eq_getElem?_getD, List.getElem?_eq_getElem hj, Option.getD_some] at this
    exact told_eq this hz1 hz6] at htv
  have hlT : ∀ p ∈ [(s₁.heap.objs.size + 1 + 1 + 1, oZ1), (lN, listOf lnv.toArray lnk), (lC, listOf cvs.toArray ck), (s₁.heap.objs.size + 1 + 1, oY1), (s₁.heap.objs.size + 1, oX1)], p.1 < lT := hDn8
  have hTC : lC < lT := hlT (lC, listOf cvs.toArray ck) (by k_mem)
  have hTN : lN < lT := hlT (lN, listOf lnv.toArray lnk) (by k_mem)
  clear F1 N6 hDn8 hnD8 hnn8
  (try dsimp only)
  k_unmd
  (try k_fold)
  k_steps
  refine unhold (ne_intsK (News.lst N2 (by k_mem)) htv (News.lst N2 (by k_mem)) hcv (by units_room) ?_)
  rw [decide_eq_true rfl]
  (try dsimp only)
  k_unmd
  (try k_fold)
  k_steps
  with_reducible rename Fr _ _ _ _ => F1
  with_reducible rename News _ _ _ _ => N1
  rename_i lO _ lOlt _ _
  refine unhold (execs_T (T := tk9 + 1 + 1 + 1 + 1 + 1 + 1) (Nat.le_succ _) ?_)
  have hlL : LeadsOk css := ⟨hL6, fun k hk => (leads_at hLA k (by omega)).1⟩
  have hLok := line_ok hlL
  have hln6 := linesL_len css 6
  have hcs6 : (css.map (colZ sz)).length = 6 := by rw [List.length_map]; exact hL6
  have hpg : cat (linesL css 6) = restOf (linesL css 6) os0 := by
    unfold restOf
    congr 1
  have hp0 := perm_facts (List.Perm.refl os0)
  have hsum0 : ((linesL css 6).map (·.length)).sum ≤ 100000 := by
    have := rest_sum (ks := os0) hLok hp0.2.1 (by decide)
    rw [show os0.map (lnAt (linesL css 6)) = linesL css 6 from rfl] at this
    omega
  have hrl0 : (restOf (linesL css 6) os0).length ≤ 600 := rest_len hLok hp0.2.1 (by decide)
  generalize hcs : css.map (colZ sz) = cs at *
  (try dsimp only)
  k_unmd
  (try k_fold)
  k_steps
  with_reducible rename Fr _ _ _ _ => F2
  with_reducible rename News _ _ _ _ => N2
  rw [hpg]
  refine unhold (kc_use (hard_c _ lT _ tvs cs htv hcs6 (by omega)) (by k_asm) (by k_asm) (by k_asm) (by k_asm) rfl (by ktr_room) (by ktr_units) (News.lst N2 (by k_mem)) ?_)
  rintro v9 h10 tk10 G9 rfl
  have F3 := Fr.keeps F2 G9
  have N3 := News.grown N2 G9
  clear F2 N2 G9
  (try dsimp only)
  k_unmd
  (try k_fold)
  k_steps
  with_reducible rename Fr _ _ _ _ => F1
  with_reducible rename News _ _ _ _ => N1
  refine noE ?_
  refine For_K (toksIn (T := tk9 + 1 + 1 + 1 + 1 + 1 + 1) (by assumption) ?_) (fun _ => rfl)
  k_steps
  with_reducible rename Fr _ _ _ _ => F9
  with_reducible rename News _ _ _ _ => N9
  refine unhold (lk_tail (T := tk9 + 1 + 1 + 1 + 1 + 1 + 1) (by assumption) (n := 6) (fun i m news => ∃ lQ qs qk, (lQ, listOf qs.toArray qk) ∈ news ∧ IntsAre qs (itI cs i) ∧ (∀ v ∈ qs, v ∈ [Value.int 0 tk9, Value.int 1 (tk9 + 1), Value.int 2 (tk9 + 1 + 1), Value.int 3 (tk9 + 1 + 1 + 1), Value.int 4 (tk9 + 1 + 1 + 1 + 1), Value.int 5 (tk9 + 1 + 1 + 1 + 1 + 1)]) ∧
      (∀ j, j < i → fallL (itI cs (j + 1)) cs 6 ≠ []) ∧ (∀ q ∈ [(lT, listOf tvs.toArray tvk), (s₁.heap.objs.size + 1 + 1 + 1, oZ1), (lN, listOf lnv.toArray lnk), (lC, listOf cvs.toArray ck), (s₁.heap.objs.size + 1 + 1, oY1), (s₁.heap.objs.size + 1, oX1)], q ∈ news) ∧
      (0 < i → ∃ t, m (Str.ofString "passes") = some (.int (1 + ((i - 1 : Nat) : Int)) t)) ∧
      Kn [(Str.ofString "hard", .bool (hardB cs (restOf (linesL css 6) os0))), (Str.ofString "order", .ref lQ), (Str.ofString "told", .ref lT), (Str.ofString "columns", .ref lC)] m)
    (fun m news => ∃ lQ qs qk os ps tp, (lQ, listOf qs.toArray qk) ∈ news ∧ IntsAre qs os ∧ os.Perm os0 ∧ (∀ q ∈ [(lT, listOf tvs.toArray tvk), (s₁.heap.objs.size + 1 + 1 + 1, oZ1), (lN, listOf lnv.toArray lnk), (lC, listOf cvs.toArray ck), (s₁.heap.objs.size + 1 + 1, oY1), (s₁.heap.objs.size + 1, oX1)], q ∈ news) ∧
      hardB cs (restOf (linesL css 6) os0) = decide (ps > 2) ∧ Kn [(Str.ofString "hard", .bool (hardB cs (restOf (linesL css 6) os0))), (Str.ofString "order", .ref lQ), (Str.ofString "passes", .int ps tp)] m)
    rfl rfl rfl (by assumption) (by decide) (by decide) F9 N9 ?_ ?_ ?_ ?_)
  · exact ⟨lO, _, _, List.mem_cons_self .., .cons _ _ (.cons _ _ (.cons _ _ (.cons _ _ (.cons _ _ (.cons _ _ .nil))))), (fun v hv => hv), (fun _ h => absurd h (Nat.not_lt_zero _)), (fun q hq => List.mem_cons_of_mem _ hq), (fun h => absurd h (Nat.lt_irrefl _)), rfl, rfl, rfl, rfl, trivial⟩
  · intro i tx m₁ news₁ h tk Ii oi hTt hi hJ14_10 hnI F N
    refine hide fun hG9 => ?_
    obtain ⟨lQ, qs, qn, hQ, hqs, hqv, hno, hsub, hps, kn⟩ := hJ14_10
    refine hG9 ?_
    clear hG9
    clear F9 N9
    have hp := it_perm cs i
    refine hide fun hG9 => ?_
    obtain ⟨ho6, hk06, hkm⟩ := perm_facts hp
    refine hG9 ?_
    clear hG9
    have hp2 := it_perm cs (i + 1)
    have hnx : itI cs (i + 1) = pileI cs (itI cs i) := rfl
    have hkf := kept_fall hlL cs _ hp
    have hbe := behind_eq cs _ hp
    have hq6 : qs.length = 6 := hqs.length.trans ho6
    have hQI : lQ ≠ Ii := hnI _ hQ
    have hLI : ∀ q ∈ ([(lT, listOf tvs.toArray tvk), (s₁.heap.objs.size + 1 + 1 + 1, oZ1), (lN, listOf lnv.toArray lnk), (lC, listOf cvs.toArray ck), (s₁.heap.objs.size + 1 + 1, oY1), (s₁.heap.objs.size + 1, oX1)] : List (Addr × Obj)), q.1 ≠ Ii := fun q hq => hnI q (hsub q hq)
    have N1 : News s₁.heap s₁.heap.objs.size h ((Ii, oi) :: (lQ, listOf qs.toArray qn) :: (lT, listOf tvs.toArray tvk) :: (s₁.heap.objs.size + 1 + 1 + 1, oZ1) :: (lN, listOf lnv.toArray lnk) :: (lC, listOf cvs.toArray ck) :: (s₁.heap.objs.size + 1 + 1, oY1) :: (s₁.heap.objs.size + 1, oX1) :: []) := News.perm N (by
      intro q hq
      rcases List.mem_cons.mp hq with rfl | hq
      · exact List.mem_cons_self ..
      rcases List.mem_cons.mp hq with rfl | hq
      · exact List.mem_cons_of_mem _ hQ
      · exact List.mem_cons_of_mem _ (hsub q hq))
    replace F := Fr.knX F kn
    simp only [ovr] at F
    clear kn N hnI hsub hQ
    have hsum : (((itI cs i).map (lnAt (linesL css 6))).map (·.length)).sum ≤ 100000 := Nat.le_trans (rest_sum hLok hk06 (by omega)) (by decide)
    have hrl : (restOf (linesL css 6) (itI cs i)).length ≤ 600 := rest_len hLok hk06 (by omega)
    have hno' : fallL (pileI cs (itI cs i)) cs 6 ≠ [] → ∀ j, j < i + 1 → fallL (itI cs (j + 1)) cs 6 ≠ [] := fun hne j hj => by
      by_cases e : j = i
      · rw [e]; exact hne
      · exact hno j (by omega)
    rw [hnx] at hp2 ⊢
    generalize hosd : itI cs i = os at *
    k_unmd
    (try k_fold)
    k_steps
    ((with_reducible rename Fr _ _ _ _ => kF); k_dflt (refine' cp_evalF kF ?a_35 ?b_35 ?c_35 ?d_35 ?e_35 ?f_35 ?_; (case a_35 => with_unfolding_all rfl); (case b_35 => decide); (case c_35 => with_unfolding_all rfl); (case d_35 => decide); (case e_35 => with_unfolding_all rfl); (case f_35 => (intro _; with_unfolding_all rfl)); k_whole))
    k_steps
    with_reducible rename Fr _ _ _ _ => F8
    with_reducible rename News _ _ _ _ => N8
    refine unhold (cs_list (T := 0) (Nat.zero_le _) (vs := qs) (fun n ys nl => nl = [] ∧ n ≤ 6 ∧ ∃ l, ys = strValues l ∧ l.map (·.1) = (os.take n).map (lnAt (linesL css 6))) rfl (News.lst N8 (by k_mem)) F8 N8 ⟨rfl, Nat.zero_le _, [], rfl, rfl⟩ ?_ ?_ ?_)
    · rintro n ys nl ⟨_, hn, l, rfl, hl⟩
      have := congrArg List.length hl
      simp only [List.length_map, List.length_take] at this
      unfold strValues
      rw [List.length_map]
      omega
    · rintro h₇ C n v ys' nl h8 tk8 m8 E' _ hn hv8 hJ hm hns F N hnl
      refine no_tests ?_
      obtain ⟨t8, hvr⟩ := ints_at hqs n (by omega)
      rw [hv8] at hvr
      cases Option.some.inj hvr
      have hsm : os.getD n 0 ∈ os := (by rw [List.getD_eq_getElem?_getD, List.getElem?_eq_getElem (by omega), Option.getD_some]; exact List.getElem_mem _)
      obtain ⟨hs0, hs6⟩ := hk06 _ hsm
      have htk := ks_take (ks := os) (n := n) (by omega) (lnAt (linesL css 6))
      generalize os.getD n 0 = s1 at *
      k_unmd
      (try k_fold)
      k_steps
      refine elt_post (fun b o e => e) ⟨hJ.1, by omega, ?_⟩
      rw [htk]
      exact strs_snoc hJ.2.2
    intro h₇ D8 ys8 k8 nl9 h9 tk8 hDn8 hnD8 hnn8 hJ16_10 hD80 hDL8 _ _ F2 N2
    refine hide fun hG9 => ?_
    obtain ⟨rfl, _, hys8⟩ := hJ16_10
    refine hG9 ?_
    clear hG9
    rw [List.nil_append] at N2
    rw [List.take_of_length_le (by omega)] at hys8
    clear F8 N8
    k_unmd
    (try k_fold)
    k_steps
    with_reducible rename Fr _ _ _ _ => F8
    with_reducible rename News _ _ _ _ => N8
    rw [show cat (os.map (lnAt (linesL css 6))) = restOf (linesL css 6) os from rfl]
    refine unhold (kc_use (kept_c _ lT _ tvs cs htv hcs6 (by omega)) (by k_asm) (by k_asm) (by k_asm) (by k_asm) rfl (by ktr_room) (by ktr_units) (News.lst N8 (by k_mem)) ?_)
    intro v9 h10 tk10 G9 hJ17_4
    refine hide fun hG9 => ?_
    obtain ⟨lK, bK, kts, kk9, hbK, rfl, hKn, hKg, hKp⟩ := hJ17_4
    refine hG9 ?_
    clear hG9
    have F3 := Fr.keeps F8 G9
    have N3 := News.grown N8 G9
    refine hide fun hG9 => ?_
    obtain ⟨n1, M1, v1⟩ := via_pairs F3 hKp
    refine hG9 ?_
    clear hG9
    refine hide fun hG9 => ?_
    obtain ⟨n2, M2, v2⟩ := via_obj F3 hKg ⟨_, _, rfl⟩
    refine hG9 ?_
    clear hG9
    have N4 := News.app (fun q hq => N3 q (List.mem_cons_of_mem _ hq)) (News.app M1 M2)
    simp only [List.cons_append, List.nil_append] at N4
    replace v1 := v1.mono (nl' := n1 ++ n2) fun q hq => List.mem_append_left _ hq
    replace v2 := v2.mono (nl' := n1 ++ n2) fun q hq => List.mem_append_right _ hq
    generalize n1 ++ n2 = nA at *
    clear F8 N8 N3 M1 M2 G9 hKn hKg hKp hys8
    (try dsimp only)
    k_unmd
    (try k_fold)
    k_steps
    with_reducible rename Fr _ _ _ _ => F8
    with_reducible rename News _ _ _ _ => N8
    refine unhold (kc_use (behind_c lQ lC qs cvs os cs hqs hcv ho6 hcs6 hk06 hbe.2) (by k_asm) (by k_asm) (by k_asm) (by k_asm) rfl (by ktr_room) (by ktr_units) ⟨News.lst N8 (by k_mem), News.lst N8 (by k_mem)⟩ ?_)
    intro v9 h11 tk11 G9 hJ20_4
    refine hide fun hG9 => ?_
    obtain ⟨lD, dts, bD, kD, hbD, rfl, hDg, hDi⟩ := hJ20_4
    refine hG9 ?_
    clear hG9
    have F3 := Fr.keeps F8 G9
    have N3 := News.grown N8 G9
    refine hide fun hG9 => ?_
    obtain ⟨n3, M3, v3⟩ := via_obj F3 hDg ⟨_, _, rfl⟩
    refine hG9 ?_
    clear hG9
    have N4 := News.app N3 M3
    simp only [List.cons_append] at N4
    replace v1 := v1.mono (nl' := nA ++ n3) fun q hq => List.mem_append_left _ hq
    replace v2 := v2.mono (nl' := nA ++ n3) fun q hq => List.mem_append_left _ hq
    replace v3 := v3.mono (nl' := nA ++ n3) fun q hq => List.mem_append_right _ hq
    generalize nA ++ n3 = nB at *
    clear F8 N8 N3 M3 G9 hDg
    (try dsimp only)
    k_unmd
    (try k_fold)
    k_steps
    with_reducible rename Fr _ _ _ _ => F8
    with_reducible rename News _ _ _ _ => N8
    have hk6v := k6_of hqs hk06
    refine unhold (kc_use (piled_c lQ lT qs tvs cs hk6v htv hcs6 (by omega)) (by k_asm) (by k_asm) (by k_asm) (by k_asm) rfl (by ktr_room) (by ktr_units) ⟨News.lst N8 (by k_mem), News.lst N8 (by k_mem)⟩ ?_)
    intro v9 h12 tk12 G9 hJ22_4
    refine hide fun hG9 => ?_
    obtain ⟨lP, bP, hbP, rfl, hPn, hPg⟩ := hJ22_4
    refine hG9 ?_
    clear hG9
    have F3 := Fr.keeps F8 G9
    have N3 := News.born F8 N8 G9 hPn hPg
    have hPoff := News.off N8 hPn
    have hPi : IntsAre bP (pileI cs os) := by
      have := ints_kv bP fun v hv => hk6v v (pile_mem (hbP ▸ hv))
      rwa [hbP, pile_map, kv_ints hqs, ← hbP] at this
    clear F8 N8 G9 hPn hPg
    (try dsimp only)
    k_unmd
    (try k_fold)
    k_steps
    with_reducible rename Fr _ _ _ _ => F8
    with_reducible rename News _ _ _ _ => N8
    refine hide fun hG9 => ?_
    obtain ⟨hp6, hpk06, hpkm⟩ := perm_facts hp2
    refine hG9 ?_
    clear hG9
    have hone : 1 ≤ tk9 := by assumption
    have hbv : ∀ v ∈ bP, v ∈ [Value.int 0 tk9, Value.int 1 (tk9 + 1), Value.int 2 (tk9 + 1 + 1), Value.int 3 (tk9 + 1 + 1 + 1), Value.int 4 (tk9 + 1 + 1 + 1 + 1), Value.int 5 (tk9 + 1 + 1 + 1 + 1 + 1)] := fun v hv => hqv v (pile_mem (hbP ▸ hv))
    have htk : ∀ (i : Nat) (m : Int) (t : Tok), bP[i]? = some (Value.int m t) → 0 < t ∧ t < tk9 + 1 + 1 + 1 + 1 + 1 + 1 := fun j m t hj => by
      have := hbv _ (List.mem_of_getElem? hj)
      simp only [List.mem_cons, List.not_mem_nil, or_false, Value.int.injEq] at this
      rcases this with ⟨_, rfl⟩ | ⟨_, rfl⟩ | ⟨_, rfl⟩ | ⟨_, rfl⟩ | ⟨_, rfl⟩ | ⟨_, rfl⟩ <;> first | exact tok_in (n := 0) hone (by decide) | exact tok_in (n := 1) hone (by decide) | exact tok_in (n := 2) hone (by decide) | exact tok_in (n := 3) hone (by decide) | exact tok_in (n := 4) hone (by decide) | exact tok_in (n := 5) hone (by decide)
    refine unhold (falling_c (tk9 + 1 + 1 + 1 + 1 + 1 + 1) lP lC bP cvs (pileI cs os) cs hPi hcv hp6 hcs6 hpkm htk (by k_asm) (by k_asm) (by k_asm) (by k_asm) rfl (by ktr_room) (by ktr_units) (by assumption) (News.lst N8 (by k_mem)) (News.lst N8 (by k_mem)) ?_)
    intro v9 h13 tk13 G9 hJ24_4
    refine hide fun hG9 => ?_
    obtain ⟨lF, fts, bF, kF, hbF, rfl, hFg, hFp⟩ := hJ24_4
    refine hG9 ?_
    clear hG9
    have F3 := Fr.keeps F8 G9
    have N3 := News.grown N8 G9
    refine hide fun hG9 => ?_
    obtain ⟨n1, M1, v4⟩ := via_pairs F3 hFp
    refine hG9 ?_
    clear hG9
    refine hide fun hG9 => ?_
    obtain ⟨n2, M2, v5⟩ := via_obj F3 hFg ⟨_, _, rfl⟩
    refine hG9 ?_
    clear hG9
    have N4 := News.app N3 (News.app M1 M2)
    simp only [List.cons_append, List.nil_append] at N4
    replace v1 := v1.mono (nl' := nB ++ (n1 ++ n2)) fun q hq => List.mem_append_left _ hq
    replace v2 := v2.mono (nl' := nB ++ (n1 ++ n2)) fun q hq => List.mem_append_left _ hq
    replace v3 := v3.mono (nl' := nB ++ (n1 ++ n2)) fun q hq => List.mem_append_left _ hq
    replace v4 := v4.mono (nl' := nB ++ (n1 ++ n2)) fun q hq => List.mem_append_right _ (List.mem_append_left _ hq)
    replace v5 := v5.mono (nl' := nB ++ (n1 ++ n2)) fun q hq => List.mem_append_right _ (List.mem_append_right _ hq)
    generalize nB ++ (n1 ++ n2) = nC at *
    clear F8 N8 N3 M1 M2 G9 hFg hFp
    (try dsimp only)
    k_unmd
    (try k_fold)
    k_steps
    with_reducible rename Fr _ _ _ _ => F8
    with_reducible rename News _ _ _ _ => N8
    have hin : ∀ q ∈ nC, q ∈ ((lP, listOf bP.toArray 0) :: (Ii, oi) :: (lQ, listOf qs.toArray qn) :: (lT, listOf tvs.toArray tvk) :: (s₁.heap.objs.size + 1 + 1 + 1, oZ1) :: (lN, listOf lnv.toArray lnk) :: (lC, listOf cvs.toArray ck) :: (s₁.heap.objs.size + 1 + 1, oY1) :: (s₁.heap.objs.size + 1, oX1) ::  nC) := fun q hq => (by (repeat (first | with_reducible assumption | exact List.mem_cons_self .. | refine List.mem_cons_of_mem _ ?_)))
    refine unhold (ne_intsK (News.lst N8 (by k_mem)) hPi ⟨_, v3.at F8 N8 hin, rfl, _, rfl⟩ hDi (by units_room) ?_)
    rw [hbD, hbe.1, decide_eq_true rfl]
    (try dsimp only)
    k_unmd
    (try k_fold)
    k_steps
    with_reducible rename Fr _ _ _ _ => F8
    with_reducible rename News _ _ _ _ => N8
    refine unhold (ne_pairs (v2.at F8 N8 hin) (v1.at F8 N8 hin) (v5.at F8 N8 hin) (v4.at F8 N8 hin) (by units_room) ?_)
    rw [hbK, hbF, hkf, decide_eq_true rfl]
    (try dsimp only)
    k_unmd
    (try k_fold)
    k_steps
    with_reducible rename Fr _ _ _ _ => F8
    with_reducible rename News _ _ _ _ => N8
    refine unhold (eq_pairs (us := []) (v5.at F8 N8 fun q hq => List.mem_cons_of_mem _ (hin q hq)) (v4.at F8 N8 fun q hq => List.mem_cons_of_mem _ (hin q hq)) (News.get N8 (List.mem_cons_self ..)) .nil (by units_room) ?_)
    rw [hbF]
    by_cases hemp : fallL (pileI cs os) cs 6 = []
    · rw [decide_eq_true hemp]
      (try dsimp only)
      k_unmd
      (try k_fold)
      k_steps
      refine lbrk ?_
      refine ⟨_, _, _, _, rfl, F8, N8, lP, bP, 0, pileI cs os, 1 + (i : Nat), tx, List.mem_cons_of_mem _ (List.mem_cons_self ..), hPi, hp2, fun q hq => List.mem_cons_of_mem _ (List.mem_cons_of_mem _ (List.mem_cons_of_mem _ (List.mem_cons_of_mem _ (List.mem_append_left nC hq)))), ?_, rfl, rfl, rfl, trivial⟩
      have hhe := hard_eq hlL cs
      rw [hhe.1]
      exact hard_brk hhe.2 hno (by rw [hnx]; exact hemp)
    · rw [decide_eq_false hemp]
      (try dsimp only)
      k_unmd
      (try k_fold)
      k_steps
      refine lendF F8 N8 (List.mem_cons_of_mem _ (List.mem_cons_of_mem _ (List.mem_cons_self ..))) ?_
      exact ⟨lP, bP, 0, mem_butI (List.mem_cons_of_mem _ (List.mem_cons_self ..)) (Ne.symm (hPoff (Ii, oi) (List.mem_cons_self ..))), hPi, hbv, hno' hemp, fun q hq => mem_butI (List.mem_cons_of_mem _ (List.mem_cons_of_mem _ (List.mem_cons_of_mem _ (List.mem_cons_of_mem _ (List.mem_append_left nC hq))))) (hLI q hq), fun _ => ⟨tx, rfl⟩, rfl, rfl, rfl, rfl, trivial⟩
  · rintro m₁ news₁ ⟨lQ, qs, qn, hQ, hqs, hqv, hno, hsub, hps, kn⟩
    obtain ⟨tp, hps⟩ := hps (by decide)
    have hhe := hard_eq hlL cs
    refine ⟨lQ, qs, qn, itI cs 6, _, tp, hQ, hqs, it_perm cs 6, hsub, ?_, kn.1, kn.2.1, hps, trivial⟩
    rw [hhe.1, decide_eq_true (hno 1 (by decide))]; rfl
  · intro h10 tk10 m₁ news₁ F N hJ27_6
    refine hide fun hG9 => ?_
    obtain ⟨lQ, qs, qn, os, ps, tp, hQ, hqs, hp, hsub, hhard, kn⟩ := hJ27_6
    refine hG9 ?_
    clear hG9
    clear F9 N9
    replace F := Fr.kn F kn
    simp only [ovr] at F
    clear kn
    refine hide fun hG9 => ?_
    obtain ⟨ho6, hk06, hkm⟩ := perm_facts hp
    refine hG9 ?_
    clear hG9
    have hq6 : qs.length = 6 := hqs.length.trans ho6
    have N1 : News s₁.heap s₁.heap.objs.size h10 ((lQ, listOf qs.toArray qn) :: (lT, listOf tvs.toArray tvk) :: (s₁.heap.objs.size + 1 + 1 + 1, oZ1) :: (lN, listOf lnv.toArray lnk) :: (lC, listOf cvs.toArray ck) :: (s₁.heap.objs.size + 1 + 1, oY1) :: (s₁.heap.objs.size + 1, oX1) :: []) := News.perm N (by
      intro q hq
      rcases List.mem_cons.mp hq with rfl | hq
      · exact hQ
      · exact hsub q hq)
    clear N hsub hQ
    intro hT9
    (try dsimp only)
    k_unmd
    (try k_fold)
    k_steps
    with_reducible rename Fr _ _ _ _ => F8
    with_reducible rename News _ _ _ _ => N8
    refine unhold (kc_use (ends_c lQ lN qs lnv os (linesL css 6) hqs ho6 hk06 hlnv hln6 hLok) (by k_asm) (by k_asm) (by k_asm) (by k_asm) rfl (by ktr_room) (by ktr_units) ⟨News.lst N8 (by k_mem), News.lst N8 (by k_mem)⟩ ?_)
    intro v9 h13 tk13 G9 hJ29_4
    refine hide fun hG9 => ?_
    obtain ⟨lE, ets, kE, rfl, hEg, hEr⟩ := hJ29_4
    refine hG9 ?_
    clear hG9
    have F3 := Fr.keeps F8 G9
    have N3 := News.grown N8 G9
    refine hide fun hG9 => ?_
    obtain ⟨n1, M1, v1⟩ := via_rows F3 hEr
    refine hG9 ?_
    clear hG9
    refine hide fun hG9 => ?_
    obtain ⟨n2, M2, v2⟩ := via_obj F3 hEg ⟨_, _, rfl⟩
    refine hG9 ?_
    clear hG9
    have N4 := News.app N3 (News.app M1 M2)
    simp only [List.cons_append, List.nil_append] at N4
    replace v1 := v1.mono (nl' := n1 ++ n2) fun q hq => List.mem_append_left _ hq
    replace v2 := v2.mono (nl' := n1 ++ n2) fun q hq => List.mem_append_right _ hq
    generalize n1 ++ n2 = nA at *
    clear F8 N8 N3 M1 M2 G9 hEg hEr
    (try dsimp only)
    k_unmd
    (try k_fold)
    k_steps
    ((with_reducible rename Fr _ _ _ _ => kF); k_dflt (refine' cp_evalF kF ?a_36 ?b_36 ?c_36 ?d_36 ?e_36 ?f_36 ?_; (case a_36 => with_unfolding_all rfl); (case b_36 => decide); (case c_36 => with_unfolding_all rfl); (case d_36 => decide); (case e_36 => with_unfolding_all rfl); (case f_36 => (intro _; with_unfolding_all rfl)); k_whole))
    k_steps
    with_reducible rename Fr _ _ _ _ => F8
    with_reducible rename News _ _ _ _ => N8
    with_reducible rename IntsAre _ _ => hI5
    have hl5 : (os.take 5).length = 5 := by rw [List.length_take]; omega
    have hws5 := hI5.length
    refine unhold (cs_list (T := 0) (Nat.zero_le _) (fun n ys nl => RowsL nl ys (((os.take 5).take n).map fun k => [k]) ∧ n ≤ 5) rfl (News.lst N8 (List.mem_cons_self ..)) F8 N8 ⟨.nil, Nat.zero_le _⟩ ?_ ?_ ?_)
    · rintro n ys nl ⟨hr, hn⟩
      rw [hr.len, List.length_map, List.length_take]
      omega
    · rintro h₇ C n v ys' nl h8 tk8 m8 E' _ hn hv8 hJ hm hns F N hnl
      refine no_tests ?_
      obtain ⟨t8, hvr⟩ := ints_at hI5 n (by omega)
      rw [hv8] at hvr
      cases Option.some.inj hvr
      have htk := ks_take (ks := os.take 5) (n := n) (by omega) fun k => [k]
      generalize (os.take 5).getD n 0 = s1 at *
      have HH : HasG h8 h8 := fun _ _ e => e
      k_unmd
      (try k_fold)
      k_steps
      refine unhold (wpAny_newList ?_ (hsz := by show 1 ≤ 16777216; decide))
      refine elt_post1 (q := (_, listOf #[_] 0)) (fun _ _ e => Heap.get?_push_of_some _ e) ?_ (Heap.get?_push_size _ rfl) ⟨?_, by omega⟩
      · cases e : h8.get? h8.objs.size with
        | none => rfl
        | some o => exact absurd (Heap.lt_size e) (Nat.lt_irrefl _)
      · rw [htk]
        exact (hJ.1.mono fun q hq => List.mem_append_left _ hq).snoc (List.mem_append_right _ (List.mem_singleton.mpr rfl)) (.cons _ _ .nil)
    rintro h₇ D9 ys9 k9 nl9 h9 tk8 hDn8 hnD8 hnn8 ⟨hrows, _⟩ hD90 hDL9 Fx Nx F2 N2
    have hrows5 : RowsL nl9 ys9 ((os.take 5).map fun k => [k]) := by
      rw [List.take_of_length_le (by omega)] at hrows
      exact hrows
    have N5 : News s₁.heap s₁.heap.objs.size h9 ((D9, listOf ys9.toArray k9) :: (lQ, listOf qs.toArray qn) :: (nl9 ++ nA)) := News.perm N2 (by
      intro q hq
      rcases List.mem_cons.mp hq with rfl | hq
      · exact List.mem_cons_self ..
      refine List.mem_cons_of_mem _ ?_
      rcases List.mem_cons.mp hq with rfl | hq
      · exact List.mem_append_right _ (List.mem_cons_of_mem _ (List.mem_cons_self ..))
      rcases List.mem_append.mp hq with hq | hq
      · exact List.mem_append_left _ hq
      · exact List.mem_append_right _ (by (repeat (first | with_reducible assumption | exact List.mem_cons_self .. | refine List.mem_cons_of_mem _ ?_))))
    have hB1 : ∀ q ∈ nl9, q ∈ nl9 ++ nA := fun q hq => List.mem_append_left _ hq
    have hB2 : ∀ q ∈ nA, q ∈ nl9 ++ nA := fun q hq => List.mem_append_right _ hq
    replace v1 := v1.mono hB2
    replace v2 := v2.mono hB2
    have hy9 := hrows5.len
    rw [List.length_map] at hy9
    generalize nl9 ++ nA = nB at *
    clear N2 Fx Nx F8 N8 hB2 hDn8 hnD8 hnn8 hrows
    k_unmd
    (try k_fold)
    k_steps
    with_reducible rename Fr _ _ _ _ => F8
    with_reducible rename News _ _ _ _ => N8
    rename_i lZ _ _
    refine unhold (slice_upto (b := 4) F8 N8 (List.mem_cons_of_mem _ (List.mem_cons_of_mem _ (List.mem_cons_self ..))) ?_ (by with_unfolding_all rfl) (by intro _; with_unfolding_all rfl) (by omega))
    intro h8 S8 F9 N9 l8
    clear F8 N8
    (try dsimp only)
    k_unmd
    (try k_fold)
    k_steps
    with_reducible rename Fr _ _ _ _ => F8
    with_reducible rename News _ _ _ _ => N8
    k_unmd
    have hS8 := N8 (S8, listOf (qs.take 4).toArray 0) (List.mem_cons_of_mem _ (List.mem_cons_self ..))
    refine unhold (add_led F8 N8 (by (repeat (first | with_reducible assumption | exact List.mem_cons_self .. | refine List.mem_cons_of_mem _ ?_))) (List.mem_cons_self ..) (by omega) (by show 2 ≤ 1001; decide) ?_)
    intro h14 K2 F9 N9 lK2
    with_reducible rename RowsL _ _ _ => hrows5
    have hR2 : RowsIn h14 (ys9 ++ [.ref lZ, .ref S8]) ((os.take 5).map (fun k => [k]) ++ [[], os.take 4]) := by
      have r1 := (hrows5.mono hB1)
      have r2 := RowsL.inn (nl := nB ++ [(lZ, listOf (#[] : Array Value) 0), (S8, listOf (qs.take 4).toArray 0)]) N9 (fun q hq => by
        rcases List.mem_append.mp hq with hq | hq
        · exact (by (repeat (first | with_reducible assumption | exact List.mem_cons_self .. | refine List.mem_cons_of_mem _ ?_)))
        · rcases List.mem_cons.mp hq with rfl | hq
          · exact List.mem_cons_of_mem _ (List.mem_cons_of_mem _ (List.mem_cons_of_mem _ (List.mem_cons_self ..)))
          · rw [List.mem_singleton.mp hq]
            exact List.mem_cons_of_mem _ (List.mem_cons_of_mem _ (List.mem_cons_self ..)))
        (((r1.mono fun q hq => List.mem_append_left _ hq).snoc (its := []) (List.mem_append_right _ (List.mem_cons_self ..)) .nil).snoc (List.mem_append_right _ (List.mem_cons_of_mem _ (List.mem_cons_self ..))) (hqs.take 4))
      rw [List.append_assoc, List.append_assoc] at r2
      exact r2
    clear F8 N8 hS8
    (try dsimp only)
    k_unmd
    (try k_fold)
    k_steps
    with_reducible rename Fr _ _ _ _ => F8
    with_reducible rename News _ _ _ _ => N8
    refine unhold (ne_rows (v2.at F8 N8 fun q hq => (by (repeat (first | with_reducible assumption | exact List.mem_cons_self .. | refine List.mem_cons_of_mem _ ?_)))) (v1.at F8 N8 fun q hq => (by (repeat (first | with_reducible assumption | exact List.mem_cons_self .. | refine List.mem_cons_of_mem _ ?_)))) (News.get N8 (List.mem_cons_self ..)) hR2 (by units_room) ?_)
    rw [ends_eq hlL os hp, decide_eq_true rfl]
    (try dsimp only)
    k_unmd
    (try k_fold)
    k_steps

end
end
end Mine
theorem PySem.Challenge.cw_sw0052_01_holds : PySem.Challenge.rw_sw0052_01.Holds := by
  exact Mine.law_holds
