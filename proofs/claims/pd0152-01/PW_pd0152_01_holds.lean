import PyProof.Rows.All
import Wide.All
import OpenK.AllK
import Wide.FinOn
import PySem.Challenge.RW_pd0152_01
set_option Elab.async false
local macro_rules | `(tactic| walk_at $s:str) => `(tactic| k_extra $s)
-- part Top2
section
open PySem PySem.W PyProof.Rows
set_option Elab.async false
namespace Mine
set_option maxRecDepth 100000
theorem fast_run : @topRun = @PySem.W.Fast.tw14082659384304107361 := PySem.W.Fast.te14082659384304107361
theorem fast_table : treeTable = PySem.W.Fast.tw14364793385576792824 := PySem.W.Fast.te14364793385576792824
theorem fast_seen : @openSeen = @PySem.W.Fast.tw4187177175401517315 := PySem.W.Fast.te4187177175401517315
theorem fast_resolve : @namesResolve = @PySem.W.Fast.tw8377067652309620493 := PySem.W.Fast.te8377067652309620493
theorem fast_road : @noRoadLSs = @PySem.W.Fast.tw8326940854005059898 := PySem.W.Fast.te8326940854005059898
theorem fast_meet : @namesMeet = @PySem.W.Fast.tw17119622794617984870 := PySem.W.Fast.te17119622794617984870
theorem said_a : namesResolve Challenge.pw_pd0152_01 = true := by rw [fast_resolve]; kernel_rfl
theorem said_b : noRoadLSs { strict := !(importedModules Challenge.pw_pd0152_01.main.body).all cThrough.contains, foot := none, bare := (["vars", "dir", "locals"] : List Str).filter (readsOut Challenge.pw_pd0152_01 Challenge.pw_pd0152_01.main.body) } Challenge.pw_pd0152_01.main.body = true := by rw [fast_road]; kernel_rfl
theorem said_c : sreFenced Challenge.pw_pd0152_01.main = true := by kernel_rfl
theorem said_d : (Challenge.pw_pd0152_01.boundNames.all (fun n => !worldNames.contains n)) = true := by kernel_rfl
theorem said_e : namesMeet Challenge.pw_pd0152_01 Challenge.pw_pd0152_01.main.body (fun _ n => attrL n) = true := by rw [fast_meet]; kernel_rfl
theorem said_f : ((moduleNames Challenge.pw_pd0152_01.main.body).isEmpty || lookedIntoSs (moduleNames Challenge.pw_pd0152_01.main.body) Challenge.pw_pd0152_01.main.body) = true := by kernel_rfl
theorem said_loose : looksOpen Challenge.pw_pd0152_01 = true := by
  unfold looksOpen
  exact look_both (look_both (look_both (look_both (look_both said_c said_f) said_a) said_d) said_b) said_e
theorem said_row : Challenge.rw_pd0152_01.row.wellSaid = true := by
  unfold OpenRow.wellSaid OpenRow.partSaid
  repeat' (with_reducible refine look_both ?_ ?_)
  · exact said_loose
  all_goals kernel_rfl
theorem law_said : Challenge.rw_pd0152_01.wellSaid = true := by
  unfold OpenLaw.wellSaid
  rw [fast_road, fast_meet]
  repeat' (with_reducible refine look_both ?_ ?_)
  · exact said_row
  all_goals kernel_rfl
theorem left_boot {p q : Program} {loose : List Str} {Xt : Shared → Bool} {α : Type} {Yf : Shared → α} {Ya : World → α} {N : Nat} {g0 : Bool} (e : opening p = plainProg p.main.scope.names) (hN : Nat.ble 600 N = true) (f : ∀ s, fenceModules? p s = some s)
    (h : ∀ (w : World) (os : OsState), (topFrom treeTable p w N ⟨boot_heap w.params, Array.mk [], boot_drawn, boot_toks, os⟩).map (fun s => (openSeen q loose (importedModules p.main.body) Xt g0 s, Yf s)) = some (openGood q loose, Ya w)) :
    LeftO p q loose Xt Yf Ya N g0 := fun w => by
  obtain ⟨⟨h0, gs, d, k, os⟩, e1, e2⟩ := Option.map_eq_some_iff.mp (boot_open e hN f w)
  simp only [Prod.mk.injEq] at e2
  obtain ⟨rfl, rfl, rfl, rfl⟩ := e2
  unfold openEnds
  rw [e1]
  exact h w os
noncomputable def noAssign : List Stmt → List Stmt
  | [] => []
  | .Assign .. :: r => noAssign r
  | s :: r => s :: noAssign r
noncomputable def view : Program := { Challenge.pw_pd0152_01 with main := { Challenge.pw_pd0152_01.main with body := noAssign Challenge.pw_pd0152_01.main.body } }
section
local macro_rules | `(tactic| o_law) => `(tactic| refine holds_law law_said fun said => ?_)
local macro_rules | `(tactic| o_head $H:term) => `(tactic| (
  refine holds_open (q := view) (loose := []) (Xt := fun s => xlAt view [] s && recOk (RowW.records (OpenRow.toRowW (OpenLaw.row Challenge.rw_pd0152_01))) s) (XP := XL view []) (Yf := Hook.obs $H) (Ya := Hook.val $H) (YP := Hook.says $H) (N := 2584) ?hl (Hook.of $H) (Hook.keeps $H) (fun s e => xl_of s (Bool.and_eq_true_iff.mp e).1) XL.keeps (by rfl) (by rfl) (by rfl) (fun s e => recFacts_of (Bool.and_eq_true_iff.mp e).2) (by rfl) (by first | assumption | decide +kernel) (by decide +kernel) ⟨rfl, rfl, rfl, rfl, rfl, by decide +kernel⟩ ?hw ?hc;
  (case hl => refine left_boot (by kernel_rfl) (by decide +kernel) (fun s => by kernel_rfl) (fun w os => ?_); unfold topFrom; rw [fast_run, fast_table, fast_seen]; kernel_rfl); all_goals (rename_i hh; clear hh)))
set_option maxHeartbeats 0 in
open_top hd for Challenge.rw_pd0152_01
end
end Mine
end

-- part B1
section
open PySem PySem.W PyProof.Rows PySem.Calls
set_option Elab.async false
set_option maxRecDepth 100000
set_option maxHeartbeats 8000000
namespace Mine
section
variable {prog : Program} {w : World} {A : Around} {E : Value → Shared → Prop} {s : Shared}
theorem sub_str : isSubtype (.type "str") (.type "str") = pure true := by rw [isSubtype_type]; kernel_rfl
theorem args_isub3 (a b c : Value) : argsOk "issubclass.nested" ⟨[a, b, c], []⟩ := by unfold argsOk; kernel_rfl
theorem isub_nested {k : Int} {t : Tok} : Meets (Builtin.«issubclass.nested» ⟨[.type "str", .type "str", .int k t], []⟩) (fun _ R s => R (.ok (.ret (.bool true))) s) :=
  .of_wp fun prog w A R s h => by
    obtain ⟨hp, g, d, tk, os⟩ := s
    have hsub := sub_str
    wp_walk
    exact ⟨_, rfl, h⟩
theorem isub_call {k : Int} {t : Tok} {Q : Value → Shared → Prop} (h : Q (.bool true) s) : wpAny (model prog w) A (call (.builtin "issubclass.nested") [.type "str", .type "str", .int k t]) Q E s :=
  call_function_meets (by decide +kernel) (by decide +kernel) F.entry_issubclass_nested (args_isub3 _ _ _) isub_nested h
theorem issub_str {tp : Addr} {n : Nat} {Q : Value → Shared → Prop} (htp : s.heap.get? tp = some { cls := .type "tuple", data := .seq #[.type "str", .type "bytes"] n }) (h : Q (.bool true) s) :
    wpAny (model prog w) A (call (.builtin "issubclass") [.type "str", .ref tp]) Q E s := by
  refine call_issubclass (S := fun _ R s => (s.heap.get? tp = some { cls := .type "tuple", data := .seq #[.type "str", .type "bytes"] n }) ∧ R (.ok (.ret (.bool true))) s) ?_ ⟨htp, h⟩
  rintro prog w A R s ⟨htp, h⟩
  refine issubclass_outer ?_
  obtain ⟨hp, g, d, tk, os⟩ := s
  have hT2 : (⟨hp, g, d, tk, os⟩ : Shared).TypeIs (.ref tp) "tuple" := ⟨_, htp, rfl⟩
  have f1 := F.isi_sub_tuple
  repeat (any_goals (first | assumption | exact isub_call ‹_› | (refine isub_call (k := 0 + 1) ?_) | wp_step))
end
end Mine
end

-- part B2
section
open PySem PySem.W PyProof.Rows PySem.Calls
set_option Elab.async false
set_option maxRecDepth 100000
set_option maxHeartbeats 8000000
set_option linter.unusedVariables false
namespace Mine

theorem upto {α : Type} {M : Model} {fr : Option (List Env)} {gd : Option (List Code)} {dp un d u : Nat} {t : Sem α} {Q : α → Shared → Prop} {E : Value → Shared → Prop} {s : Shared} (hd : dp ≤ d) (hu : un ≤ u)
    (h : wpAny M { handled := none, depth := d, frames := fr, guards := gd, units := u } t Q E s) : wpAny M { handled := none, depth := dp, frames := fr, guards := gd, units := un } t Q E s :=
  fun Γ p hΓ => h Γ p ⟨hΓ.1, Nat.le_trans hΓ.2.1 hd, hΓ.2.2.1, hΓ.2.2.2.1, Nat.le_trans hΓ.2.2.2.2 hu⟩
section
variable {w : World} {mean : ExcName → Option Value} {mg mb : Str → Option Value} {dp un : Nat} {gd : Option (List Code)} {cn : Str} {cnm : List (Str × NameKind)} {cig cic : Bool} {cmo : List (Str × Const)} {a : Addr} {ccd : Value} {cl : List (Str × Addr)} {outer : List Env} {A₀ : Around} {base h₀ : Heap} {L : Addr} {m : Str → Option Value} {news : List (Addr × Obj)} {s : Shared} {Q E : Value → Shared → Prop}

theorem fspath_c {x : Str} {t : Tok} (B : Below A₀ base outer h₀) (F : Fr h₀ L s.heap m) (X : (hd.heap_1 w.params).In h₀) (N : News h₀ L s.heap news) (T : Top view (looseW view []) mean mg mb h₀) (hdp : dp ≤ 900) (hun : un ≤ 9000)
    (ret : ∀ h' tk', Fr h₀ L h' m → News h₀ L h' news → Q (.str x t) { s with heap := h', toks := tk' }) :
    wpAny (model Challenge.rw_pd0152_01.row.prog w) { handled := none, depth := dp, frames := some (envX cn { kind := .function, names := cnm, isGenerator := cig, isCoroutine := cic, more := cmo } L a ccd cl :: outer), guards := gd, units := un } (call (.ref 94) [.str x t]) Q E s := by
  k_with_none
  k_with "call builtin:issubclass" => (k_here; k_dflt (refine' issub_str ?zqk1 ?_; (case zqk1 => exact News.get (by k_asm) (by k_mem)); k_whole))
  revert X; k_fill; intro X
  refine upto hdp hun ?_
  k_steps
  exact ret _ _ (by k_asm) (cb_drop (by assumption) fun p hp => .tail _ hp)
theorem get_sep_c {x : Str} {t : Tok} (B : Below A₀ base outer h₀) (F : Fr h₀ L s.heap m) (X : (hd.heap_1 w.params).In h₀) (N : News h₀ L s.heap news) (T : Top view (looseW view []) mean mg mb h₀) (hdp : dp ≤ 900) (hun : un ≤ 9000)
    (ret : ∀ t h' tk', Fr h₀ L h' m → News h₀ L h' news → Q (.str (Str.ofString "/") t) { s with heap := h', toks := tk' }) :
    wpAny (model Challenge.rw_pd0152_01.row.prog w) { handled := none, depth := dp, frames := some (envX cn { kind := .function, names := cnm, isGenerator := cig, isCoroutine := cic, more := cmo } L a ccd cl :: outer), guards := gd, units := un } (call (.ref 108) [.str x t]) Q E s := by
  k_with_none
  k_with "call builtin:issubclass" => (k_here; k_dflt (refine' issub_str ?zqk1 ?_; (case zqk1 => exact News.get (by k_asm) (by k_mem)); k_whole))
  revert X; k_fill; intro X
  refine upto hdp hun ?_
  k_steps
  exact ret _ _ _ (by k_asm) (by k_asm)
end
end Mine
end

-- part B3
section
open PySem PySem.W PyProof.Rows PySem.Calls
set_option Elab.async false
set_option maxRecDepth 100000
set_option maxHeartbeats 8000000
set_option linter.unusedVariables false
namespace Mine

/-- what a for loop wants of its iterator: an invariant that falls -/
noncomputable def ForAt (prog : Program) (w : World) (A : Around) (target : Expr) (env : Env) (body : List Stmt) (Q : Flow → Shared → Prop) (it : Value) (s₂ : Shared) : Prop :=
  ∃ (I : Nat → Shared → Prop) (n : Nat), I n s₂ ∧ ∀ n s, I n s → wpAny (model prog w) A (pyNext it) (fun r s₁ => match r with
    | none => Q .next s₁
    | some v => wpAny (model prog w) A (letOwnedTupleGo target it v) (fun _ s₁' => wpAny (model prog w) A (assign target env v) (fun _ s₂ => wpAny (model prog w) A (execs body env) (fun f s₃ => match f with
        | .next => ∃ m, m < n ∧ I m s₃
        | .cont => ∃ m, m < n ∧ I m s₃
        | .brk => Q .next s₃
        | .ret v => Q (.ret v) s₃) (fun _ _ => False) s₂) (fun _ _ => False) s₁') (fun _ _ => False) s₁) (fun _ _ => False) s
section
variable {prog : Program} {w : World} {A : Around} {E : Value → Shared → Prop} {s : Shared} {env : Env} {h₀ : Heap} {L : Addr} {m : Str → Option Value} {news : List (Addr × Obj)}
theorem forLoop_at {R : Result → Shared → Prop} {target : Expr} {it : Value} {body : List Stmt} {Q : Flow → Shared → Prop} (h : ForAt prog w A target env body Q it s) (hR : ∀ f s, Q f s → R (.ok f) s) :
    codeAny (model prog w) A (.forLoop target it body [] env) R s := by
  obtain ⟨I, n, h0, turn⟩ := h
  refine codeAny_loop' rfl I (fun n s hI => ?_) n h0
  show wpAny _ _ ((forTurn target it body [] env).onRaise (fun x => do noteFrame x env; theTreesLotGoes x)) _ _ s
  refine wpAny_noted ?_
  simp only [forTurn]
  refine wpAny_bind (wpAny_standAt (wpAny_bind (wpAny_onRaise (wpAny_mono (turn n s hI) (fun r s₁ h₁ => ?_) fun _ _ h' => h'.elim))))
  cases r with
  | none => exact wpAny_pure (.inr ⟨rfl, codeAny_block (wpAny_execs_nil (hR _ _ h₁))⟩)
  | some v =>
    refine wpAny_bind (wpAny_mono h₁ (fun _ s₁' h₁' => ?_) fun _ _ h' => h'.elim)
    refine wpAny_bind (wpAny_mono h₁' (fun _ s₂ h₂ => wpAny_bind (wpAny_mono h₂ (fun f s₃ h₃ => ?_) fun _ _ h' => h'.elim)) fun _ _ h' => h'.elim)
    cases f with
    | next => exact wpAny_pure (.inl ⟨rfl, h₃⟩)
    | cont => exact wpAny_pure (.inl ⟨rfl, h₃⟩)
    | brk => exact wpAny_pure (hR _ _ h₃)
    | ret v => exact wpAny_pure (hR _ _ h₃)
theorem forStmt {target iter : Expr} {body : List Stmt} {pos : Pos} {Q : Flow → Shared → Prop}
    (h : wpAny (model prog w) A (eval iter env) (fun xv s₁ => wpAny (model prog w) A (pyIter xv) (fun it s₂ => ForAt prog w A target env body Q it s₂) E s₁) E s)
    (hs : ∀ x, foldedSetIterable iter env x = pure x := by intro _; rfl) :
    wpAny (model prog w) A (exec (.For target iter body [] pos) env) Q E s :=
  wpAny_For (wpAny_mono h (fun xv s₁ h₁ => wpAny_mono h₁ (fun it s₂ h₂ => forLoop_at h₂ fun _ _ q => q) fun _ _ e => e) fun _ _ e => e) hs

theorem Fr.but {h h' : Heap} {wr : List Addr} (F : Fr h₀ L h m) (hk : ∀ b o, b ∉ wr → h.get? b = some o → h'.get? b = some o) (hL : L ∉ wr) (hI : ∀ b ∈ wr, h₀.get? b = none) : Fr h₀ L h' m :=
  ⟨F.ns.at' fun o e => hk L o hL e, fun b o e => hk b o (fun hm => by rw [hI b hm] at e; cases e) (F.keep b o e), F.above⟩
theorem News.but {h h' : Heap} {wr : List Addr} (N : News h₀ L h news) (hk : ∀ b o, b ∉ wr → h.get? b = some o → h'.get? b = some o) (off : ∀ p ∈ news, p.1 ∉ wr) : News h₀ L h' news :=
  fun p hp => ⟨hk _ _ (off p hp) (N p hp).1, (N p hp).2⟩
/-- what stands behind a turn -/
noncomputable def Turned (h₀ : Heap) (L : Addr) (J : (Str → Option Value) → List (Addr × Obj) → Array GenState → Prop) (I : Addr) (o : Obj) (s s₃ : Shared) : Prop :=
  ∃ h' tk' g' m'' news'', s₃ = { s with heap := h', toks := tk', gens := g' } ∧ Fr h₀ L h' m'' ∧ News h₀ L h' ((I, o) :: news'') ∧ (∀ p ∈ news'', p.1 ≠ I) ∧ J m'' news'' g'
noncomputable def TurnPost (h₀ : Heap) (L : Addr) (J : (Str → Option Value) → List (Addr × Obj) → Array GenState → Prop) (I : Addr) (o : Obj) (s : Shared) (Q : Flow → Shared → Prop) (f : Flow) (s₃ : Shared) : Prop := match f with
  | .next => Turned h₀ L J I o s s₃
  | .cont => Turned h₀ L J I o s s₃
  | .brk => Q .next s₃
  | .ret v => Q (.ret v) s₃
theorem Turned.mk {J : (Str → Option Value) → List (Addr × Obj) → Array GenState → Prop} {I : Addr} {o : Obj} {h' : Heap} {tk' : Nat} {g' : Array GenState} {m'' : Str → Option Value} {news'' all : List (Addr × Obj)} (F : Fr h₀ L h' m'') (N : News h₀ L h' all) (hs : ∀ p ∈ (I, o) :: news'', p ∈ all) (off : ∀ p ∈ news'', p.1 ≠ I) (hJ : J m'' news'' g') :
    Turned h₀ L J I o s { s with heap := h', toks := tk', gens := g' } := ⟨h', tk', g', m'', news'', rfl, F, fun p hp => N p (hs p hp), off, hJ⟩

/-- a loop over any iterator of one cell -/
theorem iter_walk {x : Str} {px : Pos} {body : List Stmt} {Q : Flow → Shared → Prop} {I : Addr} {fp : List Addr} {n : Nat} {P : Nat → Value → Prop} {St : Nat → Heap → Prop}
    (W : Walks prog w A I fp [I] n P St) (hx : env.kindOf x = some .local) (hp : (env.scope.kind == .class || (env.scope.kind == .module && env.locals != env.globals)) = false) (hL : env.locals = L)
    (hIo : ∀ i h, St i h → ∃ o, h.get? I = some o)
    (J : Nat → (Str → Option Value) → List (Addr × Obj) → Array GenState → Prop)
    (hSt : ∀ i h h' m' news' g' o, J i m' news' g' → St i h → h.get? I = some o → h'.get? I = some o → (∀ b o, h₀.get? b = some o → h'.get? b = some o) → News h₀ L h' news' → St i h')
    (hst : St 0 s.heap) (hLf : L ∉ fp) (F : Fr h₀ L s.heap m) (N : News h₀ L s.heap news) (hIL : L ≠ I) (hI₀ : h₀.get? I = none) (off : ∀ p ∈ news, p.1 ≠ I) (h0 : J 0 m news s.gens)
    (turn : ∀ i v m' news' g' h tk o, i < n → P i v → J i m' news' g' → Fr h₀ L h (fun y => if y = x then some v else m' y) → News h₀ L h ((I, o) :: news') → (∀ p ∈ news', p.1 ≠ I) →
      wpAny (model prog w) A (execs body env) (TurnPost h₀ L (J (i + 1)) I o s Q) (fun _ _ => False) { s with heap := h, toks := tk, gens := g' })
    (done : ∀ m' news' g' h tk, J n m' news' g' → Fr h₀ L h m' → News h₀ L h news' → Q .next { s with heap := h, toks := tk, gens := g' }) :
    ForAt prog w A (.Name x px) env body Q (.ref I) s := by
  subst hL
  refine ⟨fun k s' => ∃ i h' tk g' m' news', s' = { s with heap := h', toks := tk, gens := g' } ∧ i ≤ n ∧ k = n + 1 - i ∧ St i h' ∧ Fr h₀ env.locals h' m' ∧ News h₀ env.locals h' news' ∧ (∀ p ∈ news', p.1 ≠ I) ∧ J i m' news' g', n + 1,
    ⟨0, s.heap, s.toks, s.gens, m, news, rfl, Nat.zero_le _, rfl, hst, F, N, off, h0⟩, ?_⟩
  rintro k s' ⟨i, h', tk, g', m', news', rfl, hi, rfl, hst', F', N', off', hJ'⟩
  have keepF : ∀ {h₁ : Heap}, (∀ b o, b ∉ [I] → h'.get? b = some o → h₁.get? b = some o) → Fr h₀ env.locals h₁ m' := fun hk => Fr.but F' hk (by simpa using hIL) (by simpa using hI₀)
  have keepN : ∀ {h₁ : Heap}, (∀ b o, b ∉ [I] → h'.get? b = some o → h₁.get? b = some o) → News h₀ env.locals h₁ news' := fun hk => News.but N' hk fun p hp => by simpa using off' p hp
  by_cases hlt : i < n
  · refine W.item i _ _ _ hlt hst' fun v h₁ tk₁ hPv hst₁ hk₁ => ?_
    refine wpAny_of_eq (a := ()) rfl ?_
    have F₁ := keepF hk₁
    have N₁ := keepN hk₁
    refine wpAny_assign_Name (wpAny_storeName_local hx F₁.ns (fun h₂ hn₂ hs₂ => ?_) hp)
    have F₂ := F₁.set hn₂ hs₂
    have N₂ := N₁.set hs₂
    have hst₂ : St (i + 1) h₂ := W.frame _ _ _ hst₁ fun b hb o e => hs₂.extBut b o (fun q => hLf (q ▸ hb)) e
    obtain ⟨o, ho⟩ := hIo _ _ hst₂
    refine wpAny_mono (turn i v m' news' g' h₂ _ o hlt hPv hJ' F₂ (fun p hp => ?_) off') (fun f s₃ h₃ => ?_) fun _ _ e => e
    · rcases List.mem_cons.mp hp with rfl | hp
      · exact ⟨ho, Ne.symm hIL, hI₀⟩
      · exact N₂ p hp
    · have fin : Turned h₀ env.locals (J (i + 1)) I o s s₃ → ∃ m, m < n + 1 - i ∧ ∃ i h' tk g' m' news', s₃ = { s with heap := h', toks := tk, gens := g' } ∧ i ≤ n ∧ m = n + 1 - i ∧ St i h' ∧ Fr h₀ env.locals h' m' ∧ News h₀ env.locals h' news' ∧ (∀ p ∈ news', p.1 ≠ I) ∧ J i m' news' g' := by
        rintro ⟨hp₃, tk₃, g₃, m₃, news₃, rfl, F₃, N₃, off₃, hJ₃⟩
        have N₃' : News h₀ env.locals hp₃ news₃ := fun p hp => N₃ p (.tail _ hp)
        exact ⟨n + 1 - (i + 1), by omega, i + 1, hp₃, tk₃, g₃, m₃, news₃, rfl, hlt, rfl, hSt _ _ _ _ _ _ _ hJ₃ hst₂ ho (N₃ _ (.head _)).1 F₃.keep N₃', F₃, N₃', off₃, hJ₃⟩
      cases f with
      | next => exact fin h₃
      | cont => exact fin h₃
      | brk => exact h₃
      | ret v => exact h₃
  · obtain rfl : i = n := Nat.le_antisymm hi (Nat.not_lt.mp hlt)
    exact W.done _ _ _ hst' fun h₁ tk₁ hk₁ => done m' news' g' h₁ tk₁ hJ' (keepF hk₁) (keepN hk₁)

/-- a loop over a list of the ledger that the turns leave as it is -/
theorem iter_list {x : Str} {px : Pos} {body : List Stmt} {Q : Flow → Shared → Prop} {l : Addr} {its : Array Value} {k : Nat}
    (hh : A.handled = none) (hx : env.kindOf x = some .local) (hp : (env.scope.kind == .class || (env.scope.kind == .module && env.locals != env.globals)) = false) (hL : env.locals = L)
    (J : Nat → (Str → Option Value) → List (Addr × Obj) → Array GenState → Prop) (hl : ∀ i m' news' g', J i m' news' g' → (l, listOf its k) ∈ news')
    (F : Fr h₀ L s.heap m) (N : News h₀ L s.heap news) (h0 : J 0 m news s.gens)
    (turn : ∀ i v m' news' g' h tk I o, its[i]? = some v → J i m' news' g' → Fr h₀ L h (fun y => if y = x then some v else m' y) → News h₀ L h ((I, o) :: news') → (∀ p ∈ news', p.1 ≠ I) →
      wpAny (model prog w) A (execs body env) (TurnPost h₀ L (J (i + 1)) I o s Q) (fun _ _ => False) { s with heap := h, toks := tk, gens := g' })
    (done : ∀ m' news' g' h tk, J its.size m' news' g' → Fr h₀ L h m' → News h₀ L h news' → Q .next { s with heap := h, toks := tk, gens := g' }) :
    wpAny (model prog w) A (pyIter (.ref l)) (fun it s₂ => ForAt prog w A (.Name x px) env body Q it s₂) E s := by
  have hm := hl _ _ _ _ h0
  have hls : s.heap.IsList l its := ⟨_, (N _ hm).1, rfl, _, rfl⟩
  have hne : l ≠ s.heap.objs.size := Nat.ne_of_lt (Heap.lt_size (N _ hm).1)
  refine wpAny_pyIter_list hls ?_
  refine iter_walk (s := { s with heap := s.heap.push { cls := .type "list_iterator", data := .fields #[.ref l, .int 0 0] } }) (Walks.list hh s.heap.objs.size l hne its) hx hp hL (fun i h st => let ⟨o, e, _⟩ := st.1; ⟨o, e⟩) J
    (fun i h h' m' news' g' o hJ st e e' _ N' => ⟨?_, ⟨_, (N' _ (hl _ _ _ _ hJ)).1, rfl, _, rfl⟩⟩) ⟨⟨_, Heap.get?_push_size _ rfl, rfl, rfl⟩, hls.push _⟩ ?_ (F.push _) (fun p hp => ⟨Heap.get?_push_of_some _ (N p hp).1, (N p hp).2⟩) (Nat.ne_of_lt F.ns.lt) (next_is_new F) (fun p hp => Nat.ne_of_lt (Heap.lt_size (N p hp).1)) h0
    (fun i v m' news' g' h tk o _ hv hJ F' N' off => turn i v m' news' g' h tk _ o hv hJ F' N' off) (fun m' news' g' h tk hJ F' N' => done m' news' g' h tk hJ F' N')
  · obtain ⟨o', q, r⟩ := st.1
    rw [e] at q; cases q
    exact ⟨o, e', r⟩
  · intro q
    rcases List.mem_cons.mp q with q | q
    · exact absurd F.ns.lt (q ▸ Nat.lt_irrefl _)
    · exact (N _ hm).2.1 (List.mem_singleton.mp q).symm
/-- the same over a tuple -/
theorem iter_tuple {x : Str} {px : Pos} {body : List Stmt} {Q : Flow → Shared → Prop} {l : Addr} {its : Array Value} {k : Nat}
    (hh : A.handled = none) (hx : env.kindOf x = some .local) (hp : (env.scope.kind == .class || (env.scope.kind == .module && env.locals != env.globals)) = false) (hL : env.locals = L)
    (J : Nat → (Str → Option Value) → List (Addr × Obj) → Array GenState → Prop) (hl : ∀ i m' news' g', J i m' news' g' → (l, ({ cls := .type "tuple", data := .seq its k } : Obj)) ∈ news')
    (F : Fr h₀ L s.heap m) (N : News h₀ L s.heap news) (h0 : J 0 m news s.gens)
    (turn : ∀ i v m' news' g' h tk I o, its[i]? = some v → J i m' news' g' → Fr h₀ L h (fun y => if y = x then some v else m' y) → News h₀ L h ((I, o) :: news') → (∀ p ∈ news', p.1 ≠ I) →
      wpAny (model prog w) A (execs body env) (TurnPost h₀ L (J (i + 1)) I o s Q) (fun _ _ => False) { s with heap := h, toks := tk, gens := g' })
    (done : ∀ m' news' g' h tk, J its.size m' news' g' → Fr h₀ L h m' → News h₀ L h news' → Q .next { s with heap := h, toks := tk, gens := g' }) :
    wpAny (model prog w) A (pyIter (.ref l)) (fun it s₂ => ForAt prog w A (.Name x px) env body Q it s₂) E s := by
  have hm := hl _ _ _ _ h0
  have hls : s.heap.IsTuple l its := ⟨_, (N _ hm).1, rfl, _, rfl⟩
  have hne : l ≠ s.heap.objs.size := Nat.ne_of_lt (Heap.lt_size (N _ hm).1)
  refine wpAny_pyIter_tuple hls ?_
  refine iter_walk (s := { s with heap := s.heap.push { cls := .type "tuple_iterator", data := .fields #[.ref l, .int 0 0] } }) (Walks.tuple hh s.heap.objs.size l hne its) hx hp hL (fun i h st => let ⟨o, e, _⟩ := st.1; ⟨o, e⟩) J
    (fun i h h' m' news' g' o hJ st e e' _ N' => ⟨?_, ⟨_, (N' _ (hl _ _ _ _ hJ)).1, rfl, _, rfl⟩⟩) ⟨⟨_, Heap.get?_push_size _ rfl, rfl, rfl⟩, hls.at fun o e => Heap.get?_push_of_some _ e⟩ ?_ (F.push _) (fun p hp => ⟨Heap.get?_push_of_some _ (N p hp).1, (N p hp).2⟩) (Nat.ne_of_lt F.ns.lt) (next_is_new F) (fun p hp => Nat.ne_of_lt (Heap.lt_size (N p hp).1)) h0
    (fun i v m' news' g' h tk o _ hv hJ F' N' off => turn i v m' news' g' h tk _ o hv hJ F' N' off) (fun m' news' g' h tk hJ F' N' => done m' news' g' h tk hJ F' N')
  · obtain ⟨o', q, r⟩ := st.1
    rw [e] at q; cases q
    exact ⟨o, e', r⟩
  · intro q
    rcases List.mem_cons.mp q with q | q
    · exact absurd F.ns.lt (q ▸ Nat.lt_irrefl _)
    · exact (N _ hm).2.1 (List.mem_singleton.mp q).symm
/-- a range by ones -/
theorem iter_range {x : Str} {px : Pos} {body : List Stmt} {Q : Flow → Shared → Prop} {r : Addr} {a b : Int} {t u v : Tok} {n : Nat}
    (hh : A.handled = none) (hx : env.kindOf x = some .local) (hp : (env.scope.kind == .class || (env.scope.kind == .module && env.locals != env.globals)) = false) (hL : env.locals = L)
    (hr : IsRange s.heap r a b 1 t u v) (hsm : Builtin.Range.small a b 1 = true) (hn : Builtin.Range.rangeSize a b 1 = ((n : Nat) : Int))
    (J : Nat → (Str → Option Value) → List (Addr × Obj) → Array GenState → Prop)
    (F : Fr h₀ L s.heap m) (N : News h₀ L s.heap news) (h0 : J 0 m news s.gens)
    (turn : ∀ (i : Nat) ti m' news' g' h tk I o, i < n → J i m' news' g' → Fr h₀ L h (fun y => if y = x then some (.int (a + (i : Int)) ti) else m' y) → News h₀ L h ((I, o) :: news') → (∀ p ∈ news', p.1 ≠ I) →
      wpAny (model prog w) A (execs body env) (TurnPost h₀ L (J (i + 1)) I o s Q) (fun _ _ => False) { s with heap := h, toks := tk, gens := g' })
    (done : ∀ m' news' g' h tk, J n m' news' g' → Fr h₀ L h m' → News h₀ L h news' → Q .next { s with heap := h, toks := tk, gens := g' }) :
    wpAny (model prog w) A (pyIter (.ref r)) (fun it s₂ => ForAt prog w A (.Name x px) env body Q it s₂) E s := by
  refine wpAny_pyIter_range hr hsm ?_
  refine iter_walk (s := { s with heap := s.heap.push _ }) (LCg.range_walks hh a n) hx hp hL (fun i h st => ⟨_, st⟩) J
    (fun i h h' m' news' g' o hJ st e e' k N' => LCg.range_st (h₀ := h₀) (L := L) i h h' o news' st e e' k N' trivial) (by show IsRangeIter _ _ _ _ _; rw [hn]; simpa using Heap.get?_push_size _ rfl) ?_ (F.push _) (fun p hp => ⟨Heap.get?_push_of_some _ (N p hp).1, (N p hp).2⟩) (Nat.ne_of_lt F.ns.lt) (next_is_new F) (fun p hp => Nat.ne_of_lt (Heap.lt_size (N p hp).1)) h0
    (fun i v m' news' g' h tk o hi hv hJ F' N' off => ?_) (fun m' news' g' h tk hJ F' N' => done m' news' g' h tk hJ F' N')
  · intro q
    exact absurd F.ns.lt (by rw [List.mem_singleton.mp q]; exact Nat.lt_irrefl _)
  · obtain ⟨ti, rfl⟩ := hv
    exact turn i ti m' news' g' h tk _ o hi hJ F' N' off
/-- a tuple of one item: one turn, and on -/
theorem iter_tuple1 {x : Str} {px : Pos} {body : List Stmt} {Q : Flow → Shared → Prop} {l : Addr} {v : Value} {k : Nat}
    (hh : A.handled = none) (hx : env.kindOf x = some .local) (hp : (env.scope.kind == .class || (env.scope.kind == .module && env.locals != env.globals)) = false) (hL : env.locals = L)
    (F : Fr h₀ L s.heap m) (N : News h₀ L s.heap news) (hl : (l, ({ cls := .type "tuple", data := .seq #[v] k } : Obj)) ∈ news)
    (turn : ∀ h tk I o, Fr h₀ L h (fun y => if y = x then some v else m y) → News h₀ L h ((I, o) :: news) → (∀ p ∈ news, p.1 ≠ I) →
      wpAny (model prog w) A (execs body env) (TurnPost h₀ L (fun m' news' g' => (l, ({ cls := .type "tuple", data := .seq #[v] k } : Obj)) ∈ news' ∧ ∀ h tk, Fr h₀ L h m' → News h₀ L h news' → Q .next { s with heap := h, toks := tk, gens := g' }) I o s Q) (fun _ _ => False) { s with heap := h, toks := tk }) :
    wpAny (model prog w) A (pyIter (.ref l)) (fun it s₂ => ForAt prog w A (.Name x px) env body Q it s₂) E s := by
  refine iter_tuple hh hx hp hL (fun i m' news' g' => (l, ({ cls := .type "tuple", data := .seq #[v] k } : Obj)) ∈ news' ∧ match i with
    | 0 => m' = m ∧ news' = news ∧ g' = s.gens
    | _ => ∀ h tk, Fr h₀ L h m' → News h₀ L h news' → Q .next { s with heap := h, toks := tk, gens := g' }) (fun _ _ _ _ h => h.1) F N ⟨hl, rfl, rfl, rfl⟩ ?_ ?_
  · rintro i v' m' news' g' h tk I o hv ⟨_, hJ⟩ F' N' off
    cases i with
    | succ i => simp at hv
    | zero =>
      obtain ⟨rfl, rfl, rfl⟩ := hJ
      obtain rfl : v = v' := by simpa using hv
      exact turn h tk I o F' N' off
  · rintro m' news' g' h tk ⟨_, hJ⟩ F' N'
    exact hJ h tk F' N'
theorem Fr.named {h : Heap} (F : Fr h₀ L h m) : ∃ m0, m0 = m ∧ Fr h₀ L h m0 := ⟨m, rfl, F⟩
theorem News.named {h : Heap} (N : News h₀ L h news) : ∃ n0, n0 = news ∧ News h₀ L h n0 := ⟨news, rfl, N⟩
end
theorem strValues_at {l : List (Str × Tok)} {i : Nat} {v : Value} (h : (strValues l).toArray[i]? = some v) : ∃ p, l[i]? = some p ∧ v = .str p.1 p.2 := by
  simp only [strValues, List.getElem?_toArray, List.getElem?_map] at h
  cases e : l[i]? with
  | none => rw [e] at h; cases h
  | some p => rw [e] at h; exact ⟨p, rfl, (Option.some.inj h).symm⟩
end Mine
end

-- part S1
section
open PySem PySem.W PyProof.Rows PySem.Calls
set_option Elab.async false
set_option maxRecDepth 100000
set_option maxHeartbeats 8000000
set_option linter.unusedVariables false
namespace Mine

open PySem.Builtin PySem.Builtin.Str
theorem str_join_eq (sep : Str) (l : List Str) : Txt.join sep l = Str.join sep l := StrLaws.glued_eq_join sep l
theorem join_split_slash (x : Str) : Txt.join (Str.ofString "/") (Txt.split x (Str.ofString "/")) = x := by rw [str_join_eq, StrLaws.join_split]
theorem sum_split (x : Str) : ((Txt.split x (Str.ofString "/")).map (·.length)).sum + ((Txt.split x (Str.ofString "/")).length - 1) = x.length := by
  have h := size_glued (Str.ofString "/") (Txt.split x (Str.ofString "/"))
  have e : glued (Str.ofString "/") (Txt.split x (Str.ofString "/")) = x := join_split_slash x
  rw [e] at h
  have : (Str.ofString "/").length = 1 := by decide +kernel
  rw [this, Nat.mul_one] at h
  exact h.symm
theorem split_joinOk {x : Str} (h : x.length ≤ 1000000) : JoinOk (Str.ofString "/") (Txt.split x (Str.ofString "/")) = true := by
  refine joinOk_of ?_
  have h1 := sum_split x
  have : (Str.ofString "/").length = 1 := by decide +kernel
  rw [this]
  omega
theorem allLt_mem {d : Nat} : ∀ {l : List (Addr × Obj)}, AllLt d l → ∀ p ∈ l, p.1 < d
  | [], _, _, h => nomatch h
  | _ :: _, x, p, h => (List.mem_cons.mp h).elim (fun e => e ▸ x.1) fun h => allLt_mem x.2 p h
theorem News.named2 {h₀ h : Heap} {L l : Addr} {o : Obj} {news : List (Addr × Obj)} (N : News h₀ L h ((l, o) :: news)) : ∃ lr, lr = l ∧ News h₀ L h ((lr, o) :: news) := ⟨l, rfl, N⟩
theorem str_len0 {x : Str} : x.length = 0 ↔ x = Str.ofString "" := by
  constructor
  · intro h
    have h' : x.cps.size = 0 := h
    have e1 : x.cps = #[] := Array.eq_empty_of_size_eq_zero h'
    have e2 : (Str.ofString "").cps = #[] := by decide +kernel
    cases x; simp_all
    cases he : Str.ofString ""
    simp_all
  · rintro rfl; decide +kernel
theorem News.lst {h₀ h : Heap} {L l : Addr} {its : Array Value} {k : Nat} {news : List (Addr × Obj)} (N : News h₀ L h news) (hm : (l, listOf its k) ∈ news) : h.IsList l its := ⟨_, (N _ hm).1, rfl, _, rfl⟩
theorem ofString_empty_append (x : Str) : Str.ofString "" ++ x = x := by
  have e : Str.ofString "" = Str.empty := by decide +kernel
  rw [e, Str.empty_append]
theorem map_again {x : Str} {a u : Option Value} {m : Str → Option Value} : (fun y => if y = x then a else if y = x then u else m y) = fun y => if y = x then a else m y := by
  funext y; by_cases h : y = x <;> simp [h]
end Mine
end

-- part S2
section
open PySem PySem.W PyProof.Rows PySem.Calls
set_option Elab.async false
set_option maxRecDepth 100000
set_option maxHeartbeats 8000000
set_option linter.unusedVariables false
namespace Mine

theorem range_size1 (n : Nat) : Builtin.Range.rangeSize 0 (n : Int) 1 = (n : Int) := by
  rw [rangeSize_pos (by decide) (by omega)]
  omega
set_option maxRecDepth 20000 in
theorem range_small1 {n : Nat} (h : n ≤ 1000) : Builtin.Range.small 0 (n : Int) 1 = true := by
  have e := range_size1 n
  have f : ∀ z : Int, 0 ≤ z → z ≤ 2000 → Builtin.Range.rangeFitsLong z = true := by
    intro z h1 h2
    unfold Builtin.Range.rangeFitsLong
    rw [Bool.and_eq_true, decide_eq_true_eq, decide_eq_true_eq]
    omega
  unfold Builtin.Range.small
  rw [e, f 0 (by decide) (by decide), f n (by omega) (by omega), f 1 (by decide) (by decide), if_pos (by decide), f _ (by omega) (by omega), Bool.or_true]
  rfl
end Mine
end

-- part C1
section
open PySem PySem.W PyProof.Rows PySem.Calls
set_option Elab.async false
set_option maxRecDepth 100000
set_option maxHeartbeats 8000000
set_option linter.unusedVariables false
namespace Mine

noncomputable def joinS (x y : Str) : Str :=
  if Txt.startswith y (Str.ofString "/") = true then y else if x.length = 0 then y else if Txt.endswith x (Str.ofString "/") = true then x ++ y else x ++ (Str.ofString "/" ++ y)
section
variable {w : World} {mean : ExcName → Option Value} {mg mb : Str → Option Value} {dp un : Nat} {gd : Option (List Code)} {cn : Str} {cnm : List (Str × NameKind)} {cig cic : Bool} {cmo : List (Str × Const)} {a : Addr} {ccd : Value} {cl : List (Str × Addr)} {outer : List Env} {A₀ : Around} {base h₀ : Heap} {L : Addr} {m : Str → Option Value} {news : List (Addr × Obj)} {s : Shared} {Q E : Value → Shared → Prop}

theorem join_c {x y : Str} {t t1 : Tok} (B : Below A₀ base outer h₀) (F : Fr h₀ L s.heap m) (X : (hd.heap_1 w.params).In h₀) (N : News h₀ L s.heap news) (T : Top view (looseW view []) mean mg mb h₀) (hdp : dp ≤ 800) (hun : un ≤ 8000) (hx : x.length ≤ 500000) (hy : y.length ≤ 500000)
    (ret : ∀ r t' h' tk', r = joinS x y → Fr h₀ L h' m → News h₀ L h' news → Q (.str r t') { s with heap := h', toks := tk' }) :
    wpAny (model Challenge.rw_pd0152_01.row.prog w) { handled := none, depth := dp, frames := some (envX cn { kind := .function, names := cnm, isGenerator := cig, isCoroutine := cic, more := cmo } L a ccd cl :: outer), guards := gd, units := un } (call (.ref 115) [.str x t, .str y t1]) Q E s := by
  k_with_none
  k_with "call ref" => (k_here; (with_reducible show wpAny _ _ (call (Value.ref 94) _) _ _ _); k_dflt (refine' fspath_c ?zqk1 ?zqk2 ?zqk3 ?zqk4 ?zqk5 ?zqk6 ?zqk7 ?_; (case zqk1 => k_asm); (case zqk2 => k_asm); (case zqk3 => k_asm); (case zqk4 => k_asm); (case zqk5 => k_asm); (case zqk6 => exact Nat.le_of_ble_eq_true rfl); (case zqk7 => exact Nat.le_of_ble_eq_true rfl); k_whole); intro zqh' zqtk' zqF' zqN'; (try dsimp only); (try k_fold))
  k_with "call ref" => (k_here; (with_reducible show wpAny _ _ (call (Value.ref 108) _) _ _ _); k_dflt (refine' get_sep_c ?zqk1 ?zqk2 ?zqk3 ?zqk4 ?zqk5 ?zqk6 ?zqk7 ?_; (case zqk1 => k_asm); (case zqk2 => k_asm); (case zqk3 => k_asm); (case zqk4 => k_asm); (case zqk5 => k_asm); (case zqk6 => exact Nat.le_of_ble_eq_true rfl); (case zqk7 => exact Nat.le_of_ble_eq_true rfl); k_whole); intro zqt' zqh' zqtk' zqF' zqN'; (try dsimp only); (try k_fold))
  revert X; k_fill; intro X
  refine upto hdp hun ?_
  k_steps
  refine forStmt ?_
  k_steps
  refine iter_tuple1 rfl rfl rfl rfl (by k_asm) (by k_asm) (.head _) ?_
  intro h₁ tk₁ I o F₁ N₁ off
  k_steps
  all_goals (
    refine Turned.mk (by k_asm) (by k_asm) (fun p hp => hp) off ⟨.head _, ?_⟩
    intro h₂ tk₂ F₂ N₂
    k_steps)
  all_goals exact ret _ _ _ _ (by clear ret; simp [joinS, *] <;> omega) (by k_asm) (cb_drop (by k_asm) fun p hp => .tail _ hp)
end
end Mine
end

-- part C2
section
open PySem PySem.W PyProof.Rows PySem.Calls
set_option Elab.async false
set_option maxRecDepth 100000
set_option maxHeartbeats 8000000
set_option linter.unusedVariables false
namespace Mine

noncomputable def cutH (x : Str) : Str := Txt.slice x none (some (Txt.rfind x (Str.ofString "/") + 1))
noncomputable def splitT (x : Str) : Str := Txt.slice x (some (Txt.rfind x (Str.ofString "/") + 1)) none
noncomputable def splitH (x : Str) : Str :=
  if (cutH x).length = 0 then cutH x else if (cutH x != Txt.mul (Str.ofString "/") ((cutH x).length : Int)) = true then Txt.rstripChars (cutH x) (Str.ofString "/") else cutH x
theorem splitH_a {x : Str} (h : ((Txt.slice x none (some (Txt.rfind x (Str.ofString "/") + 1))).length : Int) = 0) : (Txt.slice x none (some (Txt.rfind x (Str.ofString "/") + 1))) = splitH x := by show cutH x = _; unfold splitH; rw [if_pos (by have h : ((cutH x).length : Int) = 0 := h; omega)]
theorem splitH_b {x : Str} (h : ¬ ((Txt.slice x none (some (Txt.rfind x (Str.ofString "/") + 1))).length : Int) = 0) (h2 : ((Txt.slice x none (some (Txt.rfind x (Str.ofString "/") + 1))) != Txt.mul (Str.ofString "/") ((Txt.slice x none (some (Txt.rfind x (Str.ofString "/") + 1))).length : Int)) = true) : Txt.rstripChars (Txt.slice x none (some (Txt.rfind x (Str.ofString "/") + 1))) (Str.ofString "/") = splitH x := by
  show Txt.rstripChars (cutH x) _ = _; unfold splitH; rw [if_neg (by have h : ¬ ((cutH x).length : Int) = 0 := h; omega)]; exact (if_pos h2).symm
theorem splitH_c {x : Str} (h : ¬ ((Txt.slice x none (some (Txt.rfind x (Str.ofString "/") + 1))).length : Int) = 0) (h2 : ((Txt.slice x none (some (Txt.rfind x (Str.ofString "/") + 1))) != Txt.mul (Str.ofString "/") ((Txt.slice x none (some (Txt.rfind x (Str.ofString "/") + 1))).length : Int)) = false) : (Txt.slice x none (some (Txt.rfind x (Str.ofString "/") + 1))) = splitH x := by
  show cutH x = _; unfold splitH; rw [if_neg (by have h : ¬ ((cutH x).length : Int) = 0 := h; omega)]; exact (if_neg (by show ¬ ((Txt.slice x none (some (Txt.rfind x (Str.ofString "/") + 1))) != Txt.mul (Str.ofString "/") ((Txt.slice x none (some (Txt.rfind x (Str.ofString "/") + 1))).length : Int)) = true; rw [h2]; exact Bool.false_ne_true)).symm
section
variable {w : World} {mean : ExcName → Option Value} {mg mb : Str → Option Value} {dp un : Nat} {gd : Option (List Code)} {cn : Str} {cnm : List (Str × NameKind)} {cig cic : Bool} {cmo : List (Str × Const)} {a : Addr} {ccd : Value} {cl : List (Str × Addr)} {outer : List Env} {A₀ : Around} {base h₀ : Heap} {L : Addr} {m : Str → Option Value} {news : List (Addr × Obj)} {s : Shared} {Q E : Value → Shared → Prop}

theorem split_c {x : Str} {t : Tok} (B : Below A₀ base outer h₀) (F : Fr h₀ L s.heap m) (X : (hd.heap_1 w.params).In h₀) (N : News h₀ L s.heap news) (T : Top view (looseW view []) mean mg mb h₀) (hdp : dp ≤ 800) (hun : un ≤ 8000) (hx : x.length ≤ 500000)
    (ret : ∀ D r1 r2 t1 t2 h' tk', r1 = splitH x → r2 = splitT x → Fr h₀ L h' m → News h₀ L h' ((D, { cls := .type "tuple", data := .seq #[.str r1 t1, .str r2 t2] }) :: news) → (∀ p ∈ news, p.1 < D) → Q (.ref D) { s with heap := h', toks := tk' }) :
    wpAny (model Challenge.rw_pd0152_01.row.prog w) { handled := none, depth := dp, frames := some (envX cn { kind := .function, names := cnm, isGenerator := cig, isCoroutine := cic, more := cmo } L a ccd cl :: outer), guards := gd, units := un } (call (.ref 122) [.str x t]) Q E s := by
  k_with_none
  k_with "call ref" => (k_here; (with_reducible show wpAny _ _ (call (Value.ref 94) _) _ _ _); k_dflt (refine' fspath_c ?zqk1 ?zqk2 ?zqk3 ?zqk4 ?zqk5 ?zqk6 ?zqk7 ?_; (case zqk1 => k_asm); (case zqk2 => k_asm); (case zqk3 => k_asm); (case zqk4 => k_asm); (case zqk5 => k_asm); (case zqk6 => exact Nat.le_of_ble_eq_true rfl); (case zqk7 => exact Nat.le_of_ble_eq_true rfl); k_whole); intro zqh' zqtk' zqF' zqN'; (try dsimp only); (try k_fold))
  k_with "call ref" => (k_here; (with_reducible show wpAny _ _ (call (Value.ref 108) _) _ _ _); k_dflt (refine' get_sep_c ?zqk1 ?zqk2 ?zqk3 ?zqk4 ?zqk5 ?zqk6 ?zqk7 ?_; (case zqk1 => k_asm); (case zqk2 => k_asm); (case zqk3 => k_asm); (case zqk4 => k_asm); (case zqk5 => k_asm); (case zqk6 => exact Nat.le_of_ble_eq_true rfl); (case zqk7 => exact Nat.le_of_ble_eq_true rfl); k_whole); intro zqt' zqh' zqtk' zqF' zqN'; (try dsimp only); (try k_fold))
  revert X; k_fill; intro X
  refine upto hdp hun ?_
  k_steps
  all_goals (
    (with_reducible rename (_ ∧ AllLt _ _) => lt9)
    refine ret _ _ _ _ _ _ _ ?_ ?_ (by k_asm) (cb_drop (news := _ :: news) (by with_reducible assumption) (fun p hp => by rcases List.mem_cons.mp hp with rfl | hp; exact .head _; exact .tail _ (.tail _ hp))) (allLt_mem lt9.2)
    · with_reducible first | exact splitH_b (by with_reducible assumption) (by with_reducible assumption) | exact splitH_c (by with_reducible assumption) (by with_reducible assumption) | exact splitH_a (by with_reducible assumption)
    · rfl)
end
end Mine
end

-- part C3
section
open PySem PySem.W PyProof.Rows PySem.Calls
set_option Elab.async false
set_option maxRecDepth 100000
set_option maxHeartbeats 8000000
set_option linter.unusedVariables false
namespace Mine

section
variable {w : World} {mean : ExcName → Option Value} {mg mb : Str → Option Value} {dp un : Nat} {gd : Option (List Code)} {cn : Str} {cnm : List (Str × NameKind)} {cig cic : Bool} {cmo : List (Str × Const)} {a : Addr} {ccd : Value} {cl : List (Str × Addr)} {outer : List Env} {A₀ : Around} {base h₀ : Heap} {L : Addr} {m : Str → Option Value} {news : List (Addr × Obj)} {s : Shared} {Q E : Value → Shared → Prop}

theorem splitroot_c {x : Str} {t : Tok} (B : Below A₀ base outer h₀) (F : Fr h₀ L s.heap m) (X : (hd.heap_1 w.params).In h₀) (N : News h₀ L s.heap news) (T : Top view (looseW view []) mean mg mb h₀) (hdp : dp ≤ 800) (hun : un ≤ 8000) (hx : x.length ≤ 500000) (h1 : (Txt.slice x none (some 1) != Str.ofString "/") = true)
    (ret : ∀ D t1 t2 h' tk', Fr h₀ L h' m → News h₀ L h' ((D, { cls := .type "tuple", data := .seq #[.str (Str.ofString "") t1, .str (Str.ofString "") t2, .str x t] }) :: news) → (∀ p ∈ news, p.1 < D) → Q (.ref D) { s with heap := h', toks := tk' }) :
    wpAny (model Challenge.rw_pd0152_01.row.prog w) { handled := none, depth := dp, frames := some (envX cn { kind := .function, names := cnm, isGenerator := cig, isCoroutine := cic, more := cmo } L a ccd cl :: outer), guards := gd, units := un } (call (.ref 129) [.str x t]) Q E s := by
  k_with_none
  k_with "call ref" => (k_here; (with_reducible show wpAny _ _ (call (Value.ref 94) _) _ _ _); k_dflt (refine' fspath_c ?zqk1 ?zqk2 ?zqk3 ?zqk4 ?zqk5 ?zqk6 ?zqk7 ?_; (case zqk1 => k_asm); (case zqk2 => k_asm); (case zqk3 => k_asm); (case zqk4 => k_asm); (case zqk5 => k_asm); (case zqk6 => exact Nat.le_of_ble_eq_true rfl); (case zqk7 => exact Nat.le_of_ble_eq_true rfl); k_whole); intro zqh' zqtk' zqF' zqN'; (try dsimp only); (try k_fold))
  k_with "call ref" => (k_here; (with_reducible show wpAny _ _ (call (Value.ref 108) _) _ _ _); k_dflt (refine' get_sep_c ?zqk1 ?zqk2 ?zqk3 ?zqk4 ?zqk5 ?zqk6 ?zqk7 ?_; (case zqk1 => k_asm); (case zqk2 => k_asm); (case zqk3 => k_asm); (case zqk4 => k_asm); (case zqk5 => k_asm); (case zqk6 => exact Nat.le_of_ble_eq_true rfl); (case zqk7 => exact Nat.le_of_ble_eq_true rfl); k_whole); intro zqt' zqh' zqtk' zqF' zqN'; (try dsimp only); (try k_fold))
  k_with "call ref" => (k_here; (with_reducible show wpAny _ _ (call (Value.ref 129) _) _ _ _); k_dflt (refine' splitroot_c ?zqk1 ?zqk2 ?zqk3 ?zqk4 ?zqk5 ?zqk6 ?zqk7 ?zqk8 ?zqk9 ?_; (case zqk1 => k_asm); (case zqk2 => k_asm); (case zqk3 => k_asm); (case zqk4 => k_asm); (case zqk5 => k_asm); (case zqk6 => exact Nat.le_of_ble_eq_true rfl); (case zqk7 => exact Nat.le_of_ble_eq_true rfl); (case zqk8 => (first | assumption | omega)); (case zqk9 => (with_reducible assumption)); k_whole); intro zqD' zqt1' zqt2' zqh' zqtk' zqF' zqN' zql1; (try dsimp only); (try k_fold))
  revert X; k_fill; intro X
  refine upto hdp hun ?_
  k_steps
  exact ret _ _ _ _ _ (by k_asm) (by with_reducible assumption) (by with_reducible assumption)
end
section
variable {prog : Program} {w : World} {A : Around} {E : Value → Shared → Prop} {s : Shared} {env : Env} {h₀ : Heap} {L : Addr} {m : Str → Option Value} {rest : List (Addr × Obj)}
/-- a loop over texts that lays each into a list of the call's own -/
theorem collect_loop {x : Str} {px : Pos} {body : List Stmt} {Q : Flow → Shared → Prop} {l : List (Str × Tok)} {lc ln : Addr} {k : Nat}
    (hh : A.handled = none) (hx : env.kindOf x = some .local) (hp : (env.scope.kind == .class || (env.scope.kind == .module && env.locals != env.globals)) = false) (hL : env.locals = L)
    (F : Fr h₀ L s.heap m) (N : News h₀ L s.heap ((ln, listOf #[] 0) :: (lc, listOf (strValues l).toArray k) :: rest))
    (turn : ∀ i p u h tk I o, l[i]? = some p → Fr h₀ L h (fun y => if y = x then some (.str p.1 p.2) else if y = x then u else m y) → News h₀ L h ((I, o) :: (ln, listOf (strValues (l.take i)).toArray i) :: (lc, listOf (strValues l).toArray k) :: rest) →
      (ln ≠ I ∧ lc ≠ I ∧ ∀ p ∈ rest, p.1 ≠ I) →
      wpAny (model prog w) A (execs body env) (TurnPost h₀ L (fun m' news' g' => g' = s.gens ∧ (∃ u, m' = fun y => if y = x then u else m y) ∧ news' = (ln, listOf (strValues (l.take (i + 1))).toArray (i + 1)) :: (lc, listOf (strValues l).toArray k) :: rest) I o s Q) (fun _ _ => False) { s with heap := h, toks := tk })
    (done : ∀ u h tk, Fr h₀ L h (fun y => if y = x then u else m y) → News h₀ L h ((ln, listOf (strValues l).toArray l.length) :: (lc, listOf (strValues l).toArray k) :: rest) → Q .next { s with heap := h, toks := tk }) :
    wpAny (model prog w) A (pyIter (.ref lc)) (fun it s₂ => ForAt prog w A (.Name x px) env body Q it s₂) E s := by
  refine iter_list (its := (strValues l).toArray) (k := k) hh hx hp hL (fun i m' news' g' => g' = s.gens ∧ (∃ u, m' = fun y => if y = x then u else m y) ∧ news' = (ln, listOf (strValues (l.take i)).toArray i) :: (lc, listOf (strValues l).toArray k) :: rest) ?_ F N ⟨rfl, ⟨m x, ?_⟩, ?_⟩ ?_ ?_
  · rintro i m' news' g' ⟨_, _, rfl⟩; exact .tail _ (.head _)
  · funext y; split
    · rename_i e; rw [e]
    · rfl
  · simp [strValues]
  · rintro i v m' news' g' h tk I o hv ⟨rfl, ⟨u, rfl⟩, rfl⟩ F' N' off
    obtain ⟨p, hp, rfl⟩ := strValues_at hv
    exact turn i p u h tk I o hp F' N' ⟨off _ (.head _), off _ (.tail _ (.head _)), fun p hp => off p (.tail _ (.tail _ hp))⟩
  · rintro m' news' g' h tk ⟨rfl, ⟨u, rfl⟩, rfl⟩ F' N'
    have e : (strValues l).toArray.size = l.length := by simp [strValues]
    rw [e, List.take_length] at N'
    exact done u h tk F' N'
theorem take_push {l : List (Str × Tok)} {i : Nat} {p : Str × Tok} (h : l[i]? = some p) : (strValues (l.take i)).toArray.push (.str p.1 p.2) = (strValues (l.take (i + 1))).toArray := by
  rw [List.take_add_one, h]
  simp [strValues]
end
local macro_rules | `(tactic| k_all) => `(tactic| with_reducible assumption)
section
variable {w : World} {mean : ExcName → Option Value} {mg mb : Str → Option Value} {dp un : Nat} {gd : Option (List Code)} {cn : Str} {cnm : List (Str × NameKind)} {cig cic : Bool} {cmo : List (Str × Const)} {a : Addr} {ccd : Value} {cl : List (Str × Addr)} {outer : List Env} {A₀ : Around} {base h₀ : Heap} {L : Addr} {m : Str → Option Value} {news : List (Addr × Obj)} {s : Shared} {Q E : Value → Shared → Prop}

theorem normpath_c {x : Str} {t : Tok} (B : Below A₀ base outer h₀) (F : Fr h₀ L s.heap m) (X : (hd.heap_1 w.params).In h₀) (N : News h₀ L s.heap news) (T : Top view (looseW view []) mean mg mb h₀) (hdp : dp ≤ 700) (hun : un ≤ 7000) (hx : x.length ≤ 500000) (hx0 : x.length ≠ 0) (h1 : (Txt.slice x none (some 1) != Str.ofString "/") = true)
    (hc : ∀ c ∈ Txt.split x (Str.ofString "/"), c ≠ Str.ofString "" ∧ c ≠ Str.ofString "." ∧ c ≠ Str.ofString "..")
    (ret : ∀ t h' tk', Fr h₀ L h' m → News h₀ L h' news → Q (.str x t) { s with heap := h', toks := tk' }) :
    wpAny (model Challenge.rw_pd0152_01.row.prog w) { handled := none, depth := dp, frames := some (envX cn { kind := .function, names := cnm, isGenerator := cig, isCoroutine := cic, more := cmo } L a ccd cl :: outer), guards := gd, units := un } (call (.ref 136) [.str x t]) Q E s := by
  k_with_none
  k_with "call ref" => (k_here; (with_reducible show wpAny _ _ (call (Value.ref 94) _) _ _ _); k_dflt (refine' fspath_c ?zqk1 ?zqk2 ?zqk3 ?zqk4 ?zqk5 ?zqk6 ?zqk7 ?_; (case zqk1 => k_asm); (case zqk2 => k_asm); (case zqk3 => k_asm); (case zqk4 => k_asm); (case zqk5 => k_asm); (case zqk6 => exact Nat.le_of_ble_eq_true rfl); (case zqk7 => exact Nat.le_of_ble_eq_true rfl); k_whole); intro zqh' zqtk' zqF' zqN'; (try dsimp only); (try k_fold))
  k_with "call ref" => (k_here; (with_reducible show wpAny _ _ (call (Value.ref 108) _) _ _ _); k_dflt (refine' get_sep_c ?zqk1 ?zqk2 ?zqk3 ?zqk4 ?zqk5 ?zqk6 ?zqk7 ?_; (case zqk1 => k_asm); (case zqk2 => k_asm); (case zqk3 => k_asm); (case zqk4 => k_asm); (case zqk5 => k_asm); (case zqk6 => exact Nat.le_of_ble_eq_true rfl); (case zqk7 => exact Nat.le_of_ble_eq_true rfl); k_whole); intro zqt' zqh' zqtk' zqF' zqN'; (try dsimp only); (try k_fold))
  k_with "call ref" => (k_here; (with_reducible show wpAny _ _ (call (Value.ref 129) _) _ _ _); k_dflt (refine' splitroot_c ?zqk1 ?zqk2 ?zqk3 ?zqk4 ?zqk5 ?zqk6 ?zqk7 ?zqk8 ?zqk9 ?_; (case zqk1 => k_asm); (case zqk2 => k_asm); (case zqk3 => k_asm); (case zqk4 => k_asm); (case zqk5 => k_asm); (case zqk6 => exact Nat.le_of_ble_eq_true rfl); (case zqk7 => exact Nat.le_of_ble_eq_true rfl); (case zqk8 => (first | assumption | omega)); (case zqk9 => (with_reducible assumption)); k_whole); intro zqD' zqt1' zqt2' zqh' zqtk' zqF' zqN' zql1; (try dsimp only); (try k_fold))
  revert X; k_fill; intro X
  refine upto hdp hun ?_
  k_steps
  rotate_left
  · exfalso; omega
  refine forStmt ?_
  k_steps
  refine collect_loop rfl rfl rfl rfl (by k_asm) (by k_asm) ?_ ?_
  · intro i p u h₁ tk₁ I o hp F₁ N₁ off
    with_reducible rename List.map _ _ = Txt.split _ _ => hq
    with_reducible rename (∀ (a : Str), a ∈ List.map _ _ → a.length ≤ _) => hb
    have hpm := List.mem_map_of_mem (f := fun (x : Str × Tok) => x.fst) (List.mem_of_getElem? hp)
    have f1 := hb _ hpm
    have hpm' : p.1 ∈ Txt.split x (Str.ofString "/") := hq ▸ hpm
    have f0 := hc _ hpm'
    have f2 : p.1.length ≤ 500000 := Nat.le_trans f1 hx
    have f3 : ¬ (p.1.length : Int) = 0 := fun e => f0.1 (str_len0.mp (by omega))
    have f4 : (p.1 == Str.ofString ".") = false := by simpa using f0.2.1
    have f5 : (p.1 != Str.ofString "..") = true := by simpa using f0.2.2
    clear f0 hpm hpm'
    obtain ⟨o1, o2, o3⟩ := off
    with_reducible rename (_ ∧ _ ∧ AllLt _ _) => l9
    have oN := fun p hp => Nat.ne_of_lt (allLt_mem l9.2.2 p hp)
    have hi : i ≤ 1000000 := by
      have h1 := sum_split x
      rw [← hq, List.length_map] at h1
      have h2 := (List.getElem?_eq_some_iff.mp hp).1
      omega
    k_steps
    · with_reducible rename Fr _ _ _ _ => F9
      with_reducible rename News _ _ _ _ => N9
      refine append_K F9 N9 (.tail (Ne.symm o1) (.head ?_)) ?_ ?_
      · intro q hq
        rcases List.mem_cons.mp hq with rfl | hq
        · exact Nat.ne_of_lt l9.1
        rcases List.mem_cons.mp hq with rfl | hq
        · exact Nat.ne_of_lt l9.2.1
        · exact oN q hq
      · intro h₃ F₃ N₃
        k_steps
        with_reducible rename Fr _ _ _ _ => F9
        with_reducible rename News _ _ _ _ => N9
        refine Turned.mk F9 N9 (fun p hp => hp) ?_ ?_
        · intro q hq
          rcases List.mem_cons.mp hq with rfl | hq
          · exact o1
          rcases List.mem_cons.mp hq with rfl | hq
          · exact o2
          · exact o3 q hq
        · refine ⟨rfl, ⟨some (.str p.1 p.2), ?_⟩, ?_⟩
          · exact map_again
          · rw [← take_push hp]
      · show (strValues (List.take i _)).toArray.size ≤ sizeLine
        rw [sizeLine_eq]
        simp [strValues]
        omega
    · exact absurd (by with_reducible assumption) f3
  · intro u h₁ tk₁ F₁ N₁
    k_steps
    with_reducible rename List.map _ _ = Txt.split _ _ => hq
    with_reducible rename News _ _ _ _ => N9
    refine SC.join (News.lst N9 (.head _)) hq (split_joinOk (by omega)) ?_
    intro t9 k9
    rw [join_split_slash]
    k_steps
    rw [ofString_empty_append]
    k_steps
    · exact ret _ _ _ (by k_asm) (cb_drop (by with_reducible assumption) fun p hp => .tail _ (.tail _ (.tail _ hp)))
    · exfalso; omega
end
end Mine
end

-- part G1
section
open PySem PySem.W PyProof.Rows PySem.Calls
set_option Elab.async false
set_option maxRecDepth 100000
set_option maxHeartbeats 8000000
set_option linter.unusedVariables false
namespace Mine

open PySem.W.X
open Sem (wp)
section
variable {prog : Program} {w : World} {A : Around} {c : Code} {fs : List Frame} {s : Shared} {P : End → Shared → Prop} {env : Env}
  {K : Flow → Sem Fin} {H : Value → Sem Fin} {gd : Bool → Bool} {lv : List Value → List Value}
theorem x_wrap {α : Type} {m : Sem α} {K : α → Sem Fin} {H : Value → Sem Fin}
    (h : wpAny (model prog w) (A.over c fs) m (fun a s' => SegX (model prog w) A c (K a) fs s' P) (fun x s' => SegX (model prog w) A c (H x) fs s' P) s) : SegX (model prog w) A c (m.wrap K H gd lv) fs s P := by
  rintro Γ p rfl hΓ
  obtain ⟨e, s', hr, hq⟩ := runs_wrap_of_wp (Φ := fun e s' => e.quiet = true ∧ P e s') K H gd lv m (h (Γ.over fs) p (hΓ.over fs)) (fun a p' s' h' => h' Γ p' rfl hΓ) (fun x p' s' h' => h' Γ p' rfl hΓ)
  exact ⟨e, s', hr, hq⟩
theorem x_bind {α β : Type} {m : Sem α} {K : α → Sem β} {K' : β → Sem Fin} {H' : Value → Sem Fin}
    (h : wpAny (model prog w) (A.over c fs) m (fun a s' => SegX (model prog w) A c ((K a).wrap K' H' gd lv) fs s' P) (fun x s' => SegX (model prog w) A c (H' x) fs s' P) s) : SegX (model prog w) A c ((m >>= K).wrap K' H' gd lv) fs s P := by
  rw [Sem.bind_eq_wrap', Sem.wrap_wrap]; exact x_wrap h
theorem x_at {q : Pos} {k : Unit → Sem Fin} (h : SegX (model prog w) A c (k ()) fs s P) : SegX (model prog w) A c (.at q k) fs s P := s_skim prog w A c fs P s _ 1 h
theorem x_point {l : List Value} {k : Unit → Sem Fin} (h : SegX (model prog w) A c (k ()) fs s P) : SegX (model prog w) A c (.point l k) fs s P := s_skim prog w A c fs P s _ 1 h
theorem x_cons {st : Stmt} {rest : List Stmt} (h : SegX (model prog w) A c ((exec st env).wrap (fun f => match f with | .next => (execs rest env).wrap K H gd lv | f => K f) H gd lv) fs s P) :
    SegX (model prog w) A c ((execs (st :: rest) env).wrap K H gd lv) fs s P := by rw [execs_cons_wrap]; exact h
theorem x_nil (h : SegX (model prog w) A c (K .next) fs s P) : SegX (model prog w) A c ((execs [] env).wrap K H gd lv) fs s P := h
theorem x_func {body : List Stmt}
    (h : SegX (model prog w) A (.func body env) ((execs body env).wrap (fun f => .pure (.done (.ret (match f with | .ret v => v | _ => .none)))) (fun e => (leaving env e).wrap (fun _ => .raise e) .raise id id) id id) fs s P) :
    SegX (model prog w) A (.func body env) (denote table (.func body env)) fs s P := by
  show SegX _ A _ (.point [] fun _ => ((execs body env).onRaise (leaving env)) >>= _) fs s P
  refine x_point ?_
  rw [Sem.onRaise_eq_wrap, Sem.bind_eq_wrap', Sem.wrap_wrap]
  rw [Sem.wrap_congr (execs body env) _ _ (K' := fun f => .pure (.done (.ret (match f with | .ret v => v | _ => .none))))
    (H' := fun e => (leaving env e).wrap (fun _ => .raise e) .raise id id) (fun f => by cases f <;> rfl)
    (fun e => by rw [Sem.bind_eq_wrap, Sem.wrap_wrap]; rfl)]
  exact h
theorem x_if {test : Expr} {body orelse : List Stmt} {pos : Pos}
    (h : wpAny (model prog w) (A.over c fs) (isTrue test env (eval test env)) (fun b s' => SegX (model prog w) A c ((if b = true then execs body env else execs orelse env).wrap K H gd lv) fs s' P) (fun x s' => SegX (model prog w) A c (H x) fs s' P) s) :
    SegX (model prog w) A c ((exec (.If test body orelse pos) env).wrap K H gd lv) fs s P := by
  rw [show exec (.If test body orelse pos) env = (do standAt pos; if ← isTrue test env (eval test env) then execs body env else execs orelse env) from by first | rfl | (simp only [exec])]
  exact x_bind (wpAny_standAt (x_bind h))
theorem x_yield {e : Expr} {ypos pos : Pos} (hfs : splitAtGen fs = none) (hgd : gd false = false) (hfg : fs.any Frame.guarded = false)
    (h : wpAny (model prog w) (A.over c fs) (eval e env) (fun v s' => ∀ k l p, (∀ A' s'' P', SegX (model prog w) A' c (K .next) fs s'' P' → SegX (model prog w) A' c (k (.send .none)) fs s'' P') → P (.susp v false l k c p fs) s')
      (fun x s' => SegX (model prog w) A c (H x) fs s' P) s) (hco : env.scope.isCoroutine = false := by rfl) (hi : interactive env = false := by rfl) :
    SegX (model prog w) A c ((exec (.Expr (.Yield (some e) ypos) pos) env).wrap K H gd lv) fs s P := by
  rw [exec_Expr env _ pos hi rfl]
  show SegX _ A c (.at pos fun _ => ((eval e env >>= fun v => (standAt ypos >>= fun _ => yieldOut env v)) >>= fun x =>
    dropValue (.Yield (some e) ypos) pos x).wrap K H gd lv) fs s P
  have hy : ∀ v, yieldOut env v = yieldValue v := fun v => by simp only [yieldOut, hco, Bool.false_eq_true, if_false]
  simp only [hy]
  refine x_at ?_
  rw [Sem.bind_eq_wrap', Sem.bind_eq_wrap', Sem.wrap_wrap, Sem.wrap_wrap]
  refine x_wrap (wpAny_mono h (fun v s' h' => ?_) fun _ _ x => x)
  refine x_at ?_
  have hgf : (Bool.false : Bool) = gd false := hgd.symm
  show SegX _ A c (.yield v (gd false) _ _) fs s' P
  rw [hgd]
  refine s_yield prog w A c fs P s' v _ _ hfs hfg fun p => ?_
  exact h' _ _ p fun A' s'' P' hx => hx
theorem x_for {target iter : Expr} {body : List Stmt} {pos : Pos} (hs : ∀ x, foldedSetIterable iter env x = pure x)
    (h : wpAny (model prog w) (A.over c fs) (eval iter env) (fun xv s₁ => wpAny (model prog w) (A.over c fs) (pyIter xv) (fun it s₂ => ∀ p, SegX (model prog w) A (.forLoop target it body [] env) (denote table (.forLoop target it body [] env))
      (.ret (fun r => ((match r with | .ok f => (.pure f : Sem Flow) | .error e => .raise e).onRaise fun (x : Value) => do
        if (← field x 1) == Value.none then unsupported "frame.own-activation:exception-without-traceback"
        setFlight x env.frame).wrap K H gd lv) none (gd false) (lv []) c p [] :: fs) s₂ P) (fun x s' => SegX (model prog w) A c (H x) fs s' P) s₁) (fun x s' => SegX (model prog w) A c (H x) fs s' P) s) :
    SegX (model prog w) A c ((exec (.For target iter body [] pos) env).wrap K H gd lv) fs s P := by
  rw [exec_For]
  refine x_bind (wpAny_standAt (x_bind (wpAny_mono h (fun xv s₁ h₁ => x_bind (wpAny_of_eq (hs xv) (x_bind (wpAny_standAt (x_bind (wpAny_holding (wpAny_mono h₁ (fun it s₂ h₂ => ?_) fun _ _ e => e))))))) fun _ _ e => e)))
  exact s_call prog w A c fs P s₂ _ none _ _ _ h₂
end
/-- what a woken generator does -/
noncomputable def WakeP (prog : Program) (w : World) (A : Around) (gs : GenState) (s : Shared) (P : End → Shared → Prop) : Prop := match gs with
  | .fresh c => SegX (model prog w) A c (denote table c) [] s P
  | .suspended k _ c _ fs _ => SegX (model prog w) A c (k (.send .none)) fs s P
  | _ => False
section
variable {prog : Program} {w : World} {A : Around} {E : Value → Shared → Prop} {s : Shared}
theorem pyNext_wake {a : Addr} {g : Nat} {gs : GenState} {Q : Option Value → Shared → Prop} (hh : A.handled = none) (hl : s.heap.NoLimit) (hroom : A.depth < recursionLimit) (hg : s.heap.IsGen a g) (hgs : s.gens[g]? = some gs)
    (x : WakeP prog w A.in1 gs (s.setGen g .running) (fun e s₁ => match e with
      | .ret r => r = .ok (.ret .none) ∧ ∀ h', (∀ b o, s₁.heap.get? b = some o → h'.get? b = some o) → Q none { s₁.setGen g .finished with heap := h' }
      | .susp v gu l k c p fs => Q (some v) (s₁.setGen g (End.susp v gu l k c p fs).genState))) : wpAny (model prog w) A (pyNext (.ref a)) Q E s := by
  unfold pyNext
  refine wpAny_bind (wpAny_attempt (wpAny_callSpecial?_slot (name := Str.ofString "__next__") hg.typeIs slot_gen_next
    (wpAny_call_entry slot_gen_next hg.typeIs entry_gen_next ?_ (args_gen_next _))))
  show wpAny _ A.in1 (Builtin.Generator.genWake (.ref a) (.send .none)) _ _ s
  unfold Builtin.Generator.genWake
  refine wpAny_bind (wpAny_holding (wpAny_genNumber hg (wpAny_bind (wpAny_genState hgs ?_))))
  cases gs with
  | running => exact x.elim
  | finished => exact x.elim
  | fresh c₀ =>
    refine wpAny_bind (wpAny_roomToWake hl hroom ?_)
    show wpAny _ A.in1 (.resume g (.send .none) [] _) _ _ s
    refine fun Γ p hΓ => wake_any _ prog w hgs (.inl ⟨rfl, rfl, rfl, rfl⟩) (fun Γ => Γ.In A.in1) (fun _ h => h) (SegX.mono x fun e s₁ he => ?_) Γ p hΓ
    cases e with
    | ret r =>
      obtain ⟨rfl, hp⟩ := he
      show wpAny _ A.in1 (newExc (.type "StopIteration") [] >>= _) _ _ _
      refine wpAny_bind ?_
      simp only [newExc, newTuple]
      refine wpAny_bind (wpAny_newObj_type ?_ (by size_fits))
      refine wpAny_bind (m := firstArgMember _ _) (wpAny_of_eq (a := Value.none) (by first | rfl | (simp only [firstArgMember]; rfl)) ?_)
      refine wpAny_newObj_type ?_ (by size_fits)
      simp only [raiseNew]
      refine wpAny_bind (wpAny_bind (wpAny_handled ?_))
      first | rw [show A.in1.handled = none from hh] | rw [hh]
      refine wpAny_throw ?_
      refine wpAny_bind (wpAny_isInstance (T := "StopIteration") (b := true) ⟨_, Heap.get?_push_size _ rfl, rfl⟩ isSubtype_stop ?_)
      exact wpAny_pure (hp _ fun b o hb => Heap.get?_push_of_some _ (Heap.get?_push_of_some _ hb))
    | susp v gu l k c p fs => exact wpAny_pure ⟨v, rfl, wpAny_pure he⟩
  | suspended k₀ l₀ c₀ p₀ fs₀ cl =>
    refine wpAny_bind (wpAny_roomToWake hl hroom ?_)
    show wpAny _ A.in1 (.resume g (.send .none) [] _) _ _ s
    refine fun Γ p hΓ => wake_any _ prog w hgs (.inr ⟨k₀, l₀, p₀, cl, rfl, rfl⟩) (fun Γ => Γ.In A.in1) (fun _ h => h) (SegX.mono x fun e s₁ he => ?_) Γ p hΓ
    cases e with
    | ret r =>
      obtain ⟨rfl, hp⟩ := he
      show wpAny _ A.in1 (newExc (.type "StopIteration") [] >>= _) _ _ _
      refine wpAny_bind ?_
      simp only [newExc, newTuple]
      refine wpAny_bind (wpAny_newObj_type ?_ (by size_fits))
      refine wpAny_bind (m := firstArgMember _ _) (wpAny_of_eq (a := Value.none) (by first | rfl | (simp only [firstArgMember]; rfl)) ?_)
      refine wpAny_newObj_type ?_ (by size_fits)
      simp only [raiseNew]
      refine wpAny_bind (wpAny_bind (wpAny_handled ?_))
      first | rw [show A.in1.handled = none from hh] | rw [hh]
      refine wpAny_throw ?_
      refine wpAny_bind (wpAny_isInstance (T := "StopIteration") (b := true) ⟨_, Heap.get?_push_size _ rfl, rfl⟩ isSubtype_stop ?_)
      exact wpAny_pure (hp _ fun b o hb => Heap.get?_push_of_some _ (Heap.get?_push_of_some _ hb))
    | susp v gu l k c p fs => exact wpAny_pure ⟨v, rfl, wpAny_pure he⟩
end
end Mine
end

-- part G2
section
open PySem PySem.W PyProof.Rows PySem.Calls
set_option Elab.async false
set_option maxRecDepth 100000
set_option maxHeartbeats 8000000
set_option linter.unusedVariables false
namespace Mine

open PySem.W.X
open Sem (wp)
/-- the units that the generator gives, from place p on; esc: a backslash stands open -/
noncomputable def unitsL : Bool → Nat → List Nat → List (Nat × List Nat)
  | false, _, [] => []
  | true, p, [] => [(p - 1, [92])]
  | true, p, c :: r => (p, [92, c]) :: unitsL false (p + 1) r
  | false, p, c :: r => if c = 92 then unitsL true (p + 1) r else (p, [c]) :: unitsL false (p + 1) r
noncomputable def Since (oa : List Addr) (s₀ s : Shared) : Prop := ∃ h tk, s = { s₀ with heap := h, toks := tk } ∧ ∀ b o, b ∉ oa → s₀.heap.get? b = some o → h.get? b = some o
structure PreG (h₀ : Heap) (own : List (Addr × Obj)) (A : Around) (s : Shared) : Prop where
  hh : A.handled = none
  dep : A.depth ≤ 950
  uni : A.units ≤ 9500
  keep : ∀ b o, h₀.get? b = some o → s.heap.get? b = some o
  own : ∀ p ∈ own, s.heap.get? p.1 = some p.2
noncomputable def Ready (prog : Program) (w : World) (h₀ : Heap) : List (Nat × List Nat) → List (Addr × Obj) → GenState → Prop
  | [], own, gs => ∀ A s, PreG h₀ own A s → WakeP prog w A gs s (fun e s₁ => e = .ret (.ok (.ret .none)) ∧ Since (own.map (·.1)) s s₁)
  | u :: us, own, gs => ∀ A s, PreG h₀ own A s → WakeP prog w A gs s (fun e s₁ => ∃ T t1 t2 own' l k c p fs, e = .susp (.ref T) false l k c p fs ∧ s₁.heap.get? T = some { cls := .type "tuple", data := .seq #[.int u.1 t1, .str ⟨u.2.toArray⟩ t2] } ∧ (s.heap.get? T = none ∨ T ∈ own.map (·.1)) ∧
      Since (own.map (·.1)) s s₁ ∧ (∀ q ∈ own', s₁.heap.get? q.1 = some q.2 ∧ (q.1 ∈ own.map (·.1) ∨ s.heap.get? q.1 = none) ∧ q.1 ≠ T) ∧ e.genState.bare = true ∧ Ready prog w h₀ us own' e.genState)
noncomputable def StepP (prog : Program) (w : World) (h₀ : Heap) (oa : List Addr) (us : List (Nat × List Nat)) (s : Shared) (e : End) (s₁ : Shared) : Prop := match us with
  | [] => e = .ret (.ok (.ret .none)) ∧ Since oa s s₁
  | u :: us => ∃ T t1 t2 own' l k c p fs, e = .susp (.ref T) false l k c p fs ∧ s₁.heap.get? T = some { cls := .type "tuple", data := .seq #[.int u.1 t1, .str ⟨u.2.toArray⟩ t2] } ∧ (s.heap.get? T = none ∨ T ∈ oa) ∧
      Since oa s s₁ ∧ (∀ q ∈ own', s₁.heap.get? q.1 = some q.2 ∧ (q.1 ∈ oa ∨ s.heap.get? q.1 = none) ∧ q.1 ≠ T) ∧ e.genState.bare = true ∧ Ready prog w h₀ us own' e.genState
theorem ready_of {prog : Program} {w : World} {h₀ : Heap} {us : List (Nat × List Nat)} {own : List (Addr × Obj)} {gs : GenState} (h : ∀ A s, PreG h₀ own A s → WakeP prog w A gs s (StepP prog w h₀ (own.map (·.1)) us s)) : Ready prog w h₀ us own gs := by
  cases us <;> exact h
theorem Draws_str {prog : Program} {w : World} {A : Around} (hh : A.handled = none) (it : Addr) (x : Str) (t : Tok) :
    Draws prog w A it [it] x.cps.size (fun i v => ∃ c u, x.cps[i]? = some c ∧ v = .str ⟨#[c]⟩ u) (fun i h => h.IsStrIter it (strIterType x) x t i) := by
  unfold strIterType
  split
  · exact Draws.strAscii hh it x t
  · exact Draws.strWide hh it x t
theorem loop_ind {prog : Program} {w : World} {C : Code} {FR : List Frame} (Inv : Nat → Bool → Around → List Addr → Shared → Shared → Prop) (Post : Nat → Bool → List Addr → Shared → End → Shared → Prop) (n : Nat)
    (step : ∀ i esc A oa s₀ s, i ≤ n → Inv i esc A oa s₀ s → (∀ esc' A' oa' s₀' s', i < n → Inv (i + 1) esc' A' oa' s₀' s' → SegX (model prog w) A' C (denote table C) FR s' (Post (i + 1) esc' oa' s₀')) → SegX (model prog w) A C (denote table C) FR s (Post i esc oa s₀)) :
    ∀ i esc A oa s₀ s, i ≤ n → Inv i esc A oa s₀ s → SegX (model prog w) A C (denote table C) FR s (Post i esc oa s₀) := by
  have key : ∀ k i esc A oa s₀ s, n - i = k → i ≤ n → Inv i esc A oa s₀ s → SegX (model prog w) A C (denote table C) FR s (Post i esc oa s₀) := by
    intro k
    induction k with
    | zero =>
      intro i esc A oa s₀ s hk hi hI
      exact step i esc A oa s₀ s hi hI fun _ _ _ _ _ h => absurd h (by omega)
    | succ k ih =>
      intro i esc A oa s₀ s hk hi hI
      exact step i esc A oa s₀ s hi hI fun esc' A' oa' s₀' s' hlt hI' => ih (i + 1) esc' A' oa' s₀' s' (by omega) hlt hI'
  exact fun i esc A oa s₀ s hi hI => key _ i esc A oa s₀ s rfl hi hI
section
variable {prog : Program} {w : World} {A : Around} {E : Value → Shared → Prop} {s : Shared} {env : Env} {h₀ : Heap} {L : Addr} {m : Str → Option Value} {news : List (Addr × Obj)}
theorem assign_pair {x1 x2 : Str} {p1 p2 pos : Pos} {k} {T : Addr} {v1 v2 : Value} {Q : Unit → Shared → Prop} (hh : A.handled = none) (ht : s.heap.IsTuple T #[v1, v2]) (F : Fr h₀ L s.heap m) (N : News h₀ L s.heap news) (hL : env.locals = L)
    (hx1 : env.kindOf x1 = some .local) (hx2 : env.kindOf x2 = some .local) (hp : (env.scope.kind == .class || (env.scope.kind == .module && env.locals != env.globals)) = false)
    (h : ∀ h' tk', Fr h₀ L h' (fun y => if y = x2 then some v2 else if y = x1 then some v1 else m y) → News h₀ L h' news → Q () { s with heap := h', toks := tk' }) :
    wpAny (model prog w) A (assign (.Tuple [.Name x1 p1, .Name x2 p2] k pos) env (.ref T)) Q E s := by
  subst hL
  refine wpAny_assign_Tuple hh ht rfl rfl fun h₃ hx₃ => ?_
  have hlt : ∀ b o, s.heap.get? b = some o → h₃.get? b = some o := fun b o e => hx₃ b o (Nat.ne_of_lt (Heap.lt_size e)) e
  have F₃ : Fr h₀ env.locals h₃ m := F.keeps hlt
  have N₃ : News h₀ env.locals h₃ news := N.grown hlt
  show wpAny _ A (do holding [v2] (assign (.Name x1 p1) env v1); do holding [] (assign (.Name x2 p2) env v2); pure ()) _ _ _
  refine wpAny_bind (wpAny_holding (wpAny_assign_Name (wpAny_storeName_local hx1 F₃.ns (fun h₄ hn₄ hs₄ => ?_) hp)))
  have F₄ := F₃.set hn₄ hs₄
  refine wpAny_bind (wpAny_holding (wpAny_assign_Name (wpAny_storeName_local hx2 F₄.ns (fun h₅ hn₅ hs₅ => wpAny_pure ?_) hp)))
  exact h h₅ _ (F₄.set hn₅ hs₅) ((N₃.set hs₄).set hs₅)
end
theorem enum_str {prog : Program} {w : World} {A : Around} {E : Value → Shared → Prop} {s : Shared} {x : Str} {t : Tok} {Q : Value → Shared → Prop}
    (h : ∀ e it h', e ≠ it → s.heap.get? e = none → s.heap.get? it = none → IsEnum h' e it 0 .none → h'.IsStrIter it (strIterType x) x t 0 → (∀ b o, s.heap.get? b = some o → h'.get? b = some o) → Q (.ref e) { s with heap := h' }) :
    wpAny (model prog w) A (call (.type "enumerate") [.str x t]) Q E s :=
  call_enumerate_str fun h' he hi _ hk => h _ _ h' (Nat.succ_ne_self _) (Heap.get?_none_of_le (Nat.le_succ _)) (Heap.get?_none_of_le (Nat.le_refl _)) he hi hk
/-- all that stands but the call's own cells -/
theorem rest_of (h₀ h : Heap) (oa : List Addr) : ∃ rest : List (Addr × Obj), ∀ b o, (b, o) ∈ rest ↔ (b ∉ oa ∧ h₀.get? b = none ∧ h.get? b = some o) := by
  refine ⟨(List.range h.objs.size).filterMap fun b => if b ∉ oa ∧ h₀.get? b = none then (h.get? b).map fun o => (b, o) else none, fun b o => ?_⟩
  rw [List.mem_filterMap]
  constructor
  · rintro ⟨c, _, hc⟩
    split at hc
    · rename_i hq
      cases e : h.get? c with
      | none => rw [e] at hc; cases hc
      | some o' => rw [e] at hc; cases hc; exact ⟨hq.1, hq.2, e⟩
    · cases hc
  · rintro ⟨h1, h2, h3⟩
    exact ⟨b, List.mem_range.mpr (Heap.lt_size h3), by rw [if_pos ⟨h1, h2⟩, h3]; rfl⟩
noncomputable def gmap (x : Str) (t : Tok) (esc : Bool) (up uc : Option Value) : Str → Option Value := fun y =>
  if y = Str.ofString "escape" then some (.bool esc) else if y = Str.ofString "ch" then uc else if y = Str.ofString "pos" then up else if y = Str.ofString "addr" then some (.str x t) else none
structure GInv (x : Str) (t : Tok) (h₀ : Heap) (Lg e it : Addr) (i : Nat) (esc : Bool) (A : Around) (oa : List Addr) (s₀ s : Shared) : Prop where
  hh : A.handled = none
  en : ∃ old, IsEnum s.heap e it i old
  si : s.heap.IsStrIter it (strIterType x) x t i
  same : ∃ h tk, s = { s₀ with heap := h, toks := tk }
  oa3 : ∀ b, b ∈ [Lg, e, it] → b ∈ oa ∨ s₀.heap.get? b = none
  oaS : ∀ b ∈ oa, b ∈ [Lg, e, it]
  esc0 : esc = true → 0 < i
  map : ∃ up uc rest oe oi, (0 < i → ∃ tp, up = some (.int ((i : Int) - 1) tp)) ∧ Fr h₀ Lg s.heap (gmap x t esc up uc) ∧ News h₀ Lg s.heap ((e, oe) :: (it, oi) :: rest) ∧ (∀ p ∈ rest, p.1 ≠ e ∧ p.1 ≠ it) ∧
    (∀ b o, b ∉ oa → s₀.heap.get? b = some o → h₀.get? b = some o ∨ (b, o) ∈ rest)
theorem resumed {h₀ : Heap} {A : Around} {s : Shared} {Lg e it : Addr} {oL oe oi : Obj} {m : Str → Option Value} (pre : PreG h₀ [(Lg, oL), (e, oe), (it, oi)] A s) (hab : h₀.objs.size ≤ Lg) (hns : LCg.NsObj oL m)
    (heL : e ≠ Lg) (hiL : it ≠ Lg) (he₀ : h₀.get? e = none) (hi₀ : h₀.get? it = none) :
    Fr h₀ Lg s.heap m ∧ ∃ rest, News h₀ Lg s.heap ((e, oe) :: (it, oi) :: rest) ∧ (∀ p ∈ rest, p.1 ≠ e ∧ p.1 ≠ it) ∧ (∀ b o, b ∉ [Lg, e, it] → s.heap.get? b = some o → h₀.get? b = some o ∨ (b, o) ∈ rest) := by
  refine ⟨⟨hns.ns (pre.own _ (.head _)), pre.keep, hab⟩, ?_⟩
  obtain ⟨rest, hrest⟩ := rest_of h₀ s.heap [Lg, e, it]
  refine ⟨rest, fun q hq => ?_, fun q hq => ?_, fun b o hb q => ?_⟩
  · rcases List.mem_cons.mp hq with rfl | hq
    · exact ⟨pre.own _ (.tail _ (.head _)), heL, he₀⟩
    rcases List.mem_cons.mp hq with rfl | hq
    · exact ⟨pre.own _ (.tail _ (.tail _ (.head _))), hiL, hi₀⟩
    · obtain ⟨q1, q2, q3⟩ := (hrest q.1 q.2).mp hq
      exact ⟨q3, fun z => q1 (z ▸ .head _), q2⟩
  · obtain ⟨q1, q2, q3⟩ := (hrest q.1 q.2).mp hq
    exact ⟨fun z => q1 (z ▸ .tail _ (.head _)), fun z => q1 (z ▸ .tail _ (.tail _ (.head _)))⟩
  · cases q0 : h₀.get? b with
    | none => exact .inr ((hrest b o).mpr ⟨hb, q0, q⟩)
    | some o' => have := pre.keep b o' q0; rw [q] at this; cases this; exact .inl rfl
theorem since_of {h₀ : Heap} {oa : List Addr} {s₀ s₁ : Shared} {Lg : Addr} {m : Str → Option Value} {news rest : List (Addr × Obj)} (F : Fr h₀ Lg s₁.heap m) (N : News h₀ Lg s₁.heap news) (hsub : ∀ q ∈ rest, q ∈ news)
    (same : ∃ h tk, s₁ = { s₀ with heap := h, toks := tk }) (cov : ∀ b o, b ∉ oa → s₀.heap.get? b = some o → h₀.get? b = some o ∨ (b, o) ∈ rest) : Since oa s₀ s₁ := by
  obtain ⟨h, tk, rfl⟩ := same
  exact ⟨h, tk, rfl, fun b o hb q => (cov b o hb q).elim (fun z => F.keep b o z) fun z => (N _ (hsub _ z)).1⟩
theorem step_yield {prog : Program} {w : World} {h₀ : Heap} {oa : List Addr} {u : Nat × List Nat} {us : List (Nat × List Nat)} {s₀ s₁ : Shared} {Lg T : Addr} (cells : List (Addr × Obj)) {rest : List (Addr × Obj)} {t1 t2 : Tok} {m : Str → Option Value} {l : List Value} {k : Resume → Sem Fin} {c : Code} {p : Pos} {fs : List Frame}
    (F : Fr h₀ Lg s₁.heap m) (N : News h₀ Lg s₁.heap ((T, { cls := .type "tuple", data := .seq #[.int u.1 t1, .str ⟨u.2.toArray⟩ t2] }) :: (cells ++ rest))) (hct : ∀ q ∈ cells, q.1 < T) (hlt : ∀ q ∈ rest, q.1 < T)
    (same : ∃ h tk, s₁ = { s₀ with heap := h, toks := tk }) (hLo : Lg ∈ oa ∨ s₀.heap.get? Lg = none) (hco : ∀ q ∈ cells, q.1 ∈ oa ∨ s₀.heap.get? q.1 = none) (cov : ∀ b o, b ∉ oa → s₀.heap.get? b = some o → h₀.get? b = some o ∨ (b, o) ∈ rest)
    (hfs : fs.any Frame.guarded = false) (ready : ∀ oL, LCg.NsObj oL m → Ready prog w h₀ us ((Lg, oL) :: cells) (End.susp (.ref T) false l k c p fs).genState) :
    StepP prog w h₀ oa (u :: us) s₀ (.susp (.ref T) false l k c p fs) s₁ := by
  have hT := N _ (.head _)
  obtain ⟨oL, hoL, hnL⟩ := LCg.ns_obj F.ns
  refine ⟨T, t1, t2, (Lg, oL) :: cells, l, k, c, p, fs, rfl, hT.1, ?_, since_of F N (fun q hq => .tail _ (List.mem_append_right _ hq)) same cov, ?_, End.bare_of_quiet (by simp [End.quiet, hfs]), ready oL hnL⟩
  · by_cases hTo : T ∈ oa
    · exact .inr hTo
    · left
      cases q : s₀.heap.get? T with
      | none => rfl
      | some o =>
        rcases cov T o hTo q with z | z
        · exact absurd (hT.2.2.symm.trans z) (by simp)
        · exact absurd (hlt _ z) (Nat.lt_irrefl _)
  · intro q hq
    rcases List.mem_cons.mp hq with rfl | hq
    · exact ⟨hoL, hLo, Ne.symm hT.2.1⟩
    · exact ⟨(N _ (.tail _ (List.mem_append_left _ hq))).1, hco q hq, Nat.ne_of_lt (hct q hq)⟩
theorem drop_cons {x : Str} {i c : Nat} (h : x.cps[i]? = some c) : x.cps.toList.drop i = c :: x.cps.toList.drop (i + 1) := by
  have h' : x.cps.toList[i]? = some c := by simpa using h
  obtain ⟨hl, e⟩ := List.getElem?_eq_some_iff.mp h'
  rw [List.drop_eq_getElem_cons hl, e]
theorem back_append (c : Nat) : Str.ofString "\\" ++ (⟨#[c]⟩ : Str) = ⟨#[92, c]⟩ := rfl
theorem gmap_1 {x : Str} {t : Tok} {b b' : Bool} {vc vp uc up : Option Value} : (fun y => if y = Str.ofString "escape" then some (Value.bool b) else if y = Str.ofString "ch" then vc else if y = Str.ofString "pos" then vp else if y = Str.ofString "escape" then some (Value.bool b') else if y = Str.ofString "ch" then uc else if y = Str.ofString "pos" then up else if y = Str.ofString "addr" then some (Value.str x t) else none) = gmap x t b vp vc := by
  funext y
  unfold gmap
  by_cases h1 : y = Str.ofString "escape"
  · simp [h1]
  by_cases h2 : y = Str.ofString "ch"
  · simp [h2]
  by_cases h3 : y = Str.ofString "pos"
  · simp [h3]
  · simp [h1, h2, h3]
theorem gmap_2 {x : Str} {t : Tok} {b : Bool} {vc vp uc up : Option Value} : (fun y => if y = Str.ofString "ch" then vc else if y = Str.ofString "pos" then vp else if y = Str.ofString "escape" then some (Value.bool b) else if y = Str.ofString "ch" then uc else if y = Str.ofString "pos" then up else if y = Str.ofString "addr" then some (Value.str x t) else none) = gmap x t b vp vc := by
  funext y
  unfold gmap
  have n1 : Str.ofString "escape" ≠ Str.ofString "ch" := by decide +kernel
  have n2 : Str.ofString "escape" ≠ Str.ofString "pos" := by decide +kernel
  by_cases h1 : y = Str.ofString "escape"
  · simp [h1, n1, n2]
  by_cases h2 : y = Str.ofString "ch"
  · simp [h2, Ne.symm n1]
  by_cases h3 : y = Str.ofString "pos"
  · simp [h3, Ne.symm n2]
  · simp [h1, h2, h3]
theorem sign_ne {c : Nat} (h : c ≠ 92) : ((⟨#[c]⟩ : Str) == Str.ofString "\\") = false := by
  have e : Str.ofString "\\" = (⟨#[92]⟩ : Str) := by decide +kernel
  rw [e]
  simp [h]
section
variable {w : World} {mean : ExcName → Option Value} {mg mb : Str → Option Value} {h₀ : Heap}
theorem iter_ready {x : Str} {t : Tok} {name qual : Str} {params : Arguments} {body : List Stmt} {scope : Scope} {dV kV doc pm cdv ct oc : Value} {an od : Option Addr} {osl : Array (Option Value)} {Lg : Addr} {oL : Obj}
    (X : (hd.heap_1 w.params).In h₀) (T : Top view (looseW view []) mean mg mb h₀)
    (hK : (hd.heap_1 w.params).lookup 148 = some ⟨oc, od, .func (fnOf name qual params body scope dV kV doc pm an cdv ct), osl⟩) (hx : x.length ≤ 500000)
    (hab : h₀.objs.size ≤ Lg) (hoL : LCg.NsObj oL (fun y => if y = Str.ofString "addr" then some (.str x t) else none)) :
    Ready Challenge.rw_pd0152_01.row.prog w h₀ (unitsL false 0 x.cps.toList) [(Lg, oL)] (.fresh (.func body (envOf qual scope Lg 148 cdv))) := by
  revert X; k_fill; intro X
  replace hK := (show (hd.heap_1 w.params).lookup 148 = some _ from rfl).symm.trans hK
  cases hK
  refine ready_of fun A s pre => ?_
  refine x_func ?_
  have hns := hoL.ns (pre.own _ (.head _))
  have F : Fr h₀ Lg s.heap (fun y => if y = Str.ofString "addr" then some (.str x t) else none) := ⟨hns, pre.keep, hab⟩
  obtain ⟨rest, hrest⟩ := rest_of h₀ s.heap [Lg]
  have N : News h₀ Lg s.heap rest := fun q hq => by
    obtain ⟨q1, q2, q3⟩ := (hrest q.1 q.2).mp hq
    exact ⟨q3, fun e => q1 (by simp [e]), q2⟩
  have hh := pre.hh
  refine x_cons (x_wrap ?_)
  k_steps
  refine x_cons (x_wrap ?_)
  k_steps
  refine x_cons (x_for (by intro _; rfl) ?_)
  k_steps
  with_reducible rename Fr _ _ _ _ => F₁
  with_reducible rename News _ _ _ _ => N₁
  refine enum_str fun e it h₂ hei he0 hi0 he hi hk₂ => ?_
  refine wpAny_pyIter_enum he ?_
  intro p
  refine loop_ind (GInv x t h₀ Lg e it) (fun i esc oa s₀ => StepP _ w h₀ oa (unitsL esc i (x.cps.toList.drop i)) s₀) x.cps.size ?step 0 false A [Lg] s _ (Nat.zero_le _) ?inv
  case inv =>
    obtain ⟨oi, hoi, _⟩ := id hi
    have cov : ∀ b o, b ∉ [Lg] → s.heap.get? b = some o → h₀.get? b = some o ∨ (b, o) ∈ rest := fun b o hb q => by
      cases q0 : h₀.get? b with
      | none => exact .inr ((hrest b o).mpr ⟨hb, q0, q⟩)
      | some o' => have := pre.keep b o' q0; rw [q] at this; cases this; exact .inl rfl
    have old : ∀ b, b ≠ Lg → Heap.get? _ b = none → s.heap.get? b = none := fun b hb (q : Heap.get? _ b = none) => by
      cases q1 : s.heap.get? b with
      | none => rfl
      | some o =>
        rcases cov b o (by simpa using hb) q1 with q2 | q2
        · have := F₁.keep b o q2; rw [q] at this; cases this
        · have := (N₁ _ q2).1; rw [q] at this; cases this
    obtain ⟨oL', _, _, hL', _⟩ := id F₁.ns
    have heL : e ≠ Lg := fun q => by rw [q] at he0; exact absurd (he0.symm.trans hL') (by simp)
    have hiL : it ≠ Lg := fun q => by rw [q] at hi0; exact absurd (hi0.symm.trans hL') (by simp)
    have no0 : ∀ b, Heap.get? _ b = none → h₀.get? b = none := fun b (q : Heap.get? _ b = none) => by
      cases q1 : h₀.get? b with
      | none => rfl
      | some o => have := F₁.keep b o q1; rw [q] at this; cases this
    obtain ⟨oe, hoe⟩ : ∃ oe, h₂.get? e = some oe := ⟨_, he⟩
    refine ⟨hh, ⟨_, he⟩, hi, ⟨h₂, _, rfl⟩, ?_, (fun b hb => by rw [List.mem_singleton.mp hb]; exact .head _), (fun q => nomatch q), some (.int 0 s.toks), none, rest, oe, oi, (fun q => absurd q (Nat.lt_irrefl 0)), ?_, ?_, ?_, cov⟩
    · intro b hb
      rcases List.mem_cons.mp hb with rfl | hb
      · exact .inl (.head _)
      rcases List.mem_cons.mp hb with rfl | hb
      · exact .inr (old _ heL he0)
      · rw [List.mem_singleton.mp hb]; exact .inr (old _ hiL hi0)
    · have z := Fr.keeps F₁ hk₂
      have ez : (fun y => if y = Str.ofString "escape" then some (Value.bool false) else if y = Str.ofString "pos" then some (Value.int 0 s.toks) else if y = Str.ofString "addr" then some (Value.str x t) else none) = gmap x t false (some (.int 0 s.toks)) none := by
        funext y
        unfold gmap
        have n1 : Str.ofString "ch" ≠ Str.ofString "pos" := by decide +kernel
        have n2 : Str.ofString "ch" ≠ Str.ofString "addr" := by decide +kernel
        by_cases h1 : y = Str.ofString "escape"
        · simp [h1]
        · by_cases h2 : y = Str.ofString "ch"
          · simp [h2, n1, n2]
          · simp [h1, h2]
      rw [ez] at z
      exact z
    · intro q hq
      rcases List.mem_cons.mp hq with rfl | hq
      · exact ⟨hoe, heL, no0 _ he0⟩
      rcases List.mem_cons.mp hq with rfl | hq
      · exact ⟨hoi, hiL, no0 _ hi0⟩
      · exact ⟨hk₂ _ _ (N₁ q hq).1, (N₁ q hq).2⟩
    · intro q hq
      have := (N₁ q hq).1
      exact ⟨fun z => by rw [z] at this; exact absurd (he0.symm.trans this) (by simp), fun z => by rw [z] at this; exact absurd (hi0.symm.trans this) (by simp)⟩
  case step =>
    clear he0 hi0 he hi hk₂ F₁ N₁
    intro i esc A oa s₀ s hi I ih
    obtain ⟨up, uc, rest, oe, oi, hup, F, N, hne, hrest⟩ := I.map
    show SegX _ A _ ((forTurn _ _ _ _ _).onRaise _) _ s _
    rw [Sem.onRaise_eq_wrap]
    simp only [forTurn]
    refine x_bind (wpAny_standAt ?_)
    refine x_bind (wpAny_onRaise ?_)
    have heL : e ≠ Lg := (N _ (.head _)).2.1
    have hiL : it ≠ Lg := (N _ (.tail _ (.head _))).2.1
    have he₀ := (N _ (.head _)).2.2
    have hi₀ := (N _ (.tail _ (.head _))).2.2
    have offR : ∀ q ∈ rest, q.1 ∉ [e, it] := fun q hq z => by
      rcases List.mem_cons.mp z with z | z
      · exact (hne q hq).1 z
      · exact (hne q hq).2 (List.mem_singleton.mp z)
    have hLw : Lg ∉ [e, it] := by simp [Ne.symm heL, Ne.symm hiL]
    have hw₀ : ∀ b ∈ [e, it], h₀.get? b = none := by simp [he₀, hi₀]
    have NR : News h₀ Lg s.heap rest := fun q hq => N q (.tail _ (.tail _ hq))
    by_cases hlt : i < x.cps.size
    · refine (WalksT.enumerateD (Draws_str (by exact I.hh) it x t) e hei (by simp [hei]) (by simp)).item i s _ _ hlt ⟨I.en, I.si⟩ ?_
      intro T vals h₁ tk₁ hPt hTs hT hMid hk₁
      obtain ⟨t9, v9, ⟨c9, u9, hc9, rfl⟩, rfl⟩ := hPt
      refine x_bind ((WalksT.enumerateD (Draws_str (by exact I.hh) it x t) e hei (by simp [hei]) (by simp)).go _ _ _ i T _ _ _ hMid ?_)
      rintro h₂ ⟨⟨old₂, he₂⟩, hi₂⟩ hk₂
      have hTw : T ∉ [e, it] := by simp [hMid.2.2.1, hMid.2.2.2]
      have hT₂ : h₂.IsTuple T #[.int i t9, .str ⟨#[c9]⟩ u9] := hT.at fun o q => hk₂ _ o hTw q
      have F₂ : Fr h₀ Lg h₂ _ := Fr.but (Fr.but F hk₁ hLw hw₀) hk₂ hLw hw₀
      have NR₂ : News h₀ Lg h₂ rest := News.but (News.but NR hk₁ offR) hk₂ offR
      obtain ⟨oi₂, hoi₂, hoi₂'⟩ := id hi₂
      obtain ⟨oe₂, hoe₂, hoeq⟩ : ∃ oe, h₂.get? e = some oe ∧ ∀ h : Heap, h.get? e = some oe → IsEnum h e it ((i + 1 : Nat) : Int) old₂ := ⟨_, he₂, fun _ q => q⟩
      obtain ⟨hs, tks, hss⟩ := I.same
      have N₂ : News h₀ Lg h₂ ((e, oe₂) :: (it, oi₂) :: rest) := fun q hq => by
        rcases List.mem_cons.mp hq with rfl | hq
        · exact ⟨hoe₂, heL, he₀⟩
        rcases List.mem_cons.mp hq with rfl | hq
        · exact ⟨hoi₂, hiL, hi₀⟩
        · exact NR₂ q hq
      refine x_bind (assign_pair (by exact I.hh) hT₂ F₂ N₂ rfl rfl rfl rfl ?_)
      intro h₃ tk₃ F₃ N₃
      dsimp only [gmap] at F₃
      rw [Sem.bind_eq_wrap', Sem.wrap_wrap]
      refine x_cons (x_if ?_)
      k_steps
      rw [drop_cons hc9]
      cases esc with
      | true =>
        refine x_cons (x_yield rfl rfl rfl ?_)
        k_steps
        rename_i hgo
        with_reducible rename Fr _ _ _ _ => F₄
        with_reducible rename News _ _ _ _ => N₄
        with_reducible rename (_ ∧ _ ∧ AllLt _ _) => l₄
        rw [back_append] at N₄
        refine step_yield [(e, oe₂), (it, oi₂)] (u := (i, [92, c9])) F₄ N₄ (by intro q hq; rcases List.mem_cons.mp hq with rfl | hq; exact l₄.1; rw [List.mem_singleton.mp hq]; exact l₄.2.1) (allLt_mem l₄.2.2) ⟨_, _, by rw [hss]⟩ (I.oa3 _ (.head _)) (by intro q hq; rcases List.mem_cons.mp hq with rfl | hq; exact I.oa3 _ (.tail _ (.head _)); rw [List.mem_singleton.mp hq]; exact I.oa3 _ (.tail _ (.tail _ (.head _)))) hrest rfl ?_
        intro oL hoL
        refine ready_of fun A₅ s₅ pre₅ => ?_
        refine hgo A₅ s₅ _ ?_
        obtain ⟨F₅, rest₅, N₅, hne₅, cov₅⟩ := resumed pre₅ hab hoL heL hiL he₀ hi₀
        refine x_cons (x_wrap ?_)
        k_steps
        with_reducible rename Fr _ _ _ _ => F₆
        with_reducible rename News _ _ _ _ => N₆
        rw [gmap_1] at F₆
        exact s_again _ _ _ _ _ _ _ _ rfl (ih false A₅ [Lg, e, it] s₅ _ hlt ⟨pre₅.hh, ⟨old₂, hoeq _ (N₆ _ (.head _)).1⟩, ⟨oi₂, (N₆ _ (.tail _ (.head _))).1, hoi₂'⟩, ⟨_, _, rfl⟩, fun _ q => .inl q, fun _ q => q, (fun _ => Nat.succ_pos _), _, _, rest₅, oe₂, oi₂, (fun _ => ⟨t9, by simp⟩), F₆, N₆, hne₅, cov₅⟩)
      | false =>
        refine x_cons (x_if ?_)
        k_steps
        by_cases hc : c9 = 92
        · subst hc
          rw [show ((⟨#[92]⟩ : Str) == Str.ofString "\\") = true from by decide +kernel, if_pos rfl]
          refine x_cons (x_wrap ?_)
          k_steps
          with_reducible rename Fr _ _ _ _ => F₆
          with_reducible rename News _ _ _ _ => N₆
          rw [gmap_1] at F₆
          rw [show unitsL false i (92 :: List.drop (i + 1) x.cps.toList) = unitsL true (i + 1) (List.drop (i + 1) x.cps.toList) from by simp [unitsL]]
          exact s_again _ _ _ _ _ _ _ _ rfl (ih true A oa s₀ _ hlt ⟨I.hh, ⟨old₂, hoeq _ (N₆ _ (.head _)).1⟩, ⟨oi₂, (N₆ _ (.tail _ (.head _))).1, hoi₂'⟩, ⟨_, _, by rw [hss]⟩, I.oa3, I.oaS, (fun _ => Nat.succ_pos _), _, _, rest, oe₂, oi₂, (fun _ => ⟨t9, by simp⟩), F₆, N₆, hne, hrest⟩)
        · rw [sign_ne hc, if_neg Bool.false_ne_true]
          rw [show unitsL false i (c9 :: List.drop (i + 1) x.cps.toList) = (i, [c9]) :: unitsL false (i + 1) (List.drop (i + 1) x.cps.toList) from by simp [unitsL, hc]]
          refine x_cons (x_yield rfl rfl rfl ?_)
          k_steps
          rename_i hgo
          with_reducible rename Fr _ _ _ _ => F₄
          with_reducible rename News _ _ _ _ => N₄
          with_reducible rename (_ ∧ _ ∧ AllLt _ _) => l₄
          refine step_yield [(e, oe₂), (it, oi₂)] (u := (i, [c9])) F₄ N₄ (by intro q hq; rcases List.mem_cons.mp hq with rfl | hq; exact l₄.1; rw [List.mem_singleton.mp hq]; exact l₄.2.1) (allLt_mem l₄.2.2) ⟨_, _, by rw [hss]⟩ (I.oa3 _ (.head _)) (by intro q hq; rcases List.mem_cons.mp hq with rfl | hq; exact I.oa3 _ (.tail _ (.head _)); rw [List.mem_singleton.mp hq]; exact I.oa3 _ (.tail _ (.tail _ (.head _)))) hrest rfl ?_
          intro oL hoL
          refine ready_of fun A₅ s₅ pre₅ => ?_
          refine hgo A₅ s₅ _ ?_
          obtain ⟨F₆, rest₅, N₆, hne₅, cov₅⟩ := resumed pre₅ hab hoL heL hiL he₀ hi₀
          rw [gmap_2] at F₆
          exact s_again _ _ _ _ _ _ _ _ rfl (ih false A₅ [Lg, e, it] s₅ _ hlt ⟨pre₅.hh, ⟨old₂, hoeq _ (N₆ _ (.head _)).1⟩, ⟨oi₂, (N₆ _ (.tail _ (.head _))).1, hoi₂'⟩, ⟨_, _, rfl⟩, fun _ q => .inl q, fun _ q => q, (fun _ => Nat.succ_pos _), _, _, rest₅, oe₂, oi₂, (fun _ => ⟨t9, by simp⟩), F₆, N₆, hne₅, cov₅⟩)
    · obtain rfl : i = x.cps.size := Nat.le_antisymm hi (Nat.not_lt.mp hlt)
      refine (WalksT.enumerateD (Draws_str (by exact I.hh) it x t) e hei (by simp [hei]) (by simp)).done s _ _ ⟨I.en, I.si⟩ ?_
      intro h₁ tk₁ hk₁
      have F₁ : Fr h₀ Lg h₁ _ := Fr.but F hk₁ hLw hw₀
      have N₁ : News h₀ Lg h₁ rest := News.but NR hk₁ offR
      obtain ⟨hs, tks, hss⟩ := I.same
      refine s_again _ _ _ _ _ _ _ _ rfl ?_
      refine s_pop _ _ _ _ _ _ _ (.ok .next) _ rfl _ _ _ _ _ _ _ ?_
      rw [show List.drop x.cps.size x.cps.toList = [] from by simp]
      have N₂ : News h₀ Lg h₁ ((e, oe) :: (it, oi) :: rest) → True := fun _ => trivial
      cases esc with
      | true =>
        obtain ⟨tp, rfl⟩ := hup (I.esc0 rfl)
        rw [show ((x.cps.size : Int) - 1) = ((x.cps.size - 1 : Nat) : Int) from by have := I.esc0 rfl; omega] at F₁
        unfold gmap at F₁
        refine x_cons (x_if ?_)
        k_steps
        refine x_cons (x_yield rfl rfl rfl ?_)
        k_steps
        rename_i hgo
        with_reducible rename Fr _ _ _ _ => F₄
        with_reducible rename News _ _ _ _ => N₄
        with_reducible rename (∀ p ∈ rest, p.1 < _) => l₄
        refine step_yield [] (u := (x.cps.size - 1, [92])) F₄ N₄ (fun q hq => nomatch hq) l₄ ⟨_, _, by rw [hss]⟩ (I.oa3 _ (.head _)) (fun q hq => nomatch hq) hrest rfl ?_
        intro oL hoL
        refine ready_of fun A₅ s₅ pre₅ => ?_
        refine hgo A₅ s₅ _ ?_
        refine s_end _ _ _ _ _ _ (.ok (.ret .none)) _ rfl ⟨rfl, ?_⟩
        exact ⟨s₅.heap, s₅.toks, rfl, fun b o _ q => q⟩
      | false =>
        unfold gmap at F₁
        refine x_cons (x_if ?_)
        k_steps
        refine s_end _ _ _ _ _ _ (.ok (.ret .none)) _ rfl ⟨rfl, ?_⟩
        exact since_of F₁ N₁ (fun _ q => q) ⟨_, _, by rw [hss]⟩ hrest
end
end Mine
end

-- part G3
section
open PySem PySem.W PyProof.Rows PySem.Calls
set_option Elab.async false
set_option maxRecDepth 100000
set_option maxHeartbeats 8000000
set_option linter.unusedVariables false
namespace Mine

open PySem.W.X
open Sem (wp)
theorem WakeP.mono {prog : Program} {w : World} {A : Around} {gs : GenState} {s : Shared} {P P' : End → Shared → Prop} (x : WakeP prog w A gs s P) (h : ∀ e s', P e s' → P' e s') : WakeP prog w A gs s P' := by
  cases gs with
  | fresh c => exact SegX.mono x h
  | suspended k l c p fs cl => exact SegX.mono x h
  | running => exact x
  | finished => exact x
noncomputable def genObj (g : Nat) (nm qn : Value) : Obj := { cls := .type "generator", data := .fields #[.int g 0, nm, qn] }
section
variable {prog : Program} {w : World} {A : Around} {E : Value → Shared → Prop} {s : Shared} {env : Env} {h₀ : Heap} {L : Addr} {m : Str → Option Value} {news : List (Addr × Obj)}
theorem go_gen {elts : List Expr} {x1} {pos : Pos} {a T : Addr} {g : Nat} {Q : Unit → Shared → Prop} (hg : s.heap.IsGen a g) (hQ : Q () s) : wpAny (model prog w) A (letOwnedTupleGo (.Tuple elts x1 pos) (.ref a) (.ref T)) Q E s := by
  obtain ⟨o, nm, qn, ho, hc, hd, _⟩ := hg
  show wpAny (model prog w) A (do
    let o ← load a
    match o.cls, o.data with
    | .type n, .fields vs =>
      if ["enumerate", "zip", "dict_itemiterator", "dict_reverseitemiterator", "odict_iterator", "itertools.zip_longest", "itertools.pairwise"].contains n && vs[0]? == some (rawInt T) then
        rule "for.unpacks-the-owned-tuple"
        updateField a 0 .none
    | _, _ => pure ()) Q E s
  refine wpAny_bind (wpAny_load ho ?_)
  rw [hc, hd]
  exact wpAny_pure hQ
theorem ready_step {us : List (Nat × List Nat)} {own : List (Addr × Obj)} {gs : GenState} (R : Ready prog w h₀ us own gs) {A : Around} {s : Shared} (pre : PreG h₀ own A s) : WakeP prog w A gs s (StepP prog w h₀ (own.map (·.1)) us s) := by
  cases us <;> exact R A s pre
theorem setGen_gens (s : Shared) (g : Nat) (x : GenState) : (s.setGen g x).gens = s.gens.setIfInBounds g x := rfl
theorem allBare_set {gens : Array GenState} {g : Nat} {x : GenState} (h : AllBare gens) (hx : x.bare = true) : AllBare (gens.setIfInBounds g x) := by
  intro y hy
  rcases Array.mem_or_eq_of_mem_setIfInBounds hy with h' | rfl
  · exact h y h'
  · exact hx
/-- the next unit of a ready generator -/
theorem next_ready {us : List (Nat × List Nat)} {own : List (Addr × Obj)} {gs : GenState} {a : Addr} {g : Nat} {u : Nat × List Nat} {Q : Option Value → Shared → Prop} (R : Ready prog w h₀ (u :: us) own gs)
    (hh : A.handled = none) (hd : A.depth ≤ 949) (hu : A.units ≤ 9400) (hl : h₀.NoLimit) (keep : ∀ b o, h₀.get? b = some o → s.heap.get? b = some o) (how : ∀ p ∈ own, s.heap.get? p.1 = some p.2)
    (hg : s.heap.IsGen a g) (hgs : s.gens[g]? = some gs) (hb : AllBare s.gens)
    (h : ∀ T t1 t2 own' gs' h' tk' g', h'.get? T = some { cls := .type "tuple", data := .seq #[.int u.1 t1, .str ⟨u.2.toArray⟩ t2] } → (s.heap.get? T = none ∨ T ∈ own.map (·.1)) → (∀ b o, b ∉ own.map (·.1) → s.heap.get? b = some o → h'.get? b = some o) →
      (∀ q ∈ own', h'.get? q.1 = some q.2 ∧ (q.1 ∈ own.map (·.1) ∨ s.heap.get? q.1 = none) ∧ q.1 ≠ T) → Ready prog w h₀ us own' gs' → g'[g]? = some gs' → AllBare g' → Q (some (.ref T)) { s with heap := h', toks := tk', gens := g' }) :
    wpAny (model prog w) A (pyNext (.ref a)) Q E s := by
  refine pyNext_wake hh (hl.keeps keep) (by unfold recursionLimit; omega) hg hgs ?_
  refine (ready_step (A := A.in1) (s := s.setGen g .running) R ⟨hh, by show A.depth ≤ 950; omega, by show A.units + 1 ≤ 9500; omega, keep, how⟩).mono ?_
  rintro e s₁ ⟨T, t1, t2, own', l, k, c, p, fs, rfl, hT, hTn, ⟨h', tk', rfl, hk⟩, ho, hbr, hR⟩
  refine h T t1 t2 own' _ h' tk' _ hT hTn hk ho hR ?_ ?_
  · exact setGen_self (gs := .running) (setGen_self hgs)
  · exact allBare_set (allBare_set hb rfl) hbr
theorem last_ready {own : List (Addr × Obj)} {gs : GenState} {a : Addr} {g : Nat} {Q : Option Value → Shared → Prop} (R : Ready prog w h₀ [] own gs)
    (hh : A.handled = none) (hd : A.depth ≤ 949) (hu : A.units ≤ 9400) (hl : h₀.NoLimit) (keep : ∀ b o, h₀.get? b = some o → s.heap.get? b = some o) (how : ∀ p ∈ own, s.heap.get? p.1 = some p.2)
    (hg : s.heap.IsGen a g) (hgs : s.gens[g]? = some gs) (hb : AllBare s.gens)
    (h : ∀ h' tk' g', (∀ b o, b ∉ own.map (·.1) → s.heap.get? b = some o → h'.get? b = some o) → AllBare g' → Q none { s with heap := h', toks := tk', gens := g' }) :
    wpAny (model prog w) A (pyNext (.ref a)) Q E s := by
  refine pyNext_wake hh (hl.keeps keep) (by unfold recursionLimit; omega) hg hgs ?_
  refine (ready_step (A := A.in1) (s := s.setGen g .running) R ⟨hh, by show A.depth ≤ 950; omega, by show A.units + 1 ≤ 9500; omega, keep, how⟩).mono ?_
  rintro e s₁ ⟨rfl, ⟨h', tk', rfl, hk⟩⟩
  refine ⟨rfl, fun h'' hk'' => h h'' tk' _ (fun b o hb q => hk'' b o (hk b o hb q)) (allBare_set (allBare_set hb rfl) rfl)⟩
noncomputable def GTurned (h₀ : Heap) (L : Addr) (J : (Str → Option Value) → List (Addr × Obj) → Prop) (cells : List (Addr × Obj)) (s : Shared) (g' : Array GenState) (s₃ : Shared) : Prop :=
  ∃ h' tk' m'' news'', s₃ = { s with heap := h', toks := tk', gens := g' } ∧ Fr h₀ L h' m'' ∧ News h₀ L h' (news'' ++ cells) ∧ (∀ p ∈ news'', ∀ q ∈ cells, p.1 ≠ q.1) ∧ J m'' news''
noncomputable def GTurnPost (h₀ : Heap) (L : Addr) (J : (Str → Option Value) → List (Addr × Obj) → Prop) (cells : List (Addr × Obj)) (s : Shared) (g' : Array GenState) (f : Flow) (s₃ : Shared) : Prop := match f with
  | .next => GTurned h₀ L J cells s g' s₃
  | .cont => GTurned h₀ L J cells s g' s₃
  | _ => False
/-- own cells and the new ones lie off what stood -/
structure GSt (prog : Program) (w : World) (h₀ : Heap) (L a : Addr) (oa : Obj) (g : Nat) (us : List (Nat × List Nat)) (s : Shared) (news own : List (Addr × Obj)) : Prop where
  gs : ∃ gs, s.gens[g]? = some gs ∧ Ready prog w h₀ us own gs
  bare : AllBare s.gens
  led : News h₀ L s.heap (news ++ (a, oa) :: own)
  off : ∀ p ∈ news, ∀ q ∈ (a, oa) :: own, p.1 ≠ q.1
  offA : ∀ q ∈ own, q.1 ≠ a
  isGen : ∀ h : Heap, h.get? a = some oa → h.IsGen a g
theorem GSt.next {a : Addr} {oa : Obj} {g : Nat} {u : Nat × List Nat} {us : List (Nat × List Nat)} {own : List (Addr × Obj)} {Q : Option Value → Shared → Prop} (G : GSt prog w h₀ L a oa g (u :: us) s news own) (F : Fr h₀ L s.heap m)
    (hh : A.handled = none) (hd : A.depth ≤ 949) (hu : A.units ≤ 9400) (hl : h₀.NoLimit)
    (h : ∀ T t1 t2 own' h' tk' g', h'.get? T = some { cls := .type "tuple", data := .seq #[.int u.1 t1, .str ⟨u.2.toArray⟩ t2] } → Fr h₀ L h' m → GSt prog w h₀ L a oa g us { s with heap := h', toks := tk', gens := g' } news own' → Q (some (.ref T)) { s with heap := h', toks := tk', gens := g' }) :
    wpAny (model prog w) A (pyNext (.ref a)) Q E s := by
  obtain ⟨gs, hgs, R⟩ := G.gs
  have ownL : ∀ p ∈ own, p ∈ news ++ (a, oa) :: own := fun p hp => List.mem_append_right _ (.tail _ hp)
  have haL : (a, oa) ∈ news ++ (a, oa) :: own := List.mem_append_right _ (.head _)
  refine next_ready R hh hd hu hl F.keep (fun p hp => (G.led p (ownL p hp)).1) (G.isGen _ (G.led _ haL).1) hgs G.bare ?_
  intro T t1 t2 own' gs' h' tk' g' hT hTn hk ho hR hg' hb'
  have hno : ∀ b ∈ own.map (·.1), h₀.get? b = none := fun b hb => by
    obtain ⟨q, hq, rfl⟩ := List.mem_map.mp hb
    exact (G.led q (ownL q hq)).2.2
  have hLo : L ∉ own.map (·.1) := fun hb => by
    obtain ⟨q, hq, e⟩ := List.mem_map.mp hb
    exact (G.led q (ownL q hq)).2.1 e
  have hao : a ∉ own.map (·.1) := fun hb => by
    obtain ⟨q, hq, e⟩ := List.mem_map.mp hb
    exact G.offA q hq e
  have hno' : ∀ p ∈ news, p.1 ∉ own.map (·.1) := fun p hp hb => by
    obtain ⟨q, hq, e⟩ := List.mem_map.mp hb
    exact G.off p hp q (.tail _ hq) e.symm
  have fresh : ∀ q ∈ own', ∀ b o, s.heap.get? b = some o → b ∉ own.map (·.1) → q.1 ≠ b := fun q hq b o e hb z => by
    rcases (ho q hq).2.1 with y | y
    · exact hb (z ▸ y)
    · rw [z, e] at y; cases y
  have F' : Fr h₀ L h' m := Fr.but F hk hLo hno
  obtain ⟨oL, _, _, hL, _⟩ := F.ns
  refine h T t1 t2 own' h' tk' g' hT F' ⟨⟨gs', hg', hR⟩, hb', ?_, ?_, ?_, G.isGen⟩
  · intro p hp
    rcases List.mem_append.mp hp with hp | hp
    · have z := G.led p (List.mem_append_left _ hp)
      exact ⟨hk _ _ (hno' p hp) z.1, z.2⟩
    rcases List.mem_cons.mp hp with rfl | hp
    · have z := G.led _ haL
      exact ⟨hk _ _ hao z.1, z.2⟩
    · refine ⟨(ho p hp).1, fresh p hp L oL hL hLo, ?_⟩
      cases e : h₀.get? p.1 with
      | none => rfl
      | some o =>
        have z := F.keep _ _ e
        exact absurd rfl (fresh p hp p.1 o z fun hb => by rw [hno _ hb] at e; cases e)
  · intro p hp q hq
    rcases List.mem_cons.mp hq with rfl | hq
    · exact G.off p hp _ (.head _)
    · exact Ne.symm (fresh q hq p.1 p.2 (G.led p (List.mem_append_left _ hp)).1 (hno' p hp))
  · intro q hq
    exact fresh q hq a oa (G.led _ haL).1 hao
theorem GSt.last {a : Addr} {oa : Obj} {g : Nat} {own : List (Addr × Obj)} {Q : Option Value → Shared → Prop} (G : GSt prog w h₀ L a oa g [] s news own) (F : Fr h₀ L s.heap m)
    (hh : A.handled = none) (hd : A.depth ≤ 949) (hu : A.units ≤ 9400) (hl : h₀.NoLimit)
    (h : ∀ h' tk' g', Fr h₀ L h' m → News h₀ L h' news → AllBare g' → Q none { s with heap := h', toks := tk', gens := g' }) :
    wpAny (model prog w) A (pyNext (.ref a)) Q E s := by
  obtain ⟨gs, hgs, R⟩ := G.gs
  have ownL : ∀ p ∈ own, p ∈ news ++ (a, oa) :: own := fun p hp => List.mem_append_right _ (.tail _ hp)
  have haL : (a, oa) ∈ news ++ (a, oa) :: own := List.mem_append_right _ (.head _)
  refine last_ready R hh hd hu hl F.keep (fun p hp => (G.led p (ownL p hp)).1) (G.isGen _ (G.led _ haL).1) hgs G.bare ?_
  intro h' tk' g' hk hb'
  refine h h' tk' g' (Fr.but F hk ?_ ?_) (fun p hp => ?_) hb'
  · intro hb
    obtain ⟨q, hq, e⟩ := List.mem_map.mp hb
    exact (G.led q (ownL q hq)).2.1 e
  · intro b hb
    obtain ⟨q, hq, rfl⟩ := List.mem_map.mp hb
    exact (G.led q (ownL q hq)).2.2
  · have z := G.led p (List.mem_append_left _ hp)
    refine ⟨hk _ _ (fun hb => ?_) z.1, z.2⟩
    obtain ⟨q, hq, e⟩ := List.mem_map.mp hb
    exact G.off p hp q (.tail _ hq) e.symm
theorem GSt.keep {a : Addr} {oa : Obj} {g : Nat} {us : List (Nat × List Nat)} {own news' : List (Addr × Obj)} {h' : Heap} {tk' : Nat} (G : GSt prog w h₀ L a oa g us s news own) (N : News h₀ L h' (news' ++ (a, oa) :: own)) (off : ∀ p ∈ news', ∀ q ∈ (a, oa) :: own, p.1 ≠ q.1) :
    GSt prog w h₀ L a oa g us { s with heap := h', toks := tk' } news' own := ⟨G.gs, G.bare, N, off, G.offA, G.isGen⟩
/-- a for loop over a ready generator, to its end -/
theorem iter_gen {x1 x2 : Str} {p1 p2 pos : Pos} {k} {body : List Stmt} {Q : Flow → Shared → Prop} {a : Addr} {oa : Obj} {g : Nat} {us : List (Nat × List Nat)} {own : List (Addr × Obj)}
    (hh : A.handled = none) (hd : A.depth ≤ 949) (hu : A.units ≤ 9400) (hl : h₀.NoLimit) (hx1 : env.kindOf x1 = some .local) (hx2 : env.kindOf x2 = some .local) (hp : (env.scope.kind == .class || (env.scope.kind == .module && env.locals != env.globals)) = false) (hL : env.locals = L)
    (J : Nat → (Str → Option Value) → List (Addr × Obj) → Prop)
    (F : Fr h₀ L s.heap m) (G : GSt prog w h₀ L a oa g us s news own) (h0 : J 0 m news)
    (turn : ∀ i u t1 t2 m' news' g' h tk cells, us[i]? = some u → J i m' news' → Fr h₀ L h (fun y => if y = x2 then some (.str ⟨u.2.toArray⟩ t2) else if y = x1 then some (.int u.1 t1) else m' y) → News h₀ L h (news' ++ cells) → (∀ p ∈ news', ∀ q ∈ cells, p.1 ≠ q.1) →
      wpAny (model prog w) A (execs body env) (GTurnPost h₀ L (J (i + 1)) cells s g') (fun _ _ => False) { s with heap := h, toks := tk, gens := g' })
    (done : ∀ m' news' g' h tk, AllBare g' → J us.length m' news' → Fr h₀ L h m' → News h₀ L h news' → Q .next { s with heap := h, toks := tk, gens := g' }) :
    ForAt prog w A (.Tuple [.Name x1 p1, .Name x2 p2] k pos) env body Q (.ref a) s := by
  refine ⟨fun n s' => ∃ i h tk g' m' news' own', s' = { s with heap := h, toks := tk, gens := g' } ∧ i ≤ us.length ∧ n = us.length + 1 - i ∧ Fr h₀ L h m' ∧ GSt prog w h₀ L a oa g (us.drop i) { s with heap := h, toks := tk, gens := g' } news' own' ∧ J i m' news', us.length + 1,
    ⟨0, s.heap, s.toks, s.gens, m, news, own, rfl, Nat.zero_le _, rfl, F, G, h0⟩, ?_⟩
  rintro n s' ⟨i, h, tk, g', m', news', own', rfl, hi, rfl, F', G', hJ⟩
  by_cases hlt : i < us.length
  · have hdrop : us.drop i = us[i] :: us.drop (i + 1) := List.drop_eq_getElem_cons hlt
    rw [hdrop] at G'
    refine GSt.next G' F' hh hd hu hl ?_
    intro T t1 t2 own₂ h₂ tk₂ g₂ hT F₂ G₂
    have haL : (a, oa) ∈ news' ++ (a, oa) :: own₂ := List.mem_append_right _ (.head _)
    refine go_gen (G₂.isGen _ (G₂.led _ haL).1) ?_
    refine assign_pair hh ⟨_, hT, rfl, _, rfl⟩ F₂ G₂.led hL hx1 hx2 hp ?_
    intro h₃ tk₃ F₃ N₃
    refine wpAny_mono (turn i us[i] t1 t2 m' news' g₂ h₃ tk₃ ((a, oa) :: own₂) (List.getElem?_eq_getElem hlt) hJ F₃ N₃ G₂.off) (fun f s₃ h₃ => ?_) fun _ _ e => e
    have fin : GTurned h₀ L (J (i + 1)) ((a, oa) :: own₂) s g₂ s₃ → ∃ m, m < us.length + 1 - i ∧ ∃ i h tk g' m' news' own', s₃ = { s with heap := h, toks := tk, gens := g' } ∧ i ≤ us.length ∧ m = us.length + 1 - i ∧ Fr h₀ L h m' ∧ GSt prog w h₀ L a oa g (us.drop i) { s with heap := h, toks := tk, gens := g' } news' own' ∧ J i m' news' := by
      rintro ⟨h₄, tk₄, m₄, news₄, rfl, F₄, N₄, off₄, hJ₄⟩
      exact ⟨us.length + 1 - (i + 1), by omega, i + 1, h₄, tk₄, g₂, m₄, news₄, own₂, rfl, hlt, rfl, F₄, G₂.keep N₄ off₄, hJ₄⟩
    cases f with
    | next => exact fin h₃
    | cont => exact fin h₃
    | brk => exact h₃.elim
    | ret v => exact h₃.elim
  · obtain rfl : i = us.length := Nat.le_antisymm hi (Nat.not_lt.mp hlt)
    rw [List.drop_length] at G'
    exact GSt.last G' F' hh hd hu hl fun h₂ tk₂ g₂ F₂ N₂ hb => done m' news' g₂ h₂ tk₂ hb hJ F₂ N₂
end
end Mine
end

-- part G4
section
open PySem PySem.W PyProof.Rows PySem.Calls
set_option Elab.async false
set_option maxRecDepth 100000
set_option maxHeartbeats 8000000
set_option linter.unusedVariables false
namespace Mine

open PySem.W.X
open Sem (wp)
section
variable {prog : Program} {w : World} {A : Around} {s : Shared}
theorem gen_make {R : Result → Shared → Prop} {a : Addr} {args : Args} {o : Obj} {fd : FuncData} {body : List Stmt}
    (hroom : A.depth < recursionLimit) (ho : s.heap.get? a = some o) (hd' : o.data = .func fd) (hco : fd.scope.isCoroutine = false)
    (hgen : fd.scope.isGenerator = true) (hbody : fd.body = .stmts body) (hcd : s.heap.CodeRec fd.code fd.qualname)
    (h : wpAny (model prog w) A.in1 (bindArgs fd args) (fun binds s₁ =>
      wpAny (model prog w) A.in1 (newFunctionEnv fd.scope fd.globals fd.closure binds (fd.qualname ++ ".<locals>.") (some a) fd.code none fd.builtins)
        (fun env s₂ => s₂.heap.NoLimit ∧ ∀ og : Obj, (∀ h : Heap, h.get? s₂.heap.objs.size = some og → h.IsGen s₂.heap.objs.size s₂.gens.size) → og.isFreed = false → R (.ok (.ret (.ref s₂.heap.objs.size)))
          { s₂ with gens := s₂.gens.push (.fresh (.func body env)), toks := s₂.toks + 1 + 1, heap := s₂.heap.push og })
        (fun e s' => R (.error e) s') s₁) (fun e s' => R (.error e) s') s) :
    codeAny (model prog w) A (.call (.ref a) args) R s :=
  codeAny_call_generator hroom ho hd' hco hgen hbody hcd (wpAny_mono h (fun binds s₁ h₁ => wpAny_mono h₁ (fun env s₂ h₂ => ⟨h₂.1, h₂.2 _ (fun _ e => ⟨_, _, _, e, rfl, rfl, rfl⟩) rfl⟩) fun _ _ e => e) fun _ _ e => e)
end
section
variable {w : World} {mean : ExcName → Option Value} {mg mb : Str → Option Value} {dp un : Nat} {gd : Option (List Code)} {cn : Str} {cnm : List (Str × NameKind)} {cig cic : Bool} {cmo : List (Str × Const)} {a : Addr} {ccd : Value} {cl : List (Str × Addr)} {outer : List Env} {A₀ : Around} {base h₀ : Heap} {L : Addr} {m : Str → Option Value} {news : List (Addr × Obj)} {s : Shared} {Q E : Value → Shared → Prop}

theorem gen_c {x : Str} {t : Tok} (B : Below A₀ base outer h₀) (F : Fr h₀ L s.heap m) (X : (hd.heap_1 w.params).In h₀) (N : News h₀ L s.heap news) (T : Top view (looseW view []) mean mg mb h₀) (hdp : dp ≤ 900) (hun : un ≤ 9000) (hx : x.length ≤ 500000) (hb : AllBare s.gens)
    (ret : ∀ a oa own h' tk' g', Fr h₀ L h' m → GSt Challenge.rw_pd0152_01.row.prog w h₀ L a oa s.gens.size (unitsL false 0 x.cps.toList) { s with heap := h', toks := tk', gens := g' } news own → Q (.ref a) { s with heap := h', toks := tk', gens := g' }) :
    wpAny (model Challenge.rw_pd0152_01.row.prog w) { handled := none, depth := dp, frames := some (envX cn { kind := .function, names := cnm, isGenerator := cig, isCoroutine := cic, more := cmo } L a ccd cl :: outer), guards := gd, units := un } (call (.ref 148) [.str x t]) Q E s := by
  k_with_none
  revert X; k_fill; intro X
  refine upto hdp hun ?_
  have hK : (hd.heap_1 w.params).lookup 148 = some _ := rfl
  have XS := Frag.In.keeps X F.keep
  have hcd : s.heap.CodeRec (.ref 147) (Str.ofString "_iter_escaped_chars") := codeRec_of XS (by k_is)
  refine wpAny_call (gen_make (by show 900 < recursionLimit; decide) (XS _ _ hK) rfl rfl rfl rfl hcd ?_)
  refine wpAny_of_eq (a := [(Str.ofString "addr", .str x t)]) rfl ?_
  refine wpAny_newFunctionEnv (by decide) (locs rfl) (fun h₁ hns hsb => ⟨(T.nolimit.keeps F.keep).fresh _ hsb, fun og hog hfree => ?_⟩) rfl
  have up₁ : ∀ b o, s.heap.get? b = some o → h₁.get? b = some o := fun b o e => hsb.extBut b o (Nat.ne_of_lt (Heap.lt_size e)) (Heap.get?_push_of_some _ e)
  obtain ⟨oL, hoL, hnL⟩ := LCg.ns_obj hns
  have hsz : h₁.objs.size = s.heap.objs.size + 1 := by rw [hsb.1, Heap.size_push]
  have hlt : ∀ b o, s.heap.get? b = some o → b < s.heap.objs.size := fun b o e => Heap.lt_size e
  have hfr : ∀ b, s.heap.objs.size ≤ b → h₀.get? b = none := fun b hb => by
    cases e : h₀.get? b with
    | none => rfl
    | some o => exact absurd (hlt _ _ (F.keep _ _ e)) (Nat.not_lt.mpr hb)
  have hLl : L < s.heap.objs.size := F.ns.lt
  have hR := iter_ready (x := x) (t := t) X T hK hx (Nat.le_trans F.above (Nat.le_of_lt hLl)) (oL := oL) (Lg := s.heap.objs.size) (by
    have e : (fun y => List.lookup y [(Str.ofString "addr", Value.str x t)].reverse) = fun y => if y = Str.ofString "addr" then some (Value.str x t) else none := by
      funext y
      by_cases h : y = Str.ofString "addr"
      · simp [List.lookup, h]
      · have : (y == Str.ofString "addr") = false := by simpa using h
        simp [List.lookup, h, this]
    rw [← e]; exact hnL)
  show Q _ _
  refine ret _ og [(s.heap.objs.size, oL)] _ _ _ (F.keeps fun b o e => Heap.get?_push_of_some _ (up₁ b o e)) ⟨⟨_, Array.getElem?_push_size .., hR⟩, ?_, ?_, ?_, ?_, hog⟩
  · intro y hy
    rcases Array.mem_push.mp hy with h | rfl
    · exact hb y h
    · rfl
  · intro q hq
    rcases List.mem_append.mp hq with hq | hq
    · exact ⟨Heap.get?_push_of_some _ (up₁ _ _ (N q hq).1), (N q hq).2⟩
    rcases List.mem_cons.mp hq with rfl | hq
    · exact ⟨Heap.get?_push_size _ hfree, Nat.ne_of_gt (by show L < h₁.objs.size; rw [hsz]; exact Nat.lt_succ_of_lt hLl), hfr _ (by show s.heap.objs.size ≤ h₁.objs.size; omega)⟩
    · rw [List.mem_singleton.mp hq]
      exact ⟨Heap.get?_push_of_some _ hoL, Nat.ne_of_gt hLl, hfr _ (Nat.le_refl _)⟩
  · intro q hq r hr
    have h1 := hlt _ _ (N q hq).1
    rcases List.mem_cons.mp hr with rfl | hr
    · exact Nat.ne_of_lt (by show q.1 < h₁.objs.size; rw [hsz]; exact Nat.lt_succ_of_lt h1)
    · rw [List.mem_singleton.mp hr]; exact Nat.ne_of_lt h1
  · intro q hq
    rw [List.mem_singleton.mp hq]
    exact Nat.ne_of_lt (by show s.heap.objs.size < h₁.objs.size; omega)
end
end Mine
end

-- part D1
section
open PySem PySem.W PyProof.Rows PySem.Calls
set_option Elab.async false
set_option maxRecDepth 100000
set_option maxHeartbeats 8000000
set_option linter.unusedVariables false
namespace Mine

structure SSt where
  start : Int
  opn : Option Int
  parts : List Str
noncomputable def sStep (x : Str) (st : SSt) (u : Nat × List Nat) : SSt :=
  if u.2 = [34] then match st.opn with
    | none => ⟨st.start, some u.1, st.parts⟩
    | some o => ⟨u.1 + 1, none, if st.start = o then st.parts else st.parts ++ [Txt.slice x (some st.start) (some o)]⟩
  else st
noncomputable def stripEnd (x : Str) (st : SSt) : Str := Txt.join (Str.ofString "") (if st.start < (x.length : Int) then st.parts ++ [Txt.slice x (some st.start) none] else st.parts)
noncomputable def stripS (x : Str) : Str :=
  if (Builtin.Str.occurrences x (Str.ofString "\"") 0 x.length 1).isEmpty = true then x else stripEnd x ((unitsL false 0 x.cps.toList).foldl (sStep x) ⟨0, none, []⟩)
noncomputable def opV : Option Int → Value → Prop
  | none, v => v = .none
  | some o, v => ∃ t, v = .int o t
noncomputable def sMap (m0 : Str → Option Value) (uc up : Option Value) (st : Int) (ts : Tok) (ov : Value) : Str → Option Value := fun y =>
  if y = Str.ofString "ch" then uc else if y = Str.ofString "pos" then up else if y = Str.ofString "start" then some (.int st ts) else if y = Str.ofString "open_pos" then some ov else m0 y
noncomputable def sJ (x : Str) (us : List (Nat × List Nat)) (m0 : Str → Option Value) (lr : Addr) (news : List (Addr × Obj)) (i : Nat) (m' : Str → Option Value) (news' : List (Addr × Obj)) : Prop :=
  ∃ uc up ts ov l n, m' = sMap m0 uc up ((us.take i).foldl (sStep x) ⟨0, none, []⟩).start ts ov ∧ opV ((us.take i).foldl (sStep x) ⟨0, none, []⟩).opn ov ∧ news' = (lr, listOf (strValues l).toArray n) :: news ∧ l.map (·.1) = ((us.take i).foldl (sStep x) ⟨0, none, []⟩).parts ∧ l.length ≤ i
theorem GSt.named {prog : Program} {w : World} {h₀ : Heap} {L a l : Addr} {oa o : Obj} {g : Nat} {us : List (Nat × List Nat)} {s : Shared} {news own : List (Addr × Obj)} (G : GSt prog w h₀ L a oa g us s ((l, o) :: news) own) : ∃ lr, lr = l ∧ GSt prog w h₀ L a oa g us s ((lr, o) :: news) own := ⟨l, rfl, G⟩
theorem units_length : ∀ (cs : List Nat) (b : Bool) (p : Nat), (unitsL b p cs).length ≤ cs.length + (if b then 1 else 0)
  | [], true, p => by simp [unitsL]
  | [], false, p => by simp [unitsL]
  | c :: r, true, p => by
    have := units_length r false (p + 1)
    simp only [unitsL, List.length_cons] at *
    simp at this ⊢
    omega
  | c :: r, false, p => by
    unfold unitsL
    split
    · have := units_length r true (p + 1)
      simp at this ⊢
      omega
    · have := units_length r false (p + 1)
      simp at this ⊢
      omega
theorem push_strs {l : List (Str × Tok)} {r : Str} {t : Tok} : (strValues l).toArray.push (.str r t) = (strValues (l ++ [(r, t)])).toArray := by simp [strValues]
theorem sMap_self {m0 : Str → Option Value} {st : Int} {ts : Tok} {ov : Value} (h1 : m0 (Str.ofString "start") = some (.int st ts)) (h2 : m0 (Str.ofString "open_pos") = some ov) : m0 = sMap m0 (m0 (Str.ofString "ch")) (m0 (Str.ofString "pos")) st ts ov := by
  funext y
  unfold sMap
  by_cases a1 : y = Str.ofString "ch"
  · simp [a1]
  by_cases a2 : y = Str.ofString "pos"
  · rw [if_neg a1, if_pos a2, a2]
  by_cases a3 : y = Str.ofString "start"
  · rw [if_neg a1, if_neg a2, if_pos a3, a3, h1]
  by_cases a4 : y = Str.ofString "open_pos"
  · rw [if_neg a1, if_neg a2, if_neg a3, if_pos a4, a4, h2]
  · simp [a1, a2, a3, a4]
theorem nCO : Str.ofString "ch" ≠ Str.ofString "open_pos" := by decide +kernel
theorem nCS : Str.ofString "ch" ≠ Str.ofString "start" := by decide +kernel
theorem nPO : Str.ofString "pos" ≠ Str.ofString "open_pos" := by decide +kernel
theorem nPS : Str.ofString "pos" ≠ Str.ofString "start" := by decide +kernel
theorem nSO : Str.ofString "start" ≠ Str.ofString "open_pos" := by decide +kernel
theorem nCP : Str.ofString "ch" ≠ Str.ofString "pos" := by decide +kernel
theorem sMap_0 {m0 : Str → Option Value} {vc vp uc up : Option Value} {st : Int} {ts : Tok} {ov : Value} :
    (fun y => if y = Str.ofString "ch" then vc else if y = Str.ofString "pos" then vp else if y = Str.ofString "ch" then uc else if y = Str.ofString "pos" then up else if y = Str.ofString "start" then some (.int st ts) else if y = Str.ofString "open_pos" then some ov else m0 y) = sMap m0 vc vp st ts ov := by
  funext y
  unfold sMap
  by_cases a1 : y = Str.ofString "ch"
  · simp [a1]
  by_cases a2 : y = Str.ofString "pos"
  · simp [a2]
  · simp [a1, a2]
theorem sMap_1 {m0 : Str → Option Value} {vc vp uc up : Option Value} {st : Int} {ts : Tok} {ov ow : Value} :
    (fun y => if y = Str.ofString "open_pos" then some ow else if y = Str.ofString "ch" then vc else if y = Str.ofString "pos" then vp else if y = Str.ofString "ch" then uc else if y = Str.ofString "pos" then up else if y = Str.ofString "start" then some (.int st ts) else if y = Str.ofString "open_pos" then some ov else m0 y) = sMap m0 vc vp st ts ow := by
  funext y
  unfold sMap
  by_cases a1 : y = Str.ofString "ch"
  · simp [a1, nCO]
  by_cases a2 : y = Str.ofString "pos"
  · simp [a2, nPO]
  by_cases a3 : y = Str.ofString "start"
  · simp [a3, nSO, Ne.symm nCS, Ne.symm nPS]
  by_cases a4 : y = Str.ofString "open_pos"
  · simp [a4, Ne.symm nCO, Ne.symm nPO, Ne.symm nSO]
  · simp [a1, a2, a3, a4]
theorem sMap_2 {m0 : Str → Option Value} {vc vp uc up : Option Value} {st st' : Int} {ts ts' : Tok} {ov ow : Value} :
    (fun y => if y = Str.ofString "open_pos" then some ow else if y = Str.ofString "start" then some (.int st' ts') else if y = Str.ofString "ch" then vc else if y = Str.ofString "pos" then vp else if y = Str.ofString "ch" then uc else if y = Str.ofString "pos" then up else if y = Str.ofString "start" then some (.int st ts) else if y = Str.ofString "open_pos" then some ov else m0 y) = sMap m0 vc vp st' ts' ow := by
  funext y
  unfold sMap
  by_cases a1 : y = Str.ofString "ch"
  · simp [a1, nCO, nCS]
  by_cases a2 : y = Str.ofString "pos"
  · simp [a2, nPO, nPS]
  by_cases a3 : y = Str.ofString "start"
  · simp [a3, nSO, Ne.symm nCS, Ne.symm nPS]
  by_cases a4 : y = Str.ofString "open_pos"
  · simp [a4, Ne.symm nCO, Ne.symm nPO, Ne.symm nSO]
  · simp [a1, a2, a3, a4]
theorem GTurned.mk {h₀ : Heap} {L : Addr} {J : (Str → Option Value) → List (Addr × Obj) → Prop} {cells news'' : List (Addr × Obj)} {s : Shared} {g' : Array GenState} {h' : Heap} {tk' : Nat} {m'' : Str → Option Value}
    (F : Fr h₀ L h' m'') (N : News h₀ L h' (news'' ++ cells)) (off : ∀ p ∈ news'', ∀ q ∈ cells, p.1 ≠ q.1) (hJ : J m'' news'') : GTurned h₀ L J cells s g' { s with heap := h', toks := tk', gens := g' } := ⟨h', tk', m'', news'', rfl, F, N, off, hJ⟩
theorem parts_le (x : Str) : ∀ (us : List (Nat × List Nat)) (st : SSt), (∀ p ∈ st.parts, p.length ≤ x.length) → ∀ p ∈ (us.foldl (sStep x) st).parts, p.length ≤ x.length
  | [], st, h => h
  | u :: us, st, h => by
    refine parts_le x us (sStep x st u) ?_
    unfold sStep
    split
    · split
      · exact h
      · rename_i o _
        dsimp only
        split
        · exact h
        · intro p hp
          rcases List.mem_append.mp hp with hp | hp
          · exact h p hp
          · rw [List.mem_singleton.mp hp]; exact PyProof.Txt.length_slice_le x _ _
    · exact h
theorem sum_le_mul : ∀ (l : List Str) (k : Nat), (∀ p ∈ l, p.length ≤ k) → (l.map (·.length)).sum ≤ l.length * k
  | [], _, _ => by simp
  | p :: l, k, h => by
    have h1 := sum_le_mul l k fun q hq => h q (.tail _ hq)
    have h2 := h p (.head _)
    simp only [List.map_cons, List.sum_cons, List.length_cons, Nat.succ_mul]
    omega
theorem join_small {l : List Str} {k : Nat} (h : ∀ p ∈ l, p.length ≤ k) (hk : k ≤ 1000) (hl : l.length ≤ 2000) : JoinOk (Str.ofString "") l = true := by
  refine joinOk_of ?_
  have h1 := sum_le_mul l k h
  have h2 : (Str.ofString "").length = 0 := by decide +kernel
  have h3 : l.length * k ≤ 2000 * 1000 := Nat.mul_le_mul hl hk
  rw [h2]
  omega
theorem foldl_take_succ {α β : Type} (f : β → α → β) (b : β) (l : List α) (i : Nat) (u : α) (h : l[i]? = some u) : (l.take (i + 1)).foldl f b = f ((l.take i).foldl f b) u := by
  rw [List.take_add_one, h]; simp
section
variable {w : World} {mean : ExcName → Option Value} {mg mb : Str → Option Value} {dp un : Nat} {gd : Option (List Code)} {cn : Str} {cnm : List (Str × NameKind)} {cig cic : Bool} {cmo : List (Str × Const)} {a : Addr} {ccd : Value} {cl : List (Str × Addr)} {outer : List Env} {A₀ : Around} {base h₀ : Heap} {L : Addr} {m : Str → Option Value} {news : List (Addr × Obj)} {s : Shared} {Q E : Value → Shared → Prop}

theorem strip_c {x : Str} {t : Tok} (B : Below A₀ base outer h₀) (F : Fr h₀ L s.heap m) (X : (hd.heap_1 w.params).In h₀) (N : News h₀ L s.heap news) (T : Top view (looseW view []) mean mg mb h₀) (hdp : dp ≤ 800) (hun : un ≤ 8000) (hx : x.length ≤ 1000) (hb : AllBare s.gens)
    (ret : ∀ r t h' tk' g', r = stripS x → Fr h₀ L h' m → News h₀ L h' news → AllBare g' → Q (.str r t) { s with heap := h', toks := tk', gens := g' }) :
    wpAny (model Challenge.rw_pd0152_01.row.prog w) { handled := none, depth := dp, frames := some (envX cn { kind := .function, names := cnm, isGenerator := cig, isCoroutine := cic, more := cmo } L a ccd cl :: outer), guards := gd, units := un } (call (.ref 155) [.str x t]) Q E s := by
  k_with_none
  k_with "call ref" => (k_here; (with_reducible show wpAny _ _ (call (Value.ref 148) _) _ _ _); k_dflt (refine' gen_c ?zqk1 ?zqk2 ?zqk3 ?zqk4 ?zqk5 ?zqk6 ?zqk7 ?zqk8 ?zqk9 ?_; (case zqk1 => k_asm); (case zqk2 => k_asm); (case zqk3 => k_asm); (case zqk4 => k_asm); (case zqk5 => k_asm); (case zqk6 => exact Nat.le_of_ble_eq_true rfl); (case zqk7 => exact Nat.le_of_ble_eq_true rfl); (case zqk8 => (first | assumption | omega)); (case zqk9 => assumption); k_whole); intro zqa' zqoa' zqown' zqh' zqtk' zqg' zqF' zqG'; (try dsimp only); (try k_fold))
  revert X; k_fill; intro X
  refine upto hdp hun ?_
  k_steps
  · refine ret _ _ _ _ _ ?_ (by k_asm) (by k_asm) hb
    unfold stripS; rw [if_pos (by with_reducible assumption)]
  refine forStmt ?_
  k_steps
  with_reducible rename Fr _ _ _ _ => F9
  with_reducible rename GSt _ _ _ _ _ _ _ _ _ _ _ => G9
  obtain ⟨m0, hm0, F9⟩ := Fr.named F9
  refine wpAny_pyIter_gen (G9.isGen _ (G9.led _ (List.mem_append_right _ (.head _))).1) ?_
  k_unfold
  obtain ⟨lr, hlr, G9⟩ := GSt.named G9
  subst hlr
  refine iter_gen (by rfl) (by show 801 ≤ 949; decide) (Nat.le_of_ble_eq_true rfl) (Top.nolimit (by assumption)) rfl rfl rfl rfl (sJ x (unitsL false 0 x.cps.toList) m0 lr news) F9 G9 ?_ ?_ ?_
  · subst hm0
    exact ⟨_, _, _, .none, [], 0, sMap_self rfl rfl, rfl, rfl, rfl, Nat.le_refl _⟩
  · intro i u t1 t2 m' news' g' h tk cells hu hJ F₁ N₁ off
    obtain ⟨uc, up, ts, ov, l, n, rfl, hov, rfl, hl, hli⟩ := hJ
    generalize hst : ((unitsL false 0 x.cps.toList).take i).foldl (sStep x) ⟨0, none, []⟩ = st at hov hl F₁
    subst hm0
    dsimp only [sMap] at F₁
    obtain ⟨pu, cu⟩ := u
    have hnl : ∀ p ∈ news, p.1 ≠ lr := fun p hp => Nat.ne_of_lt ((by with_reducible assumption : ∀ p ∈ news, p.1 < lr) p hp)
    by_cases hq : cu = [34]
    · subst hq
      dsimp only at F₁
      rw [show (⟨[34].toArray⟩ : Str) = Str.ofString "\"" from by decide +kernel] at F₁
      cases ho : st.opn with
      | none =>
        rw [ho] at hov
        cases hov
        k_steps
        with_reducible rename Fr _ _ _ _ => F₂
        with_reducible rename News _ _ _ _ => N₂
        refine GTurned.mk F₂ N₂ off ?_
        unfold sJ
        rw [foldl_take_succ _ _ _ _ _ hu, hst]
        exact ⟨_, _, ts, _, l, n, (by simp only [sStep, ho]; exact sMap_1), (by simp [sStep, ho, opV]), rfl, (by simp [sStep, ho, hl]), by omega⟩
      | some o =>
        rw [ho] at hov
        obtain ⟨to, rfl⟩ := hov
        k_steps
        · with_reducible rename Fr _ _ _ _ => F₂
          with_reducible rename News _ _ _ _ => N₂
          with_reducible rename ¬ (_ : Int) = _ => hne9
          refine append_K F₂ N₂ (.head (fun q hq => ?_)) ?_ ?_
          · rcases List.mem_append.mp hq with hq | hq
            · exact hnl q hq
            · exact Ne.symm (off _ (.head _) q hq)
          · intro h₃ F₃ N₃
            rw [push_strs] at N₃
            k_steps
            with_reducible rename Fr _ _ _ _ => F₄
            with_reducible rename News _ _ _ _ => N₄
            refine GTurned.mk (news'' := _ :: news) F₄ N₄ ?_ ?_
            · intro p hp q hq
              rcases List.mem_cons.mp hp with rfl | hp
              · exact off _ (.head _) q hq
              · exact off p (.tail _ hp) q hq
            · unfold sJ
              rw [foldl_take_succ _ _ _ _ _ hu, hst]
              exact ⟨_, _, _, _, _, _, (by simp only [sStep, ho]; exact sMap_2), (by simp [sStep, ho, opV]), rfl, (by simp [sStep, ho, hl, hne9]), by simp; omega⟩
          · have h1 : l.length ≤ 1000000 := by
              have := (List.getElem?_eq_some_iff.mp hu).1
              have h2 := units_length x.cps.toList false 0
              simp at h2
              have h2 : _ ≤ x.length := h2
              omega
            rw [sizeLine_eq]; simp [strValues]; omega
        · with_reducible rename Fr _ _ _ _ => F₂
          with_reducible rename News _ _ _ _ => N₂
          refine GTurned.mk F₂ N₂ off ?_
          unfold sJ
          rw [foldl_take_succ _ _ _ _ _ hu, hst]
          have heq : st.start = o := by with_reducible assumption
          exact ⟨_, _, _, _, l, n, (by simp only [sStep, ho]; exact sMap_2), (by simp [sStep, ho, opV]), rfl, (by simp [sStep, ho, hl, heq]), by omega⟩
    · have hq' : ((⟨cu.toArray⟩ : Str) == Str.ofString "\"") = false := by
        rw [show Str.ofString "\"" = (⟨[34].toArray⟩ : Str) from by decide +kernel]
        simpa using hq
      k_steps
      with_reducible rename Fr _ _ _ _ => F₂
      with_reducible rename News _ _ _ _ => N₂
      refine GTurned.mk F₂ N₂ off ?_
      unfold sJ
      rw [foldl_take_succ _ _ _ _ _ hu, hst]
      exact ⟨_, _, ts, ov, l, n, (by simp only [sStep, hq, if_false]; exact sMap_0), (by simpa [sStep, hq] using hov), rfl, (by simp [sStep, hq, hl]), by omega⟩
  · intro m' news' g' h tk hb' hJ F₁ N₁
    have hul : (unitsL false 0 x.cps.toList).length ≤ 1000 := by
      have := units_length x.cps.toList false 0
      simp at this
      have this : _ ≤ x.length := this
      omega
    obtain ⟨uc, up, ts, ov, l, n, rfl, hov, rfl, hl, hli⟩ := hJ
    have hpl := parts_le x (unitsL false 0 x.cps.toList) ⟨0, none, []⟩ (fun _ h => nomatch h)
    have hsp : stripS x = stripEnd x ((unitsL false 0 x.cps.toList).foldl (sStep x) ⟨0, none, []⟩) := by
      unfold stripS; rw [if_neg (by rw [show (Builtin.Str.occurrences x (Str.ofString "\"") 0 x.length 1).isEmpty = false from by with_reducible assumption]; exact Bool.false_ne_true)]
    rw [List.take_length] at hl F₁ hov
    generalize hst : (unitsL false 0 x.cps.toList).foldl (sStep x) ⟨0, none, []⟩ = st at hov hl F₁ hpl hsp
    subst hm0
    dsimp only [sMap] at F₁
    have hll : l.length ≤ 1000 := Nat.le_trans hli hul
    clear hli hul hst
    k_steps
    · with_reducible rename Fr _ _ _ _ => F₂
      with_reducible rename News _ _ _ _ => N₂
      with_reducible rename (_ < (_ : Int)) => hlt
      refine append_K F₂ N₂ (.head (fun q hq => ?_)) ?_ ?_
      · exact Nat.ne_of_lt ((by with_reducible assumption : ∀ p ∈ news, p.1 < lr) q hq)
      · intro h₃ F₃ N₃
        rw [push_strs] at N₃
        k_steps
        refine SC.join (News.lst N₃ (.head _)) (by rw [List.map_append, hl]) (join_small (k := x.length) (fun p hp => ?_) hx ?_) ?_
        · rcases List.mem_append.mp hp with hp | hp
          · exact hpl p hp
          · rw [List.mem_singleton.mp hp]; exact PyProof.Txt.length_slice_le x _ _
        · rw [← hl]; simp; omega
        · intro t9 k9
          k_steps
          refine ret _ _ _ _ _ ?_ (by k_asm) (cb_drop (by with_reducible assumption) fun p hp => .tail _ hp) hb'
          rw [hsp]; unfold stripEnd; rw [if_pos hlt]; rfl
      · rw [sizeLine_eq]; simp [strValues]; omega
    · with_reducible rename News _ _ _ _ => N₂
      refine SC.join (News.lst N₂ (.head _)) hl (join_small (k := x.length) hpl hx (by rw [← hl]; simp; omega)) ?_
      intro t9 k9
      k_steps
      refine ret _ _ _ _ _ ?_ (by k_asm) (cb_drop (by with_reducible assumption) fun p hp => .tail _ hp) hb'
      rw [hsp]; unfold stripEnd; rw [if_neg (by with_reducible assumption)]
end
end Mine
end

-- part D2
section
open PySem PySem.W PyProof.Rows PySem.Calls
set_option Elab.async false
set_option maxRecDepth 100000
set_option maxHeartbeats 8000000
set_option linter.unusedVariables false
namespace Mine

noncomputable def cnt40 (us : List (Nat × List Nat)) : Nat := us.foldl (fun n u => if u.2 = [40] then n + 1 else n) 0
noncomputable def chkS (x : Str) : Bool := ((cnt40 (unitsL false 0 (stripS x).cps.toList) : Int) == 0)
noncomputable def cMap (m0 : Str → Option Value) (uc up : Option Value) (n : Int) (tn : Tok) : Str → Option Value := fun y =>
  if y = Str.ofString "ch" then uc else if y = Str.ofString "pos" then up else if y = Str.ofString "opens" then some (.int n tn) else m0 y
noncomputable def cJ (us : List (Nat × List Nat)) (m0 : Str → Option Value) (news : List (Addr × Obj)) (i : Nat) (m' : Str → Option Value) (news' : List (Addr × Obj)) : Prop :=
  ∃ uc up tn, m' = cMap m0 uc up (cnt40 (us.take i)) tn ∧ news' = news
theorem cMap_self {m0 : Str → Option Value} {n : Int} {tn : Tok} (h1 : m0 (Str.ofString "opens") = some (.int n tn)) : m0 = cMap m0 (m0 (Str.ofString "ch")) (m0 (Str.ofString "pos")) n tn := by
  funext y
  unfold cMap
  by_cases a1 : y = Str.ofString "ch"
  · simp [a1]
  by_cases a2 : y = Str.ofString "pos"
  · rw [if_neg a1, if_pos a2, a2]
  by_cases a3 : y = Str.ofString "opens"
  · rw [if_neg a1, if_neg a2, if_pos a3, a3, h1]
  · simp [a1, a2, a3]
theorem cMap_0 {m0 : Str → Option Value} {vc vp uc up : Option Value} {n : Int} {tn : Tok} :
    (fun y => if y = Str.ofString "ch" then vc else if y = Str.ofString "pos" then vp else if y = Str.ofString "ch" then uc else if y = Str.ofString "pos" then up else if y = Str.ofString "opens" then some (.int n tn) else m0 y) = cMap m0 vc vp n tn := by
  funext y
  unfold cMap
  by_cases a1 : y = Str.ofString "ch"
  · simp [a1]
  by_cases a2 : y = Str.ofString "pos"
  · simp [a2]
  · simp [a1, a2]
theorem cMap_1 {m0 : Str → Option Value} {vc vp uc up : Option Value} {n n' : Int} {tn tn' : Tok} :
    (fun y => if y = Str.ofString "opens" then some (.int n' tn') else if y = Str.ofString "ch" then vc else if y = Str.ofString "pos" then vp else if y = Str.ofString "ch" then uc else if y = Str.ofString "pos" then up else if y = Str.ofString "opens" then some (.int n tn) else m0 y) = cMap m0 vc vp n' tn' := by
  have n1 : Str.ofString "ch" ≠ Str.ofString "opens" := by decide +kernel
  have n2 : Str.ofString "pos" ≠ Str.ofString "opens" := by decide +kernel
  funext y
  unfold cMap
  by_cases a1 : y = Str.ofString "ch"
  · simp [a1, n1]
  by_cases a2 : y = Str.ofString "pos"
  · simp [a2, n2]
  by_cases a3 : y = Str.ofString "opens"
  · simp [a3, Ne.symm n1, Ne.symm n2]
  · simp [a1, a2, a3]
theorem cnt40_succ {us : List (Nat × List Nat)} {i : Nat} {u : Nat × List Nat} (h : us[i]? = some u) : cnt40 (us.take (i + 1)) = if u.2 = [40] then cnt40 (us.take i) + 1 else cnt40 (us.take i) := by
  unfold cnt40; rw [foldl_take_succ _ _ _ _ _ h]
section
variable {w : World} {mean : ExcName → Option Value} {mg mb : Str → Option Value} {dp un : Nat} {gd : Option (List Code)} {cn : Str} {cnm : List (Str × NameKind)} {cig cic : Bool} {cmo : List (Str × Const)} {a : Addr} {ccd : Value} {cl : List (Str × Addr)} {outer : List Env} {A₀ : Around} {base h₀ : Heap} {L : Addr} {m : Str → Option Value} {news : List (Addr × Obj)} {s : Shared} {Q E : Value → Shared → Prop}

theorem check_c {x : Str} {t : Tok} (B : Below A₀ base outer h₀) (F : Fr h₀ L s.heap m) (X : (hd.heap_1 w.params).In h₀) (N : News h₀ L s.heap news) (T : Top view (looseW view []) mean mg mb h₀) (hdp : dp ≤ 700) (hun : un ≤ 7000) (hx : x.length ≤ 1000) (hs : (stripS x).length ≤ 500000) (h41 : ∀ u ∈ unitsL false 0 (stripS x).cps.toList, u.2 ≠ [41]) (hb : AllBare s.gens)
    (ret : ∀ b h' tk' g', b = chkS x → Fr h₀ L h' m → News h₀ L h' news → AllBare g' → Q (.bool b) { s with heap := h', toks := tk', gens := g' }) :
    wpAny (model Challenge.rw_pd0152_01.row.prog w) { handled := none, depth := dp, frames := some (envX cn { kind := .function, names := cnm, isGenerator := cig, isCoroutine := cic, more := cmo } L a ccd cl :: outer), guards := gd, units := un } (call (.ref 162) [.str x t]) Q E s := by
  k_with_none
  k_with "call ref" => (k_here; (with_reducible show wpAny _ _ (call (Value.ref 148) _) _ _ _); k_dflt (refine' gen_c ?zqk1 ?zqk2 ?zqk3 ?zqk4 ?zqk5 ?zqk6 ?zqk7 ?zqk8 ?zqk9 ?_; (case zqk1 => k_asm); (case zqk2 => k_asm); (case zqk3 => k_asm); (case zqk4 => k_asm); (case zqk5 => k_asm); (case zqk6 => exact Nat.le_of_ble_eq_true rfl); (case zqk7 => exact Nat.le_of_ble_eq_true rfl); (case zqk8 => (first | assumption | omega)); (case zqk9 => assumption); k_whole); intro zqa' zqoa' zqown' zqh' zqtk' zqg' zqF' zqG'; (try dsimp only); (try k_fold))
  k_with "call ref" => (k_here; (with_reducible show wpAny _ _ (call (Value.ref 155) _) _ _ _); k_dflt (refine' strip_c ?zqk1 ?zqk2 ?zqk3 ?zqk4 ?zqk5 ?zqk6 ?zqk7 ?zqk8 ?zqk9 ?_; (case zqk1 => k_asm); (case zqk2 => k_asm); (case zqk3 => k_asm); (case zqk4 => k_asm); (case zqk5 => k_asm); (case zqk6 => exact Nat.le_of_ble_eq_true rfl); (case zqk7 => exact Nat.le_of_ble_eq_true rfl); (case zqk8 => (first | assumption | omega)); (case zqk9 => assumption); k_whole); intro zqr' zqt' zqh' zqtk' zqg' zqhr' zqF' zqN' zqhb'; (try dsimp only); (try k_fold))
  revert X; k_fill; intro X
  refine upto hdp hun ?_
  k_steps
  with_reducible rename _ = stripS _ => hr9
  subst hr9
  refine forStmt ?_
  k_steps
  with_reducible rename Fr _ _ _ _ => F9
  with_reducible rename GSt _ _ _ _ _ _ _ _ _ _ _ => G9
  obtain ⟨m0, hm0, F9⟩ := Fr.named F9
  refine wpAny_pyIter_gen (G9.isGen _ (G9.led _ (List.mem_append_right _ (.head _))).1) ?_
  k_unfold
  refine iter_gen (by rfl) (by show 701 ≤ 949; decide) (Nat.le_of_ble_eq_true rfl) (Top.nolimit (by assumption)) rfl rfl rfl rfl (cJ (unitsL false 0 (stripS x).cps.toList) m0 news) F9 G9 ?_ ?_ ?_
  · subst hm0
    exact ⟨_, _, _, cMap_self rfl, rfl⟩
  · intro i u t1 t2 m' news' g' h tk cells hu hJ F₁ N₁ off
    obtain ⟨uc, up, tn, rfl, rfl⟩ := hJ
    have hc1 := cnt40_succ hu
    have hu41 := h41 _ (List.mem_of_getElem? hu)
    generalize hct : cnt40 ((unitsL false 0 (stripS x).cps.toList).take i) = ct at F₁ hc1
    subst hm0
    dsimp only [cMap] at F₁
    obtain ⟨pu, cu⟩ := u
    by_cases hq : cu = [40]
    · subst hq
      dsimp only at F₁
      rw [show (⟨[40].toArray⟩ : Str) = Str.ofString "(" from by decide +kernel] at F₁
      k_steps
      with_reducible rename Fr _ _ _ _ => F₂
      with_reducible rename News _ _ _ (_ ++ cells) => N₂
      refine GTurned.mk F₂ N₂ off ?_
      unfold cJ
      rw [hc1]
      exact ⟨_, _, _, (by simp only [if_true]; exact cMap_1), rfl⟩
    · have hq1 : ((⟨cu.toArray⟩ : Str) == Str.ofString "(") = false := by
        rw [show Str.ofString "(" = (⟨[40].toArray⟩ : Str) from by decide +kernel]
        simpa using hq
      have hq2 : ((⟨cu.toArray⟩ : Str) == Str.ofString ")") = false := by
        rw [show Str.ofString ")" = (⟨[41].toArray⟩ : Str) from by decide +kernel]
        simpa using hu41
      k_steps
      with_reducible rename Fr _ _ _ _ => F₂
      with_reducible rename News _ _ _ (_ ++ cells) => N₂
      refine GTurned.mk F₂ N₂ off ?_
      unfold cJ
      rw [hc1, if_neg hq]
      exact ⟨_, _, tn, cMap_0, rfl⟩
  · intro m' news' g' h tk hb' hJ F₁ N₁
    obtain ⟨uc, up, tn, rfl, rfl⟩ := hJ
    rw [List.take_length] at F₁
    subst hm0
    dsimp only [cMap] at F₁
    k_steps
    exact ret _ _ _ _ rfl (by k_asm) (by k_asm) hb'
end
end Mine
end

-- part D3
section
open PySem PySem.W PyProof.Rows PySem.Calls
set_option Elab.async false
set_option maxRecDepth 100000
set_option maxHeartbeats 8000000
set_option linter.unusedVariables false
namespace Mine

noncomputable def valS (x : Str) : Str := if chkS x = true then x else Str.ofString "('', '')"
noncomputable def pJ (l : List (Str × Tok)) (m0 : Str → Option Value) (la : Addr) (news : List (Addr × Obj)) (i : Nat) (m' : Str → Option Value) (news' : List (Addr × Obj)) (g' : Array GenState) : Prop :=
  AllBare g' ∧ (∃ u, m' = fun y => if y = Str.ofString "v" then u else m0 y) ∧ ∃ l' n, news' = (la, listOf (strValues l').toArray n) :: news ∧ l'.map (·.1) = (l.take i).map fun p => valS p.1
theorem map_self {x : Str} {m : Str → Option Value} : m = fun y => if y = x then m x else m y := by
  funext y
  by_cases h : y = x
  · simp [h]
  · simp [h]
theorem map_thrice {x : Str} {a b u : Option Value} {m : Str → Option Value} : (fun y => if y = x then a else if y = x then b else if y = x then u else m y) = fun y => if y = x then a else m y := by
  funext y; by_cases h : y = x <;> simp [h]
theorem pJ_step {l : List (Str × Tok)} {i : Nat} {p : Str × Tok} {l' : List (Str × Tok)} {r : Str} {t : Tok} (hp : l[i]? = some p) (h : l'.map (·.1) = (l.take i).map fun p => valS p.1) (hr : r = valS p.1) : (l' ++ [(r, t)]).map (·.1) = (l.take (i + 1)).map fun p => valS p.1 := by
  rw [List.take_add_one, hp, List.map_append, h, List.map_append, hr]; rfl

section
variable {w : World} {mean : ExcName → Option Value} {mg mb : Str → Option Value} {dp un : Nat} {gd : Option (List Code)} {cn : Str} {cnm : List (Str × NameKind)} {cig cic : Bool} {cmo : List (Str × Const)} {a : Addr} {ccd : Value} {cl : List (Str × Addr)} {outer : List Env} {A₀ : Around} {base h₀ : Heap} {L : Addr} {m : Str → Option Value} {news : List (Addr × Obj)} {s : Shared} {Q E : Value → Shared → Prop}

theorem pre_c {lf : Addr} {l : List (Str × Tok)} {k : Nat} (B : Below A₀ base outer h₀) (F : Fr h₀ L s.heap m) (X : (hd.heap_1 w.params).In h₀) (N : News h₀ L s.heap news) (T : Top view (looseW view []) mean mg mb h₀) (hdp : dp ≤ 600) (hun : un ≤ 6000) (hm : (lf, listOf (strValues l).toArray k) ∈ news)
    (hl : ∀ p ∈ l, p.1.length ≤ 1000 ∧ (stripS p.1).length ≤ 500000 ∧ ∀ u ∈ unitsL false 0 (stripS p.1).cps.toList, u.2 ≠ [41]) (hll : l.length ≤ 1000) (hb : AllBare s.gens)
    (ret : ∀ D l' n h' tk' g', l'.map (·.1) = l.map (fun p => valS p.1) → Fr h₀ L h' m → News h₀ L h' ((D, listOf (strValues l').toArray n) :: news) → (∀ p ∈ news, p.1 < D) → AllBare g' → Q (.ref D) { s with heap := h', toks := tk', gens := g' }) :
    wpAny (model Challenge.rw_pd0152_01.row.prog w) { handled := none, depth := dp, frames := some (envX cn { kind := .function, names := cnm, isGenerator := cig, isCoroutine := cic, more := cmo } L a ccd cl :: outer), guards := gd, units := un } (call (.ref 169) [.ref lf]) Q E s := by
  k_with_none
  k_with "call ref" => (k_here; (with_reducible show wpAny _ _ (call (Value.ref 162) _) _ _ _); k_dflt (refine' check_c ?zqk1 ?zqk2 ?zqk3 ?zqk4 ?zqk5 ?zqk6 ?zqk7 ?zqk8 ?zqk9 ?zqk10 ?zqk11 ?_; (case zqk1 => k_asm); (case zqk2 => k_asm); (case zqk3 => k_asm); (case zqk4 => k_asm); (case zqk5 => k_asm); (case zqk6 => exact Nat.le_of_ble_eq_true rfl); (case zqk7 => exact Nat.le_of_ble_eq_true rfl); (case zqk8 => assumption); (case zqk9 => assumption); (case zqk10 => assumption); (case zqk11 => assumption); k_whole); intro zqb' zqh' zqtk' zqg' zqhb9' zqF' zqN' zqhg'; (try dsimp only); (try k_fold))
  revert X; k_fill; intro X
  refine upto hdp hun ?_
  k_steps
  refine forStmt ?_
  k_steps
  with_reducible rename Fr _ _ _ _ => F9
  with_reducible rename News _ _ _ _ => N9
  obtain ⟨m0, hm0, F9⟩ := Fr.named F9
  obtain ⟨la, hla, N9⟩ := News.named2 N9
  subst hla
  have hlt : ∀ p ∈ news, p.1 < la := by with_reducible assumption
  refine iter_list (its := (strValues l).toArray) (k := k) (by rfl) rfl rfl rfl (pJ l m0 la news) ?_ F9 N9 ?_ ?_ ?_
  · rintro i m' news' g' ⟨_, _, l', n, rfl, _⟩
    exact .tail _ hm
  · refine ⟨hb, ⟨m0 (Str.ofString "v"), ?_⟩, [], 0, rfl, rfl⟩
    subst hm0
    exact map_self
  · rintro i v m' news' g' h tk I o hv ⟨hb', ⟨u, rfl⟩, l', n, rfl, hl'⟩ F₁ N₁ off
    obtain ⟨p, hp, rfl⟩ := strValues_at hv
    obtain ⟨hx, hs, h41⟩ := hl p (List.mem_of_getElem? hp)
    subst hm0
    have hlen : l'.length ≤ 1000 := by
      have := congrArg List.length hl'
      simp at this
      omega
    have hI : I ≠ la := Ne.symm (off _ (.head _))
    k_steps
    · with_reducible rename Fr _ _ _ _ => F₂
      with_reducible rename News _ _ _ _ => N₂
      with_reducible rename _ = chkS _ => hc9
      with_reducible rename _ = true => ht9
      with_reducible rename AllBare _ => hb9
      refine append_K F₂ N₂ (.tail hI (.head (fun q hq => Nat.ne_of_lt (hlt q hq)))) ?_ ?_
      · intro h₃ F₃ N₃
        rw [push_strs] at N₃
        k_steps
        with_reducible rename Fr _ _ _ _ => F₄
        with_reducible rename News _ _ _ _ => N₄
        refine Turned.mk (news'' := _ :: news) F₄ N₄ (fun p hp => hp) ?_ ⟨hb9, ⟨_, map_again⟩, _, _, rfl, pJ_step hp hl' (by unfold valS; rw [← hc9, if_pos ht9])⟩
        intro q hq
        rcases List.mem_cons.mp hq with rfl | hq
        · exact Ne.symm hI
        · exact off q (.tail _ hq)
      · rw [sizeLine_eq]; simp [strValues]; omega
    · with_reducible rename Fr _ _ _ _ => F₂
      with_reducible rename News _ _ _ _ => N₂
      with_reducible rename _ = chkS _ => hc9
      with_reducible rename _ = false => ht9
      with_reducible rename AllBare _ => hb9
      refine append_K F₂ N₂ (.tail hI (.head (fun q hq => Nat.ne_of_lt (hlt q hq)))) ?_ ?_
      · intro h₃ F₃ N₃
        rw [push_strs] at N₃
        k_steps
        with_reducible rename Fr _ _ _ _ => F₄
        with_reducible rename News _ _ _ _ => N₄
        refine Turned.mk (news'' := _ :: news) F₄ N₄ (fun p hp => hp) ?_ ⟨hb9, ⟨_, map_thrice⟩, _, _, rfl, pJ_step hp hl' (by unfold valS; rw [← hc9, if_neg (by rw [ht9]; exact Bool.false_ne_true)])⟩
        intro q hq
        rcases List.mem_cons.mp hq with rfl | hq
        · exact Ne.symm hI
        · exact off q (.tail _ hq)
      · rw [sizeLine_eq]; simp [strValues]; omega
  · rintro m' news' g' h tk ⟨hb', ⟨u, rfl⟩, l', n, rfl, hl'⟩ F₁ N₁
    subst hm0
    k_steps
    refine ret _ _ _ _ _ _ ?_ (by k_asm) (by k_asm) hlt hb'
    rw [hl', show (strValues l).toArray.size = l.length from by simp [strValues], List.take_length]
end
end Mine
end

-- part G5
section
open PySem PySem.W PyProof.Rows PySem.Calls
set_option Elab.async false
set_option maxRecDepth 100000
set_option maxHeartbeats 8000000
set_option linter.unusedVariables false
namespace Mine

open PySem.W.X
open Sem (wp)
section
variable {prog : Program} {w : World} {A : Around} {E : Value → Shared → Prop} {s : Shared} {env : Env} {h₀ : Heap} {L : Addr} {m : Str → Option Value} {news : List (Addr × Obj)}
noncomputable def unitS (u : Nat × List Nat) : Str := ⟨u.2.toArray⟩
theorem lst_push (l : List (Str × Tok)) (r : Str) (t : Tok) : ({ cls := .type "list", data := .seq ((strValues l).toArray.push (.str r t)) ((strValues l).length + 1) } : Obj) = LCg.lst (strValues (l ++ [(r, t)])) := by
  have := LCg.lst_snoc (strValues l) (.str r t)
  rw [this]
  simp [strValues]
/-- the loop of a comprehension over a ready generator's second parts -/
theorem gen_block {iter : Expr} {x1 x2 : Str} {p1 p2 pe tp pos : Pos} {kt} {scope : Scope} {cl : List (Str × Addr)} {a : Addr} {oa : Obj} {g : Nat} {us : List (Nat × List Nat)} {own : List (Addr × Obj)} {RR : Value → Addr → Result → Shared → Prop}
    (hh : A.handled = none) (hd : A.depth ≤ 949) (hu : A.units ≤ 9400) (hl : h₀.NoLimit) (hcell : ∀ y ∈ scope.names, y.2 ≠ .cell) (hkind : scope.kind = .function) (hx1 : scope.names.lookup x1 = some .local) (hx2 : scope.names.lookup x2 = some .local)
    (hdb : (x2 == ("__debug__" : Str)) = false) (F : Fr h₀ L s.heap m) (G : GSt prog w h₀ L a oa g us s news own) (hus : us.length ≤ 1000)
    (hRR : ∀ D C h tk g' m' l, AllBare g' → Fr h₀ L h m → News h₀ L h ((D, LCg.lst (strValues l)) :: news) → (∀ p ∈ news, p.1 ≠ D) → h.Ns C m' → h₀.get? C = none → C ≠ L → C ≠ D → D ≠ L → (∀ p ∈ news, p.1 ≠ C) → l.map (·.1) = us.map unitS →
      RR (.ref D) C (.ok .next) { s with heap := h, toks := tk, gens := g' }) :
    wpAny (model prog w) A (newList []) (fun acc s₃ => wpAny (model prog w) A (newFunctionEnv scope env.globals cl [] env.qual none .none (some env)) (fun cenv s₄ =>
      codeAny (model prog w) A (.compStart (.ListComp (.Name x2 pe) [⟨.Tuple [.Name x1 p1, .Name x2 p2] kt tp, iter, [], 0⟩] scope pos) 0 (.ref a) acc { cenv with scope := relabel scope env }) (RR acc cenv.locals) s₄) E s₃) E s := by
  refine wpAny_newObj_type (wpAny_newFunctionEnv hcell (by intro y hy; simp at hy) (fun h₁ hns₁ hsb₁ => ?_) hkind)
  dsimp only at hns₁ hsb₁ ⊢
  generalize hH2 : s.heap.push { cls := .type "list", dict := none, data := .seq ([] : List Value).toArray } = H2 at hns₁ hsb₁ ⊢
  have hC : H2.objs.size = s.heap.objs.size + 1 := by rw [← hH2, Heap.size_push]
  have hDC : s.heap.objs.size ≠ H2.objs.size := by rw [hC]; exact Nat.ne_of_lt (Nat.lt_succ_self _)
  have below : ∀ b o, s.heap.get? b = some o → b ≠ H2.objs.size ∧ b ≠ s.heap.objs.size := fun b o e => ⟨by rw [hC]; exact Nat.ne_of_lt (Nat.lt_succ_of_lt (Heap.lt_size e)), Nat.ne_of_lt (Heap.lt_size e)⟩
  have old : ∀ b o, s.heap.get? b = some o → h₁.get? b = some o := fun b o e => hsb₁.extBut b o (below b o e).1 (Heap.get?_push_of_some _ (hH2 ▸ Heap.get?_push_of_some _ e))
  have hacc : h₁.get? s.heap.objs.size = some (LCg.lst []) := hsb₁.extBut _ _ hDC (Heap.get?_push_of_some _ (hH2 ▸ Heap.get?_push_size _ rfl))
  have fresh₀ : ∀ b, s.heap.objs.size ≤ b → h₀.get? b = none := fun b hb => by
    cases e : h₀.get? b with
    | none => rfl
    | some o' => exact absurd (Heap.lt_size (F.keep b o' e)) (Nat.not_lt.mpr hb)
  have hD₀ : h₀.get? s.heap.objs.size = none := fresh₀ _ (Nat.le_refl _)
  have hC₀ : h₀.get? H2.objs.size = none := fresh₀ _ (by rw [hC]; exact Nat.le_succ _)
  obtain ⟨oL, _, _, hoL, _⟩ := id F.ns
  have hDL : s.heap.objs.size ≠ L := Ne.symm (below L _ hoL).2
  have hCL : H2.objs.size ≠ L := Ne.symm (below L _ hoL).1
  have hnCD : ∀ p ∈ news, p.1 ≠ H2.objs.size ∧ p.1 ≠ s.heap.objs.size := fun p hp => below p.1 p.2 (G.led p (List.mem_append_left _ hp)).1
  have haCD : ∀ q ∈ (a, oa) :: own, q.1 ≠ H2.objs.size ∧ q.1 ≠ s.heap.objs.size := fun q hq => below q.1 q.2 (G.led q (List.mem_append_right _ hq)).1
  generalize hDn : s.heap.objs.size = D at *
  generalize hCn : H2.objs.size = C at *
  have loop : ∀ s₃ : Shared, s₃ = { s with heap := h₁, toks := s.toks + ([] : List (Str × Value)).length } →
      codeAny (model prog w) A (.compLoop (.ListComp (.Name x2 pe) [⟨.Tuple [.Name x1 p1, .Name x2 p2] kt tp, iter, [], 0⟩] scope pos) 0 (.ref a) (.ref D) (compEnvC scope cl C env)) (RR (.ref D) C) s₃ := by
    rintro s₃ rfl
    obtain ⟨oC, hoC, hnC⟩ := LCg.ns_obj hns₁
    refine LCp.codeAny_compLoop_pair
      (fun k s' => ∃ i h' tk g' own' oC mC l, s' = { s with heap := h', toks := tk, gens := g' } ∧ i ≤ us.length ∧ k = us.length + 1 - i ∧ Fr h₀ L h' m ∧ LCg.NsObj oC mC ∧
        GSt prog w h₀ L a oa g (us.drop i) { s with heap := h', toks := tk, gens := g' } ((C, oC) :: (D, LCg.lst (strValues l)) :: news) own' ∧ l.map (·.1) = (us.take i).map unitS) ?_ (us.length + 1)
      ⟨0, h₁, _, s.gens, own, oC, _, [], rfl, Nat.zero_le _, rfl, F.keeps old, hnC, ⟨G.gs, G.bare, ?_, ?_, G.offA, G.isGen⟩, rfl⟩
    · rintro k s' ⟨i, h', tk, g', own', oC, mC, l, rfl, hi, rfl, F', hnC, G', hl'⟩
      by_cases hlt : i < us.length
      · have hdrop : us.drop i = us[i] :: us.drop (i + 1) := List.drop_eq_getElem_cons hlt
        rw [hdrop] at G'
        refine GSt.next G' F' hh hd hu hl ?_
        intro T t1 t2 own₂ h₂ tk₂ g₂ hT F₂ G₂
        have haL : (a, oa) ∈ ((C, oC) :: (D, LCg.lst (strValues l)) :: news) ++ (a, oa) :: own₂ := List.mem_append_right _ (.head _)
        refine go_gen (G₂.isGen _ (G₂.led _ haL).1) ?_
        refine wpAny_assign_Tuple hh ⟨_, hT, rfl, _, rfl⟩ rfl rfl fun h₃ hx₃ => ?_
        have up₃ : ∀ b o, h₂.get? b = some o → h₃.get? b = some o := fun b o e => hx₃ b o (Nat.ne_of_lt (Heap.lt_size e)) e
        have F₃ : Fr h₀ L h₃ m := F₂.keeps up₃
        have N₃ := News.grown G₂.led up₃
        have ns₃ : h₃.Ns C mC := hnC.ns (N₃ _ (.head _)).1
        show wpAny _ A (do holding [_] (assign (.Name x1 p1) _ _); do holding [] (assign (.Name x2 p2) _ _); pure ()) _ _ _
        have hpc : ((compEnvC scope cl C env).scope.kind == .class || ((compEnvC scope cl C env).scope.kind == .module && (compEnvC scope cl C env).locals != (compEnvC scope cl C env).globals)) = false := by simp [compEnvC, relabel, hkind]
        refine wpAny_bind (wpAny_holding (wpAny_assign_Name (wpAny_storeName_local (lookup_relabel_local hx1) ns₃ (fun h₄ hn₄ hs₄ => ?_) hpc)))
        refine wpAny_bind (wpAny_holding (wpAny_assign_Name (wpAny_storeName_local (lookup_relabel_local hx2) hn₄ (fun h₅ hn₅ hs₅ => wpAny_pure ?_) hpc)))
        refine wpAny_Name (wpAny_loadName_local (v := .str (unitS us[i]) t2) (by simp [compEnvC, relabel, hkind]) (lookup_relabel_local hx2) hn₅ (by simp; rfl) ?_) hdb
        have zD : h₅.get? D = some (LCg.lst (strValues l)) := hs₅.extBut _ _ hDC (hs₄.extBut _ _ hDC (N₃ _ (.tail _ (.head _))).1)
        have hll : l.length = i := by
          have := congrArg List.length hl'
          simp at this
          omega
        refine append_at (hsz := by rw [sizeLine_eq]; simp [strValues]; omega) zD fun h₆ hs₆ hD₆ => ?_
        have F₆ : Fr h₀ L h₆ m := ((F₃.change hs₄ hCL hC₀).change hs₅ hCL hC₀).change hs₆ hDL hD₀
        have ns₆ := hn₅.sameBut hs₆ (Ne.symm hDC)
        obtain ⟨oC₆, hoC₆, hnC₆⟩ := LCg.ns_obj ns₆
        have up₆ : ∀ b o, b ≠ C → b ≠ D → h₃.get? b = some o → h₆.get? b = some o := fun b o b1 b2 e => hs₆.extBut b o b2 (hs₅.extBut b o b1 (hs₄.extBut b o b1 e))
        refine ⟨us.length + 1 - (i + 1), by omega, i + 1, h₆, _, g₂, own₂, oC₆, _, l ++ [(unitS us[i], t2)], rfl, hlt, rfl, F₆, hnC₆, G₂.keep (fun q hq => ?_) (fun q hq r hr => ?_), ?_⟩
        · rcases List.mem_append.mp hq with hq | hq
          · rcases List.mem_cons.mp hq with rfl | hq
            · exact ⟨hoC₆, hCL, hC₀⟩
            rcases List.mem_cons.mp hq with rfl | hq
            · exact ⟨hD₆.trans (congrArg some (lst_push l _ _)), hDL, hD₀⟩
            · have z := N₃ q (List.mem_append_left _ (.tail _ (.tail _ hq)))
              exact ⟨up₆ _ _ (hnCD q hq).1 (hnCD q hq).2 z.1, z.2⟩
          · have z := N₃ q (List.mem_append_right _ hq)
            exact ⟨up₆ _ _ (Ne.symm (G₂.off _ (.head _) q hq)) (Ne.symm (G₂.off _ (.tail _ (.head _)) q hq)) z.1, z.2⟩
        · rcases List.mem_cons.mp hq with rfl | hq
          · exact G₂.off _ (.head _) r hr
          rcases List.mem_cons.mp hq with rfl | hq
          · exact G₂.off _ (.tail _ (.head _)) r hr
          · exact G₂.off q (.tail _ (.tail _ hq)) r hr
        · rw [List.take_add_one, List.getElem?_eq_getElem hlt, List.map_append, List.map_append, hl']
          rfl
      · obtain rfl : i = us.length := Nat.le_antisymm hi (Nat.not_lt.mp hlt)
        rw [List.drop_length] at G'
        refine GSt.last G' F' hh hd hu hl fun h₂ tk₂ g₂ F₂ N₂ hb => ?_
        rw [List.take_length] at hl'
        exact hRR D C h₂ tk₂ g₂ mC l hb F₂ (fun p hp => N₂ p (.tail _ hp)) (fun p hp => (hnCD p hp).2) (hnC.ns (N₂ _ (.head _)).1) hC₀ hCL (Ne.symm hDC) hDL (fun p hp => (hnCD p hp).1) hl'
    · intro q hq
      rcases List.mem_append.mp hq with hq | hq
      · rcases List.mem_cons.mp hq with rfl | hq
        · exact ⟨hoC, hCL, hC₀⟩
        rcases List.mem_cons.mp hq with rfl | hq
        · exact ⟨hacc, hDL, hD₀⟩
        · have z := G.led q (List.mem_append_left _ hq)
          exact ⟨old _ _ z.1, z.2⟩
      · have z := G.led q (List.mem_append_right _ hq)
        exact ⟨old _ _ z.1, z.2⟩
    · intro q hq r hr
      rcases List.mem_cons.mp hq with rfl | hq
      · exact Ne.symm (haCD r hr).1
      rcases List.mem_cons.mp hq with rfl | hq
      · exact Ne.symm (haCD r hr).2
      · exact G.off q hq r hr
  exact codeAny_compStart_list (loop _ rfl) (wpAny_pyIter_gen (G.isGen _ (old _ _ (G.led _ (List.mem_append_right _ (.head _))).1)) (loop _ rfl))
theorem assign_comp_gen {iter : Expr} {x1 x2 y : Str} {p1 p2 pe py tp pos spos : Pos} {kt} {scope : Scope} {cl : List (Str × Addr)} {Q : Flow → Shared → Prop} (hLe : env.locals = L)
    (hsw : swapsWith (.ListComp (.Name x2 pe) [⟨.Tuple [.Name x1 p1, .Name x2 p2] kt tp, iter, [], 0⟩] scope pos) (some (.Name y py)) spos.line env = pure true)
    (hclos : closureFor scope env = pure cl) (hcell : ∀ z ∈ scope.names, z.2 ≠ .cell) (hkind : scope.kind = .function)
    (hnames : ∀ z ∈ scope.names, z.2 = .local → scope.names.lookup z.1 = some .local) (hx1 : scope.names.lookup x1 = some .local) (hx2 : scope.names.lookup x2 = some .local) (hdb : (x2 == ("__debug__" : Str)) = false)
    (hy : env.kindOf y = some .local) (hp : (env.scope.kind == .class || (env.scope.kind == .module && env.locals != env.globals)) = false)
    (hh : A.handled = none) (hd : A.depth ≤ 949) (hu : A.units ≤ 9400) (hl : h₀.NoLimit)
    (h : wpAny (model prog w) A (eval iter env) (fun xv s₁ => ∃ a oa g us own news m, xv = .ref a ∧ Fr h₀ L s₁.heap m ∧ GSt prog w h₀ L a oa g us s₁ news own ∧ us.length ≤ 1000 ∧
      ∀ D l h' tk' g', AllBare g' → Fr h₀ L h' (fun z => if z = y then some (.ref D) else m z) → News h₀ L h' ((D, LCg.lst (strValues l)) :: news) → (∀ p ∈ news, p.1 ≠ D) → l.map (·.1) = us.map unitS → Q .next { s₁ with heap := h', toks := tk', gens := g' }) E s)
    (hs : ∀ x, foldedSetIterable iter env x = pure x := by intro _; rfl) :
    wpAny (model prog w) A (exec (.Assign [.Name y py] (.ListComp (.Name x2 pe) [⟨.Tuple [.Name x1 p1, .Name x2 p2] kt tp, iter, [], 0⟩] scope pos) spos) env) Q E s := by
  subst hLe
  rw [exec_Assign_Name_used _ _ _ _ hsw]
  refine wpAny_bind (wpAny_standAt (wpAny_bind ?_))
  show wpAny _ A (do let _ ← comprehension (.ListComp (.Name x2 pe) [⟨.Tuple [.Name x1 p1, .Name x2 p2] kt tp, iter, [], 0⟩] scope pos) scope env _ (newList []) false (eval iter env) (some (assign (.Name y py) env))) _ _ s
  refine wpAny_bind (wpAny_mono (wpAny_comprehension_free (use := some (assign (.Name y py) env)) (Q := fun _ s' => Q .next s') rfl hs hclos hkind hnames
    (wpAny_mono h (fun xv s₁ h₁ => ?_) fun _ _ e => e)) (fun _ s' hq => wpAny_pure (wpAny_pure hq)) fun _ _ e => e)
  obtain ⟨a, oa, g, us, own, news, m, rfl, F, G, hus, fin⟩ := h₁
  refine wpAny_pyIter_gen (G.isGen _ (G.led _ (List.mem_append_right _ (.head _))).1) ?_
  refine gen_block hh hd hu hl hcell hkind hx1 hx2 hdb F G hus ?_
  intro D C h' tk g' m' l hb F' N' offD hn hC₀ hCL hCD hDL offC hlm
  show wpAny _ A (assign (.Name y py) env (.ref D)) _ _ _
  refine wpAny_assign_Name (wpAny_storeName_local hy F'.ns (fun h₂ hn₂ hs₂ => ?_) hp)
  have F₂ := F'.set hn₂ hs₂
  have N₂ := N'.set hs₂
  refine ⟨m', hn.sameBut hs₂ hCL, fun h'' hs'' => fin D l h'' _ g' hb (F₂.change hs'' hCL hC₀) (fun q hq => ?_) offD hlm⟩
  refine ⟨hs''.extBut _ _ ?_ (N₂ q hq).1, (N₂ q hq).2⟩
  rcases List.mem_cons.mp hq with rfl | hq
  · exact Ne.symm hCD
  · exact offC q hq
end
end Mine
end

-- part G6
section
open PySem PySem.W PyProof.Rows PySem.Calls
set_option Elab.async false
set_option maxRecDepth 100000
set_option maxHeartbeats 8000000
set_option linter.unusedVariables false
namespace Mine

section
variable {prog : Program} {w : World} {A : Around} {h₀ : Heap} {L : Addr} {m : Str → Option Value} {env : Env} {s : Shared} {news : List (Addr × Obj)}
/-- the walker stops here -/
noncomputable def Stop (p : Prop) : Prop := p
theorem comp_stop {E : Value → Shared → Prop} {elt iter : Expr} {x : Str} {px : Pos} {scope : Scope} {cl : List (Str × Addr)} {pos : Pos} {Q : Value → Shared → Prop} (F₀ : Fr h₀ L s.heap m)
    (hclos : closureFor scope env = pure cl) (hcell : ∀ y ∈ scope.names, y.2 ≠ .cell) (hkind : scope.kind = .function)
    (hnames : ∀ y ∈ scope.names, y.2 = .local → scope.names.lookup y.1 = some .local) (hx : scope.names.lookup x = some .local)
    (h : wpAny (model prog w) A (eval iter env) (fun xv s₁ => Stop (LCg.CompSrc prog w A h₀ L m env elt x scope cl (fun s₂ => LCg.FinE h₀ L m s₂ Q) xv s₁)) E s)
    (hs : ∀ x, foldedSetIterable iter env x = pure x := by intro _; rfl) :
    wpAny (model prog w) A (eval (.ListComp elt [⟨.Name x px, iter, [], 0⟩] scope pos) env) Q E s := LCg.ListComp_U F₀ hclos hcell hkind hnames hx h hs
theorem gen_stop {E : Value → Shared → Prop} {iter : Expr} {x1 x2 y : Str} {p1 p2 pe py tp pos spos : Pos} {kt} {scope : Scope} {cl : List (Str × Addr)} {Q : Flow → Shared → Prop} (hLe : env.locals = L)
    (hsw : swapsWith (.ListComp (.Name x2 pe) [⟨.Tuple [.Name x1 p1, .Name x2 p2] kt tp, iter, [], 0⟩] scope pos) (some (.Name y py)) spos.line env = pure true)
    (hclos : closureFor scope env = pure cl) (hcell : ∀ z ∈ scope.names, z.2 ≠ .cell) (hkind : scope.kind = .function)
    (hnames : ∀ z ∈ scope.names, z.2 = .local → scope.names.lookup z.1 = some .local) (hx1 : scope.names.lookup x1 = some .local) (hx2 : scope.names.lookup x2 = some .local) (hdb : (x2 == ("__debug__" : Str)) = false)
    (hy : env.kindOf y = some .local) (hp : (env.scope.kind == .class || (env.scope.kind == .module && env.locals != env.globals)) = false)
    (hh : A.handled = none) (hd : A.depth ≤ 949) (hu : A.units ≤ 9400) (hl : h₀.NoLimit)
    (h : wpAny (model prog w) A (eval iter env) (fun xv s₁ => Stop (∃ a oa g us own news m, xv = .ref a ∧ Fr h₀ L s₁.heap m ∧ GSt prog w h₀ L a oa g us s₁ news own ∧ us.length ≤ 1000 ∧
      ∀ D l h' tk' g', AllBare g' → Fr h₀ L h' (fun z => if z = y then some (.ref D) else m z) → News h₀ L h' ((D, LCg.lst (strValues l)) :: news) → (∀ p ∈ news, p.1 ≠ D) → l.map (·.1) = us.map unitS → Q .next { s₁ with heap := h', toks := tk', gens := g' })) E s)
    (hs : ∀ x, foldedSetIterable iter env x = pure x := by intro _; rfl) :
    wpAny (model prog w) A (exec (.Assign [.Name y py] (.ListComp (.Name x2 pe) [⟨.Tuple [.Name x1 p1, .Name x2 p2] kt tp, iter, [], 0⟩] scope pos) spos) env) Q E s :=
  assign_comp_gen hLe hsw hclos hcell hkind hnames hx1 hx2 hdb hy hp hh hd hu hl h hs
/-- the turns of a comprehension whose items are texts and whose element is a text of the item -/
theorem rest_strs {elt : Expr} {x : Str} {scope : Scope} {cl : List (Str × Addr)} {S : List (Addr × Obj) → Prop} {P : Nat → Value → Prop} {Fin : List Value → List (Addr × Obj) → Prop} (us : List Str) (f : Str → Str)
    (hP : ∀ i v, i < us.length → P i v → ∃ u t, us[i]? = some u ∧ v = .str u t)
    (step : ∀ u t I oI C oC D ys m₂ h tk (E' : Value → Shared → Prop), u ∈ us → LCg.NsObj oC m₂ → m₂ x = some (.str u t) → Fr h₀ L h m → News h₀ L h ((I, oI) :: (C, oC) :: (D, LCg.lst ys) :: news) → LCg.Off3 I C D news → ((@Ne Nat I C) ∧ (@Ne Nat I D) ∧ (@Ne Nat C D)) →
      wpAny (model prog w) A (eval elt (compEnvC scope cl C env)) (LCg.CompEnd h₀ L m { s with heap := h, toks := tk } I oI C oC D (LCg.lst ys) S (fun y news' => news' = news ∧ ∃ t', y = .str (f u) t')) E' { s with heap := h, toks := tk })
    (fin : ∀ l : List (Str × Tok), l.map (·.1) = us.map f → Fin (strValues l) news) :
    ∀ k i (l : List (Str × Tok)), i + k = us.length → l.map (·.1) = (us.take i).map f → LCg.CompRest prog w A h₀ L m env elt x scope cl s S P Fin k i (strValues l) news := by
  intro k
  induction k with
  | zero =>
    intro i l hi hl
    refine LCg.CompRest.zero (fin l ?_)
    rw [hl, List.take_of_length_le (by omega)]
  | succ k ih =>
    intro i l hi hl
    refine LCg.CompRest.succ ?_
    intro v I oI C oC D m₂ h tk E' hv hn hm F N off ne
    obtain ⟨u, t, hu, rfl⟩ := hP i v (by omega) hv
    refine wpAny_mono (step u t I oI C oC D (strValues l) m₂ h tk E' (List.mem_of_getElem? hu) hn hm F N off ne) (fun y s₂ hy => ?_) fun _ _ e => e
    obtain ⟨h', tk', news', rfl, F', N', off', hS, rfl, t', rfl⟩ := hy
    refine ⟨h', tk', news', rfl, F', N', off', hS, ?_⟩
    have := ih (i + 1) (l ++ [(f u, t')]) (by omega) (by rw [List.take_add_one, hu, List.map_append, List.map_append, hl]; rfl)
    simpa [strValues] using this
theorem src_strs {elt : Expr} {x : Str} {scope : Scope} {cl : List (Str × Addr)} {Fin : Shared → List Value → List (Addr × Obj) → Prop} {ax : Addr} {l : List (Str × Tok)} {k : Nat} (f : Str → Str)
    (hh : A.handled = none) (F : Fr h₀ L s.heap m) (N : News h₀ L s.heap news) (hm : (ax, listOf (strValues l).toArray k) ∈ news) (hsz : l.length ≤ 1000)
    (step : ∀ u t I oI C oC D ys m₂ h tk g (E' : Value → Shared → Prop), u ∈ l.map (·.1) → LCg.NsObj oC m₂ → m₂ x = some (.str u t) → Fr h₀ L h m → News h₀ L h ((I, oI) :: (C, oC) :: (D, LCg.lst ys) :: news) → LCg.Off3 I C D news → ((@Ne Nat I C) ∧ (@Ne Nat I D) ∧ (@Ne Nat C D)) →
      wpAny (model prog w) A (eval elt (compEnvC scope cl C env)) (LCg.CompEnd h₀ L m { s with heap := h, toks := tk } I oI C oC D (LCg.lst ys) (LCg.SrcAt h₀ ax (strValues l).toArray) (fun y news' => news' = news ∧ ∃ t', y = .str (f u) t')) E' { ({ s with heap := g } : Shared) with heap := h, toks := tk })
    (fin : ∀ g (l' : List (Str × Tok)), l'.map (·.1) = (l.map (·.1)).map f → Fin { s with heap := g } (strValues l') news) :
    LCg.CompSrc prog w A h₀ L m env elt x scope cl Fin (.ref ax) s := by
  refine LCg.CompSrc.ledger hh F N hm ?_ fun g => ?_
  · simp [strValues]
    have : (1000:Nat) ≤ sizeLine := Nat.le_of_ble_eq_true rfl
    omega
  · have := rest_strs (prog := prog) (w := w) (A := A) (h₀ := h₀) (L := L) (m := m) (env := env) (s := { s with heap := g }) (news := news) (elt := elt) (x := x) (scope := scope) (cl := cl) (S := LCg.SrcAt h₀ ax (strValues l).toArray) (P := fun i v => (strValues l).toArray[i]? = some v) (Fin := Fin { s with heap := g }) (l.map (·.1)) f
      (fun i v hi hv => ?_) (fun u t I oI C oC D ys m₂ h tk E' => step u t I oI C oC D ys m₂ h tk g E') (fun l' hl' => fin g l' hl') l.length 0 [] (by simp) rfl
    · simpa [strValues] using this
    · simp only [List.getElem?_toArray, strValues, List.getElem?_map] at hv
      cases e : l[i]? with
      | none => rw [e] at hv; cases hv
      | some p =>
        rw [e] at hv
        exact ⟨p.1, p.2, by simp [e], by simpa using hv.symm⟩
end
end Mine
end

-- part R1
section
open PySem PySem.W PyProof.Rows PySem.Calls
set_option Elab.async false
set_option maxRecDepth 100000
set_option maxHeartbeats 8000000
set_option linter.unusedVariables false
namespace Mine

set_option maxHeartbeats 1500000
section
variable {w : World} {mean : ExcName → Option Value} {mg mb : Str → Option Value} {dp un : Nat} {gd : Option (List Code)} {cn : Str} {cnm : List (Str × NameKind)} {cig cic : Bool} {cmo : List (Str × Const)} {a : Addr} {ccd : Value} {cl : List (Str × Addr)} {outer : List Env} {A₀ : Around} {base h₀ : Heap} {L : Addr} {m : Str → Option Value} {news : List (Addr × Obj)} {s : Shared} {Q E : Value → Shared → Prop}

theorem split_d {x : Str} {t : Tok} (B : Below A₀ base outer h₀) (F : Fr h₀ L s.heap m) (X : (hd.heap_1 w.params).In h₀) (N : News h₀ L s.heap news) (T : Top view (looseW view []) mean mg mb h₀) (hdp : dp ≤ 800) (hun : un ≤ 8000) (hx : x.length ≤ 500000)
    (ret : ∀ D t1 t2 h' tk', Fr h₀ L h' m → News h₀ L h' ((D, { cls := .type "tuple", data := .seq #[.str (splitH x) t1, .str (splitT x) t2] }) :: news) → (∀ p ∈ news, p.1 < D) → Q (.ref D) { s with heap := h', toks := tk' }) :
    wpAny (model Challenge.rw_pd0152_01.row.prog w) { handled := none, depth := dp, frames := some (envX cn { kind := .function, names := cnm, isGenerator := cig, isCoroutine := cic, more := cmo } L a ccd cl :: outer), guards := gd, units := un } (call (.ref 122) [.str x t]) Q E s :=
  split_c B F X N T hdp hun hx fun D r1 r2 t1 t2 h' tk' e1 e2 => by subst e1 e2; exact ret D t1 t2 h' tk'
theorem join_d {x y : Str} {t t1 : Tok} (B : Below A₀ base outer h₀) (F : Fr h₀ L s.heap m) (X : (hd.heap_1 w.params).In h₀) (N : News h₀ L s.heap news) (T : Top view (looseW view []) mean mg mb h₀) (hdp : dp ≤ 800) (hun : un ≤ 8000) (hx : x.length ≤ 500000) (hy : y.length ≤ 500000)
    (ret : ∀ t' h' tk', Fr h₀ L h' m → News h₀ L h' news → Q (.str (joinS x y) t') { s with heap := h', toks := tk' }) :
    wpAny (model Challenge.rw_pd0152_01.row.prog w) { handled := none, depth := dp, frames := some (envX cn { kind := .function, names := cnm, isGenerator := cig, isCoroutine := cic, more := cmo } L a ccd cl :: outer), guards := gd, units := un } (call (.ref 115) [.str x t, .str y t1]) Q E s :=
  join_c B F X N T hdp hun hx hy fun r t' h' tk' e => by subst e; exact ret t' h' tk'
theorem strip_d {x : Str} {t : Tok} (B : Below A₀ base outer h₀) (F : Fr h₀ L s.heap m) (X : (hd.heap_1 w.params).In h₀) (N : News h₀ L s.heap news) (T : Top view (looseW view []) mean mg mb h₀) (hdp : dp ≤ 800) (hun : un ≤ 8000) (hx : x.length ≤ 1000) (hb : AllBare s.gens)
    (ret : ∀ t h' tk' g', Fr h₀ L h' m → News h₀ L h' news → AllBare g' → Q (.str (stripS x) t) { s with heap := h', toks := tk', gens := g' }) :
    wpAny (model Challenge.rw_pd0152_01.row.prog w) { handled := none, depth := dp, frames := some (envX cn { kind := .function, names := cnm, isGenerator := cig, isCoroutine := cic, more := cmo } L a ccd cl :: outer), guards := gd, units := un } (call (.ref 155) [.str x t]) Q E s :=
  strip_c B F X N T hdp hun hx hb fun r t' h' tk' g' e => by subst e; exact ret t' h' tk' g'
end
section
variable {w : World} {mean : ExcName → Option Value} {mg mb : Str → Option Value} {dp un : Nat} {gd : Option (List Code)} {cn : Str} {cnm : List (Str × NameKind)} {cig cic : Bool} {cmo : List (Str × Const)} {a : Addr} {ccd : Value} {cl : List (Str × Addr)} {outer : List Env} {A₀ : Around} {base h₀ : Heap} {L : Addr} {m : Str → Option Value} {news : List (Addr × Obj)} {s : Shared} {Q E : Value → Shared → Prop}

theorem add_strs {prog : Program} {A : Around} {a b : Addr} {nm : Str} {t : Tok} {l : List (Str × Tok)} {k k2 : Nat} (F : Fr h₀ L s.heap m) (N : News h₀ L s.heap news) (ha : (a, listOf #[.str nm t] k) ∈ news) (hb : (b, listOf (strValues l).toArray k2) ∈ news) (hl : l.length ≤ 1000)
    (h : ∀ D h', Fr h₀ L h' m → News h₀ L h' ((D, listOf (strValues ((nm, t) :: l)).toArray 0) :: news) → (∀ p ∈ news, p.1 < D) → (∀ p ∈ news, p.1 ≠ D) → Q (.ref D) { s with heap := h' }) : wpAny (model prog w) A (binaryOp .Add (.ref a) (.ref b)) Q E s := by
  refine kmk_add_lit F N (News.lst N ha) (News.lst N hb) (zs := strValues ((nm, t) :: l)) (by simp [strValues]) (fun D h' F' N' l1 => h D h' F' N' l1 fun p hp => Nat.ne_of_lt (l1 p hp)) ?_
  have : (2000:Nat) ≤ sizeLine := Nat.le_of_ble_eq_true rfl
  simp [strValues]
  omega
end
theorem splitT_len (x : Str) : (splitT x).length ≤ x.length := PyProof.Txt.length_slice_le x _ _
theorem unit_short : ∀ (cs : List Nat) (b : Bool) (p : Nat), ∀ u ∈ unitsL b p cs, u.2.length ≤ 2
  | [], true, p => by simp [unitsL]
  | [], false, p => by simp [unitsL]
  | c :: r, true, p => by
    have := unit_short r false (p + 1)
    simp only [unitsL, List.forall_mem_cons]
    exact ⟨by simp, this⟩
  | c :: r, false, p => by
    unfold unitsL
    split
    · exact unit_short r true (p + 1)
    · have := unit_short r false (p + 1)
      simp only [List.forall_mem_cons]
      exact ⟨by simp, this⟩
theorem unit_len {cs : List Nat} {u : Str} (h : u ∈ (unitsL false 0 cs).map unitS) : u.length ≤ 1000 := by
  obtain ⟨p, hp, rfl⟩ := List.mem_map.mp h
  have := unit_short cs false 0 p hp
  have e : (unitS p).length = p.2.length := by simp [unitS, Str.length]
  omega
theorem units_few {x : Str} (h : x.length ≤ 1000) : (unitsL false 0 (Txt.slice x (some 1) (some (-1))).cps.toList).length ≤ 1000 := by
  have h1 := units_length (Txt.slice x (some 1) (some (-1))).cps.toList false 0
  have h2 : (Txt.slice x (some 1) (some (-1))).length ≤ x.length := PyProof.Txt.length_slice_le x _ _
  have e : (Txt.slice x (some 1) (some (-1))).cps.toList.length = (Txt.slice x (some 1) (some (-1))).length := by simp [Str.length]
  simp only [Bool.false_eq_true, if_false, Nat.add_zero] at h1
  omega
structure RSt where
  head : Str
  raw : Str
  names : List Str
noncomputable def rawOf (st : RSt) : Str := if (st.raw == Str.ofString "") = true then splitT st.head else joinS (splitT st.head) st.raw
noncomputable def nameOf (raw : Str) : Str := Txt.join (Str.ofString "") ((unitsL false 0 (Txt.slice raw (some 1) (some (-1))).cps.toList).map fun u => Txt.slice (unitS u) (some (-1)) none)
noncomputable def rStep (st : RSt) : RSt := if (stripS (rawOf st) == Str.ofString "") = true then ⟨splitH st.head, Str.ofString "", nameOf (rawOf st) :: st.names⟩ else ⟨splitH st.head, rawOf st, st.names⟩
noncomputable def rIter (x : Str) : Nat → RSt
  | 0 => ⟨x, Str.ofString "", []⟩
  | i + 1 => rStep (rIter x i)
theorem map_ext (ks : List Str) {f g : Str → Option Value} (h1 : ∀ k ∈ ks, f k = g k) (h2 : ∀ y, y ∉ ks → f y = g y) : f = g := by
  funext y
  by_cases h : y ∈ ks
  · exact h1 y h
  · exact h2 y h
noncomputable def rMap (m0 : Str → Option Value) (us ut uu : Option Value) (hd : Str) (th : Tok) (rw : Str) (tr : Tok) (ln : Addr) : Str → Option Value := fun y =>
  if y = Str.ofString "step" then us else if y = Str.ofString "tail" then ut else if y = Str.ofString "units" then uu else if y = Str.ofString "head" then some (.str hd th) else if y = Str.ofString "raw" then some (.str rw tr) else if y = Str.ofString "names" then some (.ref ln) else m0 y
theorem rMap_A {m0 : Str → Option Value} {us ut uu vs vt : Option Value} {hd hd' r rw : Str} {th th' tr tr' : Tok} {ln : Addr} : (fun y => if y = Str.ofString "raw" then some (.str r tr) else if y = Str.ofString "tail" then vt else if y = Str.ofString "head" then some (.str hd th) else if y = Str.ofString "step" then vs else if y = Str.ofString "step" then us else if y = Str.ofString "tail" then ut else if y = Str.ofString "units" then uu else if y = Str.ofString "head" then some (.str hd' th') else if y = Str.ofString "raw" then some (.str rw tr') else if y = Str.ofString "names" then some (.ref ln) else m0 y) = rMap m0 vs vt uu hd th r tr ln := by
  refine map_ext [Str.ofString "step", Str.ofString "tail", Str.ofString "units", Str.ofString "head", Str.ofString "raw", Str.ofString "names"] ?_ ?_
  · simp only [List.forall_mem_cons]
    exact ⟨rfl, rfl, rfl, rfl, rfl, rfl, fun _ h => nomatch h⟩
  · intro y hy
    simp only [List.mem_cons, not_or, List.not_mem_nil, not_false_eq_true, and_true] at hy
    obtain ⟨a1, a2, a3, a4, a5, a6⟩ := hy
    simp [rMap, a1, a2, a3, a4, a5, a6]
theorem rMap_B {m0 : Str → Option Value} {us ut uu vs vt vu : Option Value} {hd hd' r r2 rw : Str} {th th' tr tr' tr2 : Tok} {ln ln2 : Addr} : (fun y => if y = Str.ofString "raw" then some (.str r2 tr2) else if y = Str.ofString "names" then some (.ref ln2) else if y = Str.ofString "units" then vu else if y = Str.ofString "raw" then some (.str r tr) else if y = Str.ofString "tail" then vt else if y = Str.ofString "head" then some (.str hd th) else if y = Str.ofString "step" then vs else if y = Str.ofString "step" then us else if y = Str.ofString "tail" then ut else if y = Str.ofString "units" then uu else if y = Str.ofString "head" then some (.str hd' th') else if y = Str.ofString "raw" then some (.str rw tr') else if y = Str.ofString "names" then some (.ref ln) else m0 y) = rMap m0 vs vt vu hd th r2 tr2 ln2 := by
  refine map_ext [Str.ofString "step", Str.ofString "tail", Str.ofString "units", Str.ofString "head", Str.ofString "raw", Str.ofString "names"] ?_ ?_
  · simp only [List.forall_mem_cons]
    exact ⟨rfl, rfl, rfl, rfl, rfl, rfl, fun _ h => nomatch h⟩
  · intro y hy
    simp only [List.mem_cons, not_or, List.not_mem_nil, not_false_eq_true, and_true] at hy
    obtain ⟨a1, a2, a3, a4, a5, a6⟩ := hy
    simp [rMap, a1, a2, a3, a4, a5, a6]
theorem rMap_self {m0 : Str → Option Value} {hd rw : Str} {th tr : Tok} {ln : Addr} (h1 : m0 (Str.ofString "head") = some (.str hd th)) (h2 : m0 (Str.ofString "raw") = some (.str rw tr)) (h3 : m0 (Str.ofString "names") = some (.ref ln)) : m0 = rMap m0 (m0 (Str.ofString "step")) (m0 (Str.ofString "tail")) (m0 (Str.ofString "units")) hd th rw tr ln := by
  refine map_ext [Str.ofString "step", Str.ofString "tail", Str.ofString "units", Str.ofString "head", Str.ofString "raw", Str.ofString "names"] ?_ ?_
  · simp only [List.forall_mem_cons]
    exact ⟨rfl, rfl, rfl, h1, h2, h3, fun _ h => nomatch h⟩
  · intro y hy
    simp only [List.mem_cons, not_or, List.not_mem_nil, not_false_eq_true, and_true] at hy
    obtain ⟨a1, a2, a3, a4, a5, a6⟩ := hy
    simp [rMap, a1, a2, a3, a4, a5, a6]
noncomputable def rJ (x : Str) (m0 : Str → Option Value) (news : List (Addr × Obj)) (i : Nat) (m' : Str → Option Value) (news' : List (Addr × Obj)) (g' : Array GenState) : Prop :=
  AllBare g' ∧ ∃ us ut uu th tr ln l n, m' = rMap m0 us ut uu (rIter x i).head th (rIter x i).raw tr ln ∧ news' = (ln, listOf (strValues l).toArray n) :: news ∧ (∀ p ∈ news, p.1 ≠ ln) ∧ l.map (·.1) = (rIter x i).names ∧ l.length ≤ i
section
variable {w : World} {mean : ExcName → Option Value} {mg mb : Str → Option Value} {dp un : Nat} {gd : Option (List Code)} {cn : Str} {cnm : List (Str × NameKind)} {cig cic : Bool} {cmo : List (Str × Const)} {a : Addr} {ccd : Value} {cl : List (Str × Addr)} {outer : List Env} {A₀ : Around} {base h₀ : Heap} {L : Addr} {m : Str → Option Value} {news : List (Addr × Obj)} {s : Shared} {Q E : Value → Shared → Prop}

theorem read_c {x : Str} {t : Tok} {n : Nat} (B : Below A₀ base outer h₀) (F : Fr h₀ L s.heap m) (X : (hd.heap_1 w.params).In h₀) (N : News h₀ L s.heap news) (T : Top view (looseW view []) mean mg mb h₀) (hdp : dp ≤ 700) (hun : un ≤ 7000) (hx : x.length ≤ 1000) (hn : Txt.count x (Str.ofString "/") + 1 = (n : Int)) (hn1 : n ≤ 1000)
    (hst : ∀ i < n, (rIter x i).head.length ≤ 1000 ∧ (rIter x i).raw.length ≤ 1000 ∧ (rawOf (rIter x i)).length ≤ 1000) (hb : AllBare s.gens)
    (ret : ∀ D l k h' tk' g', l.map (·.1) = (rIter x n).names → Fr h₀ L h' m → News h₀ L h' ((D, listOf (strValues l).toArray k) :: news) → (∀ p ∈ news, p.1 ≠ D) → AllBare g' → Q (.ref D) { s with heap := h', toks := tk', gens := g' }) :
    wpAny (model Challenge.rw_pd0152_01.row.prog w) { handled := none, depth := dp, frames := some (envX cn { kind := .function, names := cnm, isGenerator := cig, isCoroutine := cic, more := cmo } L a ccd cl :: outer), guards := gd, units := un } (call (.ref 191) [.str x t]) Q E s := by
  k_with_none
  k_with "call ref" => (k_here; (with_reducible show wpAny _ _ (call (Value.ref 148) _) _ _ _); k_dflt (refine' gen_c ?zqk1 ?zqk2 ?zqk3 ?zqk4 ?zqk5 ?zqk6 ?zqk7 ?zqk8 ?zqk9 ?_; (case zqk1 => k_asm); (case zqk2 => k_asm); (case zqk3 => k_asm); (case zqk4 => k_asm); (case zqk5 => k_asm); (case zqk6 => exact Nat.le_of_ble_eq_true rfl); (case zqk7 => exact Nat.le_of_ble_eq_true rfl); (case zqk8 => (first | (with_reducible assumption) | omega)); (case zqk9 => (with_reducible assumption)); k_whole); intro zqa' zqoa' zqown' zqh' zqtk' zqg' zqF' zqG'; (try dsimp only); (try k_fold))
  k_with "call ref" => (k_here; (with_reducible show wpAny _ _ (call (Value.ref 155) _) _ _ _); k_dflt (refine' strip_d ?zqk1 ?zqk2 ?zqk3 ?zqk4 ?zqk5 ?zqk6 ?zqk7 ?zqk8 ?zqk9 ?_; (case zqk1 => k_asm); (case zqk2 => k_asm); (case zqk3 => k_asm); (case zqk4 => k_asm); (case zqk5 => k_asm); (case zqk6 => exact Nat.le_of_ble_eq_true rfl); (case zqk7 => exact Nat.le_of_ble_eq_true rfl); (case zqk8 => (with_reducible assumption)); (case zqk9 => (with_reducible assumption)); k_whole); intro zqt' zqh' zqtk' zqg' zqF' zqN' zqhb'; (try dsimp only); (try k_fold))
  k_with "call ref" => (k_here; (with_reducible show wpAny _ _ (call (Value.ref 122) _) _ _ _); k_dflt (refine' split_d ?zqk1 ?zqk2 ?zqk3 ?zqk4 ?zqk5 ?zqk6 ?zqk7 ?zqk8 ?_; (case zqk1 => k_asm); (case zqk2 => k_asm); (case zqk3 => k_asm); (case zqk4 => k_asm); (case zqk5 => k_asm); (case zqk6 => exact Nat.le_of_ble_eq_true rfl); (case zqk7 => exact Nat.le_of_ble_eq_true rfl); (case zqk8 => (first | (with_reducible assumption) | omega)); k_whole); intro zqD' zqt1' zqt2' zqh' zqtk' zqF' zqN' zql1; (try dsimp only); (try k_fold))
  k_with "call ref" => (k_here; (with_reducible show wpAny _ _ (call (Value.ref 115) _) _ _ _); k_dflt (refine' join_d ?zqk1 ?zqk2 ?zqk3 ?zqk4 ?zqk5 ?zqk6 ?zqk7 ?zqk8 ?zqk9 ?_; (case zqk1 => k_asm); (case zqk2 => k_asm); (case zqk3 => k_asm); (case zqk4 => k_asm); (case zqk5 => k_asm); (case zqk6 => exact Nat.le_of_ble_eq_true rfl); (case zqk7 => exact Nat.le_of_ble_eq_true rfl); (case zqk8 => (first | (with_reducible assumption) | omega)); (case zqk9 => (first | (with_reducible assumption) | omega)); k_whole); intro zqt' zqh' zqtk' zqF' zqN'; (try dsimp only); (try k_fold))
  k_with "exec For Name Call cons nil" => (k_here; k_dflt (refine forStmt ?_))
  k_with "exec Assign cons ListComp" => (k_here; lcp_look; k_dflt (refine gen_stop (by rfl) (by with_unfolding_all rfl) (by with_unfolding_all rfl) (by decide) (by rfl) (by decide) (by rfl) (by rfl) (by decide) (by rfl) (by rfl) (by rfl) (by show 701 ≤ 949; decide) (Nat.le_of_ble_eq_true rfl) (Top.nolimit (by assumption)) ?_))
  k_with "eval ListComp" => (k_here; k_dflt (refine comp_stop (F₀ := by k_asm) (by rfl) (by decide) (by rfl) (by decide) (by rfl) ?_))
  k_with "binaryOp Add ref ref" => (k_here; k_dflt (refine add_strs (by k_asm) (by k_asm) (by k_mem) (by k_mem) (by with_reducible assumption) ?_); intro zqD' zqh' zqF' zqN' zql1 zql2; (try k_lt zql1); (try k_sweep))
  revert X; k_fill; intro X
  refine upto hdp hun ?_
  k_steps
  rw [hn] at *
  with_reducible rename Fr _ _ _ _ => F9
  with_reducible rename News _ _ _ _ => N9
  with_reducible rename IsRange _ _ _ _ _ _ _ _ => R9
  obtain ⟨m0, hm0, F9⟩ := Fr.named F9
  obtain ⟨ln, hln, N9⟩ := News.named2 N9
  subst hln
  refine iter_range (n := n) (by rfl) rfl rfl rfl R9 ?_ ?_ (rJ x m0 news) F9 N9 ?_ ?_ ?_
  · exact range_small1 hn1
  · exact range_size1 n
  · have hnl : ∀ p ∈ news, p.1 ≠ ln := fun p hp => Nat.ne_of_lt ((by with_reducible assumption : ∀ p ∈ news, p.1 < ln) p hp)
    subst hm0
    exact ⟨hb, _, _, _, _, _, _, [], 0, rMap_self rfl rfl rfl, rfl, hnl, rfl, Nat.le_refl _⟩
  · rintro i ti m' news' g' h tk I o hi ⟨hb', us, ut, uu, th, tr, ln, l, k, rfl, rfl, hnl, hl, hli⟩ F₁ N₁ off
    obtain ⟨hs1, hs2, hs3⟩ := hst i hi
    generalize hst' : rIter x i = st at *
    subst hm0
    dsimp only [rMap] at F₁
    have hT := splitT_len st.head
    have hl9 : l.length ≤ 1000 := by omega
    have hj1 : (splitT st.head).length ≤ 500000 := by omega
    have hj2 : st.head.length ≤ 500000 := by omega
    have hj3 : st.raw.length ≤ 500000 := by omega
    clear hst
    by_cases hr : (st.raw == Str.ofString "") = true
    · have e3 : rawOf st = splitT st.head := if_pos hr
      rw [e3] at hs3
      by_cases hz : (stripS (splitT st.head) == Str.ofString "") = true
      · k_steps
        with_reducible rename Fr _ _ _ _ => F₂
        with_reducible rename GSt _ _ _ _ _ _ _ _ _ _ _ => G₂
        unfold Stop
        have hul : (unitsL false 0 (Txt.slice (splitT st.head) (some 1) (some (-1))).cps.toList).length ≤ 1000 := units_few hs3
        refine ⟨_, _, _, _, _, _, _, rfl, F₂, G₂, hul, ?_⟩
        intro D3 l3 h3 tk3 g3 hb3 F3 N3 off3 hl3
        have hll : l3.length ≤ 1000 := by
          have := congrArg List.length hl3
          simp only [List.length_map] at this
          omega
        k_steps
        with_reducible rename Fr _ _ _ _ => F4
        with_reducible rename News _ _ _ _ => N4
        unfold Stop
        refine src_strs (l := l3) (fun u => Txt.slice u (some (-1)) none) rfl F4 N4 (.head _) hll ?_ ?_
        · intro u t5 I5 oI5 C5 oC5 D5 ys5 m5 h5 tk5 g5 E5 hu5 hn5 hm5 F5 N5 off5 ne5
          rw [hl3] at hu5
          have hu6 := unit_len hu5
          k_steps
          with_reducible rename Fr _ _ _ _ => F7
          with_reducible rename News _ _ _ _ => N7
          exact LCg.CompEnd.intro F7 N7 _ (fun p hp => hp) off5 (.inr ⟨_, .head _, rfl, _, rfl⟩) ⟨rfl, _, rfl⟩
        · intro g6 l6 hl6 D6 h6 tk6 F6 N6 off6
          k_steps
          rw [hl3, List.map_map] at hl6
          have hl7 : l6.map (·.1) = (unitsL false 0 (Txt.slice (splitT st.head) (some 1) (some (-1))).cps.toList).map fun u => Txt.slice (unitS u) (some (-1)) none := hl6
          refine SC.join (News.lst N6 (.head _)) hl7 (join_small (k := 1000) ?_ (Nat.le_refl _) (by rw [List.length_map]; omega)) ?_
          · intro p hp
            obtain ⟨u, hu, rfl⟩ := List.mem_map.mp hp
            have := unit_len (List.mem_map_of_mem (f := unitS) hu)
            exact Nat.le_trans (PyProof.Txt.length_slice_le _ _ _) this
          have hnm : Txt.join (Str.ofString "") ((unitsL false 0 (Txt.slice (splitT st.head) (some 1) (some (-1))).cps.toList).map fun u => Txt.slice (unitS u) (some (-1)) none) = nameOf (splitT st.head) := rfl
          rw [hnm]
          k_steps
          with_reducible rename Fr _ _ _ _ => F₂
          with_reducible rename News _ _ _ _ => N₂
          refine Turned.mk (news'' := _ :: news) F₂ N₂ (List.forall_mem_cons.mpr ⟨.tail _ (.tail _ (.tail _ (.tail _ (.tail _ (.head _))))), List.forall_mem_cons.mpr ⟨.head _, fun p hp => .tail _ (.tail _ (.tail _ (.tail _ (.tail _ (.tail _ (.tail _ hp))))))⟩⟩) (List.forall_mem_cons.mpr ⟨by k_ne, fun p hp => off p (.tail _ hp)⟩) ⟨hb3, ?_, ?_, ?_, ?_, ?_, _, (nameOf (splitT st.head), _) :: l, 0, ?pA, rfl, ?pB, ?pC, ?pD⟩
          case pA =>
            rw [show rIter x (i + 1) = rStep (rIter x i) from rfl, hst', show rStep st = ⟨splitH st.head, Str.ofString "", nameOf (splitT st.head) :: st.names⟩ from by unfold rStep; rw [e3, if_pos hz]]
            exact rMap_B
          case pB =>
            intro p hp
            rename ∀ p : Addr × Obj, p ∈ _ → p.1 ≠ _ => q9
            exact q9 p (.tail _ (.tail _ (.tail _ (.tail _ (.tail _ (.tail _ hp))))))
          case pC =>
            rw [show rIter x (i + 1) = rStep (rIter x i) from rfl, hst', show rStep st = ⟨splitH st.head, Str.ofString "", nameOf (splitT st.head) :: st.names⟩ from by unfold rStep; rw [e3, if_pos hz]]
            rw [List.map_cons, hl]
          case pD =>
            rw [List.length_cons]
            omega
      · have hz : (stripS (splitT st.head) == Str.ofString "") = false := by simpa using hz
        k_steps
        with_reducible rename Fr _ _ _ _ => F₂
        with_reducible rename News _ _ _ _ => N₂
        with_reducible rename AllBare _ => hb₂
        refine Turned.mk (news'' := _ :: news) F₂ N₂ (fun p hp => by rcases List.mem_cons.mp hp with rfl | hp; exact .tail _ (.head _); exact .tail _ (.tail _ hp)) off ⟨hb₂, ?_, ?_, ?_, ?_, ?_, ln, l, k, ?pA, rfl, hnl, ?pC, by omega⟩
        case pA =>
          rw [show rIter x (i + 1) = rStep (rIter x i) from rfl, hst', show rStep st = ⟨splitH st.head, splitT st.head, st.names⟩ from by unfold rStep; rw [e3, if_neg (by rw [hz]; exact Bool.false_ne_true)]]
          exact rMap_A
        case pC =>
          rw [show rIter x (i + 1) = rStep (rIter x i) from rfl, hst', show rStep st = ⟨splitH st.head, splitT st.head, st.names⟩ from by unfold rStep; rw [e3, if_neg (by rw [hz]; exact Bool.false_ne_true)]]
          exact hl
    · have e3 : rawOf st = joinS (splitT st.head) st.raw := if_neg hr
      have hr : (st.raw == Str.ofString "") = false := by simpa using hr
      rw [e3] at hs3
      by_cases hz : (stripS (joinS (splitT st.head) st.raw) == Str.ofString "") = true
      · k_steps
        with_reducible rename Fr _ _ _ _ => F₂
        with_reducible rename GSt _ _ _ _ _ _ _ _ _ _ _ => G₂
        unfold Stop
        have hul : (unitsL false 0 (Txt.slice (joinS (splitT st.head) st.raw) (some 1) (some (-1))).cps.toList).length ≤ 1000 := units_few hs3
        refine ⟨_, _, _, _, _, _, _, rfl, F₂, G₂, hul, ?_⟩
        intro D3 l3 h3 tk3 g3 hb3 F3 N3 off3 hl3
        have hll : l3.length ≤ 1000 := by
          have := congrArg List.length hl3
          simp only [List.length_map] at this
          omega
        k_steps
        with_reducible rename Fr _ _ _ _ => F4
        with_reducible rename News _ _ _ _ => N4
        unfold Stop
        refine src_strs (l := l3) (fun u => Txt.slice u (some (-1)) none) rfl F4 N4 (.head _) hll ?_ ?_
        · intro u t5 I5 oI5 C5 oC5 D5 ys5 m5 h5 tk5 g5 E5 hu5 hn5 hm5 F5 N5 off5 ne5
          rw [hl3] at hu5
          have hu6 := unit_len hu5
          k_steps
          with_reducible rename Fr _ _ _ _ => F7
          with_reducible rename News _ _ _ _ => N7
          exact LCg.CompEnd.intro F7 N7 _ (fun p hp => hp) off5 (.inr ⟨_, .head _, rfl, _, rfl⟩) ⟨rfl, _, rfl⟩
        · intro g6 l6 hl6 D6 h6 tk6 F6 N6 off6
          k_steps
          rw [hl3, List.map_map] at hl6
          have hl7 : l6.map (·.1) = (unitsL false 0 (Txt.slice (joinS (splitT st.head) st.raw) (some 1) (some (-1))).cps.toList).map fun u => Txt.slice (unitS u) (some (-1)) none := hl6
          refine SC.join (News.lst N6 (.head _)) hl7 (join_small (k := 1000) ?_ (Nat.le_refl _) (by rw [List.length_map]; omega)) ?_
          · intro p hp
            obtain ⟨u, hu, rfl⟩ := List.mem_map.mp hp
            have := unit_len (List.mem_map_of_mem (f := unitS) hu)
            exact Nat.le_trans (PyProof.Txt.length_slice_le _ _ _) this
          have hnm : Txt.join (Str.ofString "") ((unitsL false 0 (Txt.slice (joinS (splitT st.head) st.raw) (some 1) (some (-1))).cps.toList).map fun u => Txt.slice (unitS u) (some (-1)) none) = nameOf (joinS (splitT st.head) st.raw) := rfl
          rw [hnm]
          k_steps
          with_reducible rename Fr _ _ _ _ => F₂
          with_reducible rename News _ _ _ _ => N₂
          refine Turned.mk (news'' := _ :: news) F₂ N₂ (List.forall_mem_cons.mpr ⟨.tail _ (.tail _ (.tail _ (.tail _ (.tail _ (.head _))))), List.forall_mem_cons.mpr ⟨.head _, fun p hp => .tail _ (.tail _ (.tail _ (.tail _ (.tail _ (.tail _ (.tail _ hp))))))⟩⟩) (List.forall_mem_cons.mpr ⟨by k_ne, fun p hp => off p (.tail _ hp)⟩) ⟨hb3, ?_, ?_, ?_, ?_, ?_, _, (nameOf (joinS (splitT st.head) st.raw), _) :: l, 0, ?pA, rfl, ?pB, ?pC, ?pD⟩
          case pA =>
            rw [show rIter x (i + 1) = rStep (rIter x i) from rfl, hst', show rStep st = ⟨splitH st.head, Str.ofString "", nameOf (joinS (splitT st.head) st.raw) :: st.names⟩ from by unfold rStep; rw [e3, if_pos hz]]
            exact rMap_B
          case pB =>
            intro p hp
            rename ∀ p : Addr × Obj, p ∈ _ → p.1 ≠ _ => q9
            exact q9 p (.tail _ (.tail _ (.tail _ (.tail _ (.tail _ (.tail _ hp))))))
          case pC =>
            rw [show rIter x (i + 1) = rStep (rIter x i) from rfl, hst', show rStep st = ⟨splitH st.head, Str.ofString "", nameOf (joinS (splitT st.head) st.raw) :: st.names⟩ from by unfold rStep; rw [e3, if_pos hz]]
            rw [List.map_cons, hl]
          case pD =>
            rw [List.length_cons]
            omega
      · have hz : (stripS (joinS (splitT st.head) st.raw) == Str.ofString "") = false := by simpa using hz
        k_steps
        with_reducible rename Fr _ _ _ _ => F₂
        with_reducible rename News _ _ _ _ => N₂
        with_reducible rename AllBare _ => hb₂
        refine Turned.mk (news'' := _ :: news) F₂ N₂ (fun p hp => by rcases List.mem_cons.mp hp with rfl | hp; exact .tail _ (.head _); exact .tail _ (.tail _ hp)) off ⟨hb₂, ?_, ?_, ?_, ?_, ?_, ln, l, k, ?pA, rfl, hnl, ?pC, by omega⟩
        case pA =>
          rw [show rIter x (i + 1) = rStep (rIter x i) from rfl, hst', show rStep st = ⟨splitH st.head, (joinS (splitT st.head) st.raw), st.names⟩ from by unfold rStep; rw [e3, if_neg (by rw [hz]; exact Bool.false_ne_true)]]
          exact rMap_A
        case pC =>
          rw [show rIter x (i + 1) = rStep (rIter x i) from rfl, hst', show rStep st = ⟨splitH st.head, (joinS (splitT st.head) st.raw), st.names⟩ from by unfold rStep; rw [e3, if_neg (by rw [hz]; exact Bool.false_ne_true)]]
          exact hl
  · rintro m' news' g' h tk ⟨hb', us, ut, uu, th, tr, ln, l, k, rfl, rfl, hnl, hl, hli⟩ F₁ N₁
    subst hm0
    dsimp only [rMap] at F₁
    k_steps
    exact ret _ _ _ _ _ _ hl (by k_asm) (by k_asm) hnl hb'
end
end Mine
end

-- part K1
section
open PySem PySem.W PyProof.Rows PySem.Calls
set_option Elab.async false
set_option maxRecDepth 100000
set_option maxHeartbeats 8000000
set_option linter.unusedVariables false
namespace Mine

section
variable {prog : Program} {w : World} {A : Around} {h₀ : Heap} {L : Addr} {m : Str → Option Value} {env : Env} {s : Shared} {news : List (Addr × Obj)}
theorem neAll_of_lt {news : List (Addr × Obj)} {L d : Nat} (l : ∀ p ∈ news, p.1 < L) (h : L ≤ d) : ∀ p ∈ news, p.1 ≠ d := fun p hp => Nat.ne_of_lt (Nat.lt_of_lt_of_le (l p hp) h)
/-- the turns of a comprehension that makes texts, each with a word said of it -/
theorem rest_P {elt : Expr} {x : Str} {scope : Scope} {cl : List (Str × Addr)} {S : List (Addr × Obj) → Prop} {P : Nat → Value → Prop} {Fin : List Value → List (Addr × Obj) → Prop} (n : Nat) (R : Nat → Str → Prop)
    (step : ∀ i v I oI C oC D ys m₂ h tk (E' : Value → Shared → Prop), i < n → P i v → LCg.NsObj oC m₂ → m₂ x = some v → Fr h₀ L h m → News h₀ L h ((I, oI) :: (C, oC) :: (D, LCg.lst ys) :: news) → LCg.Off3 I C D news → ((@Ne Nat I C) ∧ (@Ne Nat I D) ∧ (@Ne Nat C D)) →
      wpAny (model prog w) A (eval elt (compEnvC scope cl C env)) (LCg.CompEnd h₀ L m { s with heap := h, toks := tk } I oI C oC D (LCg.lst ys) S (fun y news' => news' = news ∧ ∃ u t', y = .str u t' ∧ R i u)) E' { s with heap := h, toks := tk })
    (fin : ∀ l : List (Str × Tok), l.length = n → (∀ i p, l[i]? = some p → R i p.1) → Fin (strValues l) news) :
    ∀ k i (l : List (Str × Tok)), i + k = n → l.length = i → (∀ j p, l[j]? = some p → R j p.1) → LCg.CompRest prog w A h₀ L m env elt x scope cl s S P Fin k i (strValues l) news := by
  intro k
  induction k with
  | zero =>
    intro i l hi hl hR
    exact LCg.CompRest.zero (fin l (by omega) hR)
  | succ k ih =>
    intro i l hi hl hR
    refine LCg.CompRest.succ ?_
    intro v I oI C oC D m₂ h tk E' hv hn hm F N off ne
    refine wpAny_mono (step i v I oI C oC D (strValues l) m₂ h tk E' (by omega) hv hn hm F N off ne) (fun y s₂ hy => ?_) fun _ _ e => e
    obtain ⟨h', tk', news', rfl, F', N', off', hS, rfl, u, t', rfl, hu⟩ := hy
    refine ⟨h', tk', news', rfl, F', N', off', hS, ?_⟩
    have := ih (i + 1) (l ++ [(u, t')]) (by omega) (by simp [hl]) (fun j p hj => by
      rcases Nat.lt_or_ge j l.length with hlt | hge
      · rw [List.getElem?_append_left hlt] at hj; exact hR j p hj
      · rw [List.getElem?_append_right hge] at hj
        have : j - l.length = 0 := by
          cases e : j - l.length with
          | zero => rfl
          | succ z => rw [e] at hj; simp at hj
        have hji : j = i := by omega
        rw [this] at hj
        simp at hj
        rw [hji, ← hj]; exact hu)
    simpa [strValues] using this
theorem src_range_P {elt : Expr} {x : Str} {scope : Scope} {cl : List (Str × Addr)} {Fin : Shared → List Value → List (Addr × Obj) → Prop} {r : Addr} {b : Int} {t u v : Tok} {n : Nat} {s₁ : Shared} (R : Nat → Str → Prop)
    (hh : A.handled = none) (F : Fr h₀ L s₁.heap m) (N : News h₀ L s₁.heap news) (hr : IsRange s₁.heap r 0 b 1 t u v) (hb : b = (n : Int)) (hn : n ≤ 1000)
    (step : ∀ (i : Nat) ti I oI C oC D ys m₂ h tk g (E' : Value → Shared → Prop), i < n → LCg.NsObj oC m₂ → m₂ x = some (.int (i : Int) ti) → Fr h₀ L h m → News h₀ L h ((I, oI) :: (C, oC) :: (D, LCg.lst ys) :: news) → LCg.Off3 I C D news → ((@Ne Nat I C) ∧ (@Ne Nat I D) ∧ (@Ne Nat C D)) →
      wpAny (model prog w) A (eval elt (compEnvC scope cl C env)) (LCg.CompEnd h₀ L m { s₁ with heap := h, toks := tk } I oI C oC D (LCg.lst ys) (fun _ => True) (fun y news' => news' = news ∧ ∃ u t', y = .str u t' ∧ R i u)) E' { ({ s₁ with heap := g } : Shared) with heap := h, toks := tk })
    (fin : ∀ g (l : List (Str × Tok)), l.length = n → (∀ i p, l[i]? = some p → R i p.1) → Fin { s₁ with heap := g } (strValues l) news) :
    LCg.CompSrc prog w A h₀ L m env elt x scope cl Fin (.ref r) s₁ := by
  subst hb
  refine LCg.CompSrc.range hh F N hr (range_small1 hn) (range_size1 n) ?_ fun g => ?_
  · have : (1000:Nat) ≤ sizeLine := Nat.le_of_ble_eq_true rfl
    omega
  · have := rest_P (prog := prog) (w := w) (A := A) (h₀ := h₀) (L := L) (m := m) (env := env) (s := { s₁ with heap := g }) (news := news) (elt := elt) (x := x) (scope := scope) (cl := cl) (S := fun _ => True) (P := fun i v => ∃ t, v = .int (0 + (i : Int)) t) (Fin := Fin { s₁ with heap := g }) n R
      (fun i v I oI C oC D ys m₂ h tk E' hi hv hn hm F N off ne => by
        obtain ⟨ti, rfl⟩ := hv
        rw [Int.zero_add] at hm
        exact step i ti I oI C oC D ys m₂ h tk g E' hi hn hm F N off ne) (fun l hl hR => fin g l hl hR) n 0 [] (by simp) rfl (by simp)
    simpa [strValues] using this
/-- a comprehension over a text's signs -/
noncomputable def SrcText (prog : Program) (w : World) (A : Around) (h₀ : Heap) (L : Addr) (m : Str → Option Value) (env : Env) (elt : Expr) (x : Str) (scope : Scope) (cl : List (Str × Addr)) (Fin : Shared → List Value → List (Addr × Obj) → Prop) (xv : Value) (s₁ : Shared) : Prop :=
  ∃ xt t news, xv = .str xt t ∧ A.handled = none ∧ Fr h₀ L s₁.heap m ∧ News h₀ L s₁.heap news ∧ xt.cps.size ≤ sizeLine ∧
    ∀ g : Heap, LCg.CompRest prog w A h₀ L m env elt x scope cl { s₁ with heap := g } (fun _ => True) (SignAt xt) (Fin { s₁ with heap := g }) xt.cps.size 0 [] news
theorem ListComp_T {E : Value → Shared → Prop} {elt iter : Expr} {x : Str} {px : Pos} {scope : Scope} {cl : List (Str × Addr)} {pos : Pos} {Q : Value → Shared → Prop} (F₀ : Fr h₀ L s.heap m)
    (hclos : closureFor scope env = pure cl) (hcell : ∀ y ∈ scope.names, y.2 ≠ .cell) (hkind : scope.kind = .function)
    (hnames : ∀ y ∈ scope.names, y.2 = .local → scope.names.lookup y.1 = some .local) (hx : scope.names.lookup x = some .local)
    (h : wpAny (model prog w) A (eval iter env) (fun xv s₁ => Stop (SrcText prog w A h₀ L m env elt x scope cl (fun s₂ => LCg.FinE h₀ L m s₂ Q) xv s₁)) E s)
    (hs : ∀ x, foldedSetIterable iter env x = pure x := by intro _; rfl) :
    wpAny (model prog w) A (eval (.ListComp elt [⟨.Name x px, iter, [], 0⟩] scope pos) env) Q E s := by
  rw [eval_ListComp]
  refine wpAny_comprehension_free (use := none) rfl hs hclos hkind hnames (wpAny_mono h (fun xv s₁ h₁ => ?_) fun _ _ e => e)
  obtain ⟨xt, t, news, rfl, hh, F, N, hsz, R⟩ := h₁
  have fin : ∀ (D C : Addr) (h : Heap) (tk : Nat) (m' : Str → Option Value) (ys : List Value) (news' : List (Addr × Obj)) (s₂ : Shared), Fr h₀ L h m → News h₀ L h ((D, LCg.lst ys) :: news') → LCg.Off1 D news' → h.Ns C m' → h₀.get? C = none → h₀.get? D = none → C ≠ L → D ≠ L → C ≠ D → (∀ p ∈ news', p.1 ≠ C) →
      LCg.FinE h₀ L m s₂ Q ys news' → compPost (model prog w) A E none Q (.ref D) C (.ok .next) { s₂ with heap := h, toks := tk } := by
    intro D C h tk m' ys news' s₂ F' N' o1 hn hC₀ hD₀ hCL hDL hCD offC fin
    refine ⟨m', hn, fun h'' hs'' => fin D h'' tk (F'.change hs'' hCL hC₀) (fun p hp => ?_) o1⟩
    refine ⟨hs''.extBut _ _ ?_ (N' p hp).1, (N' p hp).2⟩
    rcases List.mem_cons.mp hp with rfl | hp
    · exact Ne.symm hCD
    · exact offC p hp
  have hst : ∀ (ty : String), ∀ i (h h' : Heap) (o : Obj) (nw : List (Addr × Obj)), h.IsStrIter s₁.heap.objs.size ty xt t i → h.get? s₁.heap.objs.size = some o → h'.get? s₁.heap.objs.size = some o → (∀ b o, h₀.get? b = some o → h'.get? b = some o) → News h₀ L h' nw → True → h'.IsStrIter s₁.heap.objs.size ty xt t i := by
    rintro ty i h h' o nw ⟨o', e', r⟩ e e2 _ _ _
    rw [e] at e'; cases e'
    exact ⟨o, e2, r⟩
  have hlt : ∀ (o : Obj), ∀ b ∈ [s₁.heap.objs.size], b < (s₁.heap.push o).objs.size := fun o b hb => by
    rw [List.mem_singleton.mp hb, Heap.size_push]; exact Nat.lt_succ_self _
  cases ha : xt.cps.all (· < 128)
  · refine wpAny_pyIter_wide ha ?_
    exact LCg.block_U (Walks.strWide hh s₁.heap.objs.size xt t) hsz (fun i h st => ⟨_, st.choose_spec.1⟩) (hst _) hcell hkind hx ⟨_, Heap.get?_push_size _ rfl, rfl, rfl⟩ (hlt _)
      (F.keeps fun _ _ e => Heap.get?_push_of_some _ e) (N.grown fun _ _ e => Heap.get?_push_of_some _ e) (Nat.ne_of_lt F.ns.lt) (next_is_new F) (fun p hp => Nat.ne_of_lt (Heap.lt_size (N p hp).1)) trivial (R _)
      (fun D C h tk m' ys news' F' N' o1 hn hC₀ hD₀ hCL hDL hCD offC q => fin D C h tk m' ys news' _ F' N' o1 hn hC₀ hD₀ hCL hDL hCD offC q)
  · refine wpAny_pyIter_ascii ha ?_
    exact LCg.block_U (Walks.strAscii hh s₁.heap.objs.size xt t) hsz (fun i h st => ⟨_, st.choose_spec.1⟩) (hst _) hcell hkind hx ⟨_, Heap.get?_push_size _ rfl, rfl, rfl⟩ (hlt _)
      (F.keeps fun _ _ e => Heap.get?_push_of_some _ e) (N.grown fun _ _ e => Heap.get?_push_of_some _ e) (Nat.ne_of_lt F.ns.lt) (next_is_new F) (fun p hp => Nat.ne_of_lt (Heap.lt_size (N p hp).1)) trivial (R _)
      (fun D C h tk m' ys news' F' N' o1 hn hC₀ hD₀ hCL hDL hCD offC q => fin D C h tk m' ys news' _ F' N' o1 hn hC₀ hD₀ hCL hDL hCD offC q)
/-- a text's signs, each with a word said of its text -/
theorem src_text_P {elt : Expr} {x : Str} {scope : Scope} {cl : List (Str × Addr)} {Fin : Shared → List Value → List (Addr × Obj) → Prop} {xt : Str} {t : Tok} {s₁ : Shared} (R : Nat → Str → Prop)
    (hh : A.handled = none) (F : Fr h₀ L s₁.heap m) (N : News h₀ L s₁.heap news) (hn : xt.cps.size ≤ 1000)
    (step : ∀ (i : Nat) c ti I oI C oC D ys m₂ h tk g (E' : Value → Shared → Prop), xt.cps[i]? = some c → LCg.NsObj oC m₂ → m₂ x = some (.str ⟨#[c]⟩ ti) → Fr h₀ L h m → News h₀ L h ((I, oI) :: (C, oC) :: (D, LCg.lst ys) :: news) → LCg.Off3 I C D news → ((@Ne Nat I C) ∧ (@Ne Nat I D) ∧ (@Ne Nat C D)) →
      wpAny (model prog w) A (eval elt (compEnvC scope cl C env)) (LCg.CompEnd h₀ L m { s₁ with heap := h, toks := tk } I oI C oC D (LCg.lst ys) (fun _ => True) (fun y news' => news' = news ∧ ∃ u t', y = .str u t' ∧ R i u)) E' { ({ s₁ with heap := g } : Shared) with heap := h, toks := tk })
    (fin : ∀ g (l : List (Str × Tok)), l.length = xt.cps.size → (∀ i p, l[i]? = some p → R i p.1) → Fin { s₁ with heap := g } (strValues l) news) :
    SrcText prog w A h₀ L m env elt x scope cl Fin (.str xt t) s₁ := by
  refine ⟨xt, t, news, rfl, hh, F, N, ?_, fun g => ?_⟩
  · have : (1000:Nat) ≤ sizeLine := Nat.le_of_ble_eq_true rfl
    omega
  · have := rest_P (prog := prog) (w := w) (A := A) (h₀ := h₀) (L := L) (m := m) (env := env) (s := { s₁ with heap := g }) (news := news) (elt := elt) (x := x) (scope := scope) (cl := cl) (S := fun _ => True) (P := SignAt xt) (Fin := Fin { s₁ with heap := g }) xt.cps.size R
      (fun i v I oI C oC D ys m₂ h tk E' hi hv hn hm F N off ne => by
        obtain ⟨c, ti, hc, rfl⟩ := hv
        exact step i c ti I oI C oC D ys m₂ h tk g E' hc hn hm F N off ne) (fun l hl hR => fin g l hl hR) xt.cps.size 0 [] (by simp) rfl (by simp)
    simpa [strValues] using this
end
end Mine
end

-- part N1
section
open PySem PySem.W PyProof.Rows PySem.Calls
set_option Elab.async false
set_option maxRecDepth 100000
set_option maxHeartbeats 8000000
set_option linter.unusedVariables false
namespace Mine

noncomputable def SIGNS : List Nat := [47, 92, 34, 46, 97, 40]
noncomputable def NameL (l : List Nat) : Prop := l.length ≤ 3 ∧ ∀ c ∈ l, c ∈ SIGNS
local macro_rules | `(tactic| k_all) => `(tactic| exact neAll_of_lt (by with_reducible assumption) (by show (_ : Nat) ≤ (_ : Nat); omega))
theorem item_signs {j : Int} (h0 : 0 ≤ j) (h1 : j < 6) : ∃ c, c ∈ SIGNS ∧ Txt.item (Str.ofString "/\\\".a(") j = ⟨#[c]⟩ := by
  have : j = 0 ∨ j = 1 ∨ j = 2 ∨ j = 3 ∨ j = 4 ∨ j = 5 := by omega
  rcases this with rfl | rfl | rfl | rfl | rfl | rfl
  · exact ⟨47, by decide, by decide +kernel⟩
  · exact ⟨92, by decide, by decide +kernel⟩
  · exact ⟨34, by decide, by decide +kernel⟩
  · exact ⟨46, by decide, by decide +kernel⟩
  · exact ⟨97, by decide, by decide +kernel⟩
  · exact ⟨40, by decide, by decide +kernel⟩
theorem choose_signs : ∀ (l : List (Str × Tok)), (∀ p ∈ l, ∃ c, c ∈ SIGNS ∧ p.1 = (⟨#[c]⟩ : Str)) → ∃ cs : List Nat, cs.length = l.length ∧ (∀ c ∈ cs, c ∈ SIGNS) ∧ l.map (·.1) = cs.map fun c => (⟨#[c]⟩ : Str)
  | [], _ => ⟨[], rfl, (fun _ h => nomatch h), rfl⟩
  | p :: l, h => by
    obtain ⟨c, hc, e⟩ := h p (.head _)
    obtain ⟨cs, h1, h2, h3⟩ := choose_signs l fun q hq => h q (.tail _ hq)
    exact ⟨c :: cs, by simp [h1], List.forall_mem_cons.mpr ⟨hc, h2⟩, by simp [e, h3]⟩
theorem str_ext {a b : Str} (h : a.cps.toList = b.cps.toList) : a = b := by
  cases a; cases b
  simp only [Str.mk.injEq]
  exact Array.toList_inj.mp h
theorem app_cps (a b : Str) : (a ++ b).cps.toList = a.cps.toList ++ b.cps.toList := by
  show (a.cps ++ b.cps).toList = _
  simp
theorem empty_cps : (Str.ofString "").cps.toList = [] := by decide +kernel
theorem join_empty : ∀ ls : List Str, (Txt.join (Str.ofString "") ls).cps.toList = ls.flatMap fun u => u.cps.toList
  | [] => by rw [str_join_eq]; rfl
  | [x] => by rw [str_join_eq]; show x.cps.toList = _; simp
  | x :: y :: r => by
    have ih := join_empty (y :: r)
    rw [str_join_eq] at ih ⊢
    show (x ++ Str.ofString "" ++ Str.join (Str.ofString "") (y :: r)).cps.toList = _
    rw [app_cps, app_cps, empty_cps, ih]
    simp
theorem join_one (cs : List Nat) : Txt.join (Str.ofString "") (cs.map fun c => (⟨#[c]⟩ : Str)) = ⟨cs.toArray⟩ := by
  refine str_ext ?_
  rw [join_empty]
  induction cs with
  | nil => rfl
  | cons c r ih => simpa using ih
open PySem.Builtin PySem.Builtin.Str in
theorem join_tiny {l : List Str} (hl : l.length ≤ 1000) (h : ∀ p ∈ l, p.length ≤ 1) : JoinOk (Str.ofString "") l = true := by
  refine joinOk_of ?_
  have h1 := sum_le_mul l 1 h
  have h2 : (Str.ofString "").length = 0 := by decide +kernel
  rw [h2]
  omega
section
variable {w : World} {mean : ExcName → Option Value} {mg mb : Str → Option Value} {dp un : Nat} {gd : Option (List Code)} {cn : Str} {cnm : List (Str × NameKind)} {cig cic : Bool} {cmo : List (Str × Const)} {a : Addr} {ccd : Value} {cl : List (Str × Addr)} {outer : List Env} {A₀ : Around} {base h₀ : Heap} {L : Addr} {m : Str → Option Value} {news : List (Addr × Obj)} {s : Shared} {Q E : Value → Shared → Prop}

theorem lname_c {z : Int} {t : Tok} (B : Below A₀ base outer h₀) (F : Fr h₀ L s.heap m) (X : (hd.heap_1 w.params).In h₀) (N : News h₀ L s.heap news) (T : Top view (looseW view []) mean mg mb h₀) (hdp : dp ≤ 700) (hun : un ≤ 7000) (h0 : 0 ≤ z) (hz : z < 864)
    (ret : ∀ cs t h' tk', NameL cs → Fr h₀ L h' m → News h₀ L h' news → Q (.str ⟨cs.toArray⟩ t) { s with heap := h', toks := tk' }) :
    wpAny (model Challenge.rw_pd0152_01.row.prog w) { handled := none, depth := dp, frames := some (envX cn { kind := .function, names := cnm, isGenerator := cig, isCoroutine := cic, more := cmo } L a ccd cl :: outer), guards := gd, units := un } (call (.ref 174) [.int z t]) Q E s := by
  k_with_none
  k_with "eval ListComp" => (k_here; k_dflt (refine comp_stop (F₀ := by k_asm) (by rfl) (by decide) (by rfl) (by decide) (by rfl) ?_))
  revert X; k_fill; intro X
  refine upto hdp hun ?_
  k_steps
  with_reducible rename Fr _ _ _ _ => F₂
  with_reducible rename News _ _ _ _ => N₂
  with_reducible rename IsRange _ _ _ _ _ _ _ _ => R₂
  have hz4 : z.fmod 4 = ((z % 4).toNat : Int) := by rw [Int.fmod_eq_emod_of_nonneg _ (by decide)]; omega
  unfold Stop
  refine src_range_P (n := (z % 4).toNat) (fun _ u => ∃ c, c ∈ SIGNS ∧ u = ⟨#[c]⟩) rfl F₂ N₂ R₂ hz4 (by omega) ?_ ?_
  · intro i ti I5 oI5 C5 oC5 D5 ys5 m5 h5 tk5 g5 E5 hi5 hn5 hm5 F5 N5 off5 ne5
    have hi3 : i ≤ 2 := by omega
    have h6 : ¬ (6 : Int) ^ ((i : Int)).toNat = 0 := Int.pow_ne_zero (by decide)
    k_steps
    any_goals (exfalso; refine h6 ?_; with_reducible assumption)
    refine LCg.CompEnd.intro F5 N5 _ (fun p hp => hp) off5 ?_ ?_
    · trivial
    · exact ⟨rfl, _, _, rfl, item_signs (Int.fmod_nonneg_of_pos _ (by decide)) (Int.fmod_lt_of_pos _ (by decide))⟩
  · intro g l hl hR
    obtain ⟨cs, hc1, hc2, hc3⟩ := choose_signs l fun p hp => by
      obtain ⟨i, hi, e⟩ := List.getElem_of_mem hp
      exact hR i p (by rw [List.getElem?_eq_getElem hi, e])
    have hcl : cs.length ≤ 3 := by omega
    k_steps
    with_reducible rename Fr _ _ _ _ => F₃
    with_reducible rename News _ _ _ _ => N₃
    refine SC.join (News.lst N₃ (.head _)) hc3 (join_tiny (by rw [← hc3, List.length_map]; omega) ?_) ?_
    · intro p hp
      obtain ⟨c, _, rfl⟩ := List.mem_map.mp hp
      exact Nat.le_refl _
    · intro t9 k9
      rw [join_one]
      k_steps
      exact ret cs _ _ _ ⟨hcl, hc2⟩ (by k_asm) (cb_drop (by with_reducible assumption) fun p hp => .tail _ (.tail _ (.tail _ hp)))
end
end Mine
end

-- part W1
section
open PySem PySem.W PyProof.Rows PySem.Calls
set_option Elab.async false
set_option maxRecDepth 100000
set_option maxHeartbeats 8000000
set_option linter.unusedVariables false
namespace Mine

noncomputable def MARKS : List Nat := [47, 92, 34]
noncomputable def writtenL (cs : List Nat) : List Nat := cs.flatMap fun c => if c ∈ MARKS then [92, c] else [c]
theorem mem_marks (c : Nat) : (PySem.Builtin.Str.occurrences (Str.ofString "/\\\"") ⟨#[c]⟩ 0 (Str.ofString "/\\\"").length 1).isEmpty = !decide (c ∈ MARKS) := by
  have h := StrLaws.found_one (Str.ofString "/\\\"") c
  have e : (Str.ofString "/\\\"").cps.toList = MARKS := by decide +kernel
  rw [e] at h
  rw [← h, Bool.not_not]
theorem written_one_a {c : Nat} (h : (PySem.Builtin.Str.occurrences (Str.ofString "/\\\"") ⟨#[c]⟩ 0 (Str.ofString "/\\\"").length 1).isEmpty = true) : (⟨#[c]⟩ : Str) = ⟨(writtenL [c]).toArray⟩ := by
  rw [mem_marks] at h
  have : ¬ c ∈ MARKS := by simpa using h
  simp [writtenL, this]
theorem written_one_b {c : Nat} (h : (PySem.Builtin.Str.occurrences (Str.ofString "/\\\"") ⟨#[c]⟩ 0 (Str.ofString "/\\\"").length 1).isEmpty = false) : (Str.ofString "\\" ++ (⟨#[c]⟩ : Str)) = ⟨(writtenL [c]).toArray⟩ := by
  rw [mem_marks] at h
  have h : c ∈ MARKS := by simpa using h
  refine str_ext ?_
  rw [app_cps, show (Str.ofString "\\").cps.toList = [92] from by decide +kernel]
  simp [writtenL, h]
theorem written_len (cs : List Nat) : (writtenL cs).length ≤ 2 * cs.length := by
  induction cs with
  | nil => simp [writtenL]
  | cons c r ih =>
    unfold writtenL at ih ⊢
    rw [List.flatMap_cons, List.length_append, List.length_cons]
    have : (if c ∈ MARKS then [92, c] else [c]).length ≤ 2 := by split <;> simp
    omega
theorem written_join {cs : List Nat} {l : List (Str × Tok)} (hl : l.length = cs.length) (h : ∀ (i : Nat) (p : Str × Tok), l[i]? = some p → ∃ c, cs[i]? = some c ∧ p.1 = (⟨(writtenL [c]).toArray⟩ : Str)) :
    l.map (·.1) = cs.map fun c => (⟨(writtenL [c]).toArray⟩ : Str) := by
  refine List.ext_getElem? fun i => ?_
  rw [List.getElem?_map, List.getElem?_map]
  cases e : l[i]? with
  | none =>
    have : cs[i]? = none := by rw [List.getElem?_eq_none_iff] at e ⊢; omega
    rw [this]; rfl
  | some p =>
    obtain ⟨c, hc, hp⟩ := h i p e
    rw [hc]
    simp [hp]
theorem join_written (cs : List Nat) : Txt.join (Str.ofString "") (cs.map fun c => (⟨(writtenL [c]).toArray⟩ : Str)) = ⟨(writtenL cs).toArray⟩ := by
  refine str_ext ?_
  rw [join_empty]
  induction cs with
  | nil => rfl
  | cons c r ih =>
    rw [List.map_cons, List.flatMap_cons, ih]
    simp [writtenL]
section
variable {w : World} {mean : ExcName → Option Value} {mg mb : Str → Option Value} {dp un : Nat} {gd : Option (List Code)} {cn : Str} {cnm : List (Str × NameKind)} {cig cic : Bool} {cmo : List (Str × Const)} {a : Addr} {ccd : Value} {cl : List (Str × Addr)} {outer : List Env} {A₀ : Around} {base h₀ : Heap} {L : Addr} {m : Str → Option Value} {news : List (Addr × Obj)} {s : Shared} {Q E : Value → Shared → Prop}

theorem written_c {x : Str} {t : Tok} (B : Below A₀ base outer h₀) (F : Fr h₀ L s.heap m) (X : (hd.heap_1 w.params).In h₀) (N : News h₀ L s.heap news) (T : Top view (looseW view []) mean mg mb h₀) (hdp : dp ≤ 800) (hun : un ≤ 8000) (hx : x.cps.size ≤ 1000)
    (ret : ∀ t h' tk', Fr h₀ L h' m → News h₀ L h' news → Q (.str ⟨(writtenL x.cps.toList).toArray⟩ t) { s with heap := h', toks := tk' }) :
    wpAny (model Challenge.rw_pd0152_01.row.prog w) { handled := none, depth := dp, frames := some (envX cn { kind := .function, names := cnm, isGenerator := cig, isCoroutine := cic, more := cmo } L a ccd cl :: outer), guards := gd, units := un } (call (.ref 179) [.str x t]) Q E s := by
  k_with_none
  k_with "eval ListComp" => (k_here; k_dflt (refine ListComp_T (F₀ := by k_asm) (by rfl) (by decide) (by rfl) (by decide) (by rfl) ?_))
  k_with "eval ListComp" => (k_here; k_dflt (refine ListComp_T (F₀ := by k_asm) (by rfl) (by decide) (by rfl) (by decide) (by rfl) ?_))
  revert X; k_fill; intro X
  refine upto hdp hun ?_
  k_steps
  with_reducible rename Fr _ _ _ _ => F₂
  with_reducible rename News _ _ _ _ => N₂
  unfold Stop
  refine src_text_P (fun i u => ∃ c, x.cps[i]? = some c ∧ u = ⟨(writtenL [c]).toArray⟩) rfl F₂ N₂ hx ?_ ?_
  · intro i c ti I5 oI5 C5 oC5 D5 ys5 m5 h5 tk5 g5 E5 hi5 hn5 hm5 F5 N5 off5 ne5
    k_steps
    · refine LCg.CompEnd.intro F5 N5 _ (fun p hp => hp) off5 ?_ ?_
      · trivial
      · exact ⟨rfl, _, _, rfl, c, hi5, written_one_a (by with_reducible assumption)⟩
    · refine LCg.CompEnd.intro F5 N5 _ (fun p hp => hp) off5 ?_ ?_
      · trivial
      · exact ⟨rfl, _, _, rfl, c, hi5, written_one_b (by with_reducible assumption)⟩
  · intro g l hl hR
    k_steps
    with_reducible rename Fr _ _ _ _ => F₃
    with_reducible rename News _ _ _ _ => N₃
    have e := written_join (cs := x.cps.toList) (l := l) (by rw [hl]; simp) (fun i p hp => by
      obtain ⟨c, hc, e⟩ := hR i p hp
      exact ⟨c, by simpa using hc, e⟩)
    refine SC.join (News.lst N₃ (.head _)) e (join_small (k := 2) ?_ (by decide) (by rw [List.length_map]; simp; omega)) ?_
    · intro p hp
      obtain ⟨c, _, rfl⟩ := List.mem_map.mp hp
      exact written_len [c]
    · intro t9 k9
      rw [join_written]
      k_steps
      exact ret _ _ _ (by k_asm) (cb_drop (by with_reducible assumption) fun p hp => .tail _ hp)
end
end Mine
end

-- part P1
section
open PySem PySem.W PyProof.Rows PySem.Calls
set_option Elab.async false
set_option maxRecDepth 100000
set_option maxHeartbeats 8000000
set_option linter.unusedVariables false
namespace Mine

theorem joinS_len (x y : Str) : (joinS x y).length ≤ x.length + y.length + 1 := by
  have e : (Str.ofString "/").length = 1 := by decide +kernel
  unfold joinS
  split
  · omega
  split
  · omega
  split
  · rw [Str.length_append]; omega
  · rw [Str.length_append, Str.length_append, e]; omega
theorem written_str_len (x : Str) : (⟨(writtenL x.cps.toList).toArray⟩ : Str).length ≤ 2 * x.length := by
  have := written_len x.cps.toList
  show (writtenL x.cps.toList).toArray.size ≤ 2 * x.cps.size
  simpa using this
section
variable {w : World} {mean : ExcName → Option Value} {mg mb : Str → Option Value} {dp un : Nat} {gd : Option (List Code)} {cn : Str} {cnm : List (Str × NameKind)} {cig cic : Bool} {cmo : List (Str × Const)} {a : Addr} {ccd : Value} {cl : List (Str × Addr)} {outer : List Env} {A₀ : Around} {base h₀ : Heap} {L : Addr} {m : Str → Option Value} {news : List (Addr × Obj)} {s : Shared} {Q E : Value → Shared → Prop}

theorem written_d {x : Str} {t : Tok} (B : Below A₀ base outer h₀) (F : Fr h₀ L s.heap m) (X : (hd.heap_1 w.params).In h₀) (N : News h₀ L s.heap news) (T : Top view (looseW view []) mean mg mb h₀) (hdp : dp ≤ 800) (hun : un ≤ 8000) (hx : x.length ≤ 1000)
    (ret : ∀ t h' tk', (⟨(writtenL x.cps.toList).toArray⟩ : Str).length ≤ 2 * x.length → Fr h₀ L h' m → News h₀ L h' news → Q (.str ⟨(writtenL x.cps.toList).toArray⟩ t) { s with heap := h', toks := tk' }) :
    wpAny (model Challenge.rw_pd0152_01.row.prog w) { handled := none, depth := dp, frames := some (envX cn { kind := .function, names := cnm, isGenerator := cig, isCoroutine := cic, more := cmo } L a ccd cl :: outer), guards := gd, units := un } (call (.ref 179) [.str x t]) Q E s :=
  written_c B F X N T hdp hun hx fun t h' tk' => ret t h' tk' (written_str_len x)
theorem join_e {x y : Str} {t t1 : Tok} (B : Below A₀ base outer h₀) (F : Fr h₀ L s.heap m) (X : (hd.heap_1 w.params).In h₀) (N : News h₀ L s.heap news) (T : Top view (looseW view []) mean mg mb h₀) (hdp : dp ≤ 800) (hun : un ≤ 8000) (hx : x.length ≤ 500000) (hy : y.length ≤ 500000)
    (ret : ∀ t' h' tk', (joinS x y).length ≤ x.length + y.length + 1 → Fr h₀ L h' m → News h₀ L h' news → Q (.str (joinS x y) t') { s with heap := h', toks := tk' }) :
    wpAny (model Challenge.rw_pd0152_01.row.prog w) { handled := none, depth := dp, frames := some (envX cn { kind := .function, names := cnm, isGenerator := cig, isCoroutine := cic, more := cmo } L a ccd cl :: outer), guards := gd, units := un } (call (.ref 115) [.str x t, .str y t1]) Q E s :=
  join_d B F X N T hdp hun hx hy fun t' h' tk' => ret t' h' tk' (joinS_len x y)
end
noncomputable def quoteS (x : Str) : Str := Str.ofString "\"" ++ ⟨(writtenL x.cps.toList).toArray⟩ ++ Str.ofString "\""
noncomputable def pathF (l : List Str) : Str := l.foldl (fun p n => joinS p (quoteS n)) (Str.ofString "")
theorem quoteS_len (x : Str) : (quoteS x).length ≤ 2 * x.length + 2 := by
  have e : (Str.ofString "\"").length = 1 := by decide +kernel
  have := written_str_len x
  unfold quoteS
  rw [Str.length_append, Str.length_append, e]
  omega
theorem pathF_len : ∀ (l : List Str) (p : Str), (∀ x ∈ l, x.length ≤ 3) → (l.foldl (fun p n => joinS p (quoteS n)) p).length ≤ p.length + 9 * l.length
  | [], p, _ => by simp
  | x :: l, p, h => by
    have h1 := pathF_len l (joinS p (quoteS x)) fun y hy => h y (.tail _ hy)
    have h2 := joinS_len p (quoteS x)
    have h3 := quoteS_len x
    have h4 := h x (.head _)
    rw [List.foldl_cons, List.length_cons]
    omega
noncomputable def pMap (m0 : Str → Option Value) (u : Option Value) (p : Str) (tp : Tok) : Str → Option Value := fun y =>
  if y = Str.ofString "name" then u else if y = Str.ofString "path" then some (.str p tp) else m0 y
theorem pMap_A {m0 : Str → Option Value} {u v : Option Value} {p p' : Str} {tp tp' : Tok} : (fun y => if y = Str.ofString "path" then some (.str p' tp') else if y = Str.ofString "name" then v else if y = Str.ofString "name" then u else if y = Str.ofString "path" then some (.str p tp) else m0 y) = pMap m0 v p' tp' := by
  refine map_ext [Str.ofString "name", Str.ofString "path"] ?_ ?_
  · simp only [List.forall_mem_cons]
    exact ⟨rfl, rfl, fun _ h => nomatch h⟩
  · intro y hy
    simp only [List.mem_cons, not_or, List.not_mem_nil, not_false_eq_true, and_true] at hy
    obtain ⟨a1, a2⟩ := hy
    simp [pMap, a1, a2]
theorem pMap_self {m0 : Str → Option Value} {p : Str} {tp : Tok} (h : m0 (Str.ofString "path") = some (.str p tp)) : m0 = pMap m0 (m0 (Str.ofString "name")) p tp := by
  refine map_ext [Str.ofString "name", Str.ofString "path"] ?_ ?_
  · simp only [List.forall_mem_cons]
    exact ⟨rfl, h, fun _ h => nomatch h⟩
  · intro y hy
    simp only [List.mem_cons, not_or, List.not_mem_nil, not_false_eq_true, and_true] at hy
    obtain ⟨a1, a2⟩ := hy
    simp [pMap, a1, a2]
noncomputable def pathJ (l : List (Str × Tok)) (m0 : Str → Option Value) (news : List (Addr × Obj)) (g : Array GenState) (i : Nat) (m' : Str → Option Value) (news' : List (Addr × Obj)) (g' : Array GenState) : Prop :=
  g' = g ∧ (∃ u tp, m' = pMap m0 u (pathF ((l.take i).map (·.1))) tp) ∧ news' = news
section
variable {w : World} {mean : ExcName → Option Value} {mg mb : Str → Option Value} {dp un : Nat} {gd : Option (List Code)} {cn : Str} {cnm : List (Str × NameKind)} {cig cic : Bool} {cmo : List (Str × Const)} {a : Addr} {ccd : Value} {cl : List (Str × Addr)} {outer : List Env} {A₀ : Around} {base h₀ : Heap} {L : Addr} {m : Str → Option Value} {news : List (Addr × Obj)} {s : Shared} {Q E : Value → Shared → Prop}

theorem path_c {l : List (Str × Tok)} {ln : Addr} {k : Nat} (B : Below A₀ base outer h₀) (F : Fr h₀ L s.heap m) (X : (hd.heap_1 w.params).In h₀) (N : News h₀ L s.heap news) (T : Top view (looseW view []) mean mg mb h₀) (hdp : dp ≤ 700) (hun : un ≤ 7000) (hm : (ln, listOf (strValues l).toArray k) ∈ news) (hll : l.length ≤ 3)
    (h1 : ∀ p ∈ l, p.1.length ≤ 3)
    (ret : ∀ t h' tk', Fr h₀ L h' m → News h₀ L h' news → Q (.str (pathF (l.map (·.1))) t) { s with heap := h', toks := tk' }) :
    wpAny (model Challenge.rw_pd0152_01.row.prog w) { handled := none, depth := dp, frames := some (envX cn { kind := .function, names := cnm, isGenerator := cig, isCoroutine := cic, more := cmo } L a ccd cl :: outer), guards := gd, units := un } (call (.ref 186) [.ref ln]) Q E s := by
  k_with_none
  k_with "call ref" => (k_here; (with_reducible show wpAny _ _ (call (Value.ref 179) _) _ _ _); k_dflt (refine' written_d ?zqk1 ?zqk2 ?zqk3 ?zqk4 ?zqk5 ?zqk6 ?zqk7 ?zqk8 ?_; (case zqk1 => k_asm); (case zqk2 => k_asm); (case zqk3 => k_asm); (case zqk4 => k_asm); (case zqk5 => k_asm); (case zqk6 => exact Nat.le_of_ble_eq_true rfl); (case zqk7 => exact Nat.le_of_ble_eq_true rfl); (case zqk8 => (first | (with_reducible assumption) | omega)); k_whole); intro zqt' zqh' zqtk' zqhw' zqF' zqN'; (try dsimp only); (try k_fold))
  k_with "call ref" => (k_here; (with_reducible show wpAny _ _ (call (Value.ref 115) _) _ _ _); k_dflt (refine' join_e ?zqk1 ?zqk2 ?zqk3 ?zqk4 ?zqk5 ?zqk6 ?zqk7 ?zqk8 ?zqk9 ?_; (case zqk1 => k_asm); (case zqk2 => k_asm); (case zqk3 => k_asm); (case zqk4 => k_asm); (case zqk5 => k_asm); (case zqk6 => exact Nat.le_of_ble_eq_true rfl); (case zqk7 => exact Nat.le_of_ble_eq_true rfl); (case zqk8 => (first | (with_reducible assumption) | omega)); (case zqk9 => (first | (with_reducible assumption) | omega)); k_whole); intro zqt' zqh' zqtk' zqhj' zqF' zqN'; (try dsimp only); (try k_fold))
  revert X; k_fill; intro X
  refine upto hdp hun ?_
  k_steps
  refine forStmt ?_
  k_steps
  with_reducible rename Fr _ _ _ _ => F9
  with_reducible rename News _ _ _ _ => N9
  obtain ⟨m0, hm0, F9⟩ := Fr.named F9
  refine iter_list (its := (strValues l).toArray) (k := k) (by rfl) rfl rfl rfl (pathJ l m0 news s.gens) ?_ F9 N9 ?_ ?_ ?_
  · rintro i m' news' g' ⟨_, _, rfl⟩
    exact hm
  · subst hm0
    exact ⟨rfl, ⟨_, _, pMap_self rfl⟩, rfl⟩
  · rintro i v m' news' g' h tk I o hv ⟨rfl, ⟨u, tp, rfl⟩, rfl⟩ F₁ N₁ off
    obtain ⟨p, hp, rfl⟩ := strValues_at hv
    have hx := h1 p (List.mem_of_getElem? hp)
    have hpl : (pathF ((l.take i).map (·.1))).length ≤ 100 := by
      have := pathF_len ((l.take i).map (·.1)) (Str.ofString "") (fun x hx => by
        obtain ⟨q, hq, rfl⟩ := List.mem_map.mp hx
        exact h1 q (List.mem_of_mem_take hq))
      have e0 : (Str.ofString "").length = 0 := by decide +kernel
      rw [e0, List.length_map, List.length_take] at this
      unfold pathF
      omega
    have hnext : pathF ((l.take (i + 1)).map (·.1)) = joinS (pathF ((l.take i).map (·.1))) (quoteS p.1) := by
      rw [List.take_add_one, hp]; unfold pathF; simp
    generalize hP : pathF ((l.take i).map (·.1)) = P at F₁ hpl hnext
    subst hm0
    dsimp only [pMap] at F₁
    have hq9 : (Str.ofString "\"" ++ (⟨(writtenL p.1.cps.toList).toArray⟩ : Str) ++ Str.ofString "\"").length ≤ 500000 := by
      have := quoteS_len p.1
      exact Nat.le_trans this (by omega)
    have hP9 : P.length ≤ 500000 := by omega
    k_steps
    with_reducible rename Fr _ _ _ _ => F₂
    with_reducible rename News _ _ _ _ => N₂
    refine Turned.mk F₂ N₂ (fun p hp => hp) off ⟨rfl, ⟨?_, ?_, ?pA⟩, rfl⟩
    case pA =>
      rw [hnext]
      exact pMap_A
  · rintro m' news' g' h tk ⟨rfl, ⟨u, tp, rfl⟩, rfl⟩ F₁ N₁
    subst hm0
    rw [show (strValues l).toArray.size = l.length from by simp [strValues], List.take_length] at F₁
    dsimp only [pMap] at F₁
    k_steps
    exact ret _ _ _ (by k_asm) (by k_asm)
end
end Mine
end

-- part P2
section
open PySem PySem.W PyProof.Rows PySem.Calls
set_option Elab.async false
set_option maxRecDepth 100000
set_option maxHeartbeats 8000000
set_option linter.unusedVariables false
namespace Mine

noncomputable def bSize (x y : Str) : Nat → Nat
  | 0 => 0
  | i + 1 => if (Txt.item x (0 + (i : Int)) == Str.ofString "/") = true then (if (Txt.slice x none (some (0 + (i : Int) + 1)) == Txt.slice y none (some (0 + (i : Int) + 1))) = true then i + 1 else bSize x y i) else bSize x y i
noncomputable def bothS (x y : Str) : Str := Txt.slice x none (some ((bSize x y x.length : Nat) : Int))
theorem bSize_a {x y : Str} {i : Nat} (h1 : (Txt.item x (0 + (i : Int)) == Str.ofString "/") = true) (h2 : (Txt.slice x none (some (0 + (i : Int) + 1)) == Txt.slice y none (some (0 + (i : Int) + 1))) = true) : ((bSize x y (i + 1) : Nat) : Int) = 0 + (i : Int) + 1 := by
  rw [show bSize x y (i + 1) = i + 1 from by unfold bSize; rw [if_pos h1, if_pos h2]]
  omega
theorem bSize_b {x y : Str} {i : Nat} (h1 : (Txt.item x (0 + (i : Int)) == Str.ofString "/") = true) (h2 : (Txt.slice x none (some (0 + (i : Int) + 1)) == Txt.slice y none (some (0 + (i : Int) + 1))) = false) : bSize x y (i + 1) = bSize x y i := by
  conv => lhs; unfold bSize
  rw [if_pos h1, if_neg (by rw [h2]; exact Bool.false_ne_true)]
theorem bSize_c {x y : Str} {i : Nat} (h1 : (Txt.item x (0 + (i : Int)) == Str.ofString "/") = false) : bSize x y (i + 1) = bSize x y i := by
  conv => lhs; unfold bSize
  rw [if_neg (by rw [h1]; exact Bool.false_ne_true)]
theorem bSize_le (x y : Str) : ∀ i, bSize x y i ≤ i
  | 0 => Nat.le_refl _
  | i + 1 => by
    have := bSize_le x y i
    unfold bSize
    split
    · split <;> omega
    · omega
noncomputable def bMap (m0 : Str → Option Value) (u : Option Value) (n : Int) (tn : Tok) : Str → Option Value := fun y =>
  if y = Str.ofString "k" then u else if y = Str.ofString "size" then some (.int n tn) else m0 y
theorem bMap_A {m0 : Str → Option Value} {u v : Option Value} {p p' : Int} {tp tp' : Tok} : (fun y => if y = Str.ofString "size" then some (.int p' tp') else if y = Str.ofString "k" then v else if y = Str.ofString "k" then u else if y = Str.ofString "size" then some (.int p tp) else m0 y) = bMap m0 v p' tp' := by
  refine map_ext [Str.ofString "k", Str.ofString "size"] ?_ ?_
  · simp only [List.forall_mem_cons]
    exact ⟨rfl, rfl, fun _ h => nomatch h⟩
  · intro y hy
    simp only [List.mem_cons, not_or, List.not_mem_nil, not_false_eq_true, and_true] at hy
    obtain ⟨a1, a2⟩ := hy
    simp [bMap, a1, a2]
theorem bMap_B {m0 : Str → Option Value} {u v : Option Value} {p : Int} {tp : Tok} : (fun y => if y = Str.ofString "k" then v else if y = Str.ofString "k" then u else if y = Str.ofString "size" then some (.int p tp) else m0 y) = bMap m0 v p tp := by
  refine map_ext [Str.ofString "k", Str.ofString "size"] ?_ ?_
  · simp only [List.forall_mem_cons]
    exact ⟨rfl, rfl, fun _ h => nomatch h⟩
  · intro y hy
    simp only [List.mem_cons, not_or, List.not_mem_nil, not_false_eq_true, and_true] at hy
    obtain ⟨a1, a2⟩ := hy
    simp [bMap, a1, a2]
theorem bMap_self {m0 : Str → Option Value} {p : Int} {tp : Tok} (h : m0 (Str.ofString "size") = some (.int p tp)) : m0 = bMap m0 (m0 (Str.ofString "k")) p tp := by
  refine map_ext [Str.ofString "k", Str.ofString "size"] ?_ ?_
  · simp only [List.forall_mem_cons]
    exact ⟨rfl, h, fun _ h => nomatch h⟩
  · intro y hy
    simp only [List.mem_cons, not_or, List.not_mem_nil, not_false_eq_true, and_true] at hy
    obtain ⟨a1, a2⟩ := hy
    simp [bMap, a1, a2]
noncomputable def bothJ (x y : Str) (m0 : Str → Option Value) (news : List (Addr × Obj)) (g : Array GenState) (i : Nat) (m' : Str → Option Value) (news' : List (Addr × Obj)) (g' : Array GenState) : Prop :=
  g' = g ∧ (∃ u tp, m' = bMap m0 u ((bSize x y i : Nat) : Int) tp) ∧ news' = news
section
variable {w : World} {mean : ExcName → Option Value} {mg mb : Str → Option Value} {dp un : Nat} {gd : Option (List Code)} {cn : Str} {cnm : List (Str × NameKind)} {cig cic : Bool} {cmo : List (Str × Const)} {a : Addr} {ccd : Value} {cl : List (Str × Addr)} {outer : List Env} {A₀ : Around} {base h₀ : Heap} {L : Addr} {m : Str → Option Value} {news : List (Addr × Obj)} {s : Shared} {Q E : Value → Shared → Prop}

theorem both_c {x y : Str} {t t1 : Tok} (B : Below A₀ base outer h₀) (F : Fr h₀ L s.heap m) (X : (hd.heap_1 w.params).In h₀) (N : News h₀ L s.heap news) (T : Top view (looseW view []) mean mg mb h₀) (hdp : dp ≤ 700) (hun : un ≤ 7000) (hx : x.length ≤ 1000) (hy : y.length ≤ 1000)
    (ret : ∀ t h' tk', Fr h₀ L h' m → News h₀ L h' news → Q (.str (bothS x y) t) { s with heap := h', toks := tk' }) :
    wpAny (model Challenge.rw_pd0152_01.row.prog w) { handled := none, depth := dp, frames := some (envX cn { kind := .function, names := cnm, isGenerator := cig, isCoroutine := cic, more := cmo } L a ccd cl :: outer), guards := gd, units := un } (call (.ref 198) [.str x t, .str y t1]) Q E s := by
  k_with_none
  k_with "exec For Name Call cons nil" => (k_here; k_dflt (refine forStmt ?_))
  revert X; k_fill; intro X
  refine upto hdp hun ?_
  k_steps
  with_reducible rename Fr _ _ _ _ => F9
  with_reducible rename News _ _ _ _ => N9
  with_reducible rename IsRange _ _ _ _ _ _ _ _ => R9
  obtain ⟨m0, hm0, F9⟩ := Fr.named F9
  refine iter_range (n := x.length) (by rfl) rfl rfl rfl R9 ?_ ?_ (bothJ x y m0 news s.gens) F9 N9 ?_ ?_ ?_
  · exact range_small1 hx
  · exact range_size1 _
  · subst hm0
    exact ⟨rfl, ⟨_, _, bMap_self rfl⟩, rfl⟩
  · rintro i ti m' news' g' h tk I o hi ⟨rfl, ⟨u, tp, rfl⟩, rfl⟩ F₁ N₁ off
    have hb := bSize_le x y i
    generalize hP : bSize x y i = P at F₁ hb
    subst hm0
    dsimp only [bMap] at F₁
    k_steps
    · with_reducible rename Fr _ _ _ _ => F₂
      with_reducible rename News _ _ _ _ => N₂
      refine Turned.mk F₂ N₂ (fun p hp => hp) off ⟨rfl, ⟨?_, ?_, ?pA⟩, rfl⟩
      case pA =>
        rw [bSize_a (by with_reducible assumption) (by with_reducible assumption)]
        exact bMap_A
    · with_reducible rename Fr _ _ _ _ => F₂
      with_reducible rename News _ _ _ _ => N₂
      refine Turned.mk F₂ N₂ (fun p hp => hp) off ⟨rfl, ⟨?_, ?_, ?pA⟩, rfl⟩
      case pA =>
        rw [bSize_b (by with_reducible assumption) (by with_reducible assumption), hP]
        exact bMap_B
    · with_reducible rename Fr _ _ _ _ => F₂
      with_reducible rename News _ _ _ _ => N₂
      refine Turned.mk F₂ N₂ (fun p hp => hp) off ⟨rfl, ⟨?_, ?_, ?pA⟩, rfl⟩
      case pA =>
        rw [bSize_c (by with_reducible assumption), hP]
        exact bMap_B
  · rintro m' news' g' h tk ⟨rfl, ⟨u, tp, rfl⟩, rfl⟩ F₁ N₁
    subst hm0
    dsimp only [bMap] at F₁
    k_steps
    exact ret _ _ _ (by k_asm) (by k_asm)
end
end Mine
end

-- part K2
section
open PySem PySem.W PyProof.Rows PySem.Calls
set_option Elab.async false
set_option maxRecDepth 100000
set_option maxHeartbeats 8000000
set_option linter.unusedVariables false
namespace Mine

noncomputable def tupObj (its : Array Value) : Obj := { cls := .type "tuple", data := .seq its }
/-- a comprehension over a tuple of the ledger -/
noncomputable def SrcTup (prog : Program) (w : World) (A : Around) (h₀ : Heap) (L : Addr) (m : Str → Option Value) (env : Env) (elt : Expr) (x : Str) (scope : Scope) (cl : List (Str × Addr)) (Fin : Shared → List Value → List (Addr × Obj) → Prop) (xv : Value) (s₁ : Shared) : Prop :=
  ∃ ax its news, xv = .ref ax ∧ A.handled = none ∧ Fr h₀ L s₁.heap m ∧ News h₀ L s₁.heap news ∧ (ax, tupObj its) ∈ news ∧ its.size ≤ sizeLine ∧
    ∀ g : Heap, LCg.CompRest prog w A h₀ L m env elt x scope cl { s₁ with heap := g } (fun nw => (ax, tupObj its) ∈ nw) (fun i v => its[i]? = some v) (Fin { s₁ with heap := g }) its.size 0 [] news
section
variable {prog : Program} {w : World} {A : Around} {h₀ : Heap} {L : Addr} {m : Str → Option Value} {env : Env} {s : Shared} {news : List (Addr × Obj)}
theorem assign_comp_tup {E : Value → Shared → Prop} {elt iter : Expr} {x y : Str} {px py : Pos} {scope : Scope} {cl : List (Str × Addr)} {pos spos : Pos} {Q : Flow → Shared → Prop} (F₀ : Fr h₀ L s.heap m) (hLe : env.locals = L)
    (hsw : swapsWith (.ListComp elt [⟨.Name x px, iter, [], 0⟩] scope pos) (some (.Name y py)) spos.line env = pure true)
    (hclos : closureFor scope env = pure cl) (hcell : ∀ z ∈ scope.names, z.2 ≠ .cell) (hkind : scope.kind = .function)
    (hnames : ∀ z ∈ scope.names, z.2 = .local → scope.names.lookup z.1 = some .local) (hx : scope.names.lookup x = some .local)
    (hy : env.kindOf y = some .local) (hp : (env.scope.kind == .class || (env.scope.kind == .module && env.locals != env.globals)) = false)
    (h : wpAny (model prog w) A (eval iter env) (fun xv s₁ => Stop (SrcTup prog w A h₀ L m env elt x scope cl (fun s₂ => LCg.FinA h₀ L m s₂ y Q) xv s₁)) E s)
    (hs : ∀ x, foldedSetIterable iter env x = pure x := by intro _; rfl) :
    wpAny (model prog w) A (exec (.Assign [.Name y py] (.ListComp elt [⟨.Name x px, iter, [], 0⟩] scope pos) spos) env) Q E s := by
  subst hLe
  rw [exec_Assign_Name_used _ _ _ _ hsw]
  refine wpAny_bind (wpAny_standAt (wpAny_bind ?_))
  show wpAny _ A (do let _ ← comprehension (.ListComp elt [⟨.Name x px, iter, [], 0⟩] scope pos) scope env _ (newList []) false (eval iter env) (some (assign (.Name y py) env))) _ _ s
  refine wpAny_bind (wpAny_mono (wpAny_comprehension_free (use := some (assign (.Name y py) env)) (Q := fun _ s' => Q .next s') rfl hs hclos hkind hnames
    (wpAny_mono h (fun xv s₁ h₁ => ?_) fun _ _ e => e)) (fun _ s' hq => wpAny_pure (wpAny_pure hq)) fun _ _ e => e)
  obtain ⟨ax, its, news, rfl, hh, F, N, hm, hsz, R⟩ := h₁
  have hl : s₁.heap.IsTuple ax its := ⟨_, (N _ hm).1, rfl, _, rfl⟩
  have hlt : ax < s₁.heap.objs.size := Heap.lt_size (N _ hm).1
  refine wpAny_pyIter_tuple hl ?_
  have up : ∀ b o, s₁.heap.get? b = some o → (s₁.heap.push { cls := .type "tuple_iterator", data := .fields #[.ref ax, .int 0 0] }).get? b = some o := fun b o e => Heap.get?_push_of_some _ e
  refine LCg.block_U (S := fun nw => (ax, tupObj its) ∈ nw) (Walks.tuple hh s₁.heap.objs.size ax (Nat.ne_of_lt hlt) its) hsz (fun i h st => by obtain ⟨o, e, _⟩ := st.1; exact ⟨o, e⟩) ?_ hcell hkind hx ⟨⟨_, Heap.get?_push_size _ rfl, rfl, rfl⟩, hl.at (up _)⟩ (fun b hb => ?_)
      (F.keeps up) (N.grown up) (Nat.ne_of_lt F.ns.lt) (next_is_new F) (fun p hp => Nat.ne_of_lt (Heap.lt_size (N p hp).1)) hm (R _) ?_
  · rintro i h h' o nw st e e' k N' S
    refine ⟨?_, ⟨_, (N' _ S).1, rfl, _, rfl⟩⟩
    obtain ⟨o', q, r⟩ := st.1
    rw [e] at q; cases q
    exact ⟨o, e', r⟩
  · show b < (s₁.heap.push _).objs.size
    rw [Heap.size_push]
    rcases List.mem_cons.mp hb with rfl | hb
    · exact Nat.lt_succ_self _
    · rw [List.mem_singleton.mp hb]; exact Nat.lt_succ_of_lt hlt
  · intro D C h' tk m' ys news' F' N' o1 hn hC₀ hD₀ hCL hDL hCD offC fin
    show wpAny _ A (assign (.Name y py) env (.ref D)) _ _ _
    refine wpAny_assign_Name (wpAny_storeName_local hy F'.ns (fun h₂ hn₂ hs₂ => ?_) hp)
    have F₂ := F'.set hn₂ hs₂
    have N₂ := N'.set hs₂
    refine ⟨m', hn.sameBut hs₂ hCL, fun h'' hs'' => fin D h'' _ (F₂.change hs'' hCL hC₀) (fun q hq => ?_) o1⟩
    refine ⟨hs''.extBut _ _ ?_ (N₂ q hq).1, (N₂ q hq).2⟩
    rcases List.mem_cons.mp hq with rfl | hq
    · exact Ne.symm hCD
    · exact offC q hq
theorem compEnd_new {s₁ : Shared} {I C D D1 : Addr} {oI oC oD o1 : Obj} {S : List (Addr × Obj) → Prop} {rest : Value → List (Addr × Obj) → Prop} {y : Value} {h' : Heap} {tk : Nat}
    (F : Fr h₀ L h' m) (N : News h₀ L h' ((D1, o1) :: (I, oI) :: (C, oC) :: (D, oD) :: news)) (l1 : ∀ p ∈ (I, oI) :: (C, oC) :: (D, oD) :: news, p.1 ≠ D1) (off : LCg.Off3 I C D news)
    (hS : S ((D1, o1) :: news)) (r : rest y ((D1, o1) :: news)) : LCg.CompEnd h₀ L m s₁ I oI C oC D oD S rest y { s₁ with heap := h', toks := tk } := by
  refine LCg.CompEnd.intro F N ((D1, o1) :: news) ?_ ?_ hS r
  · intro p hp
    rcases List.mem_cons.mp hp with rfl | hp
    · exact .tail _ (.head _)
    rcases List.mem_cons.mp hp with rfl | hp
    · exact .tail _ (.tail _ (.head _))
    rcases List.mem_cons.mp hp with rfl | hp
    · exact .tail _ (.tail _ (.tail _ (.head _)))
    rcases List.mem_cons.mp hp with rfl | hp
    · exact .head _
    · exact .tail _ (.tail _ (.tail _ (.tail _ hp)))
  · exact ⟨⟨Ne.symm (l1 _ (.head _)), Ne.symm (l1 _ (.tail _ (.head _))), Ne.symm (l1 _ (.tail _ (.tail _ (.head _))))⟩, off⟩
end
end Mine
end

-- part K3a
section
open PySem PySem.W PyProof.Rows PySem.Calls
set_option Elab.async false
set_option maxRecDepth 100000
set_option maxHeartbeats 8000000
set_option linter.unusedVariables false
namespace Mine

noncomputable def tF (b : Bool) : SetTable := { mask := 7, place := #[0], dummies := #[], finger := 0, led := b, moves := 0, plain := true }
noncomputable def setE (b : Bool) : Obj := { cls := .type "set", data := .set #[] 0 (.fresh 0 0 b) }
noncomputable def setF (b : Bool) : Obj := { cls := .type "set", data := .set #[(0, .bool false)] 1 (tF b) }
/-- a set that holds False alone -/
noncomputable def IsSetF (w : World) (o : Obj) : Prop := o = setF (!w.params.followText "set-order")
section
variable {prog : Program} {w : World} {A : Around} {E : Value → Shared → Prop} {s : Shared}
theorem pyHash_false {Q : Int → Shared → Prop} (h : Q 0 { s with toks := s.toks + 1 }) : wpAny (model prog w) A (pyHash (.bool false)) Q E s := by
  unfold pyHash
  have hv : [Value.bool false].any Value.onHeap = false := rfl
  have hT : s.TypeIs (.bool false) "bool" := PySem.typeIs_bool _ _
  refine wpAny_bind ?_
  rw [cRoomFor, if_neg (by rw [hv]; exact Bool.false_ne_true)]; refine wpAny_pure ?_
  refine wpAny_bind (wpAny_specialOf hT F.slot_bool_hash.lookup ?_)
  show wpAny _ _ (if (some (Value.builtin "int.__hash__") == some Value.none) = true then _ else _) Q E s
  rw [if_neg (by rw [beq_builtin_none]; exact Bool.false_ne_true)]
  refine wpAny_bind (wpAny_specialOf hT F.slot_bool_hash.lookup ?_)
  show wpAny _ _ (callSpecialIfBoundUnlessNone? (.bool false) "__hash__" _ >>= _) Q E s
  refine wpAny_bind (wpAny_callSpecialIfBoundUnlessNone?_slot hT F.slot_bool_hash
    (wpAny_call_entry F.slot_bool_hash hT entry_int_hash
      (show wpAny _ _ (do ret (← mkInt 0)) _ _ s from wpAny_ret_mkInt ?_) (args_int_hash _)))
  show wpAny _ _ (if (decide (-(2 : Int) ^ 63 ≤ 0) && decide ((0 : Int) < 2 ^ 63)) = true then _ else _) Q E _
  rw [if_pos (by decide)]
  exact wpAny_pure h
theorem add_first {D : Addr} {b : Bool} {Q : Bool → Shared → Prop} (hD : s.heap.get? D = some (setE b)) (h : Q true { s with heap := s.heap.update D (Obj.putSet #[(0, .bool false)] (tF b)) }) :
    wpAny (model prog w) A (setAddHashed D (.bool false) 0) Q E s := by
  unfold setAddHashed
  refine wpAny_holding ?_
  show wpAny _ _ (setAddHashedIn D (.bool false) 0 (99999 + 1)) _ _ _
  unfold setAddHashedIn
  refine wpAny_bind (wpAny_setState_of hD rfl (by cases b <;> decide +kernel) ?_)
  dsimp only
  rw [if_pos (by decide +kernel)]
  refine wpAny_bind ?_
  unfold setAddByScan
  refine wpAny_bind (wpAny_rule ?_)
  refine wpAny_bind (m := setScan D (.bool false) 0 true #[]) (wpAny_pure ?_)
  dsimp only
  have e : layNew (SetTable.fresh 0 0 b) #[] 0 (.bool false) = (#[(0, .bool false)], tF b, false, false) := by cases b <;> decide +kernel
  rw [e]
  dsimp only
  refine wpAny_bind (wpAny_pure ?_)
  rw [if_pos (show (tF b).plain = true from rfl)]
  refine wpAny_bind (m := hashByValue 8 (.bool false)) (wpAny_pure ?_)
  simp only [if_true]
  refine wpAny_bind (wpAny_storeSet_of hD rfl ?_ (Nat.le_of_ble_eq_true rfl))
  rw [if_neg (by cases b <;> decide +kernel)]
  refine wpAny_pure ?_
  dsimp only
  exact wpAny_pure h
theorem eqBool_false {Q : Bool → Shared → Prop} (h : Q true s) : wpAny (model prog w) A (eqBool (.bool false) (.bool false)) Q E s :=
  SeqAt.EqAt.bool_bool false false prog w E Q h
theorem add_again {D : Addr} {b : Bool} {Q : Bool → Shared → Prop} (hD : s.heap.get? D = some (setF b)) (h : Q false s) :
    wpAny (model prog w) A (setAddHashed D (.bool false) 0) Q E s := by
  unfold setAddHashed
  refine wpAny_holding ?_
  show wpAny _ _ (setAddHashedIn D (.bool false) 0 (99999 + 1)) _ _ _
  unfold setAddHashedIn
  refine wpAny_bind (wpAny_setState_of hD rfl (by cases b <;> decide +kernel) ?_)
  dsimp only
  rw [if_pos (by decide +kernel)]
  refine wpAny_bind ?_
  unfold setAddByScan
  refine wpAny_bind (wpAny_rule ?_)
  refine wpAny_bind ?_
  show wpAny _ _ (setScanFrom D (.bool false) 0 true [(0, .bool false)] 0) _ _ _
  unfold setScanFrom
  rw [if_pos (by decide)]
  refine wpAny_bind (wpAny_setEpoch_of hD rfl (by cases b <;> decide +kernel) ?_)
  refine wpAny_bind (eqBool_false ?_)
  rw [if_pos (by decide)]
  refine wpAny_pure ?_
  dsimp only
  exact wpAny_pure (wpAny_pure h)
theorem call_add {D : Addr} {o : Obj} {Q : Value → Shared → Prop} (hD : s.heap.get? D = some o) (hc : o.cls = .type "set")
    (h : wpAny (model prog w) A.in1 (setAddHashed D (.bool false) 0) (fun _ s' => Q .none s') E { s with toks := s.toks + 1 }) :
    wpAny (model prog w) A (call (.builtin "set.add") [.ref D, .bool false]) Q E s := by
  refine wpAny_call_entry F.slot_set_add ⟨o, hD, hc⟩ F.entry_set_add ?_ (F.args_set_add_2 _ _)
  unfold Builtin.«set.add» Builtin.Frozenset.oneOther
  simp only [List.isEmpty_nil, bind_assoc]
  unfold Builtin.Frozenset.addrOf setAdd
  refine wpAny_bind (wpAny_pure ?_)
  try dsimp only
  refine wpAny_bind (wpAny_pure ?_)
  try dsimp only
  refine wpAny_bind ?_
  refine wpAny_holding ?_
  refine wpAny_bind (pyHash_false ?_)
  refine wpAny_mono h (fun _ s' hq => ?_) fun _ _ e => e
  show wpAny _ _ (ret Value.none) _ _ _
  exact wpAny_pure ⟨_, rfl, hq⟩
end
end Mine
end

-- part K3b
section
open PySem PySem.W PyProof.Rows PySem.Calls
set_option Elab.async false
set_option maxRecDepth 100000
set_option maxHeartbeats 8000000
set_option linter.unusedVariables false
namespace Mine

set_option maxRecDepth 100000
namespace SF
theorem slot_next : Slot "set_iterator" "__next__" "set_iterator.__next__" :=
  .of (owner := "set_iterator") (n := "__next__") (by rw [typeLookup_type, builtinLookup_eq_fast]; kernel_rfl) (by decide +kernel) (by decide +kernel) (by decide +kernel)
    (by first | exact .inl (by decide +kernel) | exact .inr (by decide +kernel)) (by rw [isSubtype_type]; kernel_rfl)
theorem args_next (a : Value) : argsOk "set_iterator.__next__" ⟨[a], []⟩ := by unfold argsOk; kernel_rfl
theorem entry_next : entryFor table "set_iterator.__next__" = some Builtin.«set_iterator.__next__» := entryFor_of_tree (by kernel_rfl)
theorem entry_iter : entryFor table "set.__iter__" = some Builtin.«frozenset.__iter__» :=
  entryFor_alias (id' := "frozenset.__iter__") (by kernel_rfl) rfl (by decide +kernel) (by kernel_rfl)
end SF
noncomputable def sitObj (f i : Int) (v : Value) : Obj := { cls := .type "set_iterator", data := .fields #[rawInt f, rawInt i, v, rawInt 1, rawInt 1] }
section
variable {prog : Program} {w : World} {A : Around} {E : Value → Shared → Prop} {s : Shared} {h₀ : Heap} {L : Addr} {m : Str → Option Value} {env : Env} {news : List (Addr × Obj)}
theorem fitsF (b : Bool) : (tF b).fits (#[((0 : Int), Value.bool false)]).size = true := by cases b <;> decide +kernel
theorem pick_one (next : Nat → Nat) (x : Int × Value) : pickOrder next #[x] = #[x] := by
  simp [pickOrder, pickOrder.go, Nat.mod_one]
theorem set_pyIter {D : Addr} {b : Bool} {Q : Value → Shared → Prop} (hD : s.heap.get? D = some (setF b))
    (h : Q (.ref s.heap.objs.size) { s with heap := s.heap.push (sitObj 0 0 (.ref D)) }) : wpAny (model prog w) A (pyIter (.ref D)) Q E s := by
  have hT : s.TypeIs (.ref D) "set" := ⟨_, hD, rfl⟩
  refine wpAny_pyIter_slot hT F.slot_set_iter (wpAny_call_entry F.slot_set_iter hT SF.entry_iter ?_ (F.args_set_iter_1 _))
  unfold Builtin.«frozenset.__iter__» Builtin.Frozenset.slot0 slotArgs
  simp only [List.isEmpty_nil, Bool.not_true, Bool.false_eq_true, ↓reduceIte, bind_assoc, List.length_nil, bne_self_eq_false]
  unfold Builtin.Frozenset.addrOf Builtin.Frozenset.sizeOf
  refine wpAny_bind (wpAny_pure ?_)
  try dsimp only
  refine wpAny_bind (wpAny_pure ?_)
  refine wpAny_bind (wpAny_bind (wpAny_setEntries_of hD rfl (fitsF b) (wpAny_pure ?_)))
  refine wpAny_bind ?_
  unfold setDrawn
  refine wpAny_bind (wpAny_setState_of hD rfl (fitsF b) ?_)
  unfold setsByText
  refine wpAny_bind (wpAny_bind (wpAny_askSetting (wpAny_pure ?_)))
  refine wpAny_pure ?_
  rw [if_neg (by show ¬ ((!w.params.followText "set-order" && _) = true); cases w.params.followText "set-order" <;> cases b <;> decide +kernel)]
  refine wpAny_bind (wpAny_pure ?_)
  refine wpAny_bind (wpAny_setEpoch_of hD rfl (fitsF b) ?_)
  refine wpAny_bind ?_
  unfold newFields
  refine wpAny_newObj_type ?_
  refine wpAny_pure ⟨_, rfl, "set_iterator", _, ⟨_, Heap.get?_push_size _ rfl, rfl⟩, SF.slot_next.lookup, h⟩
noncomputable def nxtS (w : World) : Nat := if w.params.followText "set-order" = true then 0 else 1
theorem set_nextA {D : Addr} {Q : Option (Value × Nat) → Shared → Prop} (hD : s.heap.get? D = some (setF (!w.params.followText "set-order"))) (h : Q (some (.bool false, nxtS w)) s) :
    wpAny (model prog w) A (setNext D 0 0 1) Q E s := by
  unfold nxtS at h
  unfold setNext
  refine wpAny_bind (wpAny_setState_of hD rfl (fitsF _) ?_)
  unfold setsByText
  refine wpAny_bind (wpAny_bind (wpAny_askSetting (wpAny_pure ?_)))
  show wpAny _ _ (if w.params.followText "set-order" = true then _ else _) _ _ _
  cases hb : w.params.followText "set-order" with
  | true =>
    rw [hb] at h hD
    rw [if_pos rfl]
    rw [if_neg (by decide)]
    unfold setWalk
    refine wpAny_bind (wpAny_bind (wpAny_setState_of hD rfl (fitsF _) ?_))
    unfold setsByText
    refine wpAny_bind (wpAny_bind (wpAny_askSetting (wpAny_pure ?_)))
    show wpAny _ _ (if w.params.followText "set-order" = true then _ else _) _ _ _
    rw [if_pos hb]
    refine wpAny_bind (wpAny_askSetting (wpAny_pure ?_))
    rw [pick_one]
    exact wpAny_pure h
  | false =>
    rw [hb] at h
    rw [if_neg (by decide)]
    rw [if_neg (by decide +kernel)]
    refine wpAny_bind ?_
    show wpAny _ _ (if _ = true then _ else _) _ _ _
    rw [if_neg (by decide +kernel)]
    refine wpAny_pure ?_
    exact wpAny_pure h
theorem set_nextB {D : Addr} {Q : Option (Value × Nat) → Shared → Prop} (hD : s.heap.get? D = some (setF (!w.params.followText "set-order"))) (h : Q none s) :
    wpAny (model prog w) A (setNext D (nxtS w) 1 1) Q E s := by
  unfold nxtS
  unfold setNext
  refine wpAny_bind (wpAny_setState_of hD rfl (fitsF _) ?_)
  unfold setsByText
  refine wpAny_bind (wpAny_bind (wpAny_askSetting (wpAny_pure ?_)))
  show wpAny _ _ (if w.params.followText "set-order" = true then _ else _) _ _ _
  cases hb : w.params.followText "set-order" with
  | true =>
    rw [hb] at hD
    rw [if_pos rfl]
    rw [if_neg (by decide)]
    unfold setWalk
    refine wpAny_bind (wpAny_bind (wpAny_setState_of hD rfl (fitsF _) ?_))
    unfold setsByText
    refine wpAny_bind (wpAny_bind (wpAny_askSetting (wpAny_pure ?_)))
    show wpAny _ _ (if w.params.followText "set-order" = true then _ else _) _ _ _
    rw [if_pos hb]
    refine wpAny_bind (wpAny_askSetting (wpAny_pure ?_))
    rw [pick_one]
    exact wpAny_pure h
  | false =>
    rw [if_neg (by decide)]
    rw [if_neg (by decide +kernel)]
    refine wpAny_bind ?_
    show wpAny _ _ (if _ = true then _ else _) _ _ _
    rw [if_neg (by decide +kernel)]
    refine wpAny_pure ?_
    exact wpAny_pure h
theorem set_next_item {it D : Addr} {Q : Option Value → Shared → Prop} (hit : s.heap.get? it = some (sitObj 0 0 (.ref D))) (hD : s.heap.get? D = some (setF (!w.params.followText "set-order")))
    (h : ∀ h', h'.get? it = some (sitObj (nxtS w) 1 (.ref D)) → (∀ b o, b ≠ it → s.heap.get? b = some o → h'.get? b = some o) → Q (some (.bool false)) { s with heap := h' }) :
    wpAny (model prog w) A (pyNext (.ref it)) Q E s := by
  have hT : s.TypeIs (.ref it) "set_iterator" := ⟨_, hit, rfl⟩
  unfold pyNext
  refine wpAny_bind (wpAny_attempt (wpAny_callSpecial?_slot (name := Str.ofString "__next__") hT SF.slot_next
    (wpAny_call_entry SF.slot_next hT SF.entry_next ?_ (SF.args_next _))))
  show wpAny _ A.in1 (fieldsOf (.ref it) >>= _) _ _ s
  refine wpAny_bind (wpAny_fieldsOf hit rfl ?_)
  show wpAny _ _ (setEntries D >>= _) _ _ _
  refine wpAny_bind (wpAny_setEntries_of hD rfl (fitsF _) ?_)
  rw [if_neg (by decide)]
  show wpAny _ _ (setNext D 0 0 1 >>= _) _ _ _
  refine wpAny_bind (set_nextA hD ?_)
  dsimp only
  refine wpAny_bind (wpAny_setField_rec hit (by simp) fun h₁ hit₁ hs₁ => ?_)
  refine wpAny_bind (wpAny_setField_rec hit₁ (by simp) fun h₂ hit₂ hs₂ => ?_)
  refine wpAny_pure ⟨_, rfl, wpAny_pure ?_⟩
  exact h h₂ hit₂ fun b o hb e => hs₂.extBut b o hb (hs₁.extBut b o hb e)
theorem set_next_end {it D : Addr} {Q : Option Value → Shared → Prop} (hh : A.handled = none) (hit : s.heap.get? it = some (sitObj (nxtS w) 1 (.ref D))) (hD : s.heap.get? D = some (setF (!w.params.followText "set-order")))
    (h : ∀ h', (∀ b o, b ≠ it → s.heap.get? b = some o → h'.get? b = some o) → Q none { s with heap := h' }) :
    wpAny (model prog w) A (pyNext (.ref it)) Q E s := by
  have hT : s.TypeIs (.ref it) "set_iterator" := ⟨_, hit, rfl⟩
  unfold pyNext
  refine wpAny_bind (wpAny_attempt (wpAny_callSpecial?_slot (name := Str.ofString "__next__") hT SF.slot_next
    (wpAny_call_entry SF.slot_next hT SF.entry_next ?_ (SF.args_next _))))
  show wpAny _ A.in1 (fieldsOf (.ref it) >>= _) _ _ s
  refine wpAny_bind (wpAny_fieldsOf hit rfl ?_)
  show wpAny _ _ (setEntries D >>= _) _ _ _
  refine wpAny_bind (wpAny_setEntries_of hD rfl (fitsF _) ?_)
  rw [if_neg (by decide)]
  show wpAny _ _ (setNext D (nxtS w) 1 1 >>= _) _ _ _
  refine wpAny_bind (set_nextB hD ?_)
  dsimp only
  refine wpAny_bind (wpAny_setField_rec hit (by simp) fun h₁ hit₁ hs₁ => ?_)
  show wpAny _ A.in1 (newExc (.type "StopIteration") [] >>= _) _ _ _
  refine wpAny_bind ?_
  simp only [newExc, newTuple]
  refine wpAny_bind (wpAny_newObj_type ?_ (by size_fits))
  refine wpAny_bind (m := firstArgMember _ _) (wpAny_of_eq (a := Value.none) (by first | rfl | (simp only [firstArgMember]; rfl)) ?_)
  refine wpAny_newObj_type ?_ (by size_fits)
  simp only [raiseNew]
  refine wpAny_bind (wpAny_handled ?_)
  first | rw [show A.in1.handled = none from hh] | rw [hh]
  refine wpAny_throw ?_
  refine wpAny_bind (wpAny_isInstance (T := "StopIteration") (b := true) ⟨_, Heap.get?_push_size _ rfl, rfl⟩ isSubtype_stop ?_)
  exact wpAny_pure (h _ fun b o hb e => Heap.get?_push_of_some _ (Heap.get?_push_of_some _ (hs₁.extBut b o hb e)))
theorem assign_setF {E : Value → Shared → Prop} {x : Str} {px pos : Pos} {k} {D : Addr} {o : Obj} {Q : Unit → Shared → Prop} (hh : A.handled = none) (F₀ : Fr h₀ L s.heap m) (N : News h₀ L s.heap news) (hm : (D, o) ∈ news) (ho : IsSetF w o) (hL : env.locals = L)
    (hx : env.kindOf x = some .local) (hp : (env.scope.kind == .class || (env.scope.kind == .module && env.locals != env.globals)) = false)
    (h : ∀ h' tk', Fr h₀ L h' (fun y => if y = x then some (.bool false) else m y) → News h₀ L h' news → Q () { s with heap := h', toks := tk' }) :
    wpAny (model prog w) A (assign (.Tuple [.Name x px] k pos) env (.ref D)) Q E s := by
  subst hL
  have hD : s.heap.get? D = some (setF (!w.params.followText "set-order")) := by
    have := (N _ hm).1
    rw [show o = _ from ho] at this
    exact this
  have hDlt : @LT.lt Nat _ D s.heap.objs.size := Heap.lt_size hD
  have hT : s.TypeIs (.ref D) "set" := ⟨_, hD, rfl⟩
  show wpAny _ A (standAt pos >>= fun _ => unpack (.ref D) [(false, assign (.Name x px) env)]) _ _ _
  refine wpAny_bind (wpAny_standAt ?_)
  unfold unpack
  refine wpAny_bind (wpAny_holding ?_)
  show wpAny _ A (unpackItems (.ref D) 1 none) _ _ _
  unfold unpackItems
  refine wpAny_bind ?_
  unfold notIterableAtAll
  refine wpAny_bind (wpAny_specialOf hT F.slot_set_iter.lookup ?_)
  rw [if_pos (show (some (Value.builtin "set.__iter__")).isSome = true from rfl)]
  refine wpAny_pure ?_
  dsimp only
  rw [if_neg (by decide)]
  refine wpAny_bind (wpAny_holding (set_pyIter hD ?_))
  have hit0 : (s.heap.push (sitObj 0 0 (.ref D))).get? s.heap.objs.size = some (sitObj 0 0 (.ref D)) := Heap.get?_push_size _ rfl
  have hD0 : (s.heap.push (sitObj 0 0 (.ref D))).get? D = some (setF (!w.params.followText "set-order")) := Heap.get?_push_of_some _ hD
  refine wpAny_bind (wpAny_holding ?_)
  show wpAny _ A (draw (.ref s.heap.objs.size) (0 + 1)) _ _ _
  unfold draw
  refine wpAny_bind (set_next_item hit0 hD0 fun h₁ hit₁ hk₁ => ?_)
  have hD1 : h₁.get? D = some (setF (!w.params.followText "set-order")) := hk₁ _ _ (Nat.ne_of_lt hDlt) hD0
  refine wpAny_bind (wpAny_holding ?_)
  unfold draw
  refine wpAny_pure (wpAny_pure ?_)
  rw [if_neg (by decide)]
  refine wpAny_bind (wpAny_holding (set_next_end hh hit₁ hD1 fun h₂ hk₂ => ?_))
  rw [if_neg (by decide)]
  refine wpAny_pure ?_
  have old : ∀ b o, s.heap.get? b = some o → h₂.get? b = some o := fun b o e => by
    have hb : b ≠ s.heap.objs.size := Nat.ne_of_lt (Heap.lt_size e)
    exact hk₂ b o hb (hk₁ b o hb (Heap.get?_push_of_some _ e))
  show wpAny _ A (do holding [] (assign (.Name x px) env (.bool false)); pure ()) _ _ _
  refine wpAny_bind (wpAny_holding ?_)
  refine wpAny_assign_Name (wpAny_storeName_local hx (F₀.keeps old).ns (fun h₃ hn₃ hs₃ => wpAny_pure ?_) hp)
  exact h h₃ _ ((F₀.keeps old).set hn₃ hs₃) ((N.grown old).set hs₃)
end
end Mine
end

-- part K3
section
open PySem PySem.W PyProof.Rows PySem.Calls
set_option Elab.async false
set_option maxRecDepth 100000
set_option maxHeartbeats 8000000
set_option linter.unusedVariables false
namespace Mine

/-- a set comprehension over a tuple of the ledger, each element False -/
noncomputable def SrcSet (prog : Program) (w : World) (A : Around) (h₀ : Heap) (L : Addr) (m : Str → Option Value) (env : Env) (elt : Expr) (x : Str) (scope : Scope) (cl : List (Str × Addr)) (Q : Value → Shared → Prop) (xv : Value) (s₁ : Shared) : Prop :=
  ∃ ax its news, xv = .ref ax ∧ A.handled = none ∧ Fr h₀ L s₁.heap m ∧ News h₀ L s₁.heap news ∧ (ax, tupObj its) ∈ news ∧ its.size ≤ sizeLine ∧ 0 < its.size ∧
    (∀ (i : Nat) v I oI C oC D oD m₂ h tk (g : Heap) (E' : Value → Shared → Prop), its[i]? = some v → LCg.NsObj oC m₂ → m₂ x = some v → Fr h₀ L h m → News h₀ L h ((I, oI) :: (C, oC) :: (D, oD) :: news) → LCg.Off3 I C D news → ((@Ne Nat I C) ∧ (@Ne Nat I D) ∧ (@Ne Nat C D)) →
      wpAny (model prog w) A (eval elt (compEnvC scope cl C env)) (LCg.CompEnd h₀ L m { s₁ with heap := h, toks := tk } I oI C oC D oD (fun _ => True) (fun y news' => news' = news ∧ y = .bool false)) E' { ({ s₁ with heap := g } : Shared) with heap := h, toks := tk }) ∧
    ∀ D o h tk, IsSetF w o → Fr h₀ L h m → News h₀ L h ((D, o) :: news) → (∀ p ∈ news, p.1 < D) → Q (.ref D) { s₁ with heap := h, toks := tk }
section
variable {prog : Program} {w : World} {A : Around} {h₀ : Heap} {L : Addr} {m : Str → Option Value} {env : Env} {s : Shared} {news : List (Addr × Obj)}
theorem compTurn_set (elt target iter : Expr) (scope : Scope) (pos : Pos) (it acc : Value) (env : Env) :
    compTurn (.SetComp elt [⟨target, iter, [], 0⟩] scope pos) 0 it acc env = (standAt iter.pos >>= fun _ => pyNext it >>= fun r => match r with
      | none => pure (.done .next)
      | some v => letOwnedTupleGo target it v >>= fun _ => assign target env v >>= fun _ =>
        (eval elt env >>= fun y => standAt elt.pos >>= fun _ => call (.builtin "set.add") [acc, y] >>= fun _ => pure ()) >>= fun _ =>
          again (.compLoop (.SetComp elt [⟨target, iter, [], 0⟩] scope pos) 0 it acc env)) := by rfl
theorem setLoop {R : Result → Shared → Prop} {elt target iter : Expr} {scope : Scope} {pos : Pos} {it acc : Value} {env : Env} (I : Nat → Shared → Prop)
    (turn : ∀ n s, I n s → wpAny (model prog w) A (pyNext it) (fun r s₁ => match r with
      | none => R (.ok .next) s₁
      | some v => wpAny (model prog w) A (assign target env v) (fun _ s₂ => wpAny (model prog w) A (eval elt env) (fun y s₃ =>
          wpAny (model prog w) A (call (.builtin "set.add") [acc, y]) (fun _ s₄ => ∃ m, m < n ∧ I m s₄) (fun _ _ => False) s₃) (fun _ _ => False) s₂) (fun _ _ => False) s₁) (fun _ _ => False) s)
    (n : Nat) (h : I n s) (ht : ∀ v, letOwnedTupleGo target it v = pure () := by intro _; rfl) :
    codeAny (model prog w) A (.compLoop (.SetComp elt [⟨target, iter, [], 0⟩] scope pos) 0 it acc env) R s := by
  refine codeAny_loop rfl I (fun n s hI => ?_) n h
  show wpAny _ A ((compTurn (.SetComp elt [⟨target, iter, [], 0⟩] scope pos) 0 it acc env).onRaise (fun x => do noteFrame x env; theTreesLotGoes x)) _ _ s
  refine wpAny_noted ?_
  rw [compTurn_set]
  refine wpAny_bind (wpAny_standAt (wpAny_bind (wpAny_mono (turn n s hI) (fun r s₁ h₁ => ?_) fun _ _ h' => h'.elim)))
  cases r with
  | none => exact wpAny_pure h₁
  | some v =>
    refine wpAny_bind (wpAny_of_eq (ht v) ?_)
    refine wpAny_bind (wpAny_mono h₁ (fun _ s₂ h₂ => ?_) fun _ _ h' => h'.elim)
    exact wpAny_bind (wpAny_bind (wpAny_mono h₂ (fun y s₃ h₃ => wpAny_bind (wpAny_standAt (wpAny_bind (wpAny_mono h₃ (fun _ s₄ h₄ => wpAny_pure (wpAny_pure ⟨rfl, h₄⟩)) fun _ _ h' => h'.elim)))) fun _ _ h' => h'.elim))
theorem setStart {R : Result → Shared → Prop} {elt target iter : Expr} {scope : Scope} {pos : Pos} {it acc : Value} {env : Env}
    (h0 : codeAny (model prog w) A (.compLoop (.SetComp elt [⟨target, iter, [], 0⟩] scope pos) 0 it acc env) R s)
    (h : wpAny (model prog w) A (pyIter it) (fun it' s' => codeAny (model prog w) A (.compLoop (.SetComp elt [⟨target, iter, [], 0⟩] scope pos) 0 it' acc env) R s') (fun _ _ => False) s) :
    codeAny (model prog w) A (.compStart (.SetComp elt [⟨target, iter, [], 0⟩] scope pos) 0 it acc env) R s := by
  refine codeAny_of_tree ?_
  show wpAny _ _ ((compStart (.SetComp elt [⟨target, iter, [], 0⟩] scope pos) 0 it acc env).onRaise (fun x => do noteFrame x env; standAt theWindowsPlace)) _ _ s
  refine wpAny_notedAt ?_
  unfold compStart
  show wpAny _ _ (ask >>= _) _ _ s
  refine wpAny_bind (wpAny_askSetting (wpAny_ite ?_))
  split
  · first
      | exact wpAny_bind (wpAny_pure (wpAny_pure (And.intro rfl h0)))
      | exact wpAny_pure (And.intro rfl h0)
  · first
      | exact wpAny_bind (wpAny_rule (wpAny_bind (wpAny_standAt (wpAny_bind (wpAny_mono h (fun it' s' h' => wpAny_pure (And.intro rfl h')) fun _ _ x => x.elim)))))
      | (refine wpAny_bind (wpAny_rule ?_); show wpAny _ _ (standAt iter.pos >>= _) _ _ s; exact wpAny_bind (wpAny_standAt (wpAny_bind (wpAny_mono h (fun it' s' h' => wpAny_pure (And.intro rfl h')) fun _ _ x => x.elim))))
theorem SetComp_F {E : Value → Shared → Prop} {elt iter : Expr} {x : Str} {px : Pos} {scope : Scope} {cl : List (Str × Addr)} {pos : Pos} {Q : Value → Shared → Prop} (F₀ : Fr h₀ L s.heap m)
    (hclos : closureFor scope env = pure cl) (hcell : ∀ y ∈ scope.names, y.2 ≠ .cell) (hkind : scope.kind = .function)
    (hnames : ∀ y ∈ scope.names, y.2 = .local → scope.names.lookup y.1 = some .local) (hx : scope.names.lookup x = some .local)
    (h : wpAny (model prog w) A (eval iter env) (fun xv s₁ => Stop (SrcSet prog w A h₀ L m env elt x scope cl Q xv s₁)) E s)
    (hs : ∀ x, foldedSetIterable iter env x = pure x := by intro _; rfl) :
    wpAny (model prog w) A (eval (.SetComp elt [⟨.Name x px, iter, [], 0⟩] scope pos) env) Q E s := by
  rw [show eval (.SetComp elt [⟨.Name x px, iter, [], 0⟩] scope pos) env = comprehension (.SetComp elt [⟨.Name x px, iter, [], 0⟩] scope pos) scope env (firstIterPos [⟨.Name x px, iter, [], 0⟩] pos) (newSet (.type "set")) (firstAsync [⟨.Name x px, iter, [], 0⟩]) (firstIter [⟨.Name x px, iter, [], 0⟩] env) from arm_eval_SetComp _ _ _ _ _]
  refine wpAny_comprehension_free (use := none) rfl hs hclos hkind hnames (wpAny_mono h (fun xv s₁ h₁ => ?_) fun _ _ e => e)
  obtain ⟨ax, its, news, rfl, hh, F, N, hm, hsz, hpos, step, fin⟩ := h₁
  have hl : s₁.heap.IsTuple ax its := ⟨_, (N _ hm).1, rfl, _, rfl⟩
  have hlt : @LT.lt Nat _ ax s₁.heap.objs.size := Heap.lt_size (N _ hm).1
  refine wpAny_pyIter_tuple hl ?_
  unfold newSet setsByText
  refine wpAny_bind (wpAny_bind (wpAny_askSetting (wpAny_pure ?_)))
  simp only [newObj]
  refine wpAny_bind (wpAny_alloc (wpAny_pure ?_))
  refine wpAny_newFunctionEnv hcell (by intro y hy; simp at hy) (fun h₁ hns₁ hsb₁ => ?_) hkind
  dsimp only at hns₁ hsb₁ ⊢
  have eb : (SetTable.fresh 0 0 !(model prog w).w.params.followText "set-order") = SetTable.fresh 0 0 (!w.params.followText "set-order") := rfl
  rw [eb] at hns₁ hsb₁ ⊢
  generalize hbt : (!w.params.followText "set-order") = bt at hns₁ hsb₁ ⊢
  generalize hH1 : s₁.heap.push { cls := .type "tuple_iterator", data := .fields #[.ref ax, .int 0 0] } = H1 at hns₁ hsb₁ ⊢
  have hS1 : @Eq Nat H1.objs.size (s₁.heap.objs.size + 1) := by rw [← hH1]; exact Heap.size_push ..
  have hI1 : H1.get? s₁.heap.objs.size = some { cls := .type "tuple_iterator", data := .fields #[.ref ax, .int 0 0] } := by rw [← hH1]; exact Heap.get?_push_size _ rfl
  have up1 : ∀ b o, s₁.heap.get? b = some o → H1.get? b = some o := fun b o e => by rw [← hH1]; exact Heap.get?_push_of_some _ e
  generalize hH2 : H1.push { cls := .type "set", dict := none, data := .set #[] 0 (.fresh 0 0 bt) } = H2 at hns₁ hsb₁ ⊢
  have hS2 : @Eq Nat H2.objs.size (H1.objs.size + 1) := by rw [← hH2]; exact Heap.size_push ..
  have up2 : ∀ b o, H1.get? b = some o → H2.get? b = some o := fun b o e => by rw [← hH2]; exact Heap.get?_push_of_some _ e
  have hD2 : H2.get? H1.objs.size = some (setE bt) := by rw [← hH2]; exact Heap.get?_push_size _ rfl
  have hIi := hI1
  generalize hIe : s₁.heap.objs.size = I at *
  generalize hDe : H1.objs.size = D at *
  generalize hCe : H2.objs.size = C at *
  have nID : @Ne Nat I D := by omega
  have nIC : @Ne Nat I C := by omega
  have nCD : @Ne Nat C D := by omega
  have old : ∀ b o, b ≠ C → H2.get? b = some o → h₁.get? b = some o := fun b o hb e => hsb₁.extBut b o hb (Heap.get?_push_of_some _ e)
  have lt2 : ∀ b o, s₁.heap.get? b = some o → @LT.lt Nat _ b I := fun b o e => hIe ▸ Heap.lt_size e
  have oldS : ∀ b o, s₁.heap.get? b = some o → h₁.get? b = some o := fun b o e => old b o (by have := lt2 b o e; show @Ne Nat b C; omega) (up2 _ _ (up1 _ _ e))
  have fresh : ∀ b : Nat, I ≤ b → h₀.get? b = none := fun b hb => by
    cases e : h₀.get? b with
    | none => rfl
    | some o => exact absurd (lt2 b o (F.keep b o e)) (by omega)
  have hLlt : @LT.lt Nat _ L I := hIe ▸ F.ns.lt
  have hI₀ := fresh I (Nat.le_refl _)
  have hD₀ := fresh D (by omega)
  have hC₀ := fresh C (by omega)
  have hIL : I ≠ L := by show @Ne Nat I L; omega
  have hDL : D ≠ L := by show @Ne Nat D L; omega
  have hCL : C ≠ L := by show @Ne Nat C L; omega
  have offN : ∀ p ∈ news, p.1 ≠ I ∧ p.1 ≠ C ∧ p.1 ≠ D := fun p hp => by
    have := lt2 _ _ (N p hp).1
    refine ⟨?_, ?_, ?_⟩
    · show @Ne Nat p.1 I; omega
    · show @Ne Nat p.1 C; omega
    · show @Ne Nat p.1 D; omega
  have axI : @Ne Nat ax I := Nat.ne_of_lt hlt
  have W := Walks.tuple (prog := prog) (w := w) (A := A) hh I ax axI its
  have loop : ∀ s₃ : Shared, s₃ = { s₁ with heap := h₁, toks := s₁.toks + ([] : List (Str × Value)).length } →
      codeAny (model prog w) A (.compLoop (.SetComp elt [⟨.Name x px, iter, [], 0⟩] scope pos) 0 (.ref I) (.ref D) (compEnvC scope cl C env)) (compPost (model prog w) A E none Q (.ref D) C) s₃ := by
    rintro s₃ rfl
    obtain ⟨oC, hoC, hnC⟩ := LCg.ns_obj hns₁
    refine setLoop
      (fun k s' => ∃ i h' tk oI oC mC, s' = { s₁ with heap := h', toks := tk } ∧ i ≤ its.size ∧ k = its.size + 1 - i ∧ oI.cls = .type "tuple_iterator" ∧ oI.data = .fields #[.ref ax, .int i 0] ∧ Fr h₀ L h' m ∧ LCg.NsObj oC mC ∧
        News h₀ L h' ((I, oI) :: (C, oC) :: (D, if i = 0 then setE bt else setF bt) :: news)) ?_ (its.size + 1)
      ⟨0, h₁, _, { cls := .type "tuple_iterator", data := .fields #[.ref ax, .int 0 0] }, oC, _, rfl, Nat.zero_le _, rfl, rfl, rfl, F.keeps oldS, hnC, ?_⟩
    · rintro k s' ⟨i, h', tk, oI, oC, mC, rfl, hi, rfl, hc, hdt, F', hnC, N'⟩
      have hst : h'.IsTupleIter I ax i ∧ h'.IsTuple ax its := ⟨⟨oI, (N' _ (.head _)).1, hc, hdt⟩, ⟨_, (N' _ (.tail _ (.tail _ (.tail _ hm)))).1, rfl, _, rfl⟩⟩
      by_cases hlti : i < its.size
      · refine W.item i _ _ _ hlti hst fun v h₂ tk₂ hv hst₂ hk₂ => ?_
        obtain ⟨⟨oI₂, hoI₂, hc₂, hd₂⟩, _⟩ := hst₂
        have keep₂ : ∀ q ∈ (C, oC) :: (D, if i = 0 then setE bt else setF bt) :: news, h₂.get? q.1 = some q.2 := fun q hq => hk₂ _ _ (fun hm' => by
          have := List.mem_singleton.mp hm'
          rcases List.mem_cons.mp hq with rfl | hq
          · exact nIC this.symm
          rcases List.mem_cons.mp hq with rfl | hq
          · exact nID this.symm
          · exact (offN q hq).1 this) (N' q (.tail _ hq)).1
        have F₂ : Fr h₀ L h₂ m := Fr.but (wr := [I]) F' hk₂ (fun q => hIL (List.mem_singleton.mp q).symm) (fun b hb => by rw [List.mem_singleton.mp hb]; exact hI₀)
        have ns₂ : h₂.Ns C mC := hnC.ns (keep₂ _ (.head _))
        have hpc : ((compEnvC scope cl C env).scope.kind == .class || ((compEnvC scope cl C env).scope.kind == .module && (compEnvC scope cl C env).locals != (compEnvC scope cl C env).globals)) = false := by simp [compEnvC, relabel, hkind]
        refine wpAny_assign_Name (wpAny_storeName_local (lookup_relabel_local hx) ns₂ (fun h₃ hn₃ hs₃ => ?_) hpc)
        obtain ⟨oC₃, hoC₃, hnC₃⟩ := LCg.ns_obj hn₃
        have F₃ : Fr h₀ L h₃ m := F₂.change hs₃ hCL hC₀
        have N₃ : News h₀ L h₃ ((I, oI₂) :: (C, oC₃) :: (D, if i = 0 then setE bt else setF bt) :: news) := by
          intro q hq
          rcases List.mem_cons.mp hq with rfl | hq
          · exact ⟨hs₃.extBut _ _ nIC hoI₂, hIL, hI₀⟩
          rcases List.mem_cons.mp hq with rfl | hq
          · exact ⟨hoC₃, hCL, hC₀⟩
          rcases List.mem_cons.mp hq with rfl | hq
          · exact ⟨hs₃.extBut _ _ (Ne.symm nCD) (keep₂ _ (.tail _ (.head _))), hDL, hD₀⟩
          · exact ⟨hs₃.extBut _ _ (offN q hq).2.1 (keep₂ _ (.tail _ (.tail _ hq))), (N q hq).2⟩
        refine wpAny_mono (step i v I oI₂ C oC₃ D _ _ h₃ _ s₁.heap _ hv hnC₃ (by simp) F₃ N₃ (LCg.Off3.of offN) ⟨nIC, nID, nCD⟩) (fun y s₄ hy => ?_) fun _ _ e => e
        obtain ⟨h₄, tk₄, news₄, rfl, F₄, N₄, _, _, rfl, rfl⟩ := hy
        have hD₄ := (N₄ _ (.tail _ (.tail _ (.head _)))).1
        have hI₄ := (N₄ _ (.head _)).1
        have hC₄ := (N₄ _ (.tail _ (.head _))).1
        by_cases hi0 : i = 0
        · subst hi0
          refine call_add hD₄ rfl (add_first hD₄ ?_)
          refine ⟨its.size + 1 - 1, by omega, 1, _, _, oI₂, oC₃, _, rfl, hlti, rfl, hc₂, hd₂, Fr.but (wr := [D]) F₄ (fun b o hb q => (Heap.get?_update_other _ _ (fun e : D = b => hb (by rw [← e]; exact List.mem_singleton.mpr rfl))).trans q) (fun q => hDL (List.mem_singleton.mp q).symm) (fun b hb => by rw [List.mem_singleton.mp hb]; exact hD₀), hnC₃, ?_⟩
          intro q hq
          rcases List.mem_cons.mp hq with rfl | hq
          · exact ⟨(Heap.get?_update_other _ _ (Ne.symm nID)).trans hI₄, hIL, hI₀⟩
          rcases List.mem_cons.mp hq with rfl | hq
          · exact ⟨(Heap.get?_update_other _ _ (Ne.symm nCD)).trans hC₄, hCL, hC₀⟩
          rcases List.mem_cons.mp hq with rfl | hq
          · exact ⟨Heap.get?_update_self (Obj.putSet #[(0, .bool false)] (tF bt)) hD₄ rfl, hDL, hD₀⟩
          · exact ⟨(Heap.get?_update_other _ _ (Ne.symm (offN q hq).2.2)).trans (N₄ q (.tail _ (.tail _ (.tail _ hq)))).1, (N q hq).2⟩
        · have e0 : (if i = 0 then setE bt else setF bt) = setF bt := if_neg hi0
          have e1 : (if i + 1 = 0 then setE bt else setF bt) = setF bt := if_neg (by omega)
          rw [e0] at hD₄ N₄
          refine call_add hD₄ rfl (add_again hD₄ ?_)
          refine ⟨its.size + 1 - (i + 1), by omega, i + 1, _, _, oI₂, oC₃, _, rfl, hlti, rfl, hc₂, hd₂, F₄, hnC₃, ?_⟩
          rw [e1]
          exact N₄
      · obtain rfl : i = its.size := Nat.le_antisymm hi (Nat.not_lt.mp hlti)
        refine W.done _ _ _ hst fun h₂ tk₂ hk₂ => ?_
        have F₂ : Fr h₀ L h₂ m := Fr.but (wr := [I]) F' hk₂ (fun q => hIL (List.mem_singleton.mp q).symm) (fun b hb => by rw [List.mem_singleton.mp hb]; exact hI₀)
        have keep₂ : ∀ q ∈ (C, oC) :: (D, setF bt) :: news, h₂.get? q.1 = some q.2 ∧ q.1 ≠ L ∧ h₀.get? q.1 = none := fun q hq => by
          have e0 : (if its.size = 0 then setE bt else setF bt) = setF bt := if_neg (by omega)
          rw [e0] at N'
          refine ⟨hk₂ _ _ (fun hm' => ?_) (N' q (.tail _ hq)).1, (N' q (.tail _ hq)).2⟩
          have := List.mem_singleton.mp hm'
          rcases List.mem_cons.mp hq with rfl | hq
          · exact nIC this.symm
          rcases List.mem_cons.mp hq with rfl | hq
          · exact nID this.symm
          · exact (offN q hq).1 this
        refine ⟨mC, hnC.ns (keep₂ _ (.head _)).1, fun h'' hs'' => ?_⟩
        refine fin D (setF bt) h'' tk₂ (by rw [← hbt]; rfl) (F₂.change hs'' hCL hC₀) ?_ ?_
        · intro q hq
          rcases List.mem_cons.mp hq with rfl | hq
          · exact ⟨hs''.extBut _ _ (Ne.symm nCD) (keep₂ _ (.tail _ (.head _))).1, hDL, hD₀⟩
          · exact ⟨hs''.extBut _ _ (offN q hq).2.1 (keep₂ _ (.tail _ (.tail _ hq))).1, (N q hq).2⟩
        · intro p hp
          have := lt2 _ _ (N p hp).1
          show @LT.lt Nat _ p.1 D
          omega
    · intro q hq
      rcases List.mem_cons.mp hq with rfl | hq
      · exact ⟨old _ _ nIC (up2 _ _ hIi), hIL, hI₀⟩
      rcases List.mem_cons.mp hq with rfl | hq
      · exact ⟨hoC, hCL, hC₀⟩
      rcases List.mem_cons.mp hq with rfl | hq
      · exact ⟨old _ _ (Ne.symm nCD) hD2, hDL, hD₀⟩
      · exact ⟨oldS _ _ (N q hq).1, (N q hq).2⟩
  have hst0 : h₁.IsTupleIter I ax 0 ∧ h₁.IsTuple ax its := ⟨⟨_, old _ _ nIC (up2 _ _ hIi), rfl, rfl⟩, ⟨_, oldS _ _ (N _ hm).1, rfl, _, rfl⟩⟩
  exact setStart (loop _ rfl) (W.self 0 _ _ _ hst0 (loop _ rfl))
end
end Mine
end

-- part K4
section
open PySem PySem.W PyProof.Rows PySem.Calls
set_option Elab.async false
set_option maxRecDepth 100000
set_option maxHeartbeats 8000000
set_option linter.unusedVariables false
namespace Mine

section
variable {prog : Program} {w : World} {A : Around} {h₀ : Heap} {L : Addr} {m : Str → Option Value} {env : Env} {s : Shared} {news : List (Addr × Obj)}
theorem assign_comp_stop {E : Value → Shared → Prop} {elt iter : Expr} {x y : Str} {px py : Pos} {scope : Scope} {cl : List (Str × Addr)} {pos spos : Pos} {Q : Flow → Shared → Prop} (F₀ : Fr h₀ L s.heap m) (hLe : env.locals = L)
    (hsw : swapsWith (.ListComp elt [⟨.Name x px, iter, [], 0⟩] scope pos) (some (.Name y py)) spos.line env = pure true)
    (hclos : closureFor scope env = pure cl) (hcell : ∀ z ∈ scope.names, z.2 ≠ .cell) (hkind : scope.kind = .function)
    (hnames : ∀ z ∈ scope.names, z.2 = .local → scope.names.lookup z.1 = some .local) (hx : scope.names.lookup x = some .local)
    (hy : env.kindOf y = some .local) (hp : (env.scope.kind == .class || (env.scope.kind == .module && env.locals != env.globals)) = false)
    (h : wpAny (model prog w) A (eval iter env) (fun xv s₁ => Stop (LCg.CompSrc prog w A h₀ L m env elt x scope cl (fun s₂ => LCg.FinA h₀ L m s₂ y Q) xv s₁)) E s)
    (hs : ∀ x, foldedSetIterable iter env x = pure x := by intro _; rfl) :
    wpAny (model prog w) A (exec (.Assign [.Name y py] (.ListComp elt [⟨.Name x px, iter, [], 0⟩] scope pos) spos) env) Q E s := LCg.Assign_ListComp_U F₀ hLe hsw hclos hcell hkind hnames hx hy hp h hs
theorem test_comp_stop {E : Value → Shared → Prop} {ct elt iter : Expr} {x : Str} {px : Pos} {scope : Scope} {cl : List (Str × Addr)} {pos : Pos} {Q : Value → Shared → Prop} (F₀ : Fr h₀ L s.heap m)
    (hclos : closureFor scope env = pure cl) (hcell : ∀ y ∈ scope.names, y.2 ≠ .cell) (hkind : scope.kind = .function)
    (hnames : ∀ y ∈ scope.names, y.2 = .local → scope.names.lookup y.1 = some .local) (hx : scope.names.lookup x = some .local)
    (h : wpAny (model prog w) A (eval iter env) (fun xv s₁ => Stop (LCt.CompSrcT prog w A h₀ L m env ct elt x scope cl (fun s₂ => LCg.FinE h₀ L m s₂ Q) xv s₁)) E s)
    (hs : ∀ x, foldedSetIterable iter env x = pure x := by intro _; rfl) :
    wpAny (model prog w) A (eval (.ListComp elt [⟨.Name x px, iter, [ct], 0⟩] scope pos) env) Q E s := LCt.ListComp_T F₀ hclos hcell hkind hnames hx h hs
/-- texts of a ledger's list, all passing the test, each laid as it is -/
theorem rest_all {ct elt : Expr} {x : Str} {scope : Scope} {cl : List (Str × Addr)} {S : List (Addr × Obj) → Prop} {P : Nat → Value → Prop} {Fin : List Value → List (Addr × Obj) → Prop} (us : List Str)
    (hP : ∀ (i : Nat) v, i < us.length → P i v → ∃ u t, us[i]? = some u ∧ v = .str u t)
    (step : ∀ u t I oI C oC D ys m₂ h tk (E' : Value → Shared → Prop), u ∈ us → LCg.NsObj oC m₂ → m₂ x = some (.str u t) → Fr h₀ L h m → News h₀ L h ((I, oI) :: (C, oC) :: (D, LCg.lst ys) :: news) → LCg.Off3 I C D news → ((@Ne Nat I C) ∧ (@Ne Nat I D) ∧ (@Ne Nat C D)) →
      wpAny (model prog w) A (isTrue ct (compEnvC scope cl C env) (eval ct (compEnvC scope cl C env))) (fun ok s' => ok = true ∧
        wpAny (model prog w) A (eval elt (compEnvC scope cl C env)) (LCg.CompEnd h₀ L m { s with heap := h, toks := tk } I oI C oC D (LCg.lst ys) S (fun y news' => news' = news ∧ ∃ t', y = .str u t')) E' s') E' { s with heap := h, toks := tk })
    (fin : ∀ l : List (Str × Tok), l.map (·.1) = us → Fin (strValues l) news) :
    ∀ k i (l : List (Str × Tok)), i + k = us.length → l.map (·.1) = us.take i → LCt.CompRestT prog w A h₀ L m env ct elt x scope cl s S P Fin k i (strValues l) news := by
  intro k
  induction k with
  | zero =>
    intro i l hi hl
    refine LCt.CompRestT.zero (fin l ?_)
    rw [hl, List.take_of_length_le (by omega)]
  | succ k ih =>
    intro i l hi hl
    refine LCt.CompRestT.succ ?_
    intro v I oI C oC D m₂ h tk E' hv hn hm F N off ne
    obtain ⟨u, t, hu, rfl⟩ := hP i v (by omega) hv
    refine wpAny_mono (step u t I oI C oC D (strValues l) m₂ h tk E' (List.mem_of_getElem? hu) hn hm F N off ne) (fun ok s₁ hok => ?_) fun _ _ e => e
    obtain ⟨rfl, hok⟩ := hok
    rw [if_pos rfl]
    refine wpAny_mono hok (fun y s₂ hy => ?_) fun _ _ e => e
    obtain ⟨h', tk', news', rfl, F', N', off', hS, rfl, t', rfl⟩ := hy
    refine ⟨h', tk', news', rfl, F', N', off', hS, ?_⟩
    have := ih (i + 1) (l ++ [(u, t')]) (by omega) (by rw [List.take_add_one, hu, List.map_append, hl]; rfl)
    simpa [strValues] using this
theorem src_all {ct elt : Expr} {x : Str} {scope : Scope} {cl : List (Str × Addr)} {Fin : Shared → List Value → List (Addr × Obj) → Prop} {ax : Addr} {l : List (Str × Tok)} {k : Nat}
    (hh : A.handled = none) (F : Fr h₀ L s.heap m) (N : News h₀ L s.heap news) (hm : (ax, listOf (strValues l).toArray k) ∈ news) (hsz : l.length ≤ 1001)
    (step : ∀ u t I oI C oC D ys m₂ h tk g (E' : Value → Shared → Prop), u ∈ l.map (·.1) → LCg.NsObj oC m₂ → m₂ x = some (.str u t) → Fr h₀ L h m → News h₀ L h ((I, oI) :: (C, oC) :: (D, LCg.lst ys) :: news) → LCg.Off3 I C D news → ((@Ne Nat I C) ∧ (@Ne Nat I D) ∧ (@Ne Nat C D)) →
      wpAny (model prog w) A (isTrue ct (compEnvC scope cl C env) (eval ct (compEnvC scope cl C env))) (fun ok s' => ok = true ∧
        wpAny (model prog w) A (eval elt (compEnvC scope cl C env)) (LCg.CompEnd h₀ L m { s with heap := h, toks := tk } I oI C oC D (LCg.lst ys) (LCg.SrcAt h₀ ax (strValues l).toArray) (fun y news' => news' = news ∧ ∃ t', y = .str u t')) E' s') E' { ({ s with heap := g } : Shared) with heap := h, toks := tk })
    (fin : ∀ g (l' : List (Str × Tok)), l'.map (·.1) = l.map (·.1) → Fin { s with heap := g } (strValues l') news) :
    LCt.CompSrcT prog w A h₀ L m env ct elt x scope cl Fin (.ref ax) s := by
  refine LCt.CompSrcT.ledger hh F N hm ?_ fun g => ?_
  · simp [strValues]
    have : (2000:Nat) ≤ sizeLine := Nat.le_of_ble_eq_true rfl
    omega
  · have := rest_all (prog := prog) (w := w) (A := A) (h₀ := h₀) (L := L) (m := m) (env := env) (s := { s with heap := g }) (news := news) (ct := ct) (elt := elt) (x := x) (scope := scope) (cl := cl) (S := LCg.SrcAt h₀ ax (strValues l).toArray) (P := fun i v => (strValues l).toArray[i]? = some v) (Fin := Fin { s with heap := g }) (l.map (·.1))
      (fun i v hi hv => ?_) (fun u t I oI C oC D ys m₂ h tk E' => step u t I oI C oC D ys m₂ h tk g E') (fun l' hl' => fin g l' hl') l.length 0 [] (by simp) rfl
    · simpa [strValues] using this
    · simp only [List.getElem?_toArray, strValues, List.getElem?_map] at hv
      cases e : l[i]? with
      | none => rw [e] at hv; cases hv
      | some p =>
        rw [e] at hv
        exact ⟨p.1, p.2, by simp [e], by simpa using hv.symm⟩
end
end Mine
end

-- part K5
section
open PySem PySem.W PyProof.Rows PySem.Calls
set_option Elab.async false
set_option maxRecDepth 100000
set_option maxHeartbeats 8000000
set_option linter.unusedVariables false
namespace Mine

/-- how two lists of texts are compared: by the first place where they part, else by their lengths -/
noncomputable def ordS (lt : Str → Str → Bool) (fin : Nat → Nat → Bool) : List Str → List Str → Bool
  | a :: r, b :: t => if a = b then ordS lt fin r t else lt a b
  | l, r => fin l.length r.length
noncomputable def ltS (l r : List Str) : Bool := ordS (fun a b => decide (a.cps.toList < b.cps.toList)) (fun m n => decide (m < n)) l r
noncomputable def gtS (l r : List Str) : Bool := ordS (fun a b => decide (b.cps.toList < a.cps.toList)) (fun m n => decide (m > n)) l r
end Mine
end

-- part K6
section
open PySem PySem.W PyProof.Rows PySem.Calls
set_option Elab.async false
set_option maxRecDepth 100000
set_option maxHeartbeats 8000000
set_option linter.unusedVariables false
namespace Mine

section
variable {prog : Program} {w : World} {A : Around} {E : Value → Shared → Prop} {h₀ : Heap} {L : Addr} {m : Str → Option Value} {env : Env} {s : Shared} {news : List (Addr × Obj)}
noncomputable def EnumPost (h₀ : Heap) (L : Addr) (J : (Str → Option Value) → List (Addr × Obj) → Prop) (cells : List (Addr × Obj)) (s : Shared) (Q : Flow → Shared → Prop) (f : Flow) (s₃ : Shared) : Prop := match f with
  | .next => GTurned h₀ L J cells s s.gens s₃
  | .cont => GTurned h₀ L J cells s s.gens s₃
  | .brk => Q .next s₃
  | .ret v => Q (.ret v) s₃
/-- a loop over enumerate of a list of the ledger -/
theorem enum_loop {xi xv : Str} {pi pv pos : Pos} {kk} {body : List Stmt} {Q : Flow → Shared → Prop} {l : Addr} {its : Array Value} {k : Nat}
    (hh : A.handled = none) (hxi : env.kindOf xi = some .local) (hxv : env.kindOf xv = some .local) (hp : (env.scope.kind == .class || (env.scope.kind == .module && env.locals != env.globals)) = false) (hL : env.locals = L)
    (J : Nat → (Str → Option Value) → List (Addr × Obj) → Prop) (hl : ∀ i m' news', J i m' news' → (l, listOf its k) ∈ news')
    (F : Fr h₀ L s.heap m) (N : News h₀ L s.heap news) (h0 : J 0 m news)
    (turn : ∀ i v ti m' news' h tk cells, its[i]? = some v → J i m' news' → Fr h₀ L h (fun y => if y = xv then some v else if y = xi then some (.int (i : Nat) ti) else m' y) → News h₀ L h (news' ++ cells) → (∀ p ∈ news', ∀ q ∈ cells, p.1 ≠ q.1) →
      wpAny (model prog w) A (execs body env) (EnumPost h₀ L (J (i + 1)) cells s Q) (fun _ _ => False) { s with heap := h, toks := tk })
    (done : ∀ m' news' h tk, J its.size m' news' → Fr h₀ L h m' → News h₀ L h news' → Q .next { s with heap := h, toks := tk }) :
    wpAny (model prog w) A (call (.type "enumerate") [.ref l]) (fun xv' s₁ => wpAny (model prog w) A (pyIter xv') (fun it s₂ => ForAt prog w A (.Tuple [.Name xi pi, .Name xv pv] kk pos) env body Q it s₂) E s₁) E s := by
  have hm := hl _ _ _ h0
  have hls : s.heap.IsList l its := ⟨_, (N _ hm).1, rfl, _, rfl⟩
  have hllt : l < s.heap.objs.size := Heap.lt_size (N _ hm).1
  refine call_enumerate_list hls fun h₁ he₁ hit₁ hsz₁ hk₁ => ?_
  refine wpAny_pyIter_enum he₁ ?_
  generalize hie : s.heap.objs.size + 1 = e at *
  generalize hii : s.heap.objs.size = it at *
  have hie' : @Eq Nat e (it + 1) := hie.symm
  have hlt' : @LT.lt Nat _ l it := hllt
  have hei : e ≠ it := by show @Ne Nat e it; omega
  have hle : l ≠ e := by show @Ne Nat l e; omega
  have hli : l ≠ it := by show @Ne Nat l it; omega
  have hLlt : @LT.lt Nat _ L it := hii ▸ F.ns.lt
  have hI0 : ∀ b ∈ [e, it], h₀.get? b = none := fun b hb => by
    cases q : h₀.get? b with
    | none => rfl
    | some o =>
      have h2 : @LT.lt Nat _ b it := hii ▸ Heap.lt_size (F.keep b o q)
      rcases List.mem_cons.mp hb with rfl | hb
      · exact absurd h2 (by omega)
      · exact absurd h2 (by rw [List.mem_singleton.mp hb]; exact Nat.lt_irrefl _)
  have off1 : ∀ b : Nat, b < it → b ∉ [e, it] := fun b hb hm => by
    rcases List.mem_cons.mp hm with rfl | hm
    · omega
    · exact absurd hb (by rw [List.mem_singleton.mp hm]; exact Nat.lt_irrefl _)
  have hL' : L ∉ [e, it] := off1 _ hLlt
  have off0 : ∀ p ∈ news, p.1 ∉ [e, it] := fun p hp => off1 _ (hii ▸ Heap.lt_size (N p hp).1)
  have W := WalksT.enumerate (prog := prog) (w := w) (A := A) hh e it l hei hle hli its
  refine ⟨fun n s' => ∃ i h tk m' news', s' = { s with heap := h, toks := tk } ∧ i ≤ its.size ∧ n = its.size + 1 - i ∧ ((∃ old, IsEnum h e it i old) ∧ h.IsListIter it l i ∧ h.IsList l its) ∧ Fr h₀ L h m' ∧ News h₀ L h news' ∧ (∀ p ∈ news', p.1 ∉ [e, it]) ∧ J i m' news', its.size + 1,
    ⟨0, h₁, s.toks, m, news, rfl, Nat.zero_le _, rfl, ⟨⟨_, he₁⟩, hit₁, hls.at fun o q => hk₁ _ o q⟩, F.keeps hk₁, N.grown hk₁, off0, h0⟩, ?_⟩
  rintro n s' ⟨i, h, tk, m', news', rfl, hi, rfl, hst, F', N', off', hJ⟩
  have keepF : ∀ {h' : Heap}, (∀ b o, b ∉ [e, it] → h.get? b = some o → h'.get? b = some o) → Fr h₀ L h' m' := fun hk => Fr.but F' hk hL' hI0
  have keepN : ∀ {h' : Heap}, (∀ b o, b ∉ [e, it] → h.get? b = some o → h'.get? b = some o) → News h₀ L h' news' := fun hk => News.but N' hk off'
  by_cases hlt : i < its.size
  · refine W.item i _ _ _ hlt hst fun T vals h₂ tk₂ hP hTs hT hMid hk₂ => ?_
    obtain ⟨ti, v, hv, rfl⟩ := hP
    have hTw := W.apart _ _ _ hMid
    refine W.go _ _ _ i T _ _ _ hMid fun h₃ hst₃ hk₃ => ?_
    have hk : ∀ b o, b ∉ [e, it] → h.get? b = some o → h₃.get? b = some o := fun b o hb q => hk₃ b o hb (hk₂ b o hb q)
    have hT₃ : h₃.IsTuple T #[.int i ti, v] := by
      obtain ⟨o, q, r⟩ := hT
      exact ⟨o, hk₃ _ _ hTw q, r⟩
    have F₃ := keepF hk
    have N₃ := keepN hk
    obtain ⟨⟨old, he₃⟩, hit₃, hl₃⟩ := hst₃
    obtain ⟨oi, hoi, hri⟩ := hit₃
    obtain ⟨oe, hoe, hEq⟩ : ∃ oe, h₃.get? e = some oe ∧ ∀ h' : Heap, h'.get? e = some oe → IsEnum h' e it ((i + 1 : Nat) : Int) old := ⟨_, he₃, fun _ q => q⟩
    have N₄ : News h₀ L h₃ (news' ++ [(e, oe), (it, oi)]) := fun p hp => by
      rcases List.mem_append.mp hp with hp | hp
      · exact N₃ p hp
      rcases List.mem_cons.mp hp with rfl | hp
      · exact ⟨hoe, fun q => hL' (q ▸ List.mem_cons_self), hI0 _ List.mem_cons_self⟩
      · rw [List.mem_singleton.mp hp]
        exact ⟨hoi, fun q => hL' (q ▸ List.mem_cons_of_mem _ List.mem_cons_self), hI0 _ (List.mem_cons_of_mem _ List.mem_cons_self)⟩
    refine assign_pair hh hT₃ F₃ N₄ hL hxi hxv hp ?_
    intro h₅ tk₅ F₅ N₅
    refine wpAny_mono (turn i v ti m' news' h₅ tk₅ _ hv hJ F₅ N₅ (fun p hp q hq => ?_)) (fun f s₃ h₃ => ?_) fun _ _ e => e
    · rcases List.mem_cons.mp hq with rfl | hq
      · exact fun z => off' p hp (z ▸ List.mem_cons_self)
      · rw [List.mem_singleton.mp hq]
        exact fun z => off' p hp (z ▸ List.mem_cons_of_mem _ List.mem_cons_self)
    · have fin : GTurned h₀ L (J (i + 1)) [(e, oe), (it, oi)] s s.gens s₃ → ∃ m, m < its.size + 1 - i ∧ ∃ i h tk m' news', s₃ = { s with heap := h, toks := tk } ∧ i ≤ its.size ∧ m = its.size + 1 - i ∧ ((∃ old, IsEnum h e it i old) ∧ h.IsListIter it l i ∧ h.IsList l its) ∧ Fr h₀ L h m' ∧ News h₀ L h news' ∧ (∀ p ∈ news', p.1 ∉ [e, it]) ∧ J i m' news' := by
        rintro ⟨h₆, tk₆, m₆, news₆, rfl, F₆, N₆, off₆, hJ₆⟩
        have N₇ : News h₀ L h₆ news₆ := fun p hp => N₆ p (List.mem_append_left _ hp)
        refine ⟨its.size + 1 - (i + 1), by omega, i + 1, h₆, tk₆, m₆, news₆, rfl, hlt, rfl, ⟨⟨old, hEq _ (N₆ (e, oe) (List.mem_append_right _ (.head _))).1⟩, ⟨oi, (N₆ (it, oi) (List.mem_append_right _ (.tail _ (.head _)))).1, hri⟩, ⟨_, (N₇ _ (hl _ _ _ hJ₆)).1, rfl, _, rfl⟩⟩, F₆, N₇, fun p hp hm => ?_, hJ₆⟩
        rcases List.mem_cons.mp hm with q | hm
        · exact off₆ p hp _ (.head _) q
        · exact off₆ p hp _ (.tail _ (.head _)) (List.mem_singleton.mp hm)
      cases f with
      | next => exact fin h₃
      | cont => exact fin h₃
      | brk => exact h₃
      | ret v => exact h₃
  · obtain rfl : i = its.size := Nat.le_antisymm hi (Nat.not_lt.mp hlt)
    exact W.done _ _ _ hst fun h₂ tk₂ hk₂ => done m' news' h₂ tk₂ hJ (keepF hk₂) (keepN hk₂)
end
end Mine
end

-- part K7
section
open PySem PySem.W PyProof.Rows PySem.Calls
set_option Elab.async false
set_option maxRecDepth 100000
set_option maxHeartbeats 8000000
set_option linter.unusedVariables false
namespace Mine

/-- where two lists of texts part -/
noncomputable def PartAt (cx cy : List Str) (c : Nat) : Prop := (cx = cy ∧ c = cx.length) ∨ (c < cx.length ∧ c < cy.length ∧ cx.take c = cy.take c ∧ cx[c]? ≠ cy[c]?)
structure PickOk (cx : List Str) (l1 l2 : List (Str × Tok)) (c : Nat) : Prop where
  len1 : l1.length ≤ 1001
  take : (l1.map (·.1)).take c = cx.take c
  le : c ≤ l1.length
  same : ∀ i, i < c → ∃ u t t', l1[i]? = some (u, t) ∧ l2[i]? = some (u, t')
  part : c = l1.length ∨ ∃ u v t t', l1[c]? = some (u, t) ∧ l2[c]? = some (v, t') ∧ u ≠ v
theorem ordS_self (lt fin) (hf : ∀ n, fin n n = false) : ∀ l : List Str, ordS lt fin l l = false
  | [] => hf 0
  | a :: r => by unfold ordS; rw [if_pos rfl]; exact ordS_self lt fin hf r
theorem ordS_part (lt fin) : ∀ (c : Nat) (cx cy : List Str) (a b : Str), cx.take c = cy.take c → cx[c]? = some a → cy[c]? = some b → a ≠ b → ordS lt fin cx cy = lt a b
  | 0, x :: cx, y :: cy, a, b, _, h1, h2, hne => by
    simp only [List.getElem?_cons_zero, Option.some.injEq] at h1 h2
    subst h1; subst h2
    unfold ordS
    rw [if_neg hne]
  | c + 1, x :: cx, y :: cy, a, b, ht, h1, h2, hne => by
    simp only [List.take_succ_cons, List.cons.injEq] at ht
    simp only [List.getElem?_cons_succ] at h1 h2
    unfold ordS
    rw [if_pos ht.1]
    exact ordS_part lt fin c cx cy a b ht.2 h1 h2 hne
  | _, [], _, a, _, _, h1, _, _ => by simp at h1
  | _, _ :: _, [], _, b, _, _, h2, _ => by simp at h2
theorem str_toList_ne {a b : Str} (h : a ≠ b) : a.cps.toList ≠ b.cps.toList := fun e => h (str_ext e)
theorem natlist_tri {a b : List Nat} (h : a ≠ b) : (decide (a < b) = true ∧ decide (b < a) = false) ∨ (decide (a < b) = false ∧ decide (b < a) = true) := by
  by_cases h1 : a < b
  · exact .inl ⟨by simpa using h1, by simpa using List.lt_asymm h1⟩
  · have h2 : b < a := by
      rcases List.le_total a b with h3 | h3
      · exact absurd (List.le_antisymm (List.not_lt.mp h1) h3) (Ne.symm h)
      · exact Decidable.byContradiction fun h4 => h (List.le_antisymm (List.not_lt.mp h4) (List.not_lt.mp h1))
    exact .inr ⟨by simpa using h1, by simpa using h2⟩
theorem getElem?_map_fst {l : List (Str × Tok)} {i : Nat} {u : Str} (h : (l.map (·.1))[i]? = some u) : ∃ t, l[i]? = some (u, t) := by
  rw [List.getElem?_map] at h
  cases e : l[i]? with
  | none => rw [e] at h; cases h
  | some p => rw [e] at h; simp at h; exact ⟨p.2, by rw [← h]⟩
theorem pickOk_of {l1 l2 : List (Str × Tok)} {c : Nat} (h1 : l1.length ≤ 1001) (h : PartAt (l1.map (·.1)) (l2.map (·.1)) c) (cx : List Str) (hc : (l1.map (·.1)).take c = cx.take c) : PickOk cx l1 l2 c := by
  rcases h with ⟨e, rfl⟩ | ⟨c1, c2, ht, hne⟩
  · refine ⟨h1, hc, by simp, fun i hi => ?_, .inl (by simp)⟩
    have h3 : (l1.map (·.1))[i]? = some (l1.map (·.1))[i] := List.getElem?_eq_getElem hi
    obtain ⟨t, ht⟩ := getElem?_map_fst h3
    obtain ⟨t', ht'⟩ := getElem?_map_fst (l := l2) ((congrArg (·[i]?) e).symm.trans h3)
    exact ⟨_, t, t', ht, ht'⟩
  · refine ⟨h1, hc, by rw [List.length_map] at c1; omega, fun i hi => ?_, .inr ?_⟩
    · have h3 : (l1.map (·.1))[i]? = some (l1.map (·.1))[i] := List.getElem?_eq_getElem (Nat.lt_trans hi c1)
      have h4 : (l2.map (·.1))[i]? = some (l1.map (·.1))[i] := by
        have e1 : ((l1.map (·.1)).take c)[i]? = ((l2.map (·.1)).take c)[i]? := by rw [ht]
        rw [List.getElem?_take_of_lt hi, List.getElem?_take_of_lt hi] at e1
        rw [← e1, h3]
      obtain ⟨t, ht⟩ := getElem?_map_fst h3
      obtain ⟨t', ht'⟩ := getElem?_map_fst h4
      exact ⟨_, t, t', ht, ht'⟩
    · have h3 := List.getElem?_eq_getElem c1
      have h4 := List.getElem?_eq_getElem c2
      rw [h3, h4] at hne
      obtain ⟨t, ht⟩ := getElem?_map_fst h3
      obtain ⟨t', ht'⟩ := getElem?_map_fst h4
      exact ⟨_, _, t, t', ht, ht', fun e => hne (by rw [e])⟩
theorem PartAt.symm {cx cy : List Str} {c : Nat} (h : PartAt cx cy c) : PartAt cy cx c := by
  rcases h with ⟨rfl, rfl⟩ | ⟨c1, c2, ht, hne⟩
  · exact .inl ⟨rfl, rfl⟩
  · exact .inr ⟨c2, c1, ht.symm, Ne.symm hne⟩
theorem pick2 {h₀ h : Heap} {L : Addr} {news : List (Addr × Obj)} (N : News h₀ L h news) {a b : Addr} {la lb : List (Str × Tok)} {ka kb c : Nat} (ha : (a, listOf (strValues la).toArray ka) ∈ news) (hb : (b, listOf (strValues lb).toArray kb) ∈ news)
    (h1 : la.length ≤ 1001) (h2 : lb.length ≤ 1001) (hc : PartAt (la.map (·.1)) (lb.map (·.1)) c) :
    ∃ r1 r2 l1 l2 k1 k2, (if ltS (lb.map (·.1)) (la.map (·.1)) = true then b else a) = r1 ∧ (if gtS (lb.map (·.1)) (la.map (·.1)) = true then b else a) = r2 ∧ (r1, listOf (strValues l1).toArray k1) ∈ news ∧ (r2, listOf (strValues l2).toArray k2) ∈ news ∧ PickOk (la.map (·.1)) l1 l2 c := by
  have hc' := hc
  rcases hc with ⟨e, rfl⟩ | ⟨c1, c2, ht, hne⟩
  · have e1 : ltS (lb.map (·.1)) (la.map (·.1)) = false := by rw [← e]; exact ordS_self _ _ (by simp) _
    have e2 : gtS (lb.map (·.1)) (la.map (·.1)) = false := by rw [← e]; exact ordS_self _ _ (by simp) _
    refine ⟨a, a, la, la, ka, ka, by rw [e1]; rfl, by rw [e2]; rfl, ha, ha, pickOk_of h1 (.inl ⟨rfl, rfl⟩) _ rfl⟩
  · have h3 := List.getElem?_eq_getElem c1
    have h4 := List.getElem?_eq_getElem c2
    have hne' : (lb.map (·.1))[c] ≠ (la.map (·.1))[c] := fun e => hne (by rw [h3, h4, e])
    have e1 := ordS_part (fun a b => decide (a.cps.toList < b.cps.toList)) (fun m n => decide (m < n)) c _ _ _ _ ht.symm h4 h3 hne'
    have e2 := ordS_part (fun a b => decide (b.cps.toList < a.cps.toList)) (fun m n => decide (m > n)) c _ _ _ _ ht.symm h4 h3 hne'
    rcases natlist_tri (str_toList_ne hne') with ⟨q1, q2⟩ | ⟨q1, q2⟩
    · refine ⟨b, a, lb, la, kb, ka, by unfold ltS; rw [e1, q1]; rfl, by unfold gtS; rw [e2, q2]; rfl, hb, ha, pickOk_of h2 hc'.symm _ ht.symm⟩
    · refine ⟨a, b, la, lb, ka, kb, by unfold ltS; rw [e1, q1]; rfl, by unfold gtS; rw [e2, q2]; rfl, ha, hb, pickOk_of h1 hc' _ rfl⟩
end Mine
end

-- part K8
section
open PySem PySem.W PyProof.Rows PySem.Calls
set_option Elab.async false
set_option maxRecDepth 100000
set_option maxHeartbeats 8000000
set_option linter.unusedVariables false
namespace Mine

noncomputable def eMap (m0 : Str → Option Value) (ui uc : Option Value) : Str → Option Value := fun y =>
  if y = Str.ofString "c" then uc else if y = Str.ofString "i" then ui else m0 y
theorem eMap_A {m0 : Str → Option Value} {ui uc vi vc : Option Value} : (fun y => if y = Str.ofString "c" then vc else if y = Str.ofString "i" then vi else if y = Str.ofString "c" then uc else if y = Str.ofString "i" then ui else m0 y) = eMap m0 vi vc := by
  refine map_ext [Str.ofString "c", Str.ofString "i"] ?_ ?_
  · simp only [List.forall_mem_cons]
    exact ⟨rfl, rfl, fun _ h => nomatch h⟩
  · intro y hy
    simp only [List.mem_cons, not_or, List.not_mem_nil, not_false_eq_true, and_true] at hy
    obtain ⟨a1, a2⟩ := hy
    simp [eMap, a1, a2]
theorem eMap_self {m0 : Str → Option Value} : m0 = eMap m0 (m0 (Str.ofString "i")) (m0 (Str.ofString "c")) := by
  refine map_ext [Str.ofString "c", Str.ofString "i"] ?_ ?_
  · simp only [List.forall_mem_cons]
    exact ⟨rfl, rfl, fun _ h => nomatch h⟩
  · intro y hy
    simp only [List.mem_cons, not_or, List.not_mem_nil, not_false_eq_true, and_true] at hy
    obtain ⟨a1, a2⟩ := hy
    simp [eMap, a1, a2]
noncomputable def enJ (c : Nat) (m0 : Str → Option Value) (news : List (Addr × Obj)) (i : Nat) (m' : Str → Option Value) (news' : List (Addr × Obj)) : Prop :=
  i ≤ c ∧ (∃ ui uc, m' = eMap m0 ui uc) ∧ news' = news
section
variable {prog : Program} {w : World} {A : Around} {E : Value → Shared → Prop} {h₀ : Heap} {L : Addr} {m : Str → Option Value} {env : Env} {s : Shared} {news : List (Addr × Obj)}
theorem item_led {a b : Str} {pa pb : Pos} {r : Addr} {its : Array Value} {k : Nat} {i : Nat} {u : Tok} {v : Value} {Q : Value → Shared → Prop} (N : News h₀ L s.heap news) (hm : (r, listOf its k) ∈ news) (hi : its[i]? = some v) (hlt : i ≤ 100000) (h : Q v s) :
    wpAny (model prog w) A (subscriptTail (.Name a pa) (.Name b pb) (.ref r) (.int (i : Int) u)) Q E s := by
  have hl := News.lst N hm
  exact tail_any hl.typeIs slot_list_getitem.lookup (wpAny_getItem_list hl (by omega) (by omega) (by simpa using hi) h) (by with_unfolding_all rfl)
end
end Mine
end

-- part K9
section
open PySem PySem.W PyProof.Rows PySem.Calls
set_option Elab.async false
set_option maxRecDepth 100000
set_option maxHeartbeats 8000000
set_option linter.unusedVariables false
namespace Mine

open PySem.Builtin PySem.Builtin.Str
section
variable {prog : Program} {w : World} {A : Around} {E : Value → Shared → Prop} {h₀ : Heap} {L : Addr} {m : Str → Option Value} {s : Shared} {news : List (Addr × Obj)}
theorem slice_led {a b : Str} {pa pb ps : Pos} {r : Addr} {l : List (Str × Tok)} {k i : Nat} {ti : Tok} {Q : Value → Shared → Prop} (F : Fr h₀ L s.heap m) (N : News h₀ L s.heap news) (hm : (r, listOf (strValues l).toArray k) ∈ news) (hl : l.length ≤ 1001)
    (h : ∀ D h', Fr h₀ L h' m → News h₀ L h' ((D, listOf (strValues (l.take i)).toArray 0) :: news) → (∀ p ∈ news, p.1 < D) → Q (.ref D) { s with heap := h' }) :
    wpAny (model prog w) A (subscriptTail (.Name a pa) (.Slice none (some (.Name b pb)) none ps) (.ref r) (.ref s.heap.objs.size)) Q E { s with heap := s.heap.push { cls := .type "slice", data := .fields #[.none, .int (i : Int) ti, .none] } } := by
  refine kmk_slice_lit (zs := strValues (l.take i)) F N (News.lst N hm) IsPart.none (IsPart.int _ _) ?_ h (by with_unfolding_all rfl) (by intro _; with_unfolding_all rfl) ?_
  · have e : sliceBounds none (some (i : Int)) none (strValues l).toArray.size = (((0 : Nat) : Int), ((min i (strValues l).toArray.size : Nat) : Int), 1) := by
      simp only [sliceBounds, Option.getD_none, show (1 : Int) > 0 by decide, if_true, if_neg (show ¬ ((i : Int) < 0) by omega)]
      congr 1
      congr 1
      omega
    rw [kmk_pick_nat _ e]
    simp [strValues, List.map_take]
  · have : (2000 : Nat) ≤ sizeLine := Nat.le_of_ble_eq_true rfl
    simp [strValues]
    omega
theorem off1_mem {D : Addr} : ∀ {l : List (Addr × Obj)}, LCg.Off1 D l → ∀ p ∈ l, p.1 ≠ D
  | [], _, _, h => nomatch h
  | _ :: _, x, p, h => by
    rcases List.mem_cons.mp h with rfl | h
    · exact x.1
    · exact off1_mem x.2 p h
theorem mem_le_sum : ∀ (l : List Str) (p : Str), p ∈ l → p.length ≤ (l.map (·.length)).sum
  | a :: l, p, h => by
    rcases List.mem_cons.mp h with rfl | h
    · simp
    · have := mem_le_sum l p h
      simp only [List.map_cons, List.sum_cons]
      omega
theorem split_mem_len {x p : Str} (h : p ∈ Txt.split x (Str.ofString "/")) : p.length ≤ x.length := by
  have h1 := mem_le_sum _ _ h
  have h2 := sum_split x
  omega
theorem split_len (x : Str) : (Txt.split x (Str.ofString "/")).length ≤ x.length + 1 := by
  have h2 := sum_split x
  omega
theorem sum_take_le (c : Nat) : ∀ (l : List Str), ((l.take c).map (·.length)).sum ≤ (l.map (·.length)).sum := by
  induction c with
  | zero => simp
  | succ c ih =>
    intro l
    cases l with
    | nil => simp
    | cons a l =>
      have := ih l
      simp only [List.take_succ_cons, List.map_cons, List.sum_cons]
      omega
theorem join_take_len (x : Str) (c : Nat) : (Txt.join (Str.ofString "/") ((Txt.split x (Str.ofString "/")).take c)).length ≤ x.length := by
  have h := size_glued (Str.ofString "/") ((Txt.split x (Str.ofString "/")).take c)
  have h1 := sum_split x
  have h2 := sum_take_le c (Txt.split x (Str.ofString "/"))
  have h3 : ((Txt.split x (Str.ofString "/")).take c).length ≤ (Txt.split x (Str.ofString "/")).length := by simp; omega
  have e : (Str.ofString "/").length = 1 := by decide +kernel
  rw [e, Nat.mul_one] at h
  show (glued _ _).length ≤ _
  have h' : (glued (Str.ofString "/") ((Txt.split x (Str.ofString "/")).take c)).length = _ := h
  omega
theorem take_joinOk {x : Str} (c : Nat) (h : x.length ≤ 1000) : JoinOk (Str.ofString "/") ((Txt.split x (Str.ofString "/")).take c) = true := by
  refine joinOk_of ?_
  have h1 := sum_split x
  have h2 := sum_take_le c (Txt.split x (Str.ofString "/"))
  have h3 : ((Txt.split x (Str.ofString "/")).take c).length ≤ (Txt.split x (Str.ofString "/")).length := by simp; omega
  have : (Str.ofString "/").length = 1 := by decide +kernel
  rw [this]
  omega
end
end Mine
end

-- part L1
section
open PySem PySem.W PyProof.Rows PySem.Calls
set_option Elab.async false
set_option maxRecDepth 100000
set_option maxHeartbeats 8000000
set_option linter.unusedVariables false
namespace Mine

open AutoSeq1 (wpAny_loadPart')
open MeetsSeq MeetsSeq2 MeetsSeq3 SeqRoads2 SeqAt
theorem lt_loop (l b : Addr) (la lb : List (Str × Tok)) (n n2 : Nat) (dd dd2 : Option Addr) (sl sl2 : Array (Option Value)) (k : Nat) :
    ∀ i : Nat, la.length - i = k → i ≤ la.length → i ≤ lb.length → Meets (Builtin.«list.__eq__.loop» ⟨[.ref l, .ref b, rawInt i, rawInt 0], []⟩)
      (fun A R s => s.heap.get? l = some { cls := .type "list", dict := dd, data := .seq (strValues la).toArray n, slots := sl } ∧ s.heap.get? b = some { cls := .type "list", dict := dd2, data := .seq (strValues lb).toArray n2, slots := sl2 } ∧
        R (.ok (.ret (.bool (ltS ((la.map (·.1)).drop i) ((lb.map (·.1)).drop i))))) s) := by
  induction k with
  | zero =>
    intro i hk hia hib prog w A R s h
    obtain ⟨hp, g, d, tk, os⟩ := s; obtain ⟨hl, hb, h⟩ := h
    wp_walk using wpAny_loadPart' hl, wpAny_loadPart' hb
    have hi1 : (strValues la).toArray[((i : Nat) : Int).toNat]? = none := by simp [strValues]; omega
    have hd : (la.map (·.1)).drop i = [] := by simp; omega
    rw [hd] at h
    rw [hi1]
    wp_walk using wpAny_loadPart' hl, wpAny_loadPart' hb
    show R (.ok (.ret (.bool (decide ((strValues la).toArray.size < (strValues lb).toArray.size))))) _
    have e : ltS [] ((lb.map (·.1)).drop i) = decide ((strValues la).toArray.size < (strValues lb).toArray.size) := by
      unfold ltS ordS
      simp [strValues]
      omega
    rw [← e]
    exact h
  | succ k ih =>
    intro i hk hia hib prog w A R s h
    obtain ⟨hp, g, d, tk, os⟩ := s; obtain ⟨hl, hb, h⟩ := h
    wp_walk using wpAny_loadPart' hl, wpAny_loadPart' hb
    have hlt : i < la.length := by omega
    have hi1 : (strValues la).toArray[((i : Nat) : Int).toNat]? = some (.str la[i].1 la[i].2) := by simp [strValues, hlt]
    have hd : (la.map (·.1)).drop i = la[i].1 :: (la.map (·.1)).drop (i + 1) := by rw [List.drop_eq_getElem_cons (by simpa using hlt)]; simp
    by_cases hlt2 : i < lb.length
    · have hi2 : (strValues lb).toArray[((i : Nat) : Int).toNat]? = some (.str lb[i].1 lb[i].2) := by simp [strValues, hlt2]
      have hd2 : (lb.map (·.1)).drop i = lb[i].1 :: (lb.map (·.1)).drop (i + 1) := by rw [List.drop_eq_getElem_cons (by simpa using hlt2)]; simp
      have hc : ((i : Int) + 1) = ((i + 1 : Nat) : Int) := by push_cast; rfl
      rw [hd, hd2] at h
      rw [hi1, hi2]
      refine wpAny_bind (EqAt.str_str _ _ _ _ prog w _ _ ?_)
      by_cases he : la[i].1 = lb[i].1
      · rw [show (la[i].1 == lb[i].1) = true from by simpa using he]
        wp_walk
        rw [hc]
        exact ⟨plainId_quiet plain_eq_loop _, codeAny_builtin entry_eq_loop (by
          rw [Around.under_plainId plain_eq_loop _]
          refine ih (i + 1) (by omega) (by omega) (by omega) prog w A R _ ⟨hl, hb, ?_⟩
          have : ltS (la[i].1 :: (la.map (·.1)).drop (i + 1)) (lb[i].1 :: (lb.map (·.1)).drop (i + 1)) = ltS ((la.map (·.1)).drop (i + 1)) ((lb.map (·.1)).drop (i + 1)) := by
            unfold ltS
            conv => lhs; unfold ordS
            rw [if_pos he]
          rw [← this]
          exact h)⟩
      · rw [show (la[i].1 == lb[i].1) = false from by simpa using he]
        wp_walk using wpAny_loadPart' hl, wpAny_loadPart' hb
        rw [hi1, hi2]
        refine wpAny_bind (P.lt_str ?_)
        wp_walk
        have : ltS (la[i].1 :: (la.map (·.1)).drop (i + 1)) (lb[i].1 :: (lb.map (·.1)).drop (i + 1)) = decide (la[i].1.cps.toList < lb[i].1.cps.toList) := by
          unfold ltS
          conv => lhs; unfold ordS
          rw [if_neg he]
        rw [this] at h
        exact h
    · have hi2 : (strValues lb).toArray[((i : Nat) : Int).toNat]? = none := by simp [strValues]; omega
      have hd2 : (lb.map (·.1)).drop i = [] := by simp; omega
      rw [hd, hd2] at h
      rw [hi1, hi2]
      wp_walk using wpAny_loadPart' hl, wpAny_loadPart' hb
      show R (.ok (.ret (.bool (decide ((strValues la).toArray.size < (strValues lb).toArray.size))))) _
      have e : ltS (la[i].1 :: (la.map (·.1)).drop (i + 1)) [] = decide ((strValues la).toArray.size < (strValues lb).toArray.size) := by
        unfold ltS ordS
        simp [strValues]
        omega
      rw [← e]
      exact h
theorem list_lt (l b : Addr) (la lb : List (Str × Tok)) (n n2 : Nat) (dd dd2 : Option Addr) (sl sl2 : Array (Option Value)) :
    Meets (Builtin.«list.__lt__» ⟨[.ref l, .ref b], []⟩)
      (fun A R s => s.heap.get? l = some { cls := .type "list", dict := dd, data := .seq (strValues la).toArray n, slots := sl } ∧ s.heap.get? b = some { cls := .type "list", dict := dd2, data := .seq (strValues lb).toArray n2, slots := sl2 } ∧
        R (.ok (.ret (.bool (ltS (la.map (·.1)) (lb.map (·.1)))))) s) := by
  intro prog w A R s h
  obtain ⟨hp, g, d, tk, os⟩ := s; obtain ⟨hl, hb, h⟩ := h
  have f3 := AutoSeq1.sub_list_list
  wp_walk using wpAny_loadPart' hl, wpAny_loadPart' hb
  exact ⟨plainId_quiet plain_eq_loop _, codeAny_builtin entry_eq_loop (by
    rw [Around.under_plainId plain_eq_loop _]
    exact lt_loop l b la lb n n2 dd dd2 sl sl2 _ 0 rfl (Nat.zero_le _) (Nat.zero_le _) prog w A R _ ⟨hl, hb, h⟩)⟩
theorem cmp_lt {prog : Program} {w : World} {A : Around} {E : Value → Shared → Prop} {s : Shared} {l b : Addr} {la lb : List (Str × Tok)} {n n2 : Nat} {Q : Value → Shared → Prop}
    (hl : s.heap.get? l = some (listOf (strValues la).toArray n)) (hb : s.heap.get? b = some (listOf (strValues lb).toArray n2)) (hu : A.units < cLine)
    (h : Q (.bool (ltS (la.map (·.1)) (lb.map (·.1)))) s) : wpAny (model prog w) A (richCompare .Lt (.ref l) (.ref b)) Q E s :=
  richCompare_meets_room ⟨_, hl, rfl⟩ ⟨_, hb, rfl⟩ F.slot_list_lt F.entry_list_lt (F.args_list_lt_2 _ _) (list_lt l b la lb n n2 none none #[] #[]) ⟨hl, hb, ⟨Value.noConfusion, h⟩⟩ hu
theorem gt_loop (l b : Addr) (la lb : List (Str × Tok)) (n n2 : Nat) (dd dd2 : Option Addr) (sl sl2 : Array (Option Value)) (k : Nat) :
    ∀ i : Nat, la.length - i = k → i ≤ la.length → i ≤ lb.length → Meets (Builtin.«list.__eq__.loop» ⟨[.ref l, .ref b, rawInt i, rawInt 4], []⟩)
      (fun A R s => s.heap.get? l = some { cls := .type "list", dict := dd, data := .seq (strValues la).toArray n, slots := sl } ∧ s.heap.get? b = some { cls := .type "list", dict := dd2, data := .seq (strValues lb).toArray n2, slots := sl2 } ∧
        R (.ok (.ret (.bool (gtS ((la.map (·.1)).drop i) ((lb.map (·.1)).drop i))))) s) := by
  induction k with
  | zero =>
    intro i hk hia hib prog w A R s h
    obtain ⟨hp, g, d, tk, os⟩ := s; obtain ⟨hl, hb, h⟩ := h
    wp_walk using wpAny_loadPart' hl, wpAny_loadPart' hb
    have hi1 : (strValues la).toArray[((i : Nat) : Int).toNat]? = none := by simp [strValues]; omega
    have hd : (la.map (·.1)).drop i = [] := by simp; omega
    rw [hd] at h
    rw [hi1]
    wp_walk using wpAny_loadPart' hl, wpAny_loadPart' hb
    show R (.ok (.ret (.bool (decide ((strValues la).toArray.size > (strValues lb).toArray.size))))) _
    have e : gtS [] ((lb.map (·.1)).drop i) = decide ((strValues la).toArray.size > (strValues lb).toArray.size) := by
      unfold gtS ordS
      simp [strValues]
      omega
    rw [← e]
    exact h
  | succ k ih =>
    intro i hk hia hib prog w A R s h
    obtain ⟨hp, g, d, tk, os⟩ := s; obtain ⟨hl, hb, h⟩ := h
    wp_walk using wpAny_loadPart' hl, wpAny_loadPart' hb
    have hlt : i < la.length := by omega
    have hi1 : (strValues la).toArray[((i : Nat) : Int).toNat]? = some (.str la[i].1 la[i].2) := by simp [strValues, hlt]
    have hd : (la.map (·.1)).drop i = la[i].1 :: (la.map (·.1)).drop (i + 1) := by rw [List.drop_eq_getElem_cons (by simpa using hlt)]; simp
    by_cases hlt2 : i < lb.length
    · have hi2 : (strValues lb).toArray[((i : Nat) : Int).toNat]? = some (.str lb[i].1 lb[i].2) := by simp [strValues, hlt2]
      have hd2 : (lb.map (·.1)).drop i = lb[i].1 :: (lb.map (·.1)).drop (i + 1) := by rw [List.drop_eq_getElem_cons (by simpa using hlt2)]; simp
      have hc : ((i : Int) + 1) = ((i + 1 : Nat) : Int) := by push_cast; rfl
      rw [hd, hd2] at h
      rw [hi1, hi2]
      refine wpAny_bind (EqAt.str_str _ _ _ _ prog w _ _ ?_)
      by_cases he : la[i].1 = lb[i].1
      · rw [show (la[i].1 == lb[i].1) = true from by simpa using he]
        wp_walk
        rw [hc]
        exact ⟨plainId_quiet plain_eq_loop _, codeAny_builtin entry_eq_loop (by
          rw [Around.under_plainId plain_eq_loop _]
          refine ih (i + 1) (by omega) (by omega) (by omega) prog w A R _ ⟨hl, hb, ?_⟩
          have : gtS (la[i].1 :: (la.map (·.1)).drop (i + 1)) (lb[i].1 :: (lb.map (·.1)).drop (i + 1)) = gtS ((la.map (·.1)).drop (i + 1)) ((lb.map (·.1)).drop (i + 1)) := by
            unfold gtS
            conv => lhs; unfold ordS
            rw [if_pos he]
          rw [← this]
          exact h)⟩
      · rw [show (la[i].1 == lb[i].1) = false from by simpa using he]
        wp_walk using wpAny_loadPart' hl, wpAny_loadPart' hb
        rw [hi1, hi2]
        refine wpAny_bind (P.gt_str ?_)
        wp_walk
        have : gtS (la[i].1 :: (la.map (·.1)).drop (i + 1)) (lb[i].1 :: (lb.map (·.1)).drop (i + 1)) = decide (lb[i].1.cps.toList < la[i].1.cps.toList) := by
          unfold gtS
          conv => lhs; unfold ordS
          rw [if_neg he]
        rw [this] at h
        exact h
    · have hi2 : (strValues lb).toArray[((i : Nat) : Int).toNat]? = none := by simp [strValues]; omega
      have hd2 : (lb.map (·.1)).drop i = [] := by simp; omega
      rw [hd, hd2] at h
      rw [hi1, hi2]
      wp_walk using wpAny_loadPart' hl, wpAny_loadPart' hb
      show R (.ok (.ret (.bool (decide ((strValues la).toArray.size > (strValues lb).toArray.size))))) _
      have e : gtS (la[i].1 :: (la.map (·.1)).drop (i + 1)) [] = decide ((strValues la).toArray.size > (strValues lb).toArray.size) := by
        unfold gtS ordS
        simp [strValues]
        omega
      rw [← e]
      exact h
theorem list_gt (l b : Addr) (la lb : List (Str × Tok)) (n n2 : Nat) (dd dd2 : Option Addr) (sl sl2 : Array (Option Value)) :
    Meets (Builtin.«list.__gt__» ⟨[.ref l, .ref b], []⟩)
      (fun A R s => s.heap.get? l = some { cls := .type "list", dict := dd, data := .seq (strValues la).toArray n, slots := sl } ∧ s.heap.get? b = some { cls := .type "list", dict := dd2, data := .seq (strValues lb).toArray n2, slots := sl2 } ∧
        R (.ok (.ret (.bool (gtS (la.map (·.1)) (lb.map (·.1)))))) s) := by
  intro prog w A R s h
  obtain ⟨hp, g, d, tk, os⟩ := s; obtain ⟨hl, hb, h⟩ := h
  have f3 := AutoSeq1.sub_list_list
  wp_walk using wpAny_loadPart' hl, wpAny_loadPart' hb
  exact ⟨plainId_quiet plain_eq_loop _, codeAny_builtin entry_eq_loop (by
    rw [Around.under_plainId plain_eq_loop _]
    exact gt_loop l b la lb n n2 dd dd2 sl sl2 _ 0 rfl (Nat.zero_le _) (Nat.zero_le _) prog w A R _ ⟨hl, hb, h⟩)⟩
theorem cmp_gt {prog : Program} {w : World} {A : Around} {E : Value → Shared → Prop} {s : Shared} {l b : Addr} {la lb : List (Str × Tok)} {n n2 : Nat} {Q : Value → Shared → Prop}
    (hl : s.heap.get? l = some (listOf (strValues la).toArray n)) (hb : s.heap.get? b = some (listOf (strValues lb).toArray n2)) (hu : A.units < cLine)
    (h : Q (.bool (gtS (la.map (·.1)) (lb.map (·.1)))) s) : wpAny (model prog w) A (richCompare .Gt (.ref l) (.ref b)) Q E s :=
  richCompare_meets_room ⟨_, hl, rfl⟩ ⟨_, hb, rfl⟩ F.slot_list_gt F.entry_list_gt (F.args_list_gt_2 _ _) (list_gt l b la lb n n2 none none #[] #[]) ⟨hl, hb, ⟨Value.noConfusion, h⟩⟩ hu
end Mine
end

-- part L2
section
open PySem PySem.W PyProof.Rows PySem.Calls
set_option Elab.async false
set_option maxRecDepth 100000
set_option maxHeartbeats 8000000
set_option linter.unusedVariables false
namespace Mine

section
variable {prog : Program} {w : World} {A : Around} {E : Value → Shared → Prop} {h₀ : Heap} {L : Addr} {m : Str → Option Value} {s : Shared} {news : List (Addr × Obj)}
theorem min_two {D a b : Addr} {la lb : List (Str × Tok)} {k1 k2 k3 : Nat} {Q : Value → Shared → Prop} (hh : A.handled = none) (hu : A.units ≤ 9000) (F₀ : Fr h₀ L s.heap m) (N : News h₀ L s.heap news) (hD : (D, listOf #[.ref a, .ref b] k3) ∈ news)
    (ha : (a, listOf (strValues la).toArray k1) ∈ news) (hb : (b, listOf (strValues lb).toArray k2) ∈ news)
    (ret : ∀ h' tk', Fr h₀ L h' m → News h₀ L h' news → Q (.ref (if ltS (lb.map (·.1)) (la.map (·.1)) = true then b else a)) { s with heap := h', toks := tk' }) :
    wpAny (model prog w) A (call (.builtin "min") [.ref D]) Q E s := by
  have hname : (toString "min" ++ toString ".loop" : String) = "min.loop" := by decide
  have hls : s.heap.IsList D #[.ref a, .ref b] := News.lst N hD
  have hDlt : @LT.lt Nat _ D s.heap.objs.size := Heap.lt_size (N _ hD).1
  refine call_function_tree F.kind_min F.plain_min F.entry_min (F.args_min1 _) ?_
  show wpAny _ A.in1 (Builtin.Builtins.bindParams "min" ["key", "default"] 0 ⟨[], []⟩ >>= _) _ _ s
  refine wpAny_bind (wpAny_of_eq (show Builtin.Builtins.bindParams "min" ["key", "default"] 0 ⟨[], []⟩ = pure [none, none] from rfl) ?_)
  refine wpAny_bind (wpAny_pure ?_)
  refine wpAny_bind (wpAny_pyIter_list hls ?_)
  refine wpAny_bind (wpAny_newObj_type ?_)
  rw [hname]
  dsimp only
  have W := Walks.list (prog := prog) (w := w) (A := A.in1) hh s.heap.objs.size D (Nat.ne_of_lt hDlt) #[.ref a, .ref b]
  have hS0 := Heap.get?_push_size (s.heap.push { cls := .type "list_iterator", data := .fields #[.ref D, .int 0 0] }) (o := { cls := .type "list", data := .seq ([] : List Value).toArray }) rfl
  have hst0 : ((s.heap.push { cls := .type "list_iterator", data := .fields #[.ref D, .int 0 0] }).push { cls := .type "list", data := .seq ([] : List Value).toArray }).IsListIter s.heap.objs.size D 0 ∧ ((s.heap.push { cls := .type "list_iterator", data := .fields #[.ref D, .int 0 0] }).push { cls := .type "list", data := .seq ([] : List Value).toArray }).IsList D #[.ref a, .ref b] :=
    ⟨⟨_, Heap.get?_push_of_some _ (Heap.get?_push_size _ rfl), rfl, rfl⟩, (hls.push _).push _⟩
  have hk0 : ∀ c o, s.heap.get? c = some o → ((s.heap.push { cls := .type "list_iterator", data := .fields #[.ref D, .int 0 0] }).push { cls := .type "list", data := .seq ([] : List Value).toArray }).get? c = some o := fun c o e => Heap.get?_push_of_some _ (Heap.get?_push_of_some _ e)
  have hSz : @Eq Nat (s.heap.push { cls := .type "list_iterator", data := .fields #[.ref D, .int 0 0] }).objs.size (s.heap.objs.size + 1) := Heap.size_push ..
  generalize hH0 : (s.heap.push { cls := .type "list_iterator", data := .fields #[.ref D, .int 0 0] }).push { cls := .type "list", data := .seq ([] : List Value).toArray } = H0 at *
  generalize hSe : (s.heap.push { cls := .type "list_iterator", data := .fields #[.ref D, .int 0 0] }).objs.size = S at *
  generalize hIe : s.heap.objs.size = I at *
  have hSI : S ≠ I := by show @Ne Nat S I; omega
  have hSD : S ≠ D := by show @Ne Nat S D; omega
  have hSI' : S ∉ [I] := fun hm => hSI (List.mem_singleton.mp hm)
  have old : ∀ c o, s.heap.get? c = some o → c ∉ [I] ∧ S ≠ c := fun c o e => by
    have : @LT.lt Nat _ c I := hIe ▸ Heap.lt_size e
    refine ⟨fun hm => ?_, ?_⟩
    · have := List.mem_singleton.mp hm
      subst this
      omega
    · show @Ne Nat S c
      omega
  refine wpAny_pure ⟨plainId_quiet F.plain_min_loop _, ?_⟩
  -- the first item
  refine codeAny_builtin F.entry_min_loop ?_
  rw [Around.under_plainId F.plain_min_loop _]
  show wpAny _ A.in1 (seqItems? (.ref S) >>= _) _ _ _
  refine wpAny_bind (wpAny_seqItems hS0 rfl ?_)
  show wpAny _ A.in1 (tryCatch (pyNext (.ref I)) _ >>= _) _ _ _
  refine wpAny_bind (wpAny_tryCatch (W.item 0 _ _ _ (Nat.le_of_ble_eq_true rfl) hst0 fun v h1 tk1 hP hst1 hk1 => ?_))
  obtain rfl : Value.ref a = v := Option.some.inj hP
  have hS1 := hk1 S _ hSI' hS0
  show wpAny _ A.in1 (updateSeq S (fun _ => #[.ref a, .ref a]) >>= _) _ _ _
  refine wpAny_bind ?_
  refine wpAny_updateSeq hS1 rfl ?_
  rw [hname]
  have hS2 := Heap.get?_update_self (Obj.mapSeq (fun _ => #[Value.ref a, Value.ref a])) hS1 rfl
  have hk2 : ∀ c o, s.heap.get? c = some o → (h1.update S (Obj.mapSeq (fun _ => #[Value.ref a, Value.ref a]))).get? c = some o := fun c o e =>
    (Heap.get?_update_other _ _ (old c o e).2).trans (hk1 c o (old c o e).1 (hk0 c o e))
  have hst2 := W.frame _ h1 (h1.update S (Obj.mapSeq (fun _ => #[Value.ref a, Value.ref a]))) hst1 fun c hc o e => (Heap.get?_update_other _ _ (by
    rcases List.mem_cons.mp hc with rfl | hc
    · exact hSI
    · rw [List.mem_singleton.mp hc]; exact hSD)).trans e
  generalize h1.update S (Obj.mapSeq (fun _ => #[Value.ref a, Value.ref a])) = H2 at *
  refine wpAny_pure ⟨plainId_quiet F.plain_min_loop _, ?_⟩
  -- the second item
  refine codeAny_builtin F.entry_min_loop ?_
  rw [Around.under_plainId F.plain_min_loop _]
  show wpAny _ A.in1 (seqItems? (.ref S) >>= _) _ _ _
  refine wpAny_bind (wpAny_seqItems hS2 rfl ?_)
  show wpAny _ A.in1 (tryCatch (pyNext (.ref I)) _ >>= _) _ _ _
  refine wpAny_bind (wpAny_tryCatch (W.item 1 _ _ _ (Nat.le_of_ble_eq_true rfl) hst2 fun v h3 tk3 hP3 hst3 hk3 => ?_))
  obtain rfl : Value.ref b = v := Option.some.inj hP3
  have hS3 := hk3 S _ hSI' hS2
  have hk3' : ∀ c o, s.heap.get? c = some o → h3.get? c = some o := fun c o e => hk3 c o (old c o e).1 (hk2 c o e)
  show wpAny _ A.in1 (tryCatch (holding [.ref b, .ref b] (richCompare .Lt (.ref b) (.ref a) >>= _)) _ >>= _) _ _ _
  refine wpAny_bind (wpAny_tryCatch (wpAny_holding (wpAny_bind (cmp_lt (hk3' _ _ (N _ hb).1) (hk3' _ _ (N _ ha).1) (by show A.units + 1 < cLine; unfold cLine; omega) ?_))))
  refine wpAny_bind (wpAny_holding (wpAny_truthy_bool ?_))
  refine wpAny_bind (wpAny_letGo (wpAny_pure ?_))
  have last : ∀ (h4 : Heap) (tk4 : Nat) (r : Addr) (c4 : Nat), (∀ c o, s.heap.get? c = some o → h4.get? c = some o) → (h4.IsListIter I D 2 ∧ h4.IsList D #[.ref a, .ref b]) → h4.get? S = some { cls := .type "list", dict := none, data := .seq #[.ref r, .ref r] c4, slots := #[] } →
      (∀ h' tk', Fr h₀ L h' m → News h₀ L h' news → Q (.ref r) { s with heap := h', toks := tk' }) → codeAny (model prog w) A (.builtin "min.loop" ⟨[.ref I, .none, .ref S], []⟩) (fun r s' => match r with | .ok (.ret v) => Q v s' | .ok _ => False | .error e => E e s') { s with heap := h4, toks := tk4 } := by
    intro h4 tk4 r c4 hk4 hst4 hS4 hQ
    refine codeAny_builtin F.entry_min_loop ?_
    rw [Around.under_plainId F.plain_min_loop _]
    show wpAny _ A.in1 (seqItems? (.ref S) >>= _) _ _ _
    refine wpAny_bind (wpAny_seqItems hS4 rfl ?_)
    show wpAny _ A.in1 (tryCatch (pyNext (.ref I)) _ >>= _) _ _ _
    refine wpAny_bind (wpAny_tryCatch (W.done _ _ _ hst4 fun h5 tk5 hk5 => ?_))
    have hS5 := hk5 S _ hSI' hS4
    show wpAny _ A.in1 (updateSeq S (fun _ => #[]) >>= _) _ _ _
    refine wpAny_bind ?_
    refine wpAny_updateSeq hS5 rfl (wpAny_bind (wpAny_letGo (wpAny_pure ?_)))
    have hk6 : ∀ c o, s.heap.get? c = some o → (h5.update S (Obj.mapSeq (fun _ => #[]))).get? c = some o := fun c o e => (Heap.get?_update_other _ _ (old c o e).2).trans (hk5 c o (old c o e).1 (hk4 c o e))
    exact hQ _ _ (F₀.keeps hk6) (N.grown hk6)
  cases hb9 : ltS (lb.map (·.1)) (la.map (·.1)) with
  | true =>
    simp only [if_true]
    refine wpAny_bind ?_
    refine wpAny_updateSeq hS3 rfl (wpAny_bind (wpAny_letGo ?_))
    rw [hname]
    have hst4 := W.frame _ h3 (h3.update S (Obj.mapSeq (fun _ => #[Value.ref b, Value.ref b]))) hst3 fun c hc o e => (Heap.get?_update_other _ _ (by
      rcases List.mem_cons.mp hc with rfl | hc
      · exact hSI
      · rw [List.mem_singleton.mp hc]; exact hSD)).trans e
    refine wpAny_pure ⟨plainId_quiet F.plain_min_loop _, last _ _ b _ (fun c o e => (Heap.get?_update_other _ _ (old c o e).2).trans (hk3' c o e)) hst4 (Heap.get?_update_self _ hS3 rfl) fun h' tk' F' N' => ?_⟩
    have := ret h' tk' F' N'
    rw [hb9] at this
    exact this
  | false =>
    simp only [Bool.false_eq_true, if_false]
    refine wpAny_bind (wpAny_letGo ?_)
    rw [hname]
    refine wpAny_pure ⟨plainId_quiet F.plain_min_loop _, last _ _ a _ hk3' hst3 hS3 fun h' tk' F' N' => ?_⟩
    have := ret h' tk' F' N'
    rw [hb9] at this
    exact this
theorem max_two {D a b : Addr} {la lb : List (Str × Tok)} {k1 k2 k3 : Nat} {Q : Value → Shared → Prop} (hh : A.handled = none) (hu : A.units ≤ 9000) (F₀ : Fr h₀ L s.heap m) (N : News h₀ L s.heap news) (hD : (D, listOf #[.ref a, .ref b] k3) ∈ news)
    (ha : (a, listOf (strValues la).toArray k1) ∈ news) (hb : (b, listOf (strValues lb).toArray k2) ∈ news)
    (ret : ∀ h' tk', Fr h₀ L h' m → News h₀ L h' news → Q (.ref (if gtS (lb.map (·.1)) (la.map (·.1)) = true then b else a)) { s with heap := h', toks := tk' }) :
    wpAny (model prog w) A (call (.builtin "max") [.ref D]) Q E s := by
  have hname : (toString "max" ++ toString ".loop" : String) = "max.loop" := by decide
  have hls : s.heap.IsList D #[.ref a, .ref b] := News.lst N hD
  have hDlt : @LT.lt Nat _ D s.heap.objs.size := Heap.lt_size (N _ hD).1
  refine call_function_tree F.kind_max F.plain_max F.entry_max (F.args_max1 _) ?_
  show wpAny _ A.in1 (Builtin.Builtins.bindParams "max" ["key", "default"] 0 ⟨[], []⟩ >>= _) _ _ s
  refine wpAny_bind (wpAny_of_eq (show Builtin.Builtins.bindParams "max" ["key", "default"] 0 ⟨[], []⟩ = pure [none, none] from rfl) ?_)
  refine wpAny_bind (wpAny_pure ?_)
  refine wpAny_bind (wpAny_pyIter_list hls ?_)
  refine wpAny_bind (wpAny_newObj_type ?_)
  rw [hname]
  dsimp only
  have W := Walks.list (prog := prog) (w := w) (A := A.in1) hh s.heap.objs.size D (Nat.ne_of_lt hDlt) #[.ref a, .ref b]
  have hS0 := Heap.get?_push_size (s.heap.push { cls := .type "list_iterator", data := .fields #[.ref D, .int 0 0] }) (o := { cls := .type "list", data := .seq ([] : List Value).toArray }) rfl
  have hst0 : ((s.heap.push { cls := .type "list_iterator", data := .fields #[.ref D, .int 0 0] }).push { cls := .type "list", data := .seq ([] : List Value).toArray }).IsListIter s.heap.objs.size D 0 ∧ ((s.heap.push { cls := .type "list_iterator", data := .fields #[.ref D, .int 0 0] }).push { cls := .type "list", data := .seq ([] : List Value).toArray }).IsList D #[.ref a, .ref b] :=
    ⟨⟨_, Heap.get?_push_of_some _ (Heap.get?_push_size _ rfl), rfl, rfl⟩, (hls.push _).push _⟩
  have hk0 : ∀ c o, s.heap.get? c = some o → ((s.heap.push { cls := .type "list_iterator", data := .fields #[.ref D, .int 0 0] }).push { cls := .type "list", data := .seq ([] : List Value).toArray }).get? c = some o := fun c o e => Heap.get?_push_of_some _ (Heap.get?_push_of_some _ e)
  have hSz : @Eq Nat (s.heap.push { cls := .type "list_iterator", data := .fields #[.ref D, .int 0 0] }).objs.size (s.heap.objs.size + 1) := Heap.size_push ..
  generalize hH0 : (s.heap.push { cls := .type "list_iterator", data := .fields #[.ref D, .int 0 0] }).push { cls := .type "list", data := .seq ([] : List Value).toArray } = H0 at *
  generalize hSe : (s.heap.push { cls := .type "list_iterator", data := .fields #[.ref D, .int 0 0] }).objs.size = S at *
  generalize hIe : s.heap.objs.size = I at *
  have hSI : S ≠ I := by show @Ne Nat S I; omega
  have hSD : S ≠ D := by show @Ne Nat S D; omega
  have hSI' : S ∉ [I] := fun hm => hSI (List.mem_singleton.mp hm)
  have old : ∀ c o, s.heap.get? c = some o → c ∉ [I] ∧ S ≠ c := fun c o e => by
    have : @LT.lt Nat _ c I := hIe ▸ Heap.lt_size e
    refine ⟨fun hm => ?_, ?_⟩
    · have := List.mem_singleton.mp hm
      subst this
      omega
    · show @Ne Nat S c
      omega
  refine wpAny_pure ⟨plainId_quiet F.plain_max_loop _, ?_⟩
  -- the first item
  refine codeAny_builtin F.entry_max_loop ?_
  rw [Around.under_plainId F.plain_max_loop _]
  show wpAny _ A.in1 (seqItems? (.ref S) >>= _) _ _ _
  refine wpAny_bind (wpAny_seqItems hS0 rfl ?_)
  show wpAny _ A.in1 (tryCatch (pyNext (.ref I)) _ >>= _) _ _ _
  refine wpAny_bind (wpAny_tryCatch (W.item 0 _ _ _ (Nat.le_of_ble_eq_true rfl) hst0 fun v h1 tk1 hP hst1 hk1 => ?_))
  obtain rfl : Value.ref a = v := Option.some.inj hP
  have hS1 := hk1 S _ hSI' hS0
  show wpAny _ A.in1 (updateSeq S (fun _ => #[.ref a, .ref a]) >>= _) _ _ _
  refine wpAny_bind ?_
  refine wpAny_updateSeq hS1 rfl ?_
  rw [hname]
  have hS2 := Heap.get?_update_self (Obj.mapSeq (fun _ => #[Value.ref a, Value.ref a])) hS1 rfl
  have hk2 : ∀ c o, s.heap.get? c = some o → (h1.update S (Obj.mapSeq (fun _ => #[Value.ref a, Value.ref a]))).get? c = some o := fun c o e =>
    (Heap.get?_update_other _ _ (old c o e).2).trans (hk1 c o (old c o e).1 (hk0 c o e))
  have hst2 := W.frame _ h1 (h1.update S (Obj.mapSeq (fun _ => #[Value.ref a, Value.ref a]))) hst1 fun c hc o e => (Heap.get?_update_other _ _ (by
    rcases List.mem_cons.mp hc with rfl | hc
    · exact hSI
    · rw [List.mem_singleton.mp hc]; exact hSD)).trans e
  generalize h1.update S (Obj.mapSeq (fun _ => #[Value.ref a, Value.ref a])) = H2 at *
  refine wpAny_pure ⟨plainId_quiet F.plain_max_loop _, ?_⟩
  -- the second item
  refine codeAny_builtin F.entry_max_loop ?_
  rw [Around.under_plainId F.plain_max_loop _]
  show wpAny _ A.in1 (seqItems? (.ref S) >>= _) _ _ _
  refine wpAny_bind (wpAny_seqItems hS2 rfl ?_)
  show wpAny _ A.in1 (tryCatch (pyNext (.ref I)) _ >>= _) _ _ _
  refine wpAny_bind (wpAny_tryCatch (W.item 1 _ _ _ (Nat.le_of_ble_eq_true rfl) hst2 fun v h3 tk3 hP3 hst3 hk3 => ?_))
  obtain rfl : Value.ref b = v := Option.some.inj hP3
  have hS3 := hk3 S _ hSI' hS2
  have hk3' : ∀ c o, s.heap.get? c = some o → h3.get? c = some o := fun c o e => hk3 c o (old c o e).1 (hk2 c o e)
  show wpAny _ A.in1 (tryCatch (holding [.ref b, .ref b] (richCompare .Gt (.ref b) (.ref a) >>= _)) _ >>= _) _ _ _
  refine wpAny_bind (wpAny_tryCatch (wpAny_holding (wpAny_bind (cmp_gt (hk3' _ _ (N _ hb).1) (hk3' _ _ (N _ ha).1) (by show A.units + 1 < cLine; unfold cLine; omega) ?_))))
  refine wpAny_bind (wpAny_holding (wpAny_truthy_bool ?_))
  refine wpAny_bind (wpAny_letGo (wpAny_pure ?_))
  have last : ∀ (h4 : Heap) (tk4 : Nat) (r : Addr) (c4 : Nat), (∀ c o, s.heap.get? c = some o → h4.get? c = some o) → (h4.IsListIter I D 2 ∧ h4.IsList D #[.ref a, .ref b]) → h4.get? S = some { cls := .type "list", dict := none, data := .seq #[.ref r, .ref r] c4, slots := #[] } →
      (∀ h' tk', Fr h₀ L h' m → News h₀ L h' news → Q (.ref r) { s with heap := h', toks := tk' }) → codeAny (model prog w) A (.builtin "max.loop" ⟨[.ref I, .none, .ref S], []⟩) (fun r s' => match r with | .ok (.ret v) => Q v s' | .ok _ => False | .error e => E e s') { s with heap := h4, toks := tk4 } := by
    intro h4 tk4 r c4 hk4 hst4 hS4 hQ
    refine codeAny_builtin F.entry_max_loop ?_
    rw [Around.under_plainId F.plain_max_loop _]
    show wpAny _ A.in1 (seqItems? (.ref S) >>= _) _ _ _
    refine wpAny_bind (wpAny_seqItems hS4 rfl ?_)
    show wpAny _ A.in1 (tryCatch (pyNext (.ref I)) _ >>= _) _ _ _
    refine wpAny_bind (wpAny_tryCatch (W.done _ _ _ hst4 fun h5 tk5 hk5 => ?_))
    have hS5 := hk5 S _ hSI' hS4
    show wpAny _ A.in1 (updateSeq S (fun _ => #[]) >>= _) _ _ _
    refine wpAny_bind ?_
    refine wpAny_updateSeq hS5 rfl (wpAny_bind (wpAny_letGo (wpAny_pure ?_)))
    have hk6 : ∀ c o, s.heap.get? c = some o → (h5.update S (Obj.mapSeq (fun _ => #[]))).get? c = some o := fun c o e => (Heap.get?_update_other _ _ (old c o e).2).trans (hk5 c o (old c o e).1 (hk4 c o e))
    exact hQ _ _ (F₀.keeps hk6) (N.grown hk6)
  cases hb9 : gtS (lb.map (·.1)) (la.map (·.1)) with
  | true =>
    simp only [if_true]
    refine wpAny_bind ?_
    refine wpAny_updateSeq hS3 rfl (wpAny_bind (wpAny_letGo ?_))
    rw [hname]
    have hst4 := W.frame _ h3 (h3.update S (Obj.mapSeq (fun _ => #[Value.ref b, Value.ref b]))) hst3 fun c hc o e => (Heap.get?_update_other _ _ (by
      rcases List.mem_cons.mp hc with rfl | hc
      · exact hSI
      · rw [List.mem_singleton.mp hc]; exact hSD)).trans e
    refine wpAny_pure ⟨plainId_quiet F.plain_max_loop _, last _ _ b _ (fun c o e => (Heap.get?_update_other _ _ (old c o e).2).trans (hk3' c o e)) hst4 (Heap.get?_update_self _ hS3 rfl) fun h' tk' F' N' => ?_⟩
    have := ret h' tk' F' N'
    rw [hb9] at this
    exact this
  | false =>
    simp only [Bool.false_eq_true, if_false]
    refine wpAny_bind (wpAny_letGo ?_)
    rw [hname]
    refine wpAny_pure ⟨plainId_quiet F.plain_max_loop _, last _ _ a _ hk3' hst3 hS3 fun h' tk' F' N' => ?_⟩
    have := ret h' tk' F' N'
    rw [hb9] at this
    exact this
end
end Mine
end

-- part M0
section
open PySem PySem.W PyProof.Rows PySem.Calls
set_option Elab.async false
set_option maxRecDepth 100000
set_option maxHeartbeats 8000000
set_option linter.unusedVariables false
namespace Mine

set_option maxRecDepth 100000
namespace MF
theorem slot_init : Slot "map" "__init__" "object.__init__" :=
  .of (owner := "object") (n := "__init__") (by rw [typeLookup_type, builtinLookup_eq_fast]; kernel_rfl) (by decide +kernel) (by decide +kernel) (by decide +kernel)
    (by first | exact .inl (by decide +kernel) | exact .inr (by decide +kernel)) (by rw [isSubtype_type]; kernel_rfl)
theorem slot_iter : Slot "map" "__iter__" "map.__iter__" :=
  .of (owner := "map") (n := "__iter__") (by rw [typeLookup_type, builtinLookup_eq_fast]; kernel_rfl) (by decide +kernel) (by decide +kernel) (by decide +kernel)
    (by first | exact .inl (by decide +kernel) | exact .inr (by decide +kernel)) (by rw [isSubtype_type]; kernel_rfl)
theorem slot_next : Slot "map" "__next__" "map.__next__" :=
  .of (owner := "map") (n := "__next__") (by rw [typeLookup_type, builtinLookup_eq_fast]; kernel_rfl) (by decide +kernel) (by decide +kernel) (by decide +kernel)
    (by first | exact .inl (by decide +kernel) | exact .inr (by decide +kernel)) (by rw [isSubtype_type]; kernel_rfl)
theorem args_iter (a : Value) : argsOk "map.__iter__" ⟨[a], []⟩ := by unfold argsOk; kernel_rfl
theorem args_next (a : Value) : argsOk "map.__next__" ⟨[a], []⟩ := by unfold argsOk; kernel_rfl
theorem args_init3 (a b c : Value) : argsOk "object.__init__" ⟨[a, b, c], []⟩ := by unfold argsOk; kernel_rfl
theorem entry_iter : entryFor table "map.__iter__" = some Builtin.«dict_keyiterator.__iter__» :=
  entryFor_alias (id' := "dict_keyiterator.__iter__") (by kernel_rfl) (by first | rfl | decide +kernel) (by decide +kernel) (by kernel_rfl)
theorem entry_next : entryFor table "map.__next__" = some Builtin.«map.__next__» := entryFor_of_tree (by kernel_rfl)
theorem entry_new : entryFor table "map.__new__" = some Builtin.«map.__new__» := entryFor_of_tree (by kernel_rfl)
theorem mro : mroOf (.type "map") = pure [.type "map", .type "object"] := by rw [mroOf_type]; kernel_rfl
theorem lookup_new : typeLookup (.type "map") "__new__" = pure (some (.builtin "map.__new__")) := by rw [typeLookup_type, builtinLookup_eq_fast]; kernel_rfl
theorem called : TypeCalled "map" "map.__new__" "object.__init__" :=
  ⟨by decide +kernel, by decide +kernel, ⟨_, _, mro⟩, madeBy_type mro lookup_new (by decide +kernel), by decide +kernel, by rw [isSubtype_type]; kernel_rfl, slot_init⟩
theorem typeCall (a b : Value) : checkTypeCall "map" ⟨[a, b], []⟩ = pure () := by kernel_rfl
theorem newCall (a b : Value) : checkBuiltinCall "map.__new__" ⟨[.type "map", a, b], []⟩ = pure () := by kernel_rfl
theorem sub : isSubtype (.type "map") (.type "map") = pure true := by rw [isSubtype_type]; kernel_rfl
theorem no_len : typeLookup (.type "map") "__len__" = pure none := by rw [typeLookup_type, builtinLookup_eq_fast]; kernel_rfl
theorem no_hint : typeLookup (.type "map") "__length_hint__" = pure none := by rw [typeLookup_type, builtinLookup_eq_fast]; kernel_rfl
end MF
noncomputable def mapObj (T fn : Addr) : Obj := { cls := .type "map", data := .fields #[.ref T, .ref fn] }
noncomputable def litObj (l : Addr) (i : Int) : Obj := { cls := .type "list_iterator", data := .fields #[.ref l, .int i 0] }
theorem meets_map_new (fn l : Addr) (items : Array Value) (n : Nat) :
    Meets (Builtin.«map.__new__» ⟨[.type "map", .ref fn, .ref l], []⟩) (fun _ R s => s.heap.get? l = some { cls := .type "list", dict := none, data := .seq items n, slots := #[] } ∧
      R (.ok (.ret (.ref ((s.heap.push (litObj l 0)).push (tupObj #[.ref s.heap.objs.size])).objs.size)))
        { s with heap := ((s.heap.push (litObj l 0)).push (tupObj #[.ref s.heap.objs.size])).push (mapObj (s.heap.push (litObj l 0)).objs.size fn) }) :=
  .of_wp fun prog w A R s h => by
    obtain ⟨hp, g, d, tk, os⟩ := s; obtain ⟨hl, h⟩ := h
    have hsub := MF.sub
    have hL : Heap.IsList (Shared.heap ⟨hp, g, d, tk, os⟩) l items := ⟨_, hl, rfl, n, rfl⟩
    wp_walk using wpAny_pyIter_list hL
    exact ⟨_, rfl, h⟩
section
variable {prog : Program} {w : World} {A : Around} {E : Value → Shared → Prop} {s : Shared} {h₀ : Heap} {L : Addr} {m : Str → Option Value} {news : List (Addr × Obj)}
theorem map_new {l fn : Addr} {its : Array Value} {k : Nat} {Q : Value → Shared → Prop} (F₀ : Fr h₀ L s.heap m) (N : News h₀ L s.heap news) (hm : (l, listOf its k) ∈ news)
    (ret : ∀ M T I h', Fr h₀ L h' m → News h₀ L h' ((M, mapObj T fn) :: (T, tupObj #[.ref I]) :: (I, litObj l 0) :: news) → (∀ p ∈ news, p.1 < I) → I < T → T < M → Q (.ref M) { s with heap := h' }) :
    wpAny (model prog w) A (call (.type "map") [.ref fn, .ref l]) Q E s := by
  refine callType_new MF.called (by decide) (MF.typeCall _ _) (MF.newCall _ _) (fun obj => MF.args_init3 obj _ _) MF.entry_new (meets_map_new fn l its k) ⟨(N _ hm).1, ?_⟩
  have e1 : (s.heap.push (litObj l 0)).objs.size = s.heap.objs.size + 1 := Heap.size_push ..
  have e2 : ((s.heap.push (litObj l 0)).push (tupObj #[.ref s.heap.objs.size])).objs.size = (s.heap.push (litObj l 0)).objs.size + 1 := Heap.size_push ..
  show _ ∧ _
  refine ⟨⟨_, Heap.get?_push_size _ rfl, rfl⟩, ?_⟩
  have up1 : ∀ b o, s.heap.get? b = some o → (((s.heap.push (litObj l 0)).push (tupObj #[.ref s.heap.objs.size])).push (mapObj (s.heap.push (litObj l 0)).objs.size fn)).get? b = some o :=
    fun b o e => Heap.get?_push_of_some _ (Heap.get?_push_of_some _ (Heap.get?_push_of_some _ e))
  have hLlt : @LT.lt Nat _ L s.heap.objs.size := F₀.ns.lt
  have fresh : ∀ b : Nat, s.heap.objs.size ≤ b → b ≠ L ∧ h₀.get? b = none := fun b hb => by
    refine ⟨fun e => by subst e; omega, ?_⟩
    cases e : h₀.get? b with
    | none => rfl
    | some o => exact absurd (Heap.lt_size (F₀.keep b o e)) (Nat.not_lt.mpr hb)
  refine ret ((s.heap.push (litObj l 0)).push (tupObj #[.ref s.heap.objs.size])).objs.size (s.heap.push (litObj l 0)).objs.size s.heap.objs.size _ (F₀.keeps up1) (fun p hp => ?_) (fun p hp => Heap.lt_size (N p hp).1) (by show @LT.lt Nat _ _ _; rw [e1]; exact Nat.lt_succ_self _) (by show @LT.lt Nat _ _ _; rw [e2]; exact Nat.lt_succ_self _)
  rcases List.mem_cons.mp hp with rfl | hp
  · exact ⟨Heap.get?_push_size _ rfl, fresh _ (by rw [e2, e1]; omega)⟩
  rcases List.mem_cons.mp hp with rfl | hp
  · exact ⟨Heap.get?_push_of_some _ (Heap.get?_push_size _ rfl), fresh _ (by rw [e1]; omega)⟩
  rcases List.mem_cons.mp hp with rfl | hp
  · exact ⟨Heap.get?_push_of_some _ (Heap.get?_push_of_some _ (Heap.get?_push_size _ rfl)), fresh _ (Nat.le_refl _)⟩
  · exact ⟨up1 _ _ (N p hp).1, (N p hp).2⟩
end
end Mine
end

-- part M1
section
open PySem PySem.W PyProof.Rows PySem.Calls
set_option Elab.async false
set_option maxRecDepth 100000
set_option maxHeartbeats 8000000
set_option linter.unusedVariables false
namespace Mine

section
variable {prog : Program} {w : World} {A : Around} {E : Value → Shared → Prop} {s : Shared} {h₀ : Heap} {L : Addr} {m : Str → Option Value} {news : List (Addr × Obj)}
/-- what a function that gives its argument back does to the ledger -/
noncomputable def GivesBack (prog : Program) (w : World) (A : Around) (h₀ : Heap) (L : Addr) (m : Str → Option Value) (fn : Addr) (v : Value) : Prop :=
  ∀ (s : Shared) (nw : List (Addr × Obj)) (Q E : Value → Shared → Prop), Fr h₀ L s.heap m → News h₀ L s.heap nw → (∀ h' tk', Fr h₀ L h' m → News h₀ L h' nw → Q v { s with heap := h', toks := tk' }) → wpAny (model prog w) A (call (.ref fn) [v]) Q E s
noncomputable def IsIt (l : Addr) (i : Nat) (o : Obj) : Prop := o.cls = .type "list_iterator" ∧ o.data = .fields #[.ref l, .int i 0]
theorem map_next_item {M T I l fn : Addr} {oI : Obj} {its : Array Value} {k i : Nat} {v : Value} {Q : Option Value → Shared → Prop} (F₀ : Fr h₀ L s.heap m) (N : News h₀ L s.heap ((M, mapObj T fn) :: (T, tupObj #[.ref I]) :: (I, oI) :: news))
    (hi : IsIt l i oI) (hm : (l, listOf its k) ∈ news) (hoI : ∀ p ∈ (M, mapObj T fn) :: (T, tupObj #[.ref I]) :: news, p.1 ≠ I) (hv : its[i]? = some v) (hcall : GivesBack prog w A.in1 h₀ L m fn v)
    (ret : ∀ h' tk' oI', IsIt l (i + 1) oI' → Fr h₀ L h' m → News h₀ L h' ((M, mapObj T fn) :: (T, tupObj #[.ref I]) :: (I, oI') :: news) → Q (some v) { s with heap := h', toks := tk' }) :
    wpAny (model prog w) A (pyNext (.ref M)) Q E s := by
  have hM := (N _ (.head _)).1
  have hTt := (N _ (.tail _ (.head _))).1
  have hI := N _ (.tail _ (.tail _ (.head _)))
  have hl := (N _ (.tail _ (.tail _ (.tail _ hm)))).1
  have hT : s.TypeIs (.ref M) "map" := ⟨_, hM, rfl⟩
  unfold pyNext
  refine wpAny_bind (wpAny_attempt (wpAny_callSpecial?_slot (name := Str.ofString "__next__") hT MF.slot_next
    (wpAny_call_entry MF.slot_next hT MF.entry_next ?_ (MF.args_next _))))
  show wpAny _ A.in1 (field (.ref M) 0 >>= _) _ _ s
  refine wpAny_bind (wpAny_field hM rfl (x := .ref T) rfl ?_)
  refine wpAny_bind (wpAny_seqItems hTt rfl ?_)
  dsimp only
  simp only [← Array.forIn_toList, List.forIn_cons, List.forIn_nil]
  refine wpAny_bind (wpAny_bind (wpAny_bind (wpAny_holding ?_)))
  have hit : s.heap.IsListIter I l i := ⟨_, hI.1, hi⟩
  have hls : s.heap.IsList l its := ⟨_, hl, rfl, _, rfl⟩
  refine wpAny_nextOf_list_item hit hls hv fun h₁ hit₁ hs₁ => wpAny_pure (wpAny_pure ?_)
  obtain ⟨oI₁, hoI₁, hi₁⟩ := hit₁
  have F₁ : Fr h₀ L h₁ m := F₀.change hs₁ hI.2.1 hI.2.2
  have N₁ : News h₀ L h₁ ((M, mapObj T fn) :: (T, tupObj #[.ref I]) :: (I, oI₁) :: news) := by
    intro p hp
    have keep : ∀ q ∈ (M, mapObj T fn) :: (T, tupObj #[.ref I]) :: news, h₁.get? q.1 = some q.2 ∧ q.1 ≠ L ∧ h₀.get? q.1 = none := fun q hq => by
      have z := N q (by
        rcases List.mem_cons.mp hq with rfl | hq
        · exact .head _
        rcases List.mem_cons.mp hq with rfl | hq
        · exact .tail _ (.head _)
        · exact .tail _ (.tail _ (.tail _ hq)))
      exact ⟨hs₁.extBut _ _ (hoI q hq) z.1, z.2⟩
    rcases List.mem_cons.mp hp with rfl | hp
    · exact keep _ (.head _)
    rcases List.mem_cons.mp hp with rfl | hp
    · exact keep _ (.tail _ (.head _))
    rcases List.mem_cons.mp hp with rfl | hp
    · exact ⟨hoI₁, hI.2⟩
    · exact keep _ (.tail _ (.tail _ hp))
  refine wpAny_bind (wpAny_field (N₁ _ (.head _)).1 rfl (x := .ref fn) rfl ?_)
  refine wpAny_bind (wpAny_holding ?_)
  refine hcall _ _ _ _ F₁ N₁ fun h₂ tk₂ F₂ N₂ => ?_
  refine wpAny_bind (wpAny_letGo (wpAny_pure ⟨_, rfl, wpAny_pure ?_⟩))
  exact ret h₂ tk₂ oI₁ hi₁ F₂ N₂
theorem map_next_end {M T I l fn : Addr} {oI : Obj} {its : Array Value} {k i : Nat} {Q : Option Value → Shared → Prop} (hh : A.handled = none) (F₀ : Fr h₀ L s.heap m) (N : News h₀ L s.heap ((M, mapObj T fn) :: (T, tupObj #[.ref I]) :: (I, oI) :: news))
    (hi : IsIt l i oI) (hm : (l, listOf its k) ∈ news) (hoI : ∀ p ∈ (M, mapObj T fn) :: (T, tupObj #[.ref I]) :: news, p.1 ≠ I) (hv : its[i]? = none)
    (ret : ∀ h', Fr h₀ L h' m → News h₀ L h' ((M, mapObj T fn) :: (T, tupObj #[.ref I]) :: news) → Q none { s with heap := h' }) :
    wpAny (model prog w) A (pyNext (.ref M)) Q E s := by
  have hM := (N _ (.head _)).1
  have hTt := (N _ (.tail _ (.head _))).1
  have hI := N _ (.tail _ (.tail _ (.head _)))
  have hl := (N _ (.tail _ (.tail _ (.tail _ hm)))).1
  have hT : s.TypeIs (.ref M) "map" := ⟨_, hM, rfl⟩
  unfold pyNext
  refine wpAny_bind (wpAny_attempt (wpAny_callSpecial?_slot (name := Str.ofString "__next__") hT MF.slot_next
    (wpAny_call_entry MF.slot_next hT MF.entry_next ?_ (MF.args_next _))))
  show wpAny _ A.in1 (field (.ref M) 0 >>= _) _ _ s
  refine wpAny_bind (wpAny_field hM rfl (x := .ref T) rfl ?_)
  refine wpAny_bind (wpAny_seqItems hTt rfl ?_)
  dsimp only
  simp only [← Array.forIn_toList, List.forIn_cons, List.forIn_nil]
  refine wpAny_bind (wpAny_bind (wpAny_bind (wpAny_holding ?_)))
  have hit : s.heap.IsListIter I l i := ⟨_, hI.1, hi⟩
  have hls : s.heap.IsList l its := ⟨_, hl, rfl, _, rfl⟩
  refine wpAny_nextOf_list_end hh hit hls hv fun h₁ e hx₁ hst => ?_
  obtain ⟨oe, hoe, hce⟩ := hst
  refine wpAny_bind (wpAny_isInstance (T := "StopIteration") (b := true) ⟨oe, hoe, hce⟩ isSubtype_stop ?_)
  refine wpAny_pure (ret h₁ ?_ ?_)
  · exact Fr.but (wr := [I]) F₀ (fun b o hb q => hx₁ b o (fun e => hb (e ▸ List.mem_singleton.mpr rfl)) q) (fun q => hI.2.1 (List.mem_singleton.mp q).symm) (fun b hb => by rw [List.mem_singleton.mp hb]; exact hI.2.2)
  · intro q hq
    have z := N q (by
      rcases List.mem_cons.mp hq with rfl | hq
      · exact .head _
      rcases List.mem_cons.mp hq with rfl | hq
      · exact .tail _ (.head _)
      · exact .tail _ (.tail _ (.tail _ hq)))
    exact ⟨hx₁ _ _ (hoI q hq) z.1, z.2⟩
end
end Mine
end

-- part M2
section
open PySem PySem.W PyProof.Rows PySem.Calls
set_option Elab.async false
set_option maxRecDepth 100000
set_option maxHeartbeats 8000000
set_option linter.unusedVariables false
namespace Mine

section
variable {prog : Program} {w : World} {A : Around} {E : Value → Shared → Prop} {s : Shared} {h₀ : Heap} {L : Addr} {m : Str → Option Value} {news : List (Addr × Obj)}
theorem toList_push {its : Array Value} {i : Nat} {v : Value} (h : its[i]? = some v) : (its.toList.take i).toArray.push v = (its.toList.take (i + 1)).toArray := by
  have h' : its.toList[i]? = some v := by simpa using h
  rw [List.take_add_one, h']
  simp
theorem ext_map {R : Result → Shared → Prop} {S M T I l fn : Addr} {its : Array Value} {k : Nat} {res : Value} (hh : A.handled = none) (hm : (l, listOf its k) ∈ news) (hn : its.size ≤ 1000) (hcall : ∀ v ∈ its.toList, GivesBack prog w A.in1.in1 h₀ L m fn v)
    (hoS : ∀ p ∈ (M, mapObj T fn) :: (T, tupObj #[.ref I]) :: news, p.1 ≠ S) (hSI : S ≠ I) (hoI : ∀ p ∈ (M, mapObj T fn) :: (T, tupObj #[.ref I]) :: news, p.1 ≠ I) :
    ∀ (j i : Nat) (s : Shared) (c : Nat) (oI : Obj), its.size - i = j → i ≤ its.size → IsIt l i oI → Fr h₀ L s.heap m → News h₀ L s.heap ((M, mapObj T fn) :: (T, tupObj #[.ref I]) :: (I, oI) :: (S, listOf (its.toList.take i).toArray c) :: news) →
      (∀ h' tk' c', Fr h₀ L h' m → News h₀ L h' ((S, listOf its c') :: news) → R (.ok (.ret res)) { s with heap := h', toks := tk' }) →
      codeAny (model prog w) A (.builtin "list.extend.loop" ⟨[.ref S, .ref M, res], []⟩) R s := by
  have hoI' : ∀ (o : Obj), ∀ p ∈ (M, mapObj T fn) :: (T, tupObj #[.ref I]) :: (S, o) :: news, p.1 ≠ I := fun o p hp => by
    rcases List.mem_cons.mp hp with rfl | hp
    · exact hoI _ (.head _)
    rcases List.mem_cons.mp hp with rfl | hp
    · exact hoI _ (.tail _ (.head _))
    rcases List.mem_cons.mp hp with rfl | hp
    · exact hSI
    · exact hoI _ (.tail _ (.tail _ hp))
  intro j
  induction j with
  | zero =>
    intro i s c oI hk hi hit F₀ N hR
    have hin : i = its.size := by omega
    refine codeAny_builtin F.entry_extend_loop ?_
    rw [Around.under_plainId F.plain_extend_loop _]
    show wpAny _ A.in1 (pyNext (.ref M) >>= _) _ _ s
    refine wpAny_bind (map_next_end hh F₀ N hit (.tail _ hm) (hoI' _) (Array.getElem?_eq_none (by omega)) fun h' F' N' => ?_)
    refine wpAny_pure (hR h' s.toks c F' fun p hp => ?_)
    have e : listOf (its.toList.take i).toArray c = listOf its c := by
      rw [hin, List.take_of_length_le (by simp)]
    rcases List.mem_cons.mp hp with rfl | hp
    · exact e ▸ N' _ (.tail _ (.tail _ (.head _)))
    · exact N' _ (.tail _ (.tail _ (.tail _ hp)))
  | succ j ih =>
    intro i s c oI hk hi hit F₀ N hR
    have hlt : i < its.size := by omega
    have hv : its[i]? = some its[i] := Array.getElem?_eq_getElem hlt
    refine codeAny_builtin F.entry_extend_loop ?_
    rw [Around.under_plainId F.plain_extend_loop _]
    show wpAny _ A.in1 (pyNext (.ref M) >>= _) _ _ s
    refine wpAny_bind (map_next_item F₀ N hit (.tail _ hm) (hoI' _) hv (hcall _ (by simp)) fun h' tk' oI' hit' F' N' => ?_)
    have hS' := (N' _ (.tail _ (.tail _ (.tail _ (.head _)))))
    show wpAny _ A.in1 (updateSeq S (·.push its[i]) >>= _) _ _ _
    refine wpAny_bind ?_
    have hsz : (its.toList.take i).toArray.size = i := by simp; omega
    have h1000 : (2000 : Nat) ≤ sizeLine := Nat.le_of_ble_eq_true rfl
    refine wpAny_updateSeq hS'.1 rfl (wpAny_pure ⟨plainId_quiet F.plain_extend_loop _, ih (i + 1) _ (c + 1) oI' (by omega) hlt hit' ?_ ?_ ?_⟩) (by rw [hsz]; omega) (by show ((its.toList.take i).toArray.push its[i]).size ≤ sizeLine + 1; rw [Array.size_push, hsz]; omega)
    rotate_left 3
    · exact Fr.but (wr := [S]) F' (fun b o hb q => (Heap.get?_update_other _ _ (fun e : S = b => hb (by rw [← e]; exact List.mem_singleton.mpr rfl))).trans q) (fun q => hS'.2.1 (List.mem_singleton.mp q).symm) (fun b hb => by rw [List.mem_singleton.mp hb]; exact hS'.2.2)
    · have keep : ∀ q : Addr × Obj, q.1 ≠ S → h'.get? q.1 = some q.2 ∧ q.1 ≠ L ∧ h₀.get? q.1 = none → (h'.update S (Obj.mapSeq (·.push its[i]))).get? q.1 = some q.2 ∧ q.1 ≠ L ∧ h₀.get? q.1 = none :=
        fun q hq z => ⟨(Heap.get?_update_other _ _ (Ne.symm hq)).trans z.1, z.2⟩
      intro p hp
      rcases List.mem_cons.mp hp with rfl | hp
      · exact keep _ (hoS _ (.head _)) (N' _ (.head _))
      rcases List.mem_cons.mp hp with rfl | hp
      · exact keep _ (hoS _ (.tail _ (.head _))) (N' _ (.tail _ (.head _)))
      rcases List.mem_cons.mp hp with rfl | hp
      · exact keep _ (Ne.symm hSI) (N' _ (.tail _ (.tail _ (.head _))))
      rcases List.mem_cons.mp hp with rfl | hp
      · refine ⟨(Heap.get?_update_self (Obj.mapSeq (·.push its[i])) hS'.1 rfl).trans ?_, hS'.2⟩
        rw [← toList_push hv]
        show some (Obj.mapSeq _ (listOf _ c)) = some (listOf _ (c + 1))
        simp [Obj.mapSeq, W.listOf]
      · exact keep _ (hoS _ (.tail _ (.tail _ hp))) (N' _ (.tail _ (.tail _ (.tail _ (.tail _ hp)))))
    · intro h'' tk'' c'' F'' N''
      exact hR h'' tk'' c'' F'' N''
theorem collect_map {Q : List Value → Shared → Prop} {M T I l fn : Addr} {its : Array Value} {k : Nat} (hh : A.handled = none) (F₀ : Fr h₀ L s.heap m) (N : News h₀ L s.heap ((M, mapObj T fn) :: (T, tupObj #[.ref I]) :: (I, litObj l 0) :: news))
    (hm : (l, listOf its k) ∈ news) (hn : its.size ≤ 1000) (hcall : ∀ v ∈ its.toList, GivesBack prog w A.in1.in1 h₀ L m fn v) (hoI : ∀ p ∈ (M, mapObj T fn) :: (T, tupObj #[.ref I]) :: news, p.1 ≠ I)
    (hQ : ∀ h' tk', Fr h₀ L h' m → News h₀ L h' news → Q its.toList { s with heap := h', toks := tk' }) : wpAny (model prog w) A (collect (.ref M)) Q E s := by
  have lt : ∀ p ∈ (M, mapObj T fn) :: (T, tupObj #[.ref I]) :: (I, litObj l 0) :: news, p.1 ≠ s.heap.objs.size := fun p hp => Nat.ne_of_lt (Heap.lt_size (N p hp).1)
  have hT : ∀ h : Heap, (∀ b o, b ≠ s.heap.objs.size → (s.heap.push { cls := .type "list", data := .seq ([] : List Value).toArray }).get? b = some o → h.get? b = some o) → ∀ tk, ({ s with heap := h, toks := tk } : Shared).TypeIs (.ref M) "map" :=
    fun h hk tk => ⟨_, hk _ _ (lt _ (.head _)) (Heap.get?_push_of_some _ (N _ (.head _)).1), rfl⟩
  unfold collect
  refine wpAny_bind (wpAny_runValue (codeAny_builtin F.entry_proto_collect ?_))
  rw [Around.under_plainId F.plain_proto_collect _]
  show wpAny _ A.in1 (newList [] >>= fun l => again (.builtin "list.__iadd__" ⟨[l, .ref M], []⟩)) _ _ s
  refine wpAny_bind (wpAny_newObj_type ?_)
  refine wpAny_pure ⟨plainId_quiet F.plain_list_iadd _, codeAny_builtin F.entry_list_iadd ?_⟩
  rw [Around.under_plainId F.plain_list_iadd _]
  show wpAny _ A.in1 (Builtin.List.listExtendWith (.ref s.heap.objs.size) (.ref M) (.ref s.heap.objs.size)) _ _ _
  unfold Builtin.List.listExtendWith
  refine wpAny_bind (wpAny_typeOf (hT _ (fun _ _ _ q => q) s.toks) ?_)
  have h1 : Builtin.List.listSameRef (.ref s.heap.objs.size) (.ref M) = false := by
    have := Ne.symm (lt _ (.head _))
    simp [Builtin.List.listSameRef, this]
  have h2 : (Value.type "map" == Value.type "list") = false := by decide
  have h3 : (Value.type "map" == Value.type "tuple") = false := by decide
  simp only [h1, h2, h3, Bool.or_false, Bool.false_eq_true, if_false]
  refine wpAny_bind ?_
  refine wpAny_pyIter_slot (hT _ (fun _ _ _ q => q) s.toks) MF.slot_iter (wpAny_call_entry MF.slot_iter (hT _ (fun _ _ _ q => q) s.toks) MF.entry_iter ?_ (MF.args_iter _))
  show wpAny _ _ (ret (.ref M)) _ _ _
  refine wpAny_pure ⟨_, rfl, "map", _, hT _ (fun _ _ _ q => q) s.toks, MF.slot_next.lookup, ?_⟩
  refine wpAny_bind (wpAny_holding ?_)
  unfold Builtin.List.listLengthHint
  refine wpAny_bind (wpAny_specialOf (hT _ (fun _ _ _ q => q) s.toks) MF.no_len ?_)
  show wpAny _ A.in1 (specialOf (Value.ref M) (Str.ofString "__length_hint__") >>= _) _ _ _
  refine wpAny_bind (wpAny_specialOf (hT _ (fun _ _ _ q => q) s.toks) MF.no_hint ?_)
  refine wpAny_pure ?_
  show wpAny _ A.in1 (rule "list.extend.makes-room" >>= fun _ => Builtin.List.listTouch (.ref s.heap.objs.size) >>= fun _ =>
    again (.builtin "list.extend.loop" ⟨[.ref s.heap.objs.size, .ref M, .ref s.heap.objs.size], []⟩)) _ _ _
  refine wpAny_bind (wpAny_rule ?_)
  have hS₁ : (s.heap.push { cls := .type "list", data := .seq ([] : List Value).toArray }).get? s.heap.objs.size = some { cls := .type "list", data := .seq ([] : List Value).toArray } := Heap.get?_push_size _ rfl
  refine wpAny_bind ?_
  show wpAny _ A.in1 (updateSeq s.heap.objs.size (·.push .none) >>= fun _ => updateSeq s.heap.objs.size (·.pop)) _ _ _
  refine wpAny_bind (wpAny_updateSeq hS₁ rfl ?_)
  have hS₂ := Heap.get?_update_self (Obj.mapSeq (·.push Value.none)) hS₁ rfl
  refine wpAny_updateSeq hS₂ rfl ?_
  have hS₃ := Heap.get?_update_self (Obj.mapSeq (·.pop)) hS₂ rfl
  have oth : ∀ b o, s.heap.get? b = some o →
      (((s.heap.push { cls := .type "list", data := .seq ([] : List Value).toArray }).update s.heap.objs.size (Obj.mapSeq (·.push Value.none))).update s.heap.objs.size (Obj.mapSeq (·.pop))).get? b = some o :=
    fun b o e => (Heap.get?_update_other _ _ (Ne.symm (Nat.ne_of_lt (Heap.lt_size e)))).trans ((Heap.get?_update_other _ _ (Ne.symm (Nat.ne_of_lt (Heap.lt_size e)))).trans (Heap.get?_push_of_some _ e))
  have hSn : h₀.get? s.heap.objs.size = none := by
    cases e : h₀.get? s.heap.objs.size with
    | none => rfl
    | some o => exact absurd (Heap.lt_size (F₀.keep _ o e)) (Nat.lt_irrefl _)
  have hSL : s.heap.objs.size ≠ L := Ne.symm (Nat.ne_of_lt F₀.ns.lt)
  refine wpAny_pure ⟨plainId_quiet F.plain_extend_loop _, ext_map (h₀ := h₀) (L := L) (m := m) (news := news) (its := its) (k := k) hh hm hn hcall ?p1 ?p2 hoI _ 0 _ 2 (litObj l 0) rfl (Nat.zero_le _) ⟨rfl, rfl⟩ (F₀.keeps oth) ?p3 ?p4⟩
  case p1 =>
    intro p hp
    rcases List.mem_cons.mp hp with rfl | hp
    · exact lt _ (.head _)
    rcases List.mem_cons.mp hp with rfl | hp
    · exact lt _ (.tail _ (.head _))
    · exact lt _ (.tail _ (.tail _ (.tail _ hp)))
  case p2 => exact Ne.symm (lt _ (.tail _ (.tail _ (.head _))))
  case p3 =>
    intro p hp
    rcases List.mem_cons.mp hp with rfl | hp
    · exact ⟨oth _ _ (N _ (.head _)).1, (N _ (.head _)).2⟩
    rcases List.mem_cons.mp hp with rfl | hp
    · exact ⟨oth _ _ (N _ (.tail _ (.head _))).1, (N _ (.tail _ (.head _))).2⟩
    rcases List.mem_cons.mp hp with rfl | hp
    · exact ⟨oth _ _ (N _ (.tail _ (.tail _ (.head _)))).1, (N _ (.tail _ (.tail _ (.head _)))).2⟩
    rcases List.mem_cons.mp hp with rfl | hp
    · exact ⟨hS₃, hSL, hSn⟩
    · exact ⟨oth _ _ (N _ (.tail _ (.tail _ (.tail _ hp)))).1, (N _ (.tail _ (.tail _ (.tail _ hp)))).2⟩
  case p4 =>
    intro h' tk' c' F' N'
    show wpAny _ A (load s.heap.objs.size >>= _) _ _ _
    refine wpAny_bind (wpAny_load (N' _ (.head _)).1 ?_)
    exact wpAny_pure (hQ h' tk' F' fun p hp => N' p (.tail _ hp))
end
end Mine
end

-- part M3
section
open PySem PySem.W PyProof.Rows PySem.Calls
set_option Elab.async false
set_option maxRecDepth 100000
set_option maxHeartbeats 8000000
set_option linter.unusedVariables false
namespace Mine

open AutoSeq1 (wpAny_loadPart')
set_option maxRecDepth 100000
section
variable {prog : Program} {w : World} {A : Around} {E : Value → Shared → Prop} {s : Shared} {h₀ : Heap} {L : Addr} {m : Str → Option Value} {news : List (Addr × Obj)}
theorem code_tuple_map {Q₁ : Value → Shared → Prop} {M T I l fn : Addr} {its : Array Value} {k : Nat} (hh : A.handled = none) (F₀ : Fr h₀ L s.heap m) (N : News h₀ L s.heap ((M, mapObj T fn) :: (T, tupObj #[.ref I]) :: (I, litObj l 0) :: news))
    (hm : (l, listOf its k) ∈ news) (hn : its.size ≤ 1000) (hcall : ∀ v ∈ its.toList, GivesBack prog w A.in1.in1.in1 h₀ L m fn v) (hoI : ∀ p ∈ (M, mapObj T fn) :: (T, tupObj #[.ref I]) :: news, p.1 ≠ I)
    (h : ∀ h' tk', Fr h₀ L h' m → News h₀ L h' news → Q₁ (.ref h'.objs.size) { s with heap := h'.push (tupObj its), toks := tk' }) :
    codeAny (model prog w) A (.call (.builtin "tuple.__new__") ⟨[.type "tuple", .ref M], []⟩) (wants Q₁ E) s := by
  refine codeAny_of_tree ?_
  show wpAny _ A.in1 (do checkBuiltinCall "tuple.__new__" ⟨[.type "tuple", .ref M], []⟩; again (.builtin "tuple.__new__" ⟨[.type "tuple", .ref M], []⟩)) _ _ s
  refine wpAny_bind (wpAny_of_eq (F.newCall_tuple_1 _) (wpAny_pure ⟨plainId_quiet F.plain_tuple_new _, codeAny_builtin F.entry_tuple_new ?_⟩))
  rw [Around.under_plainId F.plain_tuple_new _]
  have hsub := sub_tuple_self
  have hinit := init_tuple_lookup
  have hmh := madeHere_tuple
  have hTI : s.TypeIs (.ref M) "map" := ⟨_, (N _ (.head _)).1, rfl⟩
  wp_walk using wpAny_typeOf hTI, collect_map (A := A.in1) (its := its) hh F₀ N hm hn hcall hoI
  intro h' tk' F' N'
  show wpAny _ _ (Builtin.Tuple.tupleExact its.toList.toArray >>= fun v => ret v) _ _ _
  unfold Builtin.Tuple.tupleExact
  have h1000 : (2000 : Nat) ≤ sizeLine := Nat.le_of_ble_eq_true rfl
  refine wpAny_bind (wpAny_newObj_type ?_ (by show its.toList.toArray.size ≤ sizeLine; simp only [Array.toArray_toList]; omega))
  refine wpAny_pure ?_
  have e : its.toList.toArray = its := by simp
  rw [e]
  exact h h' tk' F' N'
theorem call_tuple_map {Q : Value → Shared → Prop} {M T I l fn : Addr} {its : Array Value} {k : Nat} (hh : A.handled = none) (F₀ : Fr h₀ L s.heap m) (N : News h₀ L s.heap ((M, mapObj T fn) :: (T, tupObj #[.ref I]) :: (I, litObj l 0) :: news))
    (hm : (l, listOf its k) ∈ news) (hn : its.size ≤ 1000) (hcall : ∀ v ∈ its.toList, GivesBack prog w A.in1.in1.in1.in1 h₀ L m fn v) (hoI : ∀ p ∈ (M, mapObj T fn) :: (T, tupObj #[.ref I]) :: news, p.1 ≠ I)
    (ret : ∀ D h' tk', Fr h₀ L h' m → News h₀ L h' ((D, tupObj its) :: news) → (∀ p ∈ news, p.1 < D) → Q (.ref D) { s with heap := h', toks := tk' }) :
    wpAny (model prog w) A (call (.type "tuple") [.ref M]) Q E s := by
  refine callType_codes (Q₁ := fun obj s₁ => s₁.TypeIs obj "tuple" ∧ Q obj s₁) F.called_tuple (F.typeCall_tuple_1 _) F.entry_object_init
    (code_tuple_map (A := A.in1) hh F₀ N hm hn hcall hoI fun h' tk' F' N' => ⟨⟨_, Heap.get?_push_size _ rfl, rfl⟩, ret _ _ tk' (F'.push _) ?_ fun p hp => Heap.lt_size (N' p hp).1⟩) fun obj s₁ h₁ => ?_
  · intro p hp
    rcases List.mem_cons.mp hp with rfl | hp
    · refine ⟨Heap.get?_push_size _ rfl, Ne.symm (Nat.ne_of_lt F'.ns.lt), ?_⟩
      cases e : h₀.get? h'.objs.size with
      | none => rfl
      | some o => exact absurd (Heap.lt_size (F'.keep _ o e)) (Nat.lt_irrefl _)
    · exact ⟨Heap.get?_push_of_some _ (N' p hp).1, (N' p hp).2⟩
  · exact ⟨h₁.1, F.args_object_init_2 obj _, object_init_meets F.called_tuple.init.lookup F.called_tuple.made (by decide) prog w A.in1 _ s₁ ⟨h₁.1, rfl, h₁.2⟩⟩
end
section
variable {w : World} {mean : ExcName → Option Value} {mg mb : Str → Option Value} {dp un : Nat} {gd : Option (List Code)} {cn : Str} {cnm : List (Str × NameKind)} {cig cic : Bool} {cmo : List (Str × Const)} {a : Addr} {ccd : Value} {cl : List (Str × Addr)} {outer : List Env} {A₀ : Around} {base h₀ : Heap} {L : Addr} {m : Str → Option Value} {news : List (Addr × Obj)} {s : Shared} {Q E : Value → Shared → Prop}

theorem tuple_map {x y : Str} {t t1 : Tok} {M T' I l : Addr} {k : Nat} (B : Below A₀ base outer h₀) (F₀ : Fr h₀ L s.heap m) (X : (hd.heap_1 w.params).In h₀) (T : Top view (looseW view []) mean mg mb h₀)
    (N : News h₀ L s.heap ((M, mapObj T' 94) :: (T', tupObj #[.ref I]) :: (I, litObj l 0) :: news)) (hm : (l, listOf #[.str x t, .str y t1] k) ∈ news) (off : ∀ p ∈ news, p.1 < I) (h1 : I < T') (h2 : T' < M) (hdp : dp ≤ 700) (hun : un ≤ 7000)
    (ret : ∀ D h' tk', Fr h₀ L h' m → News h₀ L h' ((D, tupObj #[.str x t, .str y t1]) :: news) → (∀ p ∈ news, p.1 < D) → Q (.ref D) { s with heap := h', toks := tk' }) :
    wpAny (model Challenge.rw_pd0152_01.row.prog w) { handled := none, depth := dp, frames := some (envX cn { kind := .function, names := cnm, isGenerator := cig, isCoroutine := cic, more := cmo } L a ccd cl :: outer), guards := gd, units := un } (call (.type "tuple") [.ref M]) Q E s := by
  refine call_tuple_map (its := #[.str x t, .str y t1]) rfl F₀ N hm (Nat.le_of_ble_eq_true rfl) ?_ ?_ ret
  · intro v hv s' nw Q' E' F' N' ret'
    have hv' : ∃ z tz, v = .str z tz := by
      rcases List.mem_cons.mp hv with rfl | hv
      · exact ⟨_, _, rfl⟩
      · rw [List.mem_singleton.mp hv]; exact ⟨_, _, rfl⟩
    obtain ⟨z, tz, rfl⟩ := hv'
    exact fspath_c (dp := dp) (un := un + 1 + 1 + 1 + 1) B F' X N' T (by omega) (by omega) ret'
  · have h1' : @LT.lt Nat _ I T' := h1
    have h2' : @LT.lt Nat _ T' M := h2
    intro p hp
    rcases List.mem_cons.mp hp with rfl | hp
    · exact Ne.symm (Nat.ne_of_lt (Nat.lt_trans h1' h2'))
    rcases List.mem_cons.mp hp with rfl | hp
    · exact Ne.symm (Nat.ne_of_lt h1')
    · exact Nat.ne_of_lt (off p hp)
end
end Mine
end

-- part Q1
section
open PySem PySem.W PyProof.Rows PySem.Calls
set_option Elab.async false
set_option maxRecDepth 100000
set_option maxHeartbeats 8000000
set_option linter.unusedVariables false
namespace Mine

theorem stop_in {P : Prop} (h : Stop P) : P := h
local macro_rules | `(tactic| k_all) => `(tactic| exact neAll_of_lt (by with_reducible assumption) (by show (_ : Nat) ≤ (_ : Nat); omega))
section
variable {w : World} {mean : ExcName → Option Value} {mg mb : Str → Option Value} {dp un : Nat} {gd : Option (List Code)} {cn : Str} {cnm : List (Str × NameKind)} {cig cic : Bool} {cmo : List (Str × Const)} {a : Addr} {ccd : Value} {cl : List (Str × Addr)} {outer : List Env} {A₀ : Around} {base h₀ : Heap} {L : Addr} {m : Str → Option Value} {news : List (Addr × Obj)} {s : Shared} {Q E : Value → Shared → Prop}

theorem common_c {c : Nat} {x y : Str} {t t1 : Tok} {lp : Addr} {k : Nat} (B : Below A₀ base outer h₀) (F : Fr h₀ L s.heap m) (X : (hd.heap_1 w.params).In h₀) (N : News h₀ L s.heap news) (T : Top view (looseW view []) mean mg mb h₀) (hdp : dp ≤ 600) (hun : un ≤ 6000) (hm : (lp, listOf #[.str x t, .str y t1] k) ∈ news) (hx : x.length ≤ 1000) (hy : y.length ≤ 1000)
    (hcx : ∀ c ∈ Txt.split x (Str.ofString "/"), c ≠ Str.ofString "" ∧ c ≠ Str.ofString ".") (hcy : ∀ c ∈ Txt.split y (Str.ofString "/"), c ≠ Str.ofString "" ∧ c ≠ Str.ofString ".")
    (hsx : Txt.startswith x (Str.ofString "/") = false) (hsy : Txt.startswith y (Str.ofString "/") = false) (hpa : PartAt (Txt.split x (Str.ofString "/")) (Txt.split y (Str.ofString "/")) c)
    (ret : ∀ t h' tk', Fr h₀ L h' m → News h₀ L h' news → Q (.str (Txt.join (Str.ofString "/") ((Txt.split x (Str.ofString "/")).take c)) t) { s with heap := h', toks := tk' }) :
    wpAny (model Challenge.rw_pd0152_01.row.prog w) { handled := none, depth := dp, frames := some (envX cn { kind := .function, names := cnm, isGenerator := cig, isCoroutine := cic, more := cmo } L a ccd cl :: outer), guards := gd, units := un } (call (.ref 141) [.ref lp]) Q E s := by
  k_with_none
  k_with "call ref" => (k_here; (with_reducible show wpAny _ _ (call (Value.ref 94) _) _ _ _); k_dflt (refine' fspath_c ?zqk1 ?zqk2 ?zqk3 ?zqk4 ?zqk5 ?zqk6 ?zqk7 ?_; (case zqk1 => k_asm); (case zqk2 => k_asm); (case zqk3 => k_asm); (case zqk4 => k_asm); (case zqk5 => k_asm); (case zqk6 => exact Nat.le_of_ble_eq_true rfl); (case zqk7 => exact Nat.le_of_ble_eq_true rfl); k_whole); intro zqh' zqtk' zqF' zqN'; (try dsimp only); (try k_fold))
  k_with "call builtin:min" => (k_here; refine stop_in ?_)
  k_with "call builtin:max" => (k_here; refine stop_in ?_)
  k_with "subscriptTail Name Slice ref ref" => (k_here; refine stop_in ?_)
  k_with "call type:map" => (k_here; k_dflt (refine' map_new ?zqk1 ?zqk2 ?zqk3 ?_; (case zqk1 => k_asm); (case zqk2 => k_asm); (case zqk3 => exact List.mem_cons_of_mem _ (List.mem_cons_of_mem _ (by with_reducible assumption))); k_whole); intro zqM' zqT' zqI' zqh' zqF' zqN' zql1 zql2 zql3; (try dsimp only))
  k_with "call type:tuple" => (k_here; k_dflt (refine' tuple_map ?zqk1 ?zqk2 ?zqk3 ?zqk4 ?zqk5 ?zqk6 ?zqk7 ?zqk8 ?zqk9 ?zqk10 ?zqk11 ?_; (case zqk1 => k_asm); (case zqk2 => k_asm); (case zqk3 => k_asm); (case zqk4 => k_asm); (case zqk5 => k_asm); (case zqk6 => exact List.mem_cons_of_mem _ (List.mem_cons_of_mem _ (by with_reducible assumption))); (case zqk7 => with_reducible assumption); (case zqk8 => with_reducible assumption); (case zqk9 => with_reducible assumption); (case zqk10 => exact Nat.le_of_ble_eq_true rfl); (case zqk11 => exact Nat.le_of_ble_eq_true rfl); k_whole); intro zqD' zqh' zqtk' zqF' zqN' zql1; (try k_lt zql1); (try k_sweep); (try dsimp only); (try k_fold))
  k_with "exec For Tuple Call" => (k_here; k_dflt (refine forStmt ?_))
  k_with "exec Try" => (k_here; k_dflt (refine wpAny_Try_except ?_))
  k_with "exec Assign cons ListComp" => (k_here; (with_reducible show wpAny _ _ (exec (Stmt.Assign _ (Expr.ListComp (Expr.ListComp _ _ _ _) _ _ _) _) _) _ _ _); k_dflt (refine assign_comp_stop (F₀ := by k_asm) (by rfl) (by with_unfolding_all rfl) (by with_unfolding_all rfl) (by decide) (by rfl) (by decide) (by rfl) (by rfl) (by rfl) ?_))
  k_with "eval ListComp" => (k_here; (with_reducible show wpAny _ _ (eval (Expr.ListComp _ [⟨_, _, [_], _⟩] _ _) _) _ _ _); k_dflt (refine test_comp_stop (F₀ := by k_asm) (by with_unfolding_all rfl) (by decide) (by rfl) (by decide) (by rfl) ?_))
  k_with "exec Assign cons ListComp" => (k_here; (with_reducible show wpAny _ _ (exec (Stmt.Assign _ (Expr.ListComp (Expr.Call _ _ _ _) _ _ _) _) _) _ _ _); k_dflt (refine assign_comp_tup (F₀ := by k_asm) (by rfl) (by with_unfolding_all rfl) (by with_unfolding_all rfl) (by decide) (by rfl) (by decide) (by rfl) (by rfl) (by rfl) ?_))
  k_with "eval SetComp" => (k_here; k_dflt (refine SetComp_F (F₀ := by k_asm) (by with_unfolding_all rfl) (by decide) (by rfl) (by decide) (by rfl) ?_))
  k_with "assign Tuple" => (k_here; k_dflt (refine' assign_setF (by rfl) ?zqk1 ?zqk2 ?zqk3 ?zqk4 (by rfl) (by rfl) (by rfl) ?_; (case zqk1 => k_asm); (case zqk2 => k_asm); (case zqk3 => exact .head _); (case zqk4 => with_reducible assumption); k_whole); intro zqh' zqtk' zqF' zqN'; (try dsimp only))
  revert X; k_fill; intro X
  refine upto hdp hun ?_
  k_steps
  with_reducible rename Fr _ _ _ _ => F₂
  with_reducible rename News _ _ _ _ => N₂
  unfold Stop
  refine ⟨_, _, _, rfl, rfl, F₂, N₂, .head _, Nat.le_of_ble_eq_true rfl, fun g => ?_⟩
  refine LCg.CompRest.succ ?_
  intro v1 I5 oI5 C5 oC5 D5 m5 h5 tk5 E5 hv5 hn5 hm5 F5 N5 off5 ne5
  have l5 := fun p hp => Nat.ne_of_lt (Heap.lt_size (N5 p hp).1)
  obtain rfl : Value.str x t = v1 := Option.some.inj hv5
  k_steps
  with_reducible rename Fr _ _ _ _ => F6
  with_reducible rename News _ _ _ _ => N6
  with_reducible rename List (Str × Tok) => lx
  with_reducible rename List.map _ _ = Txt.split _ _ => hlx
  refine compEnd_new F6 N6 l5 off5 ?_ ?_
  · exact .tail _ (.head _)
  refine LCg.CompRest.succ ?_
  intro v2 I7 oI7 C7 oC7 D7 m7 h7 tk7 E7 hv7 hn7 hm7 F7 N7 off7 ne7
  have l7 := fun p hp => Nat.ne_of_lt (Heap.lt_size (N7 p hp).1)
  obtain rfl : Value.str y t1 = v2 := Option.some.inj hv7
  k_steps
  with_reducible rename Fr _ _ _ _ => F8
  with_reducible rename News _ _ _ _ => N8
  with_reducible rename List (Str × Tok) => ly
  with_reducible rename List.map _ _ = Txt.split _ _ => hly
  refine compEnd_new F8 N8 l7 off7 ?_ ?_
  · exact .tail _ (.tail _ (.head _))
  refine LCg.CompRest.zero ?_
  k_steps
  with_reducible rename Fr _ _ _ _ => F₃
  with_reducible rename News _ _ _ _ => N₃
  unfold Stop
  refine ⟨_, _, _, rfl, rfl, F₃, N₃, .tail _ (.tail _ (.tail _ (.head _))), Nat.le_of_ble_eq_true rfl, Nat.le_of_ble_eq_true rfl, ?_, ?_⟩
  · intro i v3 I9 oI9 C9 oC9 D9 oD9 m9 h9 tk9 g9 E9 hv9 hn9 hm9 F9 N9 off9 ne9
    have hv9' : v3 = .str x t ∨ v3 = .str y t1 := by
      match i, hv9 with
      | 0, e => exact .inl (Option.some.inj e).symm
      | 1, e => exact .inr (Option.some.inj e).symm
      | _ + 2, e => cases e
    rcases hv9' with rfl | rfl
    · k_steps
      exact LCg.CompEnd.intro F9 N9 _ (fun p hp => hp) off9 trivial ⟨rfl, by first | rw [hsx] | rw [hsy]⟩
    · k_steps
      exact LCg.CompEnd.intro F9 N9 _ (fun p hp => hp) off9 trivial ⟨rfl, by first | rw [hsx] | rw [hsy]⟩
  · intro D10 o10 h10 tk10 ho10 F10 N10 l10
    k_lt l10
    k_steps
    with_reducible rename Fr _ _ _ _ => F11
    with_reducible rename News _ _ _ _ => N11
    unfold Stop
    refine LCg.CompSrc.ledger rfl F11 N11 (.tail _ (.head _)) (Nat.le_of_ble_eq_true rfl) fun g11 => ?_
    refine LCg.CompRest.succ ?_
    intro v12 I12 oI12 C12 oC12 D12 m12 h12 tk12 E12 hv12 hn12 hm12 F12 N12 off12 ne12
    have l12 := fun p hp => Nat.ne_of_lt (Heap.lt_size (N12 p hp).1)
    obtain rfl : Value.ref _ = v12 := Option.some.inj hv12
    k_steps
    with_reducible rename Fr _ _ _ _ => F13
    with_reducible rename News _ _ _ _ => N13
    unfold Stop
    have hlen0 : lx.length ≤ 1001 := by
      have h1 := split_len x
      rw [← hlx, List.length_map] at h1
      omega
    refine src_all (l := lx) rfl F13 N13 (by repeat (first | exact .head _ | refine .tail _ ?_)) hlen0 ?_ ?_
    · intro u t14 I14 oI14 C14 oC14 D14 ys14 m14 h14 tk14 g14 E14 hu14 hn14 hm14 F14 N14 off14 ne14
      rw [hlx] at hu14
      have f9 := hcx u hu14
      have f3 : ¬ (u.length : Int) = 0 := fun e => f9.1 (str_len0.mp (by omega))
      have f4 : (u != Str.ofString ".") = true := by simpa using f9.2
      have f2 : u.length ≤ 1000 := Nat.le_trans (split_mem_len hu14) hx
      clear f9
      k_steps
      · exact LCg.CompEnd.intro F14 N14 _ (fun p hp => hp) off14 (.inr ⟨_, by repeat (first | exact .head _ | refine .tail _ ?_), rfl, _, rfl⟩) ⟨rfl, _, rfl⟩
      · exact absurd (by with_reducible assumption) f3
    intro g15 l15 hl15
    k_steps
    with_reducible rename Fr _ _ _ _ => F16
    with_reducible rename News _ _ _ _ => N16
    refine compEnd_new F16 N16 (fun p hp => ?_) off12 ?_ ?_
    · with_reducible rename (@Ne Nat I12 _ ∧ _) => o16
      refine off1_mem ?_ p hp
      exact o16
    · exact .inr ⟨_, by repeat (first | exact .head _ | refine .tail _ ?_), rfl, _, rfl⟩
    refine LCg.CompRest.succ ?_
    intro v17 I17 oI17 C17 oC17 D17 m17 h17 tk17 E17 hv17 hn17 hm17 F17 N17 off17 ne17
    obtain rfl : Value.ref _ = v17 := Option.some.inj hv17
    k_steps
    with_reducible rename Fr _ _ _ _ => F18
    with_reducible rename News _ _ _ _ => N18
    unfold Stop
    have hlen1 : ly.length ≤ 1001 := by
      have h1 := split_len y
      rw [← hly, List.length_map] at h1
      omega
    refine src_all (l := ly) rfl F18 N18 (by repeat (first | exact .head _ | refine .tail _ ?_)) hlen1 ?_ ?_
    · intro u t14 I14 oI14 C14 oC14 D14 ys14 m14 h14 tk14 g14 E14 hu14 hn14 hm14 F14 N14 off14 ne14
      rw [hly] at hu14
      have f9 := hcy u hu14
      have f3 : ¬ (u.length : Int) = 0 := fun e => f9.1 (str_len0.mp (by omega))
      have f4 : (u != Str.ofString ".") = true := by simpa using f9.2
      have f2 : u.length ≤ 1000 := Nat.le_trans (split_mem_len hu14) hy
      clear f9
      k_steps
      · exact LCg.CompEnd.intro F14 N14 _ (fun p hp => hp) off14 (.inr ⟨_, by repeat (first | exact .head _ | refine .tail _ ?_), rfl, _, rfl⟩) ⟨rfl, _, rfl⟩
      · exact absurd (by with_reducible assumption) f3
    intro g19 l19 hl19
    k_steps
    with_reducible rename Fr _ _ _ _ => F20
    with_reducible rename News _ _ _ _ => N20
    refine compEnd_new F20 N20 (fun p hp => ?_) off17 ?_ ?_
    · with_reducible rename (@Ne Nat I17 _ ∧ _) => o20
      refine off1_mem ?_ p hp
      exact o20
    · exact .inr ⟨_, by repeat (first | exact .head _ | refine .tail _ ?_), rfl, _, rfl⟩
    refine LCg.CompRest.zero ?_
    k_steps
    with_reducible rename Fr _ _ _ _ => F21
    with_reducible rename News _ _ _ _ => N21
    have hlen5 : l15.length ≤ 1001 := by
      have := congrArg List.length hl15
      simp only [List.length_map] at this
      omega
    have hlen9 : l19.length ≤ 1001 := by
      have := congrArg List.length hl19
      simp only [List.length_map] at this
      omega
    unfold Stop
    refine min_two (la := l15) (lb := l19) rfl (Nat.le_of_ble_eq_true rfl) F21 N21 (.head _) (.tail _ (.tail _ (.head _))) (.tail _ (.head _)) ?_
    intro h22 tk22 F22 N22
    have hcc : PartAt (l15.map (·.1)) (l19.map (·.1)) c := by rw [hl15, hlx, hl19, hly]; exact hpa
    obtain ⟨r1, r2, l1, l2, k1, k2, hr1, hr2, hm1, hm2, hpk⟩ := pick2 N22 (la := l15) (lb := l19) (.tail _ (.tail _ (.head _))) (.tail _ (.head _)) hlen5 hlen9 hcc
    rw [hl15, hlx] at hpk
    rw [hr1]
    k_steps
    with_reducible rename Fr _ _ _ _ => F23
    with_reducible rename News _ _ _ _ => N23
    unfold Stop
    refine max_two (la := l15) (lb := l19) rfl (Nat.le_of_ble_eq_true rfl) F23 N23 (.head _) (.tail _ (.tail _ (.head _))) (.tail _ (.head _)) ?_
    intro h24 tk24 F24 N24
    rw [hr2]
    k_steps
    with_reducible rename Fr _ _ _ _ => F25
    with_reducible rename News _ _ _ _ => N25
    obtain ⟨m0, hm0, F25⟩ := Fr.named F25
    obtain ⟨nw, hnw, N25⟩ := News.named N25
    refine enum_loop (its := (strValues l1).toArray) (k := k1) rfl rfl rfl rfl rfl (enJ c m0 nw) ?_ F25 N25 ?_ ?_ ?_
    · rintro i m' news' ⟨_, _, rfl⟩
      subst hnw
      exact hm1
    · exact ⟨Nat.zero_le _, ⟨_, _, eMap_self⟩, rfl⟩
    · rintro i v ti m' news' h tk cells hv ⟨hic, ⟨ui, uc, rfl⟩, rfl⟩ F26 N26 off26
      obtain ⟨p, hp, rfl⟩ := strValues_at hv
      subst hnw
      subst hm0
      dsimp only [eMap] at F26
      have hi1 : i ≤ 2000 := by
        have h1 := hpk.len1
        have h2 := (List.getElem?_eq_some_iff.mp hp).1
        omega
      by_cases hi : i < c
      · obtain ⟨u, t9, t9', e1, e2⟩ := hpk.same i hi
        have ep : p = (u, t9) := Option.some.inj (hp.symm.trans e1)
        subst ep
        have hs2 : (strValues l2).toArray[i]? = some (.str u t9') := by simp [strValues, e2]
        have hne : (u != u) = false := by simp
        k_steps
        with_reducible rename News _ _ _ (_ ++ cells) => N27
        refine item_led N27 (List.mem_append_left _ hm2) hs2 (by omega) ?_
        k_steps
        with_reducible rename Fr _ _ _ _ => F28
        with_reducible rename News _ _ _ (_ ++ cells) => N28
        refine GTurned.mk F28 N28 off26 ⟨hi, ⟨?_, ?_, ?pA⟩, rfl⟩
        case pA => exact eMap_A
      · have hci : i = c := by omega
        subst hci
        rcases hpk.part with e9 | ⟨u, v9, t9, t9', e1, e2, hne9⟩
        · have := (List.getElem?_eq_some_iff.mp hp).1
          exfalso
          omega
        have ep : p = (u, t9) := Option.some.inj (hp.symm.trans e1)
        subst ep
        have hs2 : (strValues l2).toArray[i]? = some (.str v9 t9') := by simp [strValues, e2]
        have hne : (u != v9) = true := by simpa using hne9
        k_steps
        with_reducible rename News _ _ _ (_ ++ cells) => N27
        refine item_led N27 (List.mem_append_left _ hm2) hs2 (by omega) ?_
        k_steps
        with_reducible rename Fr _ _ _ _ => F28
        with_reducible rename News _ _ _ (_ ++ cells) => N28
        unfold Stop
        refine slice_led F28 N28 (List.mem_append_left _ hm1) hpk.len1 ?_
        intro D29 h29 F29 N29 l29
        k_steps
        dsimp only [EnumPost]
        k_steps
        with_reducible rename Fr _ _ _ _ => F30
        with_reducible rename News _ _ _ _ => N30
        refine SC.join (News.lst N30 (.head _)) (by rw [List.map_take]; exact hpk.take) (take_joinOk _ hx) ?_
        intro t31 k31
        have hj31 : (Txt.join (Str.ofString "/") ((Txt.split x (Str.ofString "/")).take i)).length ≤ 500000 := Nat.le_trans (join_take_len x i) (by omega)
        k_steps
        rw [ofString_empty_append]
        exact ret _ _ _ (by k_asm) (cb_drop (by with_reducible assumption) fun p hp => .tail _ (List.mem_append_left _ (by repeat (first | exact hp | refine .tail _ ?_))))
    · rintro m' news' h tk ⟨hic, ⟨ui, uc, rfl⟩, rfl⟩ F26 N26
      subst hnw
      subst hm0
      dsimp only [eMap] at F26
      k_steps
      with_reducible rename Fr _ _ _ _ => F30
      with_reducible rename News _ _ _ _ => N30
      have hcl : c = l1.length := by
        have h1 := hpk.le
        have h2 : (strValues l1).toArray.size = l1.length := by simp [strValues]
        omega
      refine SC.join (News.lst N30 hm1) (by rw [← hpk.take, hcl]; exact (List.take_of_length_le (by simp)).symm) (take_joinOk _ hx) ?_
      intro t31 k31
      have hj31 : (Txt.join (Str.ofString "/") ((Txt.split x (Str.ofString "/")).take c)).length ≤ 500000 := Nat.le_trans (join_take_len x c) (by omega)
      k_steps
      rw [ofString_empty_append]
      exact ret _ _ _ (by k_asm) (cb_drop (by with_reducible assumption) fun p hp => by repeat (first | exact hp | refine .tail _ ?_))
end
end Mine
end

-- part Z0
section
open PySem PySem.W PyProof.Rows PySem.Calls
set_option Elab.async false
set_option maxRecDepth 100000
set_option maxHeartbeats 8000000
set_option linter.unusedVariables false
namespace Mine

section
variable {prog : Program} {w : World} {A : Around} {E : Value → Shared → Prop} {s : Shared} {h₀ : Heap} {L : Addr} {m : Str → Option Value} {news : List (Addr × Obj)}
theorem slice_ints {value slice : Expr} {l : Addr} {vs : List Value} {ns : List Int} {vl vu vk : Value} {lo hi st : Option Int} {ops : List Value} {Q : Value → Shared → Prop} (F : Fr h₀ L s.heap m) (N : News h₀ L s.heap news) (hl : h₀.IsList l vs.toArray) (hi' : IntsAre vs ns) (hz : vs.length ≤ 1000)
    (pl : IsPart vl lo) (pu : IsPart vu hi) (pk : IsPart vk st) (h0 : st ≠ some 0)
    (h : ∀ D h' zs ms, IntsAre zs ms → Fr h₀ L h' m → News h₀ L h' ((D, listOf zs.toArray 0) :: news) → (∀ p ∈ news, p.1 < D) → Q (.ref D) { s with heap := h' })
    (hs : subscripted slice false (.ref l) (.ref s.heap.objs.size) = operate ops (getItem (.ref l) (.ref s.heap.objs.size))) (ht : ∀ r, letTemporaryGo value (.ref l) r = pure ()) :
    wpAny (model prog w) A (subscriptTail value slice (.ref l) (.ref s.heap.objs.size)) Q E { s with heap := s.heap.push { cls := .type "slice", data := .fields #[vl, vu, vk] } } := by
  have h1000 : (1000 : Nat) ≤ sizeLine := Nat.le_of_ble_eq_true rfl
  refine kmk_slice3_lit F N (F.lst hl) pl pu pk h0 rfl (fun D h' F' N' l1 => h D h' _ _ (intsAre_ofList _ fun v hv => ?_) F' N' l1) hs ht (by simp; omega)
  unfold slicePick at hv
  simp only [List.mem_filterMap] at hv
  obtain ⟨i, _, hv⟩ := hv
  obtain ⟨n, t, e, _⟩ := IntsAre.at hi' i v (by simpa using hv)
  exact ⟨n, t, e⟩
end
noncomputable def NameS (x : Str) : Prop := ∃ cs, NameL cs ∧ x = ⟨cs.toArray⟩
theorem NameS.len {x : Str} (h : NameS x) : x.length ≤ 3 := by
  obtain ⟨cs, hc, rfl⟩ := h
  have := hc.1
  show cs.toArray.size ≤ 3
  simpa using this
section
variable {w : World} {mean : ExcName → Option Value} {mg mb : Str → Option Value} {dp un : Nat} {gd : Option (List Code)} {cn : Str} {cnm : List (Str × NameKind)} {cig cic : Bool} {cmo : List (Str × Const)} {a : Addr} {ccd : Value} {cl : List (Str × Addr)} {outer : List Env} {A₀ : Around} {base h₀ : Heap} {L : Addr} {m : Str → Option Value} {news : List (Addr × Obj)} {s : Shared} {Q E : Value → Shared → Prop}

theorem lname_d {z : Int} {t : Tok} (B : Below A₀ base outer h₀) (F : Fr h₀ L s.heap m) (X : (hd.heap_1 w.params).In h₀) (N : News h₀ L s.heap news) (T : Top view (looseW view []) mean mg mb h₀) (hdp : dp ≤ 700) (hun : un ≤ 7000) (h0 : 0 ≤ z) (hz : z < 864)
    (ret : ∀ x t h' tk', NameS x → x.length ≤ 3 → Fr h₀ L h' m → News h₀ L h' news → Q (.str x t) { s with heap := h', toks := tk' }) :
    wpAny (model Challenge.rw_pd0152_01.row.prog w) { handled := none, depth := dp, frames := some (envX cn { kind := .function, names := cnm, isGenerator := cig, isCoroutine := cic, more := cmo } L a ccd cl :: outer), guards := gd, units := un } (call (.ref 174) [.int z t]) Q E s :=
  lname_c B F X N T hdp hun h0 hz fun cs t h' tk' hc => ret _ t h' tk' ⟨cs, hc, rfl⟩ (NameS.len ⟨cs, hc, rfl⟩)
end
noncomputable def lMap (m0 : Str → Option Value) (uk un ux : Option Value) : Str → Option Value := fun y =>
  if y = Str.ofString "x" then ux else if y = Str.ofString "name" then un else if y = Str.ofString "k" then uk else m0 y
theorem lMap_self {m0 : Str → Option Value} : m0 = lMap m0 (m0 (Str.ofString "k")) (m0 (Str.ofString "name")) (m0 (Str.ofString "x")) := by
  refine map_ext [Str.ofString "x", Str.ofString "name", Str.ofString "k"] ?_ ?_
  · simp only [List.forall_mem_cons]
    exact ⟨rfl, rfl, rfl, fun _ h => nomatch h⟩
  · intro y hy
    simp only [List.mem_cons, not_or, List.not_mem_nil, not_false_eq_true, and_true] at hy
    obtain ⟨a1, a2, a3⟩ := hy
    simp [lMap, a1, a2, a3]
theorem lMap_A {m0 : Str → Option Value} {uk un ux vk vn vx : Option Value} : (fun y => if y = Str.ofString "x" then vx else if y = Str.ofString "name" then vn else if y = Str.ofString "k" then vk else if y = Str.ofString "x" then ux else if y = Str.ofString "name" then un else if y = Str.ofString "k" then uk else m0 y) = lMap m0 vk vn vx := by
  refine map_ext [Str.ofString "x", Str.ofString "name", Str.ofString "k"] ?_ ?_
  · simp only [List.forall_mem_cons]
    exact ⟨rfl, rfl, rfl, fun _ h => nomatch h⟩
  · intro y hy
    simp only [List.mem_cons, not_or, List.not_mem_nil, not_false_eq_true, and_true] at hy
    obtain ⟨a1, a2, a3⟩ := hy
    simp [lMap, a1, a2, a3]
noncomputable def lawJ (m0 : Str → Option Value) (lf ls : Addr) (cells : List (Addr × Obj)) (g : Array GenState) (i : Nat) (m' : Str → Option Value) (news' : List (Addr × Obj)) (g' : Array GenState) : Prop :=
  g' = g ∧ (∃ uk un ux, m' = lMap m0 uk un ux) ∧ ∃ l1 l2 n1 n2, news' = (ls, listOf (strValues l2).toArray n2) :: (lf, listOf (strValues l1).toArray n1) :: cells ∧ l1.length = i ∧ l2.length = i ∧ (∀ p ∈ l1, NameS p.1) ∧ (∀ p ∈ l2, NameS p.1)
theorem News.named3 {h₀ h : Heap} {L a b : Addr} {o1 o2 : Obj} {rest : List (Addr × Obj)} (N : News h₀ L h ((b, o2) :: (a, o1) :: rest)) : ∃ ls lf cells, ls = b ∧ lf = a ∧ cells = rest ∧ News h₀ L h ((ls, o2) :: (lf, o1) :: cells) := ⟨b, a, rest, rfl, rfl, rfl, N⟩
theorem half_lo (z : Int) : 0 ≤ (z.fmod 1728).fdiv 2 := by
  rw [Int.fmod_eq_emod_of_nonneg _ (by decide), Int.fdiv_eq_ediv_of_nonneg _ (by decide)]
  omega
theorem half_hi (z : Int) : (z.fmod 1728).fdiv 2 < 864 := by
  rw [Int.fmod_eq_emod_of_nonneg _ (by decide), Int.fdiv_eq_ediv_of_nonneg _ (by decide)]
  omega
theorem list3 {l : List (Str × Tok)} (h : l.length = 3) : ∃ a1 t1 a2 t2 a3 t3, l = [(a1, t1), (a2, t2), (a3, t3)] := by
  match l, h with
  | [(a1, t1), (a2, t2), (a3, t3)], _ => exact ⟨a1, t1, a2, t2, a3, t3, rfl⟩
theorem names_snoc {l : List (Str × Tok)} {x : Str} {t : Tok} (h : ∀ p ∈ l, NameS p.1) (hx : NameS x) : ∀ p ∈ l ++ [(x, t)], NameS p.1 := fun p hp => by
  rcases List.mem_append.mp hp with hp | hp
  · exact h p hp
  · rw [List.mem_singleton.mp hp]; exact hx
end Mine
end

-- part Y0
section
open PySem PySem.W PyProof.Rows PySem.Calls
set_option Elab.async false
set_option maxRecDepth 100000
set_option maxHeartbeats 8000000
set_option linter.unusedVariables false
namespace Mine

theorem map3 {l : List (Str × Tok)} {a b c : Str} (h : l.map (·.1) = [a, b, c]) : ∃ u v w, l = [(a, u), (b, v), (c, w)] := by
  match l, h with
  | [(y1, u1), (y2, u2), (y3, u3)], e =>
    simp only [List.map_cons, List.map_nil, List.cons.injEq, and_true] at e
    obtain ⟨rfl, rfl, rfl⟩ := e
    exact ⟨u1, u2, u3, rfl⟩
theorem map4 {l : List (Str × Tok)} {a b c d : Str} (h : l.map (·.1) = [a, b, c, d]) : ∃ u v w z, l = [(a, u), (b, v), (c, w), (d, z)] := by
  match l, h with
  | [(y1, u1), (y2, u2), (y3, u3), (y4, u4)], e =>
    simp only [List.map_cons, List.map_nil, List.cons.injEq, and_true] at e
    obtain ⟨rfl, rfl, rfl, rfl⟩ := e
    exact ⟨u1, u2, u3, u4, rfl⟩
noncomputable def P3 (a b c : Str) : Str := pathF [a, b, c]
noncomputable def tornS (x : Str) : Str := Txt.slice x none (some (-1))
section
variable {w : World} {mean : ExcName → Option Value} {mg mb : Str → Option Value} {dp un : Nat} {gd : Option (List Code)} {cn : Str} {cnm : List (Str × NameKind)} {cig cic : Bool} {cmo : List (Str × Const)} {a : Addr} {ccd : Value} {cl : List (Str × Addr)} {outer : List Env} {A₀ : Around} {base h₀ : Heap} {L : Addr} {m : Str → Option Value} {news : List (Addr × Obj)} {s : Shared} {Q E : Value → Shared → Prop}

theorem path_d {a1 a2 a3 : Str} {t1 t2 t3 : Tok} {ln : Addr} {k : Nat} (B : Below A₀ base outer h₀) (F : Fr h₀ L s.heap m) (X : (hd.heap_1 w.params).In h₀) (N : News h₀ L s.heap news) (T : Top view (looseW view []) mean mg mb h₀) (hdp : dp ≤ 700) (hun : un ≤ 7000) (hm : (ln, listOf (strValues [(a1, t1), (a2, t2), (a3, t3)]).toArray k) ∈ news)
    (h1 : a1.length ≤ 3) (h2 : a2.length ≤ 3) (h3 : a3.length ≤ 3)
    (ret : ∀ t h' tk', Fr h₀ L h' m → News h₀ L h' news → Q (.str (P3 a1 a2 a3) t) { s with heap := h', toks := tk' }) :
    wpAny (model Challenge.rw_pd0152_01.row.prog w) { handled := none, depth := dp, frames := some (envX cn { kind := .function, names := cnm, isGenerator := cig, isCoroutine := cic, more := cmo } L a ccd cl :: outer), guards := gd, units := un } (call (.ref 186) [.ref ln]) Q E s :=
  path_c B F X N T hdp hun hm (Nat.le_refl _) (by
    intro p hp
    simp only [List.mem_cons, List.not_mem_nil, or_false] at hp
    rcases hp with rfl | rfl | rfl
    · exact h1
    · exact h2
    · exact h3) ret
noncomputable def PreOk (x : Str) : Prop := x.length ≤ 1000 ∧ (stripS x).length ≤ 500000 ∧ ∀ u ∈ unitsL false 0 (stripS x).cps.toList, u.2 ≠ [41]
theorem pre_d {x1 x2 x3 x4 : Str} {t1 t2 t3 t4 : Tok} {lf : Addr} {k : Nat} (B : Below A₀ base outer h₀) (F : Fr h₀ L s.heap m) (X : (hd.heap_1 w.params).In h₀) (N : News h₀ L s.heap news) (T : Top view (looseW view []) mean mg mb h₀) (hdp : dp ≤ 600) (hun : un ≤ 6000) (hm : (lf, listOf #[.str x1 t1, .str x2 t2, .str x3 t3, .str x4 t4] k) ∈ news)
    (h1 : PreOk x1) (h2 : PreOk x2) (h3 : PreOk x3) (h4 : PreOk x4) (hb : AllBare s.gens)
    (ret : ∀ D u1 u2 u3 u4 n h' tk' g', Fr h₀ L h' m → News h₀ L h' ((D, listOf #[.str (valS x1) u1, .str (valS x2) u2, .str (valS x3) u3, .str (valS x4) u4] n) :: news) → (∀ p ∈ news, p.1 < D) → AllBare g' → Q (.ref D) { s with heap := h', toks := tk', gens := g' }) :
    wpAny (model Challenge.rw_pd0152_01.row.prog w) { handled := none, depth := dp, frames := some (envX cn { kind := .function, names := cnm, isGenerator := cig, isCoroutine := cic, more := cmo } L a ccd cl :: outer), guards := gd, units := un } (call (.ref 169) [.ref lf]) Q E s := by
  refine pre_c (l := [(x1, t1), (x2, t2), (x3, t3), (x4, t4)]) B F X N T hdp hun hm ?_ (Nat.le_of_ble_eq_true rfl) hb ?_
  · intro p hp
    simp only [List.mem_cons, List.not_mem_nil, or_false] at hp
    rcases hp with rfl | rfl | rfl | rfl
    · exact h1
    · exact h2
    · exact h3
    · exact h4
  · intro D l' n h' tk' g' hl' F' N' lt hb'
    obtain ⟨u1, u2, u3, u4, rfl⟩ := map4 hl'
    exact ret D u1 u2 u3 u4 n h' tk' g' F' N' lt hb'
/-- what reading a path back wants of it -/
noncomputable def ReadOk (x : Str) (n : Nat) (a b c : Str) : Prop := x.length ≤ 1000 ∧ Txt.count x (Str.ofString "/") + 1 = (n : Int) ∧ n ≤ 1000 ∧ (∀ i < n, (rIter x i).head.length ≤ 1000 ∧ (rIter x i).raw.length ≤ 1000 ∧ (rawOf (rIter x i)).length ≤ 1000) ∧ (rIter x n).names = [a, b, c]
theorem read_d {x : Str} {t : Tok} {n : Nat} {a1 a2 a3 : Str} (B : Below A₀ base outer h₀) (F : Fr h₀ L s.heap m) (X : (hd.heap_1 w.params).In h₀) (N : News h₀ L s.heap news) (T : Top view (looseW view []) mean mg mb h₀) (hdp : dp ≤ 700) (hun : un ≤ 7000) (hr : ReadOk x n a1 a2 a3) (hb : AllBare s.gens)
    (ret : ∀ D u1 u2 u3 k h' tk' g', Fr h₀ L h' m → News h₀ L h' ((D, listOf #[.str a1 u1, .str a2 u2, .str a3 u3] k) :: news) → (∀ p ∈ news, p.1 ≠ D) → AllBare g' → Q (.ref D) { s with heap := h', toks := tk', gens := g' }) :
    wpAny (model Challenge.rw_pd0152_01.row.prog w) { handled := none, depth := dp, frames := some (envX cn { kind := .function, names := cnm, isGenerator := cig, isCoroutine := cic, more := cmo } L a ccd cl :: outer), guards := gd, units := un } (call (.ref 191) [.str x t]) Q E s := by
  obtain ⟨h1, h2, h3, h4, h5⟩ := hr
  refine read_c B F X N T hdp hun h1 h2 h3 h4 hb ?_
  intro D l k h' tk' g' hl F' N' ne hb'
  rw [h5] at hl
  obtain ⟨u1, u2, u3, rfl⟩ := map3 hl
  exact ret D u1 u2 u3 k h' tk' g' F' N' ne hb'
/-- what normpath wants of a path that it leaves as it is -/
noncomputable def NormOk (x : Str) : Prop := x.length ≤ 500000 ∧ x.length ≠ 0 ∧ (Txt.slice x none (some 1) != Str.ofString "/") = true ∧ ∀ c ∈ Txt.split x (Str.ofString "/"), c ≠ Str.ofString "" ∧ c ≠ Str.ofString "." ∧ c ≠ Str.ofString ".."
theorem norm_d {x : Str} {t : Tok} (B : Below A₀ base outer h₀) (F : Fr h₀ L s.heap m) (X : (hd.heap_1 w.params).In h₀) (N : News h₀ L s.heap news) (T : Top view (looseW view []) mean mg mb h₀) (hdp : dp ≤ 700) (hun : un ≤ 7000) (hx : NormOk x)
    (ret : ∀ t h' tk', Fr h₀ L h' m → News h₀ L h' news → Q (.str x t) { s with heap := h', toks := tk' }) :
    wpAny (model Challenge.rw_pd0152_01.row.prog w) { handled := none, depth := dp, frames := some (envX cn { kind := .function, names := cnm, isGenerator := cig, isCoroutine := cic, more := cmo } L a ccd cl :: outer), guards := gd, units := un } (call (.ref 136) [.str x t]) Q E s :=
  normpath_c B F X N T hdp hun hx.1 hx.2.1 hx.2.2.1 hx.2.2.2 ret
/-- what commonpath wants of two paths -/
noncomputable def CommOk (x y : Str) (c : Nat) : Prop := x.length ≤ 1000 ∧ y.length ≤ 1000 ∧ (∀ c ∈ Txt.split x (Str.ofString "/"), c ≠ Str.ofString "" ∧ c ≠ Str.ofString ".") ∧ (∀ c ∈ Txt.split y (Str.ofString "/"), c ≠ Str.ofString "" ∧ c ≠ Str.ofString ".") ∧
  Txt.startswith x (Str.ofString "/") = false ∧ Txt.startswith y (Str.ofString "/") = false ∧ PartAt (Txt.split x (Str.ofString "/")) (Txt.split y (Str.ofString "/")) c
noncomputable def commS (x : Str) (c : Nat) : Str := Txt.join (Str.ofString "/") ((Txt.split x (Str.ofString "/")).take c)
theorem comm_d {c : Nat} {x y : Str} {t t1 : Tok} {lp : Addr} {k : Nat} (B : Below A₀ base outer h₀) (F : Fr h₀ L s.heap m) (X : (hd.heap_1 w.params).In h₀) (N : News h₀ L s.heap news) (T : Top view (looseW view []) mean mg mb h₀) (hdp : dp ≤ 600) (hun : un ≤ 6000) (hm : (lp, listOf #[.str x t, .str y t1] k) ∈ news) (hc : CommOk x y c)
    (ret : ∀ t h' tk', Fr h₀ L h' m → News h₀ L h' news → Q (.str (commS x c) t) { s with heap := h', toks := tk' }) :
    wpAny (model Challenge.rw_pd0152_01.row.prog w) { handled := none, depth := dp, frames := some (envX cn { kind := .function, names := cnm, isGenerator := cig, isCoroutine := cic, more := cmo } L a ccd cl :: outer), guards := gd, units := un } (call (.ref 141) [.ref lp]) Q E s :=
  common_c B F X N T hdp hun hm hc.1 hc.2.1 hc.2.2.1 hc.2.2.2.1 hc.2.2.2.2.1 hc.2.2.2.2.2.1 hc.2.2.2.2.2.2 ret
end
end Mine
end

-- part Y1
section
open PySem PySem.W PyProof.Rows PySem.Calls
set_option Elab.async false
set_option maxRecDepth 100000
set_option maxHeartbeats 8000000
set_option linter.unusedVariables false
namespace Mine

section
variable {prog : Program} {w : World} {A : Around} {h₀ : Heap} {L : Addr} {m : Str → Option Value} {env : Env} {s : Shared} {news : List (Addr × Obj)}
/-- how many of a range pass a test -/
noncomputable def passing (f : Nat → Bool) : Nat → Nat
  | 0 => 0
  | i + 1 => passing f i + if f i = true then 1 else 0
theorem passing_le (f : Nat → Bool) : ∀ n, passing f n ≤ n
  | 0 => Nat.le_refl _
  | i + 1 => by
    have := passing_le f i
    unfold passing
    split <;> omega
theorem rest_pass {ct : Expr} {x : Str} {px : Pos} {scope : Scope} {cl : List (Str × Addr)} {S : List (Addr × Obj) → Prop} {P : Nat → Value → Prop} {Fin : List Value → List (Addr × Obj) → Prop} (n : Nat) (f : Nat → Bool)
    (hP : ∀ (i : Nat) v, i < n → P i v → ∃ t, v = .int (i : Int) t)
    (step : ∀ i t I oI C oC D ys m₂ h tk (E' : Value → Shared → Prop), i < n → LCg.NsObj oC m₂ → m₂ x = some (.int (i : Nat) t) → Fr h₀ L h m → News h₀ L h ((I, oI) :: (C, oC) :: (D, LCg.lst ys) :: news) → LCg.Off3 I C D news → ((@Ne Nat I C) ∧ (@Ne Nat I D) ∧ (@Ne Nat C D)) →
      wpAny (model prog w) A (isTrue ct (compEnvC scope cl C env) (eval ct (compEnvC scope cl C env))) (fun ok s' => ok = f i ∧ ∃ h' tk', s' = { s with heap := h', toks := tk' } ∧ Fr h₀ L h' m ∧ News h₀ L h' ((I, oI) :: (C, oC) :: (D, LCg.lst ys) :: news)) E' { s with heap := h, toks := tk })
    (helt : ∀ C oC m₂ i t h tk (Q' E' : Value → Shared → Prop), LCg.NsObj oC m₂ → m₂ x = some (.int (i : Nat) t) → h.get? C = some oC → Q' (.int (i : Nat) t) { s with heap := h, toks := tk } → wpAny (model prog w) A (eval (.Name x px) (compEnvC scope cl C env)) Q' E' { s with heap := h, toks := tk })
    (hS : S news) (fin : ∀ ys : List Value, ys.length = passing f n → Fin ys news) :
    ∀ k i (ys : List Value), i + k = n → ys.length = passing f i → LCt.CompRestT prog w A h₀ L m env ct (.Name x px) x scope cl s S P Fin k i ys news := by
  intro k
  induction k with
  | zero =>
    intro i ys hi hl
    refine LCt.CompRestT.zero (fin ys ?_)
    rw [hl, show i = n by omega]
  | succ k ih =>
    intro i ys hi hl
    refine LCt.CompRestT.succ ?_
    intro v I oI C oC D m₂ h tk E' hv hn hm F N off ne
    obtain ⟨t, rfl⟩ := hP i v (by omega) hv
    refine wpAny_mono (step i t I oI C oC D ys m₂ h tk E' (by omega) hn hm F N off ne) (fun ok s₁ hok => ?_) fun _ _ e => e
    obtain ⟨rfl, h', tk', rfl, F', N'⟩ := hok
    cases hf : f i with
    | true =>
      rw [if_pos rfl]
      refine helt C oC m₂ i t h' tk' _ _ hn hm (N' _ (.tail _ (.head _))).1 ?_
      refine ⟨h', tk', news, rfl, F', N', off, hS, ?_⟩
      exact ih (i + 1) _ (by omega) (by rw [List.length_append, hl]; show _ = passing f i + _; rw [hf]; rfl)
    | false =>
      rw [if_neg Bool.false_ne_true]
      refine ⟨h', tk', news, rfl, F', N', off, hS, ?_⟩
      exact ih (i + 1) _ (by omega) (by rw [hl]; show _ = passing f i + _; rw [hf]; rfl)
theorem comp_name {x : Str} {px : Pos} {scope : Scope} {cl : List (Str × Addr)} (hkind : scope.kind = .function) (hx : scope.names.lookup x = some .local) (hdb : (x == ("__debug__" : Str)) = false)
    {C : Addr} {oC : Obj} {m₂ : Str → Option Value} {v : Value} {h : Heap} {tk : Nat} {Q' E' : Value → Shared → Prop} (hn : LCg.NsObj oC m₂) (hm : m₂ x = some v) (hC : h.get? C = some oC) (hq : Q' v { s with heap := h, toks := tk }) :
    wpAny (model prog w) A (eval (.Name x px) (compEnvC scope cl C env)) Q' E' { s with heap := h, toks := tk } :=
  wpAny_Name (wpAny_loadName_local (v := v) (by simp [compEnvC, relabel, hkind]) (lookup_relabel_local hx) (hn.ns hC) hm hq) hdb
theorem src_pass {ct : Expr} {x : Str} {px : Pos} {scope : Scope} {cl : List (Str × Addr)} {Fin : Shared → List Value → List (Addr × Obj) → Prop} {r : Addr} {b : Int} {t u v : Tok} {n : Nat} (f : Nat → Bool)
    (hh : A.handled = none) (F : Fr h₀ L s.heap m) (N : News h₀ L s.heap news) (hr : IsRange s.heap r 0 b 1 t u v) (hb : b = (n : Int)) (hn : n ≤ 1000) (hkind : scope.kind = .function) (hx : scope.names.lookup x = some .local) (hdb : (x == ("__debug__" : Str)) = false)
    (step : ∀ i t I oI C oC D ys m₂ h tk g (E' : Value → Shared → Prop), i < n → LCg.NsObj oC m₂ → m₂ x = some (.int (i : Nat) t) → Fr h₀ L h m → News h₀ L h ((I, oI) :: (C, oC) :: (D, LCg.lst ys) :: news) → LCg.Off3 I C D news → ((@Ne Nat I C) ∧ (@Ne Nat I D) ∧ (@Ne Nat C D)) →
      wpAny (model prog w) A (isTrue ct (compEnvC scope cl C env) (eval ct (compEnvC scope cl C env))) (fun ok s' => ok = f i ∧ ∃ h' tk', s' = { ({ s with heap := g } : Shared) with heap := h', toks := tk' } ∧ Fr h₀ L h' m ∧ News h₀ L h' ((I, oI) :: (C, oC) :: (D, LCg.lst ys) :: news)) E' { ({ s with heap := g } : Shared) with heap := h, toks := tk })
    (fin : ∀ g (ys : List Value), ys.length = passing f n → Fin { s with heap := g } ys news) :
    LCt.CompSrcT prog w A h₀ L m env ct (.Name x px) x scope cl Fin (.ref r) s := by
  subst hb
  refine LCt.CompSrcT.range hh F N hr (range_small1 hn) (range_size1 n) ?_ fun g => ?_
  · have : (1000:Nat) ≤ sizeLine := Nat.le_of_ble_eq_true rfl
    omega
  · exact rest_pass (s := { s with heap := g }) n f (fun i v _ hv => by obtain ⟨t, rfl⟩ := hv; exact ⟨t, by rw [Int.zero_add]⟩)
      (fun i t I oI C oC D ys m₂ h tk E' => step i t I oI C oC D ys m₂ h tk g E') (fun C oC m₂ i t h tk Q' E' hn hm hC hq => comp_name hkind hx hdb hn hm hC hq) trivial (fun ys hys => fin g ys hys) n 0 [] (by omega) rfl
end
end Mine
end

-- part E1
section
open PySem PySem.W PyProof.Rows PySem.Calls
set_option Elab.async false
set_option maxRecDepth 100000
set_option maxHeartbeats 8000000
set_option linter.unusedVariables false
namespace Mine

noncomputable def mkS (l : List Nat) : Str := ⟨l.toArray⟩
theorem mkS_cps (l : List Nat) : (mkS l).cps.toList = l := by simp [mkS]
theorem mkS_self (x : Str) : mkS x.cps.toList = x := by cases x; simp [mkS]
theorem mkS_len (l : List Nat) : (mkS l).length = l.length := by simp [mkS, Str.length]
theorem mkS_inj {a b : List Nat} (h : mkS a = mkS b) : a = b := by rw [← mkS_cps a, ← mkS_cps b, h]
theorem mkS_app (a b : List Nat) : mkS a ++ mkS b = mkS (a ++ b) := by refine str_ext ?_; rw [app_cps, mkS_cps, mkS_cps, mkS_cps]
theorem slash_mk : Str.ofString "/" = mkS [47] := by decide +kernel
theorem mark_mk : Str.ofString "\"" = mkS [34] := by decide +kernel
theorem empty_mk : Str.ofString "" = mkS [] := by decide +kernel
theorem slice_eq (x : Str) (l u : Option Int) : Txt.slice x l u = StrLaws.sliceText x l u := by
  unfold Txt.slice StrLaws.sliceText
  rfl
theorem slice_mk {l : List Nat} {a b : Nat} (hab : a ≤ b) (hb : b ≤ l.length) : Txt.slice (mkS l) (some (a : Int)) (some (b : Int)) = mkS ((l.drop a).take (b - a)) := by
  rw [slice_eq, StrLaws.sliceText_nat _ hab (by rw [mkS_len]; exact hb), mkS_cps]
  rfl
theorem slice_from_mk {l : List Nat} {a : Nat} (ha : a ≤ l.length) : Txt.slice (mkS l) (some (a : Int)) none = mkS (l.drop a) := by
  rw [slice_eq, StrLaws.sliceText_from ⟨by omega, by rw [mkS_cps]; omega⟩, mkS_cps]
  unfold mkS
  rw [List.take_of_length_le (by simp)]
  simp only [Int.toNat_natCast]
theorem slice_to_mk {l : List Nat} {b : Nat} (hb : b ≤ l.length) : Txt.slice (mkS l) none (some (b : Int)) = mkS (l.take b) := by
  rw [slice_eq, StrLaws.sliceText_to ⟨by omega, by rw [mkS_cps]; omega⟩, mkS_cps]
  unfold mkS
  simp
theorem has_mk (l : List Nat) (c : Nat) : (PySem.Builtin.Str.occurrences (mkS l) (mkS [c]) 0 (mkS l).length 1).isEmpty = !decide (c ∈ l) := by
  have h := StrLaws.found_one (mkS l) c
  rw [mkS_cps] at h
  rw [← h, Bool.not_not]
  rfl
-- the units of a written name
noncomputable def SIGN (c : Nat) : Prop := c ∈ SIGNS
noncomputable def unitsW : Nat → List Nat → List (Nat × List Nat)
  | _, [] => []
  | p, c :: r => if c ∈ MARKS then (p + 1, [92, c]) :: unitsW (p + 2) r else (p, [c]) :: unitsW (p + 1) r
theorem unitsW_cons (p c : Nat) (r : List Nat) : unitsW p (c :: r) = if c ∈ MARKS then (p + 1, [92, c]) :: unitsW (p + 2) r else (p, [c]) :: unitsW (p + 1) r := rfl
theorem written_cons (c : Nat) (r : List Nat) : writtenL (c :: r) = (if c ∈ MARKS then [92, c] else [c]) ++ writtenL r := by
  unfold writtenL; rw [List.flatMap_cons]
theorem units_written (cs : List Nat) : ∀ (p : Nat) (r : List Nat), unitsL false p (writtenL cs ++ r) = unitsW p cs ++ unitsL false (p + (writtenL cs).length) r := by
  induction cs with
  | nil => intro p r; simp [writtenL, unitsW]
  | cons c cs ih =>
    intro p r
    rw [written_cons]
    by_cases h : c ∈ MARKS
    · rw [if_pos h]
      simp only [List.cons_append, List.nil_append, List.length_cons]
      conv => lhs; unfold unitsL
      rw [if_pos rfl]
      conv => lhs; unfold unitsL
      rw [ih]
      rw [unitsW_cons, if_pos h]
      simp only [List.cons_append]
      rw [show p + 1 + 1 = p + 2 from rfl, show p + ((writtenL cs).length + 1 + 1) = p + 2 + (writtenL cs).length from by omega]
    · rw [if_neg h]
      have h92 : c ≠ 92 := fun e => h (by rw [e]; decide)
      simp only [List.cons_append, List.nil_append, List.length_cons]
      conv => lhs; unfold unitsL
      rw [if_neg h92, ih]
      rw [unitsW_cons, if_neg h]
      simp only [List.cons_append]
      rw [show p + ((writtenL cs).length + 1) = p + 1 + (writtenL cs).length from by omega]
theorem unitsW_no {cs : List Nat} {k : Nat} (hk : k ∉ cs ∨ k ∈ MARKS) : ∀ p, ∀ u ∈ unitsW p cs, u.2 ≠ [k] := by
  induction cs with
  | nil => intro p u hu; simp [unitsW] at hu
  | cons c cs ih =>
    intro p u hu
    have ih' := ih (hk.imp (fun h hm => h (.tail _ hm)) id)
    unfold unitsW at hu
    split at hu
    · rcases List.mem_cons.mp hu with rfl | hu
      · simp
      · exact ih' _ u hu
    · rename_i hc
      rcases List.mem_cons.mp hu with rfl | hu
      · intro e
        simp only [List.cons.injEq, and_true] at e
        subst e
        rcases hk with h | h
        · exact h (.head _)
        · exact hc h
      · exact ih' _ u hu
theorem unitsW_has {cs : List Nat} {k : Nat} (hk : k ∈ cs) (hm : k ∉ MARKS) : ∀ p, ∃ u ∈ unitsW p cs, u.2 = [k] := by
  induction cs with
  | nil => cases hk
  | cons c cs ih =>
    intro p
    unfold unitsW
    rcases List.mem_cons.mp hk with rfl | hk
    · rw [if_neg hm]
      exact ⟨_, .head _, rfl⟩
    · split
      · obtain ⟨u, hu, e⟩ := ih hk (p + 2)
        exact ⟨u, .tail _ hu, e⟩
      · obtain ⟨u, hu, e⟩ := ih hk (p + 1)
        exact ⟨u, .tail _ hu, e⟩
theorem fold_quiet (x : Str) : ∀ (us : List (Nat × List Nat)) (st : SSt), (∀ u ∈ us, u.2 ≠ [34]) → us.foldl (sStep x) st = st
  | [], _, _ => rfl
  | u :: us, st, h => by
    rw [List.foldl_cons, show sStep x st u = st from by unfold sStep; rw [if_neg (h u (.head _))]]
    exact fold_quiet x us st fun v hv => h v (.tail _ hv)
end Mine
end

-- part E2
section
open PySem PySem.W PyProof.Rows PySem.Calls
set_option Elab.async false
set_option maxRecDepth 100000
set_option maxHeartbeats 8000000
set_option linter.unusedVariables false
namespace Mine

noncomputable def quoteL (cs : List Nat) : List Nat := 34 :: writtenL cs ++ [34]
/-- closed names, each with a slash behind it -/
noncomputable def blocks (ns : List (List Nat)) : List Nat := ns.flatMap fun cs => quoteL cs ++ [47]
noncomputable def stK (k p : Nat) : SSt := if k = 0 then ⟨0, none, []⟩ else ⟨((p : Int) - 1), none, List.replicate (k - 1) (mkS [47])⟩
theorem blocks_snoc (ms : List (List Nat)) (c : List Nat) : blocks (ms ++ [c]) = blocks ms ++ (quoteL c ++ [47]) := by simp [blocks]
theorem blocks_last {ms : List (List Nat)} (h : ms ≠ []) : ∃ r, blocks ms = r ++ [47] := by
  obtain ⟨c, hc⟩ : ∃ l c, ms = l ++ [c] := by
    rcases List.eq_nil_or_concat ms with e | ⟨l, c, e⟩
    · exact absurd e h
    · exact ⟨l, c, by rw [e]; simp⟩
  obtain ⟨d, rfl⟩ := hc
  exact ⟨blocks c ++ quoteL d, by rw [blocks_snoc]; simp⟩
theorem unitsL_plain {c : Nat} (h : c ≠ 92) (p : Nat) (r : List Nat) : unitsL false p (c :: r) = (p, [c]) :: unitsL false (p + 1) r := by
  conv => lhs; unfold unitsL
  rw [if_neg h]
theorem sStep_mark_open (x : Str) (st : SSt) (p : Nat) (h : st.opn = none) : sStep x st (p, [34]) = ⟨st.start, some p, st.parts⟩ := by
  unfold sStep; rw [if_pos rfl, h]
theorem sStep_mark_close (x : Str) (a : Int) (o : Int) (ps : List Str) (p : Nat) : sStep x ⟨a, some o, ps⟩ (p, [34]) = ⟨(p : Int) + 1, none, if a = o then ps else ps ++ [Txt.slice x (some a) (some o)]⟩ := by
  unfold sStep; rw [if_pos rfl]
theorem sStep_other (x : Str) (st : SSt) (p c : Nat) (h : c ≠ 34) : sStep x st (p, [c]) = st := by
  unfold sStep; rw [if_neg (by simpa using h)]
/-- one closed name -/
theorem fold_quote (x : Str) (cs : List Nat) (p : Nat) (st : SSt) (h : st.opn = none) (r : List Nat) :
    (unitsL false p (quoteL cs ++ r)).foldl (sStep x) st = (unitsL false (p + (quoteL cs).length) r).foldl (sStep x) ⟨((p + (quoteL cs).length : Nat) : Int), none, if st.start = (p : Int) then st.parts else st.parts ++ [Txt.slice x (some st.start) (some (p : Int))]⟩ := by
  unfold quoteL
  rw [List.cons_append, List.cons_append, List.append_assoc, unitsL_plain (by decide), List.foldl_cons, sStep_mark_open x st p h, units_written, List.foldl_append,
    fold_quiet x _ _ (unitsW_no (.inr (by decide)) _), List.cons_append, List.nil_append, unitsL_plain (by decide), List.foldl_cons, sStep_mark_close]
  have e : p + 1 + (writtenL cs).length + 1 = p + (34 :: (writtenL cs ++ [34])).length := by simp; omega
  rw [e]
  congr 2
  simp
  omega
theorem fold_block (x : Str) (cs : List Nat) (k p : Nat) (r A : List Nat) (hx : x = mkS A) (hk : k = 0 → p = 0) (hp : 1 ≤ k → 1 ≤ p ∧ p ≤ A.length ∧ (A.drop (p - 1)).take 1 = [47]) :
    (unitsL false p (quoteL cs ++ 47 :: r)).foldl (sStep x) (stK k p) = (unitsL false (p + (quoteL cs).length + 1) r).foldl (sStep x) (stK (k + 1) (p + (quoteL cs).length + 1)) := by
  have h0 : (stK k p).opn = none := by unfold stK; split <;> rfl
  rw [fold_quote x cs p _ h0, unitsL_plain (by decide), List.foldl_cons, sStep_other _ _ _ _ (by decide)]
  congr 1
  by_cases h : k = 0
  · subst h
    have := hk rfl
    subst this
    simp [stK]
  · have h1 := hp (by omega)
    have e1 : stK k p = ⟨((p : Int) - 1), none, List.replicate (k - 1) (mkS [47])⟩ := if_neg h
    have e2 : stK (k + 1) (p + (quoteL cs).length + 1) = ⟨((p + (quoteL cs).length + 1 : Nat) : Int) - 1, none, List.replicate k (mkS [47])⟩ := if_neg (by omega)
    rw [e1, e2]
    dsimp only
    rw [if_neg (by omega)]
    congr 1
    · omega
    · have e3 : (p : Int) - 1 = ((p - 1 : Nat) : Int) := by omega
      rw [e3, hx, slice_mk (by omega) h1.2.1, show p - (p - 1) = 1 by omega, h1.2.2]
      rw [show k = (k - 1) + 1 by omega, List.replicate_succ']
      simp
theorem fold_blocks (x : Str) : ∀ (ns ms : List (List Nat)) (tail : List Nat), x = mkS (blocks ms ++ blocks ns ++ tail) →
    (unitsL false (blocks ms).length (blocks ns ++ tail)).foldl (sStep x) (stK ms.length (blocks ms).length) = (unitsL false (blocks (ms ++ ns)).length tail).foldl (sStep x) (stK (ms ++ ns).length (blocks (ms ++ ns)).length)
  | [], ms, tail, _ => by simp [blocks]
  | c :: ns, ms, tail, hx => by
    have e : blocks (c :: ns) = quoteL c ++ 47 :: blocks ns := by simp [blocks]
    rw [e, List.append_assoc, List.cons_append]
    have hx' : x = mkS (blocks (ms ++ [c]) ++ blocks ns ++ tail) := by
      rw [hx, e, blocks_snoc]; simp
    rw [fold_block x c ms.length (blocks ms).length _ _ hx (fun h => by
      have : ms = [] := List.eq_nil_of_length_eq_zero h
      rw [this]; rfl) (fun h => by
      have hne : ms ≠ [] := fun e => by rw [e] at h; simp at h
      obtain ⟨r, hr⟩ := blocks_last hne
      rw [hr]
      refine ⟨by simp, by simp, ?_⟩
      simp)]
    have e2 : (blocks ms).length + (quoteL c).length + 1 = (blocks (ms ++ [c])).length := by rw [blocks_snoc]; simp; omega
    have e3 : ms.length + 1 = (ms ++ [c]).length := by simp
    rw [e2, e3, fold_blocks x ns (ms ++ [c]) tail hx']
    simp
theorem fold_start (ns : List (List Nat)) (tail : List Nat) :
    (unitsL false 0 (blocks ns ++ tail)).foldl (sStep (mkS (blocks ns ++ tail))) ⟨0, none, []⟩ = (unitsL false (blocks ns).length tail).foldl (sStep (mkS (blocks ns ++ tail))) (stK ns.length (blocks ns).length) := by
  have := fold_blocks (mkS (blocks ns ++ tail)) ns [] tail (by simp [blocks])
  simpa [blocks, stK] using this
end Mine
end

-- part E3
section
open PySem PySem.W PyProof.Rows PySem.Calls
set_option Elab.async false
set_option maxRecDepth 100000
set_option maxHeartbeats 8000000
set_option linter.unusedVariables false
namespace Mine

theorem join_reps (k : Nat) (l : List Str) : Txt.join (Str.ofString "") (List.replicate k (mkS [47]) ++ l) = mkS (List.replicate k 47 ++ l.flatMap fun u => u.cps.toList) := by
  refine str_ext ?_
  rw [join_empty, mkS_cps, List.flatMap_append]
  congr 1
  induction k with
  | zero => rfl
  | succ k ih => rw [List.replicate_succ, List.flatMap_cons, ih, List.replicate_succ]; simp [mkS]
theorem stripS_has {l : List Nat} (h : 34 ∈ l) : stripS (mkS l) = stripEnd (mkS l) ((unitsL false 0 l).foldl (sStep (mkS l)) ⟨0, none, []⟩) := by
  unfold stripS
  rw [mark_mk, has_mk, mkS_cps]
  rw [if_neg (by simp [h])]
theorem stripS_hasnt {l : List Nat} (h : 34 ∉ l) : stripS (mkS l) = mkS l := by
  unfold stripS
  rw [mark_mk, has_mk]
  rw [if_pos (by simp [h])]
/-- names all closed, the last without a slash behind it -/
theorem strip_closed (ns : List (List Nat)) (c : List Nat) : stripS (mkS (blocks ns ++ quoteL c)) = mkS (List.replicate ns.length 47) := by
  have hm : 34 ∈ blocks ns ++ quoteL c := List.mem_append_right _ (.head _)
  rw [stripS_has hm, fold_start]
  have h0 : (stK ns.length (blocks ns).length).opn = none := by unfold stK; split <;> rfl
  have := fold_quote (mkS (blocks ns ++ quoteL c)) c (blocks ns).length _ h0 []
  rw [List.append_nil] at this
  rw [this, show unitsL false ((blocks ns).length + (quoteL c).length) [] = [] from rfl, List.foldl_nil]
  unfold stripEnd
  rw [if_neg (by dsimp only; rw [mkS_len, List.length_append]; omega)]
  dsimp only
  by_cases h : ns = []
  · subst h
    simp [stK, blocks]
    rw [show Txt.join (Str.ofString "") [] = mkS [] from by decide +kernel]
  · have hk : ns.length ≠ 0 := fun e => h (List.eq_nil_of_length_eq_zero e)
    obtain ⟨r, hr⟩ := blocks_last h
    have e1 : stK ns.length (blocks ns).length = ⟨((blocks ns).length : Int) - 1, none, List.replicate (ns.length - 1) (mkS [47])⟩ := if_neg hk
    rw [e1]
    dsimp only
    rw [if_neg (by omega)]
    have hl : 1 ≤ (blocks ns).length := by rw [hr]; simp
    rw [show ((blocks ns).length : Int) - 1 = (((blocks ns).length - 1 : Nat) : Int) by omega, slice_mk (by omega) (by simp), join_reps]
    congr 1
    simp only [List.flatMap_cons, List.flatMap_nil, List.append_nil, mkS_cps]
    rw [show (blocks ns).length - ((blocks ns).length - 1) = 1 by omega, hr]
    simp
    rw [show ns.length = (ns.length - 1) + 1 by omega, List.replicate_succ']
    simp
/-- a tail of no mark but the first of its signs -/
theorem strip_open (ns : List (List Nat)) (c : List Nat) : stripS (mkS (blocks ns ++ 34 :: writtenL c)) = mkS (List.replicate ns.length 47 ++ 34 :: writtenL c) := by
  have hm : 34 ∈ blocks ns ++ 34 :: writtenL c := List.mem_append_right _ (.head _)
  rw [stripS_has hm, fold_start, unitsL_plain (by decide), List.foldl_cons]
  have h0 : (stK ns.length (blocks ns).length).opn = none := by unfold stK; split <;> rfl
  rw [sStep_mark_open _ _ _ h0]
  have := units_written c ((blocks ns).length + 1) []
  rw [List.append_nil] at this
  rw [this, List.foldl_append, fold_quiet _ _ _ (unitsW_no (.inr (by decide)) _), show unitsL false ((blocks ns).length + 1 + (writtenL c).length) [] = [] from rfl, List.foldl_nil]
  unfold stripEnd
  dsimp only
  by_cases h : ns = []
  · subst h
    simp only [stK, blocks, List.length_nil, if_true, List.flatMap_nil, List.nil_append]
    rw [if_pos (by rw [mkS_len]; simp <;> omega), show (0 : Int) = ((0 : Nat) : Int) from rfl, slice_from_mk (by simp), List.drop_zero]
    have := join_reps 0 [mkS (34 :: writtenL c)]
    simpa [mkS_cps] using this
  · have hk : ns.length ≠ 0 := fun e => h (List.eq_nil_of_length_eq_zero e)
    obtain ⟨r, hr⟩ := blocks_last h
    have e1 : stK ns.length (blocks ns).length = ⟨((blocks ns).length : Int) - 1, none, List.replicate (ns.length - 1) (mkS [47])⟩ := if_neg hk
    rw [e1]
    dsimp only
    have hl : 1 ≤ (blocks ns).length := by rw [hr]; simp
    rw [if_pos (by rw [mkS_len, List.length_append]; omega), show ((blocks ns).length : Int) - 1 = (((blocks ns).length - 1 : Nat) : Int) by omega, slice_from_mk (by simp; omega), join_reps]
    congr 1
    simp only [List.flatMap_cons, List.flatMap_nil, List.append_nil, mkS_cps]
    rw [hr]
    simp
    rw [show ns.length = (ns.length - 1) + 1 by omega, List.replicate_succ']
    simp
/-- names all closed, each with a slash -/
theorem strip_blocks (ns : List (List Nat)) : stripS (mkS (blocks ns)) = mkS (List.replicate ns.length 47) := by
  by_cases h : ns = []
  · subst h
    rw [stripS_hasnt (by simp [blocks])]
    simp [blocks]
  · have hk : ns.length ≠ 0 := fun e => h (List.eq_nil_of_length_eq_zero e)
    have hm : 34 ∈ blocks ns := by
      obtain ⟨c, cs, rfl⟩ : ∃ c cs, ns = c :: cs := by
        cases ns with
        | nil => exact absurd rfl h
        | cons c cs => exact ⟨c, cs, rfl⟩
      simp [blocks, quoteL]
    have := fold_start ns []
    rw [List.append_nil] at this
    rw [stripS_has hm, this, show unitsL false (blocks ns).length [] = [] from rfl, List.foldl_nil]
    obtain ⟨r, hr⟩ := blocks_last h
    have e1 : stK ns.length (blocks ns).length = ⟨((blocks ns).length : Int) - 1, none, List.replicate (ns.length - 1) (mkS [47])⟩ := if_neg hk
    rw [e1]
    unfold stripEnd
    dsimp only
    have hl : 1 ≤ (blocks ns).length := by rw [hr]; simp
    rw [if_pos (by rw [mkS_len]; omega), show ((blocks ns).length : Int) - 1 = (((blocks ns).length - 1 : Nat) : Int) by omega, slice_from_mk (by omega), join_reps]
    congr 1
    simp only [List.flatMap_cons, List.flatMap_nil, List.append_nil, mkS_cps]
    rw [hr]
    simp
    rw [show ns.length = (ns.length - 1) + 1 by omega, List.replicate_succ']
    simp
/-- the rest of a name behind a slash of its own -/
theorem strip_rest (c : List Nat) : stripS (mkS (writtenL c ++ [34])) = mkS (writtenL c ++ [34]) := by
  have hm : 34 ∈ writtenL c ++ [34] := List.mem_append_right _ (.head _)
  rw [stripS_has hm, units_written, List.foldl_append, fold_quiet _ _ _ (unitsW_no (.inr (by decide)) _), unitsL_plain (by decide), List.foldl_cons, sStep_mark_open _ _ _ rfl]
  rw [show unitsL false (0 + (writtenL c).length + 1) [] = [] from rfl, List.foldl_nil]
  unfold stripEnd
  dsimp only
  rw [if_pos (by rw [mkS_len]; simp <;> omega), show (0 : Int) = ((0 : Nat) : Int) from rfl, slice_from_mk (by simp), List.drop_zero]
  have := join_reps 0 [mkS (writtenL c ++ [34])]
  simpa [mkS_cps] using this
end Mine
end

-- part E4
section
open PySem PySem.W PyProof.Rows PySem.Calls
set_option Elab.async false
set_option maxRecDepth 100000
set_option maxHeartbeats 8000000
set_option linter.unusedVariables false
namespace Mine

open PySem.Builtin PySem.Builtin.Str
noncomputable def splitL : List Nat → List (List Nat)
  | [] => [[]]
  | c :: r => if c = 47 then [] :: splitL r else match splitL r with
    | h :: t => (c :: h) :: t
    | [] => [[c]]
noncomputable def joinL : List (List Nat) → List Nat
  | [] => []
  | [p] => p
  | p :: q :: r => p ++ 47 :: joinL (q :: r)
theorem splitL_eq (c : Nat) (r : List Nat) : splitL (c :: r) = if c = 47 then [] :: splitL r else match splitL r with
    | h :: t => (c :: h) :: t
    | [] => [[c]] := rfl
theorem splitL_slash (r : List Nat) : splitL (47 :: r) = [] :: splitL r := by rw [splitL_eq, if_pos rfl]
theorem splitL_ne : ∀ l, splitL l ≠ []
  | [] => by simp [splitL]
  | c :: r => by
    unfold splitL
    split
    · simp
    · split <;> simp
theorem splitL_cons {c : Nat} (h : c ≠ 47) (r : List Nat) : ∃ p t, splitL r = p :: t ∧ splitL (c :: r) = (c :: p) :: t := by
  cases e : splitL r with
  | nil => exact absurd e (splitL_ne r)
  | cons p t =>
    refine ⟨p, t, rfl, ?_⟩
    rw [splitL_eq, if_neg h, e]
theorem splitL_free : ∀ {p : List Nat}, 47 ∉ p → splitL p = [p]
  | [], _ => rfl
  | c :: r, h => by
    obtain ⟨p, t, e1, e2⟩ := splitL_cons (c := c) (fun e => h (e ▸ .head _)) r
    rw [splitL_free (fun hm => h (.tail _ hm))] at e1
    cases e1
    exact e2
theorem splitL_app : ∀ (u v : List Nat), splitL (u ++ 47 :: v) = splitL u ++ splitL v
  | [], v => by rw [List.nil_append, splitL_slash]; rfl
  | c :: u, v => by
    have ih := splitL_app u v
    by_cases h : c = 47
    · subst h
      rw [List.cons_append, splitL_slash, ih, splitL_slash]; rfl
    · obtain ⟨p, t, e1, e2⟩ := splitL_cons h u
      obtain ⟨p', t', e3, e4⟩ := splitL_cons h (u ++ 47 :: v)
      rw [List.cons_append, e4, e2]
      rw [ih, e1] at e3
      simp only [List.cons_append, List.cons.injEq] at e3
      rw [← e3.1, ← e3.2]
      rfl
theorem joinL_cons {p : List Nat} {r : List (List Nat)} (h : r ≠ []) : joinL (p :: r) = p ++ 47 :: joinL r := by
  cases r with
  | nil => exact absurd rfl h
  | cons q t => rfl
theorem joinL_splitL : ∀ l, joinL (splitL l) = l
  | [] => rfl
  | c :: r => by
    have ih := joinL_splitL r
    by_cases h : c = 47
    · subst h
      rw [splitL_slash, joinL_cons (splitL_ne r), ih]; rfl
    · obtain ⟨p, t, e1, e2⟩ := splitL_cons h r
      rw [e2]
      rw [e1] at ih
      cases t with
      | nil => show c :: p = _; rw [show p = r from ih]
      | cons q t => show (c :: p) ++ 47 :: joinL (q :: t) = _; rw [List.cons_append]; congr 1
theorem splitL_mem_free : ∀ {l p : List Nat}, p ∈ splitL l → 47 ∉ p
  | [], p, h => by rw [List.mem_singleton.mp h]; simp
  | c :: r, p, h => by
    by_cases hc : c = 47
    · subst hc
      rw [splitL_slash] at h
      rcases List.mem_cons.mp h with rfl | h
      · simp
      · exact splitL_mem_free h
    · obtain ⟨q, t, e1, e2⟩ := splitL_cons hc r
      rw [e2] at h
      rcases List.mem_cons.mp h with rfl | h
      · intro hm
        rcases List.mem_cons.mp hm with e | hm
        · exact hc e.symm
        · exact splitL_mem_free (l := r) (by rw [e1]; exact .head _) hm
      · exact splitL_mem_free (l := r) (by rw [e1]; exact .tail _ h)
theorem split_unique : ∀ (ps : List (List Nat)), ps ≠ [] → (∀ p ∈ ps, 47 ∉ p) → splitL (joinL ps) = ps
  | [], h, _ => absurd rfl h
  | [p], _, h => splitL_free (h p (.head _))
  | p :: q :: r, _, h => by
    show splitL (p ++ 47 :: joinL (q :: r)) = _
    rw [splitL_app, splitL_free (h p (.head _)), split_unique (q :: r) (by simp) fun x hx => h x (.tail _ hx)]
    rfl
theorem strjoin_list : ∀ ps : List Str, (Str.join (Str.ofString "/") ps).cps.toList = joinL (ps.map (·.cps.toList))
  | [] => by show Str.empty.cps.toList = _; rfl
  | [p] => rfl
  | p :: q :: r => by
    show (p ++ Str.ofString "/" ++ Str.join (Str.ofString "/") (q :: r)).cps.toList = _
    rw [app_cps, app_cps, strjoin_list (q :: r), slash_mk, mkS_cps]
    show _ = p.cps.toList ++ 47 :: joinL _
    simp
theorem txtsplit_ne (x : Str) : Txt.split x (Str.ofString "/") ≠ [] := by
  unfold Txt.split
  split
  · simp
  split
  · simp
  · rw [StrLaws.partsBetween_eq]
    obtain ⟨p, r, e⟩ := StrLaws.partsFrom_ne x (Str.ofString "/").length 0 (occurrences x (Str.ofString "/") 0 x.length (x.length + 1))
    rw [e]; simp
theorem txtsplit_list (x : Str) : (Txt.split x (Str.ofString "/")).map (·.cps.toList) = splitL x.cps.toList := by
  have h1 := StrLaws.join_split x (Str.ofString "/")
  have h2 := strjoin_list (Txt.split x (Str.ofString "/"))
  rw [h1] at h2
  rw [h2]
  refine (split_unique _ (by simpa using txtsplit_ne x) ?_).symm
  intro p hp
  obtain ⟨q, hq, rfl⟩ := List.mem_map.mp hp
  rw [slash_mk] at hq
  exact StrLaws.split_free x 47 q hq
theorem txtsplit_mk (l : List Nat) : Txt.split (mkS l) (Str.ofString "/") = (splitL l).map mkS := by
  have h := txtsplit_list (mkS l)
  rw [mkS_cps] at h
  rw [← h, List.map_map]
  have : (mkS ∘ fun x : Str => x.cps.toList) = _root_.id := by funext x; exact mkS_self x
  rw [this, List.map_id]
theorem txtjoin_mk (ps : List (List Nat)) : Txt.join (Str.ofString "/") (ps.map mkS) = mkS (joinL ps) := by
  refine str_ext ?_
  rw [str_join_eq, strjoin_list, List.map_map, mkS_cps]
  congr 1
  have : ((fun x : Str => x.cps.toList) ∘ mkS) = _root_.id := by funext x; exact mkS_cps x
  rw [this, List.map_id]
theorem partsFrom_len (x : Str) (w : Nat) : ∀ (cuts : List Nat) (a : Nat), (StrLaws.partsFrom x w a cuts).length = cuts.length + 1
  | [], _ => rfl
  | c :: r, a => by show (StrLaws.partsFrom x w (c + w) r).length + 1 = _; rw [partsFrom_len x w r]; rfl
theorem occ_none_of {x : Str} {n : Nat} (h : 47 ∉ x.cps.toList) : occurrences x (Str.ofString "/") 0 x.length (n + 1) = [] := by
  rcases StrLaws.occ_head x (Str.ofString "/") (n + 1) (by omega) with h1 | ⟨i, r, _, hA, _⟩
  · exact h1.1
  · rw [slash_mk] at hA
    exact absurd (List.mem_of_getElem? ((StrLaws.subAt_one x 47 i).mp hA)) h
theorem txtcount_mk (l : List Nat) : Txt.count (mkS l) (Str.ofString "/") + 1 = ((splitL l).length : Int) := by
  have h := congrArg List.length (txtsplit_mk l)
  rw [List.length_map] at h
  rw [← h]
  unfold Txt.count Txt.split
  split
  · rename_i hk
    have hn : 47 ∉ (mkS l).cps.toList := by
      rw [Bool.or_eq_true, decide_eq_true_eq, decide_eq_true_eq] at hk
      rcases hk with hk | hk
      · rw [show (Str.ofString "/").length = 1 from by decide +kernel] at hk
        have : (mkS l).cps.toList = [] := List.eq_nil_of_length_eq_zero (by simp [Str.length] at hk ⊢; omega)
        rw [this]; simp
      · exact StrLaws.kind_free _ 47 (by rw [slash_mk] at hk; exact hk)
    rw [occ_none_of hn]
    rfl
  split
  · rename_i he
    rw [List.isEmpty_iff.mp he]
    rfl
  · rw [StrLaws.partsBetween_eq, partsFrom_len]
    omega
end Mine
end

-- part E5
section
open PySem PySem.W PyProof.Rows PySem.Calls
set_option Elab.async false
set_option maxRecDepth 100000
set_option maxHeartbeats 8000000
set_option linter.unusedVariables false
namespace Mine

open PySem.Builtin PySem.Builtin.Str
theorem at_one {l : List Nat} {i : Nat} : StrLaws.At (mkS l) (Str.ofString "/") (mkS l).length i ↔ l[i]? = some 47 := by
  rw [slash_mk]
  have := StrLaws.subAt_one (mkS l) 47 i
  rw [mkS_cps] at this
  exact this
theorem rfind_mk {u v : List Nat} (h : 47 ∉ v) : Txt.rfind (mkS (u ++ 47 :: v)) (Str.ofString "/") = (u.length : Int) := by
  unfold Txt.rfind
  have hu : (u ++ 47 :: v)[u.length]? = some 47 := by simp
  rcases StrLaws.last_spec (mkS (u ++ 47 :: v)) (Str.ofString "/") with ⟨_, hn⟩ | ⟨i, e, hA, hlast⟩
  · exact absurd (at_one.mpr hu) (hn _)
  · rw [e]
    dsimp only
    have hi := at_one.mp hA
    have h1 : u.length ≤ i := by
      rcases Nat.lt_or_ge i u.length with hlt | hge
      · exact absurd (at_one.mpr hu) (hlast _ hlt)
      · exact hge
    have h2 : i = u.length := by
      rcases Nat.eq_or_lt_of_le h1 with e | hlt
      · exact e.symm
      · exfalso
        rw [List.getElem?_append_right h1] at hi
        obtain ⟨k, hk⟩ : ∃ k, i - u.length = k + 1 := ⟨i - u.length - 1, by omega⟩
        rw [hk, List.getElem?_cons_succ] at hi
        exact h (List.mem_of_getElem? hi)
    rw [h2]
theorem rfind_none {l : List Nat} (h : 47 ∉ l) : Txt.rfind (mkS l) (Str.ofString "/") = -1 := by
  unfold Txt.rfind
  rcases StrLaws.last_spec (mkS l) (Str.ofString "/") with ⟨e, _⟩ | ⟨i, e, hA, _⟩
  · rw [e]
  · exact absurd (List.mem_of_getElem? (at_one.mp hA)) h
theorem splitT_last {u v : List Nat} (h : 47 ∉ v) : splitT (mkS (u ++ 47 :: v)) = mkS v := by
  unfold splitT
  rw [rfind_mk h, show (u.length : Int) + 1 = ((u.length + 1 : Nat) : Int) by omega, slice_from_mk (by simp)]
  congr 1
  rw [show u ++ 47 :: v = (u ++ [47]) ++ v by simp, List.drop_left' (by simp)]
theorem splitT_free {v : List Nat} (h : 47 ∉ v) : splitT (mkS v) = mkS v := by
  unfold splitT
  rw [rfind_none h, show (-1 : Int) + 1 = ((0 : Nat) : Int) by rfl, slice_from_mk (by simp), List.drop_zero]
theorem cutH_last {u v : List Nat} (h : 47 ∉ v) : cutH (mkS (u ++ 47 :: v)) = mkS (u ++ [47]) := by
  unfold cutH
  rw [rfind_mk h, show (u.length : Int) + 1 = ((u.length + 1 : Nat) : Int) by omega, slice_to_mk (by simp)]
  congr 1
  rw [show u ++ 47 :: v = (u ++ [47]) ++ v by simp, List.take_left' (by simp)]
theorem splitH_free {v : List Nat} (h : 47 ∉ v) : splitH (mkS v) = mkS [] := by
  have e : cutH (mkS v) = mkS [] := by
    unfold cutH
    rw [rfind_none h, show (-1 : Int) + 1 = ((0 : Nat) : Int) by rfl, slice_to_mk (by simp), List.take_zero]
  unfold splitH
  rw [e, if_pos (by rw [mkS_len]; rfl)]
theorem mul_slash_mem (n : Int) : ∀ c ∈ (Txt.mul (Str.ofString "/") n).cps.toList, c = 47 := by
  have fold : ∀ (k : Nat) (acc : Array Nat), (∀ c ∈ acc.toList, c = 47) → ∀ c ∈ ((List.replicate k (mkS [47]).cps).foldl (· ++ ·) acc).toList, c = 47 := by
    intro k
    induction k with
    | zero => intro acc h; exact h
    | succ k ih =>
      intro acc h
      rw [List.replicate_succ, List.foldl_cons]
      refine ih _ fun c hc => ?_
      rw [Array.toList_append] at hc
      rcases List.mem_append.mp hc with hc | hc
      · exact h c hc
      · rw [mkS_cps] at hc; exact List.mem_singleton.mp hc
  unfold Txt.mul
  split
  · intro c hc; cases hc
  split
  · rw [slash_mk, mkS_cps]; intro c hc; exact List.mem_singleton.mp hc
  · rw [slash_mk]
    exact fold _ _ (fun c hc => by cases hc)
theorem rstrip_one {u : List Nat} {c : Nat} (hc : u.getLast? = some c) (h47 : c ≠ 47) : Txt.rstripChars (mkS (u ++ [47])) (Str.ofString "/") = mkS u := by
  unfold Txt.rstripChars
  rw [PyProof.Rows.stripBy_eq]
  have hlo : stripLo (Str.ofString "/").cps.contains false (mkS (u ++ [47])) = 0 := rfl
  rw [hlo]
  obtain ⟨t, rfl⟩ : ∃ t, u = t ++ [c] := by
    obtain ⟨t, ht⟩ := List.getLast?_eq_some_iff.mp hc
    exact ⟨t, ht⟩
  have hhi : stripHi (Str.ofString "/").cps.contains true (mkS (t ++ [c] ++ [47])) 0 = (t ++ [c]).length := by
    unfold stripHi
    rw [if_pos rfl, mkS_cps, mkS_len, List.drop_zero]
    have e : (t ++ [c] ++ [47]).reverse = 47 :: c :: t.reverse := by simp
    rw [e, slash_mk]
    have h1 : (mkS [47]).cps.contains 47 = true := by decide +kernel
    have h2 : (mkS [47]).cps.contains c = false := by
      simp [mkS, h47]
    rw [List.takeWhile_cons, if_pos h1, List.takeWhile_cons, if_neg (by rw [h2]; exact Bool.false_ne_true)]
    simp
  rw [hhi]
  refine str_ext ?_
  rw [StrLaws.strSub_toList, mkS_cps, mkS_cps, List.drop_zero, Nat.sub_zero, List.take_left' rfl]
theorem splitH_last {u v : List Nat} {c : Nat} (h : 47 ∉ v) (hc : u.getLast? = some c) (h47 : c ≠ 47) : splitH (mkS (u ++ 47 :: v)) = mkS u := by
  have hcu : c ∈ u := List.mem_of_getLast? hc
  unfold splitH
  rw [cutH_last h, if_neg (by rw [mkS_len]; simp), if_pos, rstrip_one hc h47]
  rw [bne_iff_ne]
  intro e
  have := mul_slash_mem ((mkS (u ++ [47])).length : Int) c (by rw [← e, mkS_cps]; exact List.mem_append_left _ hcu)
  exact h47 this
theorem startswith_mk (l : List Nat) : Txt.startswith (mkS l) (Str.ofString "/") = decide (l[0]? = some 47) := by
  unfold Txt.startswith
  have h := StrLaws.subAt_one (mkS l) 47 0
  rw [mkS_cps] at h
  rw [slash_mk]
  rw [Bool.eq_iff_iff, Bool.and_eq_true, decide_eq_true_eq, decide_eq_true_eq]
  exact h
theorem endswith_mk (l : List Nat) : Txt.endswith (mkS l) (Str.ofString "/") = decide (l.getLast? = some 47) := by
  unfold Txt.endswith
  rw [slash_mk]
  have h := StrLaws.subAt_one (mkS l) 47 ((mkS l).length - 1)
  rw [mkS_cps] at h
  rw [Bool.eq_iff_iff, Bool.and_eq_true, decide_eq_true_eq, decide_eq_true_eq]
  have e1 : (mkS [47]).length = 1 := rfl
  have h : (mkS l).length - 1 + (mkS [47]).length ≤ (mkS l).length ∧ subAt (mkS l) (mkS [47]) ((mkS l).length - 1) = true ↔ l[(mkS l).length - 1]? = some 47 := h
  rw [e1] at h ⊢
  rw [mkS_len] at h ⊢
  rw [List.getLast?_eq_getElem?]
  constructor
  · rintro ⟨h1, h2⟩
    exact h.mp ⟨by omega, h2⟩
  · intro h1
    have h2 := h.mpr h1
    refine ⟨?_, h2.2⟩
    cases l with
    | nil => simp at h1
    | cons a r => simp
theorem joinS_mk {x y : List Nat} (hx : x ≠ []) (hxl : x.getLast? ≠ some 47) (hy : y[0]? ≠ some 47) : joinS (mkS x) (mkS y) = mkS (x ++ 47 :: y) := by
  unfold joinS
  rw [startswith_mk, if_neg (by simpa using hy), if_neg (by rw [mkS_len]; exact fun e => hx (List.eq_nil_of_length_eq_zero e)), endswith_mk, if_neg (by simpa using hxl), slash_mk, mkS_app, mkS_app]
  rfl
theorem joinS_nil (y : List Nat) : joinS (mkS []) (mkS y) = mkS y := by
  unfold joinS
  split
  · rfl
  · rw [if_pos (by rw [mkS_len]; rfl)]
end Mine
end

-- part E6
section
open PySem PySem.W PyProof.Rows PySem.Calls
set_option Elab.async false
set_option maxRecDepth 100000
set_option maxHeartbeats 8000000
set_option linter.unusedVariables false
namespace Mine

noncomputable def pathL (a b c : List Nat) : List Nat := blocks [a, b] ++ quoteL c
theorem quoteS_mk (a : List Nat) : quoteS (mkS a) = mkS (quoteL a) := by
  unfold quoteS
  rw [mkS_cps, mark_mk, show (⟨(writtenL a).toArray⟩ : Str) = mkS (writtenL a) from rfl, mkS_app, mkS_app]
  rfl
theorem quoteL_last (a : List Nat) : (quoteL a).getLast? = some 34 := List.getLast?_concat (l := 34 :: writtenL a)
theorem quoteL_last2 (x a : List Nat) : (x ++ 47 :: quoteL a).getLast? = some 34 := by
  rw [show x ++ 47 :: quoteL a = (x ++ 47 :: 34 :: writtenL a) ++ [34] by simp [quoteL]]
  exact List.getLast?_concat
theorem quoteL_head (a r : List Nat) : (quoteL a ++ r)[0]? = some 34 := rfl
theorem quoteL_ne (a : List Nat) : quoteL a ≠ [] := by unfold quoteL; simp
theorem pathL_eq (a b c : List Nat) : pathL a b c = quoteL a ++ 47 :: (quoteL b ++ 47 :: quoteL c) := by simp [pathL, blocks]
theorem P3_mk (a b c : List Nat) : P3 (mkS a) (mkS b) (mkS c) = mkS (pathL a b c) := by
  unfold P3 pathF
  simp only [List.foldl_cons, List.foldl_nil]
  rw [empty_mk, quoteS_mk, quoteS_mk, quoteS_mk, joinS_nil, joinS_mk (quoteL_ne a) (by rw [quoteL_last]; decide) (by show (quoteL b)[0]? ≠ _; unfold quoteL; simp),
    joinS_mk (by simp) (by rw [quoteL_last2]; decide) (by show (quoteL c)[0]? ≠ _; unfold quoteL; simp), pathL_eq]
  simp
theorem torn_mk (a b c : List Nat) : Txt.slice (mkS (pathL a b c)) none (some (-1)) = mkS (blocks [a, b] ++ 34 :: writtenL c) := by
  have e : pathL a b c = (blocks [a, b] ++ 34 :: writtenL c) ++ [34] := by simp [pathL, quoteL]
  rw [e, slice_eq, StrLaws.sliceText_neg_hi _ _ (by decide) (by rw [mkS_len, List.length_append]; simp; omega), ← slice_eq, mkS_len]
  have e2 : (-1 : Int) + (((blocks [a, b] ++ 34 :: writtenL c) ++ [34]).length : Int) = (((blocks [a, b] ++ 34 :: writtenL c).length : Nat) : Int) := by
    rw [List.length_append (bs := [34])]
    simp only [List.length_cons, List.length_nil]
    omega
  rw [e2, slice_to_mk (by simp), List.take_left' rfl]
theorem quoteL_len {a : List Nat} (h : a.length ≤ 3) : (quoteL a).length ≤ 8 := by
  have := written_len a
  unfold quoteL
  simp
  omega
theorem pathL_len {a b c : List Nat} (ha : a.length ≤ 3) (hb : b.length ≤ 3) (hc : c.length ≤ 3) : (pathL a b c).length ≤ 26 := by
  rw [pathL_eq]
  have := quoteL_len ha
  have := quoteL_len hb
  have := quoteL_len hc
  simp
  omega
theorem cnt40_zero (us : List (Nat × List Nat)) (h : ∀ u ∈ us, u.2 ≠ [40]) : cnt40 us = 0 := by
  have key : ∀ (us : List (Nat × List Nat)) (n : Nat), (∀ u ∈ us, u.2 ≠ [40]) → us.foldl (fun n u => if u.2 = [40] then n + 1 else n) n = n := by
    intro us
    induction us with
    | nil => intros; rfl
    | cons u us ih =>
      intro n h
      rw [List.foldl_cons, if_neg (h u (.head _))]
      exact ih n fun v hv => h v (.tail _ hv)
  exact key us 0 h
theorem cnt40_pos (us : List (Nat × List Nat)) (h : ∃ u ∈ us, u.2 = [40]) : cnt40 us ≠ 0 := by
  have mono : ∀ (us : List (Nat × List Nat)) (n : Nat), n ≤ us.foldl (fun n u => if u.2 = [40] then n + 1 else n) n := by
    intro us
    induction us with
    | nil => intros; exact Nat.le_refl _
    | cons u us ih =>
      intro n
      rw [List.foldl_cons]
      refine Nat.le_trans ?_ (ih _)
      split <;> omega
  have key : ∀ (us : List (Nat × List Nat)) (n : Nat), (∃ u ∈ us, u.2 = [40]) → n + 1 ≤ us.foldl (fun n u => if u.2 = [40] then n + 1 else n) n := by
    intro us
    induction us with
    | nil => rintro n ⟨u, hu, _⟩; cases hu
    | cons u us ih =>
      rintro n ⟨v, hv, e⟩
      rw [List.foldl_cons]
      rcases List.mem_cons.mp hv with rfl | hv
      · rw [if_pos e]; exact mono us (n + 1)
      · refine Nat.le_trans ?_ (ih _ ⟨v, hv, e⟩)
        split <;> omega
  have := key us 0 h
  show us.foldl _ 0 ≠ 0
  omega
theorem units_open (c : List Nat) : unitsL false 0 (List.replicate 2 47 ++ 34 :: writtenL c) = (0, [47]) :: (1, [47]) :: (2, [34]) :: unitsW 3 c := by
  have := units_written c 3 []
  rw [List.append_nil] at this
  show unitsL false 0 (47 :: 47 :: 34 :: writtenL c) = _
  rw [unitsL_plain (by decide), unitsL_plain (by decide), unitsL_plain (by decide), this]
  simp [unitsL]
theorem pre_path {a b c : List Nat} (ha : NameL a) (hb : NameL b) (hc : NameL c) : PreOk (mkS (pathL a b c)) ∧ valS (mkS (pathL a b c)) = mkS (pathL a b c) := by
  have h0 := pathL_len ha.1 hb.1 hc.1
  have hs : stripS (mkS (pathL a b c)) = mkS (List.replicate 2 47) := strip_closed [a, b] c
  refine ⟨⟨by rw [mkS_len]; omega, by rw [hs, mkS_len]; decide, ?_⟩, ?_⟩
  · rw [hs, mkS_cps]; decide
  · unfold valS
    rw [if_pos]
    unfold chkS
    rw [hs, mkS_cps]
    decide
theorem pre_torn {a b c : List Nat} (ha : NameL a) (hb : NameL b) (hc : NameL c) : PreOk (mkS (blocks [a, b] ++ 34 :: writtenL c)) ∧ valS (mkS (blocks [a, b] ++ 34 :: writtenL c)) = if 40 ∈ c then Str.ofString "('', '')" else mkS (blocks [a, b] ++ 34 :: writtenL c) := by
  have h0 := pathL_len ha.1 hb.1 hc.1
  have h1 : (blocks [a, b] ++ 34 :: writtenL c).length + 1 = (pathL a b c).length := by simp [pathL, quoteL]; omega
  have h2 := written_len c
  have h3 := hc.1
  have hs : stripS (mkS (blocks [a, b] ++ 34 :: writtenL c)) = mkS (List.replicate 2 47 ++ 34 :: writtenL c) := strip_open [a, b] c
  have h41 : 41 ∉ c := fun h => absurd (hc.2 _ h) (by decide)
  refine ⟨⟨by rw [mkS_len]; omega, by rw [hs, mkS_len]; simp; omega, ?_⟩, ?_⟩
  · rw [hs, mkS_cps, units_open]
    intro u hu
    rcases List.mem_cons.mp hu with rfl | hu
    · decide
    rcases List.mem_cons.mp hu with rfl | hu
    · decide
    rcases List.mem_cons.mp hu with rfl | hu
    · decide
    · exact unitsW_no (.inl h41) 3 u hu
  · unfold valS
    by_cases h : 40 ∈ c
    · rw [if_pos h, if_neg]
      unfold chkS
      rw [hs, mkS_cps, units_open]
      obtain ⟨u, hu, e⟩ := unitsW_has h (by decide) 3
      have := cnt40_pos ((0, [47]) :: (1, [47]) :: (2, [34]) :: unitsW 3 c) ⟨u, .tail _ (.tail _ (.tail _ hu)), e⟩
      simpa using this
    · rw [if_neg h, if_pos]
      unfold chkS
      rw [hs, mkS_cps, units_open]
      rw [cnt40_zero _ (fun u hu => by
        rcases List.mem_cons.mp hu with rfl | hu
        · decide
        rcases List.mem_cons.mp hu with rfl | hu
        · decide
        rcases List.mem_cons.mp hu with rfl | hu
        · decide
        · exact unitsW_no (.inl h) 3 u hu)]
      decide
-- every comp of a path ends in a mark or a backslash
noncomputable def okL : Nat → List Nat → Bool
  | d, [] => d == 34 || d == 92
  | d, c :: r => (c != 47 || (d == 34 || d == 92)) && okL c r
theorem okL_cons (d c : Nat) (r : List Nat) : okL d (c :: r) = ((c != 47 || (d == 34 || d == 92)) && okL c r) := rfl
noncomputable def endOk (p : List Nat) : Prop := ∃ e, p.getLast? = some e ∧ (e = 34 ∨ e = 92)
theorem okL_comps : ∀ (l : List Nat) (d : Nat), okL d l = true → ∃ h t, splitL l = h :: t ∧ (h = [] → d = 34 ∨ d = 92) ∧ (h ≠ [] → endOk h) ∧ ∀ p ∈ t, endOk p
  | [], d, h => ⟨[], [], rfl, fun _ => by simpa [okL] using h, fun h => absurd rfl h, fun _ h => nomatch h⟩
  | c :: r, d, h => by
    rw [okL_cons, Bool.and_eq_true] at h
    obtain ⟨p, t, e, h1, h2, h3⟩ := okL_comps r c h.2
    by_cases hc : c = 47
    · subst hc
      refine ⟨[], splitL r, splitL_slash r, fun _ => by simpa using h.1, fun h => absurd rfl h, ?_⟩
      intro q hq
      rw [e] at hq
      rcases List.mem_cons.mp hq with rfl | hq
      · refine h2 fun hn => ?_
        rcases h1 hn with h | h <;> cases h
      · exact h3 q hq
    · obtain ⟨p', t', e1, e2⟩ := splitL_cons hc r
      rw [e] at e1
      cases e1
      refine ⟨c :: p, t, e2, (fun h => by cases h), fun _ => ?_, h3⟩
      by_cases hp : p = []
      · subst hp
        exact ⟨c, rfl, h1 rfl⟩
      · obtain ⟨x, hx, hxe⟩ := h2 hp
        refine ⟨x, ?_, hxe⟩
        rw [List.getLast?_cons]
        simp [hx]
theorem okL_written {cs : List Nat} : ∀ (d : Nat) (r : List Nat), okL d (writtenL cs ++ 34 :: r) = okL 34 r := by
  induction cs with
  | nil => intro d r; show okL d (34 :: r) = _; rw [okL_cons]; simp
  | cons c cs ih =>
    intro d r
    rw [written_cons]
    by_cases h : c ∈ MARKS
    · rw [if_pos h]
      show okL d (92 :: c :: (writtenL cs ++ 34 :: r)) = _
      rw [okL_cons, okL_cons, ih]
      simp
    · rw [if_neg h]
      show okL d (c :: (writtenL cs ++ 34 :: r)) = _
      have : c ≠ 47 := fun e => h (by rw [e]; decide)
      rw [okL_cons, ih]
      simp [this]
theorem okL_path (a b c : List Nat) : okL 0 (pathL a b c) = true := by
  have e : pathL a b c = 34 :: (writtenL a ++ 34 :: 47 :: 34 :: (writtenL b ++ 34 :: 47 :: 34 :: (writtenL c ++ 34 :: []))) := by simp [pathL_eq, quoteL]
  rw [e, okL_cons, okL_written, okL_cons, okL_cons, okL_written, okL_cons, okL_cons, okL_written]
  decide
theorem path_comps (a b c : List Nat) : ∀ p ∈ splitL (pathL a b c), endOk p := by
  obtain ⟨h, t, e, h1, h2, h3⟩ := okL_comps _ _ (okL_path a b c)
  intro p hp
  rw [e] at hp
  rcases List.mem_cons.mp hp with rfl | hp
  · refine h2 fun hn => ?_
    rcases h1 hn with h | h <;> cases h
  · exact h3 p hp
theorem comp_str {a b c : List Nat} : ∀ q ∈ Txt.split (mkS (pathL a b c)) (Str.ofString "/"), q ≠ Str.ofString "" ∧ q ≠ Str.ofString "." ∧ q ≠ Str.ofString ".." := by
  intro q hq
  rw [txtsplit_mk] at hq
  obtain ⟨p, hp, rfl⟩ := List.mem_map.mp hq
  obtain ⟨e, he, hee⟩ := path_comps a b c p hp
  rw [show Str.ofString "" = mkS [] from empty_mk, show Str.ofString "." = mkS [46] from by decide +kernel, show Str.ofString ".." = mkS [46, 46] from by decide +kernel]
  refine ⟨fun h => ?_, fun h => ?_, fun h => ?_⟩
  · rw [mkS_inj h] at he; cases he
  · rw [mkS_inj h] at he; simp at he; omega
  · rw [mkS_inj h] at he; simp at he; omega
theorem path_first (a b c : List Nat) : (pathL a b c)[0]? = some 34 := by rw [pathL_eq]; rfl
theorem norm_path {a b c : List Nat} (ha : NameL a) (hb : NameL b) (hc : NameL c) : NormOk (mkS (pathL a b c)) := by
  have h0 := pathL_len ha.1 hb.1 hc.1
  have hf := path_first a b c
  have h1 : 1 ≤ (pathL a b c).length := by
    cases e : pathL a b c with
    | nil => rw [e] at hf; cases hf
    | cons x r => simp
  refine ⟨by rw [mkS_len]; omega, by rw [mkS_len]; omega, ?_, comp_str⟩
  rw [bne_iff_ne, show (1 : Int) = ((1 : Nat) : Int) from rfl, slice_to_mk h1, slash_mk]
  intro e
  have e := mkS_inj e
  cases e2 : pathL a b c with
  | nil => rw [e2] at hf; cases hf
  | cons x r =>
    rw [e2] at hf e
    simp at hf e
    omega
end Mine
end

-- part E7
section
open PySem PySem.W PyProof.Rows PySem.Calls
set_option Elab.async false
set_option maxRecDepth 100000
set_option maxHeartbeats 8000000
set_option linter.unusedVariables false
namespace Mine

noncomputable def goodC (p : List Nat) : Prop := endOk p ∧ 47 ∉ p
theorem goodC.ne {p : List Nat} (h : goodC p) : p ≠ [] := fun e => by
  obtain ⟨⟨x, hx, _⟩, _⟩ := h
  rw [e] at hx; cases hx
theorem goodC.last {p : List Nat} (h : goodC p) : p.getLast? ≠ some 47 := by
  obtain ⟨⟨x, hx, hxe⟩, _⟩ := h
  rw [hx]
  intro e
  cases e
  rcases hxe with h | h <;> cases h
theorem goodC.first {p : List Nat} (h : goodC p) (r : List Nat) : (p ++ r)[0]? ≠ some 47 := by
  cases p with
  | nil => exact absurd rfl h.ne
  | cons x t =>
    intro e
    have : x = 47 := by simpa using e
    exact h.2 (this ▸ .head _)
theorem joinL_snoc {pre : List (List Nat)} (h : pre ≠ []) (c : List Nat) : joinL (pre ++ [c]) = joinL pre ++ 47 :: c := by
  induction pre with
  | nil => exact absurd rfl h
  | cons p r ih =>
    by_cases hr : r = []
    · subst hr; rfl
    · rw [List.cons_append, joinL_cons (by simp), ih hr, joinL_cons hr]; simp
theorem joinL_append {l r : List (List Nat)} (hl : l ≠ []) (hr : r ≠ []) : joinL (l ++ r) = joinL l ++ 47 :: joinL r := by
  induction l with
  | nil => exact absurd rfl hl
  | cons p t ih =>
    by_cases ht : t = []
    · subst ht; rw [List.cons_append, List.nil_append, joinL_cons hr]; rfl
    · rw [List.cons_append, joinL_cons (by simp [ht]), ih ht, joinL_cons ht]; simp
theorem joinL_last {pre : List (List Nat)} (h : pre ≠ []) (hg : ∀ p ∈ pre, goodC p) : ∃ e, (joinL pre).getLast? = some e ∧ e ≠ 47 := by
  rcases List.eq_nil_or_concat pre with e | ⟨l, c, e⟩
  · exact absurd e h
  · rw [List.concat_eq_append] at e
    subst e
    have gc := hg c (List.mem_append_right _ (.head _))
    obtain ⟨x, hx, hxe⟩ := gc.1
    refine ⟨x, ?_, fun h => by rw [h] at hxe; rcases hxe with h | h <;> cases h⟩
    by_cases hl : l = []
    · subst hl; exact hx
    · rw [joinL_snoc hl, List.getLast?_append, List.getLast?_cons, hx]; rfl
theorem joinL_first {raw : List (List Nat)} (hg : ∀ p ∈ raw, goodC p) : (joinL raw)[0]? ≠ some 47 := by
  cases raw with
  | nil => intro e; cases e
  | cons p r =>
    by_cases hr : r = []
    · subst hr
      have := (hg p (.head _)).first []
      rw [List.append_nil] at this
      exact this
    · rw [joinL_cons hr]; exact (hg p (.head _)).first _
noncomputable def stOf (pre raw ns : List (List Nat)) : RSt := ⟨mkS (joinL pre), mkS (joinL raw), ns.map mkS⟩
theorem joinL_nil_iff {raw : List (List Nat)} (hg : ∀ p ∈ raw, goodC p) : joinL raw = [] ↔ raw = [] := by
  constructor
  · intro h
    cases raw with
    | nil => rfl
    | cons p r =>
      exfalso
      by_cases hr : r = []
      · subst hr; exact (hg p (.head _)).ne h
      · rw [joinL_cons hr] at h; simp at h
  · rintro rfl; rfl
theorem head_step {pre : List (List Nat)} {c : List Nat} (hp : ∀ p ∈ pre, goodC p) (hc : goodC c) : splitT (mkS (joinL (pre ++ [c]))) = mkS c ∧ splitH (mkS (joinL (pre ++ [c]))) = mkS (joinL pre) := by
  by_cases h : pre = []
  · subst h
    exact ⟨splitT_free hc.2, splitH_free hc.2⟩
  · obtain ⟨e, he, hne⟩ := joinL_last h hp
    rw [joinL_snoc h]
    exact ⟨splitT_last hc.2, splitH_last hc.2 he hne⟩
theorem raw_step {pre raw ns : List (List Nat)} {c : List Nat} (hp : ∀ p ∈ pre, goodC p) (hc : goodC c) (hr : ∀ p ∈ raw, goodC p) : rawOf (stOf (pre ++ [c]) raw ns) = mkS (joinL (c :: raw)) := by
  unfold rawOf stOf
  dsimp only
  rw [(head_step hp hc).1]
  by_cases h : raw = []
  · subst h
    rw [if_pos (by rw [empty_mk]; simp [joinL])]
    rfl
  · rw [if_neg (by
      rw [empty_mk, beq_iff_eq]
      exact fun e => h ((joinL_nil_iff hr).mp (mkS_inj e))), joinS_mk hc.ne hc.last (joinL_first hr), joinL_cons h]
theorem step_name {pre raw ns : List (List Nat)} {c nm : List Nat} (hp : ∀ p ∈ pre, goodC p) (hc : goodC c) (hr : ∀ p ∈ raw, goodC p) (hs : stripS (mkS (joinL (c :: raw))) = mkS []) (hn : nameOf (mkS (joinL (c :: raw))) = mkS nm) :
    rStep (stOf (pre ++ [c]) raw ns) = stOf pre [] (nm :: ns) := by
  unfold rStep
  rw [raw_step hp hc hr, hs, hn, if_pos (by rw [empty_mk]; simp)]
  unfold stOf
  dsimp only
  rw [(head_step hp hc).2, empty_mk]
  rfl
theorem step_on {pre raw ns : List (List Nat)} {c : List Nat} (hp : ∀ p ∈ pre, goodC p) (hc : goodC c) (hr : ∀ p ∈ raw, goodC p) (hs : stripS (mkS (joinL (c :: raw))) ≠ mkS []) :
    rStep (stOf (pre ++ [c]) raw ns) = stOf pre (c :: raw) ns := by
  unfold rStep
  rw [raw_step hp hc hr, if_neg (by rw [empty_mk, beq_iff_eq]; exact hs)]
  unfold stOf
  dsimp only
  rw [(head_step hp hc).2]
theorem restOf : ∀ (a u v : List Nat), writtenL a ++ [34] = u ++ 47 :: v → ∃ a2, v = writtenL a2 ++ [34]
  | [], u, v, h => by
    exfalso
    have h : [34] = u ++ 47 :: v := h
    cases u with
    | nil => simp at h
    | cons x u => simp at h
  | c :: a, u, v, h => by
    rw [written_cons] at h
    by_cases hm : c ∈ MARKS
    · rw [if_pos hm] at h
      have h : 92 :: c :: (writtenL a ++ [34]) = u ++ 47 :: v := h
      cases u with
      | nil => simp at h
      | cons x u =>
        simp only [List.cons_append, List.cons.injEq] at h
        cases u with
        | nil =>
          simp only [List.nil_append, List.cons.injEq] at h
          exact ⟨a, h.2.2.symm⟩
        | cons y u =>
          simp only [List.cons_append, List.cons.injEq] at h
          exact restOf a u v h.2.2
    · rw [if_neg hm] at h
      have h : c :: (writtenL a ++ [34]) = u ++ 47 :: v := h
      cases u with
      | nil =>
        simp only [List.nil_append, List.cons.injEq] at h
        exact absurd (by rw [h.1]; decide) hm
      | cons x u =>
        simp only [List.cons_append, List.cons.injEq] at h
        exact restOf a u v h.2
theorem last_units (cs : List Nat) : ∀ p, ((unitsW p cs).map fun u => Txt.slice (unitS u) (some (-1)) none) = cs.map fun c => mkS [c] := by
  have one : ∀ (l : List Nat) (c : Nat), Txt.slice (mkS (l ++ [c])) (some (-1)) none = mkS [c] := by
    intro l c
    rw [slice_eq, StrLaws.sliceText_neg_lo _ _ (by decide) (by rw [mkS_len, List.length_append, List.length_singleton]; omega), ← slice_eq, mkS_len]
    rw [show (-1 : Int) + ((l ++ [c]).length : Int) = ((l.length : Nat) : Int) by (rw [List.length_append, List.length_singleton]; omega), slice_from_mk (by simp), List.drop_left' rfl]
  induction cs with
  | nil => intro p; rfl
  | cons c cs ih =>
    intro p
    rw [unitsW_cons]
    split
    · rw [List.map_cons, ih, List.map_cons]
      congr 1
      exact one [92] c
    · rw [List.map_cons, ih, List.map_cons]
      congr 1
      exact one [] c
theorem nameOf_quote (cs : List Nat) : nameOf (mkS (quoteL cs)) = mkS cs := by
  unfold nameOf
  have e1 : Txt.slice (mkS (quoteL cs)) (some 1) (some (-1)) = mkS (writtenL cs) := by
    rw [slice_eq, StrLaws.sliceText_neg_hi _ _ (by decide) (by rw [mkS_len]; unfold quoteL; simp; omega), ← slice_eq, mkS_len]
    have e2 : (-1 : Int) + ((quoteL cs).length : Int) = (((writtenL cs).length + 1 : Nat) : Int) := by
      unfold quoteL
      simp only [List.length_append, List.length_cons, List.length_nil]
      omega
    rw [e2, show (1 : Int) = ((1 : Nat) : Int) from rfl, slice_mk (by omega) (by unfold quoteL; simp)]
    congr 1
    unfold quoteL
    simp
  rw [e1, mkS_cps]
  have := units_written cs 0 []
  rw [List.append_nil] at this
  rw [this, show unitsL false (0 + (writtenL cs).length) [] = [] from rfl, List.append_nil, last_units]
  exact join_one cs
end Mine
end

-- part E8
section
open PySem PySem.W PyProof.Rows PySem.Calls
set_option Elab.async false
set_option maxRecDepth 100000
set_option maxHeartbeats 8000000
set_option linter.unusedVariables false
namespace Mine

noncomputable def boundOk (st : RSt) : Prop := st.head.length ≤ 1000 ∧ st.raw.length ≤ 1000 ∧ (rawOf st).length ≤ 1000
theorem joinL_len_l (l r : List (List Nat)) : (joinL l).length ≤ (joinL (l ++ r)).length := by
  by_cases hl : l = []
  · subst hl; exact Nat.zero_le _
  · by_cases hr : r = []
    · subst hr; rw [List.append_nil]; exact Nat.le_refl _
    · rw [joinL_append hl hr, List.length_append]; omega
theorem joinL_len_r (l r : List (List Nat)) : (joinL r).length ≤ (joinL (l ++ r)).length := by
  by_cases hl : l = []
  · subst hl; exact Nat.le_refl _
  · by_cases hr : r = []
    · subst hr; exact Nat.zero_le _
    · rw [joinL_append hl hr, List.length_append, List.length_cons]; omega
theorem quote_comps (a : List Nat) : ∀ p ∈ splitL (quoteL a), goodC p := by
  intro p hp
  refine ⟨path_comps a a a p ?_, splitL_mem_free hp⟩
  rw [pathL_eq, splitL_app]
  exact List.mem_append_left _ hp
theorem rest_ne {a : List Nat} {u suf : List (List Nat)} (hq : splitL (quoteL a) = u ++ suf) (hu : u ≠ []) (hs : suf ≠ []) : stripS (mkS (joinL suf)) ≠ mkS [] := by
  have e : joinL (u ++ suf) = quoteL a := by rw [← hq, joinL_splitL]
  rw [joinL_append hu hs] at e
  have hg : ∀ p ∈ u, goodC p := fun p hp => quote_comps a p (hq ▸ List.mem_append_left _ hp)
  cases hju : joinL u with
  | nil => exact absurd ((joinL_nil_iff hg).mp hju) hu
  | cons x v =>
    rw [hju] at e
    unfold quoteL at e
    simp only [List.cons_append, List.cons.injEq] at e
    obtain ⟨a2, h2⟩ := restOf _ _ _ e.2.symm
    rw [h2, strip_rest]
    intro h
    have := mkS_inj h
    simp at this
theorem run_in {x : Str} {i : Nat} {a : List Nat} {pre ns : List (List Nat)} (hp : ∀ p ∈ pre, goodC p) (hst : rIter x i = stOf (pre ++ splitL (quoteL a)) [] ns) :
    ∀ (suf u : List (List Nat)), splitL (quoteL a) = u ++ suf → u ≠ [] → rIter x (i + suf.length) = stOf (pre ++ u) suf ns
  | [], u, hq, hu => by
    rw [List.append_nil] at hq
    rw [← hq]
    exact hst
  | c :: suf, u, hq, hu => by
    have hg := quote_comps a
    rw [hq] at hg
    have ih := run_in hp hst suf (u ++ [c]) (by rw [hq]; simp) (by simp)
    rw [List.length_cons, ← Nat.add_assoc]
    show rStep (rIter x (i + suf.length)) = _
    rw [ih, ← List.append_assoc]
    exact step_on (List.forall_mem_append.mpr ⟨hp, fun p h => hg p (List.mem_append_left _ h)⟩) (hg c (List.mem_append_right _ (.head _))) (fun p h => hg p (List.mem_append_right _ (.tail _ h))) (rest_ne hq hu (by simp))
theorem run_name {x : Str} {i : Nat} {a : List Nat} {pre ns : List (List Nat)} (hp : ∀ p ∈ pre, goodC p) (hst : rIter x i = stOf (pre ++ splitL (quoteL a)) [] ns) (hlen : (joinL (pre ++ splitL (quoteL a))).length ≤ 1000) :
    rIter x (i + (splitL (quoteL a)).length) = stOf pre [] (a :: ns) ∧ ∀ j < (splitL (quoteL a)).length, boundOk (rIter x (i + j)) := by
  have hg := quote_comps a
  constructor
  · cases hq : splitL (quoteL a) with
    | nil => exact absurd hq (splitL_ne _)
    | cons c suf =>
      rw [hq] at hg
      by_cases hs : suf = []
      · subst hs
        rw [hq] at hst
        show rStep (rIter x i) = _
        rw [hst]
        have ej : joinL [c] = quoteL a := by rw [← hq, joinL_splitL]
        refine step_name hp (hg c (.head _)) (fun p h => nomatch h) ?_ ?_
        · rw [ej]; exact strip_closed [] a
        · rw [ej]; exact nameOf_quote a
      · have h := run_in hp hst suf [c] hq (by simp)
        rw [List.length_cons, ← Nat.add_assoc]
        show rStep (rIter x (i + suf.length)) = _
        rw [h]
        have ej : joinL (c :: suf) = quoteL a := by rw [← hq, joinL_splitL]
        refine step_name hp (hg c (.head _)) (fun p h => hg p (.tail _ h)) ?_ ?_
        · rw [ej]; exact strip_closed [] a
        · rw [ej]; exact nameOf_quote a
  · intro j hj
    have hq : splitL (quoteL a) = (splitL (quoteL a)).take ((splitL (quoteL a)).length - j) ++ (splitL (quoteL a)).drop ((splitL (quoteL a)).length - j) := (List.take_append_drop _ _).symm
    generalize hu : (splitL (quoteL a)).take ((splitL (quoteL a)).length - j) = u at hq
    generalize hsu : (splitL (quoteL a)).drop ((splitL (quoteL a)).length - j) = suf at hq
    have hlu : u.length = (splitL (quoteL a)).length - j := by rw [← hu, List.length_take]; omega
    have hls : suf.length = j := by rw [← hsu, List.length_drop]; omega
    have hne : u ≠ [] := by
      intro e; rw [e, List.length_nil] at hlu; omega
    have h := run_in hp hst suf u hq hne
    rw [hls] at h
    rw [h]
    rw [hq] at hg hlen
    rcases List.eq_nil_or_concat u with e | ⟨u0, c, e⟩
    · exact absurd e hne
    · rw [List.concat_eq_append] at e
      subst e
      have hpu : ∀ p ∈ pre ++ u0, goodC p := List.forall_mem_append.mpr ⟨hp, fun p h => hg p (List.mem_append_left _ (List.mem_append_left _ h))⟩
      have hgc : goodC c := hg c (List.mem_append_left _ (List.mem_append_right _ (.head _)))
      have hgs : ∀ p ∈ suf, goodC p := fun p h => hg p (List.mem_append_right _ h)
      refine ⟨?_, ?_, ?_⟩
      · show (mkS _).length ≤ _
        rw [mkS_len]
        have := joinL_len_l (pre ++ (u0 ++ [c])) suf
        rw [List.append_assoc] at this
        omega
      · show (mkS _).length ≤ _
        rw [mkS_len]
        have := joinL_len_r (pre ++ (u0 ++ [c])) suf
        rw [List.append_assoc] at this
        omega
      · rw [← List.append_assoc, raw_step hpu hgc hgs, mkS_len]
        have := joinL_len_r (pre ++ u0) (c :: suf)
        have e : pre ++ u0 ++ c :: suf = pre ++ (u0 ++ [c] ++ suf) := by simp
        rw [e] at this
        omega
theorem splitL_len : ∀ l, (splitL l).length ≤ l.length + 1
  | [] => Nat.le_refl _
  | c :: r => by
    by_cases h : c = 47
    · subst h
      rw [splitL_slash, List.length_cons, List.length_cons]
      have := splitL_len r
      omega
    · obtain ⟨p, t, e1, e2⟩ := splitL_cons h r
      have := splitL_len r
      rw [e1] at this
      rw [e2]
      simp only [List.length_cons] at this ⊢
      omega
theorem path_split (a b c : List Nat) : splitL (pathL a b c) = splitL (quoteL a) ++ (splitL (quoteL b) ++ splitL (quoteL c)) := by
  rw [pathL_eq, splitL_app, splitL_app]
theorem read_path {a b c : List Nat} (ha : NameL a) (hb : NameL b) (hc : NameL c) : ReadOk (mkS (pathL a b c)) (splitL (pathL a b c)).length (mkS a) (mkS b) (mkS c) := by
  have hl := pathL_len ha.1 hb.1 hc.1
  have ga := quote_comps a
  have gb := quote_comps b
  have gc := quote_comps c
  have ej : joinL (splitL (quoteL a) ++ (splitL (quoteL b) ++ splitL (quoteL c))) = pathL a b c := by rw [← path_split, joinL_splitL]
  have ej2 : joinL (splitL (quoteL a) ++ splitL (quoteL b) ++ splitL (quoteL c)) = pathL a b c := by rw [List.append_assoc, ej]
  have l1 : (joinL (splitL (quoteL a) ++ splitL (quoteL b))).length ≤ 26 := by
    have := joinL_len_l (splitL (quoteL a) ++ splitL (quoteL b)) (splitL (quoteL c))
    rw [ej2] at this; omega
  have l2 : (joinL ([] ++ splitL (quoteL a))).length ≤ 26 := by
    have := joinL_len_l (splitL (quoteL a)) (splitL (quoteL b))
    rw [List.nil_append]; omega
  have s0 : rIter (mkS (pathL a b c)) 0 = stOf (splitL (quoteL a) ++ splitL (quoteL b) ++ splitL (quoteL c)) [] [] := by
    unfold stOf rIter
    rw [ej2, empty_mk]; rfl
  obtain ⟨s1, b1⟩ := run_name (List.forall_mem_append.mpr ⟨ga, gb⟩) s0 (by rw [ej2]; omega)
  obtain ⟨s2, b2⟩ := run_name ga s1 (by omega)
  obtain ⟨s3, b3⟩ := run_name (pre := []) (fun p h => nomatch h) s2 (by omega)
  refine ⟨by rw [mkS_len]; omega, txtcount_mk _, ?_, ?_, ?_⟩
  · have := splitL_len (pathL a b c)
    omega
  · intro i hi
    rw [path_split, List.length_append, List.length_append] at hi
    by_cases h1 : i < (splitL (quoteL c)).length
    · have := b1 i h1
      rw [Nat.zero_add] at this; exact this
    · by_cases h2 : i < (splitL (quoteL c)).length + (splitL (quoteL b)).length
      · have := b2 (i - (splitL (quoteL c)).length) (by omega)
        rw [show 0 + (splitL (quoteL c)).length + (i - (splitL (quoteL c)).length) = i by omega] at this; exact this
      · have := b3 (i - (splitL (quoteL c)).length - (splitL (quoteL b)).length) (by omega)
        rw [show 0 + (splitL (quoteL c)).length + (splitL (quoteL b)).length + (i - (splitL (quoteL c)).length - (splitL (quoteL b)).length) = i by omega] at this; exact this
  · have e : (splitL (pathL a b c)).length = 0 + (splitL (quoteL c)).length + (splitL (quoteL b)).length + (splitL (quoteL a)).length := by
      rw [path_split, List.length_append, List.length_append]; omega
    rw [e, s3]
    rfl
end Mine
end

-- part E9
section
open PySem PySem.W PyProof.Rows PySem.Calls
set_option Elab.async false
set_option maxRecDepth 100000
set_option maxHeartbeats 8000000
set_option linter.unusedVariables false
namespace Mine

/-- the longest common prefix that ends with a slash -/
noncomputable def same : List Nat → List Nat → List Nat
  | x :: a, y :: b => if x = y then (if x = 47 then 47 :: same a b else match same a b with
    | [] => []
    | z :: l => x :: z :: l) else []
  | _, _ => []
theorem same_nil_l (b : List Nat) : same [] b = [] := by cases b <;> rfl
theorem same_nil_r (a : List Nat) : same a [] = [] := by cases a <;> rfl
theorem same_ne {x y : Nat} (h : x ≠ y) (a b : List Nat) : same (x :: a) (y :: b) = [] := by
  unfold same; rw [if_neg h]
theorem same_slash (a b : List Nat) : same (47 :: a) (47 :: b) = 47 :: same a b := by
  conv => lhs; unfold same
  rw [if_pos rfl, if_pos rfl]
theorem same_on {x : Nat} (h : x ≠ 47) (a b : List Nat) : same (x :: a) (x :: b) = if same a b = [] then [] else x :: same a b := by
  conv => lhs; unfold same
  rw [if_pos rfl, if_neg h]
  cases same a b with
  | nil => rfl
  | cons z l => rfl
theorem splitL_glue {p : List Nat} (hp : 47 ∉ p) (r : List Nat) : ∃ h t, splitL r = h :: t ∧ splitL (p ++ r) = (p ++ h) :: t := by
  induction p with
  | nil =>
    cases e : splitL r with
    | nil => exact absurd e (splitL_ne _)
    | cons h t => exact ⟨h, t, rfl, e⟩
  | cons c p ih =>
    obtain ⟨h, t, e1, e2⟩ := ih (fun hc => hp (.tail _ hc))
    obtain ⟨h', t', e3, e4⟩ := splitL_cons (c := c) (fun e => hp (e ▸ .head _)) (p ++ r)
    rw [e2] at e3
    cases e3
    exact ⟨h, t, e1, e4⟩
noncomputable def wOf (x : Nat) : List Nat := if x ∈ MARKS then [92, x] else [x]
theorem written_w (x : Nat) (a : List Nat) : writtenL (x :: a) = wOf x ++ writtenL a := written_cons x a
theorem wOf_free {x : Nat} (h : x ≠ 47) : 47 ∉ wOf x := by
  unfold wOf
  split
  · intro h'
    simp at h'
    exact h h'.symm
  · intro h'
    simp at h'
    exact h h'.symm
theorem wOf_slash : wOf 47 = [92, 47] := by decide
theorem free_app {p q : List Nat} (hp : 47 ∉ p) (hq : 47 ∉ q) : 47 ∉ p ++ q := fun h => (List.mem_append.mp h).elim hp hq
/-- the first piece behind what stands already -/
theorem first_part {p : List Nat} (hp : 47 ∉ p) (x : Nat) (a : List Nat) : ∃ h t, splitL (p ++ (writtenL (x :: a) ++ [34])) = (p ++ h) :: t ∧ ((x = 47 ∧ h = [92]) ∨ (x ≠ 47 ∧ x ∈ MARKS ∧ ∃ r, h = 92 :: x :: r) ∨ (x ∉ MARKS ∧ ∃ r, h = x :: r)) := by
  rw [written_w]
  by_cases hx : x = 47
  · subst hx
    refine ⟨[92], splitL (writtenL a ++ [34]), ?_, .inl ⟨rfl, rfl⟩⟩
    rw [wOf_slash]
    have : p ++ ([92, 47] ++ writtenL a ++ [34]) = (p ++ [92]) ++ 47 :: (writtenL a ++ [34]) := by simp
    rw [this, splitL_app, splitL_free (free_app hp (by decide))]
    rfl
  · obtain ⟨h, t, e1, e2⟩ := splitL_glue (free_app hp (wOf_free hx)) (writtenL a ++ [34])
    refine ⟨wOf x ++ h, t, ?_, .inr ?_⟩
    · have : p ++ (wOf x ++ writtenL a ++ [34]) = p ++ wOf x ++ (writtenL a ++ [34]) := by simp
      rw [this, e2, List.append_assoc]
    · by_cases hm : x ∈ MARKS
      · exact .inl ⟨hx, hm, h, by unfold wOf; rw [if_pos hm]; rfl⟩
      · exact .inr ⟨hm, h, by unfold wOf; rw [if_neg hm]; rfl⟩
theorem end_part {p : List Nat} (hp : 47 ∉ p) : splitL (p ++ (writtenL [] ++ [34])) = [p ++ [34]] := splitL_free (free_app hp (by decide))
theorem mark34 : (34 : Nat) ∈ MARKS := by decide
theorem mark92 : (92 : Nat) ∈ MARKS := by decide
theorem mark47 : (47 : Nat) ∈ MARKS := by decide
/-- what two different names begin with, in pieces -/
structure Apart (X Y : List (List Nat)) (j : Nat) (got : List Nat) : Prop where
  lx : j < X.length
  ly : j < Y.length
  eq : X.take j = Y.take j
  ne : X[j]? ≠ Y[j]?
  flat : ((X.take j).flatMap fun c => c ++ [47]) = got
theorem apart_now {h1 h2 : List Nat} {t1 t2 : List (List Nat)} (h : h1 ≠ h2) : Apart (h1 :: t1) (h2 :: t2) 0 [] :=
  ⟨Nat.succ_pos _, Nat.succ_pos _, rfl, fun e => h (by simpa using e), rfl⟩
theorem apart_symm_ne {X Y : List (List Nat)} {j : Nat} (h : Apart X Y j []) : Apart Y X j [] :=
  ⟨h.ly, h.lx, h.eq.symm, h.ne.symm, by rw [← h.eq]; exact h.flat⟩
theorem apart_names : ∀ (a b p : List Nat), 47 ∉ p → a ≠ b → ∃ j, Apart (splitL (p ++ (writtenL a ++ [34]))) (splitL (p ++ (writtenL b ++ [34]))) j (if same a b = [] then [] else p ++ writtenL (same a b))
  | [], [], p, hp, hne => absurd rfl hne
  | [], y :: b, p, hp, hne => by
    obtain ⟨h, t, e, hc⟩ := first_part hp y b
    refine ⟨0, ?_⟩
    rw [if_pos (same_nil_l _), e, end_part hp]
    refine apart_now ?_
    intro he
    have he := List.append_cancel_left he
    rcases hc with ⟨_, rfl⟩ | ⟨_, _, r, rfl⟩ | ⟨hm, r, rfl⟩
    · cases he
    · cases he
    · simp only [List.cons.injEq] at he
      exact hm (he.1 ▸ mark34)
  | x :: a, [], p, hp, hne => by
    obtain ⟨h, t, e, hc⟩ := first_part hp x a
    refine ⟨0, ?_⟩
    rw [if_pos (same_nil_r _), e, end_part hp]
    refine apart_now ?_
    intro he
    have he := List.append_cancel_left he
    rcases hc with ⟨_, rfl⟩ | ⟨_, _, r, rfl⟩ | ⟨hm, r, rfl⟩
    · cases he
    · cases he
    · simp only [List.cons.injEq] at he
      exact hm (he.1 ▸ mark34)
  | x :: a, y :: b, p, hp, hne => by
    by_cases hxy : x = y
    · subst hxy
      have hab : a ≠ b := fun e => hne (by rw [e])
      by_cases hx : x = 47
      · subst hx
        obtain ⟨j, hj⟩ := apart_names a b [] (by simp) hab
        have ex : ∀ c : List Nat, splitL (p ++ (writtenL (47 :: c) ++ [34])) = (p ++ [92]) :: splitL (writtenL c ++ [34]) := by
          intro c
          rw [written_w, wOf_slash]
          have : p ++ ([92, 47] ++ writtenL c ++ [34]) = (p ++ [92]) ++ 47 :: (writtenL c ++ [34]) := by simp
          rw [this, splitL_app, splitL_free (free_app hp (by decide))]
          rfl
        refine ⟨j + 1, ?_⟩
        rw [ex, ex, same_slash, if_neg (by simp)]
        simp only [List.nil_append] at hj
        refine ⟨Nat.succ_lt_succ hj.lx, Nat.succ_lt_succ hj.ly, by rw [List.take_succ_cons, List.take_succ_cons, hj.eq], by rw [List.getElem?_cons_succ, List.getElem?_cons_succ]; exact hj.ne, ?_⟩
        rw [List.take_succ_cons, List.flatMap_cons, hj.flat, written_w, wOf_slash]
        by_cases hs : same a b = []
        · rw [if_pos hs, hs]; simp [writtenL]
        · rw [if_neg hs]; simp
      · obtain ⟨j, hj⟩ := apart_names a b (p ++ wOf x) (free_app hp (wOf_free hx)) hab
        refine ⟨j, ?_⟩
        have ex : ∀ c : List Nat, p ++ (writtenL (x :: c) ++ [34]) = p ++ wOf x ++ (writtenL c ++ [34]) := by
          intro c; rw [written_w]; simp
        rw [ex, ex, same_on hx]
        by_cases hs : same a b = []
        · rw [if_pos hs] at hj
          rw [if_pos (by rw [if_pos hs])]
          exact hj
        · rw [if_neg hs] at hj
          rw [if_neg hs, if_neg (by simp), written_w, show p ++ (wOf x ++ writtenL (same a b)) = p ++ wOf x ++ writtenL (same a b) from (List.append_assoc _ _ _).symm]
          exact hj
    · refine ⟨0, ?_⟩
      obtain ⟨h, t, e, hc⟩ := first_part hp x a
      obtain ⟨h', t', e', hc'⟩ := first_part hp y b
      rw [if_pos (same_ne hxy _ _), e, e']
      refine apart_now ?_
      intro he
      have he := List.append_cancel_left he
      subst he
      rcases hc with ⟨h1, rfl⟩ | ⟨_, hm, r, rfl⟩ | ⟨hm, r, rfl⟩
      · rcases hc' with ⟨h2, _⟩ | ⟨_, _, r, h3⟩ | ⟨hm', r, h3⟩
        · exact hxy (h1.trans h2.symm)
        · cases h3
        · simp only [List.cons.injEq] at h3
          exact hm' (h3.1 ▸ mark92)
      · rcases hc' with ⟨h2, h3⟩ | ⟨_, _, r', h3⟩ | ⟨hm', r', h3⟩
        · cases h3
        · simp only [List.cons.injEq] at h3
          exact hxy h3.2.1
        · simp only [List.cons.injEq] at h3
          exact hm' (h3.1 ▸ mark92)
      · rcases hc' with ⟨h2, h3⟩ | ⟨_, _, r', h3⟩ | ⟨hm', r', h3⟩
        · simp only [List.cons.injEq] at h3
          exact hm (h3.1 ▸ mark92)
        · simp only [List.cons.injEq] at h3
          exact hm (h3.1 ▸ mark92)
        · simp only [List.cons.injEq] at h3
          exact hxy h3.1
theorem apart_quotes {a b : List Nat} (h : a ≠ b) : ∃ j, Apart (splitL (quoteL a)) (splitL (quoteL b)) j (if same a b = [] then [] else 34 :: writtenL (same a b)) :=
  apart_names a b [34] (by decide) h
theorem Apart.longer {X Y RA RB : List (List Nat)} {j : Nat} {g : List Nat} (h : Apart X Y j g) : Apart (X ++ RA) (Y ++ RB) j g := by
  obtain ⟨lx, ly, eq, ne, fl⟩ := h
  refine ⟨by rw [List.length_append]; omega, by rw [List.length_append]; omega, ?_, ?_, ?_⟩
  · rw [List.take_append_of_le_length (Nat.le_of_lt lx), List.take_append_of_le_length (Nat.le_of_lt ly), eq]
  · rw [List.getElem?_append_left lx, List.getElem?_append_left ly]; exact ne
  · rw [List.take_append_of_le_length (Nat.le_of_lt lx)]; exact fl
theorem Apart.behind {X Y P : List (List Nat)} {j : Nat} {g : List Nat} (h : Apart X Y j g) : Apart (P ++ X) (P ++ Y) (P.length + j) ((P.flatMap fun c => c ++ [47]) ++ g) := by
  obtain ⟨lx, ly, eq, ne, fl⟩ := h
  refine ⟨by rw [List.length_append]; omega, by rw [List.length_append]; omega, ?_, ?_, ?_⟩
  · rw [List.take_length_add_append, List.take_length_add_append, eq]
  · rw [List.getElem?_append_right (by omega), List.getElem?_append_right (by omega), Nat.add_sub_cancel_left]; exact ne
  · rw [List.take_length_add_append, List.flatMap_append, fl]
theorem flat_join : ∀ (P : List (List Nat)), P ≠ [] → (P.flatMap fun c => c ++ [47]) = joinL P ++ [47]
  | [], h => absurd rfl h
  | [p], _ => by simp [joinL]
  | p :: q :: r, _ => by
    rw [List.flatMap_cons, flat_join (q :: r) (by simp), joinL_cons (p := p) (r := q :: r) (by simp)]
    simp
theorem flat_quote (a : List Nat) : ((splitL (quoteL a)).flatMap fun c => c ++ [47]) = quoteL a ++ [47] := by
  rw [flat_join _ (splitL_ne _), joinL_splitL]
end Mine
end

-- part E10
section
open PySem PySem.W PyProof.Rows PySem.Calls
set_option Elab.async false
set_option maxRecDepth 100000
set_option maxHeartbeats 8000000
set_option linter.unusedVariables false
namespace Mine

theorem slash_join {P : List (List Nat)} (h : ∀ p ∈ P, goodC p) : joinS (mkS (joinL P)) (mkS []) = mkS (P.flatMap fun c => c ++ [47]) := by
  by_cases hP : P = []
  · subst hP; exact joinS_nil []
  · obtain ⟨e, he, hne⟩ := joinL_last hP h
    rw [joinS_mk (fun h' => hP ((joinL_nil_iff h).mp h')) (by rw [he]; exact fun h' => hne (by simpa using h')) (by simp), flat_join P hP]
theorem goodC_path (a b c : List Nat) : ∀ p ∈ splitL (pathL a b c), goodC p := by
  intro p hp
  exact ⟨path_comps a b c p hp, splitL_mem_free hp⟩
theorem comm_path {a1 a2 a3 b1 b2 b3 : List Nat} {c : Nat} (ha1 : NameL a1) (ha2 : NameL a2) (ha3 : NameL a3) (hb1 : NameL b1) (hb2 : NameL b2) (hb3 : NameL b3)
    (h : PartAt ((splitL (pathL a1 a2 a3)).map mkS) ((splitL (pathL b1 b2 b3)).map mkS) c) :
    CommOk (mkS (pathL a1 a2 a3)) (mkS (pathL b1 b2 b3)) c ∧ stripS (joinS (commS (mkS (pathL a1 a2 a3)) c) (mkS [])) = stripS (mkS (((splitL (pathL a1 a2 a3)).take c).flatMap fun c => c ++ [47])) := by
  have l1 := pathL_len ha1.1 ha2.1 ha3.1
  have l2 := pathL_len hb1.1 hb2.1 hb3.1
  refine ⟨⟨by rw [mkS_len]; omega, by rw [mkS_len]; omega, fun q hq => ⟨(comp_str q hq).1, (comp_str q hq).2.1⟩, fun q hq => ⟨(comp_str q hq).1, (comp_str q hq).2.1⟩, ?_, ?_, ?_⟩, ?_⟩
  · rw [startswith_mk, path_first]; rfl
  · rw [startswith_mk, path_first]; rfl
  · rw [txtsplit_mk, txtsplit_mk]; exact h
  · unfold commS
    rw [txtsplit_mk, ← List.map_take, txtjoin_mk, slash_join (fun p hp => goodC_path a1 a2 a3 p (List.mem_of_mem_take hp))]
theorem Apart.part {X Y : List (List Nat)} {j : Nat} {g : List Nat} (h : Apart X Y j g) : PartAt (X.map mkS) (Y.map mkS) j := by
  obtain ⟨lx, ly, eq, ne, fl⟩ := h
  refine .inr ⟨by rw [List.length_map]; exact lx, by rw [List.length_map]; exact ly, by rw [← List.map_take, ← List.map_take, eq], ?_⟩
  rw [List.getElem?_map, List.getElem?_map]
  intro e
  apply ne
  rw [List.getElem?_eq_getElem lx, List.getElem?_eq_getElem ly] at e ⊢
  simp only [Option.map_some, Option.some.injEq] at e
  rw [mkS_inj e]
/-- what is left of the common part -/
noncomputable def leftL (k : Nat) (a b : List Nat) : List Nat := List.replicate k 47 ++ (if same a b = [] then [] else 34 :: writtenL (same a b))
theorem strip_left (ns : List (List Nat)) (a b : List Nat) : stripS (mkS (blocks ns ++ (if same a b = [] then [] else 34 :: writtenL (same a b)))) = mkS (leftL ns.length a b) := by
  unfold leftL
  by_cases h : same a b = []
  · rw [if_pos h, List.append_nil, List.append_nil]; exact strip_blocks ns
  · rw [if_neg h]; exact strip_open ns _
section
variable {a1 a2 a3 b1 b2 b3 : List Nat} (ha1 : NameL a1) (ha2 : NameL a2) (ha3 : NameL a3) (hb1 : NameL b1) (hb2 : NameL b2) (hb3 : NameL b3)
include ha1 ha2 ha3 hb1 hb2 hb3
theorem common_0 (h : a1 ≠ b1) : ∃ c, CommOk (mkS (pathL a1 a2 a3)) (mkS (pathL b1 b2 b3)) c ∧ stripS (joinS (commS (mkS (pathL a1 a2 a3)) c) (mkS [])) = mkS (leftL 0 a1 b1) := by
  obtain ⟨j, hj⟩ := apart_quotes h
  have hj := hj.longer (RA := splitL (quoteL a2) ++ splitL (quoteL a3)) (RB := splitL (quoteL b2) ++ splitL (quoteL b3))
  rw [← path_split, ← path_split] at hj
  obtain ⟨h1, h2⟩ := comm_path ha1 ha2 ha3 hb1 hb2 hb3 hj.part
  exact ⟨j, h1, by rw [h2, hj.flat]; exact strip_left [] a1 b1⟩
theorem common_1 (he : a1 = b1) (h : a2 ≠ b2) : ∃ c, CommOk (mkS (pathL a1 a2 a3)) (mkS (pathL b1 b2 b3)) c ∧ stripS (joinS (commS (mkS (pathL a1 a2 a3)) c) (mkS [])) = mkS (leftL 1 a2 b2) := by
  subst he
  obtain ⟨j, hj⟩ := apart_quotes h
  have hj := (hj.longer (RA := splitL (quoteL a3)) (RB := splitL (quoteL b3))).behind (P := splitL (quoteL a1))
  rw [← path_split, ← path_split] at hj
  obtain ⟨h1, h2⟩ := comm_path ha1 ha2 ha3 hb1 hb2 hb3 hj.part
  refine ⟨_, h1, ?_⟩
  rw [h2, hj.flat, flat_quote]
  have := strip_left [a1] a2 b2
  simp only [blocks, List.flatMap_cons, List.flatMap_nil, List.append_nil] at this
  exact this
theorem common_2 (he1 : a1 = b1) (he2 : a2 = b2) (h : a3 ≠ b3) : ∃ c, CommOk (mkS (pathL a1 a2 a3)) (mkS (pathL b1 b2 b3)) c ∧ stripS (joinS (commS (mkS (pathL a1 a2 a3)) c) (mkS [])) = mkS (leftL 2 a3 b3) := by
  subst he1 he2
  obtain ⟨j, hj⟩ := apart_quotes h
  have hj := (hj.behind (P := splitL (quoteL a2))).behind (P := splitL (quoteL a1))
  rw [← path_split, ← path_split] at hj
  obtain ⟨h1, h2⟩ := comm_path ha1 ha2 ha3 hb1 hb2 hb3 hj.part
  refine ⟨_, h1, ?_⟩
  rw [h2, hj.flat, flat_quote, flat_quote]
  have := strip_left [a1, a2] a3 b3
  simp only [blocks, List.flatMap_cons, List.flatMap_nil, List.append_nil, List.append_assoc] at this ⊢
  exact this
theorem common_3 (he1 : a1 = b1) (he2 : a2 = b2) (he3 : a3 = b3) : ∃ c, CommOk (mkS (pathL a1 a2 a3)) (mkS (pathL b1 b2 b3)) c ∧ stripS (joinS (commS (mkS (pathL a1 a2 a3)) c) (mkS [])) = mkS (List.replicate 3 47) := by
  subst he1 he2 he3
  obtain ⟨h1, h2⟩ := comm_path (c := ((splitL (pathL a1 a2 a3)).map mkS).length) ha1 ha2 ha3 hb1 hb2 hb3 (.inl ⟨rfl, rfl⟩)
  refine ⟨_, h1, ?_⟩
  rw [h2, List.length_map, List.take_length, flat_join _ (splitL_ne _), joinL_splitL]
  have := strip_blocks [a1, a2, a3]
  rw [← show pathL a1 a2 a3 ++ [47] = blocks [a1, a2, a3] by simp [pathL, blocks]] at this
  exact this
end
-- the law's own word for it
theorem slice_to_any (l : List Nat) (b : Nat) : Txt.slice (mkS l) none (some (b : Int)) = mkS (l.take b) := by
  by_cases h : b ≤ l.length
  · exact slice_to_mk h
  · have e : PySem.Builtin.Str.strSliceIndices none (some (b : Int)) 1 (mkS l).length = PySem.Builtin.Str.strSliceIndices none (some (((mkS l).length : Nat) : Int)) 1 (mkS l).length := by
      have h1 : ¬ ((b : Int) < 0) := by omega
      have h2 : ¬ (((mkS l).length : Int) < 0) := by omega
      have h3 : min (b : Int) ((mkS l).length : Int) = ((mkS l).length : Int) := by rw [mkS_len]; omega
      simp [PySem.Builtin.Str.strSliceIndices, h1, h2, h3]
    have e2 : Txt.slice (mkS l) none (some (b : Int)) = Txt.slice (mkS l) none (some (((mkS l).length : Nat) : Int)) := by
      rw [slice_eq, slice_eq]
      unfold StrLaws.sliceText
      rw [e]
    rw [e2, mkS_len, slice_to_mk (Nat.le_refl _), List.take_length, List.take_of_length_le (by omega)]
theorem item_mk {l : List Nat} {i : Nat} (h : i < l.length) : Txt.item (mkS l) (0 + (i : Int)) = mkS [l[i]] := by
  unfold Txt.item Txt.charAt seqIndex?
  have h1 : ¬ ((0 : Int) + (i : Int) < 0) := by omega
  have h2 : (0 : Int) ≤ 0 + (i : Int) := by omega
  have h3 : (0 : Int) + (i : Int) < ((mkS l).length : Int) := by rw [mkS_len]; omega
  have h4 : ((0 : Int) + (i : Int)).toNat = i := by omega
  simp only [h1, if_false, h2, h3, decide_true, Bool.and_self, if_true, Option.bind_some, h4]
  simp [mkS, h]
theorem same_snoc (x : Nat) : ∀ u b : List Nat, same (u ++ [x]) b = if x = 47 ∧ u ++ [x] = b.take (u.length + 1) then u ++ [x] else same u b
  | [], [] => by rw [same_nil_r, same_nil_r, if_neg (by simp)]
  | [], y :: b => by
    rw [List.nil_append, same_nil_l]
    by_cases h : x = y
    · subst h
      by_cases hx : x = 47
      · subst hx; rw [same_slash, same_nil_l, if_pos (by simp)]
      · rw [same_on hx, same_nil_l, if_pos rfl, if_neg (by simp [hx])]
    · rw [same_ne h, if_neg (by simp [h])]
  | z :: u, [] => by rw [same_nil_r, same_nil_r, if_neg (by simp)]
  | z :: u, y :: b => by
    rw [List.cons_append]
    by_cases h : z = y
    · subst h
      have ih := same_snoc x u b
      have ec : (x = 47 ∧ z :: (u ++ [x]) = (z :: b).take ((z :: u).length + 1)) ↔ (x = 47 ∧ u ++ [x] = b.take (u.length + 1)) := by
        rw [List.length_cons, List.take_succ_cons, List.cons.injEq]
        constructor
        · exact fun h => ⟨h.1, h.2.2⟩
        · exact fun h => ⟨h.1, rfl, h.2⟩
      by_cases hc : x = 47 ∧ u ++ [x] = b.take (u.length + 1)
      · rw [if_pos hc] at ih
        rw [if_pos (ec.mpr hc)]
        by_cases hz : z = 47
        · subst hz; rw [same_slash, ih]
        · rw [same_on hz, ih, if_neg (by simp)]
      · rw [if_neg hc] at ih
        rw [if_neg (fun h => hc (ec.mp h))]
        by_cases hz : z = 47
        · subst hz; rw [same_slash, same_slash, ih]
        · rw [same_on hz, same_on hz, ih]
    · rw [same_ne h, same_ne h, if_neg (by simp [h])]
theorem bSize_same {a b : List Nat} : ∀ n, n ≤ a.length → bSize (mkS a) (mkS b) n = (same (a.take n) b).length
  | 0, _ => by rw [List.take_zero, same_nil_l]; rfl
  | n + 1, hn => by
    have ih := bSize_same (a := a) (b := b) n (by omega)
    have e1 : a.take (n + 1) = a.take n ++ [a[n]] := by rw [List.take_succ_eq_append_getElem (by omega)]
    have el : (a.take n).length = n := by rw [List.length_take]; omega
    have es : (0 : Int) + (n : Int) + 1 = ((n + 1 : Nat) : Int) := by omega
    rw [e1, same_snoc, el, ← e1]
    unfold bSize
    rw [item_mk (by omega), slash_mk, es, slice_to_any, slice_to_any]
    by_cases h : a[n] = 47
    · rw [if_pos (by rw [h]; simp)]
      by_cases h2 : a.take (n + 1) = b.take (n + 1)
      · rw [if_pos (by rw [h2]; simp), if_pos ⟨h, h2⟩, List.length_take]; omega
      · rw [if_neg (by rw [beq_iff_eq]; exact fun e => h2 (mkS_inj e)), if_neg (fun h' => h2 h'.2)]
        exact ih
    · rw [if_neg (by rw [beq_iff_eq]; exact fun e => h (by simpa using mkS_inj e)), if_neg (fun h' => h h'.1)]
      exact ih
theorem same_prefix : ∀ a b : List Nat, ∃ r, a = same a b ++ r
  | [], b => ⟨[], by rw [same_nil_l]; rfl⟩
  | x :: a, [] => ⟨x :: a, by rw [same_nil_r]; rfl⟩
  | x :: a, y :: b => by
    obtain ⟨r, hr⟩ := same_prefix a b
    by_cases h : x = y
    · subst h
      by_cases hx : x = 47
      · subst hx; exact ⟨r, by rw [same_slash, List.cons_append, ← hr]⟩
      · rw [same_on hx]
        by_cases hs : same a b = []
        · rw [if_pos hs]; exact ⟨x :: a, rfl⟩
        · rw [if_neg hs]; exact ⟨r, by rw [List.cons_append, ← hr]⟩
    · exact ⟨x :: a, by rw [same_ne h]; rfl⟩
theorem both_same (a b : List Nat) : bothS (mkS a) (mkS b) = mkS (same a b) := by
  unfold bothS
  rw [mkS_len, bSize_same _ (Nat.le_refl _), List.take_length, slice_to_any]
  obtain ⟨r, hr⟩ := same_prefix a b
  congr 1
  generalize same a b = d at hr ⊢
  subst hr
  exact List.take_left' rfl
theorem same_name {a b : List Nat} (h : NameL a) : NameL (same a b) := by
  obtain ⟨r, hr⟩ := same_prefix a b
  refine ⟨?_, fun c hc => h.2 c (hr ▸ List.mem_append_left _ hc)⟩
  have := congrArg List.length hr
  rw [List.length_append] at this
  have := h.1
  omega
end Mine
end

-- part J1
section
open PySem PySem.W PyProof.Rows PySem.Calls
set_option Elab.async false
set_option maxRecDepth 100000
set_option maxHeartbeats 8000000
set_option linter.unusedVariables false
namespace Mine

noncomputable def hasOpen (x : Str) : Bool := !(PySem.Builtin.Str.occurrences x (Str.ofString "(") 0 x.length 1).isEmpty
theorem open_mk : Str.ofString "(" = mkS [40] := by decide +kernel
theorem hasOpen_mk (l : List Nat) : hasOpen (mkS l) = decide (40 ∈ l) := by
  unfold hasOpen
  rw [open_mk, has_mk, Bool.not_not]
structure PathFacts (a1 a2 a3 : Str) : Prop where
  norm : NormOk (P3 a1 a2 a3)
  pre : PreOk (P3 a1 a2 a3)
  preT : PreOk (Txt.slice (P3 a1 a2 a3) none (some (-1)))
  val : valS (P3 a1 a2 a3) = P3 a1 a2 a3
  valT : valS (Txt.slice (P3 a1 a2 a3) none (some (-1))) = if hasOpen a3 = true then Str.ofString "('', '')" else Txt.slice (P3 a1 a2 a3) none (some (-1))
  read : ∃ n, ReadOk (P3 a1 a2 a3) n a1 a2 a3
theorem path_facts {a1 a2 a3 : Str} (h1 : NameS a1) (h2 : NameS a2) (h3 : NameS a3) : PathFacts a1 a2 a3 := by
  obtain ⟨c1, k1, rfl⟩ := h1
  obtain ⟨c2, k2, rfl⟩ := h2
  obtain ⟨c3, k3, rfl⟩ := h3
  show PathFacts (mkS c1) (mkS c2) (mkS c3)
  have e := P3_mk c1 c2 c3
  have e2 := torn_mk c1 c2 c3
  refine ⟨?_, ?_, ?_, ?_, ?_, ?_⟩
  · rw [e]; exact norm_path k1 k2 k3
  · rw [e]; exact (pre_path k1 k2 k3).1
  · rw [e, e2]; exact (pre_torn k1 k2 k3).1
  · rw [e]; exact (pre_path k1 k2 k3).2
  · rw [e, e2, (pre_torn k1 k2 k3).2, hasOpen_mk]
    by_cases h : 40 ∈ c3
    · rw [if_pos h, if_pos (by simpa using h)]
    · rw [if_neg h, if_neg (by simpa using h)]
  · rw [e]; exact ⟨_, read_path k1 k2 k3⟩
/-- what is due of the common part -/
noncomputable def dueS (k : Nat) (a b : Str) : Str := mkS (List.replicate k 47) ++ (if (bothS a b == Str.ofString "") = true then Str.ofString "" else Str.ofString "\"" ++ ⟨(writtenL (bothS a b).cps.toList).toArray⟩)
theorem due_mk (k : Nat) (a b : List Nat) : dueS k (mkS a) (mkS b) = mkS (leftL k a b) := by
  unfold dueS leftL
  rw [both_same, mkS_cps, empty_mk, mark_mk]
  by_cases h : same a b = []
  · rw [if_pos (by rw [h]; simp), if_pos h, mkS_app]
  · rw [if_neg (by rw [beq_iff_eq]; exact fun e => h (mkS_inj e)), if_neg h]
    show mkS _ ++ (mkS [34] ++ mkS _) = _
    rw [mkS_app, mkS_app]
    rfl
theorem both_len {a b : Str} (h : NameS a) (h' : NameS b) : (bothS a b).length ≤ 3 := by
  obtain ⟨c1, k1, rfl⟩ := h
  obtain ⟨c2, k2, rfl⟩ := h'
  show (bothS (mkS c1) (mkS c2)).length ≤ 3
  rw [both_same, mkS_len]
  exact (same_name k1).1
structure Comm (x y d : Str) : Prop where
  out : ∃ c, CommOk x y c ∧ stripS (joinS (commS x c) (Str.ofString "")) = d ∧ (joinS (commS x c) (Str.ofString "")).length ≤ 1000 ∧ (commS x c).length ≤ 1000
section
variable {a1 a2 a3 b1 b2 b3 : Str} (ha1 : NameS a1) (ha2 : NameS a2) (ha3 : NameS a3) (hb1 : NameS b1) (hb2 : NameS b2) (hb3 : NameS b3)
include ha1 ha2 ha3 hb1 hb2 hb3
theorem comm_len {c : Nat} : (joinS (commS (P3 a1 a2 a3) c) (Str.ofString "")).length ≤ 1000 ∧ (commS (P3 a1 a2 a3) c).length ≤ 1000 := by
  obtain ⟨A1, k1, rfl⟩ := ha1
  obtain ⟨A2, k2, rfl⟩ := ha2
  obtain ⟨A3, k3, rfl⟩ := ha3
  show (joinS (commS (P3 (mkS A1) (mkS A2) (mkS A3)) c) _).length ≤ 1000 ∧ (commS (P3 (mkS A1) (mkS A2) (mkS A3)) c).length ≤ 1000
  rw [P3_mk, empty_mk]
  unfold commS
  have hg := goodC_path A1 A2 A3
  have l0 := pathL_len k1.1 k2.1 k3.1
  have l1 := joinL_len_l ((splitL (pathL A1 A2 A3)).take c) ((splitL (pathL A1 A2 A3)).drop c)
  rw [List.take_append_drop, joinL_splitL] at l1
  rw [txtsplit_mk, ← List.map_take, txtjoin_mk]
  have hg2 : ∀ p ∈ (splitL (pathL A1 A2 A3)).take c, goodC p := fun p hp => hg p (List.mem_of_mem_take hp)
  refine ⟨?_, by rw [mkS_len]; omega⟩
  rw [slash_join hg2, mkS_len]
  by_cases hP : (splitL (pathL A1 A2 A3)).take c = []
  · rw [hP]; exact Nat.zero_le _
  · rw [flat_join _ hP, List.length_append]
    simp only [List.length_singleton]
    omega
theorem comm0 (h : a1 ≠ b1) : Comm (P3 a1 a2 a3) (P3 b1 b2 b3) (dueS 0 a1 b1) := by
  have hl := fun c => comm_len (c := c) ha1 ha2 ha3 hb1 hb2 hb3
  obtain ⟨A1, k1, rfl⟩ := ha1
  obtain ⟨A2, k2, rfl⟩ := ha2
  obtain ⟨A3, k3, rfl⟩ := ha3
  obtain ⟨B1, l1, rfl⟩ := hb1
  obtain ⟨B2, l2, rfl⟩ := hb2
  obtain ⟨B3, l3, rfl⟩ := hb3
  obtain ⟨c, hc, hs⟩ := common_0 k1 k2 k3 l1 l2 l3 (fun e => h (by rw [e]))
  refine ⟨c, ?_, ?_, hl c⟩
  · show CommOk (P3 (mkS A1) (mkS A2) (mkS A3)) (P3 (mkS B1) (mkS B2) (mkS B3)) c
    rw [P3_mk, P3_mk]; exact hc
  · show stripS (joinS (commS (P3 (mkS A1) (mkS A2) (mkS A3)) c) _) = dueS 0 (mkS A1) (mkS B1)
    rw [P3_mk, due_mk, empty_mk]; exact hs
theorem comm1 (h1 : a1 = b1) (h : a2 ≠ b2) : Comm (P3 a1 a2 a3) (P3 b1 b2 b3) (dueS 1 a2 b2) := by
  have hl := fun c => comm_len (c := c) ha1 ha2 ha3 hb1 hb2 hb3
  obtain ⟨A1, k1, rfl⟩ := ha1
  obtain ⟨A2, k2, rfl⟩ := ha2
  obtain ⟨A3, k3, rfl⟩ := ha3
  obtain ⟨B1, l1, rfl⟩ := hb1
  obtain ⟨B2, l2, rfl⟩ := hb2
  obtain ⟨B3, l3, rfl⟩ := hb3
  obtain ⟨c, hc, hs⟩ := common_1 k1 k2 k3 l1 l2 l3 (mkS_inj h1) (fun e => h (by rw [e]))
  refine ⟨c, ?_, ?_, hl c⟩
  · show CommOk (P3 (mkS A1) (mkS A2) (mkS A3)) (P3 (mkS B1) (mkS B2) (mkS B3)) c
    rw [P3_mk, P3_mk]; exact hc
  · show stripS (joinS (commS (P3 (mkS A1) (mkS A2) (mkS A3)) c) _) = dueS 1 (mkS A2) (mkS B2)
    rw [P3_mk, due_mk, empty_mk]; exact hs
theorem comm2 (h1 : a1 = b1) (h2 : a2 = b2) (h : a3 ≠ b3) : Comm (P3 a1 a2 a3) (P3 b1 b2 b3) (dueS 2 a3 b3) := by
  have hl := fun c => comm_len (c := c) ha1 ha2 ha3 hb1 hb2 hb3
  obtain ⟨A1, k1, rfl⟩ := ha1
  obtain ⟨A2, k2, rfl⟩ := ha2
  obtain ⟨A3, k3, rfl⟩ := ha3
  obtain ⟨B1, l1, rfl⟩ := hb1
  obtain ⟨B2, l2, rfl⟩ := hb2
  obtain ⟨B3, l3, rfl⟩ := hb3
  obtain ⟨c, hc, hs⟩ := common_2 k1 k2 k3 l1 l2 l3 (mkS_inj h1) (mkS_inj h2) (fun e => h (by rw [e]))
  refine ⟨c, ?_, ?_, hl c⟩
  · show CommOk (P3 (mkS A1) (mkS A2) (mkS A3)) (P3 (mkS B1) (mkS B2) (mkS B3)) c
    rw [P3_mk, P3_mk]; exact hc
  · show stripS (joinS (commS (P3 (mkS A1) (mkS A2) (mkS A3)) c) _) = dueS 2 (mkS A3) (mkS B3)
    rw [P3_mk, due_mk, empty_mk]; exact hs
theorem comm3 (h1 : a1 = b1) (h2 : a2 = b2) (h3 : a3 = b3) : Comm (P3 a1 a2 a3) (P3 b1 b2 b3) (mkS (List.replicate 3 47)) := by
  have hl := fun c => comm_len (c := c) ha1 ha2 ha3 hb1 hb2 hb3
  obtain ⟨A1, k1, rfl⟩ := ha1
  obtain ⟨A2, k2, rfl⟩ := ha2
  obtain ⟨A3, k3, rfl⟩ := ha3
  obtain ⟨B1, l1, rfl⟩ := hb1
  obtain ⟨B2, l2, rfl⟩ := hb2
  obtain ⟨B3, l3, rfl⟩ := hb3
  obtain ⟨c, hc, hs⟩ := common_3 k1 k2 k3 l1 l2 l3 (mkS_inj h1) (mkS_inj h2) (mkS_inj h3)
  refine ⟨c, ?_, ?_, hl c⟩
  · show CommOk (P3 (mkS A1) (mkS A2) (mkS A3)) (P3 (mkS B1) (mkS B2) (mkS B3)) c
    rw [P3_mk, P3_mk]; exact hc
  · show stripS (joinS (commS (P3 (mkS A1) (mkS A2) (mkS A3)) c) _) = _
    rw [P3_mk, empty_mk]; exact hs
end
end Mine
end

-- part J2
section
open PySem PySem.W PyProof.Rows PySem.Calls
set_option Elab.async false
set_option maxRecDepth 100000
set_option maxHeartbeats 8000000
set_option linter.unusedVariables false
namespace Mine

theorem ok_mk {l : List Nat} (h : ∀ c ∈ l, c < 128) : PyData.strOk (mkS l) = true := by
  unfold PyData.strOk mkS
  rw [List.all_toArray, List.all_eq_true]
  intro c hc
  have := h c hc
  exact decide_eq_true (by omega)
theorem signs_low : ∀ c ∈ SIGNS, c < 128 := by decide
theorem written_low {cs : List Nat} (h : NameL cs) : ∀ c ∈ writtenL cs, c < 128 := by
  intro c hc
  unfold writtenL at hc
  obtain ⟨d, hd, hc⟩ := List.mem_flatMap.mp hc
  have hl := signs_low d (h.2 d hd)
  split at hc
  · simp only [List.mem_cons, List.not_mem_nil, or_false] at hc
    rcases hc with rfl | rfl
    · decide
    · exact hl
  · simp only [List.mem_cons, List.not_mem_nil, or_false] at hc
    rw [hc]; exact hl
theorem quote_low {cs : List Nat} (h : NameL cs) : ∀ c ∈ quoteL cs, c < 128 := by
  intro c hc
  unfold quoteL at hc
  simp only [List.mem_append, List.mem_cons, List.not_mem_nil, or_false] at hc
  rcases hc with (rfl | hc) | rfl
  · decide
  · exact written_low h c hc
  · decide
theorem path_low {a b c : List Nat} (ha : NameL a) (hb : NameL b) (hc : NameL c) : ∀ x ∈ pathL a b c, x < 128 := by
  intro x hx
  rw [pathL_eq] at hx
  simp only [List.mem_append, List.mem_cons] at hx
  rcases hx with hx | rfl | hx | rfl | hx
  · exact quote_low ha x hx
  · decide
  · exact quote_low hb x hx
  · decide
  · exact quote_low hc x hx
theorem low_name {a : Str} (h : NameS a) : PyData.strOk a = true := by
  obtain ⟨cs, k, rfl⟩ := h
  exact ok_mk fun c hc => signs_low c (k.2 c hc)
theorem low_path {a1 a2 a3 : Str} (h1 : NameS a1) (h2 : NameS a2) (h3 : NameS a3) : PyData.strOk (P3 a1 a2 a3) = true := by
  obtain ⟨c1, k1, rfl⟩ := h1
  obtain ⟨c2, k2, rfl⟩ := h2
  obtain ⟨c3, k3, rfl⟩ := h3
  show PyData.strOk (P3 (mkS c1) (mkS c2) (mkS c3)) = true
  rw [P3_mk]
  exact ok_mk (path_low k1 k2 k3)
theorem low_torn {a1 a2 a3 : Str} (h1 : NameS a1) (h2 : NameS a2) (h3 : NameS a3) : PyData.strOk (valS (Txt.slice (P3 a1 a2 a3) none (some (-1)))) = true := by
  rw [(path_facts h1 h2 h3).valT]
  split
  · decide +kernel
  · obtain ⟨c1, k1, rfl⟩ := h1
    obtain ⟨c2, k2, rfl⟩ := h2
    obtain ⟨c3, k3, rfl⟩ := h3
    show PyData.strOk (Txt.slice (P3 (mkS c1) (mkS c2) (mkS c3)) none (some (-1))) = true
    rw [P3_mk, torn_mk]
    refine ok_mk fun x hx => path_low k1 k2 k3 x ?_
    rw [show pathL c1 c2 c3 = (blocks [c1, c2] ++ 34 :: writtenL c3) ++ [34] by simp [pathL, quoteL]]
    exact List.mem_append_left _ hx
section
variable {prog : Program} {w : World} {A : Around} {h₀ : Heap} {L : Addr} {s : Shared} {Q E : Value → Shared → Prop} {news : List (Addr × Obj)} {a b : Addr} {o1 o2 : Obj} {n1 n2 : Nat}
theorem eqv_texts : ∀ xs : List Str, PyData.eqvAll (xs.map PyData.str) (xs.map PyData.str) = true
  | [] => by simp [PyData.eqvAll]
  | x :: r => by simp [PyData.eqvAll, PyData.eqv, eqv_texts r]
theorem ne_two {x1 x2 : Str} {t1 t2 u1 u2 : Tok} (N : News h₀ L s.heap news) (ha : (a, o1) ∈ news) (hb : (b, o2) ∈ news) (hc1 : o1.cls = .type "list") (hc2 : o2.cls = .type "list")
    (hd1 : o1.data = .seq #[.str x1 t1, .str x2 t2] n1) (hd2 : o2.data = .seq #[.str x1 u1, .str x2 u2] n2) (kx1 : PyData.strOk x1 = true) (kx2 : PyData.strOk x2 = true) (hu : A.units + 64 < cLine) (h : Q (.bool false) s) : wpAny (model prog w) A (compareOp .NotEq (.ref a) (.ref b)) Q E s := by
  refine ne_dataH (reads_list_at (N.get ha) hc1 hd1 (.cons (Reads.str _ _) (.cons (Reads.str _ _) .nil))) (reads_list_at (N.get hb) hc2 hd2 (.cons (Reads.str _ _) (.cons (Reads.str _ _) .nil))) (by simp [SeqAt.shaped, PyData.canLay0, PyData.canLayAll0, PyData.depth, PyData.depthAll, *]) (by simp [SeqAt.shaped, PyData.canLay0, PyData.canLayAll0, PyData.depth, PyData.depthAll, *]) hu ?_
  have e : PyData.eqv (.list [.str x1, .str x2]) (.list [.str x1, .str x2]) = true := by simp [PyData.eqv, PyData.eqvAll]
  rw [e]; exact h
theorem ne_four {x1 x2 x3 x4 y1 y2 y3 y4 : Str} {t1 t2 t3 t4 u1 u2 u3 u4 : Tok} (N : News h₀ L s.heap news) (ha : (a, o1) ∈ news) (hb : (b, o2) ∈ news) (hc1 : o1.cls = .type "list") (hc2 : o2.cls = .type "list")
    (hd1 : o1.data = .seq #[.str x1 t1, .str x2 t2, .str x3 t3, .str x4 t4] n1) (hd2 : o2.data = .seq #[.str y1 u1, .str y2 u2, .str y3 u3, .str y4 u4] n2) (e1 : x1 = y1) (e2 : x2 = y2) (e3 : x3 = y3) (e4 : x4 = y4)
    (ky1 : PyData.strOk y1 = true) (ky2 : PyData.strOk y2 = true) (ky3 : PyData.strOk y3 = true) (ky4 : PyData.strOk y4 = true) (hu : A.units + 64 < cLine) (h : Q (.bool false) s) : wpAny (model prog w) A (compareOp .NotEq (.ref a) (.ref b)) Q E s := by
  subst e1 e2 e3 e4
  refine ne_dataH (reads_list_at (N.get ha) hc1 hd1 (.cons (Reads.str _ _) (.cons (Reads.str _ _) (.cons (Reads.str _ _) (.cons (Reads.str _ _) .nil))))) (reads_list_at (N.get hb) hc2 hd2 (.cons (Reads.str _ _) (.cons (Reads.str _ _) (.cons (Reads.str _ _) (.cons (Reads.str _ _) .nil))))) (by simp [SeqAt.shaped, PyData.canLay0, PyData.canLayAll0, PyData.depth, PyData.depthAll, *]) (by simp [SeqAt.shaped, PyData.canLay0, PyData.canLayAll0, PyData.depth, PyData.depthAll, *]) hu ?_
  have e : PyData.eqv (.list [.str x1, .str x2, .str x3, .str x4]) (.list [.str x1, .str x2, .str x3, .str x4]) = true := by simp [PyData.eqv, PyData.eqvAll]
  rw [e]; exact h
theorem reads_three {h : Heap} {o : Obj} {c : Addr} {n : Nat} {x1 x2 x3 : Str} {t1 t2 t3 : Tok} (N : News h₀ L h news) (hm : (c, o) ∈ news) (hc : o.cls = .type "list") (hd : o.data = .seq #[.str x1 t1, .str x2 t2, .str x3 t3] n) :
    Reads h (.ref c) (.list [.str x1, .str x2, .str x3]) [c] :=
  reads_list_at (N.get hm) hc hd (.cons (Reads.str _ _) (.cons (Reads.str _ _) (.cons (Reads.str _ _) .nil)))
theorem ne_rows {x1 x2 x3 y1 y2 y3 : Str} {t1 t2 t3 u1 u2 u3 v1 v2 v3 z1 z2 z3 : Tok} {c1 c2 d1 d2 : Addr} {p1 p2 q1 q2 : Obj} {k1 k2 k3 k4 : Nat} (N : News h₀ L s.heap news) (ha : (a, o1) ∈ news) (hb : (b, o2) ∈ news) (hc1 : o1.cls = .type "list") (hc2 : o2.cls = .type "list")
    (hd1 : o1.data = .seq #[.ref c1, .ref c2] n1) (hd2 : o2.data = .seq #[.ref d1, .ref d2] n2)
    (m1 : (c1, p1) ∈ news) (m2 : (c2, p2) ∈ news) (m3 : (d1, q1) ∈ news) (m4 : (d2, q2) ∈ news)
    (g1 : p1.cls = .type "list") (g2 : p2.cls = .type "list") (g3 : q1.cls = .type "list") (g4 : q2.cls = .type "list")
    (i1 : p1.data = .seq #[.str x1 t1, .str x2 t2, .str x3 t3] k1) (i2 : p2.data = .seq #[.str y1 u1, .str y2 u2, .str y3 u3] k2)
    (i3 : q1.data = .seq #[.str x1 v1, .str x2 v2, .str x3 v3] k3) (i4 : q2.data = .seq #[.str y1 z1, .str y2 z2, .str y3 z3] k4)
    (kx1 : PyData.strOk x1 = true) (kx2 : PyData.strOk x2 = true) (kx3 : PyData.strOk x3 = true) (ky1 : PyData.strOk y1 = true) (ky2 : PyData.strOk y2 = true) (ky3 : PyData.strOk y3 = true) (hu : A.units + 64 < cLine) (h : Q (.bool false) s) : wpAny (model prog w) A (compareOp .NotEq (.ref a) (.ref b)) Q E s := by
  refine ne_dataH (reads_list_at (N.get ha) hc1 hd1 (.cons (reads_three N m1 g1 i1) (.cons (reads_three N m2 g2 i2) .nil))) (reads_list_at (N.get hb) hc2 hd2 (.cons (reads_three N m3 g3 i3) (.cons (reads_three N m4 g4 i4) .nil))) (by simp [SeqAt.shaped, PyData.canLay0, PyData.canLayAll0, PyData.depth, PyData.depthAll, *]) (by simp [SeqAt.shaped, PyData.canLay0, PyData.canLayAll0, PyData.depth, PyData.depthAll, *]) hu ?_
  have e : PyData.eqv (.list [.list [.str x1, .str x2, .str x3], .list [.str y1, .str y2, .str y3]]) (.list [.list [.str x1, .str x2, .str x3], .list [.str y1, .str y2, .str y3]]) = true := by simp [PyData.eqv, PyData.eqvAll]
  rw [e]; exact h
theorem eq_one {x1 y1 : Str} {t1 u1 : Tok} (N : News h₀ L s.heap news) (ha : (a, o1) ∈ news) (hb : (b, o2) ∈ news) (hc1 : o1.cls = .type "list") (hc2 : o2.cls = .type "list")
    (hd1 : o1.data = .seq #[.str x1 t1] n1) (hd2 : o2.data = .seq #[.str y1 u1] n2) (kx1 : PyData.strOk x1 = true) (ky1 : PyData.strOk y1 = true) (hu : A.units + 64 < cLine) (h : Q (.bool (decide (x1 = y1))) s) : wpAny (model prog w) A (compareOp .Eq (.ref a) (.ref b)) Q E s := by
  refine eq_dataH (reads_list_at (N.get ha) hc1 hd1 (.cons (Reads.str _ _) .nil)) (reads_list_at (N.get hb) hc2 hd2 (.cons (Reads.str _ _) .nil)) (by simp [SeqAt.shaped, PyData.canLay0, PyData.canLayAll0, PyData.depth, PyData.depthAll, *]) (by simp [SeqAt.shaped, PyData.canLay0, PyData.canLayAll0, PyData.depth, PyData.depthAll, *]) hu ?_
  have e : PyData.eqv (.list [.str x1]) (.list [.str y1]) = decide (x1 = y1) := by
    rw [Bool.eq_iff_iff]; simp [PyData.eqv, PyData.eqvAll]
  rw [e]; exact h
theorem eq_two {x1 y1 x2 y2 : Str} {t1 u1 t2 u2 : Tok} (N : News h₀ L s.heap news) (ha : (a, o1) ∈ news) (hb : (b, o2) ∈ news) (hc1 : o1.cls = .type "list") (hc2 : o2.cls = .type "list")
    (hd1 : o1.data = .seq #[.str x1 t1, .str x2 t2] n1) (hd2 : o2.data = .seq #[.str y1 u1, .str y2 u2] n2) (kx1 : PyData.strOk x1 = true) (ky1 : PyData.strOk y1 = true) (kx2 : PyData.strOk x2 = true) (ky2 : PyData.strOk y2 = true) (hu : A.units + 64 < cLine) (h : Q (.bool (decide (x1 = y1 ∧ x2 = y2))) s) : wpAny (model prog w) A (compareOp .Eq (.ref a) (.ref b)) Q E s := by
  refine eq_dataH (reads_list_at (N.get ha) hc1 hd1 (.cons (Reads.str _ _) (.cons (Reads.str _ _) .nil))) (reads_list_at (N.get hb) hc2 hd2 (.cons (Reads.str _ _) (.cons (Reads.str _ _) .nil))) (by simp [SeqAt.shaped, PyData.canLay0, PyData.canLayAll0, PyData.depth, PyData.depthAll, *]) (by simp [SeqAt.shaped, PyData.canLay0, PyData.canLayAll0, PyData.depth, PyData.depthAll, *]) hu ?_
  have e : PyData.eqv (.list [.str x1, .str x2]) (.list [.str y1, .str y2]) = decide (x1 = y1 ∧ x2 = y2) := by
    rw [Bool.eq_iff_iff]; simp [PyData.eqv, PyData.eqvAll]
  rw [e]; exact h
theorem eq_three {x1 y1 x2 y2 x3 y3 : Str} {t1 u1 t2 u2 t3 u3 : Tok} (N : News h₀ L s.heap news) (ha : (a, o1) ∈ news) (hb : (b, o2) ∈ news) (hc1 : o1.cls = .type "list") (hc2 : o2.cls = .type "list")
    (hd1 : o1.data = .seq #[.str x1 t1, .str x2 t2, .str x3 t3] n1) (hd2 : o2.data = .seq #[.str y1 u1, .str y2 u2, .str y3 u3] n2) (kx1 : PyData.strOk x1 = true) (ky1 : PyData.strOk y1 = true) (kx2 : PyData.strOk x2 = true) (ky2 : PyData.strOk y2 = true) (kx3 : PyData.strOk x3 = true) (ky3 : PyData.strOk y3 = true) (hu : A.units + 64 < cLine) (h : Q (.bool (decide (x1 = y1 ∧ x2 = y2 ∧ x3 = y3))) s) : wpAny (model prog w) A (compareOp .Eq (.ref a) (.ref b)) Q E s := by
  refine eq_dataH (reads_three N ha hc1 hd1) (reads_three N hb hc2 hd2) (by simp [SeqAt.shaped, PyData.canLay0, PyData.canLayAll0, PyData.depth, PyData.depthAll, *]) (by simp [SeqAt.shaped, PyData.canLay0, PyData.canLayAll0, PyData.depth, PyData.depthAll, *]) hu ?_
  have e : PyData.eqv (.list [.str x1, .str x2, .str x3]) (.list [.str y1, .str y2, .str y3]) = decide (x1 = y1 ∧ x2 = y2 ∧ x3 = y3) := by
    rw [Bool.eq_iff_iff]; simp [PyData.eqv, PyData.eqvAll]
  rw [e]; exact h
end
end Mine
end

-- part V1
section
open PySem PySem.W PyProof.Rows PySem.Calls
set_option Elab.async false
set_option maxRecDepth 100000
set_option maxHeartbeats 8000000
set_option linter.unusedVariables false
namespace Mine

section
variable {prog : Program} {w : World} {A : Around} {h₀ : Heap} {L : Addr} {m : Str → Option Value} {env : Env} {s : Shared}
/-- where a turn ends that may leave other generators behind -/
noncomputable def GEnd (h₀ : Heap) (L : Addr) (m : Str → Option Value) (s : Shared) (I : Addr) (oI : Obj) (C : Addr) (oC : Obj) (D : Addr) (oD : Obj) (src : Addr × Obj) (rest : Value → List (Addr × Obj) → Array GenState → Prop) (y : Value) (s₂ : Shared) : Prop :=
  ∃ h' tk g news', s₂ = { s with heap := h', toks := tk, gens := g } ∧ Fr h₀ L h' m ∧ News h₀ L h' ((I, oI) :: (C, oC) :: (D, oD) :: news') ∧ LCg.Off3 I C D news' ∧ src ∈ news' ∧ rest y news' g
/-- the turns of a comprehension over a written list, each of which may leave other generators behind -/
noncomputable def GRest (prog : Program) (w : World) (A : Around) (h₀ : Heap) (L : Addr) (m : Str → Option Value) (env : Env) (elt : Expr) (x : Str) (scope : Scope) (cl : List (Str × Addr)) (s : Shared) (src : Addr × Obj) (its : Array Value) (Fin : List Value → List (Addr × Obj) → Array GenState → Prop) :
    Nat → Nat → List Value → List (Addr × Obj) → Array GenState → Prop
  | 0, _, ys, news, g => Fin ys news g
  | k + 1, i, ys, news, g => ∀ v I oI C oC D m₂ h tk (E' : Value → Shared → Prop), its[i]? = some v → LCg.NsObj oC m₂ → m₂ x = some v → Fr h₀ L h m → News h₀ L h ((I, oI) :: (C, oC) :: (D, LCg.lst ys) :: news) → LCg.Off3 I C D news → ((@Ne Nat I C) ∧ (@Ne Nat I D) ∧ (@Ne Nat C D)) →
      wpAny (model prog w) A (eval elt (compEnvC scope cl C env)) (GEnd h₀ L m s I oI C oC D (LCg.lst ys) src (fun y news' g' => GRest prog w A h₀ L m env elt x scope cl s src its Fin k (i + 1) (ys ++ [y]) news' g')) E' { s with heap := h, toks := tk, gens := g }
/-- what such a comprehension wants of its list -/
noncomputable def GSrc (prog : Program) (w : World) (A : Around) (h₀ : Heap) (L : Addr) (m : Str → Option Value) (env : Env) (elt : Expr) (x : Str) (scope : Scope) (cl : List (Str × Addr)) (Q : Value → Shared → Prop) (xv : Value) (s₁ : Shared) : Prop :=
  ∃ ax its k news, xv = .ref ax ∧ A.handled = none ∧ Fr h₀ L s₁.heap m ∧ News h₀ L s₁.heap news ∧ (ax, ({ cls := .type "list", data := .seq its k } : Obj)) ∈ news ∧ its.size ≤ sizeLine ∧
    GRest prog w A h₀ L m env elt x scope cl s₁ (ax, ({ cls := .type "list", data := .seq its k } : Obj)) its (fun ys news' g => ∀ D h tk, Fr h₀ L h m → News h₀ L h ((D, LCg.lst ys) :: news') → LCg.Off1 D news' → Q (.ref D) { s₁ with heap := h, toks := tk, gens := g }) its.size 0 [] news s₁.gens
theorem comp_G {elt iter : Expr} {x : Str} {px : Pos} {scope : Scope} {cl : List (Str × Addr)} {pos : Pos} {Q E : Value → Shared → Prop} (F₀ : Fr h₀ L s.heap m)
    (hclos : closureFor scope env = pure cl) (hcell : ∀ y ∈ scope.names, y.2 ≠ .cell) (hkind : scope.kind = .function)
    (hnames : ∀ y ∈ scope.names, y.2 = .local → scope.names.lookup y.1 = some .local) (hx : scope.names.lookup x = some .local)
    (h : wpAny (model prog w) A (eval iter env) (fun xv s₁ => Stop (GSrc prog w A h₀ L m env elt x scope cl Q xv s₁)) E s)
    (hs : ∀ x, foldedSetIterable iter env x = pure x := by intro _; rfl) :
    wpAny (model prog w) A (eval (.ListComp elt [⟨.Name x px, iter, [], 0⟩] scope pos) env) Q E s := by
  rw [eval_ListComp]
  refine wpAny_comprehension_free (use := none) rfl hs hclos hkind hnames (wpAny_mono h (fun xv s₁ h₁ => ?_) fun _ _ e => e)
  obtain ⟨ax, its, k, news, rfl, hh, F, N, hm, hsz, R⟩ := h₁
  have hl : s₁.heap.IsList ax its := ⟨_, (N _ hm).1, rfl, k, rfl⟩
  have hlt : ax < s₁.heap.objs.size := Heap.lt_size (N _ hm).1
  have hL : L < s₁.heap.objs.size := F.ns.lt
  refine wpAny_pyIter_list hl ?_
  refine wpAny_newObj_type (wpAny_newFunctionEnv hcell (by intro y hy; simp at hy) (fun h₁ hns hsb => ?_) hkind)
  dsimp only at hns hsb ⊢
  generalize hI : s₁.heap.objs.size = I at *
  generalize hH1 : s₁.heap.push { cls := .type "list_iterator", data := .fields #[.ref ax, .int 0 0] } = H1 at *
  have z1 : H1.objs.size = I + 1 := by rw [← hH1, Heap.size_push, hI]
  generalize hD : H1.objs.size = D at *
  generalize hH2 : H1.push { cls := .type "list", dict := none, data := .seq ([] : List Value).toArray } = H2 at *
  have z2 : H2.objs.size = D + 1 := by rw [← hH2, Heap.size_push, hD]
  generalize hC : H2.objs.size = C at *
  have up1 : ∀ b o, s₁.heap.get? b = some o → H1.get? b = some o := fun b o e => hH1 ▸ Heap.get?_push_of_some _ e
  have up2 : ∀ b o, H1.get? b = some o → H2.get? b = some o := fun b o e => hH2 ▸ Heap.get?_push_of_some _ e
  have up3 : ∀ b o, H2.get? b = some o → h₁.get? b = some o := fun b o e => hsb.extBut b o (Nat.ne_of_lt (hC ▸ Heap.lt_size e)) (Heap.get?_push_of_some _ e)
  have old : ∀ b o, s₁.heap.get? b = some o → h₁.get? b = some o := fun b o e => up3 b o (up2 b o (up1 b o e))
  have gI : H1.get? I = some { cls := .type "list_iterator", data := .fields #[.ref ax, .int 0 0] } := hH1 ▸ hI ▸ Heap.get?_push_size _ rfl
  have gD : h₁.get? D = some (LCg.lst []) := up3 _ _ (hH2 ▸ hD ▸ Heap.get?_push_size _ rfl)
  have none0 : ∀ a, I ≤ a → h₀.get? a = none := fun a ha => by
    cases e : h₀.get? a with
    | none => rfl
    | some o' =>
      have h2 : @LT.lt Nat _ a I := hI ▸ Heap.lt_size (F.keep a o' e)
      have h3 : @LE.le Nat _ I a := ha
      exact absurd h2 (Nat.not_lt.mpr h3)
  have eD : @Eq Nat D (I + 1) := z1
  have eC : @Eq Nat C (D + 1) := z2
  have lx : @LT.lt Nat _ ax I := hlt
  have lL : @LT.lt Nat _ L I := hL
  have I0 := none0 I (Nat.le_refl _)
  have D0 := none0 D (by show @LE.le Nat _ I D; omega)
  have C0 := none0 C (by show @LE.le Nat _ I C; omega)
  have nID : @Ne Nat I D := by omega
  have nIC : @Ne Nat I C := by omega
  have nCD : @Ne Nat C D := by omega
  have nLI : @Ne Nat L I := by omega
  have nLD : @Ne Nat D L := by omega
  have nLC : @Ne Nat C L := by omega
  have offN : LCg.Off3 I C D news := LCg.Off3.of fun p hp => by
    have h2 : @LT.lt Nat _ p.1 I := hI ▸ Heap.lt_size (N p hp).1
    have a1 : @Ne Nat p.1 I := by omega
    have a2 : @Ne Nat p.1 C := by omega
    have a3 : @Ne Nat p.1 D := by omega
    exact ⟨a1, a2, a3⟩
  have hax : @Ne Nat ax I := by omega
  have W := Walks.list (prog := prog) (w := w) hh I ax hax its
  have loop : ∀ s₃ : Shared, s₃ = { s₁ with heap := h₁, toks := s₁.toks + ([] : List (Str × Value)).length } →
      codeAny (model prog w) A (.compLoop (.ListComp elt [⟨.Name x px, iter, [], 0⟩] scope pos) 0 (.ref I) (.ref D) (compEnvC scope cl C env)) (compPost (model prog w) A E none Q (.ref D) C) s₃ := by
    rintro s₃ rfl
    refine codeAny_compLoop_tests
      (fun k' s' => ∃ h' tk g i ys m' news', s' = { s₁ with heap := h', toks := tk, gens := g } ∧ i ≤ its.size ∧ k' = its.size + 1 - i ∧ ys.length = i ∧ h'.IsListIter I ax i ∧ Fr h₀ L h' m ∧ h'.Ns C m' ∧ News h₀ L h' ((D, LCg.lst ys) :: news') ∧
        LCg.Off3 I C D news' ∧ (ax, ({ cls := .type "list", data := .seq its k } : Obj)) ∈ news' ∧ GRest prog w A h₀ L m env elt x scope cl s₁ (ax, ({ cls := .type "list", data := .seq its k } : Obj)) its (fun ys news' g => ∀ D h tk, Fr h₀ L h m → News h₀ L h ((D, LCg.lst ys) :: news') → LCg.Off1 D news' → Q (.ref D) { s₁ with heap := h, toks := tk, gens := g }) (its.size - i) i ys news' g) ?_ (its.size + 1)
      ⟨h₁, _, s₁.gens, 0, [], _, news, rfl, Nat.zero_le _, rfl, rfl, ⟨_, up3 _ _ (up2 _ _ gI), rfl, rfl⟩, F.keeps old, hns, ?_, offN, hm, R⟩
    · rintro k' s' ⟨h', tk, g, i, ys, m', news', rfl, hi, rfl, hyl, hst, F', hn', N', off', hm', R'⟩
      have hl' : h'.IsList ax its := ⟨_, (N' _ (.tail _ hm')).1, rfl, k, rfl⟩
      have off3 := off'.mem
      by_cases hlt : i < its.size
      · obtain ⟨j, hj⟩ : ∃ j, its.size - i = j + 1 := ⟨its.size - i - 1, by omega⟩
        rw [hj] at R'
        refine W.item i _ _ _ hlt ⟨hst, hl'⟩ fun v h₂ tk₂ hv hst₂ hk₂ => ?_
        refine wpAny_assign_Name (wpAny_storeName_local (lookup_relabel_local hx) (hn'.at' fun o e => hk₂ _ o (by simpa using Ne.symm nIC) e) (fun h₃ hn₃ hs₃ => ?_) (by simp [compEnvC, relabel, hkind]))
        refine wpAny_tests_nil ?_
        simp only [if_true]
        obtain ⟨oI, heI, hoI⟩ := hst₂.1
        obtain ⟨oC, heC, hoC⟩ := LCg.ns_obj hn₃
        have heI₃ := hs₃.extBut _ _ nIC heI
        have N₂ : News h₀ L h₂ ((D, LCg.lst ys) :: news') := LCg.news_but N' hk₂ fun p hp => by
          rcases List.mem_cons.mp hp with rfl | hp
          · exact Ne.symm nID
          · exact (off3 p hp).1
        have N₃ : News h₀ L h₃ ((I, oI) :: (C, oC) :: (D, LCg.lst ys) :: news') := by
          refine List.forall_mem_cons.mpr ⟨⟨heI₃, Ne.symm nLI, I0⟩, List.forall_mem_cons.mpr ⟨⟨heC, nLC, C0⟩, fun p hp => ?_⟩⟩
          refine ⟨hs₃.extBut _ _ ?_ (N₂ p hp).1, (N₂ p hp).2⟩
          rcases List.mem_cons.mp hp with rfl | hp
          · exact Ne.symm nCD
          · exact (off3 p hp).2.1
        refine wpAny_mono (R' v I oI C oC D _ h₃ _ _ hv hoC (by simp) ((LCg.fr_but F' hk₂ nLI I0).change hs₃ nLC C0) N₃ off' ⟨nIC, nID, nCD⟩) (fun y s₄ h₄ => ?_) fun _ _ e => e
        obtain ⟨h₄, tk₄, g₄, news₄, rfl, F₄, N₄, off₄, hm₄, R₄⟩ := h₄
        have zI := N₄ _ (.head _)
        have zC := N₄ _ (.tail _ (.head _))
        have zD := N₄ _ (.tail _ (.tail _ (.head _)))
        refine append_at (hsz := by show ys.toArray.size ≤ sizeLine; rw [List.size_toArray, hyl]; exact Nat.le_trans hi hsz) zD.1 fun h₅ hs₅ hD₅ => ?_
        have off4 := off₄.mem
        refine ⟨its.size + 1 - (i + 1), by omega, h₅, tk₄, g₄, i + 1, ys ++ [y], _, news₄, rfl, hlt, rfl, by rw [List.length_append, List.length_singleton, hyl], ⟨oI, hs₅.extBut _ _ nID zI.1, hoI⟩, F₄.change hs₅ nLD D0,
          (hoC.ns zC.1).sameBut hs₅ nCD, List.forall_mem_cons.mpr ⟨⟨hD₅.trans (congrArg some (LCg.lst_snoc ys y)), nLD, D0⟩, fun p hp => ?_⟩, off₄, hm₄, ?_⟩
        · have zp := N₄ p (.tail _ (.tail _ (.tail _ hp)))
          exact ⟨hs₅.extBut _ _ (off4 p hp).2.2 zp.1, zp.2⟩
        · rw [show its.size - (i + 1) = j by omega]
          exact R₄
      · obtain rfl : i = its.size := Nat.le_antisymm hi (Nat.not_lt.mp hlt)
        rw [Nat.sub_self] at R'
        refine W.done _ _ _ ⟨hst, hl'⟩ fun h₂ tk₂ hk₂ => ?_
        have N₂ : News h₀ L h₂ ((D, LCg.lst ys) :: news') := LCg.news_but N' hk₂ fun p hp => by
          rcases List.mem_cons.mp hp with rfl | hp
          · exact Ne.symm nID
          · exact (off3 p hp).1
        refine ⟨m', hn'.at' fun o e => hk₂ _ o (by simpa using Ne.symm nIC) e, fun h₃ hs₃ => R' D h₃ tk₂ ((LCg.fr_but F' hk₂ nLI I0).change hs₃ nLC C0) (fun p hp => ⟨hs₃.extBut _ _ ?_ (N₂ p hp).1, (N₂ p hp).2⟩) off'.one⟩
        rcases List.mem_cons.mp hp with rfl | hp
        · exact Ne.symm nCD
        · exact (off3 p hp).2.1
    · exact List.forall_mem_cons.mpr ⟨⟨gD, nLD, D0⟩, fun p hp => ⟨old _ _ (N p hp).1, (N p hp).2⟩⟩
  exact codeAny_compStart_list (loop _ rfl) (W.self 0 _ _ _ ⟨⟨_, up3 _ _ (up2 _ _ gI), rfl, rfl⟩, ⟨_, old _ _ (N _ hm).1, rfl, k, rfl⟩⟩ (loop _ rfl))
end
end Mine
end

-- part V2
section
open PySem PySem.W PyProof.Rows PySem.Calls
set_option Elab.async false
set_option maxRecDepth 100000
set_option maxHeartbeats 8000000
set_option linter.unusedVariables false
namespace Mine

section
variable {prog : Program} {w : World} {A : Around} {h₀ : Heap} {L : Addr} {m : Str → Option Value} {env : Env} {s : Shared}
theorem GEnd.one {I C D : Addr} {oI oC oD : Obj} {X src : Addr × Obj} {news : List (Addr × Obj)} {rest : Value → List (Addr × Obj) → Array GenState → Prop} {y : Value} {h' : Heap} {tk : Nat} {g : Array GenState}
    (F : Fr h₀ L h' m) (N : News h₀ L h' (X :: (I, oI) :: (C, oC) :: (D, oD) :: news)) (l1 : ∀ p ∈ (I, oI) :: (C, oC) :: (D, oD) :: news, p.1 ≠ X.1) (off : LCg.Off3 I C D news) (hm : src ∈ news) (r : rest y (X :: news) g) :
    GEnd h₀ L m s I oI C oC D oD src rest y { s with heap := h', toks := tk, gens := g } := by
  refine ⟨h', tk, g, X :: news, rfl, F, ?_, ⟨⟨?_, ?_, ?_⟩, off⟩, .tail _ hm, r⟩
  · intro p hp
    refine N p ?_
    simp only [List.mem_cons] at hp ⊢
    rcases hp with h | h | h | h | h
    · exact .inr (.inl h)
    · exact .inr (.inr (.inl h))
    · exact .inr (.inr (.inr (.inl h)))
    · exact .inl h
    · exact .inr (.inr (.inr (.inr h)))
  · exact Ne.symm (l1 _ (.head _))
  · exact Ne.symm (l1 _ (.tail _ (.head _)))
  · exact Ne.symm (l1 _ (.tail _ (.tail _ (.head _))))
/-- two turns over a list of two -/
theorem GSrc.two {elt : Expr} {x : Str} {scope : Scope} {cl : List (Str × Addr)} {Q : Value → Shared → Prop} {ax : Addr} {v1 v2 : Value} {news : List (Addr × Obj)}
    (hh : A.handled = none) (F : Fr h₀ L s.heap m) (N : News h₀ L s.heap news) (hm : (ax, LCg.lst [v1, v2]) ∈ news)
    (R : (fun (rest2 : List Value → List (Addr × Obj) → Array GenState → Prop) =>
      ∀ I oI C oC D m₂ h tk (E' : Value → Shared → Prop), LCg.NsObj oC m₂ → m₂ x = some v1 → Fr h₀ L h m → News h₀ L h ((I, oI) :: (C, oC) :: (D, LCg.lst []) :: news) → LCg.Off3 I C D news → ((@Ne Nat I C) ∧ (@Ne Nat I D) ∧ (@Ne Nat C D)) →
        wpAny (model prog w) A (eval elt (compEnvC scope cl C env)) (GEnd h₀ L m s I oI C oC D (LCg.lst []) (ax, LCg.lst [v1, v2]) (fun y news' g' => (ax, LCg.lst [v1, v2]) ∈ news' → rest2 [y] news' g')) E' { s with heap := h, toks := tk })
      (fun ys news g => ∀ I oI C oC D m₂ h tk (E' : Value → Shared → Prop), LCg.NsObj oC m₂ → m₂ x = some v2 → Fr h₀ L h m → News h₀ L h ((I, oI) :: (C, oC) :: (D, LCg.lst ys) :: news) → LCg.Off3 I C D news → ((@Ne Nat I C) ∧ (@Ne Nat I D) ∧ (@Ne Nat C D)) →
        wpAny (model prog w) A (eval elt (compEnvC scope cl C env)) (GEnd h₀ L m s I oI C oC D (LCg.lst ys) (ax, LCg.lst [v1, v2]) (fun y news' g' => ∀ D h tk, Fr h₀ L h m → News h₀ L h ((D, LCg.lst (ys ++ [y])) :: news') → LCg.Off1 D news' → Q (.ref D) { s with heap := h, toks := tk, gens := g' })) E' { s with heap := h, toks := tk, gens := g })) :
    GSrc prog w A h₀ L m env elt x scope cl Q (.ref ax) s := by
  refine ⟨ax, [v1, v2].toArray, 2, news, rfl, hh, F, N, hm, Nat.le_of_ble_eq_true rfl, ?_⟩
  intro v I oI C oC D m₂ h tk E' hv hn hx F1 N1 off ne
  have hv : some v1 = some v := hv
  cases hv
  refine wpAny_mono (R I oI C oC D m₂ h tk E' hn hx F1 N1 off ne) (fun y s₂ h₂ => ?_) fun _ _ e => e
  obtain ⟨h', tk', g', news', rfl, F2, N2, off2, hm2, r2⟩ := h₂
  refine ⟨h', tk', g', news', rfl, F2, N2, off2, hm2, ?_⟩
  intro v I oI C oC D m₂ h tk E' hv hn hx F1 N1 off ne
  have hv : some v2 = some v := hv
  cases hv
  exact r2 hm2 I oI C oC D m₂ h tk E' hn hx F1 N1 off ne
end
end Mine
end

-- part V3
section
open PySem PySem.W PyProof.Rows PySem.Calls
set_option Elab.async false
set_option maxRecDepth 100000
set_option maxHeartbeats 8000000
set_option linter.unusedVariables false
namespace Mine

noncomputable def eqTo (a1 a2 a3 b1 b2 b3 : Str) : Nat → Bool
  | 0 => decide (a1 = b1)
  | 1 => decide (a1 = b1 ∧ a2 = b2)
  | _ => decide (a1 = b1 ∧ a2 = b2 ∧ a3 = b3)
section
variable {a1 a2 a3 b1 b2 b3 : Str}
theorem pass_eq : passing (eqTo a1 a2 a3 b1 b2 b3) 3 = (if a1 = b1 then 1 else 0) + (if a1 = b1 ∧ a2 = b2 then 1 else 0) + (if a1 = b1 ∧ a2 = b2 ∧ a3 = b3 then 1 else 0) := by
  simp [passing, eqTo]
theorem pass0 (h : a1 ≠ b1) : passing (eqTo a1 a2 a3 b1 b2 b3) 3 = 0 := by
  rw [pass_eq, if_neg h, if_neg (fun e => h e.1), if_neg (fun e => h e.1)]
theorem pass1 (h1 : a1 = b1) (h : a2 ≠ b2) : passing (eqTo a1 a2 a3 b1 b2 b3) 3 = 1 := by
  rw [pass_eq, if_pos h1, if_neg (fun e => h e.2), if_neg (fun e => h e.2.1)]
theorem pass2 (h1 : a1 = b1) (h2 : a2 = b2) (h : a3 ≠ b3) : passing (eqTo a1 a2 a3 b1 b2 b3) 3 = 2 := by
  rw [pass_eq, if_pos h1, if_pos ⟨h1, h2⟩, if_neg (fun e => h e.2.2)]
theorem pass3 (h1 : a1 = b1) (h2 : a2 = b2) (h3 : a3 = b3) : passing (eqTo a1 a2 a3 b1 b2 b3) 3 = 3 := by
  rw [pass_eq, if_pos h1, if_pos ⟨h1, h2⟩, if_pos ⟨h1, h2, h3⟩]
end
theorem mul0 : Txt.mul (Str.ofString "/") 0 = mkS (List.replicate 0 47) := by decide +kernel
theorem mul1 : Txt.mul (Str.ofString "/") 1 = mkS (List.replicate 1 47) := by decide +kernel
theorem mul2 : Txt.mul (Str.ofString "/") 2 = mkS (List.replicate 2 47) := by decide +kernel
theorem mul3 : Txt.mul (Str.ofString "/") 3 = mkS (List.replicate 3 47) := by decide +kernel
theorem len1 {α : Type} {l : List α} (h : l.length = 1) : ∃ a, l = [a] := List.length_eq_one_iff.mp h
theorem len2 {α : Type} {l : List α} (h : l.length = 2) : ∃ a b, l = [a, b] := by
  match l, h with
  | [a, b], _ => exact ⟨a, b, rfl⟩
theorem len3 {α : Type} {l : List α} (h : l.length = 3) : ∃ a b c, l = [a, b, c] := by
  match l, h with
  | [a, b, c], _ => exact ⟨a, b, c, rfl⟩
end Mine
end

-- part V4
section
open PySem PySem.W PyProof.Rows PySem.Calls
set_option Elab.async false
set_option maxRecDepth 100000
set_option maxHeartbeats 8000000
set_option linter.unusedVariables false
namespace Mine

theorem good_end {c : ClaimW} {cl : Str → Option Addr} {mean : ExcName → Option Value} {args : List WData} {s₁ : Shared} {h : Heap} {g : Array GenState} {d : Drawn} {t : Nat} {L : Addr} {m : Str → Option Value} {b : Bool}
    (F : Fr s₁.heap L h m) (hr : ∀ cls, c.raises args cls = false) (hp : c.post args (.bool true) args = true) (hb : AllBare g) (e : b = true) :
    GoodWG c cl mean args s₁ (.ok (.ret (.bool b))) ⟨h, g, d, t, s₁.os⟩ := by
  subst e
  exact ⟨.inl ⟨_, _, [], rfl, hr, ReadsW.bool true, hp, fun _ => ⟨List.nodup_nil, fun _ hm => (nomatch hm)⟩⟩, .of_keep F.keep, rfl, hb⟩
theorem end_a {k : Nat} {a b x lit : Str} (hS : x = dueS k a b) (hl : lit = mkS (List.replicate k 47)) (hb : (bothS a b != Str.ofString "") = true) :
    (x == lit ++ (Str.ofString "\"" ++ (⟨(writtenL (bothS a b).cps.toList).toArray⟩ : Str))) = true := by
  subst hS hl
  rw [beq_iff_eq]
  unfold dueS
  rw [if_neg (by simpa using hb)]
theorem end_b {k : Nat} {a b x lit : Str} (hS : x = dueS k a b) (hl : lit = mkS (List.replicate k 47)) (hb : ¬ (bothS a b != Str.ofString "") = true) : (x == lit) = true := by
  subst hS hl
  rw [beq_iff_eq]
  unfold dueS
  rw [if_pos (by simpa using hb), empty_mk, mkS_app, List.append_nil]
theorem lit0 : Str.ofString "" = mkS (List.replicate 0 47) := by decide +kernel
theorem lit1 : Str.ofString "/" = mkS (List.replicate 1 47) := by decide +kernel
theorem lit2 : Str.ofString "//" = mkS (List.replicate 2 47) := by decide +kernel
theorem lit3 : Str.ofString "///" = mkS (List.replicate 3 47) := by decide +kernel
end Mine
end

-- part Z1
section
open PySem PySem.W PyProof.Rows PySem.Calls
set_option Elab.async false
set_option maxRecDepth 100000
set_option maxHeartbeats 8000000
set_option linter.unusedVariables false
namespace Mine

local macro_rules | `(tactic| k_ne) => `(tactic| (refine neN ?_; (try dsimp only); first | (with_reducible assumption) | (refine Ne.symm ?_; with_reducible assumption) | (refine Nat.ne_of_gt ?_; with_reducible assumption) | (refine Nat.ne_of_lt ?_; with_reducible assumption) | (refine Nat.ne_of_gt ?_; first | exact Nat.lt_add_one _ | (refine Nat.lt_add_right 1 ?_; first | exact Nat.lt_add_one _ | (refine Nat.lt_add_right 1 ?_; exact Nat.lt_add_one _))) | (refine Nat.ne_of_lt ?_; first | exact Nat.lt_add_one _ | (refine Nat.lt_add_right 1 ?_; first | exact Nat.lt_add_one _ | (refine Nat.lt_add_right 1 ?_; exact Nat.lt_add_one _))) | ((repeat ((with_reducible rename _ ≠ _ => hz9); clear hz9)); (repeat ((with_reducible rename _ ∧ _ => hz9); clear hz9)); omega) | omega))
theorem News.skip0 {h₀ h : Heap} {L : Addr} {p : Addr × Obj} {rest : List (Addr × Obj)} (N : News h₀ L h (p :: rest)) : News h₀ L h rest := fun q hq => N q (.tail _ hq)
theorem list2 {l : List (Str × Tok)} (h : l.length = 2) : ∃ a1 t1 a2 t2, l = [(a1, t1), (a2, t2)] := by
  match l, h with
  | [(a1, t1), (a2, t2)], _ => exact ⟨a1, t1, a2, t2, rfl⟩
theorem law_x : PySem.Challenge.rw_pd0152_01.Holds := hd (by
  k_with_none
  k_with "CompRest" => (with_unfolding_all first
      | (refine LCg.CompRest.succ ?_; intro zqv' zqI' zqoI' zqC' zqoC' zqD' zqm' zqh' zqtk' zqE' zqhv' zqhC' zqhx' zqF' zqN' zqoff' zqne'; (first | lcg_open zqhv' | (obtain ⟨t9', hv9'⟩ := zqhv'; subst hv9')); (try simp only [LCg.Off3, and_true] at zqoff'); (repeat ((with_reducible rename _ ∧ _ => zqhz9); rcases zqhz9 with ⟨zqhz8, zqhz7⟩)))
      | refine LCg.CompRest.zero ?_)
  k_with "FinE" => ((unfold LCg.FinE); intro zqD' zqh' zqtk' zqF' zqN' zqo1'; (try simp only [LCg.Off1, and_true] at zqo1'); (try simp only [List.nil_append, List.cons_append] at zqN'); (repeat ((with_reducible rename _ ∧ _ => zqhz9); rcases zqhz9 with ⟨zqhz8, zqhz7⟩)); (try dsimp only))
  k_with "FinA" => ((unfold LCg.FinA); intro zqD' zqh' zqtk' zqF' zqN' zqo1'; (try simp only [LCg.Off1, and_true] at zqo1'); (try simp only [List.nil_append, List.cons_append] at zqN'); (repeat ((with_reducible rename _ ∧ _ => zqhz9); rcases zqhz9 with ⟨zqhz8, zqhz7⟩)); (try dsimp only))
  k_with "compareOp NotEq ref ref" => (k_here; k_dflt (first
      | (refine' ne_two ?zqN ?zqa ?zqb ?zqc ?zqd ?zqe ?zqf ?zqg ?zqi ?zqu ?_; (case zqN => k_asm); (case zqa => k_mem); (case zqb => k_mem); (case zqc => rfl); (case zqd => rfl); (case zqe => rfl); (case zqf => rfl); (case zqg => with_reducible assumption); (case zqi => with_reducible assumption); (case zqu => ke_room); k_whole)
      | (refine' ne_four ?zqN ?zqa ?zqb ?zqc ?zqd ?zqe ?zqf ?zqe1 ?zqe2 ?zqe3 ?zqe4 ?zqg1 ?zqg2 ?zqg3 ?zqg4 ?zqu ?_; (case zqN => k_asm); (case zqa => k_mem); (case zqb => k_mem); (case zqc => rfl); (case zqd => rfl); (case zqe => rfl); (case zqf => rfl); (case zqe1 => with_reducible (first | assumption | rfl)); (case zqe2 => with_reducible (first | assumption | rfl)); (case zqe3 => with_reducible (first | assumption | rfl)); (case zqe4 => with_reducible (first | assumption | rfl)); (case zqg1 => with_reducible assumption); (case zqg2 => with_reducible assumption); (case zqg3 => with_reducible assumption); (case zqg4 => with_reducible assumption); (case zqu => ke_room); k_whole)
      | (refine' ne_rows ?zqN ?zqa ?zqb ?zqc ?zqd ?zqe ?zqf ?zqm1 ?zqm2 ?zqm3 ?zqm4 ?zqc1 ?zqc2 ?zqc3 ?zqc4 ?zqi1 ?zqi2 ?zqi3 ?zqi4 ?zqg1 ?zqg2 ?zqg3 ?zqg4 ?zqg5 ?zqg6 ?zqu ?_; (case zqN => k_asm); (case zqa => k_mem); (case zqb => k_mem); (case zqc => rfl); (case zqd => rfl); (case zqe => rfl); (case zqf => rfl); (case zqm1 => k_mem); (case zqm2 => k_mem); (case zqm3 => k_mem); (case zqm4 => k_mem); (case zqc1 => rfl); (case zqc2 => rfl); (case zqc3 => rfl); (case zqc4 => rfl); (case zqi1 => rfl); (case zqi2 => rfl); (case zqi3 => rfl); (case zqi4 => rfl); (case zqg1 => with_reducible assumption); (case zqg2 => with_reducible assumption); (case zqg3 => with_reducible assumption); (case zqg4 => with_reducible assumption); (case zqg5 => with_reducible assumption); (case zqg6 => with_reducible assumption); (case zqu => ke_room); k_whole)))
  k_with "compareOp Eq ref ref" => (k_here; k_dflt (first
      | (refine' eq_one ?zqN ?zqa ?zqb ?zqc ?zqd ?zqe ?zqf ?zqg1 ?zqg2 ?zqu ?_; (case zqN => k_asm); (case zqa => k_mem); (case zqb => k_mem); (case zqc => rfl); (case zqd => rfl); (case zqe => rfl); (case zqf => rfl); (case zqg1 => with_reducible assumption); (case zqg2 => with_reducible assumption); (case zqu => ke_room); k_whole)
      | (refine' eq_two ?zqN ?zqa ?zqb ?zqc ?zqd ?zqe ?zqf ?zqg1 ?zqg2 ?zqg3 ?zqg4 ?zqu ?_; (case zqN => k_asm); (case zqa => k_mem); (case zqb => k_mem); (case zqc => rfl); (case zqd => rfl); (case zqe => rfl); (case zqf => rfl); (case zqg1 => with_reducible assumption); (case zqg2 => with_reducible assumption); (case zqg3 => with_reducible assumption); (case zqg4 => with_reducible assumption); (case zqu => ke_room); k_whole)
      | (refine' eq_three ?zqN ?zqa ?zqb ?zqc ?zqd ?zqe ?zqf ?zqg1 ?zqg2 ?zqg3 ?zqg4 ?zqg5 ?zqg6 ?zqu ?_; (case zqN => k_asm); (case zqa => k_mem); (case zqb => k_mem); (case zqc => rfl); (case zqd => rfl); (case zqe => rfl); (case zqf => rfl); (case zqg1 => with_reducible assumption); (case zqg2 => with_reducible assumption); (case zqg3 => with_reducible assumption); (case zqg4 => with_reducible assumption); (case zqg5 => with_reducible assumption); (case zqg6 => with_reducible assumption); (case zqu => ke_room); k_whole)))
  k_with "call ref" => (k_here; (with_reducible show wpAny _ _ (call (Value.ref 174) _) _ _ _); k_dflt (refine' lname_d ?zqk1 ?zqk2 ?zqk3 ?zqk4 ?zqk5 ?zqk6 ?zqk7 ?zqk8 ?zqk9 ?_; (case zqk1 => k_asm); (case zqk2 => k_asm); (case zqk3 => k_asm); (case zqk4 => k_asm); (case zqk5 => k_asm); (case zqk6 => exact Nat.le_of_ble_eq_true rfl); (case zqk7 => exact Nat.le_of_ble_eq_true rfl); (case zqk8 => (first | (with_reducible assumption) | exact Int.fmod_nonneg_of_pos _ (by decide) | exact half_lo _)); (case zqk9 => (first | (with_reducible assumption) | exact Int.fmod_lt_of_pos _ (by decide) | exact half_hi _)); k_whole); intro zqx' zqt' zqh' zqtk' zqhn' zqhl' zqF' zqN'; (try dsimp only); (try k_fold))
  k_with "subscriptTail Name Slice ref ref" => (k_here; k_dflt (refine' slice_ints ?zqF ?zqN ?zql ?zqi ?zqz ?zqp ?zqq ?zqk ?zqn ?_ ?zqs ?zqt; (case zqF => k_asm); (case zqN => k_asm); (case zql => with_reducible assumption); (case zqi => with_reducible assumption); (case zqz => with_reducible assumption); (case zqp => first | exact IsPart.none | exact IsPart.int _ _); (case zqq => first | exact IsPart.none | exact IsPart.int _ _); (case zqk => first | exact IsPart.none | exact IsPart.int _ _); (case zqn => decide); (case zqs => with_unfolding_all rfl); (case zqt => intro _; with_unfolding_all rfl); k_whole); intro zqD' zqh' zqzs' zqms' zqhi' zqF' zqN' zql1; (try k_lt zql1); (try dsimp only))
  k_with "exec For Name Call cons nil" => (k_here; k_dflt (refine forStmt ?_))
  k_with "eval ListComp" => (k_here; (with_reducible show wpAny _ _ (eval (Expr.ListComp (Expr.IfExp _ _ _ _) _ _ _) _) _ _ _); k_dflt (refine comp_stop (F₀ := by k_asm) (by with_unfolding_all rfl) (by decide) (by rfl) (by decide) (by rfl) ?_))
  k_with "eval ListComp" => (k_here; (with_reducible show wpAny _ _ (eval (Expr.ListComp _ [⟨_, _, [_], _⟩] _ _) _) _ _ _); k_dflt (refine test_comp_stop (F₀ := by k_asm) (by with_unfolding_all rfl) (by decide) (by rfl) (by decide) (by rfl) ?_))
  k_with "eval ListComp" => (k_here; (with_reducible show wpAny _ _ (eval (Expr.ListComp (Expr.Call (Expr.Name (Str.ofString "_law_read") _) _ _ _) _ _ _) _) _ _ _); k_dflt (refine comp_G (F₀ := by k_asm) (by with_unfolding_all rfl) (by decide) (by rfl) (by decide) (by rfl) ?_))
  k_with "call ref" => (k_here; (with_reducible show wpAny _ _ (call (Value.ref 186) _) _ _ _); k_dflt (refine' path_d ?zqk1 ?zqk2 ?zqk3 ?zqk4 ?zqk5 ?zqk6 ?zqk7 ?zqk8 ?zqk9 ?zqk10 ?zqk11 ?_; (case zqk1 => k_asm); (case zqk2 => k_asm); (case zqk3 => k_asm); (case zqk4 => k_asm); (case zqk5 => k_asm); (case zqk6 => exact Nat.le_of_ble_eq_true rfl); (case zqk7 => exact Nat.le_of_ble_eq_true rfl); (case zqk8 => k_mem); (case zqk9 => (with_reducible assumption)); (case zqk10 => (with_reducible assumption)); (case zqk11 => (with_reducible assumption)); k_whole); intro zqt' zqh' zqtk' zqF' zqN'; (try dsimp only); (try k_fold))
  k_with "call ref" => (k_here; (with_reducible show wpAny _ _ (call (Value.ref 136) _) _ _ _); k_dflt (refine' norm_d ?zqk1 ?zqk2 ?zqk3 ?zqk4 ?zqk5 ?zqk6 ?zqk7 ?zqk8 ?_; (case zqk1 => k_asm); (case zqk2 => k_asm); (case zqk3 => k_asm); (case zqk4 => k_asm); (case zqk5 => k_asm); (case zqk6 => exact Nat.le_of_ble_eq_true rfl); (case zqk7 => exact Nat.le_of_ble_eq_true rfl); (case zqk8 => (with_reducible assumption)); k_whole); intro zqt' zqh' zqtk' zqF' zqN'; (try dsimp only); (try k_fold))
  k_with "call ref" => (k_here; (with_reducible show wpAny _ _ (call (Value.ref 169) _) _ _ _); k_dflt (refine' pre_d ?zqk1 ?zqk2 ?zqk3 ?zqk4 ?zqk5 ?zqk6 ?zqk7 ?zqk8 ?zqk9 ?zqka ?zqkb ?zqkc ?zqkd ?_; (case zqk1 => k_asm); (case zqk2 => k_asm); (case zqk3 => k_asm); (case zqk4 => k_asm); (case zqk5 => k_asm); (case zqk6 => exact Nat.le_of_ble_eq_true rfl); (case zqk7 => exact Nat.le_of_ble_eq_true rfl); (case zqk8 => k_mem); (case zqk9 => with_reducible assumption); (case zqka => with_reducible assumption); (case zqkb => with_reducible assumption); (case zqkc => with_reducible assumption); (case zqkd => with_reducible assumption); k_whole); intro zqD' zqu1' zqu2' zqu3' zqu4' zqn' zqh' zqtk' zqg' zqF' zqN' zql1 zqhb'; (try simp only [List.forall_mem_cons, List.forall_mem_nil, List.not_mem_nil, false_implies, implies_true, and_true] at zql1); (repeat ((with_reducible rename _ ∧ _ => zqhz9); rcases zqhz9 with ⟨zqhz8, zqhz7⟩)); (try dsimp only); (try k_fold))
  k_with "call ref" => (k_here; (with_reducible show wpAny _ _ (call (Value.ref 191) _) _ _ _); k_dflt (refine' read_d ?zqk1 ?zqk2 ?zqk3 ?zqk4 ?zqk5 ?zqk6 ?zqk7 ?zqk8 ?zqk9 ?_; (case zqk1 => k_asm); (case zqk2 => k_asm); (case zqk3 => k_asm); (case zqk4 => k_asm); (case zqk5 => k_asm); (case zqk6 => exact Nat.le_of_ble_eq_true rfl); (case zqk7 => exact Nat.le_of_ble_eq_true rfl); (case zqk8 => (with_reducible assumption)); (case zqk9 => (with_reducible assumption)); k_whole); intro zqD' zqu1' zqu2' zqu3' zqk' zqh' zqtk' zqg' zqF' zqN' zql1 zqhb'; (try dsimp only); (try k_fold))
  k_with "call ref" => (k_here; (with_reducible show wpAny _ _ (call (Value.ref 141) _) _ _ _); k_dflt (refine' comm_d ?zqk1 ?zqk2 ?zqk3 ?zqk4 ?zqk5 ?zqk6 ?zqk7 ?zqk8 ?zqk9 ?_; (case zqk1 => k_asm); (case zqk2 => k_asm); (case zqk3 => k_asm); (case zqk4 => k_asm); (case zqk5 => k_asm); (case zqk6 => exact Nat.le_of_ble_eq_true rfl); (case zqk7 => exact Nat.le_of_ble_eq_true rfl); (case zqk8 => k_mem); (case zqk9 => (with_reducible assumption)); k_whole); intro zqt' zqh' zqtk' zqF' zqN'; (try dsimp only); (try k_fold))
  k_with "call ref" => (k_here; (with_reducible show wpAny _ _ (call (Value.ref 179) _) _ _ _); k_dflt (refine' written_d ?zqk1 ?zqk2 ?zqk3 ?zqk4 ?zqk5 ?zqk6 ?zqk7 ?zqk8 ?_; (case zqk1 => k_asm); (case zqk2 => k_asm); (case zqk3 => k_asm); (case zqk4 => k_asm); (case zqk5 => k_asm); (case zqk6 => exact Nat.le_of_ble_eq_true rfl); (case zqk7 => exact Nat.le_of_ble_eq_true rfl); (case zqk8 => (first | (with_reducible assumption) | omega)); k_whole); intro zqt' zqh' zqtk' zqhw' zqF' zqN'; (try dsimp only); (try k_fold))
  k_with "call ref" => (k_here; (with_reducible show wpAny _ _ (call (Value.ref 115) _) _ _ _); k_dflt (refine' join_e ?zqk1 ?zqk2 ?zqk3 ?zqk4 ?zqk5 ?zqk6 ?zqk7 ?zqk8 ?zqk9 ?_; (case zqk1 => k_asm); (case zqk2 => k_asm); (case zqk3 => k_asm); (case zqk4 => k_asm); (case zqk5 => k_asm); (case zqk6 => exact Nat.le_of_ble_eq_true rfl); (case zqk7 => exact Nat.le_of_ble_eq_true rfl); (case zqk8 => (first | (with_reducible assumption) | omega)); (case zqk9 => (first | (with_reducible assumption) | omega)); k_whole); intro zqt' zqh' zqtk' zqhj' zqF' zqN'; (try dsimp only); (try k_fold))
  k_with "call ref" => (k_here; (with_reducible show wpAny _ _ (call (Value.ref 155) _) _ _ _); k_dflt (refine' strip_d ?zqk1 ?zqk2 ?zqk3 ?zqk4 ?zqk5 ?zqk6 ?zqk7 ?zqk8 ?zqk9 ?_; (case zqk1 => k_asm); (case zqk2 => k_asm); (case zqk3 => k_asm); (case zqk4 => k_asm); (case zqk5 => k_asm); (case zqk6 => exact Nat.le_of_ble_eq_true rfl); (case zqk7 => exact Nat.le_of_ble_eq_true rfl); (case zqk8 => (with_reducible assumption)); (case zqk9 => (with_reducible assumption)); k_whole); intro zqt' zqh' zqtk' zqg' zqF' zqN' zqhb'; (try dsimp only); (try k_fold))
  k_with "call ref" => (k_here; (with_reducible show wpAny _ _ (call (Value.ref 198) _) _ _ _); k_dflt (refine' both_c ?zqk1 ?zqk2 ?zqk3 ?zqk4 ?zqk5 ?zqk6 ?zqk7 ?zqk8 ?zqk9 ?_; (case zqk1 => k_asm); (case zqk2 => k_asm); (case zqk3 => k_asm); (case zqk4 => k_asm); (case zqk5 => k_asm); (case zqk6 => exact Nat.le_of_ble_eq_true rfl); (case zqk7 => exact Nat.le_of_ble_eq_true rfl); (case zqk8 => (first | (with_reducible assumption) | omega)); (case zqk9 => (first | (with_reducible assumption) | omega)); k_whole); intro zqt' zqh' zqtk' zqF' zqN'; (try dsimp only); (try k_fold))
  k_fill
  intro w s₀ s₁ mg mb G Y fa o pm cd doc dV kV ho hdd hcd hD hmg hg args vals as hpre hlay hrd hwl hlo
  have KX := kIn_of Y
  have X := (Ground.X G).1
  have V := (Ground.X G).2
  try w_nolog (first | (have GL := glob_more (Ground.glob G (by decide +kernel) (by decide +kernel)) V) | (have GL := glob_more (Ground.glob G (by decide +kernel)) V))
  refine Ground.open G ?_
  intro T B D TE TW
  try (refine guard_noD D (by decide +kernel) ?_; clear D)
  obtain ⟨_, _, M⟩ := bmod_of_top T
  have TA := at_of_top T
  try (obtain ⟨_, _, he, B0⟩ := based_of_top T rfl hmg ho hdd; have he' : cd = _ := he; subst he'; clear he)
  clear hmg
  wrow_args hpre hlay hrd hwl hlo
  all_goals (
    first | refine callC_kw (enter_call ?_) | refine enter_call ?_ | refine callC_kw (enter_callW ?_) | refine enter_callW ?_ | w_how
    w_top on
    have K0 := below_caller (Top.heap T)
    w_call any ho hdd hcd hD T F
    clear hdd TA
    k_drop
    skip)
  all_goals try k_fold
  k_steps
  with_reducible rename Fr _ _ _ _ => F9
  with_reducible rename News _ _ _ _ => N9
  with_reducible rename IsRange _ _ _ _ _ _ _ _ => R9
  obtain ⟨m0, hm0, F9⟩ := Fr.named F9
  with_reducible rename IntsAre _ _ => hI9
  have hvl : _ ≤ 1000 := Nat.le_trans (Nat.le_of_eq hI9.length) (by omega)
  obtain ⟨ls, lf, cells, hls, hlf, hcells, N9⟩ := News.named3 N9
  subst hls hlf
  refine iter_range (n := 3) (by rfl) rfl rfl rfl R9 ?_ ?_ (lawJ m0 lf ls cells s₁.gens) F9 N9 ?_ ?_ ?_
  · exact range_small1 (n := 3) (by decide)
  · exact range_size1 3
  · exact ⟨rfl, ⟨_, _, _, lMap_self⟩, [], [], 0, 0, (by subst hcells; rfl), rfl, rfl, (fun _ h => nomatch h), (fun _ h => nomatch h)⟩
  · rintro i ti m' news' g' h tk I o hi ⟨rfl, ⟨uk, un, ux, rfl⟩, l1, l2, n1, n2, rfl, hl1, hl2, hN1, hN2⟩ F₁ N₁ off
    subst hm0
    subst hcells
    dsimp only [lMap] at F₁
    have hi3 : i = 0 ∨ i = 1 ∨ i = 2 := by omega
    have o1 : @Ne Nat ls I := off _ (.head _)
    have o2 : @Ne Nat lf I := off _ (.tail _ (.head _))
    have o3 : @Ne Nat _ I := off _ (.tail _ (.tail _ (.head _)))
    have o4 : @Ne Nat _ I := off _ (.tail _ (.tail _ (.tail _ (.head _))))
    have o5 : @Ne Nat _ I := off _ (.tail _ (.tail _ (.tail _ (.tail _ (.head _)))))
    have o6 : @Ne Nat _ I := off _ (.tail _ (.tail _ (.tail _ (.tail _ (.tail _ (.head _))))))
    dsimp only at o3 o4 o5 o6
    clear hi3
    have hi1 : i ≤ 3 := by omega
    k_steps
    with_reducible rename Fr _ _ _ _ => F₂
    with_reducible rename News _ _ _ _ => N₂
    refine append_K F₂ N₂ (by k_upd) ?_ (by rw [sizeLine_eq]; simp [strValues]; omega)
    intro h₃ F₃ N₃
    rw [push_strs] at N₃
    k_steps
    · with_reducible rename Fr _ _ _ _ => F₄
      with_reducible rename News _ _ _ _ => N₄
      refine append_K F₄ N₄ (by k_upd) ?_ (by rw [sizeLine_eq]; simp [strValues]; omega)
      intro h₅ F₅ N₅
      rw [push_strs] at N₅
      k_steps
      with_reducible rename Fr _ _ _ _ => F₆
      with_reducible rename News _ _ _ _ => N₆
      refine Turned.mk F₆ N₆ ?sub ?off ⟨rfl, ⟨?_, ?_, ?_, ?pA⟩, l1 ++ [(?x1, ?t1)], l2 ++ [(?x2, ?t2)], ?_, ?_, rfl, ?pB, ?pC, ?pD, ?pE⟩
      case sub =>
        exact List.forall_mem_cons.mpr ⟨by repeat (first | exact .head _ | refine .tail _ ?_), List.forall_mem_cons.mpr ⟨by repeat (first | exact .head _ | refine .tail _ ?_), List.forall_mem_cons.mpr ⟨by repeat (first | exact .head _ | refine .tail _ ?_), fun p hp => by repeat (first | exact hp | refine .tail _ ?_)⟩⟩⟩
      case off => exact List.forall_mem_cons.mpr ⟨o1, List.forall_mem_cons.mpr ⟨o2, fun p hp => off p (.tail _ (.tail _ hp))⟩⟩
      case pA => exact lMap_A
      case pB => simp [hl1]
      case pC => simp [hl2]
      case pD => exact names_snoc hN1 (by with_reducible assumption)
      case pE => exact names_snoc hN2 (by with_reducible assumption)
    · with_reducible rename Fr _ _ _ _ => F₄
      with_reducible rename News _ _ _ _ => N₄
      refine append_K F₄ N₄ (by k_upd) ?_ (by rw [sizeLine_eq]; simp [strValues]; omega)
      intro h₅ F₅ N₅
      rw [push_strs] at N₅
      k_steps
      with_reducible rename Fr _ _ _ _ => F₆
      with_reducible rename News _ _ _ _ => N₆
      refine Turned.mk F₆ N₆ ?sub2 ?off2 ⟨rfl, ⟨?_, ?_, ?_, ?pA2⟩, l1 ++ [(?y1, ?w1)], l2 ++ [(?y2, ?w2)], ?_, ?_, rfl, ?pB2, ?pC2, ?pD2, ?pE2⟩
      case sub2 =>
        exact List.forall_mem_cons.mpr ⟨by repeat (first | exact .head _ | refine .tail _ ?_), List.forall_mem_cons.mpr ⟨by repeat (first | exact .head _ | refine .tail _ ?_), List.forall_mem_cons.mpr ⟨by repeat (first | exact .head _ | refine .tail _ ?_), fun p hp => by repeat (first | exact hp | refine .tail _ ?_)⟩⟩⟩
      case off2 => exact List.forall_mem_cons.mpr ⟨o1, List.forall_mem_cons.mpr ⟨o2, fun p hp => off p (.tail _ (.tail _ hp))⟩⟩
      case pA2 => exact lMap_A
      case pB2 => simp [hl1]
      case pC2 => simp [hl2]
      case pD2 => exact names_snoc hN1 (by with_reducible assumption)
      case pE2 => exact names_snoc hN2 (by with_reducible assumption)
  · rintro m' news' g' h tk ⟨rfl, ⟨uk, un, ux, rfl⟩, l1, l2, n1, n2, rfl, hl1, hl2, hN1, hN2⟩ F₁ N₁
    clear hm0
    subst hcells
    obtain ⟨a1, t1, a2, t2, a3, t3, rfl⟩ := list3 hl1
    obtain ⟨b1, v1, b2, v2, b3, v3, rfl⟩ := list3 hl2
    have nA1 := hN1 _ (.head _)
    have nA2 := hN1 _ (.tail _ (.head _))
    have nA3 := hN1 _ (.tail _ (.tail _ (.head _)))
    have nB1 := hN2 _ (.head _)
    have nB2 := hN2 _ (.tail _ (.head _))
    have nB3 := hN2 _ (.tail _ (.tail _ (.head _)))
    clear hN1 hN2 hl1 hl2
    dsimp only at nA1 nA2 nA3 nB1 nB2 nB3
    have lA1 := nA1.len
    have lA2 := nA2.len
    have lA3 := nA3.len
    have lB1 := nB1.len
    have lB2 := nB2.len
    have lB3 := nB3.len
    have hbare : AllBare s₁.gens := AllBare.of_eq hg
    have fA := path_facts nA1 nA2 nA3
    have fB := path_facts nB1 nB2 nB3
    have pA := fA.norm
    have pB := fB.norm
    have qA := fA.pre
    have qB := fB.pre
    have qA' := fA.preT
    have qB' := fB.preT
    have eA := fA.val
    have eB := fB.val
    have eA' := fA.valT
    have eB' := fB.valT
    obtain ⟨nA, rA⟩ := fA.read
    obtain ⟨nB, rB⟩ := fB.read
    clear fA fB
    have kPA := low_path nA1 nA2 nA3
    have kPB := low_path nB1 nB2 nB3
    have kTA := low_torn nA1 nA2 nA3
    have kTB := low_torn nB1 nB2 nB3
    have kA1 := low_name nA1
    have kA2 := low_name nA2
    have kA3 := low_name nA3
    have kB1 := low_name nB1
    have kB2 := low_name nB2
    have kB3 := low_name nB3
    have zA : (P3 a1 a2 a3).length ≤ 1000 := qA.1
    have zB : (P3 b1 b2 b3).length ≤ 1000 := qB.1
    k_steps
    unfold Stop
    with_reducible rename Fr _ _ _ _ => F9
    with_reducible rename News _ _ _ _ => N9
    with_reducible rename IsRange _ _ _ _ _ _ _ _ => R9
    refine src_range_P (n := 2) (fun i u => u = if i = 0 then valS (Txt.slice (P3 a1 a2 a3) none (some (-1))) else valS (Txt.slice (P3 b1 b2 b3) none (some (-1)))) rfl F9 N9 R9 rfl (by decide) ?_ ?_
    · intro i ti I5 oI5 C5 oC5 D5 ys5 m5 h5 tk5 g5 E5 hi5 hn5 hm5 F5 N5 off5 ne5
      rcases (by omega : i = 0 ∨ i = 1) with rfl | rfl
      · k_steps
        · rename (List.isEmpty _) = true => hc
          have hc' : hasOpen a3 = false := congrArg (fun b => !b) hc
          refine LCg.CompEnd.intro F5 N5 _ (fun p hp => hp) off5 trivial ⟨rfl, _, _, rfl, ?_⟩
          first | rw [eA', if_neg (by rw [hc']; exact Bool.false_ne_true)] | rw [if_pos rfl, eA', if_neg (by rw [hc']; exact Bool.false_ne_true)]
        · rename (List.isEmpty _) = false => hc
          have hc' : hasOpen a3 = true := congrArg (fun b => !b) hc
          refine LCg.CompEnd.intro F5 N5 _ (fun p hp => hp) off5 trivial ⟨rfl, _, _, rfl, ?_⟩
          first | rw [eA', if_pos hc'] | rw [if_pos rfl, eA', if_pos hc']
      · k_steps
        · rename (List.isEmpty _) = true => hc
          have hc' : hasOpen b3 = false := congrArg (fun b => !b) hc
          refine LCg.CompEnd.intro F5 N5 _ (fun p hp => hp) off5 trivial ⟨rfl, _, _, rfl, ?_⟩
          rw [if_neg (by decide), eB', if_neg (by rw [hc']; exact Bool.false_ne_true)]
        · rename (List.isEmpty _) = false => hc
          have hc' : hasOpen b3 = true := congrArg (fun b => !b) hc
          refine LCg.CompEnd.intro F5 N5 _ (fun p hp => hp) off5 trivial ⟨rfl, _, _, rfl, ?_⟩
          rw [if_neg (by decide), eB', if_pos hc']
    · intro g l hl hR
      obtain ⟨u1, w1, u2, w2, rfl⟩ := list2 hl
      have e1 := hR 0 _ rfl
      have e2 := hR 1 _ rfl
      dsimp only at e1 e2
      rw [if_pos rfl] at e1
      rw [if_neg (by decide)] at e2
      subst e1 e2
      k_steps
      unfold Stop
      with_reducible rename Fr _ _ _ _ => F8
      with_reducible rename News _ _ _ _ => N8
      replace N8 := News.skip0 (News.skip0 (News.skip0 (News.skip0 (News.skip0 (News.skip0 N8)))))
      refine GSrc.two rfl F8 N8 (by k_dflt k_mem) ?_
      intro I1 oI1 C1 oC1 D1 m1 h1 tk1 E1 hn1 hx1 F1 N1 off1 ne1
      k_steps
      with_reducible rename Fr _ _ _ _ => F2
      with_reducible rename News _ _ _ _ => N2
      refine GEnd.one F2 N2 (by with_reducible assumption) off1 (by k_dflt k_mem) ?_
      intro _ I2 oI2 C2 oC2 D2 m2 h2 tk2 E2 hn2 hx2 F3 N3 off3 ne3
      k_steps
      with_reducible rename Fr _ _ _ _ => F4
      with_reducible rename News _ _ _ _ => N4
      refine GEnd.one F4 N4 (by with_reducible assumption) off3 (by k_dflt k_mem) ?_
      clear F1 N1 F2 N2 F3 N3 F4 N4 off1 off3
      intro D3 h3 tk3 F5 N5 o5
      simp only [LCg.Off1, and_true] at o5
      simp only [List.nil_append, List.cons_append] at N5
      (repeat ((with_reducible rename _ ∧ _ => hz9); rcases hz9 with ⟨hz8, hz7⟩))
      k_steps
      unfold Stop
      with_reducible rename Fr _ _ _ _ => F9
      with_reducible rename News _ _ _ _ => N9
      with_reducible rename IsRange _ _ _ _ _ _ _ _ => R9
      replace N9 := News.skip0 (News.skip0 (News.skip0 N9))
      refine src_pass (n := 3) (eqTo a1 a2 a3 b1 b2 b3) rfl F9 N9 R9 rfl (by decide) rfl (by rfl) (by decide) ?_ ?_
      · intro i ti I6 oI6 C6 oC6 D6 ys6 m6 h6 tk6 g6 E6 hi6 hn6 hm6 F6 N6 off6 ne6
        rcases (by omega : i = 0 ∨ i = 1 ∨ i = 2) with rfl | rfl | rfl
        · k_steps
          · with_reducible assumption
          · with_reducible rename News _ _ _ _ => N7
            exact fun p hp => N7 p (.tail _ (.tail _ hp))
        · k_steps
          · with_reducible assumption
          · with_reducible rename News _ _ _ _ => N7
            exact fun p hp => N7 p (.tail _ (.tail _ hp))
        · k_steps
          · with_reducible assumption
          · with_reducible rename News _ _ _ _ => N7
            exact fun p hp => N7 p (.tail _ (.tail _ hp))
      · intro g6 ys6 hy6
        have hE0 : (Str.ofString "").length ≤ 500000 := by decide +kernel
        by_cases e1 : a1 = b1
        · by_cases e2 : a2 = b2
          · by_cases e3 : a3 = b3
            · rw [pass3 e1 e2 e3] at hy6
              obtain ⟨y1, y2, y3, rfl⟩ := len3 hy6
              obtain ⟨cc, hC, hS, hJ, hCl⟩ := (comm3 nA1 nA2 nA3 nB1 nB2 nB3 e1 e2 e3).out
              have hCl' : (commS (P3 a1 a2 a3) cc).length ≤ 500000 := Nat.le_trans hCl (by decide)
              k_steps
              with_reducible rename Fr _ _ _ _ => F7
              refine good_end F7 (fun _ => rfl) (by kernel_rfl) (by with_reducible assumption) ?_
              rw [hS, lit3, beq_self_eq_true]
            · rw [pass2 e1 e2 e3] at hy6
              obtain ⟨y1, y2, rfl⟩ := len2 hy6
              obtain ⟨cc, hC, hS, hJ, hCl⟩ := (comm2 nA1 nA2 nA3 nB1 nB2 nB3 e1 e2 e3).out
              have hCl' : (commS (P3 a1 a2 a3) cc).length ≤ 500000 := Nat.le_trans hCl (by decide)
              have hbl := both_len nA3 nB3
              k_steps
              · with_reducible rename Fr _ _ _ _ => F7
                refine good_end F7 (fun _ => rfl) (by kernel_rfl) (by with_reducible assumption) (end_a hS lit2 (by with_reducible assumption))
              · with_reducible rename Fr _ _ _ _ => F7
                refine good_end F7 (fun _ => rfl) (by kernel_rfl) (by with_reducible assumption) (end_b hS lit2 (by first | with_reducible assumption | (rename (_ != _) = false => hq; rw [hq]; exact Bool.false_ne_true)))
          · rw [pass1 e1 e2] at hy6
            obtain ⟨y1, rfl⟩ := len1 hy6
            obtain ⟨cc, hC, hS, hJ, hCl⟩ := (comm1 nA1 nA2 nA3 nB1 nB2 nB3 e1 e2).out
            have hCl' : (commS (P3 a1 a2 a3) cc).length ≤ 500000 := Nat.le_trans hCl (by decide)
            have hbl := both_len nA2 nB2
            k_steps
            · with_reducible rename Fr _ _ _ _ => F7
              refine good_end F7 (fun _ => rfl) (by kernel_rfl) (by with_reducible assumption) (end_a hS lit1 (by with_reducible assumption))
            · with_reducible rename Fr _ _ _ _ => F7
              refine good_end F7 (fun _ => rfl) (by kernel_rfl) (by with_reducible assumption) (end_b hS lit1 (by first | with_reducible assumption | (rename (_ != _) = false => hq; rw [hq]; exact Bool.false_ne_true)))
        · rw [pass0 e1] at hy6
          obtain rfl := List.eq_nil_of_length_eq_zero hy6
          obtain ⟨cc, hC, hS, hJ, hCl⟩ := (comm0 nA1 nA2 nA3 nB1 nB2 nB3 e1).out
          have hCl' : (commS (P3 a1 a2 a3) cc).length ≤ 500000 := Nat.le_trans hCl (by decide)
          have hbl := both_len nA1 nB1
          k_steps
          · with_reducible rename Fr _ _ _ _ => F7
            refine good_end F7 (fun _ => rfl) (by kernel_rfl) (by with_reducible assumption) (end_a hS lit0 (by with_reducible assumption))
          · with_reducible rename Fr _ _ _ _ => F7
            refine good_end F7 (fun _ => rfl) (by kernel_rfl) (by with_reducible assumption) (end_b hS lit0 (by first | with_reducible assumption | (rename (_ != _) = false => hq; rw [hq]; exact Bool.false_ne_true))))
end Mine
end

theorem PySem.Challenge.cw_pd0152_01_holds : PySem.Challenge.rw_pd0152_01.Holds :=
  Mine.law_x
