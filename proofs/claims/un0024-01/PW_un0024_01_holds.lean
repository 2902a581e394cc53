import PyProof.Rows.All
import Wide.All
import OpenK.AllK
import Wide.FinOn
import OpenK.XGo
import Lean
import PySem.Challenge.RW_un0024_01
set_option compiler.extract_closed false
section
-- HD
open PySem PySem.W PySem.W.X PyProof.Rows
set_option Elab.async false
set_option maxRecDepth 100000
set_option maxHeartbeats 8000000
lay_quick PySem.W.topFrom
namespace Mine
/-- the run from the booted heap on, as one equation of the quick twins: the kernel takes it at once, and the compiled file stays small -/
abbrev Whole (p q : Program) (loose : List Str) (Xt : Shared → Bool) {α : Type} (Yf : Shared → α) (Ya : World → α) (N : Nat) : Prop :=
  ∀ w : World, (fun os => cond (Nat.ble 600 N) ((PySem.W.Fast.tw370005188180407882 PySem.W.Fast.tw14364793385576792824 p w N ⟨boot_heap w.params, #[], boot_drawn, boot_toks, os⟩).map (fun s => (PySem.W.Fast.tw4187177175401517315 q loose (importedModules p.main.body) Xt true s, Yf s))) none) = fun _ => some (openGood q loose, Ya w)
theorem left_of {p q : Program} {loose : List Str} {Xt : Shared → Bool} {α : Type} {Yf : Shared → α} {Ya : World → α} {N : Nat} (e : opening p = plainProg p.main.scope.names) (f : ∀ s, fenceModules? p s = some s)
    (h : Whole p q loose Xt Yf Ya N) : LeftO p q loose Xt Yf Ya N := fun w => by
  unfold Whole at h
  rw [← PySem.W.Fast.te14364793385576792824, ← PySem.W.Fast.te370005188180407882, ← PySem.W.Fast.te4187177175401517315] at h
  cases hN : Nat.ble 600 N with
  | false => rw [hN] at h; exact nomatch congrFun (h w) (start (opening p)).1.os
  | true =>
    rw [hN] at h
    obtain ⟨⟨hp, gs, d, k, os⟩, x, y⟩ := Option.map_eq_some_iff.mp (boot_open e hN f w)
    obtain ⟨rfl, rfl, rfl, rfl⟩ : hp = boot_heap w.params ∧ gs = #[] ∧ d = boot_drawn ∧ k = boot_toks := by simpa using y
    unfold openEnds
    rw [x]
    exact congrFun (h w) os
theorem row_opens : opening PySem.Challenge.rw_un0024_01.row.prog = plainProg PySem.Challenge.rw_un0024_01.row.prog.main.scope.names := by rfl
theorem row_fences : ∀ s, fenceModules? PySem.Challenge.rw_un0024_01.row.prog s = some s := fun _ => by rfl
end Mine
set_option linter.defProp false in
/-- the head for this row, its run in that shape; the head's tactic, called inside `namespace Mine`, comes to it first -/
def Mine.PySem.W.holds_open {q : Program} {loose : List Str} {Xt : Shared → Bool} {XP : (Str → Option Value) → Heap → Prop} {α : Type} {Yf : Shared → α} {Ya : World → α} {YP : World → Heap → Prop} {d : DefRec} {kwd : List (Str × Expr)} {N : Nat}
    (left : Whole PySem.Challenge.rw_un0024_01.row.prog q loose Xt Yf Ya N) :=
  _root_.PySem.W.holds_open (r := PySem.Challenge.rw_un0024_01.row) (XP := XP) (YP := YP) (d := d) (kwd := kwd) (left_of row_opens row_fences left)
namespace Mine
local macro_rules | `(tactic| o_law) => `(tactic| refine holds_law (by kernel_rfl) fun said => ?_)
open_top hd for PySem.Challenge.rw_un0024_01
end Mine
end

section
-- M0
open PySem PySem.W PySem.W.X PySem.Calls PyProof.Rows
set_option Elab.async false
set_option maxRecDepth 100000
set_option maxHeartbeats 8000000
namespace Mine

/-! what a pure call leaves: all that stood stands -/
def Sub (g h : Heap) : Prop := ∀ b o, g.get? b = some o → h.get? b = some o
theorem Sub.refl (h : Heap) : Sub h h := fun _ _ e => e
theorem Sub.trans {a b c : Heap} (x : Sub a b) (y : Sub b c) : Sub a c := fun p o e => y p o (x p o e)
def Post (s : Shared) (R : Value → Prop) (r : Value) (s' : Shared) : Prop :=
  ∃ h' tk', s' = { s with heap := h', toks := tk' } ∧ Sub s.heap h' ∧ R r
theorem mem_keep {h₀ h : Heap} {chg news : List (Addr × Obj)} (D : Mem h₀ h chg news) (hc : chg = []) : Sub h₀ h :=
  fun b o e => D.keep b o e (by subst hc; simp [away])
theorem Post.mk' {s : Shared} {h : Heap} {chg news : List (Addr × Obj)} {t : Nat} {R : Value → Prop} {r : Value} (D : Mem s.heap h chg news) (hc : chg = []) (hr : R r) : Post s R r { s with heap := h, toks := t } :=
  ⟨h, t, rfl, mem_keep D hc, hr⟩
theorem Post.same {s : Shared} {t : Nat} {R : Value → Prop} {r : Value} (hr : R r) : Post s R r { s with toks := t } := ⟨s.heap, t, rfl, fun _ _ e => e, hr⟩
section
variable {w : World} {A : Around} {E : Value → Shared → Prop} {s : Shared} {h₀ : Heap} {L : Addr} {m : Str → Option Value} {news : List (Addr × Obj)} {Q : Value → Shared → Prop}
theorem lift_pure {t : Sem Value} {R : Value → Prop} (P : wpAny (model PySem.Challenge.rw_un0024_01.row.prog w) A t (Post s R) E s) (F : Fr h₀ L s.heap m) (N : News h₀ L s.heap news)
    (h : ∀ v h' tk', R v → Fr h₀ L h' m → News h₀ L h' news → Q v { s with heap := h', toks := tk' }) : wpAny (model PySem.Challenge.rw_un0024_01.row.prog w) A t Q E s :=
  wpAny_mono P (fun v s' ⟨h', tk', e, k, r⟩ => by
    subst e
    exact h v h' tk' r (F.keeps k) (N.grown k)) fun _ _ x => x
end

/-- the surroundings of a call, written out -/
abbrev AR (dp un : Nat) (gd : Option (List Code)) (outer : List Env) : Around := { handled := none, depth := dp, frames := some outer, guards := gd, units := un }
/-- g holds what a call of d frames wants -/
structure At (w : World) (d dp un : Nat) (gd : Option (List Code)) (outer : List Env) (g : Heap) : Prop where
  below : ∃ b, Below (AR dp un gd outer) b outer g
  K : (hd.heap_1 w.params).In g
  top : ∃ p loose mean mg mb, Top p loose mean mg mb g
  depth : dp + d < recursionLimit
  units : un + 8 * d < cLine
theorem below_sub {A : Around} {b g h : Heap} {outer : List Env} (B : Below A b outer g) (k : Sub g h) : Below A b outer h :=
  ⟨B.stack, fun x o e => k x o (B.stays x o e), B.frames.of_keeps fun x o e _ => ⟨o, k x o e, rfl⟩⟩
theorem At.sub {w : World} {d dp un : Nat} {gd : Option (List Code)} {outer : List Env} {g h : Heap} (T : At w d dp un gd outer g) (k : Sub g h) : At w d dp un gd outer h :=
  let ⟨b, B⟩ := T.below
  let ⟨p, l, m, mg, mb, T'⟩ := T.top
  ⟨⟨b, below_sub B k⟩, T.K.keeps k, ⟨p, l, m, mg, mb, T'.keeps k⟩, T.depth, T.units⟩
theorem At.less {w : World} {d d' dp un : Nat} {gd : Option (List Code)} {outer : List Env} {g : Heap} (T : At w d dp un gd outer g) (k : d' ≤ d) : At w d' dp un gd outer g :=
  ⟨T.below, T.K, T.top, Nat.lt_of_le_of_lt (Nat.add_le_add_left k _) T.depth, Nat.lt_of_le_of_lt (by omega) T.units⟩

/-- a ledger beside g -/
def OwnAt (g h : Heap) (own : List (Addr × Obj)) : Prop := ∀ p ∈ own, h.get? p.1 = some p.2 ∧ g.get? p.1 = none
theorem OwnAt.nil {g h : Heap} : OwnAt g h [] := fun _ hp => nomatch hp
theorem sub_hide {g h : Heap} {own : List (Addr × Obj)} (k : Sub g h) (o : OwnAt g h own) : Sub g (hideAll h (own.map (·.1))) := fun b x e =>
  hideAll_get _ (k b x e) fun q => by
    obtain ⟨p, hp, rfl⟩ := List.mem_map.mp q
    rw [(o p hp).2] at e; cases e

section
variable {w : World} {d dp un : Nat} {gd : Option (List Code)} {outer : List Env} {g : Heap} {s : Shared} {own : List (Addr × Obj)} {R : Result → Shared → Prop} {name qual : Str} {params : Arguments} {body : List Stmt} {scope : Scope} {cl : List (Str × Addr)} {dV kV doc pm cdv ct oc : Value}
  {an od : Option Addr} {osl : Array (Option Value)} {f : Addr} {args : Args} {binds : List (Str × Value)}

/-- into a def without cells -/
theorem enterP (T : At w (d + 1) dp un gd outer g) (hg : Sub g s.heap) (hown : OwnAt g s.heap own)
    (ho : s.heap.get? f = some ⟨oc, od, .func (fnX name qual params body scope cl dV kV doc pm an cdv ct), osl⟩) (hcd : codeIn (hd.heap_1 w.params) cdv qual = true)
    (hbind : BindsTo s (fnX name qual params body scope cl dV kV doc pm an cdv ct) args binds) (hloc : ∀ y ∈ binds, scope.names.lookup y.1 = some .local)
    (h : ∀ L' base h₁ b0 p loose mean mg mb, Below (AR dp un gd outer) b0 outer base → (hd.heap_1 w.params).In base → Top p loose mean mg mb base → dp + (d + 1) < recursionLimit → un + 8 * (d + 1) < cLine → Sub g base →
      (∀ b o, b ∉ own.map (·.1) → s.heap.get? b = some o → base.get? b = some o) → Fr base L' h₁ (fun y => binds.reverse.lookup y) → News base L' h₁ own →
      wpAny (model PySem.Challenge.rw_un0024_01.row.prog w) ((AR dp un gd outer).deeper (envX qual scope L' f cdv cl)) (execs body (envX qual scope L' f cdv cl)) (fun fl s' => R (.ok (.ret (match fl with | .ret v => v | _ => .none))) s')
        (fun e s' => wpAny (model PySem.Challenge.rw_un0024_01.row.prog w) ((AR dp un gd outer).deeper (envX qual scope L' f cdv cl)) (leaving (envX qual scope L' f cdv cl) e) (fun _ s'' => R (.error e) s'') (fun e' s'' => R (.error e') s'') s')
        { s with heap := h₁, toks := s.toks + binds.length })
    (hcell : ∀ x ∈ scope.names, x.2 ≠ .cell) (hco : scope.isCoroutine = false) (hgen : scope.isGenerator = false) (hk : scope.kind = .function) :
    codeAny (model PySem.Challenge.rw_un0024_01.row.prog w) (AR dp un gd outer) (.call (.ref f) args) R s := by
  have Ts := T.sub hg
  have kg := sub_hide hg hown
  obtain ⟨b0, B⟩ := (T.sub kg).below
  obtain ⟨p, loose, mean, mg, mb, T'⟩ := (T.sub kg).top
  obtain ⟨_, _, _, _, _, Th⟩ := Ts.top
  have hd1 : dp + (d + 1) < recursionLimit := T.depth
  refine codeAny_call_def (fd := fnX name qual params body scope cl dV kV doc pm an cdv ct) (body := body) (binds := binds) (by show dp < recursionLimit; omega) ho rfl Th.nolimit (codeRec_of Ts.K hcd) rfl hbind hcell hloc (fun h₁ hns hk₁ => ?_) hco hgen hk
  exact h _ _ h₁ b0 p loose mean mg mb B (T.sub kg).K T' T.depth T.units kg (fun b o nb e => hideAll_get _ e nb) ⟨hns, fun b o e => hk₁ b o (of_hideAll _ e), Nat.le_of_eq (hideAll_size _ _)⟩
    (fun p hp => ⟨hk₁ _ _ (hown p hp).1, Nat.ne_of_lt (Heap.lt_size (hown p hp).1), hideAll_none _ (List.mem_map_of_mem hp)⟩)

theorem enterPK (T : At w (d + 1) dp un gd outer g) (hg : Sub g s.heap) (hown : OwnAt g s.heap own)
    (ho : (hd.heap_1 w.params).lookup f = some ⟨oc, od, .func (fnOf name qual params body scope dV kV doc pm an cdv ct), osl⟩) (hcd : codeIn (hd.heap_1 w.params) cdv qual = true)
    (hbind : BindsTo s (fnOf name qual params body scope dV kV doc pm an cdv ct) args binds) (hloc : ∀ y ∈ binds, scope.names.lookup y.1 = some .local)
    (h : ∀ L' base h₁ b0 p loose mean mg mb, Below (AR dp un gd outer) b0 outer base → (hd.heap_1 w.params).In base → Top p loose mean mg mb base → dp + (d + 1) < recursionLimit → un + 8 * (d + 1) < cLine → Sub g base →
      (∀ b o, b ∉ own.map (·.1) → s.heap.get? b = some o → base.get? b = some o) → Fr base L' h₁ (fun y => binds.reverse.lookup y) → News base L' h₁ own →
      wpAny (model PySem.Challenge.rw_un0024_01.row.prog w) ((AR dp un gd outer).deeper (envOf qual scope L' f cdv)) (execs body (envOf qual scope L' f cdv)) (fun fl s' => R (.ok (.ret (match fl with | .ret v => v | _ => .none))) s')
        (fun e s' => wpAny (model PySem.Challenge.rw_un0024_01.row.prog w) ((AR dp un gd outer).deeper (envOf qual scope L' f cdv)) (leaving (envOf qual scope L' f cdv) e) (fun _ s'' => R (.error e) s'') (fun e' s'' => R (.error e') s'') s')
        { s with heap := h₁, toks := s.toks + binds.length })
    (hcell : ∀ x ∈ scope.names, x.2 ≠ .cell) (hco : scope.isCoroutine = false) (hgen : scope.isGenerator = false) (hk : scope.kind = .function) :
    codeAny (model PySem.Challenge.rw_un0024_01.row.prog w) (AR dp un gd outer) (.call (.ref f) args) R s :=
  enterP (cl := []) T hg hown ((T.K.keeps hg) _ _ ho) hcd hbind hloc h hcell hco hgen hk
end
theorem p_end {s : Shared} {base h' : Heap} {L' : Addr} {m' : Str → Option Value} (kb : ∀ b o, b ∉ ([] : List (Addr × Obj)).map (·.1) → s.heap.get? b = some o → base.get? b = some o) (F' : Fr base L' h' m') : Sub s.heap h' :=
  fun b o e => F'.keep b o (kb b o (fun h => nomatch h) e)
section
variable {w : World} {d dp un : Nat} {gd : Option (List Code)} {outer : List Env} {g : Heap} {s : Shared} {own : List (Addr × Obj)} {R : Result → Shared → Prop} {name qual : Str} {params : Arguments} {body : List Stmt} {scope : Scope} {cl : List (Str × Addr)} {dV kV doc pm cdv ct oc : Value}
  {an od : Option Addr} {osl : Array (Option Value)} {f : Addr} {args : Args} {binds : List (Str × Value)}
/-- into a def whose locals are cells in part -/
theorem enterC (T : At w (d + 1) dp un gd outer g) (hg : Sub g s.heap) (hown : OwnAt g s.heap own)
    (ho : s.heap.get? f = some ⟨oc, od, .func (fnX name qual params body scope [] dV kV doc pm an cdv ct), osl⟩) (hcd : codeIn (hd.heap_1 w.params) cdv qual = true)
    (hbind : BindsTo s (fnX name qual params body scope [] dV kV doc pm an cdv ct) args binds)
    (hkind : (binds.all fun y => scope.names.lookup y.1 == some .local || scope.names.lookup y.1 == some .cell) = true) (hnd : ((cellsFrom 0 scope.names []).map (·.1)).Nodup)
    (h : ∀ L' base h₁ tk cells b0 p loose mean mg mb, Below (AR dp un gd outer) b0 outer base → (hd.heap_1 w.params).In base → Top p loose mean mg mb base → dp + (d + 1) < recursionLimit → un + 8 * (d + 1) < cLine → Sub g base →
      (∀ b o, b ∉ own.map (·.1) → s.heap.get? b = some o → base.get? b = some o) → Fr base L' h₁ (bindL (envOfC qual scope L' f cdv).kindOf binds fun _ => none) → News base L' h₁ (cells ++ own) →
      CellsAre (bindC (envOfC qual scope L' f cdv).kindOf binds fun _ => none) (cellsFrom (L' + 1) scope.names []) cells → (∀ p ∈ own, p.1 < L') →
      wpAny (model PySem.Challenge.rw_un0024_01.row.prog w) ((AR dp un gd outer).deeper (envOfC qual scope L' f cdv)) (execs body (envOfC qual scope L' f cdv)) (fun fl s' => R (.ok (.ret (match fl with | .ret v => v | _ => .none))) s')
        (fun e s' => wpAny (model PySem.Challenge.rw_un0024_01.row.prog w) ((AR dp un gd outer).deeper (envOfC qual scope L' f cdv)) (leaving (envOfC qual scope L' f cdv) e) (fun _ s'' => R (.error e) s'') (fun e' s'' => R (.error e') s'') s')
        { s with heap := h₁, toks := tk })
    (hco : scope.isCoroutine = false) (hgen : scope.isGenerator = false) (hk : scope.kind = .function) :
    codeAny (model PySem.Challenge.rw_un0024_01.row.prog w) (AR dp un gd outer) (.call (.ref f) args) R s := by
  have Ts := T.sub hg
  have kg := sub_hide hg hown
  obtain ⟨b0, B⟩ := (T.sub kg).below
  obtain ⟨p, loose, mean, mg, mb, T'⟩ := (T.sub kg).top
  obtain ⟨_, _, _, _, _, Th⟩ := Ts.top
  have hd1 : dp + (d + 1) < recursionLimit := T.depth
  refine codeAny_call_function (fd := fnX name qual params body scope [] dV kV doc pm an cdv ct) (body := body) (by show dp < recursionLimit; omega) ho rfl hco hgen rfl (codeRec_of Ts.K hcd) (hbind _ _ _ _ ?_)
  refine wpAny_newFunctionEnv_cells hk (kindsX hkind _) fun env' he s' x => ?_
  subst he
  refine ⟨Th.nolimit.keeps x.toInCall.keep, codeAny_func ?_⟩
  obtain ⟨h₁, tk, rfl, _⟩ := x.done
  have hk₁ := x.toInCall.keep
  obtain ⟨cells, NC, Y⟩ := Cl.news (h₀ := s.heap) (Nat.le_refl _) fun n c hm => ⟨x.cell n c (lookup_of_mem_nodup (cellsFrom_names scope.names 0 (s.heap.objs.size + 1) [] [] rfl ▸ hnd) hm), x.above n c hm⟩
  refine h _ _ h₁ tk cells b0 p loose mean mg mb B (T.sub kg).K T' T.depth T.units kg (fun b o nb e => hideAll_get _ e nb) ⟨x.toInCall.ns, fun b o e => hk₁ b o (of_hideAll _ e), Nat.le_of_eq (hideAll_size _ _)⟩ (fun q hp => ?_) Y fun q hp => Heap.lt_size (hown q hp).1
  rcases List.mem_append.mp hp with hp | hp
  · refine ⟨(NC q hp).1, (NC q hp).2.1, ?_⟩
    cases e : (hideAll s.heap (own.map (·.1))).get? q.1 with
    | none => rfl
    | some o => have := of_hideAll _ e; rw [(NC q hp).2.2] at this; cases this
  · exact ⟨hk₁ _ _ (hown q hp).1, Nat.ne_of_lt (Heap.lt_size (hown q hp).1), hideAll_none _ (List.mem_map_of_mem hp)⟩
theorem enterCK (T : At w (d + 1) dp un gd outer g) (hg : Sub g s.heap) (hown : OwnAt g s.heap own)
    (ho : (hd.heap_1 w.params).lookup f = some ⟨oc, od, .func (fnOf name qual params body scope dV kV doc pm an cdv ct), osl⟩) (hcd : codeIn (hd.heap_1 w.params) cdv qual = true)
    (hbind : BindsTo s (fnOf name qual params body scope dV kV doc pm an cdv ct) args binds)
    (hkind : (binds.all fun y => scope.names.lookup y.1 == some .local || scope.names.lookup y.1 == some .cell) = true) (hnd : ((cellsFrom 0 scope.names []).map (·.1)).Nodup)
    (h : ∀ L' base h₁ tk cells b0 p loose mean mg mb, Below (AR dp un gd outer) b0 outer base → (hd.heap_1 w.params).In base → Top p loose mean mg mb base → dp + (d + 1) < recursionLimit → un + 8 * (d + 1) < cLine → Sub g base →
      (∀ b o, b ∉ own.map (·.1) → s.heap.get? b = some o → base.get? b = some o) → Fr base L' h₁ (bindL (envOfC qual scope L' f cdv).kindOf binds fun _ => none) → News base L' h₁ (cells ++ own) →
      CellsAre (bindC (envOfC qual scope L' f cdv).kindOf binds fun _ => none) (cellsFrom (L' + 1) scope.names []) cells → (∀ p ∈ own, p.1 < L') →
      wpAny (model PySem.Challenge.rw_un0024_01.row.prog w) ((AR dp un gd outer).deeper (envOfC qual scope L' f cdv)) (execs body (envOfC qual scope L' f cdv)) (fun fl s' => R (.ok (.ret (match fl with | .ret v => v | _ => .none))) s')
        (fun e s' => wpAny (model PySem.Challenge.rw_un0024_01.row.prog w) ((AR dp un gd outer).deeper (envOfC qual scope L' f cdv)) (leaving (envOfC qual scope L' f cdv) e) (fun _ s'' => R (.error e) s'') (fun e' s'' => R (.error e') s'') s')
        { s with heap := h₁, toks := tk })
    (hco : scope.isCoroutine = false) (hgen : scope.isGenerator = false) (hk : scope.kind = .function) :
    codeAny (model PySem.Challenge.rw_un0024_01.row.prog w) (AR dp un gd outer) (.call (.ref f) args) R s :=
  enterC T hg hown ((T.K.keeps hg) _ _ ho) hcd hbind hkind hnd h hco hgen hk
end

/-- a contract of a def that changes nothing that stood: d frames deep -/
abbrev PCon (w : World) (d : Nat) (f : Addr) (vs : List Value) (R : Tok → Value) : Prop :=
  ∀ (dp un : Nat) (gd : Option (List Code)) (outer : List Env) (g : Heap) (s : Shared) (Q E : Value → Shared → Prop), At w d dp un gd outer g → Sub g s.heap →
    (∀ (t : Tok) (h' : Heap) (tk' : Nat), Sub s.heap h' → Q (R t) { s with heap := h', toks := tk' }) → wpAny (model PySem.Challenge.rw_un0024_01.row.prog w) (AR dp un gd outer) (call (.ref f) vs) Q E s

section
variable {w : World} {d dp un : Nat} {gd : Option (List Code)} {outer : List Env} {b0 h₀ : Heap} {s : Shared} {news : List (Addr × Obj)} {L : Addr} {m : Str → Option Value} {p : Program} {loose : List Str} {mean : ExcName → Option Value} {mg mb : Str → Option Value} {env : Env}
/-- from a frame: what a call out of it stands on -/
theorem at_frame (B : Below (AR dp un gd outer) b0 outer h₀) (F : Fr h₀ L s.heap m) (X : (hd.heap_1 w.params).In h₀) (N : News h₀ L s.heap news) (T : Top p loose mean mg mb h₀) (hf : env.frame = some L) (hk : env.scope.kind = .function)
    (hd1 : dp + 1 + d < recursionLimit) (hu : un + 3 + 8 * d < cLine) :
    At w d (dp + 1) (un + 3) gd (env :: outer) (hideAll s.heap (news.map (·.1))) ∧ Sub h₀ (hideAll s.heap (news.map (·.1))) ∧ OwnAt (hideAll s.heap (news.map (·.1))) s.heap news := by
  obtain ⟨_, BG, st, _⟩ := groundX (A := AR (dp + 1) (un + 3) gd (env :: outer)) (R := fun _ _ => True) B F N rfl hf hk
  exact ⟨⟨⟨_, BG⟩, X.keeps st, ⟨_, _, _, _, _, T.keeps st⟩, hd1, hu⟩, st, fun q hp => ⟨(N q hp).1, hideAll_none _ (List.mem_map_of_mem hp)⟩⟩
theorem PCon.use {cn : Str} {cs : Scope} {a : Addr} {ccd : Value} {cl : List (Str × Addr)} {f : Addr} {vs : List Value} {R : Tok → Value} {Q E : Value → Shared → Prop}
    (C : PCon w d f vs R) (B : Below (AR dp un gd outer) b0 outer h₀) (F : Fr h₀ L s.heap m) (X : (hd.heap_1 w.params).In h₀) (N : News h₀ L s.heap news) (T : Top p loose mean mg mb h₀) (hk : cs.kind = .function)
    (hd1 : dp + 1 + d < recursionLimit) (hu : un + 3 + 8 * d < cLine) (ret : ∀ (t : Tok) (h' : Heap) (tk' : Nat), Fr h₀ L h' m → News h₀ L h' news → Q (R t) { s with heap := h', toks := tk' }) :
    wpAny (model PySem.Challenge.rw_un0024_01.row.prog w) ((AR dp un gd outer).deeper (envX cn cs L a ccd cl)) (call (.ref f) vs) Q E s := by
  obtain ⟨Ta, _, _⟩ := at_frame (env := envX cn cs L a ccd cl) (d := d) B F X N T rfl hk hd1 hu
  exact C (dp + 1) (un + 3) gd (envX cn cs L a ccd cl :: outer) _ s Q E Ta (fun b o e => of_hideAll _ e) fun t h' tk' k => ret t h' tk' (F.keeps k) (N.grown k)
end
end Mine
end

section
-- T1
open PySem PySem.W PyProof.Rows PySem.Builtin PySem.Builtin.Str
set_option Elab.async false
namespace Mine
def S (l : List Nat) : Str := ⟨l.toArray⟩
theorem S_list (l : List Nat) : (S l).cps.toList = l := rfl
theorem S_len (l : List Nat) : (S l).length = l.length := by simp [S, Str.length]
theorem S_app (a b : List Nat) : S a ++ S b = S (a ++ b) := by
  apply PySem.Str.ext'
  simp [S, PySem.Str.cps_append]
theorem slash : Str.ofString "/" = S [47] := by decide
theorem sliceText_eq (x : Str) (l u : Option Int) : Txt.slice x l u = StrLaws.sliceText x l u := rfl

theorem rfind_last (a b : List Nat) (h : 47 ∉ b) : Txt.rfind (S (a ++ 47 :: b)) (S [47]) = (a.length : Int) := by
  have key := fun i => StrLaws.subAt_one (S (a ++ 47 :: b)) 47 i
  unfold Txt.rfind
  rcases StrLaws.last_spec (S (a ++ 47 :: b)) (S [47]) with ⟨e, hn⟩ | ⟨i, e, hi, hn⟩
  · exact absurd ((key a.length).mpr (by simp [S])) (hn a.length)
  · rw [e]
    show (i : Int) = a.length
    have h1 : (a ++ 47 :: b)[i]? = some 47 := (key i).mp hi
    have h2 : ¬ i < a.length := fun q => hn a.length q ((key a.length).mpr (by simp [S]))
    have h3 : i = a.length := by
      rcases Nat.lt_or_ge a.length i with q | q
      · exfalso
        rw [List.getElem?_append_right (Nat.le_of_lt q)] at h1
        obtain ⟨k, hk⟩ : ∃ k, i - a.length = k + 1 := ⟨i - a.length - 1, by omega⟩
        rw [hk, List.getElem?_cons_succ] at h1
        exact h (List.mem_of_getElem? h1)
      · omega
    rw [h3]
theorem slice_from (a b : List Nat) : Txt.slice (S (a ++ b)) (some (a.length : Int)) none = S b := by
  rw [sliceText_eq, StrLaws.sliceText_from ⟨by omega, by rw [S_list, List.length_append]; omega⟩]
  rw [S_list]
  unfold S
  congr 2
  have e : (((a ++ b).length : Int) - (a.length : Int)).toNat = b.length := by rw [List.length_append]; omega
  rw [e]
  simp
theorem slice_to (a b : List Nat) : Txt.slice (S (a ++ b)) none (some (a.length : Int)) = S a := by
  rw [sliceText_eq, StrLaws.sliceText_to ⟨by omega, by rw [S_list, List.length_append]; omega⟩]
  rw [S_list]
  unfold S
  congr 2
  simp
theorem rstrip1 (a : List Nat) (c : Nat) (hc : c ≠ 47) : Txt.rstripChars (S (a ++ [c, 47])) (S [47]) = S (a ++ [c]) := by
  unfold Txt.rstripChars Txt.stripBy PySem.stripSame PySem.stripped
  have hlo : PySem.stripLo (S [47]).cps.contains false (S (a ++ [c, 47])) = 0 := rfl
  have hhi : PySem.stripHi (S [47]).cps.contains true (S (a ++ [c, 47])) 0 = a.length + 1 := by
    unfold PySem.stripHi
    rw [S_list, S_len]
    have e : (a ++ [c, 47]).reverse = 47 :: c :: a.reverse := by simp
    simp only [if_true, List.drop_zero, e]
    have e1 : (S [47]).cps.contains 47 = true := by simp [S]
    have e2 : (S [47]).cps.contains c = false := by simp [S, hc]
    rw [List.takeWhile_cons, e1, if_pos rfl, List.takeWhile_cons, e2]
    simp
  rw [hlo, hhi, S_len]
  have hne : ((0 : Nat) == 0 && a.length + 1 == (a ++ [c, 47]).length) = false := by simp
  rw [hne]
  show strSub (S (a ++ [c, 47])) 0 (a.length + 1) = _
  apply PySem.Str.ext'
  apply Array.ext'
  rw [StrLaws.strSub_toList, S_list, S_list]
  simp [List.take_append]
  exact List.take_of_length_le (by omega)
theorem mem_mul (n : Int) (c : Nat) (h : c ∈ (Txt.mul (S [47]) n).cps.toList) : c = 47 := by
  have g : ∀ (k : Nat) (acc : Array Nat), ((List.replicate k (S [47]).cps).foldl (· ++ ·) acc).toList = acc.toList ++ List.replicate k 47 := by
    intro k
    induction k with
    | zero => intro acc; simp
    | succ k ih => intro acc; rw [List.replicate_succ, List.foldl_cons, ih]; simp [S, List.replicate_succ]
  unfold Txt.mul at h
  split at h
  · simp [Str.empty] at h
  · split at h
    · rw [S_list] at h; simpa using h
    · rw [g] at h
      simp at h
      exact h.2
theorem starts_slash (c : Nat) (a : List Nat) (hc : c ≠ 47) : Txt.startswith (S (c :: a)) (S [47]) = false := by
  unfold Txt.startswith
  rw [StrLaws.subAt_eq, S_list, S_len, S_len, S_list]
  simp [hc]
theorem ends_slash (a : List Nat) (c : Nat) (hc : c ≠ 47) : Txt.endswith (S (a ++ [c])) (S [47]) = false := by
  unfold Txt.endswith
  rw [StrLaws.subAt_eq, S_list, S_len, S_len, S_list]
  simp [hc]
end Mine
end

section
-- I8
open PySem PySem.W PySem.W.X PySem.Calls PySem.NumText PyProof.Rows PySem.Builtin PySem.Builtin.Str
set_option Elab.async false
set_option maxRecDepth 100000
set_option maxHeartbeats 8000000
namespace Mine
theorem typeCall8 (a b : Value) : checkTypeCall "int" ⟨[a, b], []⟩ = pure () := by kernel_rfl
theorem newCall8 (a b : Value) : checkBuiltinCall "int.__new__" ⟨[.type "int", a, b], []⟩ = pure () := by kernel_rfl
theorem initArgs8 (a b c : Value) : argsOk "object.__init__" ⟨[a, b, c], []⟩ := by unfold argsOk; kernel_rfl

theorem wp_text8 {M : Model} {A : Around} {E : Value → Shared → Prop} {s : Shared} {Q : Value → Shared → Prop} {v : Value} {text : List Nat} {n : Int}
    (hs : (text.takeWhile (· != 0)).length ≤ 640) (hr : (int_private% "readNumeral") 0 8 (text.takeWhile (· != 0)) = (int_private% "Numeral.value") n)
    (ha : ((text.takeWhile (· != 0)).length == text.length) = true) (h : Q (.int n s.toks) { s with toks := s.toks + 1 }) :
    wpAny M A ((int_private% "intFromText") v text 8) Q E s := by
  obtain ⟨hp, g, d, tk, os⟩ := s
  repeat (any_goals (first
    | assumption
    | (with_reducible refine wpAny_ite_true (decide_eq_true hs) ?_)
    | (with_reducible refine wpAny_ite_true (decide_eq_true ha) ?_)
    | wp_step))
  all_goals (try rw [hr])
  all_goals (try dsimp only)
  repeat (any_goals (first
    | assumption
    | (with_reducible refine wpAny_ite_true (decide_eq_true hs) ?_)
    | (with_reducible refine wpAny_ite_true (decide_eq_true ha) ?_)
    | wp_step))

structure Hid8 (p : Prop) : Prop where
  out : p
theorem gives_text8 {x : PySem.Str} {u v : Tok} {n : Int} (hs : (numSeenOf x).length ≤ 640) (hr : (int_private% "readNumeral") 0 8 (numSeenOf x) = (int_private% "Numeral.value") n) (ha : ((numSeenOf x).length == (numTextOf x).length) = true) :
    Gives (Builtin.«int.__new__» ⟨[.type "int", .str x u, .int 8 v], []⟩) (.int n) :=
  .of_wp fun M A E s Q h => by
    obtain ⟨hp, g, d, tk, os⟩ := s
    have f1 := F.conv_sub_int
    have f2 := F.madeHere_int
    have f6 : typeOf (.str x u) = pure (.type "str") := rfl
    have hk := Hid8.mk (And.intro hs (And.intro hr ha))
    clear hs hr ha
    repeat (any_goals (first
      | assumption
      | ((with_reducible show wpAny _ _ ((int_private% "intFromText") _ _ _) _ _ _); refine wp_text8 hk.out.1 hk.out.2.1 hk.out.2.2 ?_)
      | wp_step))
    all_goals first | exact ⟨_, rfl, h⟩ | skip
theorem call_int8 {prog : Program} {w : World} {A : Around} {E : Value → Shared → Prop} {s : Shared} {Q : Value → Shared → Prop} {x : PySem.Str} {t u : Tok} {n : Int}
    (hs : (numSeenOf x).length ≤ 640) (hr : (int_private% "readNumeral") 0 8 (numSeenOf x) = (int_private% "Numeral.value") n) (ha : ((numSeenOf x).length == (numTextOf x).length) = true)
    (h : Q (.int n s.toks) { s with toks := s.toks + 1 }) : wpAny (model prog w) A (call (.type "int") [.str x t, .int 8 u]) Q E s :=
  callType_new F.called_int F.newNe_int (typeCall8 _ _) (newCall8 _ _) (fun obj => initArgs8 obj _ _) F.entry_int_new (gives_text8 hs hr ha).meets (show (Made.int n).post _ s from ⟨rfl, h⟩)
end Mine
end

section
-- T2
open PySem PySem.W PySem.W.X PySem.Calls PySem.NumText PyProof.Rows PySem.Builtin PySem.Builtin.Str
set_option Elab.async false
set_option maxRecDepth 100000
namespace Mine
def octL (n : Nat) : List Nat := (Nat.toDigits 8 n).map Char.toNat
def Oct (l : List Nat) : Prop := ∀ c ∈ l, 48 ≤ c ∧ c ≤ 55
def octV (l : List Nat) : Nat := l.foldl (fun acc c => acc * 8 + (c - 48)) 0
theorem octChar : ∀ d : Nat, d < 8 → (Nat.digitChar d).toNat = 48 + d := by decide
theorem octL_small {d : Nat} (h : d < 8) : octL d = [48 + d] := by
  unfold octL
  rw [Nat.toDigits_of_lt_base h, List.map_cons, octChar d h, List.map_nil]
theorem octL_big {n : Nat} (h : 8 ≤ n) : octL n = octL (n / 8) ++ [48 + n % 8] := by
  have hm : n % 8 < 8 := Nat.mod_lt n (by decide)
  have t : Nat.toDigits 8 (n / 8) ++ Nat.toDigits 8 (n % 8) = Nat.toDigits 8 (8 * (n / 8) + n % 8) := Nat.toDigits_append_toDigits (by decide) (by omega) hm
  rw [Nat.div_add_mod] at t
  unfold octL
  rw [← t, List.map_append, Nat.toDigits_of_lt_base hm, List.map_cons, List.map_nil, octChar _ hm]
theorem octL_oct (n : Nat) : Oct (octL n) := by
  induction n using Nat.strongRecOn with
  | _ n ih =>
    by_cases h : n < 8
    · rw [octL_small h]; intro c hc; rw [List.mem_singleton.mp hc]; omega
    · rw [octL_big (by omega)]
      intro c hc
      rcases List.mem_append.mp hc with hc | hc
      · exact ih (n / 8) (by omega) c hc
      · rw [List.mem_singleton.mp hc]; omega
theorem octL_val (n : Nat) : octV (octL n) = n := by
  induction n using Nat.strongRecOn with
  | _ n ih =>
    by_cases h : n < 8
    · rw [octL_small h]; show 0 * 8 + (48 + n - 48) = n; omega
    · rw [octL_big (by omega)]
      unfold octV
      rw [List.foldl_append]
      show octV (octL (n / 8)) * 8 + (48 + n % 8 - 48) = n
      rw [ih (n / 8) (by omega)]
      omega
theorem octL_ne (n : Nat) : octL n ≠ [] := by
  intro e
  unfold octL at e
  exact Nat.toDigits_ne_nil (List.map_eq_nil_iff.mp e)
theorem octL_len {n k : Nat} (hk : 0 < k) (h : n < 8 ^ k) : (octL n).length ≤ k := by
  unfold octL
  rw [List.length_map]
  exact (Nat.length_toDigits_le_iff (by decide) hk).mpr h
theorem Oct.rev {l : List Nat} (h : Oct l) : Oct l.reverse := fun c hc => h c (List.mem_reverse.mp hc)
theorem Oct.drop {l : List Nat} (h : Oct l) : l.dropWhile blank = l := by
  cases l with
  | nil => rfl
  | cons c r =>
    have := h c (List.mem_cons_self ..)
    exact NumText.dropWhile_of (by omega)
theorem Oct.fold : ∀ (l : List Nat) (ds : Array Nat) (b : Bool), Oct l → l ≠ [] → l.foldlM (NumText.step 8) (ds, b) = some (l.foldl (fun acc c => acc.push (c - 48)) ds, true)
  | [], _, _, _, h => absurd rfl h
  | c :: r, ds, b, h, _ => by
    have hc := h c (List.mem_cons_self ..)
    have e : NumText.step 8 (ds, b) c = some (ds.push (c - 48), true) := by
      unfold NumText.step
      have e1 : (c == 95) = false := by simp; omega
      rw [e1, digit_of ⟨hc.1, by omega⟩]
      simp only [Bool.false_eq_true, if_false]
      rw [if_pos (by omega)]
    rw [List.foldlM_cons, e]
    show r.foldlM (NumText.step 8) (ds.push (c - 48), true) = _
    by_cases hr : r = []
    · subst hr; rfl
    · exact Oct.fold r _ _ (fun d hd => h d (List.mem_cons_of_mem _ hd)) hr
theorem oct_push (l : List Nat) : ∀ (ds : Array Nat), (l.foldl (fun acc c => acc.push (c - 48)) ds).foldl (fun acc d => acc * 8 + d) 0 = l.foldl (fun acc c => acc * 8 + (c - 48)) (ds.foldl (fun acc d => acc * 8 + d) 0) := by
  induction l with
  | nil => intro ds; rfl
  | cons c r ih => intro ds; rw [List.foldl_cons, ih, List.foldl_cons]; simp
theorem oct_prefix {l : List Nat} (h : Oct l) : prefix? l = none := by
  unfold prefix?
  split
  · rename_i c r
    have hc := h c (by simp)
    have e1 : (c == 120 || c == 88) = false := by simp; omega
    have e2 : (c == 111 || c == 79) = false := by simp; omega
    have e3 : (c == 98 || c == 66) = false := by simp; omega
    rw [e1, e2, e3]; rfl
  · rfl
theorem oct_read {l : List Nat} (h : Oct l) (hne : l ≠ []) : (int_private% "readNumeral") 0 8 l = (int_private% "Numeral.value") ((octV l : Nat) : Int) := by
  rw [NumText.readNumeral_eq, h.drop]
  have hs : sign l = (false, l) := by
    cases l with
    | nil => exact absurd rfl hne
    | cons c r =>
      have := h c (List.mem_cons_self ..)
      exact NumText.sign_of (by omega) (by omega)
  rw [hs]
  have hb : based 8 l = (8, false, l) := by
    unfold based
    rw [oct_prefix h]
    rfl
  dsimp only
  rw [hb]
  dsimp only
  rw [h.rev.drop, List.reverse_reverse]
  have hd : digits? 8 l = some (l.foldl (fun acc c => acc.push (c - 48)) #[]) := by
    unfold digits?
    rw [Oct.fold l _ _ h hne]
    rfl
  rw [hd]
  have hv := oct_push l #[]
  show (int_private% "Numeral.value") (((l.foldl (fun acc c => acc.push (c - 48)) #[]).foldl (fun acc d => acc * 8 + d) 0 : Nat) : Int) = _
  rw [hv]
  rfl
theorem oct_seen {l : List Nat} (h : Oct l) : numTextOf (S l) = l ∧ numSeenOf (S l) = l := by
  have e1 : numTextOf (S l) = l := by
    unfold numTextOf
    have : (S l).cps.all (· < 128) = true := by
      rw [← Array.all_toList, S_list, List.all_eq_true]
      intro c hc
      have := h c hc
      simp; omega
    rw [if_pos this, S_list]
  refine ⟨e1, ?_⟩
  unfold numSeenOf
  rw [e1]
  exact NumText.takeWhile_all fun c hc => by have := h c hc; simp; omega
theorem call_oct {prog : Program} {w : World} {A : Around} {E : Value → Shared → Prop} {s : Shared} {Q : Value → Shared → Prop} {l : List Nat} {t u : Tok}
    (h : Oct l) (hne : l ≠ []) (hl : l.length ≤ 640) (hq : Q (.int ((octV l : Nat) : Int) s.toks) { s with toks := s.toks + 1 }) : wpAny (model prog w) A (call (.type "int") [.str (S l) t, .int 8 u]) Q E s := by
  obtain ⟨e1, e2⟩ := oct_seen h
  exact call_int8 (by rw [e2]; exact hl) (by rw [e2]; exact oct_read h hne) (by rw [e1, e2]; simp) hq
end Mine
end

section
-- M1
open PySem PySem.W PySem.W.X PySem.Calls PyProof.Rows
set_option Elab.async false
set_option maxRecDepth 100000
set_option maxHeartbeats 8000000
namespace Mine
section
local macro_rules | `(tactic| x_close) => `(tactic| first | (refine Post.mk' (by assumption) rfl ?_; first | trivial | rfl) | (refine Post.same ?_; first | trivial | rfl))
theorem x_issub {w : World} {A : Around} {E : Value → Shared → Prop} {D : Addr} {s : Shared} (hD : s.heap.get? D = some { cls := Value.type "tuple", data := Data.seq #[Value.type "str", Value.type "bytes"] }) :
    wpAny (model PySem.Challenge.rw_un0024_01.row.prog w) A (call (.builtin "issubclass") [.type "str", .ref D]) (Post s (· = .bool true)) E s := by
  x_run
end
local macro_rules | `(tactic| walk_at "call builtin:issubclass") => `(tactic| (k_here; (with_reducible show wpAny _ _ (call (Value.builtin "issubclass") [Value.type "str", Value.ref _]) _ _ _); (refine' lift_pure (x_issub (News.get ?n ?q)) ?f ?n ?_; (case n | f => k_asm); (case q => k_mem)); (intro v' h' tk' e' F' N'; subst e'; try k_fold)))
theorem fspath_c (w : World) (x : Str) (t0 : Tok) : PCon w 1 136 [.str x t0] (fun t => .str x t) := by
  w_top off
  intro dp un gd outer g s Q E T hg hret
  have KX := T.K.keeps hg
  revert KX
  k_fill
  intro KX
  refine wpAny_call ?_
  clear KX
  k_dflt (refine' enterPK T hg OwnAt.nil ?k6 ?k7 ?k9 ?kB ?_ ?c5 ?c2 ?c3 ?c4; (case k6 => k_is); (case k7 => k_is); (case k9 => exact BindsTo.of_eq rfl); (case kB => exact locs rfl); (case c5 => decide); (case c2 => exact rfl); (case c3 => exact rfl); (case c4 => exact rfl); k_whole)
  intro L' base h' b0 p loose mean mg mb B' X' T' r1 r2 kg kb F' N'
  (try dsimp only)
  (try k_fold)
  k_steps
  all_goals exact hret _ _ _ (p_end kb (by assumption))
theorem sep_c (w : World) (x : Str) (t0 : Tok) : PCon w 1 150 [.str x t0] (fun t => .str (Str.ofString "/") t) := by
  intro dp un gd outer g s Q E T hg hret
  have KX := T.K.keeps hg
  revert KX
  k_fill
  intro KX
  refine wpAny_call ?_
  clear KX
  k_dflt (refine' enterPK T hg OwnAt.nil ?k6 ?k7 ?k9 ?kB ?_ ?c5 ?c2 ?c3 ?c4; (case k6 => k_is); (case k7 => k_is); (case k9 => exact BindsTo.of_eq rfl); (case kB => exact locs rfl); (case c5 => decide); (case c2 => exact rfl); (case c3 => exact rfl); (case c4 => exact rfl); k_whole)
  intro L' base h' b0 p loose mean mg mb B' X' T' r1 r2 kg kb F' N'
  (try dsimp only)
  (try k_fold)
  k_steps
  all_goals exact hret _ _ _ (p_end kb (by assumption))
theorem imode_c (w : World) (x : Int) (t0 : Tok) : PCon w 1 178 [.int x t0] (fun t => .int (Builtin.bitAnd x 4095) t) := by
  intro dp un gd outer g s Q E T hg hret
  have KX := T.K.keeps hg
  revert KX
  k_fill
  intro KX
  refine wpAny_call ?_
  clear KX
  k_dflt (refine' enterPK T hg OwnAt.nil ?k6 ?k7 ?k9 ?kB ?_ ?c5 ?c2 ?c3 ?c4; (case k6 => k_is); (case k7 => k_is); (case k9 => exact BindsTo.of_eq rfl); (case kB => exact locs rfl); (case c5 => decide); (case c2 => exact rfl); (case c3 => exact rfl); (case c4 => exact rfl); k_whole)
  intro L' base h' b0 p loose mean mg mb B' X' T' r1 r2 kg kb F' N'
  (try dsimp only)
  (try k_fold)
  k_steps
  all_goals exact hret _ _ _ (p_end kb (by assumption))
end Mine
end

section
-- M2
open PySem PySem.W PySem.W.X PySem.Calls PyProof.Rows
set_option Elab.async false
set_option maxRecDepth 100000
set_option maxHeartbeats 8000000
namespace Mine
section
variable {prog : Program} {w : World} {A : Around} {E : Value → Shared → Prop} {s : Shared} {value slice : Expr} {x y z : Str} {t u : Tok} {h₀ : Heap} {L : Addr} {m : Str → Option Value} {news : List (Addr × Obj)} {Q : Value → Shared → Prop} {Q' : Bool → Shared → Prop}
theorem rfind_is {i : Int} (e : Txt.rfind x y = i) (h : ∀ t k, Q (.int i t) { s with toks := k }) : wpAny (model prog w) A (call (.builtin "str.rfind") [.str x t, .str y u]) Q E s := by
  subst e
  exact SC.rfind (h _ _)
theorem slice_from_is {i : Int} {ui : Tok} (hF : Fr h₀ L s.heap m) (hN : News h₀ L s.heap news) (e : Txt.slice x (some i) none = z) (hsz : x.length ≤ 1000) (h : ∀ h' t' k, Fr h₀ L h' m → News h₀ L h' news → Q (.str z t') { s with heap := h', toks := k })
    (hs : subscripted slice false (.str x t) (.ref s.heap.objs.size) = operate [.ref s.heap.objs.size, .str x t] (getItem (.str x t) (.ref s.heap.objs.size)) := by with_unfolding_all rfl)
    (ht : ∀ r, letTemporaryGo value (.str x t) r = pure () := by intro _; with_unfolding_all rfl) :
    wpAny (model prog w) A (subscriptTail value slice (.str x t) (.ref s.heap.objs.size)) Q E { s with heap := s.heap.push { cls := .type "slice", data := .fields #[.int i ui, .none, .none] } } := by
  subst e
  exact slice_strN_sn hF hN h hs ht (Nat.le_trans hsz (by decide))
theorem slice_to_is {i : Int} {ui : Tok} (hF : Fr h₀ L s.heap m) (hN : News h₀ L s.heap news) (e : Txt.slice x none (some i) = z) (hsz : x.length ≤ 1000) (h : ∀ h' t' k, Fr h₀ L h' m → News h₀ L h' news → Q (.str z t') { s with heap := h', toks := k })
    (hs : subscripted slice false (.str x t) (.ref s.heap.objs.size) = operate [.ref s.heap.objs.size, .str x t] (getItem (.str x t) (.ref s.heap.objs.size)) := by with_unfolding_all rfl)
    (ht : ∀ r, letTemporaryGo value (.str x t) r = pure () := by intro _; with_unfolding_all rfl) :
    wpAny (model prog w) A (subscriptTail value slice (.str x t) (.ref s.heap.objs.size)) Q E { s with heap := s.heap.push { cls := .type "slice", data := .fields #[.none, .int i ui, .none] } } := by
  subst e
  exact slice_strN_ns hF hN h hs ht (Nat.le_trans hsz (by decide))
theorem ne_is (e : (x != y) = true) (h : Q (.bool true) s) : wpAny (model prog w) A (compareOp .NotEq (.str x t) (.str y u)) Q E s := ne_str (e ▸ h)
theorem rstrip_is (hsz : x.length ≤ 1000) (e : Txt.rstripChars x y = z) (h : ∀ t k, Q (.str z t) { s with toks := k }) : wpAny (model prog w) A (call (.builtin "str.rstrip") [.str x t, .str y u]) Q E s := by
  subst e
  exact SCL.rstripChars (hsz := Nat.le_trans hsz (by decide)) fun t k _ => h t k
theorem len_is (hsz : x.length ≤ 1000) (h : ∀ t k, Q (.int (x.length : Int) t) { s with toks := k }) : wpAny (model prog w) A (call (.builtin "len") [.str x t]) Q E s :=
  P.len_str (by omega) (h _ _)
theorem truthy_is (h1 : 1 ≤ x.length) (hsz : x.length ≤ 1000) (h : ∀ k, Q' true { s with toks := k }) : wpAny (model prog w) A (PySem.truthy (.str x t)) Q' E s :=
  KXt.truthy_pos h1 hsz (by decide) h
end
local macro_rules | `(tactic| walk_at "call builtin:str.rfind") => `(tactic| (k_here; (refine rfind_is (by assumption) ?_); intro _ _))
local macro_rules | `(tactic| walk_at "subscriptTail Name Slice str ref") => `(tactic| (k_here; (with_reducible show wpAny _ _ (subscriptTail _ (Expr.Slice (some _) none none _) _ _) _ _ _); (with_reducible rename Fr _ _ _ _ => F'); (with_reducible rename News _ _ _ _ => N'); (refine slice_from_is (s := ⟨_, _, _, _, _⟩) F' N' (by assumption) (by assumption) ?_); intro _ _ _ _ _))
local macro_rules | `(tactic| walk_at "subscriptTail Name Slice str ref") => `(tactic| (k_here; (with_reducible show wpAny _ _ (subscriptTail _ (Expr.Slice none (some _) none _) _ _) _ _ _); (with_reducible rename Fr _ _ _ _ => F'); (with_reducible rename News _ _ _ _ => N'); (refine slice_to_is (s := ⟨_, _, _, _, _⟩) F' N' (by assumption) (by assumption) ?_); intro _ _ _ _ _))
local macro_rules | `(tactic| walk_at "compareOp NotEq str str") => `(tactic| (k_here; refine ne_is (by first | assumption | solve_by_elim) ?_))
local macro_rules | `(tactic| walk_at "call builtin:str.rstrip") => `(tactic| (k_here; (refine rstrip_is (by assumption) (by assumption) ?_); intro _ _))
local macro_rules | `(tactic| walk_at "call builtin:len") => `(tactic| (k_here; (refine len_is (by assumption) ?_); intro _ _))
local macro_rules | `(tactic| walk_at "truthy str") => `(tactic| (k_here; (refine truthy_is (by assumption) (by assumption) ?_); intro _))
local macro_rules | `(tactic| walk_at "call ref") => `(tactic| (k_here; (with_reducible show wpAny _ _ (call (Value.ref 136) [Value.str _ _]) _ _ _); k_dflt (refine' PCon.use (fspath_c _ _ _) ?k1 ?k2 ?k3 ?k4 ?k5 ?k6 ?k7 ?k8 ?_; (case k1 | k2 | k3 | k4 | k5 => k_asm); (case k6 => first | exact rfl | assumption); (case k7 | k8 => omega)); (intro t9 h9 tk9 F9 N9; (try dsimp only); (try k_fold))))
local macro_rules | `(tactic| walk_at "call ref") => `(tactic| (k_here; (with_reducible show wpAny _ _ (call (Value.ref 150) [Value.str _ _]) _ _ _); k_dflt (refine' PCon.use (sep_c _ _ _) ?k1 ?k2 ?k3 ?k4 ?k5 ?k6 ?k7 ?k8 ?_; (case k1 | k2 | k3 | k4 | k5 => k_asm); (case k6 => first | exact rfl | assumption); (case k7 | k8 => omega)); (intro t9 h9 tk9 F9 N9; (try dsimp only); (try k_fold))))
theorem base_c (w : World) (x y : Str) (i : Int) (h1 : Txt.rfind x (Str.ofString "/") = i) (h2 : Txt.slice x (some (i + 1)) none = y) (hx : x.length ≤ 1000) (t0 : Tok) : PCon w 2 164 [.str x t0] (fun t => .str y t) := by
  w_top off
  intro dp un gd outer g s Q E T hg hret
  have KX := T.K.keeps hg
  revert KX
  k_fill
  intro KX
  refine wpAny_call ?_
  clear KX
  k_dflt (refine' enterPK T hg OwnAt.nil ?k6 ?k7 ?k9 ?kB ?_ ?c5 ?c2 ?c3 ?c4; (case k6 => k_is); (case k7 => k_is); (case k9 => exact BindsTo.of_eq rfl); (case kB => exact locs rfl); (case c5 => decide); (case c2 => exact rfl); (case c3 => exact rfl); (case c4 => exact rfl); k_whole)
  intro L' base h' b0 p loose mean mg mb B' X' T' r1 r2 kg kb F' N'
  (try dsimp only)
  (try k_fold)
  k_steps
  all_goals exact hret _ _ _ (p_end kb (by assumption))
theorem dir_c (w : World) (x y z : Str) (i : Int) (h1 : Txt.rfind x (Str.ofString "/") = i) (h2 : Txt.slice x none (some (i + 1)) = y) (hx : x.length ≤ 1000) (hy : y.length ≤ 1000) (h3 : 1 ≤ y.length) (h4 : ∀ n, (y != Txt.mul (Str.ofString "/") n) = true) (h5 : Txt.rstripChars y (Str.ofString "/") = z) (t0 : Tok) : PCon w 2 171 [.str x t0] (fun t => .str z t) := by
  intro dp un gd outer g s Q E T hg hret
  have KX := T.K.keeps hg
  revert KX
  k_fill
  intro KX
  refine wpAny_call ?_
  clear KX
  k_dflt (refine' enterPK T hg OwnAt.nil ?k6 ?k7 ?k9 ?kB ?_ ?c5 ?c2 ?c3 ?c4; (case k6 => k_is); (case k7 => k_is); (case k9 => exact BindsTo.of_eq rfl); (case kB => exact locs rfl); (case c5 => decide); (case c2 => exact rfl); (case c3 => exact rfl); (case c4 => exact rfl); k_whole)
  intro L' base h' b0 p loose mean mg mb B' X' T' r1 r2 kg kb F' N'
  (try dsimp only)
  (try k_fold)
  k_steps
  all_goals exact hret _ _ _ (p_end kb (by assumption))
end Mine
end

section
-- M3
open PySem PySem.W PySem.W.X PySem.Calls PyProof.Rows
set_option Elab.async false
set_option maxRecDepth 100000
set_option maxHeartbeats 8000000
namespace Mine
def dirL (o : List Nat) : List Nat := [47, 99, 97, 114, 115] ++ 47 :: o
def pathL (o c : List Nat) : List Nat := dirL o ++ 47 :: c
structure Named (o c : List Nat) : Prop where
  oct : Oct o
  ne : o ≠ []
  oc : Oct c
  cne : c ≠ []
  len : o.length ≤ 10
  clen : c.length ≤ 10
theorem Oct.slash {l : List Nat} (h : Oct l) : 47 ∉ l := fun q => by have := h 47 q; omega
theorem dirL_split {o : List Nat} (h : Oct o) (hne : o ≠ []) : ∃ a c, dirL o = 47 :: (a ++ [c]) ∧ c ≠ 47 := by
  obtain ⟨a, c, rfl⟩ : ∃ a c, o = a ++ [c] := ⟨o.dropLast, o.getLast hne, (List.dropLast_concat_getLast hne).symm⟩
  refine ⟨[99, 97, 114, 115, 47] ++ a, c, by simp [dirL], fun q => ?_⟩
  exact h.slash (q ▸ by simp)
theorem dirpath_c (w : World) {o c : List Nat} (n : Named o c) (t0 : Tok) : PCon w 2 171 [.str (S (pathL o c)) t0] (fun t => .str (S (dirL o)) t) := by
  obtain ⟨a, d, e, hd⟩ := dirL_split n.oct n.ne
  have hl : (dirL o).length = o.length + 6 := by simp [dirL]
  have e2 : dirL o ++ 47 :: c = (dirL o ++ [47]) ++ c := by simp
  have e3 : ((dirL o).length : Int) + 1 = ((dirL o ++ [47]).length : Int) := by simp
  have e4 : dirL o ++ [47] = (47 :: a) ++ [d, 47] := by rw [e]; simp
  have hn := n.len
  have hc := n.clen
  refine dir_c w (S (pathL o c)) (S (dirL o ++ [47])) (S (dirL o)) (dirL o).length (slash ▸ rfind_last _ _ n.oc.slash) ?_ ?_ ?_ ?_ (fun k => ?_) ?_ t0
  · unfold pathL
    rw [e3, e2]
    exact slice_to _ _
  · rw [S_len, pathL, List.length_append, List.length_cons, hl]; omega
  · rw [S_len, List.length_append, hl]; simp; omega
  · rw [S_len, List.length_append, hl]; simp
  · rw [slash]
    rw [bne_iff_ne]
    intro q
    have h1 : (S (dirL o ++ [47])).cps.toList[1]? = (Txt.mul (S [47]) k).cps.toList[1]? := by rw [q]
    rw [S_list] at h1
    have h2 : (dirL o ++ [47])[1]? = some 99 := rfl
    rw [h2] at h1
    have := mem_mul k 99 (List.mem_of_getElem? h1.symm)
    omega
  · rw [slash, e4, rstrip1 _ _ hd, e]
    rfl
theorem basedir_c (w : World) {o : List Nat} (h : Oct o) (hl : o.length ≤ 10) (t0 : Tok) : PCon w 2 164 [.str (S (dirL o)) t0] (fun t => .str (S o) t) := by
  refine base_c w (S (dirL o)) (S o) 5 (slash ▸ rfind_last [47, 99, 97, 114, 115] o h.slash) ?_ ?_ t0
  · have e : dirL o = [47, 99, 97, 114, 115, 47] ++ o := by simp [dirL]
    rw [e]
    exact slice_from [47, 99, 97, 114, 115, 47] o
  · rw [S_len]; simp [dirL]; omega
local macro_rules | `(tactic| walk_at "call ref") => `(tactic| (k_here; (with_reducible show wpAny _ _ (call (Value.ref 171) [Value.str (S (pathL _ _)) _]) _ _ _); k_dflt (refine' PCon.use (dirpath_c _ (by assumption) _) ?k1 ?k2 ?k3 ?k4 ?k5 ?k6 ?k7 ?k8 ?_; (case k1 | k2 | k3 | k4 | k5 => k_asm); (case k6 => first | exact rfl | assumption); (case k7 | k8 => omega)); (intro t9 h9 tk9 F9 N9; (try dsimp only); (try k_fold))))
local macro_rules | `(tactic| walk_at "call ref") => `(tactic| (k_here; (with_reducible show wpAny _ _ (call (Value.ref 164) [Value.str (S (dirL _)) _]) _ _ _); k_dflt (refine' PCon.use (basedir_c _ (by assumption) (by assumption) _) ?k1 ?k2 ?k3 ?k4 ?k5 ?k6 ?k7 ?k8 ?_; (case k1 | k2 | k3 | k4 | k5 => k_asm); (case k6 => first | exact rfl | assumption); (case k7 | k8 => omega)); (intro t9 h9 tk9 F9 N9; (try dsimp only); (try k_fold))))
local macro_rules | `(tactic| walk_at "call ref") => `(tactic| (k_here; (with_reducible show wpAny _ _ (call (Value.ref 178) [Value.int _ _]) _ _ _); k_dflt (refine' PCon.use (imode_c _ _ _) ?k1 ?k2 ?k3 ?k4 ?k5 ?k6 ?k7 ?k8 ?_; (case k1 | k2 | k3 | k4 | k5 => k_asm); (case k6 => first | exact rfl | assumption); (case k7 | k8 => omega)); (intro t9 h9 tk9 F9 N9; (try dsimp only); (try k_fold))))
local macro_rules | `(tactic| walk_at "call type:int") => `(tactic| (k_here; (with_reducible show wpAny _ _ (call (Value.type "int") [Value.str (S _) _, Value.int _ _]) _ _ _); (refine call_oct (by assumption) (by assumption) (by assumption) ?_); try k_fold))
theorem rank_c (w : World) {o c : List Nat} (n : Named o c) (t0 : Tok) : PCon w 3 192 [.str (S (pathL o c)) t0] (fun t => .int (Builtin.bitAnd (octV o : Nat) 4095) t) := by
  w_top off
  have h1 := n.oct
  have h2 := n.ne
  have h3 := n.len
  have h4 : o.length ≤ 640 := by omega
  intro dp un gd outer g s Q E T hg hret
  have KX := T.K.keeps hg
  revert KX
  k_fill
  intro KX
  refine wpAny_call ?_
  clear KX
  k_dflt (refine' enterPK T hg OwnAt.nil ?k6 ?k7 ?k9 ?kB ?_ ?c5 ?c2 ?c3 ?c4; (case k6 => k_is); (case k7 => k_is); (case k9 => exact BindsTo.of_eq rfl); (case kB => exact locs rfl); (case c5 => decide); (case c2 => exact rfl); (case c3 => exact rfl); (case c4 => exact rfl); k_whole)
  intro L' base h' b0 p loose mean mg mb B' X' T' r1 r2 kg kb F' N'
  (try dsimp only)
  (try k_fold)
  k_steps
  all_goals exact hret _ _ _ (p_end kb (by assumption))
end Mine
end

section
-- M4
open PySem PySem.W PySem.W.X PySem.Calls PyProof.Rows
set_option Elab.async false
set_option maxRecDepth 100000
set_option maxHeartbeats 8000000
namespace Mine
section
variable {w : World} {d dp un : Nat} {gd : Option (List Code)} {outer : List Env} {g : Heap} {s : Shared} {R : Result → Shared → Prop} {name qual : Str} {params : Arguments} {body : List Stmt} {scope : Scope} {dV kV doc pm cdv ct oc : Value}
  {an od : Option Addr} {osl : Array (Option Value)} {f : Addr} {args : Args} {binds : Addr → List (Str × Value)} {vs : List Value}
theorem enterRK (T : At w (d + 1) dp un gd outer g) (hg : Sub g s.heap)
    (ho : (hd.heap_1 w.params).lookup f = some ⟨oc, od, .func (fnOf name qual params body scope dV kV doc pm an cdv ct), osl⟩) (hcd : codeIn (hd.heap_1 w.params) cdv qual = true)
    (hbind : ∀ (A : Around) (E : Value → Shared → Prop) (s : Shared) (Q : List (Str × Value) → Shared → Prop), Q (binds s.heap.objs.size) { s with heap := s.heap.push { cls := .type "tuple", data := .seq vs.toArray } } → wpAny (model PySem.Challenge.rw_un0024_01.row.prog w) A (bindArgs (fnOf name qual params body scope dV kV doc pm an cdv ct) args) Q E s)
    (hloc : ∀ D, ∀ y ∈ binds D, scope.names.lookup y.1 = some .local)
    (h : ∀ D L' base h₁ b0 p loose mean mg mb, Below (AR dp un gd outer) b0 outer base → (hd.heap_1 w.params).In base → Top p loose mean mg mb base → dp + (d + 1) < recursionLimit → un + 8 * (d + 1) < cLine → Sub g base →
      Sub s.heap base → Fr base L' h₁ (fun y => (binds D).reverse.lookup y) → News base L' h₁ [(D, ({ cls := .type "tuple", data := .seq vs.toArray } : Obj))] →
      wpAny (model PySem.Challenge.rw_un0024_01.row.prog w) ((AR dp un gd outer).deeper (envOf qual scope L' f cdv)) (execs body (envOf qual scope L' f cdv)) (fun fl s' => R (.ok (.ret (match fl with | .ret v => v | _ => .none))) s')
        (fun e s' => wpAny (model PySem.Challenge.rw_un0024_01.row.prog w) ((AR dp un gd outer).deeper (envOf qual scope L' f cdv)) (leaving (envOf qual scope L' f cdv) e) (fun _ s'' => R (.error e) s'') (fun e' s'' => R (.error e') s'') s')
        { s with heap := h₁, toks := s.toks + (binds D).length })
    (hcell : ∀ x ∈ scope.names, x.2 ≠ .cell) (hco : scope.isCoroutine = false) (hgen : scope.isGenerator = false) (hk : scope.kind = .function) :
    codeAny (model PySem.Challenge.rw_un0024_01.row.prog w) (AR dp un gd outer) (.call (.ref f) args) R s := by
  have Ts := T.sub hg
  obtain ⟨b0, B⟩ := Ts.below
  obtain ⟨p, loose, mean, mg, mb, T'⟩ := Ts.top
  have hd1 : dp + (d + 1) < recursionLimit := T.depth
  refine codeAny_call_function (fd := fnOf name qual params body scope dV kV doc pm an cdv ct) (body := body) (by show dp < recursionLimit; omega) (Ts.K _ _ ho) rfl hco hgen rfl (codeRec_of Ts.K hcd) (hbind _ _ _ _ ?_)
  have push : Sub s.heap (s.heap.push { cls := .type "tuple", data := .seq vs.toArray }) := fun b o e => Heap.get?_push_of_some _ e
  refine wpAny_newFunctionEnv hcell (hloc _) (fun h₁ hns hsb => ⟨(T'.nolimit.keeps push).fresh _ hsb, codeAny_func ?_⟩) hk
  have hk₁ : ∀ b o, (s.heap.push { cls := .type "tuple", data := .seq vs.toArray }).get? b = some o → h₁.get? b = some o := fun b o e => hsb.extBut b o (Nat.ne_of_lt (Heap.lt_size e)) (Heap.get?_push_of_some _ e)
  refine h _ _ s.heap h₁ b0 p loose mean mg mb B Ts.K T' T.depth T.units hg (Sub.refl _) ⟨hns, fun b o e => hk₁ b o (push b o e), by rw [Heap.size_push]; exact Nat.le_succ _⟩ fun q hq => ?_
  rw [List.mem_singleton.mp hq]
  refine ⟨hk₁ _ _ (Heap.get?_push_size _ rfl), Nat.ne_of_lt (by rw [Heap.size_push]; exact Nat.lt_succ_self _), ?_⟩
  cases e : s.heap.get? s.heap.objs.size with
  | none => rfl
  | some o => exact absurd (Heap.lt_size e) (Nat.lt_irrefl _)
end
section
variable {prog : Program} {w : World} {A : Around} {E : Value → Shared → Prop} {s : Shared} {x y : Str} {t u : Tok} {Q : Value → Shared → Prop}
theorem starts_is {b : Bool} (e : Txt.startswith x y = b) (h : Q (.bool b) s) : wpAny (model prog w) A (call (.builtin "str.startswith") [.str x t, .str y u]) Q E s := by
  subst e
  exact SC.startswith h
theorem add_is (hx : x.length ≤ 1000) (hy : y.length ≤ 1000) (h : ∀ t' k, Q (.str (x ++ y) t') { s with toks := k }) : wpAny (model prog w) A (binaryOp .Add (.str x t) (.str y u)) Q E s :=
  add_str h (Nat.le_trans (Nat.add_le_add hx hy) (by decide))
theorem iadd_is (hx : x.length ≤ 1000) (hy : y.length ≤ 1000) (h : ∀ t' k, Q (.str (x ++ y) t') { s with toks := k }) : wpAny (model prog w) A (inplaceOp .Add (.str x t) (.str y u)) Q E s :=
  iadd_str h (Nat.le_trans (Nat.add_le_add hx hy) (by decide))
theorem ends_is {b : Bool} (e : Txt.endswith x y = b) (h : Q (.bool b) s) : wpAny (model prog w) A (call (.builtin "str.endswith") [.str x t, .str y u]) Q E s := by
  subst e
  exact SC.endswith h
end
theorem S_cars : Str.ofString "/cars" = S [47, 99, 97, 114, 115] := by decide
theorem starts_oct {o : List Nat} (h : Oct o) (hn : o ≠ []) : Txt.startswith (S o) (Str.ofString "/") = false := by
  match o, hn with
  | c :: a, _ => rw [slash]; exact starts_slash c a (fun e => by have := h c (List.mem_cons_self ..); omega)
theorem ends_oct {o : List Nat} (h : Oct o) (hn : o ≠ []) : Txt.endswith (Str.ofString "/cars" ++ (Str.ofString "/" ++ S o)) (Str.ofString "/") = false := by
  rw [S_cars, slash, S_app, S_app]
  obtain ⟨a, c, rfl⟩ : ∃ a c, o = a ++ [c] := ⟨o.dropLast, o.getLast hn, (List.dropLast_concat_getLast hn).symm⟩
  rw [← List.append_assoc, ← List.append_assoc]
  exact ends_slash _ c (fun e => by have := h c (by simp); omega)
local macro_rules | `(tactic| walk_at "call builtin:str.startswith") => `(tactic| (k_here; (refine starts_is (by assumption) ?_)))
local macro_rules | `(tactic| walk_at "call builtin:str.endswith") => `(tactic| (k_here; (refine ends_is (by assumption) ?_)))
local macro_rules | `(tactic| walk_at "truthy str") => `(tactic| (k_here; (refine truthy_is (by assumption) (by assumption) ?_); intro _))
local macro_rules | `(tactic| walk_at "binaryOp Add str str") => `(tactic| (k_here; (refine add_is (by assumption) (by assumption) ?_); intro _ _))
local macro_rules | `(tactic| walk_at "inplaceOp Add str str") => `(tactic| (k_here; (refine iadd_is (by assumption) (by assumption) ?_); intro _ _))
local macro_rules | `(tactic| walk_at "call ref") => `(tactic| (k_here; (with_reducible show wpAny _ _ (call (Value.ref 136) [Value.str _ _]) _ _ _); k_dflt (refine' PCon.use (fspath_c _ _ _) ?k1 ?k2 ?k3 ?k4 ?k5 ?k6 ?k7 ?k8 ?_; (case k1 | k2 | k3 | k4 | k5 => k_asm); (case k6 => first | exact rfl | assumption); (case k7 | k8 => omega)); (intro t9 h9 tk9 F9 N9; (try dsimp only); (try k_fold))))
local macro_rules | `(tactic| walk_at "call ref") => `(tactic| (k_here; (with_reducible show wpAny _ _ (call (Value.ref 150) [Value.str _ _]) _ _ _); k_dflt (refine' PCon.use (sep_c _ _ _) ?k1 ?k2 ?k3 ?k4 ?k5 ?k6 ?k7 ?k8 ?_; (case k1 | k2 | k3 | k4 | k5 => k_asm); (case k6 => first | exact rfl | assumption); (case k7 | k8 => omega)); (intro t9 h9 tk9 F9 N9; (try dsimp only); (try k_fold))))
theorem join_c (w : World) {o c : List Nat} (n : Named o c) (t0 t1 t2 : Tok) : PCon w 3 157 [.str (Str.ofString "/cars") t0, .str (S o) t1, .str (S c) t2] (fun t => .str (S (pathL o c)) t) := by
  w_top off
  have h1 := n.oct
  have h2 := n.ne
  have h3 := n.len
  have e1 := starts_oct n.oct n.ne
  have e2 : Txt.startswith (S c) (Str.ofString "/") = false := starts_oct n.oc n.cne
  have e3 : Txt.endswith (Str.ofString "/cars") (Str.ofString "/") = false := by decide
  have e4 := ends_oct n.oct n.ne
  have e5 : 1 ≤ (Str.ofString "/cars").length := by decide
  have e6 : (Str.ofString "/cars").length ≤ 1000 := by decide
  have e7 : 1 ≤ (Str.ofString "/cars" ++ (Str.ofString "/" ++ S o)).length := by rw [S_cars, slash, S_app, S_app, S_len]; simp
  have e8 : (Str.ofString "/cars" ++ (Str.ofString "/" ++ S o)).length ≤ 1000 := by rw [S_cars, slash, S_app, S_app, S_len]; simp; omega
  have f1 : (Str.ofString "/").length ≤ 1000 := by decide
  have f2 : (S o).length ≤ 1000 := by rw [S_len]; omega
  have f3 : (S c).length ≤ 1000 := by rw [S_len]; have := n.clen; omega
  have f4 : (Str.ofString "/" ++ S o).length ≤ 1000 := by rw [slash, S_app, S_len]; simp; omega
  have f5 : (Str.ofString "/" ++ S c).length ≤ 1000 := by rw [slash, S_app, S_len]; have := n.clen; simp; omega
  have e9 : Str.ofString "/cars" ++ (Str.ofString "/" ++ S o) ++ (Str.ofString "/" ++ S c) = S (pathL o c) := by rw [S_cars, slash, S_app, S_app, S_app, S_app]; simp [pathL, dirL]
  intro dp un gd outer g s Q E T hg hret
  have KX := T.K.keeps hg
  revert KX
  k_fill
  intro KX
  refine wpAny_call ?_
  clear KX
  k_dflt (refine' enterRK (binds := fun D => [(Str.ofString "a", .str (Str.ofString "/cars") t0), (Str.ofString "p", .ref D)]) T hg ?k6 ?k7 ?k9 ?kB ?_ ?c5 ?c2 ?c3 ?c4; (case k6 => k_is); (case k7 => k_is); (case k9 => (intro A' E' s' Q' q'; with_unfolding_all exact fun _ _ _ => q')); (case kB => exact fun _ => locs rfl); (case c5 => decide); (case c2 => exact rfl); (case c3 => exact rfl); (case c4 => exact rfl); k_whole)
  intro D L' base h' b0 p loose mean mg mb B' X' T' r1 r2 kg kb F' N'
  (try dsimp only)
  (try k_fold)
  k_steps
  all_goals rw [e9]
  all_goals exact hret _ _ _ (fun b o e => Fr.keep (by assumption) b o (kb b o e))
end Mine
end

section
-- M5
open PySem PySem.W PySem.W.X PySem.Calls PyProof.Rows
set_option Elab.async false
set_option maxRecDepth 100000
set_option maxHeartbeats 8000000
namespace Mine
inductive Chars : List Value → List Nat → Prop
  | nil : Chars [] []
  | cons (c : Nat) (t : Tok) {vs : List Value} {l : List Nat} (h : Chars vs l) : Chars (Value.str (S [c]) t :: vs) (c :: l)
theorem Chars.of_get : ∀ (vs : List Value) (l : List Nat), vs.length = l.length → (∀ (j : Nat) (v : Value), vs[j]? = some v → ∃ (c : Nat) (u : Tok), l[j]? = some c ∧ v = .str (S [c]) u) → Chars vs l
  | [], [], _, _ => .nil
  | [], _ :: _, h, _ => by simp at h
  | _ :: _, [], h, _ => by simp at h
  | v :: vs, c :: l, h, k => by
    obtain ⟨c', u, e1, rfl⟩ := k 0 v rfl
    simp at e1
    subst e1
    exact Chars.cons _ _ (Chars.of_get vs l (by simpa using h) fun j v e => by simpa using k (j + 1) v (by simpa using e))
section
variable {prog : Program} {w : World} {A : Around} {E : Value → Shared → Prop} {s : Shared} {t : Tok} {h₀ : Heap} {L : Addr} {m : Str → Option Value} {news : List (Addr × Obj)} {Q : Value → Shared → Prop}
theorem list_S {l : List Nat} (F : Fr h₀ L s.heap m) (N : News h₀ L s.heap news) (hh : A.handled = none) (hl : l.length ≤ 1000)
    (h : ∀ D c h' tk vs, Fr h₀ L h' m → News h₀ L h' ((D, listOf vs c) :: news) → (∀ p ∈ news, p.1 < D) → Chars vs.toList l → Q (.ref D) { s with heap := h', toks := tk }) :
    wpAny (model prog w) A (call (.type "list") [.str (S l) t]) Q E s := by
  refine call_list_str hh (S l) t (hn := Nat.le_trans hl (by decide)) fun h' tk acc' c' hk hS' hacc => ?_
  refine h _ c' h' tk acc' (F.keeps hk) (fun p hp => ?_) (fun p hp => Heap.lt_size (N p hp).1) (Chars.of_get _ _ (by simpa [S] using hacc.1) fun j v e => ?_)
  · rcases List.mem_cons.mp hp with rfl | hp
    · exact ⟨hS', Nat.ne_of_gt F.ns.lt, F.fresh⟩
    · exact ⟨hk _ _ (N p hp).1, (N p hp).2⟩
  · obtain ⟨c, u, e1, e2⟩ := hacc.2 j v (by simpa using e)
    exact ⟨c, u, by simpa [S] using e1, e2⟩
end
section
variable {w : World} {d dp un : Nat} {gd : Option (List Code)} {outer : List Env} {g : Heap} {s : Shared} {own : List (Addr × Obj)} {R : Result → Shared → Prop} {name qual : Str} {params : Arguments} {body : List Stmt} {scope : Scope} {cl : List (Str × Addr)} {dV kV doc pm cdv ct oc : Value}
  {an od : Option Addr} {osl : Array (Option Value)} {f : Addr} {args : Args} {binds : List (Str × Value)}
/-- into a closure whose code is no part of K -/
theorem enterF (T : At w (d + 1) dp un gd outer g) (hg : Sub g s.heap) (hown : OwnAt g s.heap own)
    (ho : s.heap.get? f = some ⟨oc, od, .func (fnX name qual params body scope cl dV kV doc pm an cdv ct), osl⟩) (hcd : s.heap.CodeRec cdv qual)
    (hbind : BindsTo s (fnX name qual params body scope cl dV kV doc pm an cdv ct) args binds) (hloc : ∀ y ∈ binds, scope.names.lookup y.1 = some .local)
    (h : ∀ L' base h₁ b0 p loose mean mg mb, Below (AR dp un gd outer) b0 outer base → (hd.heap_1 w.params).In base → Top p loose mean mg mb base → dp + (d + 1) < recursionLimit → un + 8 * (d + 1) < cLine → Sub g base →
      (∀ b o, b ∉ own.map (·.1) → s.heap.get? b = some o → base.get? b = some o) → Fr base L' h₁ (fun y => binds.reverse.lookup y) → News base L' h₁ own →
      wpAny (model PySem.Challenge.rw_un0024_01.row.prog w) ((AR dp un gd outer).deeper (envX qual scope L' f cdv cl)) (execs body (envX qual scope L' f cdv cl)) (fun fl s' => R (.ok (.ret (match fl with | .ret v => v | _ => .none))) s')
        (fun e s' => wpAny (model PySem.Challenge.rw_un0024_01.row.prog w) ((AR dp un gd outer).deeper (envX qual scope L' f cdv cl)) (leaving (envX qual scope L' f cdv cl) e) (fun _ s'' => R (.error e) s'') (fun e' s'' => R (.error e') s'') s')
        { s with heap := h₁, toks := s.toks + binds.length })
    (hcell : ∀ x ∈ scope.names, x.2 ≠ .cell) (hco : scope.isCoroutine = false) (hgen : scope.isGenerator = false) (hk : scope.kind = .function) :
    codeAny (model PySem.Challenge.rw_un0024_01.row.prog w) (AR dp un gd outer) (.call (.ref f) args) R s := by
  have Ts := T.sub hg
  have kg := sub_hide hg hown
  obtain ⟨b0, B⟩ := (T.sub kg).below
  obtain ⟨p, loose, mean, mg, mb, T'⟩ := (T.sub kg).top
  obtain ⟨_, _, _, _, _, Th⟩ := Ts.top
  have hd1 : dp + (d + 1) < recursionLimit := T.depth
  refine codeAny_call_def (fd := fnX name qual params body scope cl dV kV doc pm an cdv ct) (body := body) (binds := binds) (by show dp < recursionLimit; omega) ho rfl Th.nolimit hcd rfl hbind hcell hloc (fun h₁ hns hk₁ => ?_) hco hgen hk
  exact h _ _ h₁ b0 p loose mean mg mb B (T.sub kg).K T' T.depth T.units kg (fun b o nb e => hideAll_get _ e nb) ⟨hns, fun b o e => hk₁ b o (of_hideAll _ e), Nat.le_of_eq (hideAll_size _ _)⟩
    (fun p hp => ⟨hk₁ _ _ (hown p hp).1, Nat.ne_of_lt (Heap.lt_size (hown p hp).1), hideAll_none _ (List.mem_map_of_mem hp)⟩)
end
/-- what the closure over a list of pieces does: it takes the first one -/
def NextOk (w : World) (f : Obj) (cell : Addr) (cd : Addr) (oc : Obj) : Prop :=
  ∀ (dp un : Nat) (gd : Option (List Code)) (outer : List Env) (g : Heap) (s : Shared) (Q E : Value → Shared → Prop) (fa a : Addr) (clo : Obj) (vs : List Value) (n : Nat) (sz : Value),
    At w 1 dp un gd outer g → Sub g s.heap → s.heap.get? fa = some f → s.heap.get? cell = some clo → clo.data = .cell (some (.ref a)) → s.heap.get? a = some (listOf vs.toArray n) → s.heap.get? cd = some oc →
    g.get? cell = none → g.get? a = none → @LT.lt Nat _ cell a → vs.length ≤ 1000 →
    (vs = [] → ∀ t h' tk', Sub s.heap h' → Q (.str (Str.ofString "") t) { s with heap := h', toks := tk' }) →
    (∀ v r, vs = v :: r → ∀ n' h' tk', (∀ b o, b ≠ a → s.heap.get? b = some o → h'.get? b = some o) → h'.get? a = some (listOf r.toArray n') → Q v { s with heap := h', toks := tk' }) →
    wpAny (model PySem.Challenge.rw_un0024_01.row.prog w) (AR dp un gd outer) (call (.ref fa) [sz]) Q E s
local macro_rules | `(tactic| walk_at "call type:list") => `(tactic| (k_here; (with_reducible show wpAny _ _ (call (Value.type _) [Value.str (S _) _]) _ _ _); k_dflt (refine' list_S ?F ?N ?H ?l ?_; (case F | N => k_asm); (case H => exact rfl); (case l => assumption)); intro D' c' h' tk' vs' F' N' l1 ch'; (try k_lt l1); (try k_sweep)))
/-- one entry of an object's dict -/
abbrev ent (w : World) (n : String) (k : Tok) (v : Value) : DictEntry := ⟨PyData.keyHash w.params (Str.ofString n), .str (Str.ofString n) k, v⟩
/-- where the parts of a lexer lie -/
structure LA where
  p : Nat
  q : Nat
  d : Nat
  f : Nat
  p1 : Nat
  x1 : Nat
  d1 : Nat
  a : Nat
  cell : Nat
  cd : Nat
  fo : Obj
  oc : Obj
  clo : Obj
  k0 : Tok
  k1 : Tok
  k2 : Tok
  k3 : Tok
  t2 : Tok
  j0 : Tok
  j1 : Tok
  j2 : Tok
  j3 : Tok
  j4 : Tok
  u0 : Tok
  u2 : Tok
abbrev lexD (w : World) (x : LA) (ln : Int) (lt : Tok) (c : Nat) : Obj := dictOf [ent w "lineno" x.k0 (.int ln lt), ent w "instream" x.k1 (.ref x.x1), ent w "whitespace" x.k2 (.str (Str.ofString "\n\t\r ") x.t2), ent w "pushback" x.k3 (.ref x.p)] c
abbrev lexD1 (w : World) (x : LA) (c : Nat) : Obj := dictOf [ent w "lineno" x.j0 (.int 1 x.u0), ent w "instream" x.j1 .none, ent w "whitespace" x.j2 (.str (Str.ofString "\n\t\r ") x.u2), ent w "pushback" x.j3 (.ref x.p1), ent w "read" x.j4 (.ref x.f)] c
abbrev lexL (w : World) (x : LA) (c1 c2 c3 c4 : Nat) (ln : Int) (lt : Tok) (pb vs : List Value) : List (Addr × Obj) :=
  [(x.p, listOf pb.toArray c1), (x.q, instObj 59 x.d), (x.d, lexD w x ln lt c2), (x.f, x.fo), (x.x1, instObj 59 x.d1), (x.d1, lexD1 w x c3), (x.a, listOf vs.toArray c4), (x.cell, x.clo)]
abbrev fp (x : LA) : List Addr := [x.p, x.q, x.d, x.f, x.x1, x.d1, x.a, x.cell]
def CodeF (oc : Obj) : Prop := ∃ vs t, oc.data = .fields vs ∧ vs[1]? = some (.str (Str.ofString "_law_lexer.<locals>._law_next") t)
def IsFn (fo : Obj) : Prop := ∃ oc od fd sl, fo = ⟨oc, od, .func fd, sl⟩
structure Lex (w : World) (h : Heap) (x : LA) (pb vs : List Value) : Prop where
  parts : ∃ c1 c2 c3 c4 ln lt, ∀ e ∈ lexL w x c1 c2 c3 c4 ln lt pb vs, h.get? e.1 = some e.2
  clo : x.clo.data = .cell (some (.ref x.a))
  code : h.get? x.cd = some x.oc
  next : NextOk w x.fo x.cell x.cd x.oc
  o1 : x.cell < x.a
  o2 : x.a < x.d1
  o3 : x.d1 < x.x1
  o4 : x.x1 < x.f
  o5 : x.f < x.d
  o6 : x.d < x.q
  o7 : x.q < x.p
  ncd : ∀ e ∈ fp x, e ≠ x.cd
  fn : IsFn x.fo
abbrev tab1 (cd : Addr) : Obj := tabObj #[rawInt 151, rawInt 4, .ref cd]
section
variable {w : World} {base h : Heap} {L p q d f c p1 x1 d1 a cell : Nat} {fo clo oc o6 : Obj} {c1 c2 c3 c4 : Nat} {vs : Array Value} {k0 k1 k2 k3 t0 t2 j0 j1 j2 j3 j4 u0 u2 : Tok} {tl : List (Addr × Obj)}
theorem mem11 {α : Type} {P : α → Prop} {a1 a2 a3 a4 a5 a6 a7 a8 : α} (h1 : P a1) (h2 : P a2) (h3 : P a3) (h4 : P a4) (h5 : P a5) (h6 : P a6) (h7 : P a7) (h8 : P a8) : ∀ e ∈ [a1, a2, a3, a4, a5, a6, a7, a8], P e := by
  intro e he
  simp only [List.mem_cons, List.not_mem_nil, or_false] at he
  rcases he with rfl | rfl | rfl | rfl | rfl | rfl | rfl | rfl <;> assumption
theorem lex_fin (N : News base L h ((p, listOf #[] c1) :: (q, instObj 59 d) :: (d, dictOf [ent w "lineno" k0 (.int 1 t0), ent w "instream" k1 (.ref x1), ent w "whitespace" k2 (.str (Str.ofString "\n\t\r ") t2), ent w "pushback" k3 (.ref p)] c2) :: (f, fo) :: (c, oc) ::
      (p1, o6) :: (x1, instObj 59 d1) :: (d1, dictOf [ent w "lineno" j0 (.int 1 u0), ent w "instream" j1 .none, ent w "whitespace" j2 (.str (Str.ofString "\n\t\r ") u2), ent w "pushback" j3 (.ref p1), ent w "read" j4 (.ref f)] c3) :: (a, listOf vs c4) :: (cell, clo) :: tl))
    (k : NextOk w fo cell c oc) (hfn : IsFn fo) (hclo : clo.data = .cell (some (.ref a))) (ol : 180 < cell) (o1 : cell < a) (o2 : a < d1) (o3 : d1 < x1) (o4' : x1 < c) (o4 : c < f) (o5 : f < d) (o6 : d < q) (o7 : q < p) :
    ∃ x : LA, x.q = q ∧ x.cd = c ∧ x.oc = oc ∧ Lex w h x [] vs.toList ∧ (∀ e ∈ fp x, base.get? e = none ∧ e ≠ 180) ∧ c ≠ 180 ∧ base.get? c = none := by
  have g1 := N _ (.head _)
  have g2 := N _ (.tail _ (.head _))
  have g3 := N _ (.tail _ (.tail _ (.head _)))
  have g4 := N _ (.tail _ (.tail _ (.tail _ (.head _))))
  have g5 := N _ (.tail _ (.tail _ (.tail _ (.tail _ (.head _)))))
  have g7 := N _ (.tail _ (.tail _ (.tail _ (.tail _ (.tail _ (.tail _ (.head _)))))))
  have g8 := N _ (.tail _ (.tail _ (.tail _ (.tail _ (.tail _ (.tail _ (.tail _ (.head _))))))))
  have g9 := N _ (.tail _ (.tail _ (.tail _ (.tail _ (.tail _ (.tail _ (.tail _ (.tail _ (.head _)))))))))
  have g10 := N _ (.tail _ (.tail _ (.tail _ (.tail _ (.tail _ (.tail _ (.tail _ (.tail _ (.tail _ (.head _))))))))))
  refine ⟨⟨p, q, d, f, p1, x1, d1, a, cell, c, fo, oc, clo, k0, k1, k2, k3, t2, j0, j1, j2, j3, j4, u0, u2⟩, rfl, rfl, rfl, ?_, ?_, by omega, g5.2.2⟩
  · refine ⟨⟨c1, c2, c3, c4, 1, t0, mem11 g1.1 g2.1 g3.1 g4.1 g7.1 g8.1 ?_ g10.1⟩, hclo, g5.1, k, o1, o2, o3, by show x1 < f; omega, o5, o6, o7, ?_, ?_⟩
    · show h.get? a = some (listOf vs.toList.toArray c4)
      rw [Array.toArray_toList]
      exact g9.1
    · exact mem11 (P := fun e => e ≠ c) (by show p ≠ c; omega) (by show q ≠ c; omega) (by show d ≠ c; omega) (by show f ≠ c; omega) (by show x1 ≠ c; omega) (by show d1 ≠ c; omega) (by show a ≠ c; omega) (by show cell ≠ c; omega)
    · exact hfn
  · exact mem11 (P := fun e => base.get? e = none ∧ e ≠ 180) ⟨g1.2.2, by show p ≠ 180; omega⟩ ⟨g2.2.2, by show q ≠ 180; omega⟩ ⟨g3.2.2, by show d ≠ 180; omega⟩ ⟨g4.2.2, by show f ≠ 180; omega⟩ ⟨g7.2.2, by show x1 ≠ 180; omega⟩ ⟨g8.2.2, by show d1 ≠ 180; omega⟩ ⟨g9.2.2, by show a ≠ 180; omega⟩ ⟨g10.2.2, by show cell ≠ 180; omega⟩
theorem lex_fin1 (N : News base L h ((p, listOf #[] c1) :: (q, instObj 59 d) :: (d, dictOf [ent w "lineno" k0 (.int 1 t0), ent w "instream" k1 (.ref x1), ent w "whitespace" k2 (.str (Str.ofString "\n\t\r ") t2), ent w "pushback" k3 (.ref p)] c2) :: (f, fo) ::
      (p1, o6) :: (x1, instObj 59 d1) :: (d1, dictOf [ent w "lineno" j0 (.int 1 u0), ent w "instream" j1 .none, ent w "whitespace" j2 (.str (Str.ofString "\n\t\r ") u2), ent w "pushback" j3 (.ref p1), ent w "read" j4 (.ref f)] c3) :: (a, listOf vs c4) :: (cell, clo) :: tl))
    (hc : h.get? c = some oc) (hb : base.get? c = some oc) (k : NextOk w fo cell c oc) (hfn : IsFn fo) (hclo : clo.data = .cell (some (.ref a))) (ol : 180 < cell) (o1 : cell < a) (o2 : a < d1) (o3 : d1 < x1) (o4 : x1 < f) (o5 : f < d) (o6 : d < q) (o7 : q < p) :
    ∃ x : LA, x.q = q ∧ x.cd = c ∧ x.oc = oc ∧ Lex w h x [] vs.toList ∧ (∀ e ∈ fp x, base.get? e = none ∧ e ≠ 180) := by
  have g1 := N _ (.head _)
  have g2 := N _ (.tail _ (.head _))
  have g3 := N _ (.tail _ (.tail _ (.head _)))
  have g4 := N _ (.tail _ (.tail _ (.tail _ (.head _))))
  have g7 := N _ (.tail _ (.tail _ (.tail _ (.tail _ (.tail _ (.head _))))))
  have g8 := N _ (.tail _ (.tail _ (.tail _ (.tail _ (.tail _ (.tail _ (.head _)))))))
  have g9 := N _ (.tail _ (.tail _ (.tail _ (.tail _ (.tail _ (.tail _ (.tail _ (.head _))))))))
  have g10 := N _ (.tail _ (.tail _ (.tail _ (.tail _ (.tail _ (.tail _ (.tail _ (.tail _ (.head _)))))))))
  have no : ∀ e : Addr, base.get? e = none → e ≠ c := fun e he q => by rw [q, hb] at he; cases he
  refine ⟨⟨p, q, d, f, p1, x1, d1, a, cell, c, fo, oc, clo, k0, k1, k2, k3, t2, j0, j1, j2, j3, j4, u0, u2⟩, rfl, rfl, rfl, ?_, ?_⟩
  · refine ⟨⟨c1, c2, c3, c4, 1, t0, mem11 g1.1 g2.1 g3.1 g4.1 g7.1 g8.1 ?_ g10.1⟩, hclo, hc, k, o1, o2, o3, o4, o5, o6, o7, ?_, ?_⟩
    · show h.get? a = some (listOf vs.toList.toArray c4)
      rw [Array.toArray_toList]
      exact g9.1
    · exact mem11 (P := fun e => e ≠ c) (no _ g1.2.2) (no _ g2.2.2) (no _ g3.2.2) (no _ g4.2.2) (no _ g7.2.2) (no _ g8.2.2) (no _ g9.2.2) (no _ g10.2.2)
    · exact hfn
  · exact mem11 (P := fun e => base.get? e = none ∧ e ≠ 180) ⟨g1.2.2, by show p ≠ 180; omega⟩ ⟨g2.2.2, by show q ≠ 180; omega⟩ ⟨g3.2.2, by show d ≠ 180; omega⟩ ⟨g4.2.2, by show f ≠ 180; omega⟩ ⟨g7.2.2, by show x1 ≠ 180; omega⟩ ⟨g8.2.2, by show d1 ≠ 180; omega⟩ ⟨g9.2.2, by show a ≠ 180; omega⟩ ⟨g10.2.2, by show cell ≠ 180; omega⟩
theorem own2 {g h : Heap} {a b : Addr} {oa ob : Obj} (x : h.get? a = some oa ∧ g.get? a = none) (y : h.get? b = some ob ∧ g.get? b = none) : OwnAt g h [(a, oa), (b, ob)] := fun p hp => by
  rcases List.mem_cons.mp hp with rfl | hp
  · exact x
  · rw [List.mem_singleton.mp hp]; exact y
theorem codeRec_get {h : Heap} {oc : Obj} {vs : Array Value} {qual : Str} {t : Tok} (e : h.get? c = some oc) (hd : oc.data = .fields vs) (hv : vs[1]? = some (.str qual t)) : h.CodeRec (.ref c) qual := ⟨c, oc, vs, t, rfl, e, hd, hv⟩
end
section
variable {prog : Program} {w : World} {A : Around} {E : Value → Shared → Prop} {s : Shared} {h₀ : Heap} {L D : Addr} {m : Str → Option Value} {news news' : List (Addr × Obj)} {n : Nat} {q : List Value} {y : Value} {u : Tok} {Q : Value → Shared → Prop}
theorem pop0_K (F : Fr h₀ L s.heap m) (N : News h₀ L s.heap news) (U : Upd D (listOf (y :: q).toArray n) (listOf q.toArray (n + 1)) news news') (hz : (y :: q).length ≤ 1000)
    (h : ∀ h', Fr h₀ L h' m → News h₀ L h' news' → Q y { s with heap := h' }) : wpAny (model prog w) A (call (.builtin "list.pop") [.ref D, .int 0 u]) Q E s :=
  kl_popAt (its := (y :: q).toArray) (k := 0) (p := []) (q := q) F N rfl (by simp [seqIndex?]) (by simp [kl_cut]) U (Nat.le_trans hz (by decide)) h
end
local macro_rules | `(tactic| walk_at "call builtin:list.pop") => `(tactic| (k_here; (with_reducible show wpAny _ _ (call (Value.builtin _) [Value.ref _, Value.int 0 _]) _ _ _); k_dflt (refine' pop0_K ?F ?N ?U ?z ?_; (case F | N => k_asm); (case U => k_upd); (case z => assumption)); kl_rest))
local macro_rules | `(tactic| k_room) => `(tactic| ((try simp only [depth_under_make, depth_under_kw, depth_in1, depth_deeper, depth_caller]); omega))
theorem fresh_of {h base : Heap} {o1 : Obj} {e : Addr} (kb : ∀ b o, b ∉ ([(180, o1)] : List (Addr × Obj)).map (·.1) → h.get? b = some o → base.get? b = some o) (n : base.get? e = none) (ne : e ≠ 180) : h.get? e = none := by
  cases q : h.get? e with
  | none => rfl
  | some o => rw [kb e o (by simpa using ne) q] at n; cases n
theorem own2_end {h base h' : Heap} {L : Addr} {m : Str → Option Value} {a b : Addr} {oa ob : Obj} (kb : ∀ c o, c ∉ ([(a, oa), (b, ob)] : List (Addr × Obj)).map (·.1) → h.get? c = some o → base.get? c = some o) (F : Fr base L h' m) (N : News base L h' [(a, oa), (b, ob)])
    (ha : h.get? a = some oa) (hb : h.get? b = some ob) : Sub h h' := fun c o e => by
  by_cases q : c = a
  · subst q; rw [ha] at e; cases e; exact (N _ (.head _)).1
  · by_cases q' : c = b
    · subst q'; rw [hb] at e; cases e; exact (N _ (.tail _ (.head _))).1
    · exact F.keep c o (kb c o (by simp [q, q']) e)
theorem own2_end1 {h base h' : Heap} {L : Addr} {m : Str → Option Value} {a b : Addr} {oa oa' ob : Obj} (kb : ∀ c o, c ∉ ([(a, oa), (b, ob)] : List (Addr × Obj)).map (·.1) → h.get? c = some o → base.get? c = some o) (F : Fr base L h' m) (N : News base L h' [(a, oa'), (b, ob)])
    (hb : h.get? b = some ob) : ∀ c o, c ≠ a → h.get? c = some o → h'.get? c = some o := fun c o q e => by
  by_cases q' : c = b
  · subst q'; rw [hb] at e; cases e; exact (N _ (.tail _ (.head _))).1
  · exact F.keep c o (kb c o (by simp [q, q']) e)
theorem lexer_c0 (w : World) (l : List Nat) (hx : l.length ≤ 1000) (t0 : Tok) (dp un : Nat) (gd : Option (List Code)) (outer : List Env) (g : Heap) (s : Shared) (Q E : Value → Shared → Prop) (T : At w 3 dp un gd outer g) (hg : Sub g s.heap)
   (hC : CodeHd g 184 180) (ht : s.heap.get? 180 = some (tabObj #[])) (hn : g.get? 180 = none)
   (hret : ∀ (x : LA) (h' : Heap) (tk' : Nat) (vs : List Value), (∀ b o, b ≠ 180 → s.heap.get? b = some o → h'.get? b = some o) → h'.get? 180 = some (tab1 x.cd) → CodeF x.oc → s.heap.get? x.cd = none → x.cd ≠ 180 → Lex w h' x [] vs → Chars vs l → (∀ e ∈ fp x, s.heap.get? e = none ∧ e ≠ 180) → Q (.ref x.q) { s with heap := h', toks := tk' }) :
   wpAny (model PySem.Challenge.rw_un0024_01.row.prog w) (AR dp un gd outer) (call (.ref 185) [.str (S l) t0]) Q E s := by
  w_top off
  have KX := T.K.keeps hg
  revert KX
  k_fill
  intro KX
  refine wpAny_call ?_
  clear KX
  k_dflt (refine' enterCK (own := [(180, tabObj #[])]) T hg ?ow ?k6 ?k7 ?k9 ?kB ?kN ?_ ?c2 ?c3 ?c4; (case ow => (intro p hp; rw [List.mem_singleton.mp hp]; exact ⟨ht, hn⟩)); (case k6 => k_is); (case k7 => k_is); (case k9 => exact BindsTo.of_eq rfl); (case kB => exact rfl); (case kN => decide); (case c2 => exact rfl); (case c3 => exact rfl); (case c4 => exact rfl); k_whole)
  intro L' base h' tk cells b0 p loose mean mg mb B' X' T' r1 r2 kg kb F' N' Y' ol
  have C' := hC.keeps kg
  (try k_lt ol)
  k_cells Y'
  (try simp only [List.cons_append, List.nil_append] at N')
  (try dsimp only)
  (try k_fold)
  k_steps
  rename News _ _ _ _ => kN
  rename Fr _ _ _ _ => kF
  rename Chars _ _ => kC
  rename Obj.data _ = Data.fields _ => d1
  rename Array Value => vs0
  rename vs0[1]? = _ => d2
  have ND := lex_fin (w := w) kN ?nx ⟨_, _, _, _, rfl⟩ (by assumption) (by omega) (by omega) (by omega) (by omega) (by omega) (by omega) (by omega) (by omega) (by omega)
  · obtain ⟨x, rfl, rfl, rfl, LX, fr, n1, n2⟩ := ND
    refine hret x _ _ _ (fun b o hb e => kF.keep b o (kb b o (by simpa using hb) e)) ?_ ⟨_, _, d1, d2⟩ (fresh_of kb n2 n1) n1 LX kC (fun e he => ⟨fresh_of kb (fr e he).1 (fr e he).2, (fr e he).2⟩)
    exact (kN _ (.tail _ (.tail _ (.tail _ (.tail _ (.tail _ (.tail _ (.tail _ (.tail _ (.tail _ (.tail _ (.head _)))))))))))).1
  · intro dp un gd outer g s Q E fa a clo vs n sz T hg hf hcl hcd ha hc n1 n2 l1 hvs q1 q2
    refine wpAny_call ?_
    have hw := own2 ⟨ha, n2⟩ ⟨hcl, n1⟩
    have hr := codeRec_get hc d1 d2
    k_dflt (refine' enterF (f := fa) T hg hw ?k6 ?k7 ?k9 ?kB ?_ ?c5 ?c2 ?c3 ?c4; (case k6 => exact hf); (case k7 => exact hr); (case k9 => exact BindsTo.of_eq rfl); (case kB => exact locs rfl); (case c5 => decide); (case c2 => exact rfl); (case c3 => exact rfl); (case c4 => exact rfl); k_whole)
    intro L' base h' b0 p loose mean mg mb B' X' T' r1 r2 kg kb F' N'
    (try dsimp only)
    (try k_fold)
    cases vs with
    | nil =>
      k_steps
      rename News _ _ _ _ => N9
      rename Fr _ _ _ _ => F9
      exact q1 rfl _ _ _ (own2_end kb F9 N9 ha hcl)
    | cons v r =>
      k_steps
      rename News _ _ _ _ => N9
      rename Fr _ _ _ _ => F9
      exact q2 _ _ rfl _ _ _ (own2_end1 kb F9 N9 hcl) (N9 _ (.head _)).1
theorem lexer_c1 (w : World) (l : List Nat) (hx : l.length ≤ 1000) (t0 : Tok) (dp un : Nat) (gd : Option (List Code)) (outer : List Env) (g : Heap) (s : Shared) (Q E : Value → Shared → Prop) (T : At w 3 dp un gd outer g) (hg : Sub g s.heap)
   (hC : CodeHd g 184 180) (cd : Addr) (oc : Obj) (ht : s.heap.get? 180 = some (tab1 cd)) (hoc : s.heap.get? cd = some oc) (hF : CodeF oc) (hne : cd ≠ 180) (hn : g.get? 180 = none)
   (hret : ∀ (x : LA) (h' : Heap) (tk' : Nat) (vs : List Value), (∀ b o, b ≠ 180 → s.heap.get? b = some o → h'.get? b = some o) → h'.get? 180 = some (tab1 cd) → x.cd = cd → x.oc = oc → Lex w h' x [] vs → Chars vs l → (∀ e ∈ fp x, s.heap.get? e = none ∧ e ≠ 180) → Q (.ref x.q) { s with heap := h', toks := tk' }) :
   wpAny (model PySem.Challenge.rw_un0024_01.row.prog w) (AR dp un gd outer) (call (.ref 185) [.str (S l) t0]) Q E s := by
  obtain ⟨vs0, t9, d1, d2⟩ := hF
  have KX := T.K.keeps hg
  revert KX
  k_fill
  intro KX
  refine wpAny_call ?_
  clear KX
  k_dflt (refine' enterCK (own := [(180, tab1 cd)]) T hg ?ow ?k6 ?k7 ?k9 ?kB ?kN ?_ ?c2 ?c3 ?c4; (case ow => (intro p hp; rw [List.mem_singleton.mp hp]; exact ⟨ht, hn⟩)); (case k6 => k_is); (case k7 => k_is); (case k9 => exact BindsTo.of_eq rfl); (case kB => exact rfl); (case kN => decide); (case c2 => exact rfl); (case c3 => exact rfl); (case c4 => exact rfl); k_whole)
  intro L' base h' tk cells b0 p loose mean mg mb B' X' T' r1 r2 kg kb F' N' Y' ol
  have C' := hC.keeps kg
  (try k_lt ol)
  k_cells Y'
  (try simp only [List.cons_append, List.nil_append] at N')
  (try dsimp only)
  (try k_fold)
  k_steps
  rename News _ _ _ _ => kN
  rename Fr _ _ _ _ => kF
  rename Chars _ _ => kC
  have hb := kb _ _ (by simpa using hne) hoc
  have ND := lex_fin1 (w := w) kN (kF.keep _ _ hb) hb ?nx ⟨_, _, _, _, rfl⟩ (by assumption) (by omega) (by omega) (by omega) (by omega) (by omega) (by omega) (by omega) (by omega)
  · obtain ⟨x, rfl, rfl, rfl, LX, fr⟩ := ND
    exact hret x _ _ _ (fun b o hb e => kF.keep b o (kb b o (by simpa using hb) e)) (kN _ (.tail _ (.tail _ (.tail _ (.tail _ (.tail _ (.tail _ (.tail _ (.tail _ (.tail _ (.head _))))))))))).1 rfl rfl LX kC (fun e he => ⟨fresh_of kb (fr e he).1 (fr e he).2, (fr e he).2⟩)
  · intro dp un gd outer g s Q E fa a clo vs n sz T hg hf hcl hcd ha hc n1 n2 l1 hvs q1 q2
    refine wpAny_call ?_
    have hw := own2 ⟨ha, n2⟩ ⟨hcl, n1⟩
    have hr := codeRec_get hc d1 d2
    k_dflt (refine' enterF (f := fa) T hg hw ?k6 ?k7 ?k9 ?kB ?_ ?c5 ?c2 ?c3 ?c4; (case k6 => exact hf); (case k7 => exact hr); (case k9 => exact BindsTo.of_eq rfl); (case kB => exact locs rfl); (case c5 => decide); (case c2 => exact rfl); (case c3 => exact rfl); (case c4 => exact rfl); k_whole)
    intro L' base h' b0 p loose mean mg mb B' X' T' r1 r2 kg kb F' N'
    (try dsimp only)
    (try k_fold)
    cases vs with
    | nil =>
      k_steps
      rename News _ _ _ _ => N9
      rename Fr _ _ _ _ => F9
      exact q1 rfl _ _ _ (own2_end kb F9 N9 ha hcl)
    | cons v r =>
      k_steps
      rename News _ _ _ _ => N9
      rename Fr _ _ _ _ => F9
      exact q2 _ _ rfl _ _ _ (own2_end1 kb F9 N9 hcl) (N9 _ (.head _)).1
end Mine
end

section
-- M6
open PySem PySem.W PySem.W.X PySem.Calls PyProof.Rows
set_option Elab.async false
set_option maxRecDepth 100000
set_option maxHeartbeats 8000000
namespace Mine
theorem Chars.nil_inv {vs : List Value} (h : Chars vs []) : vs = [] := by cases h; rfl
theorem Chars.cons_inv {vs : List Value} {c : Nat} {l : List Nat} (h : Chars vs (c :: l)) : ∃ t r, vs = Value.str (S [c]) t :: r ∧ Chars r l := by cases h with | cons c t h => exact ⟨t, _, rfl, h⟩
theorem Chars.len {vs : List Value} {l : List Nat} (h : Chars vs l) : vs.length = l.length := by
  induction h with
  | nil => rfl
  | cons c t h ih => simp [ih]
def Keep (x : LA) (h h' : Heap) : Prop := ∀ b o, b ∉ fp x → h.get? b = some o → h'.get? b = some o
section
variable {w : World} {d dp un : Nat} {gd : Option (List Code)} {outer : List Env} {b0 h₀ : Heap} {s : Shared} {news : List (Addr × Obj)} {gf : Obj → List (Addr × Obj)} {L : Addr} {m : Str → Option Value} {p : Program} {loose : List Str} {mean : ExcName → Option Value} {mg mb : Str → Option Value}
  {cn : Str} {cs : Scope} {fa0 : Addr} {ccd : Value} {cl : List (Str × Addr)} {f cell a cd : Nat} {fo clo oc : Obj} {v sz : Value} {r : List Value} {n : Nat} {Q E : Value → Shared → Prop}
theorem next_K0 (NX : NextOk w fo cell cd oc) (B : Below (AR dp un gd outer) b0 outer h₀) (F : Fr h₀ L s.heap m) (X : (hd.heap_1 w.params).In h₀) (N : News h₀ L s.heap news) (T : Top p loose mean mg mb h₀) (hk : cs.kind = .function)
    (hd1 : dp + 1 + 1 < recursionLimit) (hu : un + 3 + 8 * 1 < cLine) (mf : (f, fo) ∈ news) (mc : (cell, clo) ∈ news) (ma : (a, listOf #[] n) ∈ news) (hclo : clo.data = .cell (some (.ref a))) (hcd : h₀.get? cd = some oc) (lt : cell < a)
    (ret : ∀ (t : Tok) (h' : Heap) (tk' : Nat), Fr h₀ L h' m → News h₀ L h' news → Q (.str (Str.ofString "") t) { s with heap := h', toks := tk' }) :
    wpAny (model PySem.Challenge.rw_un0024_01.row.prog w) ((AR dp un gd outer).deeper (envX cn cs L fa0 ccd cl)) (call (.ref f) [sz]) Q E s := by
  obtain ⟨Ta, _, _⟩ := at_frame (env := envX cn cs L fa0 ccd cl) (d := 1) B F X N T rfl hk hd1 hu
  exact NX (dp + 1) (un + 3) gd (envX cn cs L fa0 ccd cl :: outer) _ s Q E f a clo [] n sz Ta (fun b o e => of_hideAll _ e) (N _ mf).1 (N _ mc).1 hclo (N _ ma).1 (F.keep _ _ hcd)
    (hideAll_none _ (List.mem_map_of_mem mc)) (hideAll_none _ (List.mem_map_of_mem ma)) lt (by simp) (fun _ t h' tk' k => ret t h' tk' (F.keeps k) (N.grown k)) (fun v r e => nomatch e)
theorem next_K1 (NX : NextOk w fo cell cd oc) (B : Below (AR dp un gd outer) b0 outer h₀) (F : Fr h₀ L s.heap m) (X : (hd.heap_1 w.params).In h₀) (N : News h₀ L s.heap news) (T : Top p loose mean mg mb h₀) (hk : cs.kind = .function)
    (hd1 : dp + 1 + 1 < recursionLimit) (hu : un + 3 + 8 * 1 < cLine) (mf : (f, fo) ∈ news) (mc : (cell, clo) ∈ news) (U : UpdF a (listOf (v :: r).toArray n) news gf) (hclo : clo.data = .cell (some (.ref a))) (hcd : h₀.get? cd = some oc) (lt : cell < a) (hl : (v :: r).length ≤ 1000)
    (ret : ∀ (n' : Nat) (h' : Heap) (tk' : Nat), Fr h₀ L h' m → News h₀ L h' (gf (listOf r.toArray n')) → Q v { s with heap := h', toks := tk' }) :
    wpAny (model PySem.Challenge.rw_un0024_01.row.prog w) ((AR dp un gd outer).deeper (envX cn cs L fa0 ccd cl)) (call (.ref f) [sz]) Q E s := by
  obtain ⟨Ta, _, _⟩ := at_frame (env := envX cn cs L fa0 ccd cl) (d := 1) B F X N T rfl hk hd1 hu
  obtain ⟨pre, post, rfl, hg, a1, a2⟩ := U.split
  have ma : (a, listOf (v :: r).toArray n) ∈ pre ++ (a, listOf (v :: r).toArray n) :: post := List.mem_append_right _ (.head _)
  refine NX (dp + 1) (un + 3) gd (envX cn cs L fa0 ccd cl :: outer) _ s Q E f a clo (v :: r) n sz Ta (fun b o e => of_hideAll _ e) (N _ mf).1 (N _ mc).1 hclo (N _ ma).1 (F.keep _ _ hcd)
    (hideAll_none _ (List.mem_map_of_mem mc)) (hideAll_none _ (List.mem_map_of_mem ma)) lt hl (fun e => nomatch e) (fun v' r' e n' h' tk' k k' => ?_)
  cases e
  refine ret n' h' tk' ⟨F.ns.extBut (fun b o ne e => k b o ne e) (fun q => (N _ ma).2.1 q.symm), fun b o e => k b o (fun q => ?_) (F.keep b o e), F.above⟩ (fun q hq => ?_)
  · have := (N _ ma).2.2
    rw [q] at e
    rw [this] at e; cases e
  · rw [hg] at hq
    rcases List.mem_append.mp hq with hq | hq
    · exact ⟨k _ _ (a1 q hq) (N q (List.mem_append_left _ hq)).1, (N q (List.mem_append_left _ hq)).2⟩
    · rcases List.mem_cons.mp hq with rfl | hq
      · exact ⟨k', (N _ ma).2⟩
      · exact ⟨k _ _ (a2 q hq) (N q (List.mem_append_right _ (.tail _ hq))).1, (N q (List.mem_append_right _ (.tail _ hq))).2⟩
end
theorem own_lex {w : World} {g h : Heap} {x : LA} {c1 c2 c3 c4 : Nat} {ln : Int} {lt : Tok} {pb vs : List Value} (k : ∀ e ∈ lexL w x c1 c2 c3 c4 ln lt pb vs, h.get? e.1 = some e.2) (n : ∀ e ∈ fp x, g.get? e = none) : OwnAt g h (lexL w x c1 c2 c3 c4 ln lt pb vs) :=
  fun q hq => ⟨k q hq, n _ (List.mem_map_of_mem (f := (·.1)) hq)⟩
local macro_rules | `(tactic| walk_at "call ref") => `(tactic| (k_here; (refine' next_K0 ?k0 ?k1 ?k2 ?k3 ?k4 ?k5 ?k6 ?k7 ?k8 ?kf ?kc ?ka ?k9 ?ke ?kl ?_; (case k0 => assumption); (case k1 | k2 | k3 | k4 | k5 => k_asm); (case k6 => first | exact rfl | assumption); (case k7 | k8 => omega); (case kf | kc | ka => k_mem); (case k9 | ke => assumption); (case kl => omega)); (intro t9 h9 tk9 F9 N9; (try dsimp only); (try k_fold))))
local macro_rules | `(tactic| walk_at "call ref") => `(tactic| (k_here; (refine' next_K1 ?k0 ?k1 ?k2 ?k3 ?k4 ?k5 ?k6 ?k7 ?k8 ?kf ?kc ?ka ?k9 ?ke ?kl ?km ?_; (case k0 => assumption); (case k1 | k2 | k3 | k4 | k5 => k_asm); (case k6 => first | exact rfl | assumption); (case k7 | k8 => omega); (case kf | kc => k_mem); (case k9 => assumption); (case ka => k_updF); (case ke => assumption); (case kl => omega); (case km => assumption)); (intro t9 h9 tk9 F9 N9; (try dsimp only at N9); (try dsimp only); (try k_fold))))
theorem lex_end {w : World} {h base h' : Heap} {L : Addr} {m : Str → Option Value} {x : LA} {c1 c2 c3 c4 c1' c2' c3' c4' : Nat} {ln ln' : Int} {lt lt' : Tok} {pb vs pb' vs' : List Value}
    (kb : ∀ b o, b ∉ (lexL w x c1 c2 c3 c4 ln lt pb vs).map (·.1) → h.get? b = some o → base.get? b = some o) (F : Fr base L h' m) (LX : Lex w h x pb vs) (N : News base L h' (lexL w x c1' c2' c3' c4' ln' lt' pb' vs')) :
    Keep x h h' ∧ Lex w h' x pb' vs' :=
  have K : Keep x h h' := fun b o nb e => F.keep b o (kb b o nb e)
  ⟨K, ⟨⟨c1', c2', c3', c4', ln', lt', fun e he => (N e he).1⟩, LX.clo, K _ _ (fun q => LX.ncd _ q rfl) LX.code, LX.next, LX.o1, LX.o2, LX.o3, LX.o4, LX.o5, LX.o6, LX.o7, LX.ncd, LX.fn⟩⟩
theorem FnAt_of {h₀ h : Heap} {L q : Addr} {fo : Obj} {news : List (Addr × Obj)} (N : News h₀ L h news) (hm : (q, fo) ∈ news) (hf : IsFn fo) : FnAt q h := by
  obtain ⟨oc, od, fd, sl, rfl⟩ := hf
  exact FnAt.of N hm
local macro_rules | `(tactic| walk_at "callWith ref") => `(tactic| (k_here; k_dflt (refine' callWith_F ?k1 ?_; (case k1 => exact FnAt_of (by k_asm) (by k_mem) (by assumption)); k_whole)))
local macro_rules | `(tactic| walk_at "FnAt") => `(tactic| (k_dflt (exact FnAt_of (by k_asm) (by k_mem) (by assumption))))
local macro_rules | `(tactic| walk_at "setAttr ref") => `(tactic| (k_here; k_dflt (refine' set_dict ?k1 ?k2 ?k3 ?k4 ?k5 ?k6 ?k7 ?k8 ?k9 ?k10 ?k11 ?k12 ?k13 ?_; (case k1 | k2 | k3 => k_asm); (case k4 => k_inst); (case k5 => exact rfl); (case k6 | k7 | k8 | k9 => k_is); (case k10 => k_get); (case k11 => exact rfl); (case k12 => k_upd); (case k13 => exact Nat.le_of_ble_eq_true rfl); k_whole; intro h' F' N'; (try k_sweep))))
theorem read_code (w : World) (x : LA) (pb vs : List Value) (l : List Nat) (dp un : Nat) (gd : Option (List Code)) (outer : List Env) (g : Heap) (s : Shared) (R : Result → Shared → Prop) (T : At w 2 dp un gd outer g) (hg : Sub g s.heap)
    (LX : Lex w s.heap x pb vs) (n : ∀ e ∈ fp x, g.get? e = none) (hC : Chars vs l) (hl : l.length ≤ 1000)
    (q1 : l = [] → ∀ t h' tk', Keep x s.heap h' → Lex w h' x pb [] → R (.ok (.ret (.str (Str.ofString "") t))) { s with heap := h', toks := tk' })
    (q2 : ∀ c r, l = c :: r → ∀ t h' tk' vs', Keep x s.heap h' → Lex w h' x pb vs' → Chars vs' r → R (.ok (.ret (.str (S [c]) t))) { s with heap := h', toks := tk' }) :
    codeAny (model PySem.Challenge.rw_un0024_01.row.prog w) (AR dp un gd outer) (.call (.ref 42) ⟨[.ref x.q], []⟩) R s := by
  w_top off
  have KX := T.K.keeps hg
  revert KX
  k_fill
  intro KX
  clear KX
  have LX0 := LX
  obtain ⟨⟨c1, c2, c3, c4, ln, lt, pt⟩, hclo, hcode, NX, o1, o2, o3, o4, o5, o6, o7, ncd, hfn⟩ := LX
  have hw := own_lex pt n
  k_dflt (refine' enterPK T hg hw ?k6 ?k7 ?k9 ?kB ?_ ?c5 ?c2 ?c3 ?c4; (case k6 => k_is); (case k7 => k_is); (case k9 => exact BindsTo.of_eq rfl); (case kB => exact locs rfl); (case c5 => decide); (case c2 => exact rfl); (case c3 => exact rfl); (case c4 => exact rfl); k_whole)
  intro L' base h' b0 p loose mean mg mb B' X' T' r1 r2 kg kb F' N'
  (try dsimp only)
  (try k_fold)
  dsimp only [lexL, lexD, lexD1, ent] at N'
  have hcb := kb _ _ (fun q => ncd _ q rfl) hcode
  cases hC with
  | nil =>
    k_steps
    rename News _ _ _ _ => N9
    rename Fr _ _ _ _ => F9
    obtain ⟨KP, LE⟩ := lex_end kb F9 LX0 N9
    exact q1 rfl _ _ _ KP LE
  | cons c t hC' =>
    have hv := hC'.len
    rename List Value => r0
    have hv : (Value.str (S [c]) t :: r0).length ≤ 1000 := by simp at hl ⊢; omega
    k_steps
    all_goals
      rename News _ _ _ _ => N9
      rename Fr _ _ _ _ => F9
      obtain ⟨KP, LE⟩ := lex_end kb F9 LX0 N9
      exact q2 _ _ rfl _ _ _ _ KP LE hC'
end Mine
end

section
-- M7
open PySem PySem.W PySem.W.X PySem.Calls PyProof.Rows
set_option Elab.async false
set_option maxRecDepth 100000
set_option maxHeartbeats 8000000
namespace Mine
local macro_rules | `(tactic| walk_at "call builtin:list.pop") => `(tactic| (k_here; (with_reducible show wpAny _ _ (call (Value.builtin _) [Value.ref _, Value.int 0 _]) _ _ _); k_dflt (refine' pop0_K ?F ?N ?U ?z ?_; (case F | N => k_asm); (case U => k_upd); (case z => assumption)); kl_rest))
section
variable {prog : Program} {w : World} {A : Around} {E : Value → Shared → Prop} {s : Shared} {h₀ : Heap} {L D : Addr} {m : Str → Option Value} {news news' : List (Addr × Obj)} {n : Nat} {pb : List Value} {y : Value} {Q : Value → Shared → Prop}
theorem app_K (F : Fr h₀ L s.heap m) (N : News h₀ L s.heap news) (U : Upd D (listOf pb.toArray n) (listOf (pb ++ [y]).toArray (n + 1)) news news') (hz : pb.length ≤ 1000)
    (h : ∀ h', Fr h₀ L h' m → News h₀ L h' news' → Q .none { s with heap := h' }) : wpAny (model prog w) A (call (.builtin "list.append") [.ref D, y]) Q E s := by
  rw [← List.push_toArray] at U
  exact append_K F N U h (by rw [List.size_toArray]; exact Nat.le_trans hz (by decide))
end
local macro_rules | `(tactic| walk_at "call builtin:list.append") => `(tactic| (k_here; k_dflt (refine' app_K ?F ?N ?U ?z ?_; (case F | N => k_asm); (case U => k_upd); (case z => assumption)); kl_rest))
theorem push_c (w : World) (x : LA) (pb vs : List Value) (y : Value) (dp un : Nat) (gd : Option (List Code)) (outer : List Env) (g : Heap) (s : Shared) (Q E : Value → Shared → Prop) (T : At w 1 dp un gd outer g) (hg : Sub g s.heap)
    (LX : Lex w s.heap x pb vs) (n : ∀ e ∈ fp x, g.get? e = none) (hl : pb.length ≤ 1000)
    (q1 : ∀ h' tk', Keep x s.heap h' → Lex w h' x (pb ++ [y]) vs → Q .none { s with heap := h', toks := tk' }) :
    wpAny (model PySem.Challenge.rw_un0024_01.row.prog w) (AR dp un gd outer) (call (.ref 56) [.ref x.q, y]) Q E s := by
  w_top off
  have KX := T.K.keeps hg
  revert KX
  k_fill
  intro KX
  refine wpAny_call ?_
  clear KX
  have LX0 := LX
  obtain ⟨⟨c1, c2, c3, c4, ln, lt, pt⟩, hclo, hcode, NX, o1, o2, o3, o4, o5, o6, o7, ncd, hfn⟩ := LX
  have hw := own_lex pt n
  k_dflt (refine' enterPK T hg hw ?k6 ?k7 ?k9 ?kB ?_ ?c5 ?c2 ?c3 ?c4; (case k6 => k_is); (case k7 => k_is); (case k9 => exact BindsTo.of_eq rfl); (case kB => exact locs rfl); (case c5 => decide); (case c2 => exact rfl); (case c3 => exact rfl); (case c4 => exact rfl); k_whole)
  intro L' base h' b0 p loose mean mg mb B' X' T' r1 r2 kg kb F' N'
  (try dsimp only)
  (try k_fold)
  dsimp only [lexL, lexD, lexD1, ent] at N'
  have hcb := kb _ _ (fun q => ncd _ q rfl) hcode
  k_steps
  rename News _ _ _ _ => N9
  rename Fr _ _ _ _ => F9
  obtain ⟨KP, LE⟩ := lex_end kb F9 LX0 N9
  exact q1 _ _ KP LE
theorem get_c (w : World) (x : LA) (v : Value) (r vs : List Value) (dp un : Nat) (gd : Option (List Code)) (outer : List Env) (g : Heap) (s : Shared) (Q E : Value → Shared → Prop) (T : At w 1 dp un gd outer g) (hg : Sub g s.heap)
    (LX : Lex w s.heap x (v :: r) vs) (n : ∀ e ∈ fp x, g.get? e = none) (hl : (v :: r).length ≤ 1000)
    (q1 : ∀ h' tk', Keep x s.heap h' → Lex w h' x r vs → Q v { s with heap := h', toks := tk' }) :
    wpAny (model PySem.Challenge.rw_un0024_01.row.prog w) (AR dp un gd outer) (call (.ref 49) [.ref x.q]) Q E s := by
  have KX := T.K.keeps hg
  revert KX
  k_fill
  intro KX
  refine wpAny_call ?_
  clear KX
  have LX0 := LX
  obtain ⟨⟨c1, c2, c3, c4, ln, lt, pt⟩, hclo, hcode, NX, o1, o2, o3, o4, o5, o6, o7, ncd, hfn⟩ := LX
  have hw := own_lex pt n
  k_dflt (refine' enterPK T hg hw ?k6 ?k7 ?k9 ?kB ?_ ?c5 ?c2 ?c3 ?c4; (case k6 => k_is); (case k7 => k_is); (case k9 => exact BindsTo.of_eq rfl); (case kB => exact locs rfl); (case c5 => decide); (case c2 => exact rfl); (case c3 => exact rfl); (case c4 => exact rfl); k_whole)
  intro L' base h' b0 p loose mean mg mb B' X' T' r1 r2 kg kb F' N'
  (try dsimp only)
  (try k_fold)
  dsimp only [lexL, lexD, lexD1, ent] at N'
  have hcb := kb _ _ (fun q => ncd _ q rfl) hcode
  k_steps
  rename News _ _ _ _ => N9
  rename Fr _ _ _ _ => F9
  obtain ⟨KP, LE⟩ := lex_end kb F9 LX0 N9
  exact q1 _ _ KP LE
end Mine
end

section
-- M8
open PySem PySem.W PySem.W.X PySem.Calls PyProof.Rows PySem.Builtin
set_option Elab.async false
set_option maxRecDepth 100000
set_option maxHeartbeats 8000000
namespace Mine
theorem slot_ci_next : Slot "callable_iterator" "__next__" "callable_iterator.__next__" :=
  .of (owner := "callable_iterator") (n := "__next__") (by rw [typeLookup_type, builtinLookup_eq_fast]; kernel_rfl) (by decide +kernel) (by decide +kernel) (by decide +kernel)
    (by first | exact .inl (by decide +kernel) | exact .inr (by decide +kernel)) (by rw [isSubtype_type]; kernel_rfl)
theorem slot_ci_iter : Slot "callable_iterator" "__iter__" "callable_iterator.__iter__" :=
  .of (owner := "callable_iterator") (n := "__iter__") (by rw [typeLookup_type, builtinLookup_eq_fast]; kernel_rfl) (by decide +kernel) (by decide +kernel) (by decide +kernel)
    (by first | exact .inl (by decide +kernel) | exact .inr (by decide +kernel)) (by rw [isSubtype_type]; kernel_rfl)
theorem entry_ci_next : entryFor table "callable_iterator.__next__" = some Builtin.«callable_iterator.__next__» := entryFor_of_tree (by kernel_rfl)
theorem entry_ci_iter : entryFor table "callable_iterator.__iter__" = some Builtin.«dict_keyiterator.__iter__» :=
  entryFor_alias (id' := "dict_keyiterator.__iter__") (by kernel_rfl) rfl (by decide +kernel) (by kernel_rfl)
theorem args_ci_iter (a : Value) : argsOk "callable_iterator.__iter__" ⟨[a], []⟩ := by unfold argsOk; kernel_rfl
theorem args_ci_next (a : Value) : argsOk "callable_iterator.__next__" ⟨[a], []⟩ := by unfold argsOk; kernel_rfl
/-- iter(f, end): f, end, done -/
abbrev ciObj (f e : Value) (b : Bool) : Obj := { cls := .type "callable_iterator", data := .fields #[f, e, .bool b] }
section
variable {prog : Program} {w : World} {A : Around} {E : Value → Shared → Prop} {s : Shared} {it bm : Addr} {f g self : Value}
theorem wpAny_callBorrowed {M : Model} {fv : Value} {pos : List Value} {Q : Value → Shared → Prop}
    (hc : codeAny M A (.call fv ⟨pos, []⟩) (fun r s' => match r with | .ok (.ret v) => Q v s' | .ok _ => False | .error e => E e s') s) : wpAny M A (callBorrowed fv pos) Q E s := fun Γ p hΓ => by
  unfold callBorrowed
  rw [Sem.wp_call]
  refine wpCode_mono (fun r s' h => ?_) (hc _ p rfl (hΓ.enter _ none p (by intro x; cases x)))
  cases r with
  | error e => simpa using h
  | ok fl => cases fl <;> simp_all
theorem ci_iter {o : Obj} {Q : Value → Shared → Prop} (ho : s.heap.get? it = some o) (hc : o.cls = .type "callable_iterator") (h : Q (.ref it) s) : wpAny (model prog w) A (pyIter (.ref it)) Q E s := by
  refine wpAny_pyIter_slot ⟨o, ho, hc⟩ slot_ci_iter (wpAny_call_entry slot_ci_iter ⟨o, ho, hc⟩ entry_ci_iter ?_ (args_ci_iter _))
  show wpAny _ _ (ret (.ref it)) _ _ s
  exact wpAny_pure ⟨_, rfl, "callable_iterator", _, ⟨o, ho, hc⟩, slot_ci_next.lookup, h⟩
theorem stop_it {α : Type} {Q : α → Shared → Prop} {E' : Value → Shared → Prop} (hh : A.handled = none) (h : ∀ e h', (∃ o, h'.get? e = some o ∧ o.cls = .type "StopIteration") → Sub s.heap h' → E' (.ref e) { s with heap := h' }) : wpAny (model prog w) A (SmallTypes.stopIteration : Sem α) Q E' s := by
  unfold SmallTypes.stopIteration
  refine wpAny_bind ?_
  simp only [newExc, newTuple]
  refine wpAny_bind (wpAny_newObj_type ?_ (by size_fits))
  refine wpAny_bind (m := firstArgMember _ _) (wpAny_of_eq (a := Value.none) (by first | rfl | (simp only [firstArgMember]; rfl)) ?_)
  refine wpAny_newObj_type ?_ (by size_fits)
  simp only [raiseNew]
  refine wpAny_bind (wpAny_handled ?_)
  rw [hh]
  refine wpAny_bind (wpAny_pure (wpAny_throw ?_))
  exact h _ _ ⟨_, Heap.get?_push_size _ rfl, rfl⟩ fun b o e => Heap.get?_push_of_some _ (Heap.get?_push_of_some _ e)
theorem ci_ended {f' e' : Value} {Q : Option Value → Shared → Prop} (hh : A.handled = none) (hit : s.heap.get? it = some (ciObj f' e' true)) (hQ : ∀ h', Sub s.heap h' → Q none { s with heap := h' }) : wpAny (model prog w) A (pyNext (.ref it)) Q E s := by
  unfold pyNext
  refine wpAny_bind (wpAny_attempt (wpAny_callSpecial?_slot (name := Str.ofString "__next__") ⟨_, hit, rfl⟩ slot_ci_next
    (wpAny_call_entry slot_ci_next ⟨_, hit, rfl⟩ entry_ci_next ?_ (args_ci_next _))))
  show wpAny _ _ (field (.ref it) 2 >>= _) _ _ s
  refine wpAny_bind (wpAny_field hit rfl (x := .bool true) rfl ?_)
  refine wpAny_bind (wpAny_rule ?_)
  refine wpAny_bind (stop_it hh fun e h' he k => ?_)
  obtain ⟨o, ho, hc⟩ := he
  refine wpAny_bind (wpAny_isInstance (T := "StopIteration") (b := true) ⟨o, ho, hc⟩ isSubtype_stop ?_)
  exact wpAny_pure (hQ _ k)
theorem bx_method {b : Addr} {ofn : Obj} {fd : FuncData} {Q : Bool → Shared → Prop} (hbm : s.heap.get? bm = some (methodObj (.ref b) self)) (hb : s.heap.get? b = some ofn) (hfd : ofn.data = .func fd) (h : Q true s) : wpAny (model prog w) A (borrowsExactly (.ref bm)) Q E s := by
  unfold borrowsExactly
  refine wpAny_bind (wpAny_load hbm ?_)
  show wpAny _ _ (load b >>= _) _ _ s
  refine wpAny_bind (wpAny_load hb ?_)
  rw [hfd]
  exact wpAny_pure h
/-- one turn of iter(method, ''): what the method gives, held against the end -/
theorem ci_turn {y : Str} {t : Tok} {b : Addr} {ofn : Obj} {fd : FuncData} {Q : Option Value → Shared → Prop} (hit : s.heap.get? it = some (ciObj (.ref bm) (.str y t) false)) (hbm : s.heap.get? bm = some (methodObj (.ref b) self))
    (hb : s.heap.get? b = some ofn) (hfd : ofn.data = .func fd)
    (hc : codeAny (model prog w) A.in1 (.call (.ref b) ⟨[self], []⟩) (fun r s' => ∃ x u, r = .ok (.ret (.str x u)) ∧ s'.heap.get? it = some (ciObj (.ref bm) (.str y t) false) ∧ s'.heap.get? bm = some (methodObj (.ref b) self) ∧ s'.heap.get? b = some ofn ∧
      ((y ≠ x ∧ Q (some (.str x u)) s') ∨ (y = x ∧ A.handled = none ∧ ∀ h', (∀ c o, c ≠ it → s'.heap.get? c = some o → h'.get? c = some o) → (∃ f' e', h'.get? it = some (ciObj f' e' true)) → Q none { s' with heap := h' }))) s) : wpAny (model prog w) A (pyNext (.ref it)) Q E s := by
  unfold pyNext
  refine wpAny_bind (wpAny_attempt (wpAny_callSpecial?_slot (name := Str.ofString "__next__") ⟨_, hit, rfl⟩ slot_ci_next
    (wpAny_call_entry slot_ci_next ⟨_, hit, rfl⟩ entry_ci_next ?_ (args_ci_next _))))
  show wpAny _ _ (field (.ref it) 2 >>= _) _ _ s
  refine wpAny_bind (wpAny_field hit rfl (x := .bool false) rfl ?_)
  refine wpAny_bind (wpAny_field hit rfl (x := .ref bm) rfl ?_)
  refine wpAny_bind (wpAny_attempt ?_)
  unfold callOutOfASlot
  refine wpAny_bind (bx_method hbm hb hfd ?_)
  refine wpAny_callBorrowed (method_call hbm ?_)
  refine codeAny_mono hc fun r s' h' => ?_
  obtain ⟨x, u, rfl, hit', hbm', hb', h'⟩ := h'
  refine wpAny_bind (wpAny_field hit' rfl (x := .bool false) rfl ?_)
  refine wpAny_bind (wpAny_field hit' rfl (x := .str y t) rfl ?_)
  refine wpAny_bind (wpAny_holding ?_)
  refine wpAny_eqBool_str ?_
  rcases h' with ⟨ne, q⟩ | ⟨e, hh, q⟩
  · rw [decide_eq_false ne]
    refine wpAny_bind (wpAny_pure ?_)
    exact wpAny_pure ⟨_, rfl, wpAny_pure q⟩
  · rw [decide_eq_true e]
    refine wpAny_bind (wpAny_rule ?_)
    refine wpAny_bind ?_
    show wpAny _ _ (field (.ref it) 0 >>= _) _ _ _
    refine wpAny_bind (wpAny_field hit' rfl (x := .ref bm) rfl ?_)
    refine wpAny_bind ?_
    unfold slotLetsGo
    refine wpAny_bind (bx_method hbm' hb' hfd ?_)
    refine wpAny_pure ?_
    refine wpAny_bind (wpAny_setField_rec hit' (by simp) fun h1 e1 k1 => ?_)
    refine wpAny_bind (wpAny_setField_rec e1 (by simp) fun h2 e2 k2 => ?_)
    refine wpAny_setField_rec e2 (by simp) fun h3 e3 k3 => ?_
    refine stop_it hh fun e h4 he k4 => ?_
    obtain ⟨o, ho, hc⟩ := he
    refine wpAny_bind (wpAny_isInstance (T := "StopIteration") (b := true) ⟨o, ho, hc⟩ isSubtype_stop ?_)
    exact wpAny_pure (q h4 (fun c o ne e => k4 _ _ (k3.extBut c o ne (k2.extBut c o ne (k1.extBut c o ne e)))) ⟨_, _, k4 _ _ e3⟩)
theorem look_method_call : typeLookup (.type "method") "__call__" = pure (some (.builtin "method.__call__")) := by rw [typeLookup_type, builtinLookup_eq_fast]; kernel_rfl
theorem args_iter2 (a b : Value) : argsOk "iter" ⟨[a, b], []⟩ := by unfold argsOk; kernel_rfl
theorem iter2 {y : Str} {t : Tok} {Q : Value → Shared → Prop} (hbm : s.heap.get? bm = some (methodObj f self)) (h : Q (.ref s.heap.objs.size) { s with heap := s.heap.push (ciObj (.ref bm) (.str y t) false) }) :
    wpAny (model prog w) A (call (.builtin "iter") [.ref bm, .str y t]) Q E s := by
  refine call_function_entry (by decide +kernel) (by decide +kernel) kdk_entry_iter (args_iter2 _ _) ?_
  show wpAny _ _ (Builtin.«iter» _) _ _ _
  unfold Builtin.«iter»
  refine wpAny_bind (m := someArgs "iter" 1 2 _) (wpAny_of_eq (a := [Value.ref bm, .str y t]) (by first | rfl | kernel_rfl!) ?_)
  refine wpAny_bind (wpAny_specialOf (T := "method") ⟨_, hbm, rfl⟩ look_method_call ?_)
  refine wpAny_bind (wpAny_rule ?_)
  refine wpAny_bind (wpAny_newObj_type ?_)
  exact wpAny_pure ⟨_, rfl, h⟩
end
theorem At.shift {w : World} {d dp un : Nat} {gd : Option (List Code)} {outer : List Env} {g : Heap} (T : At w (d + 1) dp un gd outer g) : At w d dp (un + 1) gd outer g :=
  let ⟨b, B⟩ := T.below
  ⟨⟨b, ⟨B.stack, B.stays, B.frames⟩⟩, T.K, T.top, by have := T.depth; omega, by have := T.units; omega⟩
theorem Lex.of {w : World} {h h' : Heap} {x : LA} {pb vs pb' vs' : List Value} (LX : Lex w h x pb vs) (pt : ∃ c1 c2 c3 c4 ln lt, ∀ e ∈ lexL w x c1 c2 c3 c4 ln lt pb' vs', h'.get? e.1 = some e.2) (code : h'.get? x.cd = some x.oc) : Lex w h' x pb' vs' :=
  ⟨pt, LX.clo, code, LX.next, LX.o1, LX.o2, LX.o3, LX.o4, LX.o5, LX.o6, LX.o7, LX.ncd, LX.fn⟩
theorem fp_lt {w : World} {h : Heap} {x : LA} {pb vs : List Value} (LX : Lex w h x pb vs) : ∀ e ∈ fp x, @LE.le Nat _ e x.p := by
  have := LX.o1; have := LX.o2; have := LX.o3; have := LX.o4; have := LX.o5; have := LX.o6; have := LX.o7
  exact mem11 (P := fun e => @LE.le Nat _ e x.p) (Nat.le_refl _) (by show x.q ≤ x.p; omega) (by show x.d ≤ x.p; omega) (by show x.f ≤ x.p; omega) (by show x.x1 ≤ x.p; omega) (by show x.d1 ≤ x.p; omega) (by show x.a ≤ x.p; omega) (by show x.cell ≤ x.p; omega)
theorem has_fn {K : Frag} {h₀ h : Heap} {a : Addr} {oc : Value} {od : Option Addr} {fd : FuncData} {sl : Array (Option Value)} (X : K.In h₀) (KX : K.In h) (e : K.lookup a = some ⟨oc, od, .func fd, sl⟩) : ∃ o, h.get? a = some o ∧ (∃ fd, o.data = .func fd) ∧ h₀.get? a = some o :=
  ⟨_, KX _ _ e, ⟨_, rfl⟩, X _ _ e⟩
section
variable {w : World} {dp un : Nat} {gd : Option (List Code)} {outer : List Env} {b0 h₀ hh : Heap} {s : Shared} {L : Addr} {m : Str → Option Value} {p : Program} {loose : List Str} {mean : ExcName → Option Value} {mg mb : Str → Option Value}
  {cn : Str} {cs : Scope} {fa : Addr} {ccd : Value} {cl : List (Str × Addr)} {x : LA} {c1 c2 c3 c4 : Nat} {ln : Int} {lt t : Tok} {pb vs pb0 vs0 : List Value} {l : List Nat} {I bm : Nat} {Q : Option Value → Shared → Prop} {E : Value → Shared → Prop}
theorem next_turn (B : Below (AR dp un gd outer) b0 outer h₀) (F : Fr h₀ L s.heap m) (X : (hd.heap_1 w.params).In h₀) (T : Top p loose mean mg mb h₀) (LX : Lex w hh x pb0 vs0) (hcd : h₀.get? x.cd = some x.oc)
    (N : News h₀ L s.heap ((I, ciObj (.ref bm) (.str (Str.ofString "") t) false) :: (bm, methodObj (.ref 42) (.ref x.q)) :: lexL w x c1 c2 c3 c4 ln lt pb vs)) (hk : cs.kind = .function) (hd1 : dp + 1 + 3 < recursionLimit) (hu : un + 3 + 8 * 3 < cLine)
    (i1 : x.p < bm) (i2 : bm < I) (hC : Chars vs l) (hl : l.length ≤ 1000)
    (q1 : l = [] → ∀ h' tk' f' e' c1 c2 c3 c4 ln lt, Fr h₀ L h' m → News h₀ L h' ((I, ciObj f' e' true) :: (bm, methodObj (.ref 42) (.ref x.q)) :: lexL w x c1 c2 c3 c4 ln lt pb []) → Q none { s with heap := h', toks := tk' })
    (q2 : ∀ c r, l = c :: r → ∀ u h' tk' vs' c1 c2 c3 c4 ln lt, Chars vs' r → Fr h₀ L h' m → News h₀ L h' ((I, ciObj (.ref bm) (.str (Str.ofString "") t) false) :: (bm, methodObj (.ref 42) (.ref x.q)) :: lexL w x c1 c2 c3 c4 ln lt pb vs') → Q (some (.str (S [c]) u)) { s with heap := h', toks := tk' }) :
    wpAny (model PySem.Challenge.rw_un0024_01.row.prog w) ((AR dp un gd outer).deeper (envX cn cs L fa ccd cl)) (pyNext (.ref I)) Q E s := by
  obtain ⟨Ta, _, hwn⟩ := at_frame (env := envX cn cs L fa ccd cl) (d := 3) B F X N T rfl hk hd1 hu
  have KX := X.keeps F.keep
  revert KX
  k_fill
  intro KX
  have NI := N _ (.head _)
  have Nb := N _ (.tail _ (.head _))
  have Nl := fun e he => N e (.tail _ (.tail _ he))
  have LN : Lex w s.heap x pb vs := LX.of ⟨c1, c2, c3, c4, ln, lt, fun e he => (Nl e he).1⟩ (F.keep _ _ hcd)
  have na : ∀ e ∈ fp x, e ≠ L ∧ h₀.get? e = none ∧ e ≠ I ∧ e ≠ bm := fun e he => by
    have q := fp_lt LX e he
    obtain ⟨e', he', rfl⟩ : ∃ e' ∈ lexL w x c1 c2 c3 c4 ln lt pb vs, e'.1 = e := List.mem_map.mp (show e ∈ (lexL w x c1 c2 c3 c4 ln lt pb vs).map (·.1) from he)
    exact ⟨(Nl _ he').2.1, (Nl _ he').2.2, Nat.ne_of_lt (by omega), Nat.ne_of_lt (by omega)⟩
  have nI : I ∉ fp x := fun q => (na _ q).2.2.1 rfl
  have nb : bm ∉ fp x := fun q => (na _ q).2.2.2 rfl
  have nL : L ∉ fp x := fun q => (na _ q).1 rfl
  have nh : ∀ b o, h₀.get? b = some o → b ∉ fp x := fun b o e q => by rw [(na b q).2.1] at e; cases e
  have nhI : ∀ b o, h₀.get? b = some o → b ≠ I := fun b o e q => by rw [q, NI.2.2] at e; cases e
  have FR : ∀ h', Keep x s.heap h' → Fr h₀ L h' m := fun h' K => ⟨F.ns.at fun o e => K L o nL e, fun b o e => K b o (nh b o e) (F.keep b o e), F.above⟩
  have h42 : ∃ o, s.heap.get? 42 = some o ∧ (∃ fd, o.data = .func fd) ∧ h₀.get? 42 = some o := by
    refine' has_fn X KX ?k6
    case k6 => k_is
  obtain ⟨o42, e42, ⟨fd, hfd⟩, e42'⟩ := h42
  refine ci_turn NI.1 Nb.1 e42 hfd ?_
  refine read_code w x pb vs l (dp + 1) (un + 4) gd (envX cn cs L fa ccd cl :: outer) _ s _ Ta.shift (fun b o e => of_hideAll _ e) LN (fun e he => hideAll_none _ ?_) hC hl (fun e t' h' tk' KP LE => ?_) (fun c r e t' h' tk' vs' KP LE hC' => ?_)
  · exact .tail _ (.tail _ he)
  · obtain ⟨d1, d2, d3, d4, ln', lt', pt⟩ := LE.parts
    refine ⟨_, t', rfl, KP _ _ nI NI.1, KP _ _ nb Nb.1, KP _ _ (nh _ _ e42') e42, .inr ⟨rfl, rfl, fun h'' k'' ⟨f', e', e''⟩ => ?_⟩⟩
    have G := FR h' KP
    refine q1 e h'' tk' f' e' d1 d2 d3 d4 ln' lt' ⟨G.ns.at fun o e => k'' L o (fun q => NI.2.1 q.symm) e, fun b o e => k'' b o (nhI b o e) (G.keep b o e), G.above⟩ fun z hz => ?_
    rcases List.mem_cons.mp hz with rfl | hz
    · exact ⟨e'', NI.2⟩
    rcases List.mem_cons.mp hz with rfl | hz
    · exact ⟨k'' _ _ (Nat.ne_of_lt i2) (KP _ _ nb Nb.1), Nb.2⟩
    · have hm : z.1 ∈ fp x := List.mem_map_of_mem (f := (·.1)) hz
      exact ⟨k'' _ _ (na _ hm).2.2.1 (pt z hz), (na _ hm).1, (na _ hm).2.1⟩
  · obtain ⟨d1, d2, d3, d4, ln', lt', pt⟩ := LE.parts
    refine ⟨_, t', rfl, KP _ _ nI NI.1, KP _ _ nb Nb.1, KP _ _ (nh _ _ e42') e42, .inl ⟨fun q => ?_, q2 c r e t' h' tk' vs' d1 d2 d3 d4 ln' lt' hC' (FR h' KP) fun z hz => ?_⟩⟩
    · have := congrArg Str.length q
      rw [S_len] at this
      have e0 : (Str.ofString "").length = 0 := by decide
      rw [e0] at this
      simp at this
    rcases List.mem_cons.mp hz with rfl | hz
    · exact ⟨KP _ _ nI NI.1, NI.2⟩
    rcases List.mem_cons.mp hz with rfl | hz
    · exact ⟨KP _ _ nb Nb.1, Nb.2⟩
    · have hm : z.1 ∈ fp x := List.mem_map_of_mem (f := (·.1)) hz
      exact ⟨pt z hz, (na _ hm).1, (na _ hm).2.1⟩
end
end Mine
end

section
-- M9
open PySem PySem.W PySem.W.X PySem.Calls PyProof.Rows
set_option Elab.async false
set_option maxRecDepth 100000
set_option maxHeartbeats 8000000
namespace Mine
section
variable {prog : Program} {w : World} {A : Around} {E : Value → Shared → Prop} {s : Shared} {h₀ : Heap} {L bm : Addr} {m : Str → Option Value} {news : List (Addr × Obj)} {f self : Value} {x y : Str} {t u : Tok} {Q : Value → Shared → Prop}
theorem iter2_K (F : Fr h₀ L s.heap m) (N : News h₀ L s.heap news) (hq : (bm, methodObj f self) ∈ news)
    (h : ∀ I h', Fr h₀ L h' m → News h₀ L h' ((I, ciObj (.ref bm) (.str y t) false) :: news) → (∀ p ∈ news, p.1 < I) → Q (.ref I) { s with heap := h' }) : wpAny (model prog w) A (call (.builtin "iter") [.ref bm, .str y t]) Q E s :=
  iter2 (N _ hq).1 (h _ _ (F.push _) (News.push F N _ rfl) (fun q hq => Heap.lt_size (N q hq).1))
theorem in_is {b : Bool} (e : Txt.contains x y = b) (h : Q (.bool b) s) : wpAny (model prog w) A (compareOp .In (.str y u) (.str x t)) Q E s := by
  subst e
  exact in_str h
theorem eq_is {b : Bool} (e : (x == y) = b) (h : Q (.bool b) s) : wpAny (model prog w) A (compareOp .Eq (.str x t) (.str y u)) Q E s := eq_str (e ▸ h)
theorem iaddS {a b : List Nat} (ha : a.length ≤ 1000) (hb : b.length ≤ 1000) (h : ∀ t' k, Q (.str (S (a ++ b)) t') { s with toks := k }) : wpAny (model prog w) A (inplaceOp .Add (.str (S a) t) (.str (S b) u)) Q E s := by
  refine iadd_is (by rw [S_len]; exact ha) (by rw [S_len]; exact hb) fun t' k => ?_
  rw [S_app]
  exact h t' k
def Again (I : Nat → Shared → Prop) (n : Nat) (s : Shared) : Prop := ∃ m, m < n ∧ I m s
theorem forLoopA {R : Result → Shared → Prop} {target : Expr} {it : Value} {body orelse : List Stmt} {env : Env} (I : Nat → Shared → Prop)
    (turn : ∀ n s, I n s → wpAny (model prog w) A (pyNext it) (fun r s₁ => match r with
      | none => wpAny (model prog w) A (execs orelse env) (fun f s₃ => R (.ok f) s₃) (notedBy (model prog w) A env fun e s' => R (.error e) s') s₁
      | some v => wpAny (model prog w) A (assign target env v) (fun _ s₂ => wpAny (model prog w) A (execs body env) (fun f s₃ => match f with
          | .next | .cont => Again I n s₃
          | .brk => R (.ok .next) s₃
          | .ret v => R (.ok (.ret v)) s₃) (notedBy (model prog w) A env fun e s' => R (.error e) s') s₂) (notedBy (model prog w) A env fun e s' => R (.error e) s') s₁) (notedBy (model prog w) A env fun e s' => R (.error e) s') s)
    (n : Nat) (h : I n s) (ht : ∀ v, letOwnedTupleGo target it v = pure () := by intro _; rfl) : codeAny (model prog w) A (.forLoop target it body orelse env) R s :=
  codeAny_forLoop I turn n h ht
theorem nameNews {I0 bm0 : Nat} {t0 : Tok} {rest : List (Addr × Obj)} {h : Heap} (_N : News h₀ L h ((I0, ciObj (.ref bm0) (.str y t0) false) :: rest)) : ∃ I bm, I = I0 ∧ bm = bm0 := ⟨_, _, rfl, rfl⟩
end
/-- a sign that ends no token -/
def Plain (c : Nat) : Prop := c < 128 ∧ c ≠ 10 ∧ c ≠ 9 ∧ c ≠ 13 ∧ c ≠ 32 ∧ c ≠ 34 ∧ c ≠ 92
theorem plain_all : ∀ c, c < 128 → Plain c → Txt.contains (Str.ofString "\n\t\r ") (S [c]) = false ∧ (S [c] == Str.ofString "\"") = false ∧ (S [c] == Str.ofString "\\") = false := by unfold Plain; decide +kernel
theorem ws_nl : Txt.contains (Str.ofString "\n\t\r ") (S [10]) = true := by decide +kernel
def JSt (w : World) (base : Heap) (L : Addr) (x : LA) (I bm : Nat) (s : Shared) (tok tail : List Nat) (n : Nat) (s' : Shared) : Prop :=
  ∃ done rest h k vs m c1 c2 c3 c4 ln lt t u, s' = { s with heap := h, toks := k } ∧ tok = done ++ rest ∧ n = rest.length ∧ Chars vs (rest ++ tail) ∧ Fr base L h m ∧ m (Str.ofString "self") = some (.ref x.q) ∧
    m (Str.ofString "fiter") = some (.ref I) ∧ m (Str.ofString "token") = some (.str (S done) u) ∧ News base L h ((I, ciObj (.ref bm) (.str (Str.ofString "") t) false) :: (bm, methodObj (.ref 42) (.ref x.q)) :: lexL w x c1 c2 c3 c4 ln lt [] vs)
def OSt (w : World) (base : Heap) (L : Addr) (x : LA) (I bm : Nat) (s : Shared) (tok tail : List Nat) (s' : Shared) : Prop :=
  ∃ h k m f' e' c1 c2 c3 c4 ln lt u, s' = { s with heap := h, toks := k } ∧ Fr base L h m ∧ m (Str.ofString "token") = some (.str (S tok) u) ∧ News base L h ((I, ciObj f' e' true) :: (bm, methodObj (.ref 42) (.ref x.q)) :: lexL w x c1 c2 c3 c4 ln lt [] []) ∧ tail = []
theorem S_nil : Str.ofString "" = S [] := by decide
local macro_rules | `(tactic| walk_at "call builtin:iter") => `(tactic| (k_here; k_dflt (refine' iter2_K ?F ?N ?q ?_; (case F | N => k_asm); (case q => k_mem)); intro I' h' F' N' l1; (try k_lt l1)))
local macro_rules | `(tactic| walk_at "exec For Name Name cons nil") => `(tactic| (k_here; k_dflt (refine wpAny_For ?_)))
local macro_rules | `(tactic| walk_at "pyIter ref") => `(tactic| (k_here; (refine' ci_iter (News.get ?n ?q) ?c ?_; (case n => k_asm); (case q => k_mem); (case c => exact rfl))))
local macro_rules | `(tactic| walk_at "compareOp In str str") => `(tactic| (k_here; refine in_is (by assumption) ?_))
local macro_rules | `(tactic| walk_at "compareOp Eq str str") => `(tactic| (k_here; refine eq_is (by assumption) ?_))
local macro_rules | `(tactic| walk_at "inplaceOp Add str str") => `(tactic| (k_here; (refine iaddS (by assumption) (by assumption) ?_); intro _ _))
local macro_rules | `(tactic| walk_at "eval Name") => `(tactic| (k_here; k_dflt (refine' ld ?k1 ?k2 ?_; (case k1 => k_asm); (case k2 => first | exact rfl | assumption | exact (if_neg (by decide)).trans (by assumption)); k_whole)))
local macro_rules | `(tactic| walk_at "loadName") => `(tactic| (k_here; k_dflt (refine' ldn ?k1 ?k2 ?_; (case k1 => k_asm); (case k2 => first | exact rfl | assumption | exact (if_neg (by decide)).trans (by assumption)); k_whole)))
theorem tok_c (w : World) (x : LA) (vs : List Value) (tok tail : List Nat) (dp un : Nat) (gd : Option (List Code)) (outer : List Env) (g : Heap) (s : Shared) (Q E : Value → Shared → Prop) (T : At w 4 dp un gd outer g) (hg : Sub g s.heap)
    (LX : Lex w s.heap x [] vs) (n : ∀ e ∈ fp x, g.get? e = none) (hC : Chars vs (tok ++ tail)) (hl : (tok ++ tail).length ≤ 1000) (hp : ∀ c ∈ tok, Plain c) (ht : tail = [] ∨ (tok ≠ [] ∧ ∃ r, tail = 10 :: r))
    (hret : ∀ t h' tk' vs', Keep x s.heap h' → Lex w h' x [] vs' → Chars vs' tail.tail → Q (.str (S tok) t) { s with heap := h', toks := tk' }) :
    wpAny (model PySem.Challenge.rw_un0024_01.row.prog w) (AR dp un gd outer) (call (.ref 49) [.ref x.q]) Q E s := by
  w_top off
  have KX := T.K.keeps hg
  revert KX
  k_fill
  intro KX
  refine wpAny_call ?_
  clear KX
  have LX0 := LX
  obtain ⟨⟨c1, c2, c3, c4, ln, lt, pt⟩, hclo, hcode, NX, o1, o2, o3, o4, o5, o6, o7, ncd, hfn⟩ := LX
  have hw := own_lex pt n
  k_dflt (refine' enterPK T hg hw ?k6 ?k7 ?k9 ?kB ?_ ?c5 ?c2 ?c3 ?c4; (case k6 => k_is); (case k7 => k_is); (case k9 => exact BindsTo.of_eq rfl); (case kB => exact locs rfl); (case c5 => decide); (case c2 => exact rfl); (case c3 => exact rfl); (case c4 => exact rfl); k_whole)
  intro L' base h' b0 p loose mean mg mb B' X' T' r1 r2 kg kb F' N'
  (try dsimp only)
  (try k_fold)
  dsimp only [lexL, lexD, lexD1, ent] at N'
  have hcb := kb _ _ (fun q => ncd _ q rfl) hcode
  rw [S_nil] at *
  k_steps
  rename Fr _ _ _ _ => F9
  rename News _ _ _ _ => N9
  obtain ⟨I, bm, e1, e2⟩ := nameNews N9
  subst e1 e2
  obtain ⟨m9, F0, hs, hf, u0, hk⟩ : ∃ m9, Fr base L' _ m9 ∧ m9 (Str.ofString "self") = some (.ref x.q) ∧ m9 (Str.ofString "fiter") = some (.ref I) ∧ ∃ u, m9 (Str.ofString "token") = some (.str (S []) u) := ⟨_, F9, rfl, rfl, _, rfl⟩
  clear F9
  have i1 : x.p < bm := by omega
  have i2 : bm < I := by omega
  have z0 : ([] : List Nat).length ≤ 1000 := Nat.zero_le _
  refine forLoopA (fun n s' => (n = 2 ∧ s' = _) ∨ (n = 1 ∧ OSt w base L' x I bm s tok tail s')) ?_ 2 (.inl ⟨rfl, rfl⟩)
  intro n s' hI
  rcases hI with ⟨rfl, rfl⟩ | ⟨rfl, hO⟩
  · refine next_turn B' F0 X' T' LX0 hcb N9 rfl (by omega) (by omega) i1 i2 hC hl ?_ ?_
    · intro e0 h' tk' f' e' c1 c2 c3 c4 ln lt F1 N1
      obtain ⟨rfl, rfl⟩ := List.append_eq_nil_iff.mp e0
      k_steps
      obtain ⟨KP, LE⟩ := lex_end kb F1 LX0 (fun e he => N1 e (.tail _ (.tail _ he)))
      exact hret _ _ _ _ KP LE .nil
    · intro c r e0 u1 h' tk' vs' c1 c2 c3 c4 ln lt hC' F1 N1
      obtain ⟨tok', rfl⟩ : ∃ t', tok = c :: t' := by
        cases tok with
        | nil =>
          rcases ht with rfl | ⟨h, _⟩
          · cases e0
          · exact absurd rfl h
        | cons a t' => cases e0; exact ⟨t', rfl⟩
      have er : r = tok' ++ tail := by cases e0; rfl
      subst er
      obtain ⟨p1, p2, p3⟩ := plain_all c (hp c (List.mem_cons_self ..)).1 (hp c (List.mem_cons_self ..))
      have z1 : [c].length ≤ 1000 := by simp
      k_steps
      rename Fr _ _ _ _ => F2
      rename News _ _ _ _ => N2
      refine forLoopA (fun n s' => JSt w base L' x I bm s (c :: tok') tail n s') ?_ tok'.length ⟨[c], tok', _, _, _, _, _, _, _, _, _, _, _, _, rfl, rfl, rfl, hC', F2, (if_neg (by decide)).trans ((if_neg (by decide)).trans hs), (if_neg (by decide)).trans ((if_neg (by decide)).trans hf), rfl, N2⟩
      clear F2 N2
      intro n s' hJ
      obtain ⟨done, rest, h, k, vs2, m2, d1, d2, d3, d4, ln2, lt2, t2, u2, rfl, etok, rfl, hC2, F3, hs3, hf3, hk3, N3⟩ := hJ
      rw [etok] at hl
      have hl2 : (rest ++ tail).length ≤ 1000 := by simp at hl ⊢; omega
      have hd2 : done.length ≤ 1000 := by simp at hl; omega
      refine next_turn B' F3 X' T' LX0 hcb N3 rfl (by omega) (by omega) i1 i2 hC2 hl2 ?_ ?_
      · intro e3 h3 tk3 f3 e3' b1 b2 b3 b4 ln3 lt3 F4 N4
        obtain ⟨rfl, rfl⟩ := List.append_eq_nil_iff.mp e3
        rw [List.append_nil] at etok
        subst etok
        clear F3 N3
        k_steps
        exact ⟨1, by decide, .inr ⟨rfl, _, _, _, _, _, _, _, _, _, _, _, _, rfl, F4, hk3, N4, rfl⟩⟩
      · intro a r3 e3 u3 h3 tk3 vs3 b1 b2 b3 b4 ln3 lt3 hC3 F4 N4
        clear F3 N3
        cases rest with
        | nil =>
          rw [List.append_nil] at etok
          subst etok
          have ea : a = 10 ∧ tail.tail = r3 := by
            rcases ht with rfl | ⟨_, r', rfl⟩
            · cases e3
            · cases e3; exact ⟨rfl, rfl⟩
          obtain ⟨rfl, rfl⟩ := ea
          have w1 := ws_nl
          k_steps
          rename Fr _ _ _ _ => F5
          rename News _ _ _ _ => N5
          obtain ⟨KP, LE⟩ := lex_end kb F5 LX0 (fun e he => N5 e (.tail _ (.tail _ he)))
          exact hret _ _ _ _ KP LE hC3
        | cons a' rest' =>
          have er : a' = a ∧ r3 = rest' ++ tail := by cases e3; exact ⟨rfl, rfl⟩
          obtain ⟨rfl, rfl⟩ := er
          have ha : Plain a' := hp a' (by rw [etok]; simp)
          obtain ⟨p4, p5, p6⟩ := plain_all a' ha.1 ha
          have z2 : [a'].length ≤ 1000 := by simp
          k_steps
          rename Fr _ _ _ _ => F5
          rename News _ _ _ _ => N5
          exact ⟨rest'.length, Nat.lt_succ_self _, done ++ [a'], rest', _, _, _, _, _, _, _, _, _, _, _, _, rfl, by rw [etok]; simp, rfl, hC3, F5, (if_neg (by decide)).trans ((if_neg (by decide)).trans hs3), (if_neg (by decide)).trans ((if_neg (by decide)).trans hf3), rfl, N5⟩
  · obtain ⟨h, k, m, f', e', c1, c2, c3, c4, ln, lt, u, rfl, F1, hk1, N1, rfl⟩ := hO
    refine ci_ended rfl (N1 _ (.head _)).1 fun h' k' => ?_
    have F2 := F1.keeps k'
    have N2 := N1.grown k'
    clear F1 N1
    k_steps
    obtain ⟨KP, LE⟩ := lex_end kb F2 LX0 (fun e he => N2 e (.tail _ (.tail _ he)))
    exact hret _ _ _ _ KP LE .nil
end Mine
end

section
-- M10
open PySem PySem.W PySem.W.X PySem.Calls PyProof.Rows PyProof.Rows.LCg
set_option Elab.async false
set_option maxRecDepth 100000
set_option maxHeartbeats 8000000
namespace Mine
def EEnd (h₀ : Heap) (L : Addr) (m : Str → Option Value) (s : Shared) (e : Addr) (oe : Obj) (it : Addr) (oi : Obj) (C : Addr) (oC : Obj) (D : Addr) (oD : Obj) (news : List (Addr × Obj)) (rest : Value → Prop) (y : Value) (s₂ : Shared) : Prop :=
  ∃ h' tk, s₂ = { s with heap := h', toks := tk } ∧ Fr h₀ L h' m ∧ News h₀ L h' ((e, oe) :: (it, oi) :: (C, oC) :: (D, oD) :: news) ∧ rest y
section
variable {prog : Program} {w : World} {A : Around} {E : Value → Shared → Prop} {s : Shared} {h₀ : Heap} {L : Addr} {m : Str → Option Value} {env : Env} {R : Result → Shared → Prop}
theorem ecLoopT {elt target iter : Expr} {ifs : List Expr} {scope : Scope} {pos : Pos} {it acc : Value} {env : Env} (I : Nat → Shared → Prop)
    (turn : ∀ n s, I n s → wpAny (model prog w) A (pyNext it) (fun r s₁ => match r with
      | none => R (.ok .next) s₁
      | some v => wpAny (model prog w) A (letOwnedTupleGo target it v) (fun _ s₀ => wpAny (model prog w) A (assign target env v) (fun _ s₂ =>
          wpAny (model prog w) A (forIn ifs true fun c r => if r = true then do let ok ← isTrue c env (eval c env); pure (ForInStep.yield ok) else pure (ForInStep.yield r)) (fun ok s₃ =>
            if ok = true then wpAny (model prog w) A (eval elt env) (fun x s₄ =>
              wpAny (model prog w) A (call (.builtin "list.append") [acc, x]) (fun _ s₅ => ∃ m, m < n ∧ I m s₅) (notedBy (model prog w) A env fun e s' => R (.error e) s') s₄) (notedBy (model prog w) A env fun e s' => R (.error e) s') s₃
            else ∃ m, m < n ∧ I m s₃) (notedBy (model prog w) A env fun e s' => R (.error e) s') s₂) (notedBy (model prog w) A env fun e s' => R (.error e) s') s₀) (notedBy (model prog w) A env fun e s' => R (.error e) s') s₁) (notedBy (model prog w) A env fun e s' => R (.error e) s') s)
    (n : Nat) (h : I n s) : codeAny (model prog w) A (.compLoop (.ListComp elt [⟨target, iter, ifs, 0⟩] scope pos) 0 it acc env) R s := by
  refine codeAny_loop rfl I (fun n s hI => ?_) n h
  show wpAny _ A ((compTurn (.ListComp elt [⟨target, iter, ifs, 0⟩] scope pos) 0 it acc env).onRaise (fun x => do noteFrame x env; theTreesLotGoes x)) _ _ s
  refine wpAny_noted ?_
  rw [compTurn_list]
  refine wpAny_bind (wpAny_standAt (wpAny_bind (wpAny_mono (turn n s hI) (fun r s₁ h₁ => ?_) fun _ _ h' => h')))
  cases r with
  | none => exact wpAny_pure h₁
  | some v =>
    refine wpAny_bind (wpAny_mono h₁ (fun _ s₀ h₀' => ?_) fun _ _ h' => h')
    refine wpAny_bind (wpAny_mono h₀' (fun _ s₂ h₂ => wpAny_bind (wpAny_mono h₂ (fun ok s₃ h₃ => ?_) fun _ _ h' => h')) fun _ _ h' => h')
    cases ok with
    | false => exact wpAny_pure ⟨rfl, h₃⟩
    | true =>
      exact wpAny_bind (wpAny_bind (wpAny_mono h₃ (fun x s₄ h₄ => wpAny_bind (wpAny_mono h₄ (fun _ s₅ h₅ => wpAny_pure (wpAny_pure ⟨rfl, h₅⟩)) fun _ _ h' => h')) fun _ _ h' => h'))
theorem ec_blockT {ct elt iter : PySem.Expr} {a b : Str} {pa pb tp : Pos} {kk : Nat} {scope : Scope} {cl : List (Str × Addr)} {pos : Pos} {s₂ : Shared} {e it l : Nat} {vs : List Value} {n : Nat} {news : List (Addr × Obj)}
    {J : Nat → List Value → Prop} {RR : Value → Addr → Result → Shared → Prop}
    (hh : A.handled = none) (hsz : vs.length ≤ sizeLine) (hl : (l, listOf vs.toArray n) ∈ news) (he : IsEnum s₂.heap e it 0 .none) (hit : s₂.heap.IsListIter it l 0) (hie : it < e) (hes : e < s₂.heap.objs.size)
    (hcell : ∀ y ∈ scope.names, y.2 ≠ .cell) (hkind : scope.kind = .function) (hxa : scope.names.lookup a = some .local) (hxb : scope.names.lookup b = some .local) (hab : ¬ a = b)
    (F : Fr h₀ L s₂.heap m) (N : News h₀ L s₂.heap news) (hLi : L < it) (hI₀ : ∀ z, it ≤ z → h₀.get? z = none) (ol : ∀ p ∈ news, p.1 < it) (J0 : J 0 [])
    (R : ∀ (i : Nat) (x : Value) (ys : List Value) (t : Tok) (oe oi : Obj) (C : Nat) (oC : Obj) (D : Nat) (m₂ : Str → Option Value) (h : Heap) (tk : Nat) (E' : Value → Shared → Prop), vs[i]? = some x → J i ys → NsObj oC m₂ → m₂ a = some (.int (i : Int) t) → m₂ b = some x → Fr h₀ L h m →
      News h₀ L h ((e, oe) :: (it, oi) :: (C, oC) :: (D, lst ys) :: news) → (∀ p ∈ news, p.1 < it) → (it < e ∧ e < D ∧ D < C) →
      (let s := s₂; wpAny (model prog w) A (isTrue ct (compEnvC scope cl C env) (eval ct (compEnvC scope cl C env))) (fun ok s' => if ok = true then
        wpAny (model prog w) A (eval elt (compEnvC scope cl C env)) (EEnd h₀ L m s e oe it oi C oC D (lst ys) news fun y => J (i + 1) (ys ++ [y])) E' s'
        else EEnd h₀ L m s e oe it oi C oC D (lst ys) news (fun _ => J (i + 1) ys) Value.none s') E' { s with heap := h, toks := tk }))
    (hRR : ∀ D C h tk m' ys, Fr h₀ L h m → News h₀ L h ((D, lst ys) :: news) → e < D → h.Ns C m' → h₀.get? C = none → h₀.get? D = none → C ≠ L → D ≠ L → C ≠ D → (∀ p ∈ news, p.1 ≠ C) → J vs.length ys → RR (.ref D) C (.ok .next) { s₂ with heap := h, toks := tk }) :
    wpAny (model prog w) A (newList []) (fun acc s₃ => wpAny (model prog w) A (newFunctionEnv scope env.globals cl [] env.qual none .none (some env)) (fun cenv s₄ =>
      codeAny (model prog w) A (.compStart (.ListComp elt [⟨.Tuple [.Name a pa, .Name b pb] kk tp, iter, [ct], 0⟩] scope pos) 0 (.ref e) acc { cenv with scope := relabel scope env }) (RR acc cenv.locals) s₄) E s₃) E s₂ := by
  refine wpAny_newObj_type (wpAny_newFunctionEnv hcell (by intro y hy; simp at hy) (fun h₁ hns₁ hsb₁ => ?_) hkind)
  dsimp only at hns₁ hsb₁ ⊢
  generalize hH2 : s₂.heap.push { cls := .type "list", dict := none, data := .seq ([] : List Value).toArray } = H2 at hns₁ hsb₁ ⊢
  have hC : H2.objs.size = s₂.heap.objs.size + 1 := by rw [← hH2, Heap.size_push]
  have hDC : s₂.heap.objs.size ≠ H2.objs.size := by rw [hC]; exact Nat.ne_of_lt (Nat.lt_succ_self _)
  have below : ∀ b, b < s₂.heap.objs.size → b ≠ H2.objs.size ∧ b ≠ s₂.heap.objs.size := fun b hb => ⟨by rw [hC]; exact Nat.ne_of_lt (Nat.lt_succ_of_lt hb), Nat.ne_of_lt hb⟩
  have hits : it < s₂.heap.objs.size := Nat.lt_trans hie hes
  have old : ∀ b o, s₂.heap.get? b = some o → h₁.get? b = some o := fun b o e => hsb₁.extBut b o (below b (Heap.lt_size e)).1 (Heap.get?_push_of_some _ (hH2 ▸ Heap.get?_push_of_some _ e))
  have hacc : h₁.get? s₂.heap.objs.size = some (lst []) := hsb₁.extBut _ _ hDC (Heap.get?_push_of_some _ (hH2 ▸ Heap.get?_push_size _ rfl))
  have hD₀ : h₀.get? s₂.heap.objs.size = none := hI₀ _ (Nat.le_of_lt hits)
  have hC₀ : h₀.get? H2.objs.size = none := hI₀ _ (by rw [hC]; exact Nat.le_succ_of_le (Nat.le_of_lt hits))
  have he₀ : h₀.get? e = none := hI₀ _ (Nat.le_of_lt hie)
  have hi₀ : h₀.get? it = none := hI₀ _ (Nat.le_refl _)
  have hLlt : L < s₂.heap.objs.size := F.ns.lt
  have hDL : s₂.heap.objs.size ≠ L := Ne.symm (below L hLlt).2
  have hCL : H2.objs.size ≠ L := Ne.symm (below L hLlt).1
  have hLe : L ≠ e := Nat.ne_of_lt (Nat.lt_trans hLi hie)
  have hLit : L ≠ it := Nat.ne_of_lt hLi
  have hCe : e ≠ H2.objs.size := (below e hes).1
  have hDe : e ≠ s₂.heap.objs.size := (below e hes).2
  have hCi : it ≠ H2.objs.size := (below it hits).1
  have hDi : it ≠ s₂.heap.objs.size := (below it hits).2
  have hei : e ≠ it := Nat.ne_of_gt hie
  have hlit : l ≠ it := Nat.ne_of_lt (ol _ hl)
  have hle : l ≠ e := Nat.ne_of_lt (Nat.lt_trans (ol _ hl) hie)
  have oi1 : it < e := hie
  have oi2 : e < s₂.heap.objs.size := hes
  have oi3 : s₂.heap.objs.size < H2.objs.size := by rw [hC]; exact Nat.lt_succ_self _
  have offn : ∀ p ∈ news, p.1 ≠ e ∧ p.1 ≠ it ∧ p.1 ≠ H2.objs.size ∧ p.1 ≠ s₂.heap.objs.size := fun p hp => ⟨Nat.ne_of_lt (Nat.lt_trans (ol p hp) hie), Nat.ne_of_lt (ol p hp), (below _ (Nat.lt_trans (ol p hp) hits)).1, (below _ (Nat.lt_trans (ol p hp) hits)).2⟩
  have W := WalksT.enumerate (prog := prog) (w := w) (A := A) hh e it l hei hle hlit vs.toArray
  have hvs : vs.toArray.size = vs.length := List.size_toArray
  have loop : ∀ s₃ : Shared, s₃ = { s₂ with heap := h₁, toks := s₂.toks + ([] : List (Str × Value)).length } →
      codeAny (model prog w) A (.compLoop (.ListComp elt [⟨.Tuple [.Name a pa, .Name b pb] kk tp, iter, [ct], 0⟩] scope pos) 0 (.ref e) (.ref s₂.heap.objs.size) (compEnvC scope cl H2.objs.size env))
        (RR (.ref s₂.heap.objs.size) H2.objs.size) s₃ := by
    rintro s₃ rfl
    refine ecLoopT
      (fun k s' => ∃ h' tk i ys m', s' = { s₂ with heap := h', toks := tk } ∧ i ≤ vs.length ∧ k = vs.length + 1 - i ∧ ys.length ≤ i ∧ (∃ old, IsEnum h' e it i old) ∧ h'.IsListIter it l i ∧ Fr h₀ L h' m ∧ h'.Ns H2.objs.size m' ∧
        News h₀ L h' ((s₂.heap.objs.size, lst ys) :: news) ∧ J i ys) ?_ (vs.length + 1)
      ⟨h₁, _, 0, [], _, rfl, Nat.zero_le _, rfl, Nat.le_refl _, ⟨_, old _ _ he⟩, (let ⟨o, ho, r⟩ := hit; ⟨o, old _ _ ho, r⟩), F.keeps old, hns₁, fun p hp => ?_, J0⟩
    · rintro k s' ⟨h', tk, i, ys, m', rfl, hi, rfl, hyl, hen, hit', F', hn', N', hJ⟩
      have hl' : h'.IsList l vs.toArray := N'.isList (List.mem_cons_of_mem _ hl)
      by_cases hlt : i < vs.length
      · refine W.item i _ _ _ (by rw [hvs]; exact hlt) ⟨hen, hit', hl'⟩ fun T vals h₂ tk₂ hP _ hT hMd hk₂ => ?_
        refine W.go _ _ _ i T _ _ _ hMd fun h₃ hst₃ hk₃ => ?_
        obtain ⟨t, x, hx', hveq⟩ := hP
        subst hveq
        have hx : vs[i]? = some x := by simpa using hx'
        have hT₃ : h₃.IsTuple T #[.int i t, x] := (let ⟨o, ho, r⟩ := hT; ⟨o, hk₃ T o (W.apart _ _ _ hMd) ho, r⟩)
        have up₃ : ∀ c o, c ≠ e → c ≠ it → h'.get? c = some o → h₃.get? c = some o := fun c o h1 h2 q => hk₃ c o (by simp [h1, h2]) (hk₂ c o (by simp [h1, h2]) q)
        obtain ⟨⟨old', he₃⟩, hit₃, hl₃⟩ := hst₃
        refine kcp_assign (env := compEnvC scope cl H2.objs.size env) hh hT₃ (lookup_relabel_local hxa) (lookup_relabel_local hxb) (by simp [compEnvC, relabel, hkind]) (hn'.at' fun o q => up₃ _ o hCe.symm hCi.symm q) fun h₄ tk₄ hn₄ hs₄ => ?_
        have up : ∀ c o, c ≠ e → c ≠ it → c ≠ H2.objs.size → h'.get? c = some o → h₄.get? c = some o := fun c o h1 h2 h3 q => hs₄ c o h3 (up₃ c o h1 h2 q)
        obtain ⟨oe, heo, hpe⟩ : ∃ oe : Obj, h₄.get? e = some oe ∧ ∀ h : Heap, h.get? e = some oe → ∃ old, IsEnum h e it ((i + 1 : Nat) : Int) old := ⟨_, hs₄ e _ hCe he₃, fun _ q => ⟨_, q⟩⟩
        obtain ⟨oi, hio, hpi⟩ : ∃ oi : Obj, h₄.get? it = some oi ∧ ∀ h : Heap, h.get? it = some oi → h.IsListIter it l (i + 1) := (let ⟨o, ho, r⟩ := hit₃; ⟨o, hs₄ it _ hCi ho, fun _ q => ⟨o, q, r⟩⟩)
        obtain ⟨oC, heC, hoC⟩ := ns_obj hn₄
        have F₄ : Fr h₀ L h₄ m := ⟨F'.ns.at' fun o q => up _ o hLe hLit hCL.symm q, fun c o q => up c o (fun z => by rw [z, he₀] at q; cases q) (fun z => by rw [z, hi₀] at q; cases q) (fun z => by rw [z, hC₀] at q; cases q) (F'.keep c o q), F'.above⟩
        have N₄ : News h₀ L h₄ ((e, oe) :: (it, oi) :: (H2.objs.size, oC) :: (s₂.heap.objs.size, lst ys) :: news) := fun q hq => by
          rcases List.mem_cons.mp hq with rfl | hq
          · exact ⟨heo, hLe.symm, he₀⟩
          rcases List.mem_cons.mp hq with rfl | hq
          · exact ⟨hio, hLit.symm, hi₀⟩
          rcases List.mem_cons.mp hq with rfl | hq
          · exact ⟨heC, hCL, hC₀⟩
          have z := N' q hq
          rcases List.mem_cons.mp hq with rfl | hq
          · exact ⟨up _ _ hDe.symm hDi.symm hDC z.1, z.2⟩
          · exact ⟨up _ _ (offn q hq).1 (offn q hq).2.1 (offn q hq).2.2.1 z.1, z.2⟩
        refine wpAny_tests_one ?_
        refine wpAny_mono (R i x ys t oe oi H2.objs.size oC s₂.heap.objs.size _ h₄ _ _ hx hJ hoC (by simp [hab]) (by simp) F₄ N₄ ol ⟨oi1, oi2, oi3⟩) (fun ok s₅ h₅ => ?_) fun _ _ e => e
        cases ok with
        | false =>
          simp only [Bool.false_eq_true, if_false] at h₅ ⊢
          obtain ⟨h₅, tk₅, rfl, F₅, N₅, hJ'⟩ := h₅
          have ze := (N₅ (e, oe) List.mem_cons_self).1
          have zi := (N₅ (it, oi) (List.mem_cons_of_mem _ List.mem_cons_self)).1
          have zC := (N₅ (H2.objs.size, oC) (List.mem_cons_of_mem _ (List.mem_cons_of_mem _ List.mem_cons_self))).1
          refine ⟨vs.length + 1 - (i + 1), by omega, h₅, tk₅, i + 1, ys, _, rfl, hlt, rfl, Nat.le_succ_of_le hyl, hpe h₅ ze, hpi h₅ zi, F₅, hoC.ns zC, fun q hq => N₅ q (List.mem_cons_of_mem _ (List.mem_cons_of_mem _ (List.mem_cons_of_mem _ hq))), hJ'⟩
        | true =>
        simp only [if_true] at h₅ ⊢
        refine wpAny_mono h₅ (fun y s₆ h₆ => ?_) fun _ _ e => e
        obtain ⟨h₅, tk₅, rfl, F₅, N₅, hJ'⟩ := h₆
        have ze := (N₅ (e, oe) List.mem_cons_self).1
        have zi := (N₅ (it, oi) (List.mem_cons_of_mem _ List.mem_cons_self)).1
        have zC := (N₅ (H2.objs.size, oC) (List.mem_cons_of_mem _ (List.mem_cons_of_mem _ List.mem_cons_self))).1
        have zD := (N₅ (s₂.heap.objs.size, lst ys) (List.mem_cons_of_mem _ (List.mem_cons_of_mem _ (List.mem_cons_of_mem _ List.mem_cons_self)))).1
        have N₅' : News h₀ L h₅ news := fun q hq => N₅ q (List.mem_cons_of_mem _ (List.mem_cons_of_mem _ (List.mem_cons_of_mem _ (List.mem_cons_of_mem _ hq))))
        refine append_at (hsz := by show ys.toArray.size ≤ sizeLine; rw [List.size_toArray]; exact Nat.le_trans hyl (Nat.le_trans hi hsz)) zD fun h₆ hs₆ hD₆ => ?_
        refine ⟨vs.length + 1 - (i + 1), by omega, h₆, tk₅, i + 1, ys ++ [y], _, rfl, hlt, rfl, by rw [List.length_append, List.length_singleton]; exact Nat.succ_le_succ hyl, hpe h₆ (hs₆.extBut e oe hDe ze), hpi h₆ (hs₆.extBut it oi hDi zi), F₅.change hs₆ hDL hD₀,
          (hoC.ns zC).sameBut hs₆ (Ne.symm hDC), fun q hq => ?_, hJ'⟩
        rcases List.mem_cons.mp hq with rfl | hq
        · exact ⟨hD₆.trans (congrArg some (lst_snoc ys y)), hDL, hD₀⟩
        · exact ⟨hs₆.extBut _ _ (offn q hq).2.2.2 (N₅' q hq).1, (N₅' q hq).2⟩
      · have hin : i = vs.length := Nat.le_antisymm hi (Nat.not_lt.mp hlt)
        subst hin
        refine W.done _ _ _ ⟨by rw [hvs]; exact hen, by rw [hvs]; exact hit', hl'⟩ fun h₂ tk₂ hk₂ => ?_
        have up : ∀ c o, c ≠ e → c ≠ it → h'.get? c = some o → h₂.get? c = some o := fun c o h1 h2 q => hk₂ c o (by simp [h1, h2]) q
        have F₂ : Fr h₀ L h₂ m := ⟨F'.ns.at' fun o q => up _ o hLe hLit q, fun c o q => up c o (fun z => by rw [z, he₀] at q; cases q) (fun z => by rw [z, hi₀] at q; cases q) (F'.keep c o q), F'.above⟩
        refine hRR s₂.heap.objs.size H2.objs.size h₂ tk₂ _ ys F₂ (fun q hq => ?_) hes (hn'.at' fun o q => up _ o hCe.symm hCi.symm q) hC₀ hD₀ hCL hDL (Ne.symm hDC) (fun p hp => (offn p hp).2.2.1) hJ
        have z := N' q hq
        rcases List.mem_cons.mp hq with rfl | hq
        · exact ⟨up _ _ hDe.symm hDi.symm z.1, z.2⟩
        · exact ⟨up _ _ (offn q hq).1 (offn q hq).2.1 z.1, z.2⟩
    · rcases List.mem_cons.mp hp with rfl | hp
      · exact ⟨hacc, hDL, hD₀⟩
      · exact ⟨old _ _ (N p hp).1, (N p hp).2⟩
  exact codeAny_compStart_list (loop _ rfl) (W.self 0 _ _ _ ⟨⟨_, old _ _ he⟩, (let ⟨o, ho, r⟩ := hit; ⟨o, old _ _ ho, r⟩), (let ⟨o, ho, r⟩ := N.isList hl; ⟨o, old _ _ ho, r⟩)⟩ (loop _ rfl))
end
end Mine
end

section
-- M11
open PySem PySem.W PySem.W.X PySem.Calls PyProof.Rows PyProof.Rows.LCg
set_option Elab.async false
set_option maxRecDepth 100000
set_option maxHeartbeats 8000000
namespace Mine
/-- what one turn of the comprehension must do -/
def ETurnT (prog : Program) (w : World) (A : Around) (h₀ : Heap) (L : Addr) (m : Str → Option Value) (env : Env) (ct : Expr) (elt : Expr) (a b : Str) (scope : Scope) (cl : List (Str × Addr)) (s : Shared) (e it : Nat) (vs : List Value) (news : List (Addr × Obj)) (J : Nat → List Value → Prop) : Prop :=
  ∀ (i : Nat) (x : Value) (ys : List Value) (t : Tok) (oe oi : Obj) (C : Nat) (oC : Obj) (D : Nat) (m₂ : Str → Option Value) (h : Heap) (tk : Nat) (E' : Value → Shared → Prop), vs[i]? = some x → J i ys → NsObj oC m₂ → m₂ a = some (.int (i : Int) t) → m₂ b = some x → Fr h₀ L h m →
      News h₀ L h ((e, oe) :: (it, oi) :: (C, oC) :: (D, lst ys) :: news) → (∀ p ∈ news, p.1 < it) → (it < e ∧ e < D ∧ D < C) →
      wpAny (model prog w) A (isTrue ct (compEnvC scope cl C env) (eval ct (compEnvC scope cl C env))) (fun ok s' => if ok = true then
        wpAny (model prog w) A (eval elt (compEnvC scope cl C env)) (EEnd h₀ L m s e oe it oi C oC D (lst ys) news fun y => J (i + 1) (ys ++ [y])) E' s'
        else EEnd h₀ L m s e oe it oi C oC D (lst ys) news (fun _ => J (i + 1) ys) Value.none s') E' { s with heap := h, toks := tk }
def ESrcT (prog : Program) (w : World) (A : Around) (h₀ : Heap) (L : Addr) (m : Str → Option Value) (env : Env) (ct : Expr) (elt : Expr) (a b : Str) (scope : Scope) (cl : List (Str × Addr)) (Q : Value → Shared → Prop) (xv : Value) (s : Shared) : Prop :=
  ∃ (e it l : Nat) (vs : List Value) (n : Nat) (news : List (Addr × Obj)) (J : Nat → List Value → Prop), xv = .ref e ∧ A.handled = none ∧ vs.length ≤ sizeLine ∧ (l, listOf vs.toArray n) ∈ news ∧ IsEnum s.heap e it 0 .none ∧ s.heap.IsListIter it l 0 ∧ it < e ∧ e < s.heap.objs.size ∧ Fr h₀ L s.heap m ∧ News h₀ L s.heap news ∧
    L < it ∧ (∀ z, it ≤ z → h₀.get? z = none) ∧ (∀ p ∈ news, p.1 < it) ∧ J 0 [] ∧ (ETurnT prog w A h₀ L m env ct elt a b scope cl s e it vs news J) ∧
    ∀ (D : Nat) ys h tk, Fr h₀ L h m → News h₀ L h ((D, lst ys) :: news) → e < D → (∀ p ∈ news, p.1 < D) → J vs.length ys → Q (.ref D) { s with heap := h, toks := tk }
section
variable {prog : Program} {w : World} {A : Around} {E : Value → Shared → Prop} {s : Shared} {h₀ : Heap} {L : Addr} {m : Str → Option Value} {env : Env}
theorem ec_ListCompT {ct elt iter : PySem.Expr} {a b : Str} {pa pb tp : Pos} {kk : Nat} {scope : Scope} {cl : List (Str × Addr)} {pos : Pos} {Q : Value → Shared → Prop} (_F₀ : Fr h₀ L s.heap m)
    (hclos : closureFor scope env = pure cl) (hcell : ∀ y ∈ scope.names, y.2 ≠ .cell) (hkind : scope.kind = .function)
    (hnames : ∀ y ∈ scope.names, y.2 = .local → scope.names.lookup y.1 = some .local) (hxa : scope.names.lookup a = some .local) (hxb : scope.names.lookup b = some .local) (hab : ¬ a = b)
    (h : wpAny (model prog w) A (eval iter env) (ESrcT prog w A h₀ L m env ct elt a b scope cl Q) E s)
    (hs : ∀ x, foldedSetIterable iter env x = pure x := by intro _; rfl) :
    wpAny (model prog w) A (eval (.ListComp elt [⟨.Tuple [.Name a pa, .Name b pb] kk tp, iter, [ct], 0⟩] scope pos) env) Q E s := by
  rw [eval_ListComp]
  refine wpAny_comprehension_free (use := none) rfl hs hclos hkind hnames (wpAny_mono h (fun xv s₁ h₁ => ?_) fun _ _ e => e)
  obtain ⟨e, it, l, vs, n, news, J, rfl, hh, hsz, hl, he, hit, hie, hes, F, N, hLi, hI₀, ol, J0, R, fin⟩ := h₁
  refine wpAny_pyIter_enum he ?_
  refine ec_blockT hh hsz hl he hit hie hes hcell hkind hxa hxb hab F N hLi hI₀ ol J0 R ?_
  intro D C h tk m' ys F' N' heD hn hC₀ hD₀ hCL hDL hCD offC hJ
  refine ⟨m', hn, fun h'' hs'' => fin D ys h'' tk (F'.change hs'' hCL hC₀) (fun p hp => ?_) heD (fun p hp => Nat.lt_trans (ol p hp) (Nat.lt_trans hie heD)) hJ⟩
  refine ⟨hs''.extBut _ _ ?_ (N' p hp).1, (N' p hp).2⟩
  rcases List.mem_cons.mp hp with rfl | hp
  · exact Ne.symm hCD
  · exact offC p hp
theorem ec_enumT {ct elt : PySem.Expr} {a b : Str} {scope : Scope} {cl : List (Str × Addr)} {Q : Value → Shared → Prop} {l n : Nat} {vs : List Value} {news : List (Addr × Obj)} (J : Nat → List Value → Prop) (hh : A.handled = none) (F : Fr h₀ L s.heap m) (N : News h₀ L s.heap news)
    (hl : (l, listOf vs.toArray n) ∈ news) (hsz : vs.length ≤ 1000) (J0 : J 0 []) (R : ∀ (s₁ : Shared) (e it : Nat), (∃ h, s₁ = { s with heap := h }) → ETurnT prog w A h₀ L m env ct elt a b scope cl s₁ e it vs news J)
    (fin : ∀ (D : Nat) ys h tk, Fr h₀ L h m → News h₀ L h ((D, lst ys) :: news) → (∀ p ∈ news, p.1 < D) → J vs.length ys → Q (.ref D) { s with heap := h, toks := tk }) :
    wpAny (model prog w) A (call (.type "enumerate") [.ref l]) (ESrcT prog w A h₀ L m env ct elt a b scope cl Q) E s := by
  refine call_enumerate_list (News.isList N hl) fun h' hE hI hsz' hk => ?_
  refine ⟨s.heap.objs.size + 1, s.heap.objs.size, l, vs, n, news, J, rfl, hh, Nat.le_trans hsz (by decide), hl, hE, hI, Nat.lt_succ_self _, ?_, F.keeps hk, N.grown hk, F.ns.lt, fun z hz => ktu_new F hz, fun p hp => Heap.lt_size (N p hp).1, J0, R _ _ _ ⟨_, rfl⟩, fun D ys h tk F' N' _ o hJ => fin D ys h tk F' N' o hJ⟩
  show s.heap.objs.size + 1 < h'.objs.size
  rw [hsz']
  exact Nat.lt_succ_self _
end
end Mine
end

section
-- P0
open PySem PySem.W PySem.W.X PySem.Calls PyProof.Rows
set_option Elab.async false
namespace Mine
/-- a car: its name's parts, its rank -/
structure Car where
  o : List Nat
  c : List Nat
  r : Nat
  nm : Named o c
  rk : Builtin.bitAnd (octV o : Nat) 4095 = (r : Int)
abbrev Car.path (a : Car) : List Nat := pathL a.o a.c
theorem Car.path_ne (a : Car) : a.path ≠ [] := by simp [Car.path, pathL, dirL]
theorem Car.path_len (a : Car) : a.path.length ≤ 30 := by
  have := a.nm.len
  have := a.nm.clen
  simp [Car.path, pathL, dirL]; omega
/-- the text of a row of cars -/
def flat : List Car → List Nat
  | [] => []
  | [a] => a.path
  | a :: b :: r => a.path ++ 10 :: flat (b :: r)
def flatTail : List Car → List Nat
  | [] => []
  | b :: r => 10 :: flat (b :: r)
theorem flat_cons (a : Car) (r : List Car) : flat (a :: r) = a.path ++ flatTail r := by
  cases r with
  | nil => simp [flat, flatTail]
  | cons b r => rfl
theorem flatTail_tail (r : List Car) : (flatTail r).tail = flat r := by cases r <;> rfl
theorem flat_len : ∀ l : List Car, (flat l).length ≤ 31 * l.length
  | [] => Nat.le_refl _
  | [a] => by have := a.path_len; simp [flat]; omega
  | a :: b :: r => by
    have := flat_len (b :: r)
    have := a.path_len
    simp [flat] at *; omega
/-- the first line whose last car is no higher -/
def fitAt (lasts : List Nat) (r : Nat) : Nat := lasts.findIdx (fun l => decide (l ≤ r))
def fitsL (lasts : List Nat) (r : Nat) (i : Nat) : List Nat := (List.range i).filter (fun k => decide (lasts.getD k 0 ≤ r))
theorem fitsL_succ (lasts : List Nat) (r i : Nat) : fitsL lasts r (i + 1) = fitsL lasts r i ++ (if lasts.getD i 0 ≤ r then [i] else []) := by
  unfold fitsL
  rw [List.range_succ, List.filter_append]
  congr 1
  by_cases h : lasts.getD i 0 ≤ r
  · rw [if_pos h, List.filter_cons_of_pos (by simpa using h)]; rfl
  · rw [if_neg h, List.filter_cons_of_neg (by simpa using h)]; rfl
theorem fitAt_le (lasts : List Nat) (r : Nat) : fitAt lasts r ≤ lasts.length := List.findIdx_le_length
theorem fits_head (lasts : List Nat) (r : Nat) : ∃ l, fitsL lasts r lasts.length ++ [lasts.length] = fitAt lasts r :: l := by
  cases e : fitsL lasts r lasts.length with
  | nil =>
    refine ⟨[], ?_⟩
    have h : fitAt lasts r = lasts.length := by
      refine List.findIdx_eq_length.mpr fun x hx => ?_
      obtain ⟨k, hk, rfl⟩ := List.mem_iff_getElem.mp hx
      have := List.filter_eq_nil_iff.mp e k (List.mem_range.mpr hk)
      simpa [hk] using this
    rw [h]; rfl
  | cons a tl =>
    refine ⟨tl ++ [lasts.length], ?_⟩
    have hf : (List.range lasts.length).find? (fun k => decide (lasts.getD k 0 ≤ r)) = some a := by
      rw [← List.head?_filter]
      show (fitsL lasts r lasts.length).head? = some a
      rw [e]; rfl
    obtain ⟨h1, h2, h3⟩ := List.find?_range_eq_some.mp hf
    have ha : a < lasts.length := List.mem_range.mp h2
    have h : fitAt lasts r = a := by
      refine (List.findIdx_eq ha).mpr ⟨by simpa [ha] using h1, fun j hj => ?_⟩
      have hj' : j < lasts.length := Nat.lt_trans hj ha
      simpa [hj'] using h3 j hj
    rw [h]; rfl
inductive NatsAre : List Value → List Nat → Prop
  | nil : NatsAre [] []
  | cons (n : Nat) (t : Tok) {vs : List Value} {l : List Nat} (h : NatsAre vs l) : NatsAre (.int (n : Int) t :: vs) (n :: l)
theorem NatsAre.snoc {vs : List Value} {l : List Nat} (h : NatsAre vs l) (n : Nat) (t : Tok) : NatsAre (vs ++ [.int (n : Int) t]) (l ++ [n]) := by
  induction h with
  | nil => exact .cons n t .nil
  | cons a u h ih => exact .cons a u ih
theorem NatsAre.len {vs : List Value} {l : List Nat} (h : NatsAre vs l) : vs.length = l.length := by
  induction h with
  | nil => rfl
  | cons a u h ih => simp [ih]
theorem NatsAre.get {vs : List Value} {l : List Nat} (h : NatsAre vs l) : ∀ (i : Nat) (v : Value), vs[i]? = some v → ∃ t, v = .int ((l.getD i 0 : Nat) : Int) t := by
  induction h with
  | nil => intro i v e; simp at e
  | cons a u h ih =>
    intro i v e
    cases i with
    | zero => simp at e; exact ⟨u, by simp [← e]⟩
    | succ i => simpa using ih i v (by simpa using e)
theorem NatsAre.set {vs : List Value} {l : List Nat} (h : NatsAre vs l) : ∀ (i n : Nat) (t : Tok), NatsAre (vs.set i (.int (n : Int) t)) (l.set i n) := by
  induction h with
  | nil => intro i n t; exact .nil
  | cons a u h ih =>
    intro i n t
    cases i with
    | zero => exact .cons n t h
    | succ i => exact .cons a u (ih i n t)
end Mine
end

section
-- L1
open PySem PySem.W PySem.W.X PySem.Calls PyProof.Rows
set_option Elab.async false
set_option maxRecDepth 100000
set_option maxHeartbeats 8000000
namespace Mine
section
variable {prog : Program} {w : World} {A : Around} {E : Value → Shared → Prop} {s : Shared} {h₀ : Heap} {L a b D : Addr} {m : Str → Option Value} {news news' : List (Addr × Obj)} {n n1 n2 : Nat} {vs xs ys : List Value} {v : Value} {u : Tok} {Q : Value → Shared → Prop}
theorem len_K (N : News h₀ L s.heap news) (hm : (a, listOf vs.toArray n) ∈ news) (hsz : vs.length ≤ 1000) (h : ∀ t k, Q (.int (vs.length : Int) t) { s with toks := k }) : wpAny (model prog w) A (call (.builtin "len") [.ref a]) Q E s := by
  refine len_list (News.isList N hm) (by rw [List.size_toArray]; omega) ?_
  rw [List.size_toArray]
  exact h _ _
theorem cat_K (F : Fr h₀ L s.heap m) (N : News h₀ L s.heap news) (ha : (a, listOf xs.toArray n1) ∈ news) (hb : (b, listOf ys.toArray n2) ∈ news) (h1 : xs.length ≤ 1000) (h2 : ys.length ≤ 1000)
    (h : ∀ D h', Fr h₀ L h' m → News h₀ L h' ((D, listOf (xs ++ ys).toArray 0) :: news) → (∀ p ∈ news, p.1 < D) → Q (.ref D) { s with heap := h' }) : wpAny (model prog w) A (binaryOp .Add (.ref a) (.ref b)) Q E s := by
  refine PySem.P.add_list (N _ ha).1 (N _ hb).1 ?_ (by rw [List.size_toArray, List.size_toArray]; exact Nat.le_trans (Nat.add_le_add h1 h2) (by decide))
  rw [List.append_toArray]
  exact h _ _ (F.push _) (News.push F N _ rfl) (fun q hq => Heap.lt_size (N q hq).1)
theorem item_K {value slice : Expr} {i : Nat} (N : News h₀ L s.heap news) (hm : (a, listOf vs.toArray n) ∈ news) (hx : vs[i]? = some v) (hi : i ≤ 1000) (h : Q v s)
    (hs : subscripted slice false (.ref a) (.int (i : Int) u) = operate [.ref a, .int (i : Int) u] (getItem (.ref a) (.int (i : Int) u)) := by with_unfolding_all rfl) (hg : ∀ r, letTemporaryGo value (.ref a) r = pure () := by intro _; with_unfolding_all rfl) :
    wpAny (model prog w) A (subscriptTail value slice (.ref a) (.int (i : Int) u)) Q E s :=
  item_list (News.isList N hm) (by omega) (by omega) (by simpa using hx) h hs hg
theorem item0_K {value slice : Expr} (N : News h₀ L s.heap news) (hm : (a, listOf (v :: vs).toArray n) ∈ news) (h : Q v s)
    (hs : subscripted slice false (.ref a) (.int 0 u) = operate [.ref a, .int 0 u] (getItem (.ref a) (.int 0 u)) := by with_unfolding_all rfl) (hg : ∀ r, letTemporaryGo value (.ref a) r = pure () := by intro _; with_unfolding_all rfl) :
    wpAny (model prog w) A (subscriptTail value slice (.ref a) (.int 0 u)) Q E s :=
  item_list (News.isList N hm) (by omega) (by omega) (by simp) h hs hg
theorem ki_setL_is : ∀ (vs : List Value) (i : Nat) (v : Value), i < vs.length → ki_setL vs i v = some (vs.set i v)
  | [], _, _, h => by simp at h
  | x :: r, 0, v, _ => rfl
  | x :: r, i + 1, v, h => by
    unfold ki_setL
    rw [ki_setL_is r i v (by simpa using h)]
    rfl
theorem set_K {i : Nat} {Q : Unit → Shared → Prop} (F : Fr h₀ L s.heap m) (N : News h₀ L s.heap news) (U : Upd D (listOf vs.toArray n) (listOf (vs.set i v).toArray n) news news') (hi : i < vs.length) (hsz : vs.length ≤ 1000)
    (h : ∀ h', Fr h₀ L h' m → News h₀ L h' news' → Q () { s with heap := h' }) : wpAny (model prog w) A (setItem (.ref D) (.int (i : Int) u) v) Q E s :=
  ki_set (its := vs.toArray) (q := vs.set i v) F N (by omega) (by omega) (by simpa using ki_setL_is vs i v hi) U h
end
end Mine
end

section
-- M12
open PySem PySem.W PySem.W.X PySem.Calls PyProof.Rows
set_option Elab.async false
set_option maxRecDepth 100000
set_option maxHeartbeats 8000000
namespace Mine
/-- own is the tail of a ledger; each entry ahead of it lies elsewhere -/
inductive TailF (own : List (Addr × Obj)) : List (Addr × Obj) → (List (Addr × Obj) → List (Addr × Obj)) → Prop
  | base : TailF own own (fun o => o)
  | cons {p : Addr × Obj} {r : List (Addr × Obj)} {g : List (Addr × Obj) → List (Addr × Obj)} : (∀ q ∈ own, q.1 ≠ p.1) → TailF own r g → TailF own (p :: r) (fun o => p :: g o)
theorem TailF.split {own : List (Addr × Obj)} : ∀ {l : List (Addr × Obj)} {g : List (Addr × Obj) → List (Addr × Obj)}, TailF own l g → ∃ pre, l = pre ++ own ∧ (∀ o, g o = pre ++ o) ∧ ∀ p ∈ pre, ∀ q ∈ own, q.1 ≠ p.1
  | _, _, .base => ⟨[], rfl, fun _ => rfl, fun _ hp => nomatch hp⟩
  | _, _, .cons (p := p) n r =>
    let ⟨pre, a, b, c⟩ := r.split
    ⟨p :: pre, by rw [a]; rfl, fun o => congrArg (p :: ·) (b o), fun q hq => by rcases List.mem_cons.mp hq with rfl | hq; exact n; exact c q hq⟩
def LexO (w : World) (own : List (Addr × Obj)) (x : LA) (pb vs : List Value) : Prop := ∃ c1 c2 c3 c4 ln lt, ∀ e ∈ lexL w x c1 c2 c3 c4 ln lt pb vs, e ∈ own
structure LexS (w : World) (x : LA) : Prop where
  clo : x.clo.data = .cell (some (.ref x.a))
  next : NextOk w x.fo x.cell x.cd x.oc
  o1 : x.cell < x.a
  o2 : x.a < x.d1
  o3 : x.d1 < x.x1
  o4 : x.x1 < x.f
  o5 : x.f < x.d
  o6 : x.d < x.q
  o7 : x.q < x.p
  ncd : ∀ e ∈ fp x, e ≠ x.cd
  fn : IsFn x.fo
theorem Lex.s {w : World} {h : Heap} {x : LA} {pb vs : List Value} (X : Lex w h x pb vs) : LexS w x := ⟨X.clo, X.next, X.o1, X.o2, X.o3, X.o4, X.o5, X.o6, X.o7, X.ncd, X.fn⟩
theorem LexS.lex {w : World} {h : Heap} {x : LA} {pb vs : List Value} {own : List (Addr × Obj)} (X : LexS w x) (o : LexO w own x pb vs) (k : ∀ e ∈ own, h.get? e.1 = some e.2) (c : h.get? x.cd = some x.oc) : Lex w h x pb vs :=
  let ⟨c1, c2, c3, c4, ln, lt, m⟩ := o
  ⟨⟨c1, c2, c3, c4, ln, lt, fun e he => k e (m e he)⟩, X.clo, c, X.next, X.o1, X.o2, X.o3, X.o4, X.o5, X.o6, X.o7, X.ncd, X.fn⟩
theorem LexO.fp {w : World} {own : List (Addr × Obj)} {x : LA} {pb vs : List Value} (o : LexO w own x pb vs) : ∀ a ∈ fp x, ∃ q ∈ own, q.1 = a := fun a ha => by
  obtain ⟨c1, c2, c3, c4, ln, lt, m⟩ := o
  obtain ⟨q, hq, e⟩ : ∃ q ∈ lexL w x c1 c2 c3 c4 ln lt pb vs, q.1 = a := List.mem_map.mp (show a ∈ (lexL w x c1 c2 c3 c4 ln lt pb vs).map (·.1) from ha)
  exact ⟨q, m q hq, e⟩
/-- x's parts have moved, the other ones stand; no new address -/
structure Moved1 (w : World) (own own' : List (Addr × Obj)) (x : LA) (pb' vs' : List Value) : Prop where
  lex : LexO w own' x pb' vs'
  rest : ∀ e ∈ own, e.1 ∉ fp x → e ∈ own'
  addr : ∀ e ∈ own', ∃ q ∈ own, q.1 = e.1
theorem Moved1.off {w : World} {own own' : List (Addr × Obj)} {x : LA} {pb vs : List Value} (M : Moved1 w own own' x pb vs) {a : Addr} (h : ∀ q ∈ own, q.1 ≠ a) : ∀ q ∈ own', q.1 ≠ a := fun q hq => by
  obtain ⟨z, hz, e⟩ := M.addr q hq
  rw [← e]
  exact h z hz
theorem Moved1.other {w : World} {own own' : List (Addr × Obj)} {x y : LA} {pb vs pb2 vs2 : List Value} (M : Moved1 w own own' x pb vs) (o : LexO w own y pb2 vs2) (dj : ∀ a ∈ fp y, a ∉ fp x) : LexO w own' y pb2 vs2 := by
  obtain ⟨c1, c2, c3, c4, ln, lt, m⟩ := o
  exact ⟨c1, c2, c3, c4, ln, lt, fun e he => M.rest e (m e he) (dj _ (List.mem_map_of_mem (f := (·.1)) he))⟩
section
variable {w : World} {d dp un : Nat} {gd : Option (List Code)} {outer : List Env} {b0 h₀ : Heap} {s : Shared} {news own : List (Addr × Obj)} {gf : List (Addr × Obj) → List (Addr × Obj)} {L : Addr} {m : Str → Option Value} {p : Program} {loose : List Str} {mean : ExcName → Option Value} {mg mb : Str → Option Value}
  {cn : Str} {cs : Scope} {fa0 : Addr} {ccd : Value} {cl : List (Str × Addr)} {x : LA} {pb vs : List Value} {Q E : Value → Shared → Prop}
theorem moved_mk {h' : Heap} {pb' vs' : List Value} (F : Fr h₀ L s.heap m) (N : News h₀ L s.heap news) (U : TailF own news gf) (o : LexO w own x pb vs) (K : Keep x s.heap h') (LX : Lex w h' x pb' vs') :
    ∃ own', Fr h₀ L h' m ∧ News h₀ L h' (gf own') ∧ Moved1 w own own' x pb' vs' := by
  classical
  obtain ⟨pre, rfl, hg, hn⟩ := U.split
  have fo := o.fp
  have nL : L ∉ fp x := fun q => by
    obtain ⟨z, hz, e⟩ := fo _ q
    exact (N z (List.mem_append_right _ hz)).2.1 e
  have nb : ∀ b oo, h₀.get? b = some oo → b ∉ fp x := fun b oo e q => by
    obtain ⟨z, hz, e'⟩ := fo _ q
    have := (N z (List.mem_append_right _ hz)).2.2
    rw [e', e] at this; cases this
  obtain ⟨c1, c2, c3, c4, ln, lt, pt⟩ := LX.parts
  refine ⟨lexL w x c1 c2 c3 c4 ln lt pb' vs' ++ own.filter (fun e => decide (e.1 ∉ fp x)), ⟨F.ns.at fun oo e => K L oo nL e, fun b oo e => K b oo (nb b oo e) (F.keep b oo e), F.above⟩, fun z hz => ?_, ?_⟩
  · rw [hg] at hz
    rcases List.mem_append.mp hz with hz | hz
    · refine ⟨K _ _ (fun q => ?_) (N z (List.mem_append_left _ hz)).1, (N z (List.mem_append_left _ hz)).2⟩
      obtain ⟨y, hy, e⟩ := fo _ q
      exact hn z hz y hy e
    rcases List.mem_append.mp hz with hz | hz
    · have hm : z.1 ∈ fp x := List.mem_map_of_mem (f := (·.1)) hz
      obtain ⟨y, hy, e⟩ := fo _ hm
      have := (N y (List.mem_append_right _ hy)).2
      rw [e] at this
      exact ⟨pt z hz, this⟩
    · obtain ⟨hz1, hz2⟩ := List.mem_filter.mp hz
      have z3 := N z (List.mem_append_right _ hz1)
      exact ⟨K _ _ (by simpa using hz2) z3.1, z3.2⟩
  · refine ⟨⟨c1, c2, c3, c4, ln, lt, fun e he => List.mem_append_left _ he⟩, fun e he ne => List.mem_append_right _ (List.mem_filter.mpr ⟨he, by simpa using ne⟩), fun e he => ?_⟩
    rcases List.mem_append.mp he with he | he
    · exact fo _ (List.mem_map_of_mem (f := (·.1)) he)
    · exact ⟨e, (List.mem_filter.mp he).1, rfl⟩
theorem lex_here (F : Fr h₀ L s.heap m) (N : News h₀ L s.heap news) (U : TailF own news gf) (S' : LexS w x) (o : LexO w own x pb vs) (hcd : h₀.get? x.cd = some x.oc) : Lex w s.heap x pb vs := by
  obtain ⟨pre, rfl, _, _⟩ := U.split
  exact S'.lex o (fun e he => (N e (List.mem_append_right _ he)).1) (F.keep _ _ hcd)
theorem fp_hid (U : TailF own news gf) (o : LexO w own x pb vs) : ∀ e ∈ fp x, (hideAll s.heap (news.map (·.1))).get? e = none := fun e he => by
  obtain ⟨pre, rfl, _, _⟩ := U.split
  obtain ⟨z, hz, rfl⟩ := o.fp e he
  exact hideAll_none _ (List.mem_map_of_mem (List.mem_append_right _ hz))
/-- get_token on the stream, from a frame -/
theorem tok_use {tok tail : List Nat} (B : Below (AR dp un gd outer) b0 outer h₀) (F : Fr h₀ L s.heap m) (X : (hd.heap_1 w.params).In h₀) (N : News h₀ L s.heap news) (T : Top p loose mean mg mb h₀) (hk : cs.kind = .function)
    (hd1 : dp + 1 + 4 < recursionLimit) (hu : un + 3 + 8 * 4 < cLine) (U : TailF own news gf) (S' : LexS w x) (o : LexO w own x [] vs) (hcd : h₀.get? x.cd = some x.oc)
    (hC : Chars vs (tok ++ tail)) (hl : (tok ++ tail).length ≤ 1000) (hp : ∀ c ∈ tok, Plain c) (ht : tail = [] ∨ (tok ≠ [] ∧ ∃ r, tail = 10 :: r))
    (ret : ∀ t own' h' tk' vs', Fr h₀ L h' m → News h₀ L h' (gf own') → Moved1 w own own' x [] vs' → Chars vs' tail.tail → Q (.str (S tok) t) { s with heap := h', toks := tk' }) :
    wpAny (model PySem.Challenge.rw_un0024_01.row.prog w) ((AR dp un gd outer).deeper (envX cn cs L fa0 ccd cl)) (call (.ref 49) [.ref x.q]) Q E s := by
  obtain ⟨Ta, _, _⟩ := at_frame (env := envX cn cs L fa0 ccd cl) (d := 4) B F X N T rfl hk hd1 hu
  refine tok_c w x vs tok tail (dp + 1) (un + 3) gd (envX cn cs L fa0 ccd cl :: outer) _ s Q E Ta (fun b o e => of_hideAll _ e) (lex_here F N U S' o hcd) (fp_hid U o) hC hl hp ht fun t h' tk' vs' K LX hC' => ?_
  obtain ⟨own', F', N', M⟩ := moved_mk F N U o K LX
  exact ret t own' h' tk' vs' F' N' M hC'
theorem push_use {y : Value} (B : Below (AR dp un gd outer) b0 outer h₀) (F : Fr h₀ L s.heap m) (X : (hd.heap_1 w.params).In h₀) (N : News h₀ L s.heap news) (T : Top p loose mean mg mb h₀) (hk : cs.kind = .function)
    (hd1 : dp + 1 + 1 < recursionLimit) (hu : un + 3 + 8 * 1 < cLine) (U : TailF own news gf) (S' : LexS w x) (o : LexO w own x pb vs) (hcd : h₀.get? x.cd = some x.oc) (hl : pb.length ≤ 1000)
    (ret : ∀ own' h' tk', Fr h₀ L h' m → News h₀ L h' (gf own') → Moved1 w own own' x (pb ++ [y]) vs → Q .none { s with heap := h', toks := tk' }) :
    wpAny (model PySem.Challenge.rw_un0024_01.row.prog w) ((AR dp un gd outer).deeper (envX cn cs L fa0 ccd cl)) (call (.ref 56) [.ref x.q, y]) Q E s := by
  obtain ⟨Ta, _, _⟩ := at_frame (env := envX cn cs L fa0 ccd cl) (d := 1) B F X N T rfl hk hd1 hu
  refine push_c w x pb vs y (dp + 1) (un + 3) gd (envX cn cs L fa0 ccd cl :: outer) _ s Q E Ta (fun b o e => of_hideAll _ e) (lex_here F N U S' o hcd) (fp_hid U o) hl fun h' tk' K LX => ?_
  obtain ⟨own', F', N', M⟩ := moved_mk F N U o K LX
  exact ret own' h' tk' F' N' M
theorem get_use {v : Value} {r : List Value} (B : Below (AR dp un gd outer) b0 outer h₀) (F : Fr h₀ L s.heap m) (X : (hd.heap_1 w.params).In h₀) (N : News h₀ L s.heap news) (T : Top p loose mean mg mb h₀) (hk : cs.kind = .function)
    (hd1 : dp + 1 + 1 < recursionLimit) (hu : un + 3 + 8 * 1 < cLine) (U : TailF own news gf) (S' : LexS w x) (o : LexO w own x (v :: r) vs) (hcd : h₀.get? x.cd = some x.oc) (hl : (v :: r).length ≤ 1000)
    (ret : ∀ own' h' tk', Fr h₀ L h' m → News h₀ L h' (gf own') → Moved1 w own own' x r vs → Q v { s with heap := h', toks := tk' }) :
    wpAny (model PySem.Challenge.rw_un0024_01.row.prog w) ((AR dp un gd outer).deeper (envX cn cs L fa0 ccd cl)) (call (.ref 49) [.ref x.q]) Q E s := by
  obtain ⟨Ta, _, _⟩ := at_frame (env := envX cn cs L fa0 ccd cl) (d := 1) B F X N T rfl hk hd1 hu
  refine get_c w x v r vs (dp + 1) (un + 3) gd (envX cn cs L fa0 ccd cl :: outer) _ s Q E Ta (fun b o e => of_hideAll _ e) (lex_here F N U S' o hcd) (fp_hid U o) hl fun h' tk' K LX => ?_
  obtain ⟨own', F', N', M⟩ := moved_mk F N U o K LX
  exact ret own' h' tk' F' N' M
/-- a new lexer, from a frame; the table is filled -/
theorem lexer_use {l : List Nat} {t : Tok} {cd : Addr} {oc : Obj} (B : Below (AR dp un gd outer) b0 outer h₀) (F : Fr h₀ L s.heap m) (X : (hd.heap_1 w.params).In h₀) (N : News h₀ L s.heap news) (T : Top p loose mean mg mb h₀) (hk : cs.kind = .function)
    (hd1 : dp + 1 + 3 < recursionLimit) (hu : un + 3 + 8 * 3 < cLine) (U : TailF own news gf) (hC : CodeHd h₀ 184 180) (hm : (180, tab1 cd) ∈ news) (hcd : h₀.get? cd = some oc) (hF : CodeF oc) (hl : l.length ≤ 1000)
    (ret : ∀ (x : LA) own' h' tk' vs, Fr h₀ L h' m → News h₀ L h' (gf own') → LexS w x → x.cd = cd → x.oc = oc → LexO w own' x [] vs → Chars vs l → (∀ e ∈ own, e ∈ own') → (∀ e ∈ own', (∃ q ∈ own, q.1 = e.1) ∨ (e.1 ∈ fp x)) → (∀ q ∈ news, q.1 ∉ fp x) → (∀ e ∈ fp x, s.heap.get? e = none) →
      Q (.ref x.q) { s with heap := h', toks := tk' }) :
    wpAny (model PySem.Challenge.rw_un0024_01.row.prog w) ((AR dp un gd outer).deeper (envX cn cs L fa0 ccd cl)) (call (.ref 185) [.str (S l) t]) Q E s := by
  obtain ⟨Ta, st, _⟩ := at_frame (env := envX cn cs L fa0 ccd cl) (d := 3) B F X N T rfl hk hd1 hu
  have ne : cd ≠ 180 := fun q => by
    have := (N _ hm).2.2
    rw [← q, hcd] at this; cases this
  refine lexer_c1 w l hl t (dp + 1) (un + 3) gd (envX cn cs L fa0 ccd cl :: outer) _ s Q E Ta (fun b o e => of_hideAll _ e) (hC.keeps st) cd oc (N _ hm).1 (F.keep _ _ hcd) hF ne (hideAll_none _ (List.mem_map_of_mem hm)) fun x h' tk' vs K ht e1 e2 LX hC' fr => ?_
  obtain ⟨pre, rfl, hg, hn⟩ := U.split
  obtain ⟨c1, c2, c3, c4, ln, lt, pt⟩ := LX.parts
  have off : ∀ q ∈ pre ++ own, q.1 ∉ fp x := fun q hq z => by
    have := (fr _ z).1
    rw [(N q hq).1] at this; cases this
  have nL : L ∉ fp x := fun z => by
    obtain ⟨o, _, _, e, _⟩ := F.ns
    have := (fr _ z).1
    rw [e] at this; cases this
  have K' : ∀ b o, s.heap.get? b = some o → h'.get? b = some o := fun b o e => by
    by_cases q : b = 180
    · subst q
      rw [(N _ hm).1] at e; cases e; exact ht
    · exact K b o q e
  refine ret x (lexL w x c1 c2 c3 c4 ln lt [] vs ++ own) h' tk' vs (F.keeps K') (fun z hz => ?_) LX.s e1 e2 ⟨c1, c2, c3, c4, ln, lt, fun e he => List.mem_append_left _ he⟩ hC' (fun e he => List.mem_append_right _ he) (fun e he => ?_) off (fun e he => (fr e he).1)
  · rw [hg] at hz
    rcases List.mem_append.mp hz with hz | hz
    · exact ⟨K' _ _ (N z (List.mem_append_left _ hz)).1, (N z (List.mem_append_left _ hz)).2⟩
    rcases List.mem_append.mp hz with hz | hz
    · have hm' : z.1 ∈ fp x := List.mem_map_of_mem (f := (·.1)) hz
      refine ⟨pt z hz, fun q => nL (q ▸ hm'), ?_⟩
      cases e : h₀.get? z.1 with
      | none => rfl
      | some o =>
        have := (fr _ hm').1
        rw [F.keep _ _ e] at this; cases this
    · exact ⟨K' _ _ (N z (List.mem_append_right _ hz)).1, (N z (List.mem_append_right _ hz)).2⟩
  · rcases List.mem_append.mp he with he | he
    · exact .inr (List.mem_map_of_mem (f := (·.1)) he)
    · exact .inl ⟨e, he, rfl⟩
end
end Mine
end

section
-- P1
open PySem PySem.W PySem.W.X PySem.Calls PyProof.Rows PyProof.Rows.LCg
set_option Elab.async false
set_option maxRecDepth 100000
set_option maxHeartbeats 8000000
namespace Mine
/-- lines, last cars, numbers -/
structure PS where
  qs : List (List Car)
  lasts : List Nat
  nums : List Nat
def park1 (st : PS) (a : Car) : PS :=
  let i := fitAt st.lasts a.r
  if i = st.lasts.length then ⟨st.qs ++ [[a]], st.lasts ++ [a.r], st.nums ++ [i + 1]⟩ else ⟨st.qs.modify i (· ++ [a]), st.lasts.set i a.r, st.nums ++ [i + 1]⟩
def park (l : List Car) : PS := l.foldl park1 ⟨[], [], []⟩
def curP : List Car → List Nat
  | [] => []
  | a :: _ => a.path
inductive PathsAre : List Value → List Car → Prop
  | nil : PathsAre [] []
  | cons (a : Car) (t : Tok) {vs : List Value} {l : List Car} (h : PathsAre vs l) : PathsAre (.str (S a.path) t :: vs) (a :: l)
/-- the lexers that hold the lines -/
structure Lines (w : World) (h0 : Heap) (own : List (Addr × Obj)) (cd : Addr) (oc : Obj) (x0 : LA) (xs : List LA) (qs : List (List Car)) : Prop where
  len : xs.length = qs.length
  all : ∀ (i : Nat) (x : LA) (q : List Car), xs[i]? = some x → qs[i]? = some q → LexS w x ∧ x.cd = cd ∧ x.oc = oc ∧ (∃ pb, LexO w own x pb [] ∧ PathsAre pb q) ∧ (∀ e ∈ fp x, h0.get? e = none)
  apart : ∀ (i j : Nat) (x y : LA), i ≠ j → xs[i]? = some x → xs[j]? = some y → ∀ e ∈ fp x, e ∉ fp y
  apart0 : ∀ (i : Nat) (x : LA), xs[i]? = some x → ∀ e ∈ fp x, e ∉ fp x0
structure OffA (own : List (Addr × Obj)) (Na La Qa cell : Addr) : Prop where
  n : ∀ q ∈ own, q.1 ≠ Na
  l : ∀ q ∈ own, q.1 ≠ La
  q : ∀ q ∈ own, q.1 ≠ Qa
  c : ∀ q ∈ own, q.1 ≠ cell
  t : ∀ q ∈ own, q.1 ≠ 180
def JPk (w : World) (s : Shared) (base : Heap) (L : Addr) (x0 : LA) (cd : Addr) (oc : Obj) (Na La Qa cell : Addr) (cars : List Car) (n : Nat) (s' : Shared) : Prop :=
  ∃ own h k m rem dn vs nv lv qv c1 c2 c3 co t xs, s' = { s with heap := h, toks := k } ∧ cars = dn ++ rem ∧ n = rem.length ∧ Fr base L h m ∧ m (Str.ofString "lexer") = some (.ref x0.q) ∧ m (Str.ofString "queues") = some (.ref Qa) ∧ m (Str.ofString "lasts") = some (.ref La) ∧ m (Str.ofString "numbers") = some (.ref Na) ∧
    News base L h ((Na, listOf (List.toArray nv) c1) :: (La, listOf (List.toArray lv) c2) :: (Qa, listOf (List.toArray qv) c3) :: (cell, co) :: (180, tab1 cd) :: own) ∧ co.data = .cell (some (.str (S (curP rem)) t)) ∧ NatsAre nv (park dn).nums ∧ NatsAre lv (park dn).lasts ∧
    qv = xs.map (fun x => Value.ref x.q) ∧ LexO w own x0 [] vs ∧ Chars vs (flat rem.tail) ∧ Lines w s.heap own cd oc x0 xs (park dn).qs ∧ OffA own Na La Qa cell
def AgainW (I : Nat → Shared → Prop) (n : Nat) (s : Shared) : Prop := ∃ m, m < n ∧ I m s
theorem whileA {prog : Program} {w : World} {A : Around} {s : Shared} {R : Result → Shared → Prop} {test : Expr} {body orelse : List Stmt} {env : Env} (I : Nat → Shared → Prop)
    (turn : ∀ n s, I n s →
      wpAny (model prog w) A (isTrue test env (eval test env)) (fun b s₂ =>
        if b then wpAny (model prog w) A (execs body env) (fun f s₃ => match f with
            | .next | .cont => AgainW I n s₃
            | .brk => R (.ok .next) s₃
            | .ret v => R (.ok (.ret v)) s₃) (notedBy (model prog w) A env fun e s' => R (.error e) s') s₂
        else wpAny (model prog w) A (execs orelse env) (fun f s₃ => R (.ok f) s₃) (notedBy (model prog w) A env fun e s' => R (.error e) s') s₂)
        (notedBy (model prog w) A env fun e s' => R (.error e) s') s)
    (n : Nat) (h : I n s) : codeAny (model prog w) A (.whileLoop test body orelse env) R s := codeAny_whileLoop I turn n h
theorem truthyS0 {prog : Program} {w : World} {A : Around} {E : Value → Shared → Prop} {s : Shared} {t : Tok} {Q : Bool → Shared → Prop} (h : ∀ k, Q false { s with toks := k }) : wpAny (model prog w) A (PySem.truthy (.str (S []) t)) Q E s := by
  exact KXt.truthy (b := false) (by decide) (by decide) h
theorem truthyS1 {prog : Program} {w : World} {A : Around} {E : Value → Shared → Prop} {s : Shared} {t : Tok} {l : List Nat} {Q : Bool → Shared → Prop} (h0 : l ≠ []) (h1 : l.length ≤ 1000) (h : ∀ k, Q true { s with toks := k }) : wpAny (model prog w) A (PySem.truthy (.str (S l) t)) Q E s :=
  truthy_is (by rw [S_len]; cases l with | nil => exact absurd rfl h0 | cons a l => simp) (by rw [S_len]; exact h1) h
theorem rank_car (w : World) (a : Car) (t0 : Tok) : PCon w 3 192 [.str (S a.path) t0] (fun t => .int (a.r : Int) t) := by
  have h := rank_c w a.nm t0
  rw [a.rk] at h
  exact h
theorem nameN3 {h₀ h : Heap} {L : Addr} {a b : Addr} {oa ob : Obj} {rest : List (Addr × Obj)} (_N : News h₀ L h ((a, oa) :: (b, ob) :: rest)) : ∃ a', a' = a := ⟨_, rfl⟩
theorem fitN {h₀ h : Heap} {L D2 : Addr} {ys : List Value} {v : Value} {f : Nat} {e1 e2 : Addr × Obj} {rest : List (Addr × Obj)} (N : News h₀ L h ((D2, listOf (ys ++ [v]).toArray 0) :: e1 :: e2 :: rest)) (hf : ∃ t0 tl, ys ++ [v] = Value.int (f : Int) t0 :: tl) :
    ∃ t0 tl, News h₀ L h ((D2, listOf (Value.int (f : Int) t0 :: tl).toArray 0) :: rest) := by
  obtain ⟨t0, tl, e⟩ := hf
  rw [e] at N
  refine ⟨t0, tl, fun q hq => ?_⟩
  rcases List.mem_cons.mp hq with rfl | hq
  · exact N _ (.head _)
  · exact N q (.tail _ (.tail _ (.tail _ hq)))
theorem NatsAre.head {vs : List Value} {f : Nat} {l : List Nat} (h : NatsAre vs (f :: l)) : ∃ t0 tl, vs = Value.int (f : Int) t0 :: tl := by cases h with | cons n t h => exact ⟨_, _, rfl⟩
theorem fit_list {lasts : List Nat} {r n : Nat} {ys : List Value} (h : NatsAre ys (fitsL lasts r n)) (hn : lasts.length = n) (t : Tok) : ∃ t0 tl, ys ++ [Value.int (n : Int) t] = Value.int (fitAt lasts r : Int) t0 :: tl := by
  subst hn
  have h2 := h.snoc lasts.length t
  obtain ⟨l, e⟩ := fits_head lasts r
  rw [e] at h2
  exact h2.head
theorem fitsL_len (lasts : List Nat) (r n : Nat) : (fitsL lasts r n).length ≤ n := by
  unfold fitsL
  exact Nat.le_trans (List.length_filter_le ..) (by simp)
theorem eqint_is {prog : Program} {w : World} {A : Around} {E : Value → Shared → Prop} {s : Shared} {i j : Int} {t u : Tok} {b : Bool} {Q : Value → Shared → Prop} (e : (i == j) = b) (h : Q (.bool b) s) : wpAny (model prog w) A (compareOp .Eq (.int i t) (.int j u)) Q E s := eq_int (e ▸ h)
theorem park_len (l : List Car) : (park l).qs.length = (park l).lasts.length := by
  have g : ∀ (l : List Car) (st : PS), st.qs.length = st.lasts.length → (l.foldl park1 st).qs.length = (l.foldl park1 st).lasts.length := by
    intro l
    induction l with
    | nil => intro st h; exact h
    | cons a l ih =>
      intro st h
      refine ih _ ?_
      unfold park1
      by_cases e : fitAt st.lasts a.r = st.lasts.length
      · simp [e, h]
      · simp [e, h]
  exact g l _ rfl
theorem park_snoc (l : List Car) (a : Car) : park (l ++ [a]) = park1 (park l) a := by simp [park, List.foldl_append]
theorem park_le (l : List Car) : (park l).lasts.length ≤ l.length := by
  have g : ∀ (l : List Car) (st : PS), (l.foldl park1 st).lasts.length ≤ st.lasts.length + l.length := by
    intro l
    induction l with
    | nil => intro st; simp
    | cons a l ih =>
      intro st
      refine Nat.le_trans (ih _) ?_
      have : (park1 st a).lasts.length ≤ st.lasts.length + 1 := by
        unfold park1
        by_cases e : fitAt st.lasts a.r = st.lasts.length <;> simp [e]
      simp; omega
  simpa [park] using g l ⟨[], [], []⟩
theorem path_plain (a : Car) : ∀ c ∈ a.path, Plain c := by
  intro c hc
  have ho := a.nm.oct
  have hc' := a.nm.oc
  simp only [Car.path, pathL, dirL, List.mem_append, List.mem_cons, List.not_mem_nil, or_false] at hc
  rcases hc with ((rfl | rfl | rfl | rfl | rfl) | rfl | h) | rfl | h
  · unfold Plain; decide
  · unfold Plain; decide
  · unfold Plain; decide
  · unfold Plain; decide
  · unfold Plain; decide
  · unfold Plain; decide
  · have := ho c h; unfold Plain; omega
  · unfold Plain; decide
  · have := hc' c h; unfold Plain; omega
theorem tokFacts (rem : List Car) : flat rem = curP rem ++ flatTail rem.tail ∧ (∀ c ∈ curP rem, Plain c) ∧ (flatTail rem.tail = [] ∨ (curP rem ≠ [] ∧ ∃ r, flatTail rem.tail = 10 :: r)) ∧ (flatTail rem.tail).tail = flat rem.tail := by
  cases rem with
  | nil => exact ⟨rfl, fun c h => by simp [curP] at h, .inl rfl, rfl⟩
  | cons a r =>
    refine ⟨flat_cons a r, path_plain a, ?_, flatTail_tail r⟩
    cases r with
    | nil => exact .inl rfl
    | cons b r => exact .inr ⟨a.path_ne, _, rfl⟩
def Hold (p : Prop) : Prop := p
theorem hold {p : Prop} (h : Hold p) : p := h
theorem nameN4 {h₀ h : Heap} {L : Addr} {a b c d : Addr} {oa ob oc od : Obj} {rest : List (Addr × Obj)} (_N : News h₀ L h ((a, oa) :: (b, ob) :: (c, oc) :: (d, od) :: rest)) : ∃ a' b' c' d', a' = a ∧ b' = b ∧ c' = c ∧ d' = d := ⟨_, _, _, _, rfl, rfl, rfl, rfl⟩
theorem PathsAre.snoc {vs : List Value} {l : List Car} (h : PathsAre vs l) (a : Car) (t : Tok) : PathsAre (vs ++ [.str (S a.path) t]) (l ++ [a]) := by
  induction h with
  | nil => exact .cons a t .nil
  | cons b u h ih => exact .cons b u ih
theorem PathsAre.len {vs : List Value} {l : List Car} (h : PathsAre vs l) : vs.length = l.length := by
  induction h with
  | nil => rfl
  | cons b u h ih => simp [ih]
section
variable {w : World} {h0 : Heap} {own own2 : List (Addr × Obj)} {cd : Addr} {oc : Obj} {x0 x : LA} {xs : List LA} {qs : List (List Car)} {f : Nat} {q : List Car} {b : Car} {pb pb2 vs : List Value}
theorem Lines.push (LN : Lines w h0 own cd oc x0 xs qs) (hx : xs[f]? = some x) (hq : qs[f]? = some q) (M : Moved1 w own own2 x pb2 []) (PA : PathsAre pb2 (q ++ [b])) : Lines w h0 own2 cd oc x0 xs (qs.modify f (· ++ [b])) := by
  refine ⟨by rw [List.length_modify]; exact LN.len, fun i y r hy hr => ?_, LN.apart, LN.apart0⟩
  by_cases e : i = f
  · subst e
    rw [hx] at hy; cases hy
    rw [List.getElem?_modify, hq] at hr
    have hr2 : q ++ [b] = r := by simpa using hr
    subst hr2
    obtain ⟨a1, a2, a3, _, a5⟩ := LN.all i x q hx hq
    exact ⟨a1, a2, a3, ⟨pb2, M.lex, PA⟩, a5⟩
  · rw [List.getElem?_modify] at hr
    have hr' : qs[i]? = some r := by simpa [Ne.symm e] using hr
    obtain ⟨a1, a2, a3, ⟨pb', o, p⟩, a5⟩ := LN.all i y r hy hr'
    exact ⟨a1, a2, a3, ⟨pb', M.other o (LN.apart i f y x e hy hx), p⟩, a5⟩
theorem Lines.zero (LN : Lines w h0 own cd oc x0 xs qs) (M : Moved1 w own own2 x0 pb2 vs) : Lines w h0 own2 cd oc x0 xs qs := by
  refine ⟨LN.len, fun i y r hy hr => ?_, LN.apart, LN.apart0⟩
  obtain ⟨a1, a2, a3, ⟨pb', o, p⟩, a5⟩ := LN.all i y r hy hr
  exact ⟨a1, a2, a3, ⟨pb', M.other o (LN.apart0 i y hy), p⟩, a5⟩
theorem Lines.new (LN : Lines w h0 own cd oc x0 xs qs) (SX : LexS w x) (e1 : x.cd = cd) (e2 : x.oc = oc) (o : LexO w own2 x [] []) (sub : ∀ e ∈ own, e ∈ own2) (fr : ∀ e ∈ fp x, h0.get? e = none) (off : ∀ z ∈ own, z.1 ∉ fp x) (o0 : LexO w own x0 pb vs) : Lines w h0 own2 cd oc x0 (xs ++ [x]) (qs ++ [[]]) := by
  have mono : ∀ {y : LA} {pb vs : List Value}, LexO w own y pb vs → LexO w own2 y pb vs := fun ⟨c1, c2, c3, c4, ln, lt, m⟩ => ⟨c1, c2, c3, c4, ln, lt, fun e he => sub _ (m e he)⟩
  have apx : ∀ {y : LA} {pb vs : List Value}, LexO w own y pb vs → ∀ e ∈ fp y, e ∉ fp x := fun o e he hx => by
    obtain ⟨z, hz, rfl⟩ := o.fp e he
    exact off z hz hx
  have old : ∀ (i : Nat) (y : LA), xs[i]? = some y → ∀ e ∈ fp y, e ∉ fp x := fun i y hy => by
    have hi : i < qs.length := by
      rw [← LN.len]
      exact (List.getElem?_eq_some_iff.mp hy).1
    obtain ⟨_, _, _, ⟨_, o', _⟩, _⟩ := LN.all i y _ hy (List.getElem?_eq_getElem hi)
    exact apx o'
  have split : ∀ (i : Nat) (y : LA), (xs ++ [x])[i]? = some y → (xs[i]? = some y ∧ i < xs.length) ∨ (i = xs.length ∧ y = x) := fun i y hy => by
    by_cases hi : i < xs.length
    · rw [List.getElem?_append_left hi] at hy
      exact .inl ⟨hy, hi⟩
    · rw [List.getElem?_append_right (Nat.le_of_not_lt hi)] at hy
      obtain ⟨h1, h2⟩ := List.getElem?_eq_some_iff.mp hy
      have h3 : i = xs.length := by simp at h1; omega
      subst h3
      simp at h2
      exact .inr ⟨rfl, h2.symm⟩
  refine ⟨by simp [LN.len], fun i y r hy hr => ?_, fun i j y z ne hy hz => ?_, fun i y hy => ?_⟩
  · rcases split i y hy with ⟨hy', hi⟩ | ⟨rfl, rfl⟩
    · rw [List.getElem?_append_left (by rw [← LN.len]; exact hi)] at hr
      obtain ⟨a1, a2, a3, ⟨pb', o', p⟩, a5⟩ := LN.all i y r hy' hr
      exact ⟨a1, a2, a3, ⟨pb', mono o', p⟩, a5⟩
    · rw [LN.len] at hr
      have : r = [] := by simpa using hr.symm
      subst this
      exact ⟨SX, e1, e2, ⟨[], o, .nil⟩, fr⟩
  · rcases split i y hy with ⟨hy', hi⟩ | ⟨rfl, rfl⟩ <;> rcases split j z hz with ⟨hz', hj⟩ | ⟨rfl, rfl⟩
    · exact LN.apart i j y z ne hy' hz'
    · exact old i y hy'
    · exact fun e he h => old j z hz' e h he
    · exact absurd rfl ne
  · rcases split i y hy with ⟨hy', hi⟩ | ⟨rfl, rfl⟩
    · exact LN.apart0 i y hy'
    · exact fun e he h => apx o0 e h he
end
theorem park_nums (l : List Car) : (park l).nums.length ≤ l.length := by
  have g : ∀ (l : List Car) (st : PS), (l.foldl park1 st).nums.length ≤ st.nums.length + l.length := by
    intro l
    induction l with
    | nil => intro st; simp
    | cons a l ih =>
      intro st
      refine Nat.le_trans (ih _) ?_
      have : (park1 st a).nums.length = st.nums.length + 1 := by
        unfold park1
        by_cases e : fitAt st.lasts a.r = st.lasts.length <;> simp [e]
      simp; omega
  simpa [park] using g l ⟨[], [], []⟩
theorem park_q (l : List Car) : ∀ (i : Nat) (q : List Car), (park l).qs[i]? = some q → q.length ≤ l.length := by
  have g : ∀ (l : List Car) (st : PS) (n : Nat), (∀ q ∈ st.qs, q.length ≤ n) → ∀ q ∈ (l.foldl park1 st).qs, q.length ≤ n + l.length := by
    intro l
    induction l with
    | nil => intro st n h q hq; exact h q hq
    | cons a l ih =>
      intro st n h q hq
      have := ih (park1 st a) (n + 1) (fun z hz => ?_) q hq
      · simp; omega
      · unfold park1 at hz
        by_cases e : fitAt st.lasts a.r = st.lasts.length
        · simp [e] at hz
          rcases hz with hz | rfl
          · have := h z hz; omega
          · simp
        · simp [e] at hz
          obtain ⟨i, hi, rfl⟩ := List.mem_iff_getElem.mp hz
          rw [List.getElem_modify]
          have hi' : i < st.qs.length := by simpa using hi
          have := h _ (List.getElem_mem hi')
          split <;> simp <;> omega
  intro i q hq
  have := g l ⟨[], [], []⟩ 0 (fun q hq => by simp at hq) q (List.mem_of_getElem? hq)
  simpa using this
end Mine
end

section
-- M13
open PySem PySem.W PySem.W.X PySem.Calls PyProof.Rows PyProof.Rows.LCg
set_option Elab.async false
set_option maxRecDepth 100000
set_option maxHeartbeats 8000000
namespace Mine
local macro_rules | `(tactic| k_mem) => `(tactic| first | exact List.Mem.head _ | assumption | (refine' List.Mem.tail _ ?_; k_mem))
local macro_rules | `(tactic| k_all) => `(tactic| first | exact List.forall_mem_nil _ | assumption | (refine' List.forall_mem_cons.mpr ⟨?a, ?b⟩; (case a => k_ne); (case b => k_all)))
local macro_rules | `(tactic| walk_at "truthy str") => `(tactic| (k_here; first | (refine truthyS0 ?_; intro _) | (refine truthyS1 (by assumption) (by assumption) ?_; intro _)))
local macro_rules | `(tactic| walk_at "eval Name") => `(tactic| (k_here; k_dflt (refine' nameX_L ?F ?v ?_ ?a ?b; (case F => k_asm); (case a | b => rfl); (case v => first | assumption | exact (if_neg (by decide)).trans (by assumption) | exact (if_neg (by decide)).trans ((if_neg (by decide)).trans (by assumption))); k_whole)))
local macro_rules | `(tactic| walk_at "eval ListComp") => `(tactic| (k_here; k_dflt (refine ec_ListCompT (by k_asm) (by with_unfolding_all rfl) (by decide) (by rfl) (by decide) (by rfl) (by rfl) (by decide) ?_)))
local macro_rules | `(tactic| walk_at "call ref") => `(tactic| (k_here; (with_reducible show wpAny _ _ (call (Value.ref 192) [Value.str (S (Car.path _)) _]) _ _ _); k_dflt (refine' PCon.use (rank_car _ _ _) ?k1 ?k2 ?k3 ?k4 ?k5 ?k6 ?k7 ?k8 ?_; (case k1 | k2 | k3 | k4 | k5 => k_asm); (case k6 => first | exact rfl | assumption); (case k7 | k8 => omega)); (intro t9 h9 tk9 F9 N9; (try dsimp only); (try k_fold))))
local macro_rules | `(tactic| walk_at "call builtin:len") => `(tactic| (k_here; k_dflt (refine' len_K ?N ?m ?z ?_; (case N => k_asm); (case m => k_mem); (case z => assumption)); intro _ _))
local macro_rules | `(tactic| walk_at "binaryOp Add ref ref") => `(tactic| (k_here; k_dflt (refine' cat_K ?F ?N ?a ?b ?y ?z ?_; (case F | N => k_asm); (case a | b => k_mem); (case y => assumption); (case z => exact Nat.le_of_ble_eq_true rfl)); intro D' h' F' N' l1; (try k_lt l1)))
local macro_rules | `(tactic| walk_at "subscriptTail Name Constant ref int") => `(tactic| (k_here; k_dflt (refine' item0_K ?N ?m ?_; (case N => k_asm); (case m => k_mem))))
local macro_rules | `(tactic| walk_at "subscriptTail Name Subscript ref int") => `(tactic| (k_here; k_dflt (refine' item_K ?N ?m ?x ?z ?_; (case N => k_asm); (case m => k_mem); (case x | z => assumption))))
local macro_rules | `(tactic| walk_at "call builtin:list.append") => `(tactic| (k_here; k_dflt (refine' app_K ?F ?N ?U ?z ?_; (case F | N => k_asm); (case U => k_upd); (case z => assumption)); kl_rest))
local macro_rules | `(tactic| walk_at "compareOp Eq int int") => `(tactic| (k_here; refine eqint_is (by assumption) ?_))
local macro_rules | `(tactic| walk_at "setItem ref int") => `(tactic| (k_here; k_dflt (refine' set_K ?F ?N ?U ?i ?z ?_; (case F | N => k_asm); (case U => k_upd); (case i => first | assumption | (simp only [List.length_append, List.length_cons, List.length_nil]; omega)); (case z => first | assumption | (simp only [List.length_append, List.length_cons, List.length_nil]; omega))); kl_rest))
local macro_rules | `(tactic| walk_at "exec While") => `(tactic| (k_here; k_dflt (refine wpAny_While ?_)))
local macro_rules | `(tactic| walk_at "call ref") => `(tactic| (k_here; (with_reducible show wpAny _ _ (call (Value.ref 49) _) _ _ _); refine hold ?_))
local macro_rules | `(tactic| walk_at "call ref") => `(tactic| (k_here; (with_reducible show wpAny _ _ (call (Value.ref 56) _) _ _ _); refine hold ?_))
local macro_rules | `(tactic| walk_at "call ref") => `(tactic| (k_here; (with_reducible show wpAny _ _ (call (Value.ref 185) _) _ _ _); refine hold ?_))
theorem modify_last {α : Type} (l : List α) (x : α) (g : α → α) : (l ++ [x]).modify l.length g = l ++ [g x] := by
  induction l with
  | nil => rfl
  | cons a l ih => simp [ih]
theorem LexO.mono {w : World} {own own2 : List (Addr × Obj)} {y : LA} {pb vs : List Value} (o : LexO w own y pb vs) (sub : ∀ e ∈ own, e ∈ own2) : LexO w own2 y pb vs :=
  let ⟨c1, c2, c3, c4, ln, lt, m⟩ := o
  ⟨c1, c2, c3, c4, ln, lt, fun e he => sub _ (m e he)⟩
theorem off_new {own own1 : List (Addr × Obj)} {x : LA} {a : Addr} (addr : ∀ e ∈ own1, (∃ q ∈ own, q.1 = e.1) ∨ (e.1 ∈ fp x)) (h : ∀ q ∈ own, q.1 ≠ a) (hx : a ∉ fp x) : ∀ q ∈ own1, q.1 ≠ a := fun q hq => by
  rcases addr q hq with ⟨z, hz, e⟩ | hm
  · rw [← e]; exact h z hz
  · intro e; exact hx (e ▸ hm)
/-- what the lines leave behind -/
def ParkRet (w : World) (s : Shared) (x0 : LA) (cd : Addr) (oc : Obj) (cars : List Car) (Q : Value → Shared → Prop) : Prop :=
  ∀ (T Qa Na : Addr) (xs : List LA) (nv : List Value) (own : List (Addr × Obj)) (c1 c3 : Nat) (h' : Heap) (tk' : Nat), (∀ b o, b ∉ fp x0 → s.heap.get? b = some o → h'.get? b = some o) →
    h'.get? T = some { cls := .type "tuple", data := .seq #[.ref Qa, .ref Na] } → h'.get? Qa = some (listOf (xs.map (fun x => Value.ref x.q)).toArray c3) → h'.get? Na = some (listOf nv.toArray c1) → NatsAre nv (park cars).nums →
    Lines w s.heap own cd oc x0 xs (park cars).qs → (∀ e ∈ own, h'.get? e.1 = some e.2) → h'.get? 180 = some (tab1 cd) → s.heap.get? T = none → s.heap.get? Qa = none → s.heap.get? Na = none → (∀ q ∈ own, q.1 ≠ Qa ∧ q.1 ≠ Na) → Q (.ref T) { s with heap := h', toks := tk' }
theorem parked_c (w : World) (x0 : LA) (cars : List Car) (vs : List Value) (cd : Addr) (oc : Obj) (dp un : Nat) (gd : Option (List Code)) (outer : List Env) (g : Heap) (s : Shared) (Q E : Value → Shared → Prop) (T : At w 6 dp un gd outer g) (hg : Sub g s.heap)
    (hC : CodeHd g 184 180) (ht : s.heap.get? 180 = some (tab1 cd)) (hn : g.get? 180 = none) (hcd : s.heap.get? cd = some oc) (hF : CodeF oc) (hne : cd ≠ 180)
    (LX : Lex w s.heap x0 [] vs) (n : ∀ e ∈ fp x0, g.get? e = none) (n180 : ∀ e ∈ fp x0, e ≠ 180) (e1 : x0.cd = cd) (e2 : x0.oc = oc) (hV : Chars vs (flat cars)) (hl : cars.length ≤ 8)
    (hret : ParkRet w s x0 cd oc cars Q) :
    wpAny (model PySem.Challenge.rw_un0024_01.row.prog w) (AR dp un gd outer) (call (.ref 197) [.ref x0.q]) Q E s := by
  w_top off
  have KX := T.K.keeps hg
  revert KX
  k_fill
  intro KX
  refine wpAny_call ?_
  clear KX
  obtain ⟨c1, c2, c3, c4, ln, lt, pt⟩ := LX.parts
  have hw : OwnAt g s.heap ((180, tab1 cd) :: lexL w x0 c1 c2 c3 c4 ln lt [] vs) := fun q hq => by
    rcases List.mem_cons.mp hq with rfl | hq
    · exact ⟨ht, hn⟩
    · exact own_lex pt n q hq
  have hoff : ∀ q ∈ lexL w x0 c1 c2 c3 c4 ln lt [] vs, q.1 ≠ 180 := fun q hq => n180 _ (List.mem_map_of_mem (f := (·.1)) hq)
  have hi0 : (x0.q, instObj 59 x0.d) ∈ lexL w x0 c1 c2 c3 c4 ln lt [] vs := .tail _ (.head _)
  have hd0 : (x0.d, lexD w x0 ln lt c2) ∈ lexL w x0 c1 c2 c3 c4 ln lt [] vs := .tail _ (.tail _ (.head _))
  have hcd' : cd ∉ ((180, tab1 cd) :: lexL w x0 c1 c2 c3 c4 ln lt [] vs).map (·.1) := fun q => by
    rcases List.mem_cons.mp q with q | q
    · exact hne q
    · exact LX.ncd _ q e1.symm
  generalize hown : lexL w x0 c1 c2 c3 c4 ln lt [] vs = own at hw hoff hi0 hd0 hcd'
  have LO : LexO w own x0 [] vs := ⟨c1, c2, c3, c4, ln, lt, by rw [hown]; exact fun e he => he⟩
  dsimp only [lexD, ent] at hd0
  k_dflt (refine' enterCK T hg hw ?k6 ?k7 ?k9 ?kB ?kN ?_ ?c2 ?c3 ?c4; (case k6 => k_is); (case k7 => k_is); (case k9 => exact BindsTo.of_eq rfl); (case kB => exact rfl); (case kN => decide); (case c2 => exact rfl); (case c3 => exact rfl); (case c4 => exact rfl); k_whole)
  intro L' base h' tk cells b0 p loose mean mg mb B' X' T' r1 r2 kg kb F' N' Y' ol
  have C' := hC.keeps kg
  have h180 : @LT.lt Nat _ 180 L' := ol _ (.head _)
  have hcb := kb _ _ hcd' hcd
  have hcb0 : base.get? x0.cd = some x0.oc := by rw [e1, e2]; exact hcb
  have oL : ∀ q ∈ own, q.1 ≠ L' + 1 := fun q hq => Nat.ne_of_lt (Nat.lt_succ_of_lt (ol q (.tail _ hq)))
  k_cells Y'
  (try simp only [List.cons_append, List.nil_append] at N')
  (try dsimp only)
  (try k_fold)
  k_steps
  rename News _ _ _ _ => N9
  rename Fr _ _ _ _ => F9
  obtain ⟨Na, La, Qa, cell, q1, q2, q3, q4⟩ := nameN4 N9
  subst q1 q2 q3
  unfold Hold
  have lN : @LT.lt Nat _ L' Na := by omega
  have lLa : @LT.lt Nat _ L' La := by omega
  have lQ : @LT.lt Nat _ L' Qa := by omega
  have oN : ∀ q ∈ own, q.1 ≠ Na := fun q hq => Nat.ne_of_lt (Nat.lt_trans (ol q (.tail _ hq)) lN)
  have oLa : ∀ q ∈ own, q.1 ≠ La := fun q hq => Nat.ne_of_lt (Nat.lt_trans (ol q (.tail _ hq)) lLa)
  have oQ : ∀ q ∈ own, q.1 ≠ Qa := fun q hq => Nat.ne_of_lt (Nat.lt_trans (ol q (.tail _ hq)) lQ)
  have tf0 := tokFacts cars
  have fl0 : (flat cars).length ≤ 1000 := Nat.le_trans (flat_len cars) (by omega)
  rw [tf0.1] at hV fl0
  refine tok_use B' F9 X' N9 T' rfl (by omega) (by omega) (.cons oN (.cons oLa (.cons oQ (.cons oL (.cons hoff .base))))) LX.s LO hcb0 hV fl0 tf0.2.1 tf0.2.2.1 ?_
  · intro t own' h' tk' vs' F1 N1 M1 hV'
    rw [tf0.2.2.2] at hV'
    clear F9 N9
    have o1' := M1.off oN
    have o2' := M1.off oLa
    have o3' := M1.off oQ
    have o4' := M1.off oL
    have o5' := M1.off hoff
    k_steps
    rename News _ _ _ _ => N9
    rename Fr _ _ _ _ => F9
    rename Obj.data _ = Data.cell _ => d9
    refine whileA (JPk w s base L' x0 cd oc Na La Qa (L' + 1) cars) ?_ cars.length ⟨own', _, _, _, cars, [], vs', [], [], [], _, _, _, _, _, [], rfl, rfl, rfl, F9, rfl, rfl, rfl, rfl, N9, d9, .nil, .nil, rfl, M1.lex, hV', ⟨rfl, fun i x q e => by simp at e, fun i j x y _ e => by simp at e, fun i x e => by simp at e⟩, ⟨o1', o2', o3', o4', o5'⟩⟩
    clear F9 N9 d9
    intro nn s9 hJ
    obtain ⟨ow, h, k, m, rem, dn, vs2, nv, lv, qv, c1, c2, c3, co, t2, xs, rfl, ecars, rfl, F2, m1, m2, m3, m4, N2, hco, hnv, hlv, hqv, LO2, hV2, LN, OF⟩ := hJ
    obtain ⟨f1, f2, f3, f4, f5⟩ := OF
    cases rem with
    | nil =>
      dsimp only [curP] at hco
      k_steps
      rename News _ _ _ _ => N15
      rename Fr _ _ _ _ => F15
      obtain ⟨T2, e15⟩ := nameN3 N15
      subst e15
      rw [List.append_nil] at ecars
      subst ecars
      have lT : @LT.lt Nat _ L' T2 := by omega
      have fp0 : own.map (·.1) = fp x0 := by rw [← hown]; rfl
      have up : ∀ b : Addr, @LT.lt Nat _ L' b → base.get? b = none → s.heap.get? b = none := fun b hb hz => by
        cases e : s.heap.get? b with
        | none => rfl
        | some o =>
          have := kb b o (fun hm => by
            obtain ⟨z, hz', rfl⟩ := List.mem_map.mp hm
            exact absurd (ol z hz') (Nat.lt_asymm hb)) e
          rw [hz] at this; cases this
      have K15 : ∀ b o, b ∉ fp x0 → s.heap.get? b = some o → Heap.get? _ b = some o := fun b o nb e => by
        by_cases q : b = 180
        · subst q
          rw [ht] at e; cases e
          exact (N15 _ (.tail _ (.tail _ (.tail _ (.tail _ (.tail _ (.head _))))))).1
        · exact F15.keep b o (kb b o (fun hm => by
            rcases List.mem_cons.mp hm with hm | hm
            · exact q hm
            · exact nb (fp0 ▸ hm)) e)
      subst hqv
      exact hret T2 Qa Na xs nv ow c1 c3 _ _ K15 (N15 _ (.head _)).1 (N15 _ (.tail _ (.tail _ (.tail _ (.head _))))).1 (N15 _ (.tail _ (.head _))).1 hnv LN (fun e he => (N15 e (.tail _ (.tail _ (.tail _ (.tail _ (.tail _ (.tail _ he))))))).1) (N15 _ (.tail _ (.tail _ (.tail _ (.tail _ (.tail _ (.head _))))))).1
        (up _ lT (N15 _ (.head _)).2.2) (up _ lQ (N15 _ (.tail _ (.tail _ (.tail _ (.head _))))).2.2) (up _ lN (N15 _ (.tail _ (.head _))).2.2) (fun q hq => ⟨f3 q hq, f1 q hq⟩)
    | cons b rem' =>
      dsimp only [curP] at hco
      have pne := b.path_ne
      have pl : b.path.length ≤ 1000 := Nat.le_trans b.path_len (by decide)
      k_steps
      rename News _ _ _ _ => N3
      rename Fr _ _ _ _ => F3
      have hdn : dn.length ≤ 8 := by rw [ecars] at hl; simp at hl; omega
      have lvl : lv.length ≤ 1000 := by rw [hlv.len]; exact Nat.le_trans (park_le dn) (by omega)
      refine ec_enumT (fun i ys => NatsAre ys (fitsL (park dn).lasts b.r i)) rfl F3 N3 (.tail _ (.head _)) lvl .nil ?_ ?_
      · rintro s₁ e it ⟨hh, rfl⟩ i x ys t oe oi C oC D m₂ h5 tk5 E' hx hJ hoC hk hlast F5 N5 ol5 lt5
        obtain ⟨tx, rfl⟩ := hlv.get i x hx
        have hs := fitsL_succ (park dn).lasts b.r i
        clear F3 N3
        k_steps
        · rename News _ _ _ _ => N6
          rename Fr _ _ _ _ => F6
          have hle : (park dn).lasts.getD i 0 ≤ b.r := by omega
          rw [if_pos hle] at hs
          exact ⟨_, _, rfl, F6, N6, by show NatsAre _ (fitsL _ _ (i + 1)); rw [hs]; exact hJ.snoc i _⟩
        · rename News _ _ _ _ => N6
          rename Fr _ _ _ _ => F6
          have hle : ¬ (park dn).lasts.getD i 0 ≤ b.r := by omega
          rw [if_neg hle, List.append_nil] at hs
          exact ⟨_, _, rfl, F6, N6, by show NatsAre _ (fitsL _ _ (i + 1)); rw [hs]; exact hJ⟩
      · intro D ys h6 tk6 F6 N6 lD hJ6
        clear F3 N3
        have ysl : ys.length ≤ 1000 := Nat.le_trans (by rw [hJ6.len]; exact fitsL_len _ _ _) lvl
        have elv : (park dn).lasts.length = lv.length := hlv.len.symm
        have oD : ∀ q ∈ ow, @LT.lt Nat _ q.1 D := fun q hq => lD q (.tail _ (.tail _ (.tail _ (.tail _ (.tail _ hq)))))
        k_steps
        rename News _ _ _ _ => N7
        obtain ⟨D2, e5⟩ := nameN3 N7
        subst e5
        have lD2 : @LT.lt Nat _ D D2 := by omega
        have oD2 : ∀ q ∈ ow, q.1 ≠ D2 := fun q hq => Nat.ne_of_lt (Nat.lt_trans (oD q hq) lD2)
        have nD2 : @LT.lt Nat _ Na D2 := by omega
        have laD2 : @LT.lt Nat _ La D2 := by omega
        have qD2 : @LT.lt Nat _ Qa D2 := by omega
        obtain ⟨t0, tl, N8⟩ := fitN N7 (fit_list hJ6 elv _)
        clear N7
        have fl : fitAt (park dn).lasts b.r ≤ 1000 := Nat.le_trans (fitAt_le _ _) (by rw [elv]; exact lvl)
        obtain ⟨y1, y2, y3, y4, y5, y6, hm0⟩ := id LO2
        have hi2 : (x0.q, instObj 59 x0.d) ∈ ow := hm0 _ (.tail _ (.head _))
        have hd2 := hm0 _ (.tail _ (.tail _ (.head _)))
        dsimp only [lexD, ent] at hd2
        rcases Nat.lt_or_ge (fitAt (park dn).lasts b.r) (park dn).lasts.length with hlt | hge
        · have hlt' : fitAt (park dn).lasts b.r < lv.length := by rw [hlv.len]; exact hlt
          have ce : (((fitAt (park dn).lasts b.r : Nat) : Int) == (lv.length : Int)) = false := by simp; omega
          have hq0 : fitAt (park dn).lasts b.r < (park dn).qs.length := by rw [park_len]; exact hlt
          obtain ⟨x, hx⟩ : ∃ x, xs[fitAt (park dn).lasts b.r]? = some x := ⟨_, List.getElem?_eq_getElem (by rw [LN.len]; exact hq0)⟩
          obtain ⟨q, hq⟩ : ∃ q, (park dn).qs[fitAt (park dn).lasts b.r]? = some q := ⟨_, List.getElem?_eq_getElem hq0⟩
          obtain ⟨SX, ecd, eoc, ⟨pb, LOx, PA⟩, frx⟩ := LN.all _ x q hx hq
          have hqx : qv[fitAt (park dn).lasts b.r]? = some (Value.ref x.q) := by rw [hqv]; simp [hx]
          obtain ⟨g1, g2, g3, g4, g5, g6, hmem⟩ := id LOx
          have hix : (x.q, instObj 59 x.d) ∈ ow := hmem _ (.tail _ (.head _))
          have hdx := hmem _ (.tail _ (.tail _ (.head _)))
          dsimp only [lexD, ent] at hdx
          have hxcd : base.get? x.cd = some x.oc := by rw [ecd, eoc]; exact hcb
          have pbl : pb.length ≤ 1000 := by rw [PA.len]; exact Nat.le_trans (park_q dn _ q hq) (by omega)
          have nvl : nv.length ≤ 1000 := by rw [hnv.len]; exact Nat.le_trans (park_nums dn) (by omega)
          k_steps
          rename News _ _ _ _ => N10
          rename Fr _ _ _ _ => F10
          unfold Hold
          refine push_use B' F10 X' N10 T' rfl (by omega) (by omega) (.cons oD2 (.cons f1 (.cons f2 (.cons f3 (.cons f4 (.cons f5 .base)))))) SX LOx hxcd pbl ?_
          intro own2 h7 tk7 F11 N11 M2
          clear F10 N10
          have w1 := M2.off f1
          have w2 := M2.off f2
          have w3 := M2.off f3
          have w4 := M2.off f4
          have w5 := M2.off f5
          have wD := M2.off oD2
          have LO3 : LexO w own2 x0 [] vs2 := M2.other LO2 (fun e he hx' => LN.apart0 _ x hx e hx' he)
          obtain ⟨v1, v2, v3, v4, v5, v6, hm3⟩ := id LO3
          have hi3 : (x0.q, instObj 59 x0.d) ∈ own2 := hm3 _ (.tail _ (.head _))
          have hd3 := hm3 _ (.tail _ (.tail _ (.head _)))
          dsimp only [lexD, ent] at hd3
          k_steps
          rename News _ _ _ _ => N12
          rename Fr _ _ _ _ => F12
          unfold Hold
          have tf := tokFacts rem'
          have hV3 : Chars vs2 (curP rem' ++ flatTail rem'.tail) := tf.1 ▸ hV2
          have fl3 : (curP rem' ++ flatTail rem'.tail).length ≤ 1000 := by rw [← tf.1]; exact Nat.le_trans (flat_len rem') (by rw [ecars] at hl; simp at hl; omega)
          refine tok_use B' F12 X' N12 T' rfl (by omega) (by omega) (.cons wD (.cons w1 (.cons w2 (.cons w3 (.cons w4 (.cons w5 .base)))))) LX.s LO3 hcb0 hV3 fl3 tf.2.1 tf.2.2.1 ?_
          intro t5 own3 h8 tk8 vs5 F13 N13 M3 hV5
          rw [tf.2.2.2] at hV5
          clear F12 N12
          have z1 := M3.off w1
          have z2 := M3.off w2
          have z3 := M3.off w3
          have z4 := M3.off w4
          have z5 := M3.off w5
          have zD := M3.off wD
          k_steps
          rename News _ _ _ _ => N14
          rename Fr _ _ _ _ => F14
          rename Obj.data _ = Data.cell _ => d14
          have hne' : ¬ fitAt (park dn).lasts b.r = (park dn).lasts.length := by omega
          have eN : (park (dn ++ [b])).nums = (park dn).nums ++ [fitAt (park dn).lasts b.r + 1] := by rw [park_snoc]; simp [park1, hne']
          have eL : (park (dn ++ [b])).lasts = (park dn).lasts.set (fitAt (park dn).lasts b.r) b.r := by rw [park_snoc]; simp [park1, hne']
          have eQ : (park (dn ++ [b])).qs = (park dn).qs.modify (fitAt (park dn).lasts b.r) (· ++ [b]) := by rw [park_snoc]; simp [park1, hne']
          have LN2 := (LN.push hx hq M2 (PA.snoc b _)).zero M3
          exact ⟨rem'.length, Nat.lt_succ_self _, own3, _, _, _, rem', dn ++ [b], vs5, _, _, qv, _, _, _, _, _, xs, rfl, by rw [ecars]; simp, rfl, F14, (if_neg (by decide)).trans m1, (if_neg (by decide)).trans m2, (if_neg (by decide)).trans m3, (if_neg (by decide)).trans m4, fun q hq => N14 q (.tail _ hq), d14,
            by rw [eN]; exact hnv.snoc _ _, by rw [eL]; exact hlv.set _ _ _, hqv, M3.lex, hV5, by rw [eQ]; exact LN2, ⟨z1, z2, z3, z4, z5⟩⟩
        · have heq : fitAt (park dn).lasts b.r = (park dn).lasts.length := Nat.le_antisymm (fitAt_le _ _) hge
          have ce : (((fitAt (park dn).lasts b.r : Nat) : Int) == (lv.length : Int)) = true := by simp; omega
          have qvl : qv.length ≤ 1000 := by rw [hqv, List.length_map, LN.len, park_len, elv]; exact lvl
          have nvl : nv.length ≤ 1000 := by rw [hnv.len]; exact Nat.le_trans (park_nums dn) (by omega)
          k_steps
          rename News _ _ _ _ => N10
          rename Fr _ _ _ _ => F10
          unfold Hold
          rw [S_nil]
          refine lexer_use (l := []) B' F10 X' N10 T' rfl (by omega) (by omega) (.cons oD2 (.cons f1 (.cons f2 (.cons f3 (.cons f4 (.cons f5 .base)))))) C' (.tail _ (.tail _ (.tail _ (.tail _ (.tail _ (.head _)))))) hcb hF (by simp) ?_
          intro x own1 h7 tk7 vx F11 N11 SX ecd eoc LOx hCx sub1 addr1 offx frx
          have evx : vx = [] := by cases hCx; rfl
          subst evx
          have frx' : ∀ e ∈ fp x, s.heap.get? e = none := fun e he => by
            cases hz : s.heap.get? e with
            | none => rfl
            | some o =>
              have hc : Heap.get? _ e = none := frx e he
              have hm : e ∉ ((180, tab1 cd) :: own).map (·.1) := fun hm => by
                rcases List.mem_cons.mp hm with hm | hm
                · exact offx _ (.tail _ (.tail _ (.tail _ (.tail _ (.tail _ (.head _)))))) (by have hm' : e = 180 := hm; rw [← hm']; exact he)
                · have fp0 : own.map (·.1) = fp x0 := by rw [← hown]; rfl
                  obtain ⟨z, hz', rfl⟩ := LO2.fp e (fp0 ▸ hm)
                  exact offx z (.tail _ (.tail _ (.tail _ (.tail _ (.tail _ (.tail _ hz')))))) he
              exact nomatch hc.symm.trans (F10.keep e o (kb e o hm hz))
          have LN1 := LN.new SX ecd eoc LOx sub1 frx' (fun z hz => offx z (.tail _ (.tail _ (.tail _ (.tail _ (.tail _ (.tail _ hz))))))) LO2
          have w1 := off_new addr1 f1 (offx _ (.tail _ (.head _)))
          have w2 := off_new addr1 f2 (offx _ (.tail _ (.tail _ (.head _))))
          have w3 := off_new addr1 f3 (offx _ (.tail _ (.tail _ (.tail _ (.head _)))))
          have w4 := off_new addr1 f4 (offx _ (.tail _ (.tail _ (.tail _ (.tail _ (.head _))))))
          have w5 := off_new addr1 f5 (offx _ (.tail _ (.tail _ (.tail _ (.tail _ (.tail _ (.head _)))))))
          have wD := off_new addr1 oD2 (offx _ (.head _))
          have LO3 : LexO w own1 x0 [] vs2 := LO2.mono sub1
          obtain ⟨g1, g2, g3, g4, g5, g6, hmem⟩ := id LOx
          have hix : (x.q, instObj 59 x.d) ∈ own1 := hmem _ (.tail _ (.head _))
          have hdx := hmem _ (.tail _ (.tail _ (.head _)))
          dsimp only [lexD, ent] at hdx
          have hxcd : base.get? x.cd = some x.oc := by rw [ecd, eoc]; exact hcb
          obtain ⟨v1, v2, v3, v4, v5, v6, hm3⟩ := id LO3
          have hi3 : (x0.q, instObj 59 x0.d) ∈ own1 := hm3 _ (.tail _ (.head _))
          have hd3 := hm3 _ (.tail _ (.tail _ (.head _)))
          dsimp only [lexD, ent] at hd3
          have elx : (park dn).lasts.length = xs.length := by rw [LN.len, park_len]
          have hx : (xs ++ [x])[fitAt (park dn).lasts b.r]? = some x := by rw [heq, elx]; simp
          have hq : ((park dn).qs ++ [[]])[fitAt (park dn).lasts b.r]? = some [] := by rw [heq, ← park_len]; simp
          have hqx : (qv ++ [Value.ref x.q])[fitAt (park dn).lasts b.r]? = some (Value.ref x.q) := by rw [heq, elx, hqv]; simp
          have lvl9 : lv.length ≤ 999 := by rw [hlv.len]; exact Nat.le_trans (park_le dn) (by omega)
          clear F10 N10
          k_steps
          rename News _ _ _ _ => N10
          rename Fr _ _ _ _ => F10
          unfold Hold
          refine push_use B' F10 X' N10 T' rfl (by omega) (by omega) (.cons wD (.cons w1 (.cons w2 (.cons w3 (.cons w4 (.cons w5 .base)))))) SX LOx hxcd (Nat.zero_le _) ?_
          intro own2 h8 tk8 F12 N12 M2
          clear F10 N10
          have w1 := M2.off w1
          have w2 := M2.off w2
          have w3 := M2.off w3
          have w4 := M2.off w4
          have w5 := M2.off w5
          have wD := M2.off wD
          have LO4 : LexO w own2 x0 [] vs2 := M2.other LO3 (fun e he hx' => LN1.apart0 _ x hx e hx' he)
          obtain ⟨v1, v2, v3, v4, v5, v6, hm3⟩ := id LO4
          have hi3 : (x0.q, instObj 59 x0.d) ∈ own2 := hm3 _ (.tail _ (.head _))
          have hd3 := hm3 _ (.tail _ (.tail _ (.head _)))
          dsimp only [lexD, ent] at hd3
          k_steps
          rename News _ _ _ _ => N13
          rename Fr _ _ _ _ => F13
          unfold Hold
          have tf := tokFacts rem'
          have hV3 : Chars vs2 (curP rem' ++ flatTail rem'.tail) := tf.1 ▸ hV2
          have fl3 : (curP rem' ++ flatTail rem'.tail).length ≤ 1000 := by rw [← tf.1]; exact Nat.le_trans (flat_len rem') (by rw [ecars] at hl; simp at hl; omega)
          refine tok_use B' F13 X' N13 T' rfl (by omega) (by omega) (.cons wD (.cons w1 (.cons w2 (.cons w3 (.cons w4 (.cons w5 .base)))))) LX.s LO4 hcb0 hV3 fl3 tf.2.1 tf.2.2.1 ?_
          intro t5 own3 h9 tk9 vs5 F14 N14 M3 hV5
          rw [tf.2.2.2] at hV5
          clear F13 N13
          have z1 := M3.off w1
          have z2 := M3.off w2
          have z3 := M3.off w3
          have z4 := M3.off w4
          have z5 := M3.off w5
          have zD := M3.off wD
          k_steps
          rename News _ _ _ _ => N15
          rename Fr _ _ _ _ => F15
          rename Obj.data _ = Data.cell _ => d15
          have eN : (park (dn ++ [b])).nums = (park dn).nums ++ [fitAt (park dn).lasts b.r + 1] := by rw [park_snoc]; simp [park1, heq]
          have eL : (park (dn ++ [b])).lasts = ((park dn).lasts ++ [0]).set (fitAt (park dn).lasts b.r) b.r := by rw [park_snoc]; simp [park1, heq]
          have eQ : (park (dn ++ [b])).qs = ((park dn).qs ++ [[]]).modify (fitAt (park dn).lasts b.r) (· ++ [b]) := by rw [park_snoc, heq, ← park_len, modify_last]; simp [park1, heq]
          have LN2 := (LN1.push hx hq M2 (PathsAre.nil.snoc b _)).zero M3
          exact ⟨rem'.length, Nat.lt_succ_self _, own3, _, _, _, rem', dn ++ [b], vs5, _, _, qv ++ [Value.ref x.q], _, _, _, _, _, xs ++ [x], rfl, by rw [ecars]; simp, rfl, F15, (if_neg (by decide)).trans m1, (if_neg (by decide)).trans m2, (if_neg (by decide)).trans m3, (if_neg (by decide)).trans m4, fun q hq => N15 q (.tail _ hq), d15,
            by rw [eN]; exact hnv.snoc _ _, by rw [eL]; exact (hlv.snoc 0 _).set _ _ _, by rw [hqv]; simp, M3.lex, hV5, by rw [eQ]; exact LN2, ⟨z1, z2, z3, z4, z5⟩⟩
end Mine
end

section
-- C1
open PySem PySem.W PySem.W.X PySem.Calls PyProof.Rows PyProof.Rows.LCg
set_option Elab.async false
set_option maxRecDepth 100000
set_option maxHeartbeats 8000000
namespace Mine
/-- a comprehension's source: turn i binds the target and goes on -/
structure GW (prog : Program) (w : World) (A : Around) (scope : Scope) (cl : List (Str × Addr)) (env : Env) (target : Expr) (I : Addr) (n : Nat) (fp wr : List Addr) (St : Nat → Heap → Prop) (Bd : Nat → (Str → Option Value) → Prop) : Prop where
  sub : ∀ b ∈ wr, b ∈ fp
  frame : ∀ i h h', St i h → (∀ b ∈ fp, ∀ o, h.get? b = some o → h'.get? b = some o) → St i h'
  has : ∀ i h, St i h → ∀ b ∈ wr, ∃ o, h.get? b = some o
  go : ∀ (i : Nat) (C : Addr) (s : Shared) (m' : Str → Option Value) (Rn : Shared → Prop) (Q : Unit → Shared → Prop) (E : Value → Shared → Prop), i < n → St i s.heap → s.heap.Ns C m' → C ∉ fp →
    (∀ h tk m₂, Bd i m₂ → h.Ns C m₂ → St (i + 1) h → (∀ b o, b ∉ wr → b ≠ C → s.heap.get? b = some o → h.get? b = some o) → Q () { s with heap := h, toks := tk }) →
    wpAny (model prog w) A (pyNext (.ref I)) (fun r s₁ => match r with
      | none => Rn s₁
      | some v => wpAny (model prog w) A (letOwnedTupleGo target (.ref I) v) (fun _ s₀ => wpAny (model prog w) A (assign target (compEnvC scope cl C env) v) Q E s₀) E s₁) E s
  done : ∀ (s : Shared) (Q : Option Value → Shared → Prop) (E : Value → Shared → Prop), St n s.heap →
    (∀ h' tk, (∀ b o, b ∉ wr → s.heap.get? b = some o → h'.get? b = some o) → Q none { s with heap := h', toks := tk }) → wpAny (model prog w) A (pyNext (.ref I)) Q E s
  self : ∀ (s : Shared) (Q : Value → Shared → Prop) (E : Value → Shared → Prop), St 0 s.heap → Q (.ref I) s → wpAny (model prog w) A (pyIter (.ref I)) Q E s
section
variable {prog : Program} {w : World} {A : Around} {scope : Scope} {cl : List (Str × Addr)} {env : Env}
theorem GW.enum {e it l : Addr} {a b : Str} {pa pb tp : Pos} {kk : Nat} (hh : A.handled = none) (hei : e ≠ it) (hle : l ≠ e) (hli : l ≠ it) (items : Array Value)
    (hkind : scope.kind = .function) (hxa : scope.names.lookup a = some .local) (hxb : scope.names.lookup b = some .local) (hab : ¬ a = b) :
    GW prog w A scope cl env (.Tuple [.Name a pa, .Name b pb] kk tp) e items.size [e, it, l] [e, it] (fun i h => (∃ old, IsEnum h e it i old) ∧ h.IsListIter it l i ∧ h.IsList l items)
      (fun i m => ∃ t x, items[i]? = some x ∧ m a = some (.int (i : Int) t) ∧ m b = some x) := by
  have W := WalksT.enumerate (prog := prog) (w := w) (A := A) hh e it l hei hle hli items
  refine ⟨W.sub, W.frame, fun i h st b hb => ?_, fun i C s m' Rn Q E hi hst hn hC h => ?_, W.done, W.self 0⟩
  · obtain ⟨⟨_, h1⟩, ⟨_, h2, _⟩, _⟩ := st
    rcases List.mem_cons.mp hb with rfl | hb
    · exact ⟨_, h1⟩
    · rw [List.mem_singleton.mp hb]; exact ⟨_, h2⟩
  refine W.item i _ _ _ hi hst fun T vals h₂ tk₂ hP _ hT hMd hk₂ => ?_
  refine W.go _ _ _ i T _ _ _ hMd fun h₃ hst₃ hk₃ => ?_
  obtain ⟨t, x, hx, hveq⟩ := hP
  subst hveq
  have nC : ∀ z ∈ [e, it], z ≠ C := fun z hz q => hC (q ▸ W.sub z hz)
  have hT₃ : h₃.IsTuple T #[.int i t, x] := (let ⟨o, ho, r⟩ := hT; ⟨o, hk₃ T o (W.apart _ _ _ hMd) ho, r⟩)
  have C1 : C ∉ [e, it] := fun q => nC _ q rfl
  refine kcp_assign (env := compEnvC scope cl C env) hh hT₃ (lookup_relabel_local hxa) (lookup_relabel_local hxb) (by simp [compEnvC, relabel, hkind]) ((hn.at' fun o q => hk₂ C o C1 q).at' fun o q => hk₃ C o C1 q) fun h₄ tk₄ hn₄ hs₄ => ?_
  exact h h₄ tk₄ _ ⟨t, x, hx, by simp [hab], by simp⟩ hn₄ (W.frame _ _ _ hst₃ fun b hb o q => hs₄ b o (fun z => hC (by rw [show b = C from z] at hb; exact hb)) q) fun b o hb hbC q => hs₄ b o hbC (hk₃ b o hb (hk₂ b o hb q))
theorem GW.name {I : Addr} {n : Nat} {fp wr : List Addr} {P : Nat → Value → Prop} {St : Nat → Heap → Prop} {a : Str} {pa : Pos} (W : Walks prog w A I fp wr n P St) (hw : ∀ i h, St i h → ∀ b ∈ wr, ∃ o, h.get? b = some o) (hkind : scope.kind = .function) (hxa : scope.names.lookup a = some .local) :
    GW prog w A scope cl env (.Name a pa) I n fp wr St (fun i m => ∃ x, P i x ∧ m a = some x) := by
  refine ⟨W.sub, W.frame, hw, fun i C s m' Rn Q E hi hst hn hC h => ?_, W.done, W.self 0⟩
  refine W.item i _ _ _ hi hst fun v h₂ tk₂ hP hst₂ hk₂ => ?_
  refine wpAny_pure ?_
  have C1 : C ∉ wr := fun q => hC (W.sub _ q)
  refine wpAny_assign_Name (wpAny_storeName_local (env := compEnvC scope cl C env) (lookup_relabel_local hxa) (hn.at' fun o q => hk₂ C o C1 q) (fun h₄ hn₄ hs₄ => ?_) (by simp [compEnvC, relabel, hkind]))
  exact h h₄ _ _ ⟨v, hP, by simp⟩ hn₄ (W.frame _ _ _ hst₂ fun b hb o q => hs₄.extBut b o (fun z => hC (by rw [show b = C from z] at hb; exact hb)) q) fun b o hb hbC q => hs₄.extBut b o hbC (hk₂ b o hb q)
theorem GW.pairs {I l : Addr} {a b : Str} {pa pb tp : Pos} {kk : Nat} (hh : A.handled = none) (hne : l ≠ I) (items : Array Value) (Ts : Nat → Addr) (vals : Nat → Value × Value)
    (hit : ∀ j, j < items.size → items[j]? = some (.ref (Ts j))) (hTI : ∀ j, j < items.size → Ts j ≠ I)
    (hkind : scope.kind = .function) (hxa : scope.names.lookup a = some .local) (hxb : scope.names.lookup b = some .local) (hab : ¬ a = b) :
    GW prog w A scope cl env (.Tuple [.Name a pa, .Name b pb] kk tp) I items.size (I :: l :: (List.range items.size).map Ts) [I]
      (fun j h => h.IsListIter I l j ∧ h.IsList l items ∧ ∀ k, k < items.size → h.IsTuple (Ts k) #[(vals k).1, (vals k).2])
      (fun i m => m a = some (vals i).1 ∧ m b = some (vals i).2) := by
  have W := WalksU.listOfTuples (prog := prog) (w := w) (A := A) hh I l hne items Ts (fun j => #[(vals j).1, (vals j).2]) hit hTI
  refine ⟨W.sub, W.frame, fun i h st b hb => ?_, fun i C s m' Rn Q E hi hst hn hC h => ?_, ?_, ?_⟩
  · obtain ⟨⟨_, h2, _⟩, _⟩ := st
    rw [List.mem_singleton.mp hb]; exact ⟨_, h2⟩
  · obtain ⟨h1, h2, h3⟩ := hst
    refine wpAny_pyNext_list_item h1 h2 (x := .ref (Ts i)) (hit i hi) fun h' hit' hs' => ?_
    refine wpAny_letOwnedTupleGo_listiter (i := i + 1) hit' ?_
    have nCI : C ≠ I := fun q => hC (q ▸ List.mem_cons_self)
    have tup : ∀ k, k < items.size → h'.IsTuple (Ts k) #[(vals k).1, (vals k).2] := fun k hk' => (h3 k hk').extBut hs'.extBut (hTI k hk')
    refine kcp_assign (env := compEnvC scope cl C env) hh (tup i hi) (lookup_relabel_local hxa) (lookup_relabel_local hxb) (by simp [compEnvC, relabel, hkind]) (hn.at' fun o q => hs'.extBut C o nCI q) fun h₄ tk₄ hn₄ hs₄ => ?_
    exact h h₄ tk₄ _ ⟨by simp [hab], by simp⟩ hn₄ (W.frame (i + 1) h' _ ⟨hit', h2.extBut hs'.extBut hne, tup⟩ fun b hb o q => hs₄ b o (fun z => hC (by rw [show b = C from z] at hb; exact hb)) q) fun b o hb hbC q => hs₄ b o hbC (hs'.extBut b o (fun z => hb (by rw [z]; exact List.mem_cons_self)) q)
  · intro s Q E hst hQ
    exact wpAny_pyNext_list_end hh hst.1 hst.2.1 (by simp) fun h' he' => hQ h' s.toks fun b o hb e => he' b o (fun h => hb (by simp [h])) e
  · intro s Q E hst hQ
    exact wpAny_pyIter_listiter hst.1 hQ
end
/-- a turn's end: what stands, its ledger, what is known -/
def GEnd (h₀ : Heap) (L : Addr) (m : Str → Option Value) (s : Shared) (its : List (Addr × Obj)) (C : Addr) (oC : Obj) (D : Addr) (oD : Obj) (rest : Value → List (Addr × Obj) → Prop) (y : Value) (s₂ : Shared) : Prop :=
  ∃ h' tk news, s₂ = { s with heap := h', toks := tk } ∧ Fr h₀ L h' m ∧ News h₀ L h' (its ++ (C, oC) :: (D, oD) :: news) ∧ (∀ p ∈ news, p.1 ∉ its.map (·.1) ∧ p.1 ≠ C ∧ p.1 ≠ D) ∧ rest y news
def GTurn (prog : Program) (w : World) (A : Around) (h₀ : Heap) (L : Addr) (m : Str → Option Value) (env : Env) (ifs : List Expr) (elt : Expr) (scope : Scope) (cl : List (Str × Addr)) (s : Shared) (n : Nat) (wr : List Addr) (z : Nat) (Bd : Nat → (Str → Option Value) → Prop) (J : Addr → Nat → List Value → List (Addr × Obj) → Prop) : Prop :=
  ∀ (i : Nat) (ys : List Value) (news its : List (Addr × Obj)) (C : Nat) (oC : Obj) (D : Nat) (m₂ : Str → Option Value) (h : Heap) (tk : Nat) (E' : Value → Shared → Prop), i < n → Bd i m₂ → J D i ys news → NsObj oC m₂ → its.map (·.1) = wr → Fr h₀ L h m →
      News h₀ L h (its ++ (C, oC) :: (D, lst ys) :: news) → (∀ p ∈ news, p.1 ∉ wr ∧ p.1 ≠ C ∧ p.1 ≠ D) → (∀ b ∈ wr, z ≤ b ∧ @LT.lt Nat _ b D) → z ≤ D → D < C →
      wpAny (model prog w) A (forIn ifs true fun c r => if r = true then do let ok ← isTrue c (compEnvC scope cl C env) (eval c (compEnvC scope cl C env)); pure (ForInStep.yield ok) else pure (ForInStep.yield r)) (fun ok s' => if ok = true then
        wpAny (model prog w) A (eval elt (compEnvC scope cl C env)) (GEnd h₀ L m s its C oC D (lst ys) fun y nw => J D (i + 1) (ys ++ [y]) nw) E' s'
        else GEnd h₀ L m s its C oC D (lst ys) (fun _ nw => J D (i + 1) ys nw) Value.none s') E' { s with heap := h, toks := tk }
section
variable {prog : Program} {w : World} {A : Around} {E : Value → Shared → Prop} {s : Shared} {h₀ : Heap} {L : Addr} {m : Str → Option Value} {env : Env}
theorem its_of {h : Heap} : ∀ (wr : List Addr), (∀ b ∈ wr, ∃ o, h.get? b = some o) → ∃ its : List (Addr × Obj), its.map (·.1) = wr ∧ ∀ p ∈ its, h.get? p.1 = some p.2
  | [], _ => ⟨[], rfl, fun _ hp => nomatch hp⟩
  | a :: wr, k =>
    let ⟨its, e, f⟩ := its_of wr fun b hb => k b (.tail _ hb)
    let ⟨o, ho⟩ := k a (.head _)
    ⟨(a, o) :: its, by rw [List.map_cons, e], fun p hp => by
      rcases List.mem_cons.mp hp with rfl | hp
      · exact ho
      · exact f p hp⟩
theorem gc_block {target elt iter : PySem.Expr} {ifs : List Expr} {scope : Scope} {cl : List (Str × Addr)} {pos : Pos} {s₂ : Shared} {I : Addr} {n z : Nat} {fp wr : List Addr} {St : Nat → Heap → Prop} {Bd : Nat → (Str → Option Value) → Prop} {news kp : List (Addr × Obj)}
    {J : Addr → Nat → List Value → List (Addr × Obj) → Prop} {RR : Value → Addr → Result → Shared → Prop}
    (W : GW prog w A scope cl env target I n fp wr St Bd) (hst0 : St 0 s₂.heap) (hsz : n ≤ sizeLine) (hfp : ∀ b ∈ fp, b ∈ wr ∨ ∃ o, (b, o) ∈ kp) (hkp : ∀ D i ys nw, J D i ys nw → ∀ p ∈ kp, p ∈ nw)
    (hwr : ∀ b ∈ wr, z ≤ b ∧ ∃ o, s₂.heap.get? b = some o) (hzs : z ≤ s₂.heap.objs.size) (hLz : L < z) (hz₀ : ∀ b, z ≤ b → h₀.get? b = none)
    (hcell : ∀ y ∈ scope.names, y.2 ≠ .cell) (hkind : scope.kind = .function)
    (F : Fr h₀ L s₂.heap m) (N : News h₀ L s₂.heap news) (ol : ∀ p ∈ news, p.1 < z) (J0 : ∀ D, z ≤ D → J D 0 [] news)
    (R : GTurn prog w A h₀ L m env ifs elt scope cl s₂ n wr z Bd J)
    (hRR : ∀ D C h tk m' ys nw, Fr h₀ L h m → News h₀ L h ((D, lst ys) :: nw) → z ≤ D → h.Ns C m' → h₀.get? C = none → h₀.get? D = none → C ≠ L → D ≠ L → C ≠ D → (∀ p ∈ nw, p.1 ≠ C ∧ p.1 ≠ D) → J D n ys nw → RR (.ref D) C (.ok .next) { s₂ with heap := h, toks := tk }) :
    wpAny (model prog w) A (newList []) (fun acc s₃ => wpAny (model prog w) A (newFunctionEnv scope env.globals cl [] env.qual none .none (some env)) (fun cenv s₄ =>
      codeAny (model prog w) A (.compStart (.ListComp elt [⟨target, iter, ifs, 0⟩] scope pos) 0 (.ref I) acc { cenv with scope := relabel scope env }) (RR acc cenv.locals) s₄) E s₃) E s₂ := by
  refine wpAny_newObj_type (wpAny_newFunctionEnv hcell (by intro y hy; simp at hy) (fun h₁ hns₁ hsb₁ => ?_) hkind)
  dsimp only at hns₁ hsb₁ ⊢
  generalize hH2 : s₂.heap.push { cls := .type "list", dict := none, data := .seq ([] : List Value).toArray } = H2 at hns₁ hsb₁ ⊢
  have hC : H2.objs.size = s₂.heap.objs.size + 1 := by rw [← hH2, Heap.size_push]
  have hDC : s₂.heap.objs.size ≠ H2.objs.size := by rw [hC]; exact Nat.ne_of_lt (Nat.lt_succ_self _)
  have below : ∀ b, b < s₂.heap.objs.size → b ≠ H2.objs.size ∧ b ≠ s₂.heap.objs.size := fun b hb => ⟨by rw [hC]; exact Nat.ne_of_lt (Nat.lt_succ_of_lt hb), Nat.ne_of_lt hb⟩
  have old : ∀ b o, s₂.heap.get? b = some o → h₁.get? b = some o := fun b o e => hsb₁.extBut b o (below b (Heap.lt_size e)).1 (Heap.get?_push_of_some _ (hH2 ▸ Heap.get?_push_of_some _ e))
  have hacc : h₁.get? s₂.heap.objs.size = some (lst []) := hsb₁.extBut _ _ hDC (Heap.get?_push_of_some _ (hH2 ▸ Heap.get?_push_size _ rfl))
  have hD₀ : h₀.get? s₂.heap.objs.size = none := hz₀ _ hzs
  have hC₀ : h₀.get? H2.objs.size = none := hz₀ _ (by rw [hC]; exact Nat.le_succ_of_le hzs)
  have hLlt : L < s₂.heap.objs.size := F.ns.lt
  have hDL : s₂.heap.objs.size ≠ L := Ne.symm (below L hLlt).2
  have hCL : H2.objs.size ≠ L := Ne.symm (below L hLlt).1
  have wlt : ∀ b ∈ wr, b < s₂.heap.objs.size := fun b hb => let ⟨_, o, ho⟩ := hwr b hb; Heap.lt_size ho
  have w₀ : ∀ b ∈ wr, h₀.get? b = none := fun b hb => hz₀ _ (hwr b hb).1
  have wL : L ∉ wr := fun hb => Nat.lt_irrefl _ (Nat.lt_of_lt_of_le hLz (hwr L hb).1)
  have kpD : ∀ D i ys nw, J D i ys nw → (∀ p ∈ nw, p.1 ∉ wr ∧ p.1 ≠ H2.objs.size ∧ p.1 ≠ s₂.heap.objs.size) → ∀ b ∈ fp, b ≠ H2.objs.size ∧ b ≠ s₂.heap.objs.size := fun D i ys nw hJ off b hb => by
    rcases hfp b hb with hb | ⟨o, ho⟩
    · exact below b (wlt b hb)
    · exact (off _ (hkp D i ys nw hJ _ ho)).2
  have off0 : ∀ p ∈ news, p.1 ∉ wr ∧ p.1 ≠ H2.objs.size ∧ p.1 ≠ s₂.heap.objs.size := fun p hp => ⟨fun q => Nat.lt_irrefl _ (Nat.lt_of_lt_of_le (ol p hp) (hwr _ q).1), below _ (Nat.lt_of_lt_of_le (ol p hp) hzs)⟩
  have st1 : St 0 h₁ := W.frame _ _ _ hst0 fun b _ o q => old b o q
  have loop : ∀ s₃ : Shared, s₃ = { s₂ with heap := h₁, toks := s₂.toks + ([] : List (Str × Value)).length } →
      codeAny (model prog w) A (.compLoop (.ListComp elt [⟨target, iter, ifs, 0⟩] scope pos) 0 (.ref I) (.ref s₂.heap.objs.size) (compEnvC scope cl H2.objs.size env))
        (RR (.ref s₂.heap.objs.size) H2.objs.size) s₃ := by
    rintro s₃ rfl
    refine ecLoopT
      (fun k s' => ∃ h' tk i ys m' nw, s' = { s₂ with heap := h', toks := tk } ∧ i ≤ n ∧ k = n + 1 - i ∧ ys.length ≤ i ∧ St i h' ∧ Fr h₀ L h' m ∧ h'.Ns H2.objs.size m' ∧
        News h₀ L h' ((s₂.heap.objs.size, lst ys) :: nw) ∧ (∀ p ∈ nw, p.1 ∉ wr ∧ p.1 ≠ H2.objs.size ∧ p.1 ≠ s₂.heap.objs.size) ∧ J s₂.heap.objs.size i ys nw) ?_ (n + 1)
      ⟨h₁, _, 0, [], _, news, rfl, Nat.zero_le _, rfl, Nat.le_refl _, st1, F.keeps old, hns₁, fun p hp => ?_, off0, J0 _ hzs⟩
    · rintro k s' ⟨h', tk, i, ys, m', nw, rfl, hi, rfl, hyl, hst, F', hn', N', off, hJ⟩
      have hCfp : H2.objs.size ∉ fp := fun hm => (kpD _ _ _ _ hJ off _ hm).1 rfl
      by_cases hlt : i < n
      · refine W.go i H2.objs.size _ m' _ _ _ hlt hst hn' hCfp fun h₄ tk₄ m₂ hBd hn₄ hst₄ hk₄ => ?_
        obtain ⟨oC, heC, hoC⟩ := ns_obj hn₄
        have C1 : H2.objs.size ∉ wr := fun q => hCfp (W.sub _ q)
        have F₄ : Fr h₀ L h₄ m := ⟨F'.ns.at' fun o q => hk₄ _ o wL hCL.symm q, fun c o q => hk₄ c o (fun y => by rw [w₀ c y] at q; cases q) (fun y => by rw [y, hC₀] at q; cases q) (F'.keep c o q), F'.above⟩
        obtain ⟨its, eits, hits⟩ := its_of wr (W.has _ _ hst₄)
        have N₄ : News h₀ L h₄ (its ++ (H2.objs.size, oC) :: (s₂.heap.objs.size, lst ys) :: nw) := fun p hp => by
          rcases List.mem_append.mp hp with hp | hp
          · have hb : p.1 ∈ wr := eits ▸ List.mem_map_of_mem (f := (·.1)) hp
            exact ⟨hits p hp, fun q => wL (q ▸ hb), w₀ _ hb⟩
          rcases List.mem_cons.mp hp with rfl | hp
          · exact ⟨heC, hCL, hC₀⟩
          have q := N' p hp
          rcases List.mem_cons.mp hp with rfl | hp
          · exact ⟨hk₄ _ _ (fun y => Nat.lt_irrefl _ (wlt _ y)) hDC q.1, q.2⟩
          · exact ⟨hk₄ _ _ (off p hp).1 (off p hp).2.1 q.1, q.2⟩
        have stay : ∀ (h : Heap) nw', News h₀ L h (its ++ (H2.objs.size, oC) :: (s₂.heap.objs.size, lst ys) :: nw') → (∀ p ∈ kp, p ∈ nw') → St (i + 1) h := fun h nw' N5 k5 => W.frame _ _ _ hst₄ fun b hb o q => by
          rcases hfp b hb with hb | ⟨o', ho'⟩
          · rw [← eits] at hb
            obtain ⟨p, hp, rfl⟩ := List.mem_map.mp hb
            have e1 := hits p hp
            rw [q] at e1; cases e1
            exact (N5 p (List.mem_append_left _ hp)).1
          · have e1 := (N₄ (b, o') (List.mem_append_right _ (.tail _ (.tail _ (hkp _ _ _ _ hJ _ ho'))))).1
            rw [q] at e1; cases e1
            exact (N5 (b, o') (List.mem_append_right _ (.tail _ (.tail _ (k5 _ ho'))))).1
        refine wpAny_mono (R i ys nw its H2.objs.size oC s₂.heap.objs.size m₂ h₄ tk₄ _ hlt hBd hJ hoC eits F₄ N₄ off (fun b hb => ⟨(hwr b hb).1, wlt b hb⟩) hzs (by rw [hC]; exact Nat.lt_succ_self _)) (fun ok s₅ h₅ => ?_) fun _ _ e => e
        cases ok with
        | false =>
          simp only [Bool.false_eq_true, if_false] at h₅ ⊢
          obtain ⟨h₅, tk₅, nw', rfl, F₅, N₅, off₅, hJ'⟩ := h₅
          have zC := (N₅ (H2.objs.size, oC) (List.mem_append_right _ (.head _))).1
          refine ⟨n + 1 - (i + 1), by omega, h₅, tk₅, i + 1, ys, _, nw', rfl, hlt, rfl, Nat.le_succ_of_le hyl, stay h₅ nw' N₅ (hkp _ _ _ _ hJ'), F₅, hoC.ns zC, fun q hq => N₅ q (List.mem_append_right _ (.tail _ hq)), by rw [← eits]; exact off₅, hJ'⟩
        | true =>
          simp only [if_true] at h₅ ⊢
          refine wpAny_mono h₅ (fun y s₆ h₆ => ?_) fun _ _ e => e
          obtain ⟨h₅, tk₅, nw', rfl, F₅, N₅, off₅, hJ'⟩ := h₆
          have zC := (N₅ (H2.objs.size, oC) (List.mem_append_right _ (.head _))).1
          have zD := (N₅ (s₂.heap.objs.size, lst ys) (List.mem_append_right _ (.tail _ (.head _)))).1
          have st5 := stay h₅ nw' N₅ (hkp _ _ _ _ hJ')
          rw [eits] at off₅
          refine append_at (hsz := by show ys.toArray.size ≤ sizeLine; rw [List.size_toArray]; exact Nat.le_trans hyl (Nat.le_trans hi hsz)) zD fun h₆ hs₆ hD₆ => ?_
          refine ⟨n + 1 - (i + 1), by omega, h₆, tk₅, i + 1, ys ++ [y], _, nw', rfl, hlt, rfl, by rw [List.length_append, List.length_singleton]; exact Nat.succ_le_succ hyl, W.frame _ _ _ st5 (fun b hb o q => hs₆.extBut b o (kpD _ _ _ _ hJ' off₅ b hb).2 q), F₅.change hs₆ hDL hD₀,
            (hoC.ns zC).sameBut hs₆ (Ne.symm hDC), fun q hq => ?_, off₅, hJ'⟩
          rcases List.mem_cons.mp hq with rfl | hq
          · exact ⟨hD₆.trans (congrArg some (lst_snoc ys y)), hDL, hD₀⟩
          · have z5 := N₅ q (List.mem_append_right _ (.tail _ (.tail _ hq)))
            exact ⟨hs₆.extBut _ _ (off₅ q hq).2.2 z5.1, z5.2⟩
      · have hin : i = n := Nat.le_antisymm hi (Nat.not_lt.mp hlt)
        subst hin
        refine W.done _ _ _ hst fun h₂ tk₂ hk₂ => ?_
        have F₂ : Fr h₀ L h₂ m := ⟨F'.ns.at' fun o q => hk₂ _ o wL q, fun c o q => hk₂ c o (fun y => by rw [w₀ c y] at q; cases q) (F'.keep c o q), F'.above⟩
        have C1 : H2.objs.size ∉ wr := fun q => hCfp (W.sub _ q)
        refine hRR s₂.heap.objs.size H2.objs.size h₂ tk₂ _ ys nw F₂ (fun q hq => ?_) hzs (hn'.at' fun o q => hk₂ _ o C1 q) hC₀ hD₀ hCL hDL (Ne.symm hDC) (fun p hp => (off p hp).2) hJ
        have y := N' q hq
        rcases List.mem_cons.mp hq with rfl | hq
        · exact ⟨hk₂ _ _ (fun y => Nat.lt_irrefl _ (wlt _ y)) y.1, y.2⟩
        · exact ⟨hk₂ _ _ (off q hq).1 y.1, y.2⟩
    · rcases List.mem_cons.mp hp with rfl | hp
      · exact ⟨hacc, hDL, hD₀⟩
      · exact ⟨old _ _ (N p hp).1, (N p hp).2⟩
  exact codeAny_compStart_list (loop _ rfl) (W.self _ _ _ st1 (loop _ rfl))
end
end Mine
end

section
-- C2
open PySem PySem.W PySem.W.X PySem.Calls PyProof.Rows PyProof.Rows.LCg
set_option Elab.async false
set_option maxRecDepth 100000
set_option maxHeartbeats 8000000
namespace Mine
/-- the tests of a turn, then its element -/
abbrev GTest (prog : Program) (w : World) (A : Around) (ifs : List Expr) (elt : Expr) (env : Env) (P1 P0 : Value → Shared → Prop) (E : Value → Shared → Prop) (s : Shared) : Prop :=
  wpAny (model prog w) A (forIn ifs true fun c r => if r = true then do let ok ← isTrue c env (eval c env); pure (ForInStep.yield ok) else pure (ForInStep.yield r)) (fun ok s' => if ok = true then wpAny (model prog w) A (eval elt env) P1 E s' else P0 Value.none s') E s
section
variable {prog : Program} {w : World} {A : Around} {E : Value → Shared → Prop} {s : Shared}
theorem gt_none {elt : Expr} {env : Env} {P1 P0 : Value → Shared → Prop} (h : wpAny (model prog w) A (eval elt env) P1 E s) : GTest prog w A [] elt env P1 P0 E s := by
  show wpAny _ _ (pure true) _ _ _
  exact wpAny_pure (by simpa using h)
theorem gt_one {ct elt : Expr} {env : Env} {P1 P0 : Value → Shared → Prop} (h : wpAny (model prog w) A (isTrue ct env (eval ct env)) (fun ok s' => if ok = true then wpAny (model prog w) A (eval elt env) P1 E s' else P0 Value.none s') E s) : GTest prog w A [ct] elt env P1 P0 E s :=
  wpAny_tests_one h
end
/-- a comprehension's source has been met -/
def GSrc (prog : Program) (w : World) (A : Around) (h₀ : Heap) (L : Addr) (m : Str → Option Value) (mf : Addr → Str → Option Value) (NN : Addr → List Value → List (Addr × Obj) → Heap → Prop) (ex : List Addr) (env : Env) (ifs : List Expr) (elt target : Expr) (scope : Scope) (cl : List (Str × Addr)) (Q E : Value → Shared → Prop) (xv : Value) (s : Shared) : Prop :=
  wpAny (model prog w) A (pyIter xv) (fun itv s₂ => ∃ (I : Addr) (n z : Nat) (fp wr : List Addr) (St : Nat → Heap → Prop) (Bd : Nat → (Str → Option Value) → Prop) (news kp : List (Addr × Obj)) (J : Addr → Nat → List Value → List (Addr × Obj) → Prop),
    itv = .ref I ∧ GW prog w A scope cl env target I n fp wr St Bd ∧ St 0 s₂.heap ∧ n ≤ sizeLine ∧ (∀ b ∈ fp, b ∈ wr ∨ ∃ o, (b, o) ∈ kp) ∧ (∀ D i ys nw, J D i ys nw → ∀ p ∈ kp, p ∈ nw) ∧
    (∀ b ∈ wr, z ≤ b ∧ ∃ o, s₂.heap.get? b = some o) ∧ z ≤ s₂.heap.objs.size ∧ L < z ∧ (∀ b, z ≤ b → h₀.get? b = none) ∧ Fr h₀ L s₂.heap m ∧ News h₀ L s₂.heap news ∧ (∀ p ∈ news, p.1 < z) ∧ (∀ D, z ≤ D → J D 0 [] news) ∧ (∀ D i ys nw, J D i ys nw → ∀ a ∈ ex, ∃ o v, (a, o) ∈ nw ∧ o.data = .cell v) ∧
    GTurn prog w A h₀ L m env ifs elt scope cl s₂ n wr z Bd J ∧
    ∀ (D : Nat) ys nw h tk, Fr h₀ L h (mf D) → NN D ys nw h → z ≤ D → (∀ p ∈ nw, p.1 ≠ D) → J D n ys nw → Q (.ref D) { s₂ with heap := h, toks := tk }) E s
section
variable {prog : Program} {w : World} {A : Around} {E : Value → Shared → Prop} {s : Shared} {h₀ : Heap} {L : Addr} {m : Str → Option Value} {env : Env}
theorem gc_ListComp {ifs : List Expr} {elt iter target : PySem.Expr} {scope : Scope} {cl : List (Str × Addr)} {pos : Pos} {Q : Value → Shared → Prop} (_F₀ : Fr h₀ L s.heap m)
    (hclos : closureFor scope env = pure cl) (hcell : ∀ y ∈ scope.names, y.2 ≠ .cell) (hkind : scope.kind = .function)
    (hnames : ∀ y ∈ scope.names, y.2 = .local → scope.names.lookup y.1 = some .local)
    (h : wpAny (model prog w) A (eval iter env) (GSrc prog w A h₀ L m (fun _ => m) (fun D ys nw h => News h₀ L h ((D, lst ys) :: nw)) [] env ifs elt target scope cl Q E) E s)
    (hs : ∀ x, foldedSetIterable iter env x = pure x := by intro _; rfl) :
    wpAny (model prog w) A (eval (.ListComp elt [⟨target, iter, ifs, 0⟩] scope pos) env) Q E s := by
  rw [eval_ListComp]
  refine wpAny_comprehension_free (use := none) rfl hs hclos hkind hnames (wpAny_mono h (fun xv s₁ h₁ => wpAny_mono h₁ (fun itv s₂ h₂ => ?_) fun _ _ e => e) fun _ _ e => e)
  obtain ⟨I, n, z, fp, wr, St, Bd, news, kp, J, rfl, W, hst, hsz, hfp, hkp, hwr, hzs, hLz, hz₀, F, N, ol, J0, _hx, R, fin⟩ := h₂
  refine gc_block W hst hsz hfp hkp hwr hzs hLz hz₀ hcell hkind F N ol J0 R ?_
  intro D C h tk m' ys nw F' N' hzD hn hC₀ hD₀ hCL hDL hCD off hJ
  refine ⟨m', hn, fun h'' hs'' => fin D ys nw h'' tk (F'.change hs'' hCL hC₀) (fun p hp => ?_) hzD (fun p hp => (off p hp).2) hJ⟩
  refine ⟨hs''.extBut _ _ ?_ (N' p hp).1, (N' p hp).2⟩
  rcases List.mem_cons.mp hp with rfl | hp
  · exact Ne.symm hCD
  · exact (off p hp).1
theorem gc_Assign {ifs : List Expr} {elt iter target : PySem.Expr} {y : Str} {py : Pos} {scope : Scope} {cl : List (Str × Addr)} {pos spos : Pos} {Q : Flow → Shared → Prop} (_F₀ : Fr h₀ L s.heap m) (hLe : env.locals = L)
    (hsw : swapsWith (.ListComp elt [⟨target, iter, ifs, 0⟩] scope pos) (some (.Name y py)) spos.line env = pure true)
    (hclos : closureFor scope env = pure cl) (hcell : ∀ y ∈ scope.names, y.2 ≠ .cell) (hkind : scope.kind = .function)
    (hnames : ∀ y ∈ scope.names, y.2 = .local → scope.names.lookup y.1 = some .local)
    (hy : env.kindOf y = some .local) (hp : (env.scope.kind == .class || (env.scope.kind == .module && env.locals != env.globals)) = false)
    (h : wpAny (model prog w) A (eval iter env) (GSrc prog w A h₀ L m (fun D z => if z = y then some (.ref D) else m z) (fun D ys nw h => News h₀ L h ((D, lst ys) :: nw)) [] env ifs elt target scope cl (fun _ s' => Q .next s') E) E s)
    (hs : ∀ x, foldedSetIterable iter env x = pure x := by intro _; rfl) :
    wpAny (model prog w) A (exec (.Assign [.Name y py] (.ListComp elt [⟨target, iter, ifs, 0⟩] scope pos) spos) env) Q E s := by
  subst hLe
  rw [exec_Assign_Name_used _ _ _ _ hsw]
  refine wpAny_bind (wpAny_standAt (wpAny_bind ?_))
  show wpAny _ A (do let _ ← comprehension (.ListComp elt [⟨target, iter, ifs, 0⟩] scope pos) scope env _ (newList []) false (eval iter env) (some (assign (.Name y py) env))) _ _ s
  refine wpAny_bind (wpAny_mono (wpAny_comprehension_free (use := some (assign (.Name y py) env)) (Q := fun _ s' => Q .next s') rfl hs hclos hkind hnames
    (wpAny_mono h (fun xv s₁ h₁ => wpAny_mono h₁ (fun itv s₂ h₂ => ?_) fun _ _ e => e) fun _ _ e => e)) (fun _ s' hq => wpAny_pure (wpAny_pure hq)) fun _ _ e => e)
  obtain ⟨I, n, z, fp, wr, St, Bd, news, kp, J, rfl, W, hst, hsz, hfp, hkp, hwr, hzs, hLz, hz₀, F, N, ol, J0, _hx, R, fin⟩ := h₂
  refine gc_block W hst hsz hfp hkp hwr hzs hLz hz₀ hcell hkind F N ol J0 R ?_
  intro D C h tk m' ys nw F' N' hzD hn hC₀ hD₀ hCL hDL hCD off hJ
  show wpAny _ A (assign (.Name y py) env (.ref D)) _ _ _
  refine wpAny_assign_Name (wpAny_storeName_local hy F'.ns (fun h₂ hn₂ hs₂ => ?_) hp)
  have hL₀ : h₀.get? env.locals = none := Heap.get?_none_of_le F'.above
  have F₂ : Fr h₀ env.locals h₂ (fun z => if z = y then some (.ref D) else m z) := ⟨hn₂, fun b o e => hs₂.extBut b o (fun q => by rw [q, hL₀] at e; cases e) (F'.keep b o e), F'.above⟩
  refine ⟨m', hn.sameBut hs₂ hCL, fun h'' hs'' => fin D ys nw h'' _ (F₂.change hs'' hCL hC₀) (fun p hp => ?_) hzD (fun p hp => (off p hp).2) hJ⟩
  have z : h₂.get? p.1 = some p.2 := hs₂.extBut _ _ (N' p hp).2.1 (N' p hp).1
  refine ⟨hs''.extBut _ _ ?_ z, (N' p hp).2⟩
  rcases List.mem_cons.mp hp with rfl | hp
  · exact Ne.symm hCD
  · exact (off p hp).1
/-- one turn, one iterator -/
def GT1 (prog : Program) (w : World) (A : Around) (h₀ : Heap) (L : Addr) (m : Str → Option Value) (env : Env) (ifs : List Expr) (elt : Expr) (scope : Scope) (cl : List (Str × Addr)) (s : Shared) (n : Nat) (news : List (Addr × Obj)) (Bd : Nat → (Str → Option Value) → Prop) (J : Addr → Nat → List Value → List (Addr × Obj) → Prop) : Prop :=
  ∀ (i : Nat) (ys : List Value) (nw : List (Addr × Obj)) (I : Nat) (oI : Obj) (C : Nat) (oC : Obj) (D : Nat) (m₂ : Str → Option Value) (h : Heap) (tk : Nat) (E' : Value → Shared → Prop), i < n → Bd i m₂ → J D i ys nw → NsObj oC m₂ → Fr h₀ L h m →
      News h₀ L h ((I, oI) :: (C, oC) :: (D, lst ys) :: nw) → (∀ p ∈ nw, p.1 ≠ I ∧ p.1 ≠ C ∧ p.1 ≠ D) → (∀ p ∈ news, @LT.lt Nat _ p.1 I) → L < I → I < D → D < C →
      GTest prog w A ifs elt (compEnvC scope cl C env) (GEnd h₀ L m s [(I, oI)] C oC D (lst ys) fun y nw => J D (i + 1) (ys ++ [y]) nw) (GEnd h₀ L m s [(I, oI)] C oC D (lst ys) (fun _ nw => J D (i + 1) ys nw)) E' { s with heap := h, toks := tk }
theorem GT1.turn {ifs : List Expr} {elt : Expr} {scope : Scope} {cl : List (Str × Addr)} {n : Nat} {news : List (Addr × Obj)} {Bd : Nat → (Str → Option Value) → Prop} {J : Addr → Nat → List Value → List (Addr × Obj) → Prop} {h2 : Heap} {t2 : Nat} {I z : Nat} (ol : ∀ p ∈ news, p.1 < z) (hL : L < z)
    (hz : z ≤ I) (R : GT1 prog w A h₀ L m env ifs elt scope cl s n news Bd J) : GTurn prog w A h₀ L m env ifs elt scope cl { s with heap := h2, toks := t2 } n [I] z Bd J := by
  intro i ys nw its C oC D m₂ h tk E' hi hB hJ hoC hits F N off hw hzD hDC
  obtain ⟨⟨b, oI⟩, rfl⟩ : ∃ p, its = [p] := by
    cases its with
    | nil => simp at hits
    | cons p r =>
      cases r with
      | nil => exact ⟨p, rfl⟩
      | cons q r => simp at hits
  have e : b = I := by simpa using hits
  subst e
  exact R i ys nw b oI C oC D m₂ h tk E' hi hB hJ hoC F N (fun p hp => by have := off p hp; simpa using this) (fun p hp => Nat.lt_of_lt_of_le (ol p hp) hz) (Nat.lt_of_lt_of_le hL hz) (hw b (by simp)).2 hDC
theorem gc_list {mf : Addr → Str → Option Value} {NN : Addr → List Value → List (Addr × Obj) → Heap → Prop} {ex : List Addr} {ifs : List Expr} {elt : PySem.Expr} {a : Str} {pa : Pos} {scope : Scope} {cl : List (Str × Addr)} {Q : Value → Shared → Prop} {l c : Nat} {vs : List Value} {news : List (Addr × Obj)} (J : Addr → Nat → List Value → List (Addr × Obj) → Prop)
    (hh : A.handled = none) (F : Fr h₀ L s.heap m) (N : News h₀ L s.heap news) (hkind : scope.kind = .function) (hxa : scope.names.lookup a = some .local)
    (hl : (l, listOf vs.toArray c) ∈ news) (hsz : vs.length ≤ 1000) (J0 : ∀ D, (∀ p ∈ news, @LT.lt Nat _ p.1 D) → J D 0 [] news) (hkp : ∀ D i ys nw, J D i ys nw → (l, listOf vs.toArray c) ∈ nw)
    (R : GT1 prog w A h₀ L m env ifs elt scope cl s vs.length news (fun i m => ∃ x, vs[i]? = some x ∧ m a = some x) J)
    (fin : ∀ (D : Nat) ys nw h tk, Fr h₀ L h (mf D) → NN D ys nw h → (∀ p ∈ news, @LT.lt Nat _ p.1 D) → (∀ p ∈ nw, p.1 ≠ D) → J D vs.length ys nw → Q (.ref D) { s with heap := h, toks := tk })
    (hex : ∀ D i ys nw, J D i ys nw → ∀ a ∈ ex, ∃ o v, (a, o) ∈ nw ∧ o.data = .cell v := by intro _ _ _ _ _ _ hp; cases hp) :
    GSrc prog w A h₀ L m mf NN ex env ifs elt (.Name a pa) scope cl Q E (.ref l) s := by
  have ol : ∀ p ∈ news, p.1 < s.heap.objs.size := fun p hp => Heap.lt_size (N p hp).1
  refine wpAny_pyIter_list (News.isList N hl) ?_
  have W := Walks.list (prog := prog) (w := w) (A := A) hh s.heap.objs.size l (Nat.ne_of_lt (ol _ hl)) vs.toArray
  have W2 : GW prog w A scope cl env (.Name a pa) s.heap.objs.size vs.length [s.heap.objs.size, l] [s.heap.objs.size] (fun i h => h.IsListIter s.heap.objs.size l i ∧ h.IsList l vs.toArray) (fun i m => ∃ x, vs[i]? = some x ∧ m a = some x) := by
    have W3 := GW.name (cl := cl) (env := env) (pa := pa) W (fun i h st b hb => by obtain ⟨⟨_, h2, _⟩, _⟩ := st; rw [List.mem_singleton.mp hb]; exact ⟨_, h2⟩) hkind hxa
    simpa using W3
  refine ⟨s.heap.objs.size, vs.length, s.heap.objs.size, _, _, _, _, news, [(l, listOf vs.toArray c)], J, rfl, W2, ⟨⟨_, Heap.get?_push_size _ rfl, rfl, rfl⟩, (News.isList N hl).push _⟩, Nat.le_trans hsz (by decide), fun b hb => ?_, fun D i ys nw hJ p hp => ?_,
    fun b hb => ?_, ?_, F.ns.lt, fun z hz => ktu_new F hz, F.push _, N.grown fun b o e => Heap.get?_push_of_some _ e, ol, fun D hz => J0 D fun p hp => Nat.lt_of_lt_of_le (ol p hp) hz, hex, GT1.turn ol F.ns.lt (Nat.le_refl _) R, fun D ys nw h tk F' N' hz off hJ => fin D ys nw h tk F' N' (fun p hp => Nat.lt_of_lt_of_le (ol p hp) hz) off hJ⟩
  · rcases List.mem_cons.mp hb with rfl | hb
    · exact .inl (.head _)
    · rw [List.mem_singleton.mp hb]; exact .inr ⟨_, .head _⟩
  · rw [List.mem_singleton.mp hp]; exact hkp D i ys nw hJ
  · rw [List.mem_singleton.mp hb]; exact ⟨Nat.le_refl _, _, Heap.get?_push_size _ rfl⟩
  · show s.heap.objs.size ≤ (s.heap.push _).objs.size
    rw [Heap.size_push]; exact Nat.le_succ _
theorem gc_range {mf : Addr → Str → Option Value} {NN : Addr → List Value → List (Addr × Obj) → Heap → Prop} {ex : List Addr} {ifs : List Expr} {elt : PySem.Expr} {a : Str} {pa : Pos} {scope : Scope} {cl : List (Str × Addr)} {Q : Value → Shared → Prop} {n : Nat} {t : Tok} {news : List (Addr × Obj)} (J : Addr → Nat → List Value → List (Addr × Obj) → Prop)
    (hh : A.handled = none) (F : Fr h₀ L s.heap m) (N : News h₀ L s.heap news) (hkind : scope.kind = .function) (hxa : scope.names.lookup a = some .local)
    (hsz : n ≤ 1000) (J0 : ∀ D, (∀ p ∈ news, @LT.lt Nat _ p.1 D) → J D 0 [] news)
    (R : GT1 prog w A h₀ L m env ifs elt scope cl s n news (fun i m => ∃ t : Tok, m a = some (.int (i : Int) t)) J)
    (fin : ∀ (D : Nat) ys nw h tk, Fr h₀ L h (mf D) → NN D ys nw h → (∀ p ∈ news, @LT.lt Nat _ p.1 D) → (∀ p ∈ nw, p.1 ≠ D) → J D n ys nw → Q (.ref D) { s with heap := h, toks := tk })
    (hex : ∀ D i ys nw, J D i ys nw → ∀ a ∈ ex, ∃ o v, (a, o) ∈ nw ∧ o.data = .cell v := by intro _ _ _ _ _ _ hp; cases hp) :
    wpAny (model prog w) A (call (.type "range") [.int (n : Int) t]) (GSrc prog w A h₀ L m mf NN ex env ifs elt (.Name a pa) scope cl Q E) E s := by
  have ol : ∀ p ∈ news, p.1 < s.heap.objs.size := fun p hp => Heap.lt_size (N p hp).1
  refine call_range_1 ?_
  have hr := IsRange.new s.heap 0 n 1 s.toks t (s.toks + 1)
  refine wpAny_pyIter_range hr (small_one (by omega) (by omega) (by omega) (by omega)) ?_
  dsimp only
  generalize hH : s.heap.push { cls := .type "range", data := .fields #[.int 0 s.toks, .int n t, .int 1 (s.toks + 1)] } = H
  have hHs : H.objs.size = s.heap.objs.size + 1 := by rw [← hH, Heap.size_push]
  have hsz1 : Builtin.Range.rangeSize 0 n 1 = (n : Int) := by rw [rangeSize_one]; split <;> omega
  have W := range_walks (prog := prog) (w := w) (A := A) (I := H.objs.size) hh 0 n
  have W2 : GW prog w A scope cl env (.Name a pa) H.objs.size n [H.objs.size] [H.objs.size] (fun i h => IsRangeIter h H.objs.size (0 + (i : Nat) * 1) ((n : Int) - (i : Nat)) 1) (fun i m => ∃ t : Tok, m a = some (.int (i : Int) t)) := by
    have W3 := GW.name (cl := cl) (env := env) (pa := pa) W (fun i h st b hb => by rw [List.mem_singleton.mp hb]; exact ⟨_, st⟩) hkind hxa
    refine ⟨W3.sub, W3.frame, W3.has, fun i C s m' Rn Q E hi hst hn hC h => W3.go i C s m' Rn Q E hi hst hn hC fun h' tk m₂ hB => h h' tk m₂ ?_, W3.done, W3.self⟩
    obtain ⟨x, ⟨t, rfl⟩, e⟩ := hB
    exact ⟨t, by rw [e]; simp⟩
  have up : ∀ b o, s.heap.get? b = some o → (H.push { cls := .type "range_iterator", data := .fields #[rawInt 0, rawInt (Builtin.Range.rangeSize 0 n 1), rawInt 1] }).get? b = some o := fun b o e => Heap.get?_push_of_some _ (hH ▸ Heap.get?_push_of_some _ e)
  have ol2 : ∀ p ∈ news, p.1 < H.objs.size := fun p hp => by rw [hHs]; exact Nat.lt_succ_of_lt (ol p hp)
  have hLH : L < H.objs.size := by rw [hHs]; exact Nat.lt_succ_of_lt F.ns.lt
  have st0 : IsRangeIter (H.push { cls := .type "range_iterator", data := .fields #[rawInt 0, rawInt (Builtin.Range.rangeSize 0 n 1), rawInt 1] }) H.objs.size (0 + ((0 : Nat) : Int) * 1) ((n : Int) - ((0 : Nat) : Int)) 1 := by
    rw [hsz1, show (0 : Int) + ((0 : Nat) : Int) * 1 = 0 from rfl, show (n : Int) - ((0 : Nat) : Int) = n from Int.sub_zero _]
    exact Heap.get?_push_size _ rfl
  have hsz3 : H.objs.size ≤ (H.push { cls := .type "range_iterator", data := .fields #[rawInt 0, rawInt (Builtin.Range.rangeSize 0 n 1), rawInt 1] }).objs.size := by
    rw [Heap.size_push]; exact Nat.le_succ _
  have hat : ∃ o, (H.push { cls := .type "range_iterator", data := .fields #[rawInt 0, rawInt (Builtin.Range.rangeSize 0 n 1), rawInt 1] }).get? H.objs.size = some o := ⟨_, Heap.get?_push_size _ rfl⟩
  generalize H.push { cls := .type "range_iterator", data := .fields #[rawInt 0, rawInt (Builtin.Range.rangeSize 0 n 1), rawInt 1] } = H3 at up st0 hsz3 hat ⊢
  refine ⟨H.objs.size, n, H.objs.size, _, _, _, _, news, [], J, rfl, W2, st0, Nat.le_trans hsz (by decide), fun b hb => .inl hb, (fun D i ys nw hJ p hp => nomatch hp),
    fun b hb => ?_, hsz3, hLH, fun z hz => ktu_new F (by rw [hHs] at hz; exact Nat.le_of_succ_le hz), F.keeps up, N.grown up, ol2, fun D hz => J0 D fun p hp => Nat.lt_of_lt_of_le (ol2 p hp) hz, hex, GT1.turn ol2 hLH (Nat.le_refl _) R, fun D ys nw h tk F' N' hz off hJ => fin D ys nw h tk F' N' (fun p hp => Nat.lt_of_lt_of_le (ol2 p hp) hz) off hJ⟩
  rw [List.mem_singleton.mp hb]; exact ⟨Nat.le_refl _, hat⟩
/-- one turn, two iterators: enumerate -/
def GT2 (prog : Program) (w : World) (A : Around) (h₀ : Heap) (L : Addr) (m : Str → Option Value) (env : Env) (ifs : List Expr) (elt : Expr) (scope : Scope) (cl : List (Str × Addr)) (s : Shared) (n : Nat) (news : List (Addr × Obj)) (Bd : Nat → (Str → Option Value) → Prop) (J : Addr → Nat → List Value → List (Addr × Obj) → Prop) : Prop :=
  ∀ (i : Nat) (ys : List Value) (nw : List (Addr × Obj)) (e : Nat) (oe : Obj) (it : Nat) (oi : Obj) (C : Nat) (oC : Obj) (D : Nat) (m₂ : Str → Option Value) (h : Heap) (tk : Nat) (E' : Value → Shared → Prop), i < n → Bd i m₂ → J D i ys nw → NsObj oC m₂ → Fr h₀ L h m →
      News h₀ L h ((e, oe) :: (it, oi) :: (C, oC) :: (D, lst ys) :: nw) → (∀ p ∈ nw, p.1 ≠ e ∧ p.1 ≠ it ∧ p.1 ≠ C ∧ p.1 ≠ D) → (∀ p ∈ news, @LT.lt Nat _ p.1 it) → L < it → it < e → e < D → D < C →
      GTest prog w A ifs elt (compEnvC scope cl C env) (GEnd h₀ L m s [(e, oe), (it, oi)] C oC D (lst ys) fun y nw => J D (i + 1) (ys ++ [y]) nw) (GEnd h₀ L m s [(e, oe), (it, oi)] C oC D (lst ys) (fun _ nw => J D (i + 1) ys nw)) E' { s with heap := h, toks := tk }
theorem gc_enum {mf : Addr → Str → Option Value} {NN : Addr → List Value → List (Addr × Obj) → Heap → Prop} {ex : List Addr} {ifs : List Expr} {elt : PySem.Expr} {a b : Str} {pa pb tp : Pos} {kk : Nat} {scope : Scope} {cl : List (Str × Addr)} {Q : Value → Shared → Prop} {l c : Nat} {vs : List Value} {news : List (Addr × Obj)} (J : Addr → Nat → List Value → List (Addr × Obj) → Prop)
    (hh : A.handled = none) (F : Fr h₀ L s.heap m) (N : News h₀ L s.heap news) (hkind : scope.kind = .function) (hxa : scope.names.lookup a = some .local) (hxb : scope.names.lookup b = some .local) (hab : ¬ a = b)
    (hl : (l, listOf vs.toArray c) ∈ news) (hsz : vs.length ≤ 1000) (J0 : ∀ D, (∀ p ∈ news, @LT.lt Nat _ p.1 D) → J D 0 [] news) (hkp : ∀ D i ys nw, J D i ys nw → (l, listOf vs.toArray c) ∈ nw)
    (R : GT2 prog w A h₀ L m env ifs elt scope cl s vs.length news (fun i m => ∃ (t : Tok) (x : Value), vs[i]? = some x ∧ m a = some (.int (i : Int) t) ∧ m b = some x) J)
    (fin : ∀ (D : Nat) ys nw h tk, Fr h₀ L h (mf D) → NN D ys nw h → (∀ p ∈ news, @LT.lt Nat _ p.1 D) → (∀ p ∈ nw, p.1 ≠ D) → J D vs.length ys nw → Q (.ref D) { s with heap := h, toks := tk })
    (hex : ∀ D i ys nw, J D i ys nw → ∀ a ∈ ex, ∃ o v, (a, o) ∈ nw ∧ o.data = .cell v := by intro _ _ _ _ _ _ hp; cases hp) :
    wpAny (model prog w) A (call (.type "enumerate") [.ref l]) (GSrc prog w A h₀ L m mf NN ex env ifs elt (.Tuple [.Name a pa, .Name b pb] kk tp) scope cl Q E) E s := by
  have ol : ∀ p ∈ news, p.1 < s.heap.objs.size := fun p hp => Heap.lt_size (N p hp).1
  refine call_enumerate_list (News.isList N hl) fun h' hE hI hsz' hk => ?_
  have hLs : L < s.heap.objs.size := F.ns.lt
  refine wpAny_pyIter_enum hE ?_
  have W := GW.enum (prog := prog) (w := w) (A := A) (scope := scope) (cl := cl) (env := env) (pa := pa) (pb := pb) (tp := tp) (kk := kk) hh (Nat.ne_of_gt (Nat.lt_succ_self s.heap.objs.size)) (Nat.ne_of_lt (Nat.lt_succ_of_lt (ol _ hl))) (Nat.ne_of_lt (ol _ hl)) vs.toArray hkind hxa hxb hab
  have W2 : GW prog w A scope cl env (.Tuple [.Name a pa, .Name b pb] kk tp) (s.heap.objs.size + 1) vs.length [s.heap.objs.size + 1, s.heap.objs.size, l] [s.heap.objs.size + 1, s.heap.objs.size] (fun i h => (∃ old, IsEnum h (s.heap.objs.size + 1) s.heap.objs.size i old) ∧ h.IsListIter s.heap.objs.size l i ∧ h.IsList l vs.toArray) (fun i m => ∃ (t : Tok) (x : Value), vs[i]? = some x ∧ m a = some (.int (i : Int) t) ∧ m b = some x) := by
    simpa using W
  refine ⟨s.heap.objs.size + 1, vs.length, s.heap.objs.size, _, _, _, _, news, [(l, listOf vs.toArray c)], J, rfl, W2, ⟨⟨_, hE⟩, hI, (let ⟨o, ho, r⟩ := News.isList N hl; ⟨o, hk _ _ ho, r⟩)⟩, Nat.le_trans hsz (by decide), fun b hb => ?_, fun D i ys nw hJ p hp => ?_,
    fun b hb => ?_, ?_, F.ns.lt, fun z hz => ktu_new F hz, F.keeps hk, N.grown hk, ol, fun D hz => J0 D fun p hp => Nat.lt_of_lt_of_le (ol p hp) hz, hex, ?_, fun D ys nw h tk F' N' hz off hJ => fin D ys nw h tk F' N' (fun p hp => Nat.lt_of_lt_of_le (ol p hp) hz) off hJ⟩
  · rcases List.mem_cons.mp hb with rfl | hb
    · exact .inl (.head _)
    rcases List.mem_cons.mp hb with rfl | hb
    · exact .inl (.tail _ (.head _))
    · rw [List.mem_singleton.mp hb]; exact .inr ⟨_, .head _⟩
  · rw [List.mem_singleton.mp hp]; exact hkp D i ys nw hJ
  · rcases List.mem_cons.mp hb with rfl | hb
    · exact ⟨Nat.le_succ _, _, hE⟩
    · rw [List.mem_singleton.mp hb]; exact ⟨Nat.le_refl _, hI.choose, hI.choose_spec.1⟩
  · show s.heap.objs.size ≤ h'.objs.size
    rw [hsz']; exact Nat.le_add_right _ _
  · intro i ys nw its C oC D m₂ h tk E' hi hB hJ hoC hits F N off hw hzD hDC
    obtain ⟨⟨b1, oe⟩, ⟨b2, oi⟩, rfl⟩ : ∃ p q, its = [p, q] := by
      cases its with
      | nil => simp at hits
      | cons p r =>
        cases r with
        | nil => simp at hits
        | cons q r =>
          cases r with
          | nil => exact ⟨p, q, rfl⟩
          | cons q' r => simp at hits
    have e : b1 = s.heap.objs.size + 1 ∧ b2 = s.heap.objs.size := by simpa using hits
    obtain ⟨rfl, rfl⟩ := e
    exact R i ys nw _ oe _ oi C oC D m₂ h tk E' hi hB hJ hoC F N (fun p hp => by have := off p hp; simp at this; exact ⟨this.1.1, this.1.2, this.2.1, this.2.2⟩) ol hLs (Nat.lt_succ_self _) (hw _ (by simp)).2 hDC
end
theorem off1 {I C D : Addr} {oI : Obj} {nw : List (Addr × Obj)} (h : ∀ p ∈ nw, p.1 ≠ I ∧ p.1 ≠ C ∧ p.1 ≠ D) : ∀ p ∈ nw, p.1 ∉ [(I, oI)].map (·.1) ∧ p.1 ≠ C ∧ p.1 ≠ D :=
  fun p hp => ⟨fun q => (h p hp).1 (List.mem_singleton.mp q), (h p hp).2⟩
theorem off2 {e it C D : Addr} {oe oi : Obj} {nw : List (Addr × Obj)} (h : ∀ p ∈ nw, p.1 ≠ e ∧ p.1 ≠ it ∧ p.1 ≠ C ∧ p.1 ≠ D) : ∀ p ∈ nw, p.1 ∉ [(e, oe), (it, oi)].map (·.1) ∧ p.1 ≠ C ∧ p.1 ≠ D :=
  fun p hp => ⟨fun q => by
    rcases List.mem_cons.mp q with q | q
    · exact (h p hp).1 q
    · exact (h p hp).2.1 (List.mem_singleton.mp q), (h p hp).2.2⟩
/-- two-item tuples -/
def tupO (a b : Value) : Obj := { cls := .type "tuple", data := .seq #[a, b] }
abbrev Tp := Addr × Value × Value
def tupE (p : Tp) : Addr × Obj := (p.1, tupO p.2.1 p.2.2)
inductive PairsAre : List Tp → List (Nat × Nat) → Prop
  | nil : PairsAre [] []
  | cons (a : Addr) (r k : Nat) (t u : Tok) {tl : List Tp} {l : List (Nat × Nat)} (h : PairsAre tl l) : PairsAre ((a, .int (r : Int) t, .int (k : Int) u) :: tl) ((r, k) :: l)
theorem PairsAre.len {tl : List Tp} {l : List (Nat × Nat)} (h : PairsAre tl l) : tl.length = l.length := by
  induction h with
  | nil => rfl
  | cons a r k t u h ih => simp [ih]
theorem PairsAre.snoc {tl : List Tp} {l : List (Nat × Nat)} (h : PairsAre tl l) (a : Addr) (r k : Nat) (t u : Tok) : PairsAre (tl ++ [(a, .int (r : Int) t, .int (k : Int) u)]) (l ++ [(r, k)]) := by
  induction h with
  | nil => exact .cons a r k t u .nil
  | cons b r' k' t' u' h ih => exact .cons b r' k' t' u' ih
theorem PairsAre.get {tl : List Tp} {l : List (Nat × Nat)} (h : PairsAre tl l) : ∀ (i : Nat) (p : Tp), tl[i]? = some p → ∃ r k t u, l[i]? = some (r, k) ∧ p = (p.1, .int (r : Int) t, .int (k : Int) u) := by
  induction h with
  | nil => intro i p e; simp at e
  | cons a r k t u h ih =>
    intro i p e
    cases i with
    | zero => simp at e; subst e; exact ⟨r, k, t, u, by simp, rfl⟩
    | succ i => simpa using ih i p (by simpa using e)
section
variable {prog : Program} {w : World} {A : Around} {E : Value → Shared → Prop} {s : Shared} {h₀ : Heap} {L : Addr} {m : Str → Option Value} {env : Env}
theorem gc_pairs {mf : Addr → Str → Option Value} {NN : Addr → List Value → List (Addr × Obj) → Heap → Prop} {ex : List Addr} {ifs : List Expr} {elt : PySem.Expr} {a b : Str} {pa pb tp : Pos} {kk : Nat} {scope : Scope} {cl : List (Str × Addr)} {Q : Value → Shared → Prop} {l c : Nat} {tps : List Tp} {news : List (Addr × Obj)} (J : Addr → Nat → List Value → List (Addr × Obj) → Prop)
    (hh : A.handled = none) (F : Fr h₀ L s.heap m) (N : News h₀ L s.heap news) (hkind : scope.kind = .function) (hxa : scope.names.lookup a = some .local) (hxb : scope.names.lookup b = some .local) (hab : ¬ a = b)
    (hl : (l, listOf (tps.map (fun p => Value.ref p.1)).toArray c) ∈ news) (htp : ∀ p ∈ tps, tupE p ∈ news) (hsz : tps.length ≤ 1000) (J0 : ∀ D, (∀ p ∈ news, @LT.lt Nat _ p.1 D) → J D 0 [] news)
    (hkp : ∀ D i ys nw, J D i ys nw → (l, listOf (tps.map (fun p => Value.ref p.1)).toArray c) ∈ nw ∧ ∀ p ∈ tps, tupE p ∈ nw)
    (R : GT1 prog w A h₀ L m env ifs elt scope cl s tps.length news (fun i m => ∃ p, tps[i]? = some p ∧ m a = some p.2.1 ∧ m b = some p.2.2) J)
    (fin : ∀ (D : Nat) ys nw h tk, Fr h₀ L h (mf D) → NN D ys nw h → (∀ p ∈ news, @LT.lt Nat _ p.1 D) → (∀ p ∈ nw, p.1 ≠ D) → J D tps.length ys nw → Q (.ref D) { s with heap := h, toks := tk })
    (hex : ∀ D i ys nw, J D i ys nw → ∀ a ∈ ex, ∃ o v, (a, o) ∈ nw ∧ o.data = .cell v := by intro _ _ _ _ _ _ hp; cases hp) :
    GSrc prog w A h₀ L m mf NN ex env ifs elt (.Tuple [.Name a pa, .Name b pb] kk tp) scope cl Q E (.ref l) s := by
  have ol : ∀ p ∈ news, p.1 < s.heap.objs.size := fun p hp => Heap.lt_size (N p hp).1
  refine wpAny_pyIter_list (News.isList N hl) ?_
  let dfl : Tp := (0, .none, .none)
  have atj : ∀ j, j < tps.length → tps[j]? = some (tps.getD j dfl) := fun j hj => by simp [hj]
  have inj : ∀ j, j < tps.length → tps.getD j dfl ∈ tps := fun j hj => List.mem_of_getElem? (atj j hj)
  have W := GW.pairs (prog := prog) (w := w) (A := A) (scope := scope) (cl := cl) (env := env) (pa := pa) (pb := pb) (tp := tp) (kk := kk) (a := a) (b := b) hh (I := s.heap.objs.size) (l := l) (Nat.ne_of_lt (ol _ hl)) (tps.map (fun p => Value.ref p.1)).toArray (fun j => (tps.getD j dfl).1) (fun j => (tps.getD j dfl).2)
    (fun j hj => by simp at hj; simp [hj]) (fun j hj => by simp at hj; exact Nat.ne_of_lt (ol _ (htp _ (inj j hj)))) hkind hxa hxb hab
  have esz : (tps.map (fun p => Value.ref p.1)).toArray.size = tps.length := by simp
  rw [esz] at W
  have W2 : GW prog w A scope cl env (.Tuple [.Name a pa, .Name b pb] kk tp) s.heap.objs.size tps.length (s.heap.objs.size :: l :: (List.range tps.length).map fun j => (tps.getD j dfl).1) [s.heap.objs.size] _ (fun i m => ∃ p, tps[i]? = some p ∧ m a = some p.2.1 ∧ m b = some p.2.2) :=
    ⟨W.sub, W.frame, W.has, fun i C s m' Rn Q E hi hst hn hC h => W.go i C s m' Rn Q E hi hst hn hC fun h' tk m₂ hB => h h' tk m₂ ⟨_, atj i hi, hB⟩, W.done, W.self⟩
  refine ⟨s.heap.objs.size, tps.length, s.heap.objs.size, _, _, _, _, news, (l, listOf (tps.map (fun p => Value.ref p.1)).toArray c) :: tps.map tupE, J, rfl, W2, ⟨⟨_, Heap.get?_push_size _ rfl, rfl, rfl⟩, (News.isList N hl).push _, fun k hk => ?_⟩, Nat.le_trans hsz (by decide), fun b hb => ?_, fun D i ys nw hJ p hp => ?_,
    fun b hb => ?_, ?_, F.ns.lt, fun z hz => ktu_new F hz, F.push _, N.grown fun b o e => Heap.get?_push_of_some _ e, ol, fun D hz => J0 D fun p hp => Nat.lt_of_lt_of_le (ol p hp) hz, hex, GT1.turn ol F.ns.lt (Nat.le_refl _) R, fun D ys nw h tk F' N' hz off hJ => fin D ys nw h tk F' N' (fun p hp => Nat.lt_of_lt_of_le (ol p hp) hz) off hJ⟩
  · exact ⟨_, Heap.get?_push_of_some _ (N _ (htp _ (inj k hk))).1, rfl, _, rfl⟩
  · rcases List.mem_cons.mp hb with rfl | hb
    · exact .inl (.head _)
    rcases List.mem_cons.mp hb with rfl | hb
    · exact .inr ⟨_, .head _⟩
    · obtain ⟨j, hj, rfl⟩ := List.mem_map.mp hb
      exact .inr ⟨_, .tail _ (show tupE (tps.getD j dfl) ∈ tps.map tupE from List.mem_map_of_mem (inj j (List.mem_range.mp hj)))⟩
  · rcases List.mem_cons.mp hp with rfl | hp
    · exact (hkp D i ys nw hJ).1
    · obtain ⟨q, hq, rfl⟩ := List.mem_map.mp hp
      exact (hkp D i ys nw hJ).2 q hq
  · rw [List.mem_singleton.mp hb]; exact ⟨Nat.le_refl _, _, Heap.get?_push_size _ rfl⟩
  · show s.heap.objs.size ≤ (s.heap.push _).objs.size
    rw [Heap.size_push]; exact Nat.le_succ _
end
end Mine
end

section
-- L2
open PySem PySem.W PySem.W.X PySem.Calls PyProof.Rows
set_option Elab.async false
namespace Mine
/-- a car's place -/
def Car.ix (a : Car) : Nat := a.c.headD 0
def ltC (a b : Car) : Prop := a.r < b.r ∨ (a.r = b.r ∧ a.ix < b.ix)
structure FallsOK (rs fs : List Nat) : Prop where
  len : fs.length = rs.length
  up : ∀ k, k < rs.length → ∀ i, i < k → rs.getD k 0 < rs.getD i 0 → fs.getD i 0 + 1 ≤ fs.getD k 0
  ex : ∀ k, k < rs.length → fs.getD k 0 = 1 ∨ ∃ i, i < k ∧ rs.getD k 0 < rs.getD i 0 ∧ fs.getD k 0 = fs.getD i 0 + 1
theorem FallsOK.one {rs fs : List Nat} (A : FallsOK rs fs) (k : Nat) (h : k < rs.length) : 1 ≤ fs.getD k 0 := by
  rcases A.ex k h with e | ⟨i, _, _, e⟩ <;> omega
theorem FallsOK.uniq {rs fs gs : List Nat} (A : FallsOK rs fs) (B : FallsOK rs gs) : fs = gs := by
  have key : ∀ k, k < rs.length → fs.getD k 0 = gs.getD k 0 := by
    intro k
    induction k using Nat.strongRecOn with
    | ind k ih =>
      intro hk
      rcases A.ex k hk with e | ⟨i, hi, hr, e⟩ <;> rcases B.ex k hk with e' | ⟨j, hj, hr', e'⟩
      · omega
      · have := A.up k hk j hj hr'
        have := ih j hj (by omega)
        have := A.one j (by omega)
        omega
      · have := B.up k hk i hi hr
        have := ih i hi (by omega)
        have := A.one i (by omega)
        omega
      · have := A.up k hk j hj hr'
        have := B.up k hk i hi hr
        have := ih i hi (by omega)
        have := ih j hj (by omega)
        omega
  refine List.ext_getElem (by rw [A.len, B.len]) fun k h1 h2 => ?_
  have := key k (by rw [← A.len]; exact h1)
  simpa [h1, h2] using this
structure ParkI (dn : List Car) (st : PS) : Prop where
  lenq : st.qs.length = st.lasts.length
  lenn : st.nums.length = dn.length
  dec : ∀ j k, j < k → k < st.lasts.length → st.lasts.getD k 0 < st.lasts.getD j 0
  mem : ∀ j q, st.qs[j]? = some q → ∀ a ∈ q, a.r ≤ st.lasts.getD j 0
  sorted : ∀ (j : Nat) (q : List Car), st.qs[j]? = some q → q.Pairwise ltC
  cross : ∀ (j k : Nat) (p q : List Car), j < k → st.qs[j]? = some p → st.qs[k]? = some q → ∀ a ∈ p, ∀ b ∈ q, a.r = b.r → a.ix < b.ix
  perm : st.qs.flatten.Perm dn
  nb : ∀ i, i < dn.length → 1 ≤ st.nums.getD i 0 ∧ st.nums.getD i 0 ≤ st.lasts.length ∧ (dn.map (·.r)).getD i 0 ≤ st.lasts.getD (st.nums.getD i 0 - 1) 0
  nc : ∀ q, q < st.lasts.length → ∃ i, i < dn.length ∧ st.nums.getD i 0 = q + 1 ∧ (dn.map (·.r)).getD i 0 = st.lasts.getD q 0
  falls : FallsOK (dn.map (·.r)) st.nums
theorem fitAt_lt {lasts : List Nat} {r j : Nat} (h : j < fitAt lasts r) : r < lasts.getD j 0 := by
  have := List.not_of_lt_findIdx h
  have hj : j < lasts.length := Nat.lt_of_lt_of_le h (fitAt_le _ _)
  simpa [hj] using this
theorem fitAt_is {lasts : List Nat} {r : Nat} (h : fitAt lasts r < lasts.length) : lasts.getD (fitAt lasts r) 0 ≤ r := by
  have := List.findIdx_getElem (w := h)
  have h2 : lasts.getD (fitAt lasts r) 0 = lasts[fitAt lasts r] := by simp [h]
  rw [h2]
  exact of_decide_eq_true this
theorem park1_lasts (st : PS) (b : Car) (j : Nat) : (park1 st b).lasts.getD j 0 = if j = fitAt st.lasts b.r then b.r else st.lasts.getD j 0 := by
  have hf := fitAt_le st.lasts b.r
  unfold park1
  by_cases e : fitAt st.lasts b.r = st.lasts.length
  · simp only [e, if_true]
    by_cases h : j = st.lasts.length
    · subst h; simp
    · rw [if_neg h]
      by_cases h2 : j < st.lasts.length
      · simp [h2, List.getElem?_append_left h2]
      · have h3 : (st.lasts ++ [b.r]).length ≤ j := by simp; omega
        simp [List.getElem?_eq_none h3, List.getElem?_eq_none (Nat.le_of_not_lt h2)]
  · simp only [e, if_false]
    by_cases h : j = fitAt st.lasts b.r
    · subst h
      have : fitAt st.lasts b.r < st.lasts.length := by omega
      simp [this]
    · have h' : fitAt st.lasts b.r ≠ j := fun q => h q.symm
      simp [h, List.getElem?_set_ne h']
theorem park1_len (st : PS) (b : Car) : (park1 st b).lasts.length = if fitAt st.lasts b.r = st.lasts.length then st.lasts.length + 1 else st.lasts.length := by
  unfold park1
  by_cases e : fitAt st.lasts b.r = st.lasts.length <;> simp [e]
theorem park1_nums (st : PS) (b : Car) : (park1 st b).nums = st.nums ++ [fitAt st.lasts b.r + 1] := by
  unfold park1
  by_cases e : fitAt st.lasts b.r = st.lasts.length <;> simp [e]
theorem park1_qs (st : PS) (b : Car) (hl : st.qs.length = st.lasts.length) (j : Nat) : (park1 st b).qs[j]? = if j = fitAt st.lasts b.r then some (st.qs.getD (fitAt st.lasts b.r) [] ++ [b]) else st.qs[j]? := by
  have hf := fitAt_le st.lasts b.r
  unfold park1
  by_cases e : fitAt st.lasts b.r = st.lasts.length
  · simp only [e, if_true]
    by_cases h : j = st.lasts.length
    · subst h; rw [← hl]; simp
    · rw [if_neg h]
      by_cases h2 : j < st.qs.length
      · rw [List.getElem?_append_left h2]
      · have h3 : (st.qs ++ [[b]]).length ≤ j := by simp; omega
        rw [List.getElem?_eq_none h3, List.getElem?_eq_none (Nat.le_of_not_lt h2)]
  · simp only [e, if_false]
    by_cases h : j = fitAt st.lasts b.r
    · subst h
      have : fitAt st.lasts b.r < st.qs.length := by omega
      simp [this]
    · have h' : fitAt st.lasts b.r ≠ j := fun q => h q.symm
      rw [if_neg h, List.getElem?_modify]; simp [h']
theorem modify_flat {b : Car} : ∀ (l : List (List Car)) (f : Nat), f < l.length → ((l.modify f (· ++ [b])).flatten).Perm (l.flatten ++ [b])
  | [], f, h => by simp at h
  | q :: l, 0, _ => by
    simp only [List.modify_zero_cons, List.flatten_cons, List.append_assoc]
    exact List.Perm.append_left _ List.perm_append_comm
  | q :: l, f + 1, h => by
    simp only [List.modify_succ_cons, List.flatten_cons, List.append_assoc]
    exact List.Perm.append_left _ (modify_flat l f (by simpa using h))
theorem parkI_nil : ParkI [] ⟨[], [], []⟩ :=
  ⟨rfl, rfl, (fun _ _ _ h => nomatch h), (fun j q h => by simp at h), (fun j q h => by simp at h), (fun j k p q _ h => by simp at h), List.Perm.refl _, (fun i h => nomatch h), (fun q h => nomatch h), ⟨rfl, (fun k h => nomatch h), (fun k h => nomatch h)⟩⟩
theorem getD_snoc {l : List Nat} {x : Nat} (i : Nat) (h : i < l.length) : (l ++ [x]).getD i 0 = l.getD i 0 := by simp [h, List.getElem?_append_left h]
theorem getD_last {l : List Nat} {x : Nat} {i : Nat} (h : i = l.length) : (l ++ [x]).getD i 0 = x := by subst h; simp
theorem ParkI.snoc {dn : List Car} {st : PS} (I : ParkI dn st) (b : Car) (hb : ∀ a ∈ dn, a.ix < b.ix) : ParkI (dn ++ [b]) (park1 st b) := by
  have hf := fitAt_le st.lasts b.r
  have lo : ∀ j, j < fitAt st.lasts b.r → b.r < st.lasts.getD j 0 := fun j h => fitAt_lt h
  have hi : fitAt st.lasts b.r < st.lasts.length → st.lasts.getD (fitAt st.lasts b.r) 0 ≤ b.r := fitAt_is
  have PL := park1_lasts st b
  have PN := park1_len st b
  have PU := park1_nums st b
  have PQ := park1_qs st b I.lenq
  have inDn : ∀ (j : Nat) (q : List Car), st.qs[j]? = some q → ∀ a ∈ q, a ∈ dn := fun j q h a ha => I.perm.mem_iff.mp (List.mem_flatten.mpr ⟨q, List.mem_of_getElem? h, ha⟩)
  have oldq : ∀ a ∈ st.qs.getD (fitAt st.lasts b.r) [], ∃ q, st.qs[fitAt st.lasts b.r]? = some q ∧ a ∈ q ∧ fitAt st.lasts b.r < st.lasts.length := fun a ha => by
    rcases Nat.lt_or_ge (fitAt st.lasts b.r) st.qs.length with h | h
    · rw [List.getD_eq_getElem?_getD, List.getElem?_eq_getElem h] at ha
      exact ⟨_, List.getElem?_eq_getElem h, ha, by rw [← I.lenq]; exact h⟩
    · rw [List.getD_eq_getElem?_getD, List.getElem?_eq_none h] at ha
      exact absurd ha (by simp)
  generalize hF : fitAt st.lasts b.r = f at *
  have nlen : (park1 st b).nums.length = dn.length + 1 := by rw [PU]; simp [I.lenn]
  have mlen : ((dn ++ [b]).map (·.r)).length = dn.length + 1 := by simp
  have eR : (dn ++ [b]).map (·.r) = dn.map (·.r) ++ [b.r] := by simp
  have nOld : ∀ i, i < dn.length → (park1 st b).nums.getD i 0 = st.nums.getD i 0 := fun i h => by rw [PU]; exact getD_snoc i (by rw [I.lenn]; exact h)
  have nNew : (park1 st b).nums.getD dn.length 0 = f + 1 := by rw [PU]; exact getD_last I.lenn.symm
  have rOld : ∀ i, i < dn.length → ((dn ++ [b]).map (·.r)).getD i 0 = (dn.map (·.r)).getD i 0 := fun i h => by rw [eR]; exact getD_snoc i (by simpa using h)
  have rNew : ((dn ++ [b]).map (·.r)).getD dn.length 0 = b.r := by rw [eR]; exact getD_last (by simp)
  refine ⟨?_, ?_, ?_, ?_, ?_, ?_, ?_, ?_, ?_, ?_⟩
  · unfold park1
    rw [hF]
    by_cases e : f = st.lasts.length
    · simp [e, I.lenq]
    · simp [e, I.lenq]
  · rw [nlen]; simp
  · intro j k hjk hk
    rw [PL, PL]
    rw [PN] at hk
    by_cases e : f = st.lasts.length
    · rw [if_pos e] at hk
      by_cases ek : k = f
      · rw [if_pos ek, if_neg (by omega)]
        exact lo j (by omega)
      · rw [if_neg ek, if_neg (by omega)]
        exact I.dec j k hjk (by omega)
    · rw [if_neg e] at hk
      by_cases ek : k = f
      · rw [if_pos ek, if_neg (by omega)]
        exact lo j (by omega)
      · rw [if_neg ek]
        by_cases ej : j = f
        · rw [if_pos ej]
          have := I.dec j k hjk hk
          rw [ej] at this
          exact Nat.lt_of_lt_of_le this (hi (by omega))
        · rw [if_neg ej]
          exact I.dec j k hjk hk
  · intro j q hq a ha
    rw [PQ] at hq
    rw [PL]
    by_cases e : j = f
    · rw [if_pos e] at hq ⊢
      cases hq
      rcases List.mem_append.mp ha with ha | ha
      · obtain ⟨q, h1, h2, h3⟩ := oldq a ha
        exact Nat.le_trans (I.mem _ _ h1 a h2) (hi h3)
      · rw [List.mem_singleton.mp ha]; exact Nat.le_refl _
    · rw [if_neg e] at hq ⊢
      exact I.mem j q hq a ha
  · intro j q hq
    rw [PQ] at hq
    by_cases e : j = f
    · rw [if_pos e] at hq
      cases hq
      refine List.pairwise_append.mpr ⟨?_, List.pairwise_singleton _ _, fun a ha c hc => ?_⟩
      · rcases Nat.lt_or_ge f st.qs.length with h | h
        · rw [List.getD_eq_getElem?_getD, List.getElem?_eq_getElem h]
          exact I.sorted f _ (List.getElem?_eq_getElem h)
        · rw [List.getD_eq_getElem?_getD, List.getElem?_eq_none h]
          exact List.Pairwise.nil
      · rw [List.mem_singleton.mp hc]
        obtain ⟨q, h1, h2, h3⟩ := oldq a ha
        have h4 := Nat.le_trans (I.mem _ _ h1 a h2) (hi h3)
        have h5 := hb a (inDn _ _ h1 a h2)
        rcases Nat.lt_or_ge a.r b.r with h | h
        · exact .inl h
        · exact .inr ⟨Nat.le_antisymm h4 h, h5⟩
    · rw [if_neg e] at hq
      exact I.sorted j q hq
  · intro j k p q hjk hp hq a ha c hc er
    rw [PQ] at hp hq
    by_cases ek : k = f
    · rw [if_pos ek] at hq
      rw [if_neg (by omega)] at hp
      cases hq
      rcases List.mem_append.mp hc with hc | hc
      · obtain ⟨q, h1, h2, h3⟩ := oldq c hc
        exact I.cross j f p q (by omega) hp h1 a ha c h2 er
      · rw [List.mem_singleton.mp hc]
        exact hb a (inDn _ _ hp a ha)
    · rw [if_neg ek] at hq
      by_cases ej : j = f
      · rw [if_pos ej] at hp
        cases hp
        have hk : k < st.lasts.length := by
          rw [← I.lenq]
          exact (List.getElem?_eq_some_iff.mp hq).1
        rcases List.mem_append.mp ha with ha | ha
        · obtain ⟨p, h1, h2, h3⟩ := oldq a ha
          exact I.cross f k p q (by omega) h1 hq a h2 c hc er
        · rw [List.mem_singleton.mp ha] at er
          have h1 := I.mem k q hq c hc
          have h2 := I.dec f k (by omega) hk
          have h3 := hi (by omega)
          omega
      · rw [if_neg ej] at hp
        exact I.cross j k p q hjk hp hq a ha c hc er
  · unfold park1
    rw [hF]
    by_cases e : f = st.lasts.length
    · simp only [e, if_true, List.flatten_append, List.flatten_cons, List.flatten_nil, List.append_nil]
      exact List.Perm.append_right _ I.perm
    · simp only [e, if_false]
      exact (modify_flat _ f (by rw [I.lenq]; omega)).trans (List.Perm.append_right _ I.perm)
  · intro i hlt
    have hlt' : i < dn.length + 1 := by simpa using hlt
    rw [PN]
    by_cases e : i = dn.length
    · subst e
      have e0 : f + 1 - 1 = f := by omega
      rw [nNew, rNew, PL, if_pos e0]
      refine ⟨by omega, ?_, Nat.le_refl _⟩
      by_cases e : f = st.lasts.length
      · rw [if_pos e]; omega
      · rw [if_neg e]; omega
    · have hi' : i < dn.length := by omega
      rw [nOld i hi', rOld i hi', PL]
      obtain ⟨h1, h2, h3⟩ := I.nb i hi'
      refine ⟨h1, ?_, ?_⟩
      · by_cases e : f = st.lasts.length
        · rw [if_pos e]; omega
        · rw [if_neg e]; exact h2
      · by_cases e : st.nums.getD i 0 - 1 = f
        · rw [if_pos e]
          rw [e] at h3
          exact Nat.le_trans h3 (hi (by omega))
        · rw [if_neg e]; exact h3
  · intro q hq
    rw [PN] at hq
    rw [PL]
    by_cases e : q = f
    · exact ⟨dn.length, by simp, by rw [nNew, e], by rw [rNew, if_pos e]⟩
    · have hq' : q < st.lasts.length := by
        by_cases e2 : f = st.lasts.length
        · rw [if_pos e2] at hq; omega
        · rw [if_neg e2] at hq; exact hq
      obtain ⟨i, h1, h2, h3⟩ := I.nc q hq'
      exact ⟨i, by simp; omega, by rw [nOld i h1, h2], by rw [rOld i h1, if_neg e, h3]⟩
  · refine ⟨by rw [nlen, mlen], fun k hk i hik hlt => ?_, fun k hk => ?_⟩
    · rw [mlen] at hk
      by_cases e : k = dn.length
      · subst e
        rw [nOld i hik, nNew]
        rw [rOld i hik, rNew] at hlt
        obtain ⟨h1, h2, h3⟩ := I.nb i hik
        refine Nat.succ_le_succ ?_
        rcases Nat.lt_or_ge f (st.nums.getD i 0) with h | h
        · exfalso
          by_cases h6 : st.nums.getD i 0 - 1 = f
          · have := hi (by omega)
            rw [h6] at h3
            omega
          · have h4 := I.dec f (st.nums.getD i 0 - 1) (by omega) (by omega)
            have h5 := hi (by omega)
            omega
        · exact h
      · rw [nOld i (by omega), nOld k (by omega)]
        rw [rOld i (by omega), rOld k (by omega)] at hlt
        exact I.falls.up k (by simp; omega) i hik hlt
    · rw [mlen] at hk
      by_cases e : k = dn.length
      · subst e
        rw [nNew, rNew]
        by_cases f0 : f = 0
        · exact .inl (by omega)
        · obtain ⟨i, h1, h2, h3⟩ := I.nc (f - 1) (by omega)
          refine .inr ⟨i, h1, ?_, by rw [nOld i h1, h2]; omega⟩
          rw [rOld i h1, h3]
          exact lo (f - 1) (by omega)
      · rw [nOld k (by omega), rOld k (by omega)]
        rcases I.falls.ex k (by simp; omega) with h | ⟨i, h1, h2, h3⟩
        · exact .inl h
        · exact .inr ⟨i, h1, by rw [rOld i (by omega)]; exact h2, by rw [nOld i (by omega)]; exact h3⟩
theorem parkI (l : List Car) (hl : l.Pairwise (fun a b => a.ix < b.ix)) : ParkI l (park l) := by
  have g : ∀ (l dn : List Car) (st : PS), ParkI dn st → (dn ++ l).Pairwise (fun a b => a.ix < b.ix) → ParkI (dn ++ l) (l.foldl park1 st) := by
    intro l
    induction l with
    | nil => intro dn st I _; rw [List.append_nil]; exact I
    | cons a l ih =>
      intro dn st I h
      have e : dn ++ a :: l = (dn ++ [a]) ++ l := by simp
      rw [e] at h ⊢
      refine ih (dn ++ [a]) _ (I.snoc a fun c hc => ?_) h
      have h2 := (List.pairwise_append.mp (List.pairwise_append.mp h).1).2.2
      exact h2 c hc a (.head _)
  exact g l [] _ parkI_nil hl
/-- the lines' cars go out, the least front first -/
inductive Merge : List (List Car) → List Car → Prop
  | done {qs : List (List Car)} : (∀ q ∈ qs, q = []) → Merge qs []
  | step {qs : List (List Car)} {k : Nat} {a : Car} {t out : List Car} : qs[k]? = some (a :: t) → (∀ j b u, qs[j]? = some (b :: u) → a.r < b.r ∨ (a.r = b.r ∧ k ≤ j)) → Merge (qs.set k t) out → Merge qs (a :: out)
theorem set_flat {a : Car} {t : List Car} : ∀ (l : List (List Car)) (k : Nat), l[k]? = some (a :: t) → l.flatten.Perm (a :: (l.set k t).flatten)
  | [], k, h => by simp at h
  | q :: l, 0, h => by
    have : q = a :: t := by simpa using h
    subst this
    simp
  | q :: l, k + 1, h => by
    simp only [List.set_cons_succ, List.flatten_cons]
    exact ((set_flat l k (by simpa using h)).append_left q).trans List.perm_middle
theorem Merge.sorted {qs : List (List Car)} {out : List Car} (M : Merge qs out) : (∀ (j : Nat) (q : List Car), qs[j]? = some q → q.Pairwise ltC) →
    (∀ (j k : Nat) (p q : List Car), j < k → qs[j]? = some p → qs[k]? = some q → ∀ a ∈ p, ∀ b ∈ q, a.r = b.r → a.ix < b.ix) → out.Pairwise ltC ∧ out.Perm qs.flatten := by
  induction M with
  | @done qs h =>
    intro _ _
    refine ⟨.nil, ?_⟩
    have : qs.flatten = [] := by simpa using h
    rw [this]
  | @step qs k a t out hk hmin M ih =>
    intro S C
    have hkl : k < qs.length := (List.getElem?_eq_some_iff.mp hk).1
    have get : ∀ (j : Nat) (q : List Car), (qs.set k t)[j]? = some q → ∃ q', qs[j]? = some q' ∧ (∀ c ∈ q, c ∈ q') ∧ (q'.Pairwise ltC → q.Pairwise ltC) := fun j q h => by
      by_cases e : j = k
      · subst e
        rw [List.getElem?_set_self hkl] at h
        cases h
        exact ⟨_, hk, fun c hc => .tail _ hc, fun p => (List.pairwise_cons.mp p).2⟩
      · rw [List.getElem?_set_ne (Ne.symm e)] at h
        exact ⟨q, h, fun c hc => hc, id⟩
    obtain ⟨P1, P2⟩ := ih (fun j q h => by obtain ⟨q', h1, _, h3⟩ := get j q h; exact h3 (S j q' h1)) (fun j k' p q hjk hp hq c hc d hd er => by
      obtain ⟨p', h1, h2, _⟩ := get j p hp
      obtain ⟨q', h4, h5, _⟩ := get k' q hq
      exact C j k' p' q' hjk h1 h4 c (h2 c hc) d (h5 d hd) er)
    refine ⟨List.pairwise_cons.mpr ⟨fun c hc => ?_, P1⟩, (P2.cons a).trans (set_flat qs k hk).symm⟩
    obtain ⟨q, hq, hcq⟩ := List.mem_flatten.mp (P2.mem_iff.mp hc)
    obtain ⟨j, hj, rfl⟩ := List.mem_iff_getElem.mp hq
    have hj' := List.getElem?_eq_getElem hj
    by_cases e : j = k
    · subst e
      rw [List.getElem?_set_self hkl] at hj'
      have e2 : t = (qs.set j t)[j] := Option.some.inj hj'
      rw [← e2] at hcq
      exact (List.pairwise_cons.mp (S _ _ hk)).1 c hcq
    · rw [List.getElem?_set_ne (Ne.symm e)] at hj'
      generalize hQ : (qs.set k t)[j] = q at *
      cases q with
      | nil => cases hcq
      | cons b u =>
        have hb : b.r ≤ c.r := by
          rcases List.mem_cons.mp hcq with rfl | hcu
          · exact Nat.le_refl _
          · rcases (List.pairwise_cons.mp (S _ _ hj')).1 c hcu with h | h
            · exact Nat.le_of_lt h
            · exact Nat.le_of_eq h.1
        rcases hmin j b u hj' with h | ⟨h, hkj⟩
        · exact .inl (Nat.lt_of_lt_of_le h hb)
        · rcases Nat.lt_or_ge a.r c.r with h2 | h2
          · exact .inl h2
          · have er : a.r = c.r := by omega
            exact .inr ⟨er, C k j _ _ (by omega) hk hj' a (.head _) c hcq er⟩
theorem ltC_irrefl (a : Car) : ¬ ltC a a := fun h => by rcases h with h | ⟨_, h⟩ <;> exact Nat.lt_irrefl _ h
theorem ltC_asymm {a b : Car} (h : ltC a b) : ¬ ltC b a := fun h' => by
  unfold ltC at h h'; omega
theorem sorted_uniq : ∀ {l₁ l₂ : List Car}, l₁.Pairwise ltC → l₂.Pairwise ltC → l₁.Perm l₂ → l₁ = l₂
  | [], l₂, _, _, p => by rw [List.nil_perm.mp p]
  | a :: l₁, [], _, _, p => by simp at p
  | a :: l₁, b :: l₂, h1, h2, p => by
    have e : a = b := by
      rcases List.mem_cons.mp (p.mem_iff.mp (.head _)) with e | ha
      · exact e
      rcases List.mem_cons.mp (p.mem_iff.mpr (.head _)) with e | hb
      · exact e.symm
      · exact absurd ((List.pairwise_cons.mp h2).1 a ha) (ltC_asymm ((List.pairwise_cons.mp h1).1 b hb))
    subst e
    rw [sorted_uniq (List.pairwise_cons.mp h1).2 (List.pairwise_cons.mp h2).2 (List.perm_cons _ |>.mp p)]
/-- the plain law: the cars go out in the order of their ranks, equal ones as they came -/
theorem merge_is {cars out srt : List Car} (hl : cars.Pairwise (fun a b => a.ix < b.ix)) (M : Merge (park cars).qs out) (hs : srt.Pairwise ltC) (hp : srt.Perm cars) : out = srt := by
  have I := parkI cars hl
  obtain ⟨h1, h2⟩ := M.sorted I.sorted I.cross
  exact sorted_uniq h1 hs ((h2.trans I.perm).trans hp.symm)
theorem falls_is {cars : List Car} {fs : List Nat} (hl : cars.Pairwise (fun a b => a.ix < b.ix)) (h : FallsOK (cars.map (·.r)) fs) : (park cars).nums = fs := (parkI cars hl).falls.uniq h
theorem lines_max {cars : List Car} {M : Nat} (hl : cars.Pairwise (fun a b => a.ix < b.ix)) (hm : M ∈ (park cars).nums) (hM : ∀ a ∈ (park cars).nums, a ≤ M) : (park cars).qs.length = M := by
  have I := parkI cars hl
  obtain ⟨i, hi, rfl⟩ := List.mem_iff_getElem.mp hm
  have e : (park cars).nums.getD i 0 = (park cars).nums[i] := by simp [hi]
  obtain ⟨h1, h2, _⟩ := I.nb i (by rw [← I.lenn]; exact hi)
  rw [e] at h1 h2
  rw [I.lenq]
  refine Nat.le_antisymm ?_ h2
  obtain ⟨j, h3, h4, _⟩ := I.nc ((park cars).lasts.length - 1) (by omega)
  have hj : j < (park cars).nums.length := by rw [I.lenn]; exact h3
  have := hM _ (List.getElem_mem hj)
  have e2 : (park cars).nums.getD j 0 = (park cars).nums[j] := by simp [hj]
  omega
end Mine
end

section
-- L3
open PySem PySem.W PySem.W.X PySem.Calls PyProof.Rows
set_option Elab.async false
set_option maxRecDepth 100000
set_option maxHeartbeats 8000000
namespace Mine
section
variable {key : Nat → Nat} {n : Nat} {cmp : Nat → Nat → (Bool → Shared → Prop) → Shared → Prop} {s : Shared} {p : Array Nat}
structure PermA (n : Nat) (p : Array Nat) : Prop where
  perm : p.toList.Perm (List.range n)
theorem PermA.size (P : PermA n p) : p.size = n := by
  have := P.perm.length_eq
  simpa using this
theorem getD_at (p : Array Nat) (i : Nat) : p.getD i 0 = (p[i]?).getD 0 := by rw [Array.getD_eq_getD_getElem?]
theorem PermA.lt (P : PermA n p) {i : Nat} (h : i < n) : p.getD i 0 < n := by
  have hs := P.size
  have hi : i < p.toList.length := by simpa [hs] using h
  have e : p.getD i 0 = p.toList[i] := by rw [getD_at]; simp [hs, h]
  rw [e]
  exact List.mem_range.mp (P.perm.mem_iff.mp (List.getElem_mem hi))
theorem PermA.inj (P : PermA n p) {i j : Nat} (hi : i < n) (hj : j < n) (e : p.getD i 0 = p.getD j 0) : i = j := by
  have hs := P.size
  have nd : p.toList.Nodup := P.perm.nodup_iff.mpr List.nodup_range
  have hi' : i < p.toList.length := by simpa [hs] using hi
  have hj' : j < p.toList.length := by simpa [hs] using hj
  rw [getD_at, getD_at] at e
  refine (List.getElem_inj (h₀ := hi') (h₁ := hj') nd).mp ?_
  simpa [hs, hi, hj] using e
def KA (key : Nat → Nat) (p : Array Nat) (i : Nat) : Nat := key (p.getD i 0)
theorem KA_congr {q : Array Nat} {i j : Nat} (e : p[i]? = q[j]?) : KA key p i = KA key q j := by unfold KA; rw [getD_at, getD_at, e]
def SA (key : Nat → Nat) (p : Array Nat) (k : Nat) : Prop := ∀ i j, i ≤ j → j < k → KA key p i ≤ KA key p j
def DA (key : Nat → Nat) (p : Array Nat) (k : Nat) : Prop := ∀ i j, i ≤ j → j < k → KA key p j ≤ KA key p i
theorem PermA.rev (P : PermA n p) (i j : Nat) : PermA n (kas_rev p i j) := ⟨(Array.perm_iff_toList_perm.mp (mirror_perm _ _ _ _)).trans P.perm⟩
theorem PermA.bub (P : PermA n p) (i j : Nat) : PermA n (bubble p i j) := ⟨(Array.perm_iff_toList_perm.mp (bubble_perm _ _ _)).trans P.perm⟩
theorem KA_rev (P : PermA n p) {j : Nat} (hj : j ≤ n) (k : Nat) : KA key (kas_rev p 0 j) k = if k < j then KA key p (j - 1 - k) else KA key p k := by
  have e := getElem?_mirror_all (xs := p) (i := 0) (j := j) (by rw [P.size]; exact hj) k
  have hz : 0 + j - 1 - k = j - 1 - k := by omega
  rw [hz] at e
  by_cases h : k < j
  · rw [if_pos ⟨Nat.zero_le _, h⟩] at e; rw [if_pos h]; exact KA_congr e
  · rw [if_neg (fun q => h q.2)] at e; rw [if_neg h]; exact KA_congr e
theorem KA_bub (P : PermA n p) {src d : Nat} (hs : src < n) (hd : d ≤ src) (k : Nat) : KA key (bubble p src d) k = if k = src - d then KA key p src else if src - d < k ∧ k ≤ src then KA key p (k - 1) else KA key p k := by
  have e := getElem?_bubble (xs := p) (src := src) (by rw [P.size]; exact hs) d hd k
  by_cases h1 : k = src - d
  · rw [if_pos h1] at e ⊢; exact KA_congr e
  · rw [if_neg h1] at e ⊢
    by_cases h2 : src - d < k ∧ k ≤ src
    · rw [if_pos h2] at e ⊢; exact KA_congr e
    · rw [if_neg h2] at e ⊢; exact KA_congr e
variable (hc : ∀ i j C, i < n → j < n → C (decide (key i < key j)) s → cmp i j C s) (hinj : ∀ i j, i < n → j < n → key i = key j → i = j)
include hinj in
theorem KA_ne (P : PermA n p) {i j : Nat} (hi : i < n) (hj : j < n) (e : KA key p i = KA key p j) : i = j := P.inj hi hj (hinj _ _ (P.lt hi) (P.lt hj) e)
include hc in
theorem asc_is {Q : Nat → Shared → Prop} (P : PermA n p) : ∀ f m, 1 ≤ m → m + f = n → SA key p m → (∀ m', m ≤ m' → m' ≤ n → SA key p m' → (m' = n ∨ KA key p m' < KA key p (m' - 1)) → Q m' s) → (kas_asc p f m).kasWp cmp Q s
  | 0, m, h1, hm, hs, h => h m (Nat.le_refl _) (by omega) hs (.inl (by omega))
  | f + 1, m, h1, hm, hs, h => by
    unfold kas_asc
    refine hc _ _ _ (P.lt (by omega)) (P.lt (by omega)) ?_
    by_cases q : KA key p m < KA key p (m - 1)
    · have q' : key (p.getD m 0) < key (p.getD (m - 1) 0) := q
      simp only [q', decide_true, if_true]
      exact h m (Nat.le_refl _) (by omega) hs (.inr q)
    · have q' : ¬ key (p.getD m 0) < key (p.getD (m - 1) 0) := q
      simp only [q', decide_false, Bool.false_eq_true, if_false]
      refine asc_is P f (m + 1) (by omega) (by omega) (fun i j hij hj => ?_) fun m' h2 h3 => h m' (by omega) h3
      by_cases hjm : j < m
      · exact hs i j hij hjm
      · have : j = m := by omega
        subst this
        by_cases hi : i = j
        · subst hi; exact Nat.le_refl _
        · exact Nat.le_trans (hs i (j - 1) (by omega) (by omega)) (Nat.le_of_not_lt q)
include hc hinj in
theorem desc_is {Q : Array Nat × Nat × Nat → Shared → Prop} (P : PermA n p) : ∀ f m, 1 ≤ m → m + f = n → DA key p m → (∀ m', m ≤ m' → m' ≤ n → DA key p m' → Q (p, m', 0) s) → (kas_desc f p m 0).kasWp cmp Q s
  | 0, m, h1, hm, hs, h => h m (Nat.le_refl _) (by omega) hs
  | f + 1, m, h1, hm, hs, h => by
    unfold kas_desc
    refine hc _ _ _ (P.lt (by omega)) (P.lt (by omega)) ?_
    by_cases q : KA key p m < KA key p (m - 1)
    · have q' : key (p.getD m 0) < key (p.getD (m - 1) 0) := q
      simp only [q', decide_true, if_true, Nat.lt_irrefl, gt_iff_lt, if_false]
      refine desc_is P f (m + 1) (by omega) (by omega) (fun i j hij hj => ?_) fun m' h2 h3 => h m' (by omega) h3
      by_cases hjm : j < m
      · exact hs i j hij hjm
      · have : j = m := by omega
        subst this
        by_cases hi : i = j
        · subst hi; exact Nat.le_refl _
        · exact Nat.le_trans (Nat.le_of_lt q) (hs i (j - 1) (by omega) (by omega))
    · have q' : ¬ key (p.getD m 0) < key (p.getD (m - 1) 0) := q
      simp only [q', decide_false, Bool.false_eq_true, if_false]
      refine hc _ _ _ (P.lt (by omega)) (P.lt (by omega)) ?_
      have q2 : key (p.getD (m - 1) 0) < key (p.getD m 0) := by
        rcases Nat.lt_trichotomy (key (p.getD (m - 1) 0)) (key (p.getD m 0)) with h | h | h
        · exact h
        · have := KA_ne hinj P (i := m - 1) (j := m) (by omega) (by omega) h
          omega
        · exact absurd h q'
      simp only [q2, decide_true, if_true]
      exact h m (Nat.le_refl _) (by omega) hs
include hc in
theorem tail_is {Q : Nat × Array Nat → Shared → Prop} (P : PermA n p) {m : Nat} (h1 : 1 ≤ m) (hm : m ≤ n) (hs : DA key p m) (h : ∀ m' p', PermA n p' → 1 ≤ m' → m' ≤ n → SA key p' m' → Q (m', p') s) : (kas_tail3 m n p).kasWp cmp Q s := by
  unfold kas_tail3
  rw [KasT.kasWp_bind]
  refine asc_is hc (P.rev 0 m) (n - m) m h1 (by omega) (fun i j hij hj => ?_) fun m' h2 h3 hs' _ => h m' _ (P.rev 0 m) (by omega) h3 hs'
  rw [KA_rev P hm, KA_rev P hm, if_pos (by omega), if_pos hj]
  exact hs _ _ (by omega) (by omega)
include hc hinj in
theorem count_is {Q : Nat × Array Nat → Shared → Prop} (P : PermA n p) (h2 : 2 ≤ n) (h : ∀ m' p', PermA n p' → 1 ≤ m' → m' ≤ n → SA key p' m' → Q (m', p') s) : (kas_count n p).kasWp cmp Q s := by
  unfold kas_count
  rw [KasT.kasWp_bind]
  refine asc_is hc P (n - 1) 1 (Nat.le_refl _) (by omega) (fun i j hij hj => by rw [show i = j from by omega]; exact Nat.le_refl _) fun m h1 hm hs hend => ?_
  by_cases e : m = n
  · subst e
    rw [if_pos (by simp)]
    exact h m p P h1 (Nat.le_refl _) hs
  · rw [if_neg (by simpa using e)]
    have hlt := hend.resolve_left e
    by_cases h3 : m > 1
    · rw [if_pos h3]
      refine hc _ _ _ (P.lt (by omega)) (P.lt (by omega)) ?_
      have q : key (p.getD 0 0) < key (p.getD (m - 1) 0) := by
        have h4 : KA key p 0 ≤ KA key p (m - 1) := hs 0 (m - 1) (Nat.zero_le _) (by omega)
        rcases Nat.lt_or_eq_of_le h4 with h5 | h5
        · exact h5
        · have := KA_ne hinj P (i := 0) (j := m - 1) (by omega) (by omega) h5
          omega
      simp only [q, decide_true, if_true]
      exact h m p P h1 hm hs
    · rw [if_neg h3]
      have e1 : m = 1 := by omega
      subst e1
      unfold kas_descPart
      rw [KasT.kasWp_bind]
      refine desc_is hc hinj P (n - 2) 2 (by omega) (by omega) (fun i j hij hj => ?_) fun m' h4 h5 hs' => ?_
      · by_cases q : i = j
        · subst q; exact Nat.le_refl _
        · have hi : i = 0 := by omega
          have hj : j = 1 := by omega
          subst hi hj
          exact Nat.le_of_lt hlt
      · simp only [Nat.lt_irrefl, gt_iff_lt, if_false]
        exact tail_is hc P (by omega) h5 hs' h
include hc in
theorem place_is {Q : Nat → Shared → Prop} (P : PermA n p) {k : Nat} (hk : k < n) (hs : SA key p k) : ∀ f l r, l ≤ r → r ≤ k → r - l ≤ f → (∀ i, i < l → KA key p i ≤ KA key p k) → (∀ i, r ≤ i → i < k → KA key p k < KA key p i) →
    (∀ l', l' ≤ k → (∀ i, i < l' → KA key p i ≤ KA key p k) → (∀ i, l' ≤ i → i < k → KA key p k < KA key p i) → Q l' s) → (kas_place p k f l r).kasWp cmp Q s
  | 0, l, r, h1, h2, h3, lo, hi, h => by
    have : l = r := by omega
    subst this
    exact h l h2 lo hi
  | f + 1, l, r, h1, h2, h3, lo, hi, h => by
    unfold kas_place
    by_cases e : l ≥ r
    · rw [if_pos e]
      have : l = r := by omega
      subst this
      exact h l h2 lo hi
    · rw [if_neg e]
      refine hc _ _ _ (P.lt hk) (P.lt (by omega)) ?_
      by_cases q : KA key p k < KA key p ((l + r) / 2)
      · have q' : key (p.getD k 0) < key (p.getD ((l + r) / 2) 0) := q
        simp only [q', decide_true, if_true]
        exact place_is P hk hs f l ((l + r) / 2) (by omega) (by omega) (by omega) lo (fun i h4 h5 => Nat.lt_of_lt_of_le q (hs _ _ h4 h5)) h
      · have q' : ¬ key (p.getD k 0) < key (p.getD ((l + r) / 2) 0) := q
        simp only [q', decide_false, Bool.false_eq_true, if_false]
        exact place_is P hk hs f ((l + r) / 2 + 1) r (by omega) h2 (by omega) (fun i h4 => Nat.le_trans (hs i ((l + r) / 2) (by omega) (by omega)) (Nat.le_of_not_lt q)) hi h
include hc in
theorem bin_is {Q : Array Nat → Shared → Prop} : ∀ f (p : Array Nat) k, PermA n p → 1 ≤ k → k + f = n → SA key p k → (∀ p', PermA n p' → SA key p' n → Q p' s) → (kas_bin f p k).kasWp cmp Q s
  | 0, p, k, P, h1, hk, hs, h => h p P (by rw [← show k = n from by omega]; exact hs)
  | f + 1, p, k, P, h1, hk, hs, h => by
    unfold kas_bin
    rw [KasT.kasWp_bind]
    refine place_is hc P (by omega) hs k 0 k (Nat.zero_le _) (Nat.le_refl _) (by omega) (fun i h => nomatch h) (fun i h4 h5 => by omega) fun l hl lo hi => ?_
    refine bin_is f _ (k + 1) (P.bub _ _) (by omega) (by omega) (fun i j hij hj => ?_) h
    rw [KA_bub P (by omega) (by omega), KA_bub P (by omega) (by omega), show k - (k - l) = l by omega]
    repeat' split
    all_goals first
      | (exfalso; omega)
      | exact Nat.le_refl _
      | exact lo _ (by omega)
      | exact Nat.le_of_lt (hi _ (by omega) (by omega))
      | exact hs _ _ (by omega) (by omega)
include hc hinj in
theorem sort_is {Q : Array Nat → Shared → Prop} (h2 : 2 ≤ n) (h : ∀ p, PermA n p → SA key p n → Q p s) : (kas_sort n).kasWp cmp Q s := by
  unfold kas_sort
  rw [KasT.kasWp_bind]
  refine count_is hc hinj (p := List.toArray (List.range n)) ⟨by simp⟩ h2 fun m p P h1 hm hs => ?_
  dsimp only
  by_cases e : m < n
  · rw [if_pos e]
    have : max m 1 = m := by omega
    rw [this]
    exact bin_is hc (n - m) p m P h1 (by omega) hs h
  · rw [if_neg e]
    have : m = n := by omega
    subst this
    exact h p P hs
end
/-- two pairs of ints, compared -/
def ltP (a b : Nat × Nat) : Bool := decide (a.1 < b.1 ∨ (a.1 = b.1 ∧ a.2 < b.2))
section
variable {prog : Program} {w : World} {A : Around} {E : Value → Shared → Prop} {s : Shared}
theorem lt_tup {Q : Value → Shared → Prop} {a b : Addr} {r k r' k' : Nat} {t u t' u' : Tok} (ha : s.heap.get? a = some (tupO (.int (r : Int) t) (.int (k : Int) u))) (hb : s.heap.get? b = some (tupO (.int (r' : Int) t') (.int (k' : Int) u'))) (hu : A.units < cLine)
    (h : Q (.bool (ltP (r, k) (r', k'))) s) : wpAny (model prog w) A (richCompare .Lt (.ref a) (.ref b)) Q E s := by
  have hTa : s.TypeIs (.ref a) "tuple" := ⟨_, ha, rfl⟩
  have hTb : s.TypeIs (.ref b) "tuple" := ⟨_, hb, rfl⟩
  refine wpAny_richCompare_same_room (op := .Lt) hTa hTb F.slot_tuple_lt (wpAny_call_entry F.slot_tuple_lt hTa F.entry_tuple_lt ?_ (F.args_tuple_lt_2 _ _)) hu
  show wpAny _ _ (isInstance (.ref b) (.type "tuple") >>= _) _ _ s
  refine wpAny_bind (wpAny_isInstance hTb isSubtype_tuple_tuple ?_)
  simp only [Bool.not_true, Bool.false_eq_true, if_false]
  refine wpAny_bind (wpAny_tupleItemsOf ha rfl ?_)
  refine wpAny_bind (wpAny_tupleItemsOf hb rfl ?_)
  simp only [List.zip_cons_cons, List.zip_nil_right, List.forIn_cons, List.forIn_nil]
  refine wpAny_bind (wpAny_bind (wpAny_bind (wpAny_eqBool_int ?_)))
  by_cases e1 : r = r'
  · subst e1
    simp only [beq_self_eq_true, Bool.not_true, Bool.false_eq_true, if_false]
    refine wpAny_pure ?_
    refine wpAny_bind (wpAny_bind (wpAny_eqBool_int ?_))
    by_cases e2 : k = k'
    · subst e2
      simp only [beq_self_eq_true, Bool.not_true, Bool.false_eq_true, if_false]
      have hf : ltP (r, k) (r, k) = false := by simp [ltP]
      rw [hf] at h
      refine wpAny_pure (wpAny_pure ?_)
      dsimp only
      exact wpAny_pure ⟨_, rfl, (fun q => nomatch q), h⟩
    · have e3 : ((k : Int) == (k' : Int)) = false := by simp; omega
      have hf : ltP (r, k) (r, k') = decide ((k : Int) < (k' : Int)) := by simp [ltP]
      rw [hf] at h
      rw [e3]
      simp only [Bool.not_false, if_true]
      refine wpAny_bind (wpAny_rule (wpAny_bind (show wpAny _ _ (compareOp .Lt _ _) _ _ _ from lt_int ?_)))
      refine wpAny_bind (wpAny_pure ?_)
      refine wpAny_pure (wpAny_pure ?_)
      dsimp only
      exact wpAny_pure ⟨_, rfl, (fun q => nomatch q), h⟩
  · have e3 : ((r : Int) == (r' : Int)) = false := by simp; omega
    have hf : ltP (r, k) (r', k') = decide ((r : Int) < (r' : Int)) := by simp [ltP, e1]
    rw [hf] at h
    rw [e3]
    simp only [Bool.not_false, if_true]
    refine wpAny_bind (wpAny_rule (wpAny_bind (show wpAny _ _ (compareOp .Lt _ _) _ _ _ from lt_int ?_)))
    refine wpAny_bind (wpAny_pure ?_)
    refine wpAny_pure (wpAny_pure ?_)
    dsimp only
    exact wpAny_pure ⟨_, rfl, (fun q => nomatch q), h⟩
theorem ltP_trans {a b c : Nat × Nat} (h : ltP b c = true) (h2 : ¬ ltP a c = true) : ¬ ltP a b = true := by
  obtain ⟨a1, a2⟩ := a
  obtain ⟨b1, b2⟩ := b
  obtain ⟨c1, c2⟩ := c
  simp only [ltP, decide_eq_true_eq] at *
  omega
theorem ltP_irrefl (a : Nat × Nat) : ¬ ltP a a = true := by simp [ltP]
variable {l : Addr} {tps : List Tp} {prs : List (Nat × Nat)}
theorem tup_at (hp : PairsAre tps prs) {h : Heap} (ht : ∀ p ∈ tps, h.get? p.1 = some (tupE p).2) {i : Nat} (hi : i < tps.length) :
    ∃ (p : Tp) (r k : Nat) (t u : Tok), tps[i]? = some p ∧ prs[i]? = some (r, k) ∧ h.get? p.1 = some (tupO (.int (r : Int) t) (.int (k : Int) u)) := by
  obtain ⟨p, e⟩ : ∃ p, tps[i]? = some p := ⟨_, List.getElem?_eq_getElem hi⟩
  obtain ⟨r, k, t, u, h1, h2⟩ := hp.get i p e
  refine ⟨p, r, k, t, u, e, h1, ?_⟩
  have := ht p (List.mem_of_getElem? e)
  rw [this]
  show some (tupO p.2.1 p.2.2) = _
  rw [h2]
theorem min_loop {R : Result → Shared → Prop} {I S : Addr} (hh : A.handled = none) (hu : A.in1.units < cLine) (hp : PairsAre tps prs) (ht : ∀ p ∈ tps, s.heap.get? p.1 = some (tupE p).2) (hl : s.heap.IsList l (tps.map (fun p => Value.ref p.1)).toArray)
    (hI : s.heap.get? I = none) (hS : s.heap.get? S = none) (hIS : I ≠ S)
    (hR : ∀ (i : Nat) (p : Tp) (h' : Heap) (tk' : Nat), tps[i]? = some p → (∀ (j : Nat) (q : Nat × Nat), prs[j]? = some q → ¬ ltP q (prs.getD i (0, 0)) = true) → Sub s.heap h' → R (.ok (.ret (.ref p.1))) { s with heap := h', toks := tk' }) :
    ∀ (k j i : Nat) (h : Heap) (tk : Nat) (p : Tp) (c : Nat), tps.length - (j + 1) = k → j + 1 ≤ tps.length → Sub s.heap h → h.IsListIter I l (j + 1) → tps[i]? = some p → h.get? S = some { cls := .type "list", dict := none, data := .seq #[.ref p.1, .ref p.1] c, slots := #[] } →
      (∀ (j' : Nat) (q : Nat × Nat), j' ≤ j → prs[j']? = some q → ¬ ltP q (prs.getD i (0, 0)) = true) →
      codeAny (model prog w) A (.builtin "min.loop" ⟨[.ref I, .none, .ref S], []⟩) R { s with heap := h, toks := tk } := by
  have hname : (toString "min" ++ toString ".loop" : String) = "min.loop" := by decide
  obtain ⟨ol, hol, _⟩ := id hl
  have hlI : l ≠ I := fun q => by rw [← q, hol] at hI; cases hI
  have hlS : l ≠ S := fun q => by rw [← q, hol] at hS; cases hS
  have W := Walks.list (prog := prog) (w := w) (A := A.in1) hh I l hlI (tps.map (fun p => Value.ref p.1)).toArray
  have hsz : (tps.map (fun p => Value.ref p.1)).toArray.size = tps.length := by simp
  have upd : ∀ {h h' : Heap}, Sub s.heap h → (∀ b o, b ∉ [I] → h.get? b = some o → h'.get? b = some o) → Sub s.heap h' := fun k1 k2 b o e => k2 b o (fun q => by rw [List.mem_singleton.mp q, hI] at e; cases e) (k1 b o e)
  have updS : ∀ {h : Heap} (f : Array Value → Array Value), Sub s.heap h → Sub s.heap (h.update S (Obj.mapSeq f)) := fun f k1 b o e => (Heap.get?_update_other _ _ (fun q : S = b => by rw [← q, hS] at e; cases e)).trans (k1 b o e)
  have lst : ∀ {h : Heap}, Sub s.heap h → h.IsList l (tps.map (fun p => Value.ref p.1)).toArray := fun k1 => let ⟨o, ho, r⟩ := hl; ⟨o, k1 _ _ ho, r⟩
  intro k
  induction k with
  | zero =>
    intro j i h tk p c hk hj sub hit hpi hSo hbest
    have hin : j + 1 = tps.length := by omega
    refine codeAny_builtin F.entry_min_loop ?_
    rw [Around.under_plainId F.plain_min_loop _]
    show wpAny _ A.in1 (seqItems? (.ref S) >>= _) _ _ _
    refine wpAny_bind (wpAny_seqItems hSo rfl ?_)
    show wpAny _ A.in1 (tryCatch (pyNext (.ref I)) _ >>= _) _ _ _
    refine wpAny_bind (wpAny_tryCatch (W.done _ _ _ ⟨by rw [hsz, ← hin]; exact hit, lst sub⟩ fun h' tk hk' => ?_))
    have hS' := hk' S _ (by simpa using hIS.symm) hSo
    show wpAny _ A.in1 (updateSeq S (fun _ => #[]) >>= _) _ _ _
    refine wpAny_bind ?_
    refine wpAny_updateSeq hS' rfl (wpAny_bind (wpAny_letGo (wpAny_pure ?_)))
    refine hR i p _ _ hpi (fun j' q hq => hbest j' q ?_ hq) (updS _ (upd sub hk'))
    have := (List.getElem?_eq_some_iff.mp hq).1
    rw [← hp.len] at this
    omega
  | succ k ih =>
    intro j i h tk p c hk hj sub hit hpi hSo hbest
    have hlt : j + 1 < tps.length := by omega
    refine codeAny_builtin F.entry_min_loop ?_
    rw [Around.under_plainId F.plain_min_loop _]
    show wpAny _ A.in1 (seqItems? (.ref S) >>= _) _ _ _
    refine wpAny_bind (wpAny_seqItems hSo rfl ?_)
    show wpAny _ A.in1 (tryCatch (pyNext (.ref I)) _ >>= _) _ _ _
    refine wpAny_bind (wpAny_tryCatch (W.item (j + 1) _ _ _ (by rw [hsz]; exact hlt) ⟨hit, lst sub⟩ fun v h' tk' hP hst' hk' => ?_))
    have sub' := upd sub hk'
    have hS' := hk' S _ (by simpa using hIS.symm) hSo
    obtain ⟨q, r, kk, t, u, hq, hpr, hqo⟩ := tup_at (h := h') hp (fun p hp' => sub' _ _ (ht p hp')) hlt
    have hv : v = .ref q.1 := by
      have hP' : (tps.map (fun p => Value.ref p.1))[j + 1]? = some v := by simpa using hP
      rw [List.getElem?_map, hq] at hP'
      simpa using hP'.symm
    subst hv
    have hi : i < tps.length := (List.getElem?_eq_some_iff.mp hpi).1
    obtain ⟨p', r', kk', t', u', hp', hpr', hpo⟩ := tup_at (h := h') hp (fun p hp' => sub' _ _ (ht p hp')) hi
    rw [hpi] at hp'; cases hp'
    have gi : prs.getD i (0, 0) = (r', kk') := by rw [List.getD_eq_getElem?_getD, hpr']; rfl
    have gj : prs.getD (j + 1) (0, 0) = (r, kk) := by rw [List.getD_eq_getElem?_getD, hpr]; rfl
    show wpAny _ A.in1 (tryCatch (holding [_, _] (richCompare .Lt _ _ >>= _)) _ >>= _) _ _ _
    refine wpAny_bind (wpAny_tryCatch (wpAny_holding (wpAny_bind (lt_tup hqo hpo hu ?_))))
    refine wpAny_bind (wpAny_holding (wpAny_truthy_bool ?_))
    refine wpAny_bind (wpAny_letGo (wpAny_pure ?_))
    cases hb : ltP (r, kk) (r', kk') with
    | true =>
      simp only [if_true]
      refine wpAny_bind ?_
      refine wpAny_updateSeq hS' rfl (wpAny_bind (wpAny_letGo ?_))
      rw [hname]
      refine wpAny_pure ⟨plainId_quiet F.plain_min_loop _, ih (j + 1) (j + 1) _ _ q _ (by omega) hlt (updS _ sub') (let ⟨o, ho, r⟩ := hst'.1; ⟨o, (Heap.get?_update_other _ _ hIS.symm).trans ho, r⟩) hq (Heap.get?_update_self _ hS' rfl) fun j' q' hj' hq' => ?_⟩
      rw [gj]
      rcases Nat.lt_or_eq_of_le hj' with h1 | h1
      · have h2 := hbest j' q' (by omega) hq'
        rw [gi] at h2
        exact ltP_trans hb h2
      · subst h1
        rw [hpr] at hq'; cases hq'
        exact ltP_irrefl _
    | false =>
      simp only [Bool.false_eq_true, if_false]
      refine wpAny_bind (wpAny_letGo ?_)
      rw [hname]
      refine wpAny_pure ⟨plainId_quiet F.plain_min_loop _, ih (j + 1) i _ _ p c (by omega) hlt sub' hst'.1 hpi hS' fun j' q' hj' hq' => ?_⟩
      rcases Nat.lt_or_eq_of_le hj' with h1 | h1
      · exact hbest j' q' (by omega) hq'
      · subst h1
        rw [hpr] at hq'; cases hq'
        rw [gi, hb]; simp
theorem min_tups {h₀ : Heap} {L : Addr} {m : Str → Option Value} {news : List (Addr × Obj)} {c : Nat} {Q : Value → Shared → Prop} (hh : A.handled = none) (hu : A.in1.units < cLine) (F' : Fr h₀ L s.heap m) (N : News h₀ L s.heap news) (hm : (l, listOf (tps.map (fun p => Value.ref p.1)).toArray c) ∈ news) (htp : ∀ p ∈ tps, tupE p ∈ news) (hp : PairsAre tps prs) (hne : 0 < tps.length)
    (h : ∀ (i : Nat) (p : Tp) (h' : Heap) (tk' : Nat), tps[i]? = some p → (∀ (j : Nat) (q : Nat × Nat), prs[j]? = some q → ¬ ltP q (prs.getD i (0, 0)) = true) → Fr h₀ L h' m → News h₀ L h' news → Q (.ref p.1) { s with heap := h', toks := tk' }) :
    wpAny (model prog w) A (call (.builtin "min") [.ref l]) Q E s := by
  have hname : (toString "min" ++ toString ".loop" : String) = "min.loop" := by decide
  have hl := News.isList N hm
  have ht : ∀ p ∈ tps, s.heap.get? p.1 = some (tupE p).2 := fun p hp => (N _ (htp p hp)).1
  refine call_function_tree F.kind_min F.plain_min F.entry_min (F.args_min1 _) ?_
  show wpAny _ A.in1 (Builtin.Builtins.bindParams "min" ["key", "default"] 0 ⟨[], []⟩ >>= _) _ _ s
  refine wpAny_bind (wpAny_of_eq (show Builtin.Builtins.bindParams "min" ["key", "default"] 0 ⟨[], []⟩ = pure [none, none] from rfl) ?_)
  refine wpAny_bind (wpAny_pure ?_)
  refine wpAny_bind (wpAny_pyIter_list hl ?_)
  refine wpAny_bind (wpAny_newObj_type ?_)
  rw [hname]
  obtain ⟨ol, hol, _⟩ := id hl
  have hll : l < s.heap.objs.size := Heap.lt_size hol
  have hI : s.heap.get? s.heap.objs.size = none := Heap.get?_none_of_le (Nat.le_refl _)
  generalize hH1 : s.heap.push { cls := .type "list_iterator", data := .fields #[.ref l, .int 0 0] } = H1
  have hs1 : H1.objs.size = s.heap.objs.size + 1 := by rw [← hH1, Heap.size_push]
  have hS : s.heap.get? H1.objs.size = none := Heap.get?_none_of_le (by rw [hs1]; exact Nat.le_succ _)
  have hIS : s.heap.objs.size ≠ H1.objs.size := by rw [hs1]; exact Nat.ne_of_lt (Nat.lt_succ_self _)
  generalize hH2 : H1.push { cls := .type "list", dict := none, data := .seq ([] : List Value).toArray } = H2
  have sub2 : Sub s.heap H2 := fun b o e => hH2 ▸ Heap.get?_push_of_some _ (hH1 ▸ Heap.get?_push_of_some _ e)
  have hit2 : H2.IsListIter s.heap.objs.size l 0 := ⟨_, hH2 ▸ Heap.get?_push_of_some _ (hH1 ▸ Heap.get?_push_size _ rfl), rfl, rfl⟩
  have hSo : H2.get? H1.objs.size = some { cls := .type "list", dict := none, data := .seq #[] 0, slots := #[] } := hH2 ▸ Heap.get?_push_size _ rfl
  have W := Walks.list (prog := prog) (w := w) (A := A.in1) hh s.heap.objs.size l (Nat.ne_of_lt hll) (tps.map (fun p => Value.ref p.1)).toArray
  refine wpAny_pure ⟨plainId_quiet F.plain_min_loop _, codeAny_builtin F.entry_min_loop ?_⟩
  rw [Around.under_plainId F.plain_min_loop _]
  show wpAny _ A.in1 (seqItems? (.ref H1.objs.size) >>= _) _ _ _
  refine wpAny_bind (wpAny_seqItems hSo rfl ?_)
  show wpAny _ A.in1 (tryCatch (pyNext (.ref s.heap.objs.size)) _ >>= _) _ _ _
  refine wpAny_bind (wpAny_tryCatch (W.item 0 _ _ _ (by simpa using hne) ⟨hit2, (let ⟨o, ho, r⟩ := hl; ⟨o, sub2 _ _ ho, r⟩)⟩ fun v h' tk hP hst' hk' => ?_))
  obtain ⟨p, hp0⟩ : ∃ p, tps[0]? = some p := ⟨_, List.getElem?_eq_getElem hne⟩
  have hv : v = .ref p.1 := by
    have hP' : (tps.map (fun p => Value.ref p.1))[0]? = some v := by simpa using hP
    rw [List.getElem?_map, hp0] at hP'
    simpa using hP'.symm
  subst hv
  have hS' := hk' H1.objs.size _ (by simpa using hIS.symm) hSo
  have sub3 : Sub s.heap h' := fun b o e => hk' b o (fun q => by rw [List.mem_singleton.mp q, hI] at e; cases e) (sub2 b o e)
  show wpAny _ A.in1 (updateSeq H1.objs.size (fun _ => #[_, _]) >>= _) _ _ _
  refine wpAny_bind ?_
  refine wpAny_updateSeq hS' rfl ?_
  rw [hname]
  refine wpAny_pure ⟨plainId_quiet F.plain_min_loop _, min_loop (s := s) hh hu hp ht hl hI hS hIS (fun i p h' tk' h1 h2 h3 => h i p h' tk' h1 h2 (F'.keeps h3) (N.grown h3)) _ 0 0 _ _ p _ rfl hne (fun b o e => (Heap.get?_update_other _ _ (fun q : H1.objs.size = b => by rw [← q, hS] at e; cases e)).trans (sub3 b o e)) (let ⟨o, ho, r⟩ := hst'.1; ⟨o, (Heap.get?_update_other _ _ hIS.symm).trans ho, r⟩) hp0 (Heap.get?_update_self _ hS' rfl) fun j' q' hj' hq' => ?_⟩
  have : j' = 0 := by omega
  subst this
  rw [List.getD_eq_getElem?_getD, hq']
  exact ltP_irrefl _
end
end Mine
end

section
-- L4
open PySem PySem.W PySem.W.X PySem.Calls PyProof.Rows
set_option Elab.async false
set_option maxRecDepth 100000
set_option maxHeartbeats 8000000
namespace Mine
section
variable {prog : Program} {w : World} {A : Around} {E : Value → Shared → Prop} {s : Shared}
theorem kat_tups_of {h : Heap} : ∀ (tps : List Tp), (∀ p ∈ tps, h.get? p.1 = some (tupE p).2) → KatTups h (tps.map (fun p => Value.ref p.1)) (tps.map (fun p => p.2.1))
  | [], _ => KatTups.nil
  | p :: tps, k => KatTups.cons (k p (.head _)) rfl rfl rfl (kat_tups_of tps fun q hq => k q (.tail _ hq))
theorem keyLt_tup {Q : Bool → Shared → Prop} {a b : Addr} {r k r' k' : Nat} {t u t' u' : Tok} (ha : s.heap.get? a = some (tupO (.int (r : Int) t) (.int (k : Int) u))) (hb : s.heap.get? b = some (tupO (.int (r' : Int) t') (.int (k' : Int) u')))
    (h : Q (ltP (r, k) (r', k')) s) : wpAny (model prog w) A (keyLt' (tuples' true) (.ref a) (.ref b)) Q E s := by
  have key : wpAny (model prog w) A (keyLt' (tuples' true) (.ref a) (.ref b)) Q E s := by
    refine kat_lt ha rfl hb rfl ?_
    refine kat_cons (wpAny_eqBool_int ?_)
    by_cases e1 : r = r'
    · subst e1
      rw [show ((r : Int) == (r : Int)) = true from by simp]
      refine kat_yes (kat_cons (wpAny_eqBool_int ?_))
      by_cases e2 : k = k'
      · subst e2
        rw [show ((k : Int) == (k : Int)) = true from by simp]
        refine kat_yes (kat_nil ?_)
        have hf : ltP (r, k) (r, k) = false := by simp [ltP]
        rw [hf] at h
        exact h
      · rw [show ((k : Int) == (k' : Int)) = false from by simp; omega]
        have hf : ltP (r, k) (r, k') = decide ((k : Int) < (k' : Int)) := by simp [ltP]
        rw [hf] at h
        exact kat_no (kat_one _ _ (lt_int h))
    · rw [show ((r : Int) == (r' : Int)) = false from by simp; omega]
      have hf : ltP (r, k) (r', k') = decide ((r : Int) < (r' : Int)) := by simp [ltP, e1]
      rw [hf] at h
      exact kat_no (oneLt_int h)
  exact key
theorem sorted_tups {h₀ : Heap} {L l : Addr} {m : Str → Option Value} {news : List (Addr × Obj)} {c : Nat} {tps : List Tp} {prs : List (Nat × Nat)} {Q : Value → Shared → Prop} (key : Nat → Nat) (F' : Fr h₀ L s.heap m) (N : News h₀ L s.heap news)
    (hm : (l, listOf (tps.map (fun p => Value.ref p.1)).toArray c) ∈ news) (htp : ∀ p ∈ tps, tupE p ∈ news) (hp : PairsAre tps prs) (h2 : 2 ≤ tps.length) (h64 : tps.length < 64)
    (hkey : ∀ (i j : Nat) (a b : Nat × Nat), prs[i]? = some a → prs[j]? = some b → ltP a b = decide (key i < key j)) (hinj : ∀ i j, i < tps.length → j < tps.length → key i = key j → i = j)
    (h : ∀ (D : Addr) (p : Array Nat) (e : Nat) (h' : Heap), Fr h₀ L h' m → News h₀ L h' ((D, listOf ((p.toList.map fun i => tps.getD i (0, .none, .none)).map (fun p => Value.ref p.1)).toArray e) :: news) → (∀ q ∈ news, q.1 < D) → PermA tps.length p → SA key p tps.length → Q (.ref D) { s with heap := h' }) :
    wpAny (model prog w) A (call (.builtin "sorted") [.ref l]) Q E s := by
  have hvl : (tps.map (fun p => Value.ref p.1)).length = tps.length := by simp
  refine kat_sorted F' N (News.isList N hm) (by rw [hvl]; exact h2) (by rw [hvl]; exact h64) fun D e1 h' F1 N1 lD => ?_
  have ht : ∀ p ∈ tps, h'.get? p.1 = some (tupE p).2 := fun p hp => (N1 _ (.tail _ (htp p hp))).1
  refine kat_kind (T := .type "int") (kat_tups_of tps ht) (by simp; omega) (fun v hv => ?_) (by rfl) ?_
  · obtain ⟨p, hp', rfl⟩ := List.mem_map.mp hv
    obtain ⟨i, hi, rfl⟩ := List.mem_iff_getElem.mp hp'
    obtain ⟨r, k, t, u, _, e⟩ := hp.get i _ (List.getElem?_eq_getElem hi)
    rw [e]
    exact Looks.of_pure rfl
  rw [hvl]
  refine sort_is (key := key) (n := tps.length) (fun i j C hi hj hC => ?_) hinj h2 fun p P hs => ?_
  · unfold kas_ask
    obtain ⟨p, r, k, t, u, e1, e2, e3⟩ := tup_at hp ht hi
    obtain ⟨p', r', k', t', u', e1', e2', e3'⟩ := tup_at hp ht hj
    have g1 : (tps.map (fun p => Value.ref p.1)).getD i Value.none = .ref p.1 := by simp [e1]
    have g2 : (tps.map (fun p => Value.ref p.1)).getD j Value.none = .ref p'.1 := by simp [e1']
    rw [g1, g2]
    refine keyLt_tup e3 e3' ?_
    rw [hkey i j _ _ e2 e2']
    exact hC
  · refine KasFin.intro (g := fun o => (D, o) :: news) F1 N1 ?_ fun h2 c2 F2 N2 => ?_
    · exact UpdF.head (fun p hp => Nat.ne_of_lt (lD p hp))
    · refine h D p c2 h2 F2 ?_ lD P hs
      have e : (p.toList.map fun i => (tps.map (fun p => Value.ref p.1)).getD i Value.none) = (p.toList.map fun i => tps.getD i (0, .none, .none)).map (fun p => Value.ref p.1) := by
        rw [List.map_map]
        refine List.map_congr_left fun i hi => ?_
        have hi' : i < tps.length := List.mem_range.mp (P.perm.mem_iff.mp hi)
        simp [hi']
      rw [← e]
      exact N2
end
end Mine
end

section
-- P2
open PySem PySem.W PySem.W.X PySem.Calls PyProof.Rows PyProof.Rows.LCg
set_option Elab.async false
set_option maxRecDepth 100000
set_option maxHeartbeats 8000000
namespace Mine
/-- the lexers, each with a line's rest pushed back -/
structure LinesO (w : World) (own : List (Addr × Obj)) (cd : Addr) (oc : Obj) (xs : List LA) (qs : List (List Car)) : Prop where
  len : xs.length = qs.length
  all : ∀ (i : Nat) (x : LA) (q : List Car), xs[i]? = some x → qs[i]? = some q → LexS w x ∧ x.cd = cd ∧ x.oc = oc ∧ ∃ pb, LexO w own x pb [] ∧ PathsAre pb q
  apart : ∀ (i j : Nat) (x y : LA), i ≠ j → xs[i]? = some x → xs[j]? = some y → ∀ e ∈ fp x, e ∉ fp y
theorem Lines.o {w : World} {h0 : Heap} {own : List (Addr × Obj)} {cd : Addr} {oc : Obj} {x0 : LA} {xs : List LA} {qs : List (List Car)} (L : Lines w h0 own cd oc x0 xs qs) : LinesO w own cd oc xs qs :=
  ⟨L.len, fun i x q h1 h2 => let ⟨a, b, c, d, _⟩ := L.all i x q h1 h2; ⟨a, b, c, d⟩, L.apart⟩
theorem LinesO.set {w : World} {own own2 : List (Addr × Obj)} {cd : Addr} {oc : Obj} {x : LA} {xs : List LA} {qs : List (List Car)} {f : Nat} {t : List Car} {pb2 : List Value} (LN : LinesO w own cd oc xs qs) (hx : xs[f]? = some x) (M : Moved1 w own own2 x pb2 []) (PA : PathsAre pb2 t) :
    LinesO w own2 cd oc xs (qs.set f t) := by
  refine ⟨by rw [List.length_set]; exact LN.len, fun i y r hy hr => ?_, LN.apart⟩
  by_cases e : i = f
  · subst e
    rw [hx] at hy; cases hy
    have hi : i < qs.length := by rw [← LN.len]; exact (List.getElem?_eq_some_iff.mp hx).1
    rw [List.getElem?_set_self hi] at hr
    cases hr
    obtain ⟨a1, a2, a3, _⟩ := LN.all i x _ hx (List.getElem?_eq_getElem hi)
    exact ⟨a1, a2, a3, ⟨pb2, M.lex, PA⟩⟩
  · rw [List.getElem?_set_ne (Ne.symm e)] at hr
    obtain ⟨a1, a2, a3, ⟨pb', o, p⟩⟩ := LN.all i y r hy hr
    exact ⟨a1, a2, a3, ⟨pb', M.other o (LN.apart i f y x e hy hx), p⟩⟩
inductive FrontsAre : List Value → List (List Car) → Prop
  | nil : FrontsAre [] []
  | cons (q : List Car) (t : Tok) {vs : List Value} {l : List (List Car)} (h : FrontsAre vs l) : FrontsAre (.str (S (curP q)) t :: vs) (q :: l)
theorem FrontsAre.snoc {vs : List Value} {l : List (List Car)} (h : FrontsAre vs l) (q : List Car) (t : Tok) : FrontsAre (vs ++ [.str (S (curP q)) t]) (l ++ [q]) := by
  induction h with
  | nil => exact .cons q t .nil
  | cons b u h ih => exact .cons b u ih
theorem FrontsAre.len {vs : List Value} {l : List (List Car)} (h : FrontsAre vs l) : vs.length = l.length := by
  induction h with
  | nil => rfl
  | cons b u h ih => simp [ih]
theorem FrontsAre.get {vs : List Value} {l : List (List Car)} (h : FrontsAre vs l) : ∀ (i : Nat) (v : Value), vs[i]? = some v → ∃ q t, l[i]? = some q ∧ v = .str (S (curP q)) t := by
  induction h with
  | nil => intro i v e; simp at e
  | cons q u h ih =>
    intro i v e
    cases i with
    | zero => simp at e; exact ⟨q, u, by simp, e.symm⟩
    | succ i => simpa using ih i v (by simpa using e)
theorem FrontsAre.set {vs : List Value} {l : List (List Car)} (h : FrontsAre vs l) : ∀ (i : Nat) (q : List Car) (t : Tok), FrontsAre (vs.set i (.str (S (curP q)) t)) (l.set i q) := by
  induction h with
  | nil => intro i q t; exact .nil
  | cons a u h ih =>
    intro i q t
    cases i with
    | zero => exact .cons q t h
    | succ i => exact .cons a u (ih i q t)
/-- how many fronts are left, of the first i -/
def cnt (cur : List (List Car)) (i : Nat) : Nat := ((cur.take i).filter (fun q => !q.isEmpty)).length
theorem cnt_zero (cur : List (List Car)) : cnt cur 0 = 0 := rfl
theorem cnt_succ {cur : List (List Car)} {i : Nat} {q : List Car} (h : cur[i]? = some q) : cnt cur (i + 1) = cnt cur i + (if q = [] then 0 else 1) := by
  obtain ⟨hi, rfl⟩ := List.getElem?_eq_some_iff.mp h
  unfold cnt
  rw [List.take_succ_eq_append_getElem hi, List.filter_append, List.length_append]
  cases cur[i] <;> simp
theorem cnt_none {cur : List (List Car)} (h : cnt cur cur.length = 0) : ∀ q ∈ cur, q = [] := by
  unfold cnt at h
  rw [List.take_length] at h
  intro q hq
  have h2 := List.eq_nil_of_length_eq_zero h
  have := List.filter_eq_nil_iff.mp h2 q hq
  simpa using this
theorem cnt_some {cur : List (List Car)} (h : cnt cur cur.length ≠ 0) : ∃ q ∈ cur, q ≠ [] := by
  unfold cnt at h
  rw [List.take_length] at h
  obtain ⟨q, hq⟩ := List.exists_mem_of_ne_nil (cur.filter (fun q => !q.isEmpty)) (fun e => h (by rw [e]; rfl))
  exact ⟨q, (List.mem_filter.mp hq).1, by simpa using (List.mem_filter.mp hq).2⟩
/-- the fronts' pairs (rank, line) -/
def prs (cur : List (List Car)) (i : Nat) : List (Nat × Nat) := (List.range i).filterMap (fun k => match cur[k]? with | some (a :: _) => some (a.r, k) | _ => none)
theorem prs_nil {cur : List (List Car)} {i : Nat} (h : cur[i]? = some []) : prs cur (i + 1) = prs cur i := by
  unfold prs
  rw [List.range_succ, List.filterMap_append]
  simp [h]
theorem prs_cons {cur : List (List Car)} {i : Nat} {a : Car} {t : List Car} (h : cur[i]? = some (a :: t)) : prs cur (i + 1) = prs cur i ++ [(a.r, i)] := by
  unfold prs
  rw [List.range_succ, List.filterMap_append]
  simp [h]
theorem prs_mem {cur : List (List Car)} {n r k : Nat} : (r, k) ∈ prs cur n ↔ k < n ∧ ∃ a t, cur[k]? = some (a :: t) ∧ a.r = r := by
  unfold prs
  rw [List.mem_filterMap]
  constructor
  · rintro ⟨j, hj, e⟩
    split at e
    · next a t h =>
      cases e
      exact ⟨List.mem_range.mp hj, a, t, h, rfl⟩
    · cases e
  · rintro ⟨hk, a, t, h, rfl⟩
    exact ⟨k, List.mem_range.mpr hk, by rw [h]⟩
/-- the least pair is the front that goes out -/
theorem prs_min {cur : List (List Car)} {i r k : Nat} (hi : (prs cur cur.length)[i]? = some (r, k)) (hmin : ∀ (j : Nat) (q : Nat × Nat), (prs cur cur.length)[j]? = some q → ¬ ltP q ((prs cur cur.length).getD i (0, 0)) = true) :
    ∃ a t, cur[k]? = some (a :: t) ∧ a.r = r ∧ ∀ j b u, cur[j]? = some (b :: u) → a.r < b.r ∨ (a.r = b.r ∧ k ≤ j) := by
  obtain ⟨hk, a, t, h, rfl⟩ := prs_mem.mp (List.mem_of_getElem? hi)
  refine ⟨a, t, h, rfl, fun j b u hj => ?_⟩
  have hm : (b.r, j) ∈ prs cur cur.length := prs_mem.mpr ⟨(List.getElem?_eq_some_iff.mp hj).1, b, u, hj, rfl⟩
  obtain ⟨j', hj', e⟩ := List.mem_iff_getElem.mp hm
  have := hmin j' _ (by rw [List.getElem?_eq_getElem hj', e])
  rw [List.getD_eq_getElem?_getD, hi] at this
  simp only [ltP, Option.getD_some, decide_eq_true_eq] at this
  omega
theorem prs_ne {cur : List (List Car)} (h : ∃ q ∈ cur, q ≠ []) : 0 < (prs cur cur.length).length := by
  obtain ⟨q, hq, hne⟩ := h
  obtain ⟨k, hk, rfl⟩ := List.mem_iff_getElem.mp hq
  cases e : cur[k] with
  | nil => exact absurd e hne
  | cons a t =>
    have hm : (a.r, k) ∈ prs cur cur.length := prs_mem.mpr ⟨hk, a, t, by rw [List.getElem?_eq_getElem hk, e], rfl⟩
    exact List.length_pos_of_mem hm
theorem flat_set {cur : List (List Car)} {k : Nat} {a : Car} {t : List Car} (h : cur[k]? = some (a :: t)) : cur.flatten.length = (cur.set k t).flatten.length + 1 := by
  have := (set_flat cur k h).length_eq
  simpa using this
/-- the first i lines have given their front -/
def tkq (qs : List (List Car)) (i : Nat) : List (List Car) := (qs.take i).map List.tail ++ qs.drop i
theorem tkq_zero (qs : List (List Car)) : tkq qs 0 = qs := by simp [tkq]
theorem tkq_full (qs : List (List Car)) : tkq qs qs.length = qs.map List.tail := by simp [tkq]
theorem tkq_get {qs : List (List Car)} {i : Nat} {q : List Car} (h : qs[i]? = some q) : (tkq qs i)[i]? = some q := by
  obtain ⟨hi, rfl⟩ := List.getElem?_eq_some_iff.mp h
  have e : ((qs.take i).map List.tail).length = i := by simp; omega
  unfold tkq
  rw [List.getElem?_append_right (by omega), e]
  simp [hi]
theorem tkq_set {qs : List (List Car)} {i : Nat} {q : List Car} (h : qs[i]? = some q) : (tkq qs i).set i q.tail = tkq qs (i + 1) := by
  obtain ⟨hi, rfl⟩ := List.getElem?_eq_some_iff.mp h
  have e : ((qs.take i).map List.tail).length = i := by simp; omega
  unfold tkq
  rw [List.set_append_right _ _ (by omega), e, List.take_succ_eq_append_getElem hi, List.drop_eq_getElem_cons hi, Nat.sub_self, List.set_cons_zero]
  simp only [List.map_append, List.map_cons, List.map_nil, List.append_assoc, List.cons_append, List.nil_append]
theorem take_snoc {qs : List (List Car)} {i : Nat} {q : List Car} (h : qs[i]? = some q) : qs.take (i + 1) = qs.take i ++ [q] := by
  obtain ⟨hi, rfl⟩ := List.getElem?_eq_some_iff.mp h
  exact List.take_succ_eq_append_getElem hi
theorem q_le {qs : List (List Car)} {q : List Car} (h : q ∈ qs) : q.length ≤ qs.flatten.length := by
  induction qs with
  | nil => cases h
  | cons a l ih =>
    rw [List.flatten_cons, List.length_append]
    rcases List.mem_cons.mp h with rfl | h
    · omega
    · have := ih h; omega
section
variable {w : World} {d dp un : Nat} {gd : Option (List Code)} {outer : List Env} {b0 h₀ : Heap} {s : Shared} {news own : List (Addr × Obj)} {gf : List (Addr × Obj) → List (Addr × Obj)} {L : Addr} {m : Str → Option Value} {p : Program} {loose : List Str} {mean : ExcName → Option Value} {mg mb : Str → Option Value}
  {cn : Str} {cs : Scope} {fa0 : Addr} {ccd : Value} {cl : List (Str × Addr)} {x : LA} {Q E : Value → Shared → Prop} {cd : Addr} {oc : Obj} {xs : List LA} {qs : List (List Car)} {f : Nat} {q : List Car}
theorem front_use (B : Below (AR dp un gd outer) b0 outer h₀) (F : Fr h₀ L s.heap m) (X : (hd.heap_1 w.params).In h₀) (N : News h₀ L s.heap news) (T : Top p loose mean mg mb h₀) (hk : cs.kind = .function)
    (hd1 : dp + 1 + 4 < recursionLimit) (hu : un + 3 + 8 * 4 < cLine) (U : TailF own news gf) (LN : LinesO w own cd oc xs qs) (hx : xs[f]? = some x) (hq : qs[f]? = some q) (hcd : h₀.get? cd = some oc) (hl : q.length ≤ 1000)
    (ret : ∀ t own' h' tk', Fr h₀ L h' m → News h₀ L h' (gf own') → LinesO w own' cd oc xs (qs.set f q.tail) → (∀ e ∈ own', ∃ z ∈ own, z.1 = e.1) → Q (.str (S (curP q)) t) { s with heap := h', toks := tk' }) :
    wpAny (model PySem.Challenge.rw_un0024_01.row.prog w) ((AR dp un gd outer).deeper (envX cn cs L fa0 ccd cl)) (call (.ref 49) [.ref x.q]) Q E s := by
  obtain ⟨SX, rfl, rfl, pb, o, PA⟩ := LN.all f x q hx hq
  cases PA with
  | nil =>
    refine tok_use (tok := []) (tail := []) B F X N T hk hd1 hu U SX o hcd .nil (Nat.zero_le _) (fun c hc => nomatch hc) (.inl rfl) fun t own' h' tk' vs' F' N' M hC => ?_
    cases hC
    exact ret t own' h' tk' F' N' (LN.set hx M .nil) M.addr
  | cons a u PA' =>
    refine get_use B F X N T hk (by omega) (by omega) U SX o hcd (by rw [(PathsAre.cons a u PA').len]; exact hl) fun own' h' tk' F' N' M => ?_
    exact ret u own' h' tk' F' N' (LN.set hx M PA') M.addr
end
end Mine
end

section
-- M14
open PySem PySem.W PySem.W.X PySem.Calls PyProof.Rows PyProof.Rows.LCg
set_option Elab.async false
set_option maxRecDepth 100000
set_option maxHeartbeats 8000000
namespace Mine
local macro_rules | `(tactic| k_mem) => `(tactic| first | exact List.Mem.head _ | assumption | (refine' List.Mem.tail _ ?_; k_mem))
local macro_rules | `(tactic| k_all) => `(tactic| first | exact List.forall_mem_nil _ | assumption | (refine' List.forall_mem_cons.mpr ⟨?a, ?b⟩; (case a => k_ne); (case b => k_all)))
local macro_rules | `(tactic| walk_at "truthy str") => `(tactic| (k_here; first | (refine truthyS0 ?_; intro _) | (refine truthyS1 (by assumption) (by assumption) ?_; intro _)))
local macro_rules | `(tactic| walk_at "eval Name") => `(tactic| (k_here; k_dflt (refine' nameX_L ?F ?v ?_ ?a ?b; (case F => k_asm); (case a | b => rfl); (case v => first | assumption | exact (if_neg (by decide)).trans (by assumption) | exact (if_neg (by decide)).trans ((if_neg (by decide)).trans (by assumption))); k_whole)))
local macro_rules | `(tactic| walk_at "eval ListComp") => `(tactic| (k_here; k_dflt (refine gc_ListComp (by k_asm) (by with_unfolding_all rfl) (by decide) (by rfl) (by decide) ?_)))
local macro_rules | `(tactic| walk_at "call ref") => `(tactic| (k_here; (with_reducible show wpAny _ _ (call (Value.ref 192) [Value.str (S (Car.path _)) _]) _ _ _); k_dflt (refine' PCon.use (rank_car _ _ _) ?k1 ?k2 ?k3 ?k4 ?k5 ?k6 ?k7 ?k8 ?_; (case k1 | k2 | k3 | k4 | k5 => k_asm); (case k6 => first | exact rfl | assumption); (case k7 | k8 => omega)); (intro t9 h9 tk9 F9 N9; (try dsimp only); (try k_fold))))
local macro_rules | `(tactic| walk_at "subscriptTail Name Name ref int") => `(tactic| (k_here; k_dflt (refine' item_K ?N ?m ?x ?z ?_; (case N => k_asm); (case m => k_mem); (case x | z => assumption))))
local macro_rules | `(tactic| walk_at "call builtin:list.append") => `(tactic| (k_here; k_dflt (refine' app_K ?F ?N ?U ?z ?_; (case F | N => k_asm); (case U => k_upd); (case z => assumption)); kl_rest))
local macro_rules | `(tactic| walk_at "setItem ref int") => `(tactic| (k_here; k_dflt (refine' set_K ?F ?N ?U ?i ?z ?_; (case F | N => k_asm); (case U => k_upd); (case i | z => assumption)); kl_rest))
local macro_rules | `(tactic| walk_at "exec Assign cons ListComp") => `(tactic| (k_here; k_dflt (refine gc_Assign (by k_asm) rfl (by with_unfolding_all rfl) (by with_unfolding_all rfl) (by decide) (by rfl) (by decide) (by rfl) (by rfl) ?_)))
local macro_rules | `(tactic| walk_at "exec While") => `(tactic| (k_here; k_dflt (refine wpAny_While ?_)))
local macro_rules | `(tactic| walk_at "call ref") => `(tactic| (k_here; (with_reducible show wpAny _ _ (call (Value.ref 49) _) _ _ _); refine hold ?_))
theorem allLt_mem {d : Nat} {l : List (Addr × Obj)} (h : AllLt d l) (p : Addr × Obj) (hp : p ∈ l) : @LT.lt Nat _ p.1 d := by
  induction l with
  | nil => cases hp
  | cons q l ih =>
    rcases List.mem_cons.mp hp with e | hp
    · rw [e]; exact h.1
    · exact ih h.2 hp
theorem truthyL {prog : Program} {w : World} {A : Around} {E : Value → Shared → Prop} {s : Shared} {h₀ : Heap} {L a : Addr} {news : List (Addr × Obj)} {vs : List Value} {b : Bool} {Q : Bool → Shared → Prop} (N : News h₀ L s.heap news) (hm : (a, lst vs) ∈ news) (hz : vs.length ≤ 1000) (e : (!vs.isEmpty) = b)
    (h : ∀ k, Q b { s with toks := k }) : wpAny (model prog w) A (PySem.truthy (.ref a)) Q E s := by
  have hl : s.heap.IsList a vs.toArray := ⟨_, (N _ hm).1, rfl, _, rfl⟩
  refine wpAny_truthy_list hl (by rw [List.size_toArray]; omega) ?_
  rw [List.isEmpty_toArray, e]
  exact h _
local macro_rules | `(tactic| walk_at "truthy ref") => `(tactic| (k_here; k_dflt (refine' truthyL ?N ?m ?z ?e ?_; (case N => k_asm); (case m => k_mem); (case z | e => assumption)); intro _))
local macro_rules | `(tactic| walk_at "call builtin:min") => `(tactic| (k_here; refine hold ?_))
theorem mem_mid {p : Tp} {tl : List Tp} {pre ow : List (Addr × Obj)} {z : Addr × Obj} (h : z ∈ pre ++ ((tl ++ [p]).map tupE ++ ow)) : z ∈ tupE p :: (pre ++ (tl.map tupE ++ ow)) := by
  simp only [List.map_append, List.map_cons, List.map_nil, List.mem_append, List.mem_cons, List.not_mem_nil, or_false] at h ⊢
  rcases h with h | (h | h) | h <;> simp [h]
theorem mem_keepT {tl : List Tp} {pre ow : List (Addr × Obj)} {z : Addr × Obj} (h : z ∈ pre ++ ow) : z ∈ pre ++ (tl.map tupE ++ ow) := by
  simp only [List.mem_append] at h ⊢
  rcases h with h | h <;> simp [h]
def JOut (w : World) (s : Shared) (base : Heap) (L : Addr) (cd : Addr) (oc : Obj) (O Qa Fa : Addr) (c3 : Nat) (own0 : List (Addr × Obj)) (xs : List LA) (qs : List (List Car)) (n : Nat) (s' : Shared) : Prop :=
  ∃ own h k m cur ov fv out c1 c2, s' = { s with heap := h, toks := k } ∧ n = cur.flatten.length ∧ Fr base L h m ∧ m (Str.ofString "queues") = some (.ref Qa) ∧ m (Str.ofString "out") = some (.ref O) ∧ m (Str.ofString "fronts") = some (.ref Fa) ∧
    News base L h ((Fa, listOf (List.toArray fv) c1) :: (O, listOf (List.toArray ov) c2) :: (Qa, listOf (xs.map (fun x : LA => Value.ref x.q)).toArray c3) :: own) ∧ FrontsAre fv cur ∧ LinesO w own cd oc xs (cur.map List.tail) ∧ PathsAre ov out ∧ (∀ rest, Merge cur rest → Merge qs (out ++ rest)) ∧ (∀ e ∈ own, ∃ z ∈ own0, z.1 = e.1) ∧ out.length + n ≤ 8
/-- what goes out -/
def OutRet (s : Shared) (Qa : Addr) (own0 : List (Addr × Obj)) (qs : List (List Car)) (Q : Value → Shared → Prop) : Prop :=
  ∀ (O : Addr) (ov : List Value) (out : List Car) (c : Nat) (h' : Heap) (tk' : Nat), (∀ b o, b ≠ Qa → (∀ q ∈ own0, q.1 ≠ b) → s.heap.get? b = some o → h'.get? b = some o) → h'.get? O = some (listOf ov.toArray c) → s.heap.get? O = none → PathsAre ov out → Merge qs out → Q (.ref O) { s with heap := h', toks := tk' }
theorem out_c (w : World) (Qa : Addr) (c3 : Nat) (own0 : List (Addr × Obj)) (xs : List LA) (qs : List (List Car)) (cd : Addr) (oc : Obj) (dp un : Nat) (gd : Option (List Code)) (outer : List Env) (g : Heap) (s : Shared) (Q E : Value → Shared → Prop) (T : At w 6 dp un gd outer g) (hg : Sub g s.heap)
    (hw : OwnAt g s.heap ((Qa, listOf (xs.map (fun x : LA => Value.ref x.q)).toArray c3) :: own0)) (hQ : ∀ q ∈ own0, q.1 ≠ Qa) (LN : LinesO w own0 cd oc xs qs) (hcd : g.get? cd = some oc) (hl : qs.flatten.length ≤ 8) (hx8 : xs.length ≤ 8)
    (hret : OutRet s Qa own0 qs Q) :
    wpAny (model PySem.Challenge.rw_un0024_01.row.prog w) (AR dp un gd outer) (call (.ref 202) [.ref Qa]) Q E s := by
  w_top off
  have KX := T.K.keeps hg
  revert KX
  k_fill
  intro KX
  refine wpAny_call ?_
  clear KX
  k_dflt (refine' enterPK T hg hw ?k6 ?k7 ?k9 ?kB ?_ ?c5 ?c2 ?c3 ?c4; (case k6 => k_is); (case k7 => k_is); (case k9 => exact BindsTo.of_eq rfl); (case kB => exact locs rfl); (case c5 => decide); (case c2 => exact rfl); (case c3 => exact rfl); (case c4 => exact rfl); k_whole)
  intro L' base h' b0 p loose mean mg mb B' X' T' r1 r2 kg kb F' N'
  (try dsimp only)
  (try k_fold)
  have hcb : base.get? cd = some oc := kg _ _ hcd
  have lens : xs.length = qs.length := LN.len
  k_steps
  rename News _ _ _ _ => N9
  rename Fr _ _ _ _ => F9
  obtain ⟨O, e9⟩ := nameN3 N9
  subst e9
  rename _ ∧ AllLt _ _ => l9
  refine gc_list (fun _ i ys nw => ∃ ow, nw = (O, listOf [].toArray 0) :: (Qa, listOf (xs.map (fun x : LA => Value.ref x.q)).toArray c3) :: ow ∧ FrontsAre ys (qs.take i) ∧ LinesO w ow cd oc xs (tkq qs i) ∧ ∀ e ∈ ow, ∃ z ∈ own0, z.1 = e.1) rfl F9 N9 (by rfl) (by rfl) (.tail _ (.head _)) (by simp; omega) (fun D lD => ⟨own0, rfl, .nil, by rw [tkq_zero]; exact LN, fun e he => ⟨e, he, rfl⟩⟩) (fun D i ys nw hJ => by obtain ⟨ow, rfl, _⟩ := hJ; exact .tail _ (.head _)) ?_ ?_
  · intro i ys nw I oI C oC D m₂ h tk E' hi hB hJ hoC F5 N5 off lI lL lD lC
    obtain ⟨ow, rfl, hF, LN2, had⟩ := hJ
    obtain ⟨xv, hx', hm⟩ := hB
    obtain ⟨x, hx, rfl⟩ : ∃ x, xs[i]? = some x ∧ xv = .ref x.q := by
      rw [List.getElem?_map] at hx'
      cases e : xs[i]? with
      | none => rw [e] at hx'; simp at hx'
      | some x => rw [e] at hx'; exact ⟨x, rfl, by simpa using hx'.symm⟩
    obtain ⟨q, hq⟩ : ∃ q, qs[i]? = some q := ⟨_, List.getElem?_eq_getElem (by rw [← lens]; exact (List.getElem?_eq_some_iff.mp hx).1)⟩
    obtain ⟨SX, ecd, eoc, pb, LOx, PA⟩ := LN2.all i x q hx (tkq_get hq)
    obtain ⟨g1, g2, g3, g4, g5, g6, hmem⟩ := id LOx
    have hix : (x.q, instObj 59 x.d) ∈ ow := hmem _ (.tail _ (.head _))
    have hdx := hmem _ (.tail _ (.tail _ (.head _)))
    dsimp only [lexD, ent] at hdx
    refine gt_none ?_
    clear F9 N9
    k_steps
    unfold Hold
    rename News _ _ _ _ => N6
    rename Fr _ _ _ _ => F6
    have fO : ∀ z ∈ ow, z.1 ≠ O := fun z hz => by obtain ⟨y, hy, e⟩ := had z hz; rw [← e]; exact Nat.ne_of_lt (allLt_mem l9.2 y hy)
    have fQ : ∀ z ∈ ow, z.1 ≠ Qa := fun z hz => by obtain ⟨y, hy, e⟩ := had z hz; rw [← e]; exact hQ y hy
    refine front_use B' F6 X' N6 T' rfl (by omega) (by omega) (.cons (fun z hz => (off z (.tail _ (.tail _ hz))).1) (.cons (fun z hz => (off z (.tail _ (.tail _ hz))).2.1) (.cons (fun z hz => (off z (.tail _ (.tail _ hz))).2.2) (.cons fO (.cons fQ .base))))) LN2 hx (tkq_get hq) hcb (Nat.le_trans (q_le (List.mem_of_getElem? hq)) (by omega)) ?_
    intro t7 own' h7 tk7 F7 N7 LN7 had7
    rw [tkq_set hq] at LN7
    have O7 : ∀ z ∈ (O, listOf [].toArray 0) :: (Qa, listOf (xs.map (fun x : LA => Value.ref x.q)).toArray c3) :: own', z.1 ≠ I ∧ z.1 ≠ C ∧ z.1 ≠ D := fun z hz => by
      rcases List.mem_cons.mp hz with rfl | hz
      · exact off _ (.head _)
      rcases List.mem_cons.mp hz with rfl | hz
      · exact off _ (.tail _ (.head _))
      · obtain ⟨y, hy, e⟩ := had7 z hz
        rw [← e]
        exact off y (.tail _ (.tail _ hy))
    have had8 : ∀ z ∈ own', ∃ y ∈ own0, y.1 = z.1 := fun z hz => by
      obtain ⟨y, hy, e⟩ := had7 z hz
      obtain ⟨y2, hy2, e2⟩ := had y hy
      exact ⟨y2, hy2, e2.trans e⟩
    have hF7 := hF.snoc q t7
    rw [← take_snoc hq] at hF7
    exact ⟨_, _, _, rfl, F7, N7, off1 O7, own', rfl, hF7, LN7, had8⟩
  · intro Fa fv nw h tk F5 N5 lD off hJ
    obtain ⟨ow, rfl, hF, LN2, had⟩ := hJ
    have eL : (xs.map (fun x : LA => Value.ref x.q)).length = qs.length := by rw [List.length_map, lens]
    rw [eL, List.take_length] at hF
    rw [eL, tkq_full] at LN2
    have lF1 : @LT.lt Nat _ O Fa := lD _ (.head _)
    have lF2 : @LT.lt Nat _ Qa Fa := lD _ (.tail _ (.head _))
    have lF3 : ∀ z ∈ own0, @LT.lt Nat _ z.1 Fa := fun z hz => lD _ (.tail _ (.tail _ hz))
    clear F9 N9
    k_steps
    rename News _ _ _ _ => N6
    rename Fr _ _ _ _ => F6
    refine whileA (JOut w s base L' cd oc O Qa Fa c3 own0 xs qs) ?_ qs.flatten.length ⟨ow, _, _, _, qs, [], fv, [], _, _, rfl, rfl, F6, rfl, rfl, rfl, N6, hF, LN2, .nil, fun rest hr => hr, had, by simpa using hl⟩
    clear F6 N6 hF LN2 had off lD
    intro nn s9 hJ
    obtain ⟨ow, h, k, m, cur, ov, fv, out, c1, c2, rfl, rfl, F2, m1, m2, m3, N2, hF, LN2, hO, hM, had, hl8⟩ := hJ
    have fvl : fv.length ≤ 8 := by rw [hF.len, ← List.length_map (as := cur) (f := List.tail), ← LN2.len]; exact hx8
    have fvl' : fv.length ≤ 1000 := by omega
    k_steps
    refine gc_list (fun _ i ys nw => nw = (Fa, listOf (List.toArray fv) c1) :: (O, listOf (List.toArray ov) c2) :: (Qa, listOf (xs.map (fun x : LA => Value.ref x.q)).toArray c3) :: ow ∧ ys.length = cnt cur i) rfl F2 N2 (by rfl) (by rfl) (.head _) fvl' (fun D lD => ⟨rfl, rfl⟩) (fun D i ys nw hJ => by obtain ⟨rfl, _⟩ := hJ; exact .head _) ?_ ?_
    · intro i ys nw I oI C oC D m₂ h tk E' hi hB hJ hoC F5 N5 off lI lL lD lC
      obtain ⟨rfl, hys⟩ := hJ
      obtain ⟨xv, hx', hm⟩ := hB
      obtain ⟨q, t, hq, rfl⟩ := hF.get i xv hx'
      have hc := cnt_succ hq
      refine gt_one ?_
      clear F2 N2
      cases q with
      | nil =>
        dsimp only [curP] at hm
        rw [if_pos rfl] at hc
        k_steps
        rename News _ _ _ _ => N6
        rename Fr _ _ _ _ => F6
        exact ⟨_, _, _, rfl, F6, N6, off1 off, rfl, by rw [hc]; exact hys⟩
      | cons a tq =>
        dsimp only [curP] at hm
        rw [if_neg (by simp)] at hc
        have pne := a.path_ne
        have pl : a.path.length ≤ 1000 := Nat.le_trans a.path_len (by decide)
        k_steps
        rename News _ _ _ _ => N6
        rename Fr _ _ _ _ => F6
        exact ⟨_, _, _, rfl, F6, N6, off1 off, rfl, by rw [hc, List.length_append, hys]; rfl⟩
    · intro D ys nw h tk F5 N5 lD off hJ
      obtain ⟨rfl, hys⟩ := hJ
      rw [hF.len] at hys
      have ysl : ys.length ≤ 1000 := by rw [hys]; exact Nat.le_trans (List.length_filter_le _ _) (by rw [List.length_take, hF.len.symm]; omega)
      clear F2 N2
      by_cases hz : cnt cur cur.length = 0
      · have ye : (!ys.isEmpty) = false := by cases ys with | nil => rfl | cons a l => simp at hys; omega
        k_steps
        have keepO : ∀ b o, b ≠ Qa → (∀ q ∈ own0, q.1 ≠ b) → s.heap.get? b = some o → base.get? b = some o := fun b o n1 n2 e => kb b o (fun hm => by
          rcases List.mem_cons.mp hm with hm | hm
          · exact n1 hm
          · obtain ⟨z, hz', e'⟩ := List.mem_map.mp hm
            exact n2 z hz' e') e
        have hO0 : s.heap.get? O = none := by
          cases e : s.heap.get? O with
          | none => rfl
          | some o =>
            have := keepO O o (Nat.ne_of_gt l9.1) (fun q hq => Nat.ne_of_lt (allLt_mem l9.2 q hq)) e
            rw [(N5 (O, _) (.tail _ (.tail _ (.head _)))).2.2] at this; cases this
        exact hret O ov out c2 _ _ (fun b o n1 n2 e => F5.keep b o (keepO b o n1 n2 e)) (N5 _ (.tail _ (.tail _ (.head _)))).1 hO0 hO (by simpa using hM [] (.done (cnt_none hz)))
      · have ye : (!ys.isEmpty) = true := by cases ys with | nil => simp at hys; omega | cons a l => rfl
        have lD1 : @LT.lt Nat _ Fa D := lD _ (.head _)
        have lD2 : @LT.lt Nat _ O D := lD _ (.tail _ (.head _))
        have lD3 : @LT.lt Nat _ Qa D := lD _ (.tail _ (.tail _ (.head _)))
        k_steps
        have N6 : News base L' h ((Fa, listOf (List.toArray fv) c1) :: (O, listOf (List.toArray ov) c2) :: (Qa, listOf (xs.map (fun x : LA => Value.ref x.q)).toArray c3) :: ow) := fun q hq => N5 q (.tail _ hq)
        refine gc_enum (fun D i ys nw => ∃ tl : List Tp, nw = (Fa, listOf (List.toArray fv) c1) :: (O, listOf (List.toArray ov) c2) :: (Qa, listOf (xs.map (fun x : LA => Value.ref x.q)).toArray c3) :: (tl.map tupE ++ ow) ∧ ys = tl.map (fun p : Tp => Value.ref p.1) ∧ PairsAre tl (prs cur i) ∧ ∀ p ∈ tl, @LT.lt Nat _ D p.1) rfl F5 N6 (by rfl) (by rfl) (by rfl) (by decide) (.head _) fvl' (fun D lD => ⟨[], rfl, rfl, .nil, fun p hp => nomatch hp⟩) (fun D i ys nw hJ => by obtain ⟨tl, rfl, _⟩ := hJ; exact .head _) ?_ ?_
        · intro i ys nw e oe it oi C oC D3 m₂ h tk E' hi hB hJ hoC F7 N7 off7 lI lL lit le lC
          obtain ⟨tl, rfl, rfl, hP, htl⟩ := hJ
          obtain ⟨t, xv, hx', hmk, hm⟩ := hB
          obtain ⟨q, t2, hq, rfl⟩ := hF.get i xv hx'
          refine gt_one ?_
          clear F5 N5 N6
          cases q with
          | nil =>
            dsimp only [curP] at hm
            have hc := prs_nil hq
            k_steps
            rename News _ _ _ _ => N6
            rename Fr _ _ _ _ => F6
            exact ⟨_, _, _, rfl, F6, N6, off2 off7, tl, rfl, rfl, by rw [hc]; exact hP, htl⟩
          | cons a tq =>
            dsimp only [curP] at hm
            have hc := prs_cons hq
            have pne := a.path_ne
            have pl : a.path.length ≤ 1000 := Nat.le_trans a.path_len (by decide)
            k_steps
            rename News _ _ _ _ => N6
            rename Fr _ _ _ _ => F6
            obtain ⟨T2, e6⟩ := nameN3 N6
            subst e6
            have lT : @LT.lt Nat _ C T2 := by omega
            refine ⟨_, _, (Fa, listOf (List.toArray fv) c1) :: (O, listOf (List.toArray ov) c2) :: (Qa, listOf (xs.map (fun x : LA => Value.ref x.q)).toArray c3) :: ((tl ++ [(T2, Value.int (a.r : Int) _, Value.int (i : Int) _)]).map tupE ++ ow), rfl, F6, fun z hz => N6 z (mem_mid (pre := [(e, oe), (it, oi), (C, oC), (D3, _), (Fa, _), (O, _), (Qa, _)]) hz), off2 fun z hz => ?_, tl ++ [(T2, _, _)], rfl, by simp, by rw [hc]; exact hP.snoc T2 a.r i _ _, fun z hz => ?_⟩
            · rcases List.mem_cons.mp (mem_mid (pre := [(Fa, _), (O, _), (Qa, _)]) hz) with rfl | hz
              · exact ⟨Nat.ne_of_gt (by show @LT.lt Nat _ e T2; omega), Nat.ne_of_gt (by show @LT.lt Nat _ it T2; omega), Nat.ne_of_gt lT, Nat.ne_of_gt (by show @LT.lt Nat _ D3 T2; omega)⟩
              · exact off7 z hz
            · rcases List.mem_append.mp hz with hz | hz
              · exact htl z hz
              · rw [List.mem_singleton.mp hz]; show @LT.lt Nat _ D3 T2; omega
        · intro D2 ys2 nw h9 tk9 F9 N9 lD2 off9 hJ
          obtain ⟨tl, rfl, rfl, hP, htl⟩ := hJ
          have lE1 : @LT.lt Nat _ Fa D2 := lD2 _ (.head _)
          have lE2 : @LT.lt Nat _ O D2 := lD2 _ (.tail _ (.head _))
          have lE3 : @LT.lt Nat _ Qa D2 := lD2 _ (.tail _ (.tail _ (.head _)))
          rw [hF.len] at hP
          clear F5 N5 N6
          k_steps
          unfold Hold
          refine min_tups rfl ?_ F9 N9 (.head _) (fun p hp => .tail _ (.tail _ (.tail _ (.tail _ (List.mem_append_left _ (List.mem_map_of_mem hp)))))) hP (by rw [hP.len]; exact prs_ne (cnt_some hz)) ?_
          · show un + 3 + 1 < cLine
            omega
          intro im p h10 tk10 hpi hmin F10 N10
          obtain ⟨r, kk, t1, u1, hpr, hpe⟩ := hP.get im p hpi
          obtain ⟨a, tq, hk, rfl, hle⟩ := prs_min hpr hmin
          have hT : (p.1, ({ cls := .type "tuple", data := .seq #[Value.int (a.r : Int) t1, Value.int (kk : Int) u1] } : Obj)) ∈ tl.map tupE ++ ow := by
            have h1 : tupE p ∈ tl.map tupE ++ ow := List.mem_append_left _ (List.mem_map_of_mem (List.mem_of_getElem? hpi))
            rw [hpe] at h1
            exact h1
          have kl : kk < cur.length := (List.getElem?_eq_some_iff.mp hk).1
          have kl' : kk < fv.length := by rw [hF.len]; exact kl
          have kl2 : kk ≤ 1000 := by omega
          obtain ⟨vf, hfk⟩ : ∃ v, fv[kk]? = some v := ⟨_, List.getElem?_eq_getElem kl'⟩
          obtain ⟨q', tf, hq', rfl⟩ := hF.get kk vf hfk
          rw [hk] at hq'
          cases hq'
          dsimp only [curP] at hfk
          have hkt : (cur.map List.tail)[kk]? = some tq := by rw [List.getElem?_map, hk]; rfl
          have kl3 : kk < xs.length := by rw [LN2.len, List.length_map]; exact kl
          obtain ⟨x, hx⟩ : ∃ x, xs[kk]? = some x := ⟨_, List.getElem?_eq_getElem kl3⟩
          have hqx : (xs.map (fun x : LA => Value.ref x.q))[kk]? = some (Value.ref x.q) := by rw [List.getElem?_map, hx]; rfl
          have ovl : ov.length ≤ 1000 := by rw [hO.len]; omega
          obtain ⟨SX, ecd, eoc, pb, LOx, PA⟩ := LN2.all kk x tq hx hkt
          obtain ⟨g1, g2, g3, g4, g5, g6, hmem⟩ := id LOx
          have hix' : (x.q, instObj 59 x.d) ∈ ow := hmem _ (.tail _ (.head _))
          have hdx' := hmem _ (.tail _ (.tail _ (.head _)))
          dsimp only [lexD, ent] at hdx'
          have hix := List.mem_append_right (tl.map tupE) hix'
          have hdx := List.mem_append_right (tl.map tupE) hdx'
          clear F9 N9 hix' hdx'
          generalize p.1 = Tp1 at hT ⊢
          have owO : ∀ z ∈ ow, z.1 ≠ O := fun z hz => by obtain ⟨y, hy, e⟩ := had z hz; rw [← e]; exact Nat.ne_of_lt (allLt_mem l9.2 y hy)
          have owQ : ∀ z ∈ ow, z.1 ≠ Qa := fun z hz => by obtain ⟨y, hy, e⟩ := had z hz; rw [← e]; exact hQ y hy
          have owF : ∀ z ∈ ow, z.1 ≠ Fa := fun z hz => by obtain ⟨y, hy, e⟩ := had z hz; rw [← e]; exact Nat.ne_of_lt (lF3 y hy)
          have tlO : ∀ z ∈ tl.map tupE ++ ow, z.1 ≠ O := fun z hz => by
            rcases List.mem_append.mp hz with hz | hz
            · obtain ⟨y, hy, rfl⟩ := List.mem_map.mp hz
              exact Nat.ne_of_gt (Nat.lt_trans lE2 (htl y hy))
            · exact owO z hz
          have tlF : ∀ z ∈ tl.map tupE ++ ow, z.1 ≠ Fa := fun z hz => by
            rcases List.mem_append.mp hz with hz | hz
            · obtain ⟨y, hy, rfl⟩ := List.mem_map.mp hz
              exact Nat.ne_of_gt (Nat.lt_trans lE1 (htl y hy))
            · exact owF z hz
          k_steps
          unfold Hold
          rename News _ _ _ _ => N11
          rename Fr _ _ _ _ => F11
          have N12 : News base L' _ ((Fa, listOf (List.toArray fv) c1) :: (O, listOf (List.toArray (ov ++ [Value.str (S a.path) tf])) (c2 + 1)) :: (Qa, listOf (xs.map (fun x : LA => Value.ref x.q)).toArray c3) :: ow) := fun q hq => N11 q (.tail _ (mem_keepT (pre := [(Fa, _), (O, _), (Qa, _)]) hq))
          clear N11
          refine front_use B' F11 X' N12 T' rfl (by omega) (by omega) (.cons owF (.cons owO (.cons owQ .base))) LN2 hx hkt hcb (by have h2 : tq.length + 1 ≤ cur.flatten.length := q_le (List.mem_of_getElem? hk); omega) ?_
          intro t7 own' h7 tk7 F13 N13 LN7 had7
          clear F11 N12
          have had8 : ∀ z ∈ own', ∃ y ∈ own0, y.1 = z.1 := fun z hz => by
            obtain ⟨y, hy, e⟩ := had7 z hz
            obtain ⟨y2, hy2, e2⟩ := had y hy
            exact ⟨y2, hy2, e2.trans e⟩
          have owF2 : ∀ z ∈ own', z.1 ≠ Fa := fun z hz => by obtain ⟨y, hy, e⟩ := had8 z hz; rw [← e]; exact Nat.ne_of_lt (lF3 y hy)
          k_steps
          rename News _ _ _ _ => N14
          rename Fr _ _ _ _ => F14
          have hfl := flat_set hk
          refine ⟨(cur.set kk tq).flatten.length, by omega, own', _, _, _, cur.set kk tq, _, _, out ++ [a], _, _, rfl, rfl, F14, ?_, ?_, ?_, N14, hF.set kk tq t7, by rw [List.map_set]; exact LN7, hO.snoc a tf, fun rest hr => ?_, had8, by rw [List.length_append]; show out.length + 1 + _ ≤ 8; omega⟩
          · exact (if_neg (by decide)).trans ((if_neg (by decide)).trans m1)
          · exact (if_neg (by decide)).trans ((if_neg (by decide)).trans m2)
          · exact (if_neg (by decide)).trans ((if_neg (by decide)).trans m3)
          · have := hM (a :: rest) (Merge.step hk hle hr)
            simpa using this
end Mine
end

section
-- O8
open PySem PySem.W PySem.W.X PySem.Calls PyProof.Rows PySem.Builtin.Str
set_option Elab.async false
set_option maxRecDepth 100000
set_option maxHeartbeats 8000000
namespace Mine
theorem oct_text (c : Percent) (h1 : c.alt = false) (h2 : c.type = 111) (h3 : c.prec = none) {n : Int} (hn : 0 ≤ n) (d : List Nat) : percentInt c (decide (n < 0)) d = d := by
  have hneg : decide (n < 0) = false := decide_eq_false (by omega)
  unfold percentInt
  simp [h1, h2, h3, hneg]
theorem after_oct {M : Model} {A : Around} {E : Value → Shared → Prop} {s : Shared} {l : List Nat} {p : List Value} {r : List Nat} {f : Nat → List Value × Writer × List Nat → Sem (ForInStep (List Value × Writer × List Nat))} {Q : List Value × Writer × List Nat → Shared → Prop}
    {w : Writer} {N : Nat} {o : Option Value} {c : Percent} {n : Int} (g : KPc.Good w PySem.Str.empty N) (h1 : c.alt = false) (h2 : c.type = 111) (h3 : c.prec = none) (hn : 0 ≤ n) (hm : n < 10 ^ 10) (ho : o = none)
    (h : ∀ w', KPc.Good w' (S (octL n.natAbs)) (N + 20) → wpAny M A (forIn l (p, w', r) f) Q E s) :
    wpAny M A (forIn l (p, w.add ⟨(percentInt c (decide (n < 0)) ((Nat.toDigits 8 n.natAbs).map Char.toNat)).toArray⟩ o, r) f) Q E s := by
  rw [oct_text c h1 h2 h3 hn]
  refine KPc.after_add0 (y := S (octL n.natAbs)) g rfl (KPc.obj_none ho) fun w' g' => h w' (KPc.good_mono g' (Nat.add_le_add_left ?_ _))
  rw [S_len]
  exact octL_len (by decide) (by omega)
local macro_rules | `(tactic| kpc_piece) => `(tactic| (refine after_oct (by kpc_g) rfl rfl rfl (by with_reducible assumption) (by with_reducible assumption) (by kpc_none) ?_; intro _ _))
theorem mod_oct {prog : Program} {w : World} {A : Around} {E : Value → Shared → Prop} {s : Shared} {n : Int} {t u : Tok} {Q : Value → Shared → Prop} (hn0 : 0 ≤ n) (hn1 : n < 10 ^ 10) (h : ∀ t' k, Q (.str (S (octL n.natAbs)) t') { s with toks := k }) :
    wpAny (model prog w) A (binaryOp .Mod (.str (Str.ofString "%o") t) (.int n u)) Q E s := by
  refine KPc.mod_int (T := fun i => S (octL i.natAbs)) (X' := ⟨#[37, 111]⟩) (by decide) hn0 hn1 ?_ h
  kpc_run
end Mine
end

section
-- K1
open PySem PySem.W PySem.W.X PySem.Calls PyProof.Rows
set_option Elab.async false
namespace Mine
def modeOf (k r : Nat) : Nat := r + if k % 2 = 0 then 32768 else 16384
theorem bitAnd_nat (a b : Nat) : Builtin.bitAnd (a : Int) (b : Int) = ((a &&& b : Nat) : Int) := by
  unfold Builtin.bitAnd
  simp
theorem mode_rk {k r : Nat} (hr : r < 4096) : Builtin.bitAnd ((modeOf k r : Nat) : Int) 4095 = (r : Int) := by
  rw [show (4095 : Int) = ((2 ^ 12 - 1 : Nat) : Int) from rfl, bitAnd_nat, Nat.and_two_pow_sub_one_eq_mod]
  unfold modeOf
  split <;> omega
def carOf (k r : Nat) (hk : k < 8) (hr : r < 4096) : Car where
  o := octL (modeOf k r)
  c := [48 + k]
  r := r
  nm := ⟨octL_oct _, octL_ne _, fun c hc => by rw [List.mem_singleton.mp hc]; omega, by simp, octL_len (by decide) (by unfold modeOf; split <;> omega), by simp⟩
  rk := by rw [octL_val]; exact mode_rk hr
/-- the cars of the ranks, from place i on -/
def carsOf : (rs : List Nat) → (i : Nat) → i + rs.length ≤ 8 → (∀ r ∈ rs, r < 4096) → List Car
  | [], _, _, _ => []
  | r :: rs, i, h, hr => carOf i r (by simp at h; omega) (hr r (.head _)) :: carsOf rs (i + 1) (by simp at h; omega) (fun x hx => hr x (.tail _ hx))
theorem carsOf_len : ∀ (rs : List Nat) (i : Nat) (h : i + rs.length ≤ 8) (hr : ∀ r ∈ rs, r < 4096), (carsOf rs i h hr).length = rs.length
  | [], _, _, _ => rfl
  | r :: rs, i, h, hr => by simp [carsOf, carsOf_len rs]
theorem carsOf_r : ∀ (rs : List Nat) (i : Nat) (h : i + rs.length ≤ 8) (hr : ∀ r ∈ rs, r < 4096), (carsOf rs i h hr).map (·.r) = rs
  | [], _, _, _ => rfl
  | r :: rs, i, h, hr => by simp [carsOf, carOf, carsOf_r rs]
theorem carsOf_ix : ∀ (rs : List Nat) (i : Nat) (h : i + rs.length ≤ 8) (hr : ∀ r ∈ rs, r < 4096) (j : Nat) (a : Car), (carsOf rs i h hr)[j]? = some a → a.ix = 48 + i + j ∧ a.o = octL (modeOf (i + j) (rs.getD j 0)) ∧ a.c = [48 + (i + j)] ∧ rs[j]? = some a.r
  | [], _, _, _, j, a, e => by simp [carsOf] at e
  | r :: rs, i, h, hr, 0, a, e => by
    simp [carsOf] at e
    subst e
    simp [carOf, Car.ix]
  | r :: rs, i, h, hr, j + 1, a, e => by
    have e' : (carsOf rs (i + 1) (by simp at h; omega) (fun x hx => hr x (.tail _ hx)))[j]? = some a := by simpa [carsOf] using e
    obtain ⟨h1, h2, h3, h4⟩ := carsOf_ix rs (i + 1) _ _ j a e'
    refine ⟨by omega, ?_, ?_, by simpa using h4⟩
    · rw [h2]; simp [show i + 1 + j = i + (j + 1) by omega]
    · rw [h3, show i + 1 + j = i + (j + 1) by omega]
theorem carsOf_at : ∀ (rs : List Nat) (i : Nat) (h : i + rs.length ≤ 8) (hr : ∀ r ∈ rs, r < 4096) (j r : Nat), rs[j]? = some r → ∃ hk hr', (carsOf rs i h hr)[j]? = some (carOf (i + j) r hk hr')
  | [], _, _, _, j, r, e => by simp at e
  | x :: rs, i, h, hr, 0, r, e => by
    simp at e
    subst e
    exact ⟨by simp at h; omega, hr x (.head _), by simp [carsOf]⟩
  | x :: rs, i, h, hr, j + 1, r, e => by
    obtain ⟨hk, hr', e'⟩ := carsOf_at rs (i + 1) (by simp at h; omega) (fun x hx => hr x (.tail _ hx)) j r (by simpa using e)
    have e2 : i + 1 + j = i + (j + 1) := by omega
    refine ⟨by omega, hr', ?_⟩
    simp only [carsOf, List.getElem?_cons_succ, e']
    congr 1
    congr 1
theorem carsOf_at0 (rs : List Nat) (h : 0 + rs.length ≤ 8) (hr : ∀ r ∈ rs, r < 4096) (j r : Nat) (e : rs[j]? = some r) (hk : j < 8) (hr' : r < 4096) : (carsOf rs 0 h hr)[j]? = some (carOf j r hk hr') := by
  obtain ⟨hk2, hr2, e2⟩ := carsOf_at rs 0 h hr j r e
  rw [e2]
  congr 1
  congr 1
  omega
theorem carsOf_pw (rs : List Nat) (h : 0 + rs.length ≤ 8) (hr : ∀ r ∈ rs, r < 4096) : (carsOf rs 0 h hr).Pairwise (fun a b => a.ix < b.ix) := by
  rw [List.pairwise_iff_getElem]
  intro i j hi hj hij
  have h1 := (carsOf_ix rs 0 h hr i _ (List.getElem?_eq_getElem hi)).1
  have h2 := (carsOf_ix rs 0 h hr j _ (List.getElem?_eq_getElem hj)).1
  omega
theorem IntsAre.get {vs : List Value} {l : List Int} (h : IntsAre vs l) : ∀ (i : Nat) (v : Value), vs[i]? = some v → ∃ n t, l[i]? = some n ∧ v = .int n t := by
  induction h with
  | nil => intro i v e; simp at e
  | cons n t h ih =>
    intro i v e
    cases i with
    | zero => simp at e; exact ⟨n, t, by simp, e.symm⟩
    | succ i => simpa using ih i v (by simpa using e)
theorem PathsAre.get {vs : List Value} {l : List Car} (h : PathsAre vs l) : ∀ (i : Nat) (v : Value), vs[i]? = some v → ∃ a t, l[i]? = some a ∧ v = .str (S a.path) t := by
  induction h with
  | nil => intro i v e; simp at e
  | cons a t h ih =>
    intro i v e
    cases i with
    | zero => simp at e; exact ⟨a, t, by simp, e.symm⟩
    | succ i => simpa using ih i v (by simpa using e)
/-- the ranks of the ints -/
def rksOf (is : List Int) : List Nat := is.map fun x => (x.fmod 4096).toNat
theorem rksOf_lt (is : List Int) : ∀ r ∈ rksOf is, r < 4096 := fun r hr => by
  obtain ⟨x, _, rfl⟩ := List.mem_map.mp hr
  have := Int.fmod_lt_of_pos x (b := 4096) (by decide)
  have := Int.fmod_nonneg_of_pos x (b := 4096) (by decide)
  omega
theorem rk_is (x : Int) : (((x.fmod 4096).toNat : Nat) : Int) = x.fmod 4096 := Int.toNat_of_nonneg (Int.fmod_nonneg_of_pos x (by decide))
theorem take_one {α : Type} {l : List α} {i : Nat} {x : α} (h : l[i]? = some x) : l.take (i + 1) = l.take i ++ [x] := by
  obtain ⟨hi, rfl⟩ := List.getElem?_eq_some_iff.mp h
  exact List.take_succ_eq_append_getElem hi
theorem str_digit : ∀ i : Nat, i < 8 → Str.ofString (toString ((i : Nat) : Int)) = S [48 + i] := by decide
end Mine
end

section
-- C3
open PySem PySem.W PySem.W.X PySem.Calls PyProof.Rows PyProof.Rows.LCg
set_option Elab.async false
set_option maxRecDepth 100000
set_option maxHeartbeats 8000000
namespace Mine
/-- a turn's end where the ledger stands -/
def GEnd0 (h₀ : Heap) (L : Addr) (m : Str → Option Value) (s : Shared) (its : List (Addr × Obj)) (C : Addr) (oC : Obj) (D : Addr) (oD : Obj) (news : List (Addr × Obj)) (rest : Value → Prop) (y : Value) (s₂ : Shared) : Prop :=
  ∃ h' tk, s₂ = { s with heap := h', toks := tk } ∧ Fr h₀ L h' m ∧ News h₀ L h' (its ++ (C, oC) :: (D, oD) :: news) ∧ rest y
section
variable {prog : Program} {w : World} {A : Around} {E : Value → Shared → Prop} {s : Shared} {h₀ : Heap} {L : Addr} {m : Str → Option Value} {env : Env}
theorem GTest.mono {ifs : List Expr} {elt : Expr} {P1 P0 P1' P0' : Value → Shared → Prop} (h : GTest prog w A ifs elt env P1 P0 E s) (h1 : ∀ y s, P1 y s → P1' y s) (h0 : ∀ y s, P0 y s → P0' y s) : GTest prog w A ifs elt env P1' P0' E s :=
  wpAny_mono h (fun ok s' q => by
    cases ok with
    | false => simp only [Bool.false_eq_true, if_false] at q ⊢; exact h0 _ _ q
    | true => simp only [if_true] at q ⊢; exact wpAny_mono q h1 fun _ _ e => e) fun _ _ e => e
def GT1f (prog : Program) (w : World) (A : Around) (h₀ : Heap) (L : Addr) (m : Str → Option Value) (env : Env) (ifs : List Expr) (elt : Expr) (scope : Scope) (cl : List (Str × Addr)) (s : Shared) (n : Nat) (news : List (Addr × Obj)) (Bd : Nat → (Str → Option Value) → Prop) (J : Nat → List Value → Prop) : Prop :=
  ∀ (i : Nat) (ys : List Value) (I : Nat) (oI : Obj) (C : Nat) (oC : Obj) (D : Nat) (m₂ : Str → Option Value) (h : Heap) (tk : Nat) (E' : Value → Shared → Prop), i < n → Bd i m₂ → J i ys → NsObj oC m₂ → Fr h₀ L h m →
      News h₀ L h ((I, oI) :: (C, oC) :: (D, lst ys) :: news) → (∀ p ∈ news, @LT.lt Nat _ p.1 I) → L < I → I < D → D < C →
      GTest prog w A ifs elt (compEnvC scope cl C env) (GEnd0 h₀ L m s [(I, oI)] C oC D (lst ys) news fun y => J (i + 1) (ys ++ [y])) (GEnd0 h₀ L m s [(I, oI)] C oC D (lst ys) news fun _ => J (i + 1) ys) E' { s with heap := h, toks := tk }
theorem GT1f.turn {ifs : List Expr} {elt : Expr} {scope : Scope} {cl : List (Str × Addr)} {n : Nat} {news : List (Addr × Obj)} {Bd : Nat → (Str → Option Value) → Prop} {J : Nat → List Value → Prop} (R : GT1f prog w A h₀ L m env ifs elt scope cl s n news Bd J) :
    GT1 prog w A h₀ L m env ifs elt scope cl s n news Bd (fun _ i ys nw => nw = news ∧ J i ys) := by
  intro i ys nw I oI C oC D m₂ h tk E' hi hB hJ hoC F N off lI lL lD lC
  obtain ⟨rfl, hJ⟩ := hJ
  refine GTest.mono (R i ys I oI C oC D m₂ h tk E' hi hB hJ hoC F N lI lL lD lC) (fun y s' q => ?_) fun y s' q => ?_
  · obtain ⟨h', tk', e, F', N', r⟩ := q
    exact ⟨h', tk', _, e, F', N', off1 off, rfl, r⟩
  · obtain ⟨h', tk', e, F', N', r⟩ := q
    exact ⟨h', tk', _, e, F', N', off1 off, rfl, r⟩
def GT2f (prog : Program) (w : World) (A : Around) (h₀ : Heap) (L : Addr) (m : Str → Option Value) (env : Env) (ifs : List Expr) (elt : Expr) (scope : Scope) (cl : List (Str × Addr)) (s : Shared) (n : Nat) (news : List (Addr × Obj)) (Bd : Nat → (Str → Option Value) → Prop) (J : Nat → List Value → Prop) : Prop :=
  ∀ (i : Nat) (ys : List Value) (e : Nat) (oe : Obj) (it : Nat) (oi : Obj) (C : Nat) (oC : Obj) (D : Nat) (m₂ : Str → Option Value) (h : Heap) (tk : Nat) (E' : Value → Shared → Prop), i < n → Bd i m₂ → J i ys → NsObj oC m₂ → Fr h₀ L h m →
      News h₀ L h ((e, oe) :: (it, oi) :: (C, oC) :: (D, lst ys) :: news) → (∀ p ∈ news, @LT.lt Nat _ p.1 it) → L < it → it < e → e < D → D < C →
      GTest prog w A ifs elt (compEnvC scope cl C env) (GEnd0 h₀ L m s [(e, oe), (it, oi)] C oC D (lst ys) news fun y => J (i + 1) (ys ++ [y])) (GEnd0 h₀ L m s [(e, oe), (it, oi)] C oC D (lst ys) news fun _ => J (i + 1) ys) E' { s with heap := h, toks := tk }
theorem GT2f.turn {ifs : List Expr} {elt : Expr} {scope : Scope} {cl : List (Str × Addr)} {n : Nat} {news : List (Addr × Obj)} {Bd : Nat → (Str → Option Value) → Prop} {J : Nat → List Value → Prop} (R : GT2f prog w A h₀ L m env ifs elt scope cl s n news Bd J) :
    GT2 prog w A h₀ L m env ifs elt scope cl s n news Bd (fun _ i ys nw => nw = news ∧ J i ys) := by
  intro i ys nw e oe it oi C oC D m₂ h tk E' hi hB hJ hoC F N off lI lL lit le lC
  obtain ⟨rfl, hJ⟩ := hJ
  refine GTest.mono (R i ys e oe it oi C oC D m₂ h tk E' hi hB hJ hoC F N lI lL lit le lC) (fun y s' q => ?_) fun y s' q => ?_
  · obtain ⟨h', tk', e, F', N', r⟩ := q
    exact ⟨h', tk', _, e, F', N', off2 off, rfl, r⟩
  · obtain ⟨h', tk', e, F', N', r⟩ := q
    exact ⟨h', tk', _, e, F', N', off2 off, rfl, r⟩
theorem gc_list0 {mf : Addr → Str → Option Value} {ifs : List Expr} {elt : PySem.Expr} {a : Str} {pa : Pos} {scope : Scope} {cl : List (Str × Addr)} {Q : Value → Shared → Prop} {l c : Nat} {vs : List Value} {news : List (Addr × Obj)} (J : Nat → List Value → Prop)
    (hh : A.handled = none) (F : Fr h₀ L s.heap m) (N : News h₀ L s.heap news) (hkind : scope.kind = .function) (hxa : scope.names.lookup a = some .local)
    (hl : (l, listOf vs.toArray c) ∈ news) (hsz : vs.length ≤ 1000) (J0 : J 0 [])
    (R : GT1f prog w A h₀ L m env ifs elt scope cl s vs.length news (fun i m => ∃ x, vs[i]? = some x ∧ m a = some x) J)
    (fin : ∀ (D : Nat) ys h tk, Fr h₀ L h (mf D) → News h₀ L h ((D, lst ys) :: news) → (∀ p ∈ news, @LT.lt Nat _ p.1 D) → J vs.length ys → Q (.ref D) { s with heap := h, toks := tk }) :
    GSrc prog w A h₀ L m mf (fun D ys nw h => News h₀ L h ((D, lst ys) :: nw)) [] env ifs elt (.Name a pa) scope cl Q E (.ref l) s :=
  gc_list (fun _ i ys nw => nw = news ∧ J i ys) hh F N hkind hxa hl hsz (fun D _ => ⟨rfl, J0⟩) (fun D i ys nw hJ => by rw [hJ.1]; exact hl) R.turn fun D ys nw h tk F' N' lD _ hJ => by obtain ⟨rfl, hJ⟩ := hJ; exact fin D ys h tk F' N' lD hJ
theorem gc_range0 {mf : Addr → Str → Option Value} {ifs : List Expr} {elt : PySem.Expr} {a : Str} {pa : Pos} {scope : Scope} {cl : List (Str × Addr)} {Q : Value → Shared → Prop} {n : Nat} {t : Tok} {news : List (Addr × Obj)} (J : Nat → List Value → Prop)
    (hh : A.handled = none) (F : Fr h₀ L s.heap m) (N : News h₀ L s.heap news) (hkind : scope.kind = .function) (hxa : scope.names.lookup a = some .local)
    (hsz : n ≤ 1000) (J0 : J 0 [])
    (R : GT1f prog w A h₀ L m env ifs elt scope cl s n news (fun i m => ∃ t : Tok, m a = some (.int (i : Int) t)) J)
    (fin : ∀ (D : Nat) ys h tk, Fr h₀ L h (mf D) → News h₀ L h ((D, lst ys) :: news) → (∀ p ∈ news, @LT.lt Nat _ p.1 D) → J n ys → Q (.ref D) { s with heap := h, toks := tk }) :
    wpAny (model prog w) A (call (.type "range") [.int (n : Int) t]) (GSrc prog w A h₀ L m mf (fun D ys nw h => News h₀ L h ((D, lst ys) :: nw)) [] env ifs elt (.Name a pa) scope cl Q E) E s :=
  gc_range (fun _ i ys nw => nw = news ∧ J i ys) hh F N hkind hxa hsz (fun D _ => ⟨rfl, J0⟩) R.turn fun D ys nw h tk F' N' lD _ hJ => by obtain ⟨rfl, hJ⟩ := hJ; exact fin D ys h tk F' N' lD hJ
theorem gc_enum0 {mf : Addr → Str → Option Value} {ifs : List Expr} {elt : PySem.Expr} {a b : Str} {pa pb tp : Pos} {kk : Nat} {scope : Scope} {cl : List (Str × Addr)} {Q : Value → Shared → Prop} {l c : Nat} {vs : List Value} {news : List (Addr × Obj)} (J : Nat → List Value → Prop)
    (hh : A.handled = none) (F : Fr h₀ L s.heap m) (N : News h₀ L s.heap news) (hkind : scope.kind = .function) (hxa : scope.names.lookup a = some .local) (hxb : scope.names.lookup b = some .local) (hab : ¬ a = b)
    (hl : (l, listOf vs.toArray c) ∈ news) (hsz : vs.length ≤ 1000) (J0 : J 0 [])
    (R : GT2f prog w A h₀ L m env ifs elt scope cl s vs.length news (fun i m => ∃ (t : Tok) (x : Value), vs[i]? = some x ∧ m a = some (.int (i : Int) t) ∧ m b = some x) J)
    (fin : ∀ (D : Nat) ys h tk, Fr h₀ L h (mf D) → News h₀ L h ((D, lst ys) :: news) → (∀ p ∈ news, @LT.lt Nat _ p.1 D) → J vs.length ys → Q (.ref D) { s with heap := h, toks := tk }) :
    wpAny (model prog w) A (call (.type "enumerate") [.ref l]) (GSrc prog w A h₀ L m mf (fun D ys nw h => News h₀ L h ((D, lst ys) :: nw)) [] env ifs elt (.Tuple [.Name a pa, .Name b pb] kk tp) scope cl Q E) E s :=
  gc_enum (fun _ i ys nw => nw = news ∧ J i ys) hh F N hkind hxa hxb hab hl hsz (fun D _ => ⟨rfl, J0⟩) (fun D i ys nw hJ => by rw [hJ.1]; exact hl) R.turn fun D ys nw h tk F' N' lD _ hJ => by obtain ⟨rfl, hJ⟩ := hJ; exact fin D ys h tk F' N' lD hJ
theorem gc_pairs0 {mf : Addr → Str → Option Value} {ifs : List Expr} {elt : PySem.Expr} {a b : Str} {pa pb tp : Pos} {kk : Nat} {scope : Scope} {cl : List (Str × Addr)} {Q : Value → Shared → Prop} {l c : Nat} {tps : List Tp} {news : List (Addr × Obj)} (J : Nat → List Value → Prop)
    (hh : A.handled = none) (F : Fr h₀ L s.heap m) (N : News h₀ L s.heap news) (hkind : scope.kind = .function) (hxa : scope.names.lookup a = some .local) (hxb : scope.names.lookup b = some .local) (hab : ¬ a = b)
    (hl : (l, listOf (tps.map (fun p => Value.ref p.1)).toArray c) ∈ news) (htp : ∀ p ∈ tps, tupE p ∈ news) (hsz : tps.length ≤ 1000) (J0 : J 0 [])
    (R : GT1f prog w A h₀ L m env ifs elt scope cl s tps.length news (fun i m => ∃ p, tps[i]? = some p ∧ m a = some p.2.1 ∧ m b = some p.2.2) J)
    (fin : ∀ (D : Nat) ys h tk, Fr h₀ L h (mf D) → News h₀ L h ((D, lst ys) :: news) → (∀ p ∈ news, @LT.lt Nat _ p.1 D) → J tps.length ys → Q (.ref D) { s with heap := h, toks := tk }) :
    GSrc prog w A h₀ L m mf (fun D ys nw h => News h₀ L h ((D, lst ys) :: nw)) [] env ifs elt (.Tuple [.Name a pa, .Name b pb] kk tp) scope cl Q E (.ref l) s :=
  gc_pairs (fun _ i ys nw => nw = news ∧ J i ys) hh F N hkind hxa hxb hab hl htp hsz (fun D _ => ⟨rfl, J0⟩) (fun D i ys nw hJ => by rw [hJ.1]; exact ⟨hl, htp⟩) R.turn fun D ys nw h tk F' N' lD _ hJ => by obtain ⟨rfl, hJ⟩ := hJ; exact fin D ys h tk F' N' lD hJ
end
end Mine
end

section
-- K2
open PySem PySem.W PySem.W.X PySem.Calls PyProof.Rows PyProof.Rows.LCg
set_option Elab.async false
set_option maxRecDepth 100000
set_option maxHeartbeats 8000000
namespace Mine
/-- an iterator over a range -/
def rngO (x left : Int) : Obj := { cls := .type "range_iterator", dict := none, data := .fields #[rawInt x, rawInt left, rawInt 1], slots := #[] }
section
variable {prog : Program} {w : World} {A : Around} {E : Value → Shared → Prop} {s : Shared} {h₀ : Heap} {L I : Addr} {m : Str → Option Value} {news : List (Addr × Obj)}
theorem rng_iter {Q : Value → Shared → Prop} {n : Nat} {t : Tok} (F : Fr h₀ L s.heap m) (N : News h₀ L s.heap news) (hn : n ≤ 1000)
    (h : ∀ I h' tk', Fr h₀ L h' m → News h₀ L h' ((I, rngO 0 n) :: news) → (∀ p ∈ news, @LT.lt Nat _ p.1 I) → Q (.ref I) { s with heap := h', toks := tk' }) :
    wpAny (model prog w) A (call (.type "range") [.int (n : Int) t]) (fun x s₁ => wpAny (model prog w) A (pyIter x) Q E s₁) E s := by
  have ol : ∀ p ∈ news, p.1 < s.heap.objs.size := fun p hp => Heap.lt_size (N p hp).1
  refine call_range_1 ?_
  refine wpAny_pyIter_range (IsRange.new s.heap 0 n 1 s.toks t (s.toks + 1)) (small_one (by omega) (by omega) (by omega) (by omega)) ?_
  have hsz1 : Builtin.Range.rangeSize 0 n 1 = (n : Int) := by rw [rangeSize_one]; split <;> omega
  rw [hsz1]
  refine h _ _ _ ((F.push _).push _) (News.push (F.push _) (N.grown fun b o e => Heap.get?_push_of_some _ e) _ rfl) fun p hp => ?_
  show p.1 < (s.heap.push _).objs.size
  rw [Heap.size_push]
  exact Nat.lt_succ_of_lt (ol p hp)
theorem rng_item {Q : Option Value → Shared → Prop} {x left : Int} (F : Fr h₀ L s.heap m) (N : News h₀ L s.heap ((I, rngO x left) :: news)) (ne : ∀ p ∈ news, p.1 ≠ I) (hl : 0 < left)
    (h : ∀ h' t tk', Fr h₀ L h' m → News h₀ L h' ((I, rngO (x + 1) (left - 1)) :: news) → Q (some (.int x t)) { s with heap := h', toks := tk' }) : wpAny (model prog w) A (pyNext (.ref I)) Q E s := by
  have n0 := N _ (.head _)
  refine wpAny_pyNext_range_item n0.1 hl fun h' hit hs => ?_
  refine h h' _ _ (F.change hs n0.2.1 n0.2.2) fun p hp => ?_
  rcases List.mem_cons.mp hp with rfl | hp
  · exact ⟨hit, n0.2⟩
  · exact ⟨hs.extBut _ _ (ne p hp) (N p (.tail _ hp)).1, (N p (.tail _ hp)).2⟩
theorem rng_end {Q : Option Value → Shared → Prop} {x left : Int} (hh : A.handled = none) (F : Fr h₀ L s.heap m) (N : News h₀ L s.heap ((I, rngO x left) :: news)) (ne : ∀ p ∈ news, p.1 ≠ I) (hl : left ≤ 0)
    (h : ∀ h' tk', Fr h₀ L h' m → News h₀ L h' news → Q none { s with heap := h', toks := tk' }) : wpAny (model prog w) A (pyNext (.ref I)) Q E s := by
  have n0 := N _ (.head _)
  refine wpAny_pyNext_range_end hh n0.1 hl fun h' hk => ?_
  refine h h' _ ⟨F.ns.at' fun o e => hk _ o (Ne.symm n0.2.1) e, fun b o e => hk b o (fun q => by have e2 := n0.2.2; rw [q] at e; rw [e2] at e; cases e) (F.keep b o e), F.above⟩ fun p hp => ⟨hk _ _ (ne p hp) (N p (.tail _ hp)).1, (N p (.tail _ hp)).2⟩
end
/-- the earlier cars that stand higher: their numbers -/
def cand (rs fs : List Nat) (k i : Nat) : List Nat := ((List.range i).filter (fun j => decide (rs.getD k 0 < rs.getD j 0))).map (fun j => fs.getD j 0)
theorem cand_succ (rs fs : List Nat) (k i : Nat) : cand rs fs k (i + 1) = cand rs fs k i ++ (if rs.getD k 0 < rs.getD i 0 then [fs.getD i 0] else []) := by
  unfold cand
  rw [List.range_succ, List.filter_append, List.map_append]
  congr 1
  by_cases h : rs.getD k 0 < rs.getD i 0
  · rw [if_pos h, List.filter_cons_of_pos (by simpa using h)]; rfl
  · rw [if_neg h, List.filter_cons_of_neg (by simpa using h)]; rfl
theorem cand_mem {rs fs : List Nat} {k n x : Nat} : x ∈ cand rs fs k n ↔ ∃ j, j < n ∧ rs.getD k 0 < rs.getD j 0 ∧ fs.getD j 0 = x := by
  unfold cand
  simp only [List.mem_map, List.mem_filter, List.mem_range, decide_eq_true_eq]
  constructor
  · rintro ⟨j, ⟨a, b⟩, c⟩; exact ⟨j, a, b, c⟩
  · rintro ⟨j, a, b, c⟩; exact ⟨j, ⟨a, b⟩, c⟩
theorem cand_len (rs fs : List Nat) (k i : Nat) : (cand rs fs k i).length ≤ i := by
  unfold cand
  rw [List.length_map]
  exact Nat.le_trans (List.length_filter_le _ _) (by simp)
structure FallsTo (rs fs : List Nat) (k : Nat) : Prop where
  len : fs.length = k
  up : ∀ j, j < k → ∀ i, i < j → rs.getD j 0 < rs.getD i 0 → fs.getD i 0 + 1 ≤ fs.getD j 0
  ex : ∀ j, j < k → fs.getD j 0 = 1 ∨ ∃ i, i < j ∧ rs.getD j 0 < rs.getD i 0 ∧ fs.getD j 0 = fs.getD i 0 + 1
theorem FallsTo.zero (rs : List Nat) : FallsTo rs [] 0 := ⟨rfl, (fun _ h => nomatch h), (fun _ h => nomatch h)⟩
theorem FallsTo.ok {rs fs : List Nat} (A : FallsTo rs fs rs.length) : FallsOK rs fs := ⟨A.len, A.up, A.ex⟩
theorem FallsTo.snoc {rs fs : List Nat} {k M : Nat} (A : FallsTo rs fs k) (hm : M = 0 ∨ M ∈ cand rs fs k k) (hM : ∀ x ∈ cand rs fs k k, x ≤ M) : FallsTo rs (fs ++ [M + 1]) (k + 1) := by
  have old : ∀ i, i < k → (fs ++ [M + 1]).getD i 0 = fs.getD i 0 := fun i h => getD_snoc i (by rw [A.len]; exact h)
  have new : (fs ++ [M + 1]).getD k 0 = M + 1 := getD_last A.len.symm
  refine ⟨by simp [A.len], fun j hj i hij hlt => ?_, fun j hj => ?_⟩
  · rcases Nat.lt_or_ge j k with h | h
    · rw [old j h, old i (by omega)]; exact A.up j h i hij hlt
    · have e : j = k := by omega
      subst e
      rw [new, old i hij]
      have := hM _ (cand_mem.mpr ⟨i, hij, hlt, rfl⟩)
      omega
  · rcases Nat.lt_or_ge j k with h | h
    · rw [old j h]
      rcases A.ex j h with e | ⟨i, a, b, c⟩
      · exact .inl e
      · exact .inr ⟨i, a, b, by rw [old i (by omega)]; exact c⟩
    · have e : j = k := by omega
      subst e
      rw [new]
      rcases hm with e | hm
      · exact .inl (by omega)
      · obtain ⟨i, a, b, c⟩ := cand_mem.mp hm
        exact .inr ⟨i, a, b, by rw [old i a]; omega⟩
theorem NatsAre.ints {vs : List Value} {l : List Nat} (h : NatsAre vs l) : IntsAre vs (l.map fun (n : Nat) => (n : Int)) := by
  induction h with
  | nil => exact .nil
  | cons n t h ih => exact .cons _ t ih
/-- the greatest of 0 and the row -/
theorem max_of {l : List Nat} {M : Int} (h1 : M ∈ (0 :: l).map fun (n : Nat) => (n : Int)) (h2 : ∀ a ∈ (0 :: l).map (fun (n : Nat) => (n : Int)), a ≤ M) : ∃ n : Nat, M = n ∧ (n = 0 ∨ n ∈ l) ∧ ∀ x ∈ l, x ≤ n := by
  obtain ⟨n, hn, rfl⟩ := List.mem_map.mp h1
  refine ⟨n, rfl, List.mem_cons.mp hn, fun x hx => ?_⟩
  have := h2 (x : Int) (List.mem_map.mpr ⟨x, .tail _ hx, rfl⟩)
  omega
end Mine
end

section
-- K3
open PySem PySem.W PySem.W.X PySem.Calls PyProof.Rows PyProof.Rows.LCg
set_option Elab.async false
set_option maxRecDepth 100000
set_option maxHeartbeats 8000000
namespace Mine
theorem PathsAre.strs {vs : List Value} {l : List Car} (h : PathsAre vs l) : StrsAre vs (l.map fun a => S a.path) := by
  induction h with
  | nil => exact .nil
  | cons a t h ih => exact .cons _ t ih
theorem nl_S : Str.ofString "\n" = S [10] := by decide
theorem join_flat0 : ∀ l : List Car, Str.join (S [10]) (l.map fun a => S a.path) = S (flat l)
  | [] => rfl
  | [a] => rfl
  | a :: b :: r => by
    have ih := join_flat0 (b :: r)
    show S a.path ++ S [10] ++ Str.join (S [10]) ((b :: r).map fun a => S a.path) = _
    rw [ih, S_app, S_app]
    simp [flat]
theorem join_flat (l : List Car) : Txt.join (S [10]) (l.map fun a => S a.path) = S (flat l) :=
  (eq_of_beq (join_plain_closes _ _)).trans (join_flat0 l)
theorem paths_w : ∀ l : List Car, ((l.map fun a => S a.path).map (·.length)).sum + (l.map fun a => S a.path).length ≤ 31 * l.length
  | [] => Nat.le_refl _
  | a :: l => by
    have := paths_w l
    have := a.path_len
    simp [S_len] at *
    omega
section
variable {prog : Program} {w : World} {A : Around} {E : Value → Shared → Prop} {s : Shared}
theorem join_K {D : Addr} {vs : List Value} {l : List Car} {t : Tok} {Q : Value → Shared → Prop} (hl : s.heap.IsList D vs.toArray) (hp : PathsAre vs l) (h8 : l.length ≤ 8) (h : ∀ t' k, Q (.str (S (flat l)) t') { s with toks := k }) :
    wpAny (model prog w) A (call (.builtin "str.join") [.str (Str.ofString "\n") t, .ref D]) Q E s := by
  rw [nl_S]
  refine join_listW hl hp.strs (by rw [S_len]; decide) (Nat.le_trans (paths_w l) (by omega)) fun t' k => ?_
  rw [join_flat]
  exact h t' k
theorem ne_nats {a b : Addr} {vs us : List Value} {l : List Nat} {Q : Value → Shared → Prop} (ha : s.heap.IsList a vs.toArray) (hb : s.heap.IsList b us.toArray) (h1 : NatsAre vs l) (h2 : NatsAre us l) (hu : A.units < cLine) (h : Q (.bool false) s) :
    wpAny (model prog w) A (compareOp .NotEq (.ref a) (.ref b)) Q E s := by
  have e1 := h1.len
  have e2 := h2.len
  have key := PySem.SeqAt.RcNeAt.lists (A := A) (s := s) ha hb (e := fun _ => true) (by simp [e1, e2]) hu (fun j j1 j2 prog w E Q hq => by
    obtain ⟨t, e⟩ := h1.get j vs.toArray[j] (by simp)
    obtain ⟨u, e'⟩ := h2.get j us.toArray[j] (by simp)
    rw [e, e']
    exact wpAny_eqBool_int (by simpa using hq)) prog w E Q
  refine key ?_
  rw [show (List.range vs.toArray.size).all (fun _ => true) = true from List.all_eq_true.mpr (fun _ _ => rfl)]
  exact h
theorem eq_paths {a b : Addr} {vs us : List Value} {l : List Car} {Q : Value → Shared → Prop} (ha : s.heap.IsList a vs.toArray) (hb : s.heap.IsList b us.toArray) (h1 : PathsAre vs l) (h2 : PathsAre us l) (hu : A.units < cLine) (h : Q (.bool true) s) :
    wpAny (model prog w) A (compareOp .Eq (.ref a) (.ref b)) Q E s := by
  have e1 := h1.len
  have e2 := h2.len
  refine PySem.SeqAt.eq_listAt ha hb (e := fun _ => true) (by simp [e1, e2]) hu (fun j j1 j2 prog w E Q hq => ?_) (by rw [show (List.range vs.toArray.size).all (fun _ => true) = true from List.all_eq_true.mpr (fun _ _ => rfl)]; exact h)
  obtain ⟨a1, t, e3, e⟩ := h1.get j vs.toArray[j] (by simp)
  obtain ⟨a2, u, e4, e'⟩ := h2.get j us.toArray[j] (by simp)
  rw [e3] at e4; cases e4
  rw [e, e']
  exact wpAny_eqBool_str (by simpa using hq)
end
section
variable {w : World} {d dp un : Nat} {gd : Option (List Code)} {outer : List Env} {b0 h₀ : Heap} {s : Shared} {pre : List (Addr × Obj)} {L : Addr} {m : Str → Option Value} {p : Program} {loose : List Str} {mean : ExcName → Option Value} {mg mb : Str → Option Value}
  {cn : Str} {cs : Scope} {fa0 : Addr} {ccd : Value} {cl : List (Str × Addr)} {Q E : Value → Shared → Prop}
/-- the first lexer, from a frame -/
theorem lexer_use0 {l : List Nat} {t : Tok} (B : Below (AR dp un gd outer) b0 outer h₀) (F : Fr h₀ L s.heap m) (X : (hd.heap_1 w.params).In h₀) (N : News h₀ L s.heap (pre ++ [(180, tabObj #[])])) (T : Top p loose mean mg mb h₀) (hk : cs.kind = .function)
    (hd1 : dp + 1 + 3 < recursionLimit) (hu : un + 3 + 8 * 3 < cLine) (hC : CodeHd h₀ 184 180) (hl : l.length ≤ 1000) (off : ∀ q ∈ pre, q.1 ≠ 180)
    (ret : ∀ (x : LA) own h' tk' vs, Fr h₀ L h' m → News h₀ L h' (pre ++ (180, tab1 x.cd) :: (x.cd, x.oc) :: own) → CodeF x.oc → x.cd ≠ 180 → Lex w h' x [] vs → own.map (·.1) = fp x → LexO w own x [] vs → Chars vs l → (∀ e ∈ fp x, e ≠ 180) → (∀ q ∈ pre, q.1 ∉ fp x ∧ q.1 ≠ x.cd) →
      Q (.ref x.q) { s with heap := h', toks := tk' }) :
    wpAny (model PySem.Challenge.rw_un0024_01.row.prog w) ((AR dp un gd outer).deeper (envX cn cs L fa0 ccd cl)) (call (.ref 185) [.str (S l) t]) Q E s := by
  obtain ⟨Ta, st, _⟩ := at_frame (env := envX cn cs L fa0 ccd cl) (d := 3) B F X N T rfl hk hd1 hu
  have hm : ((180 : Addr), tabObj #[]) ∈ pre ++ [((180 : Addr), tabObj #[])] := List.mem_append_right _ (.head _)
  refine lexer_c0 w l hl t (dp + 1) (un + 3) gd (envX cn cs L fa0 ccd cl :: outer) _ s Q E Ta (fun b o e => of_hideAll _ e) (hC.keeps st) (N _ hm).1 (hideAll_none _ (List.mem_map_of_mem hm)) fun x h' tk' vs K ht hF fcd ncd LX hCh fr => ?_
  obtain ⟨c1, c2, c3, c4, ln, lt, pt⟩ := LX.parts
  have n180 : ∀ b o, h₀.get? b = some o → b ≠ 180 := fun b o e q => by
    have := (N _ hm).2.2
    rw [q] at e; rw [this] at e; cases e
  have nL : L ≠ 180 := fun q => (N _ hm).2.1 q.symm
  obtain ⟨oL, _, _, eL, _⟩ := F.ns
  have fresh : ∀ e, s.heap.get? e = none → e ≠ L ∧ h₀.get? e = none := fun e he => by
    refine ⟨(fun q => by rw [q, eL] at he; cases he), ?_⟩
    cases q : h₀.get? e with
    | none => rfl
    | some o => rw [F.keep _ _ q] at he; cases he
  refine ret x (lexL w x c1 c2 c3 c4 ln lt [] vs) h' tk' vs ⟨F.ns.at' fun o e => K _ o nL e, fun b o e => K b o (n180 b o e) (F.keep b o e), F.above⟩ (fun z hz => ?_) hF ncd LX rfl ⟨c1, c2, c3, c4, ln, lt, fun e he => he⟩ hCh (fun e he => (fr e he).2) (fun q hq => ?_)
  · rcases List.mem_append.mp hz with hz | hz
    · have := N z (List.mem_append_left _ hz)
      exact ⟨K _ _ (off z hz) this.1, this.2⟩
    rcases List.mem_cons.mp hz with rfl | hz
    · exact ⟨ht, (N _ hm).2⟩
    rcases List.mem_cons.mp hz with rfl | hz
    · exact ⟨LX.code, fresh _ fcd⟩
    · exact ⟨pt z hz, fresh _ (fr _ (List.mem_map_of_mem (f := (·.1)) hz)).1⟩
  · have h1 := (N q (List.mem_append_left _ hq)).1
    exact ⟨(fun hm => by rw [(fr _ hm).1] at h1; cases h1), (fun e => by rw [e, fcd] at h1; cases h1)⟩
end
end Mine
end

section
-- K4
open PySem PySem.W PySem.W.X PySem.Calls PyProof.Rows PyProof.Rows.LCg
set_option Elab.async false
set_option maxRecDepth 100000
set_option maxHeartbeats 8000000
namespace Mine
section
variable {w : World} {d dp un : Nat} {gd : Option (List Code)} {outer : List Env} {b0 h₀ : Heap} {s : Shared} {pre : List (Addr × Obj)} {L : Addr} {m : Str → Option Value} {p : Program} {loose : List Str} {mean : ExcName → Option Value} {mg mb : Str → Option Value}
  {cn : Str} {cs : Scope} {fa0 : Addr} {ccd : Value} {cl : List (Str × Addr)} {Q E : Value → Shared → Prop}
theorem frame_fresh (F : Fr h₀ L s.heap m) : ∀ e, s.heap.get? e = none → e ≠ L ∧ h₀.get? e = none := fun e he => by
  obtain ⟨oL, _, _, eL, _⟩ := F.ns
  refine ⟨(fun q => by rw [q, eL] at he; cases he), ?_⟩
  cases q : h₀.get? e with
  | none => rfl
  | some o => rw [F.keep _ _ q] at he; cases he
theorem parked_use {x : LA} {own : List (Addr × Obj)} {vs : List Value} {cars : List Car} (B : Below (AR dp un gd outer) b0 outer h₀) (F : Fr h₀ L s.heap m) (X : (hd.heap_1 w.params).In h₀) (N : News h₀ L s.heap (pre ++ (180, tab1 x.cd) :: (x.cd, x.oc) :: own)) (T : Top p loose mean mg mb h₀) (hk : cs.kind = .function)
    (hd1 : dp + 1 + 6 < recursionLimit) (hu : un + 3 + 8 * 6 < cLine) (hC : CodeHd h₀ 184 180) (hF : CodeF x.oc) (ncd : x.cd ≠ 180) (LX : Lex w s.heap x [] vs) (eo : own.map (·.1) = fp x) (n180 : ∀ e ∈ fp x, e ≠ 180) (off : ∀ q ∈ pre, q.1 ∉ fp x ∧ q.1 ≠ x.cd)
    (hV : Chars vs (flat cars)) (hl : cars.length ≤ 8)
    (ret : ∀ (Tp Qa Na : Addr) (xs : List LA) (nv : List Value) (c1 c3 : Nat) (own2 : List (Addr × Obj)) h' tk', Fr h₀ L h' m → News h₀ L h' ((Tp, { cls := .type "tuple", data := .seq #[.ref Qa, .ref Na] }) :: (Na, listOf nv.toArray c1) :: (Qa, listOf (xs.map (fun x : LA => Value.ref x.q)).toArray c3) :: (pre ++ (180, tab1 x.cd) :: (x.cd, x.oc) :: own2)) →
      NatsAre nv (park cars).nums → LinesO w own2 x.cd x.oc xs (park cars).qs → (∀ q ∈ own2, q.1 ≠ Qa ∧ q.1 ≠ x.cd ∧ q.1 ∉ (pre ++ [((180 : Addr), tab1 x.cd)]).map (fun e : Addr × Obj => e.1)) → x.cd ≠ Qa → (∀ q ∈ pre ++ [((180 : Addr), tab1 x.cd)], q.1 ≠ Qa) → Q (.ref Tp) { s with heap := h', toks := tk' }) :
    wpAny (model PySem.Challenge.rw_un0024_01.row.prog w) ((AR dp un gd outer).deeper (envX cn cs L fa0 ccd cl)) (call (.ref 197) [.ref x.q]) Q E s := by
  classical
  have N' : News h₀ L s.heap ((180, tab1 x.cd) :: own) := fun q hq => by
    rcases List.mem_cons.mp hq with rfl | hq
    · exact N _ (List.mem_append_right _ (.head _))
    · exact N _ (List.mem_append_right _ (.tail _ (.tail _ hq)))
  obtain ⟨Ta, st, _⟩ := at_frame (env := envX cn cs L fa0 ccd cl) (d := 6) B F X N' T rfl hk hd1 hu
  have n0 := N (180, tab1 x.cd) (List.mem_append_right _ (.head _))
  have ncx := N (x.cd, x.oc) (List.mem_append_right _ (.tail _ (.head _)))
  refine parked_c w x cars vs x.cd x.oc (dp + 1) (un + 3) gd (envX cn cs L fa0 ccd cl :: outer) _ s Q E Ta (fun b o e => of_hideAll _ e) (hC.keeps st) n0.1 (hideAll_none _ (by simp)) ncx.1 hF ncd LX (fun e he => hideAll_none _ (by rw [List.map_cons, eo]; exact .tail _ he)) n180 rfl rfl hV hl ?_
  intro Tp Qa Na xs nv ow c1 c3 h' tk' K15 hT hQ hN hnv LN hown h180 fT fQ fN offQ
  have fresh := frame_fresh F
  have Lx : L ∉ fp x := fun hm => by
    rw [← eo] at hm
    obtain ⟨z, hz, e⟩ := List.mem_map.mp hm
    exact (N z (List.mem_append_right _ (.tail _ (.tail _ hz)))).2.1 e
  have hx0 : ∀ b o, h₀.get? b = some o → b ∉ fp x := fun b o e hm => by
    rw [← eo] at hm
    obtain ⟨z, hz, e'⟩ := List.mem_map.mp hm
    have := (N z (List.mem_append_right _ (.tail _ (.tail _ hz)))).2.2
    rw [e', e] at this; cases this
  have F' : Fr h₀ L h' m := ⟨F.ns.at' fun o e => K15 _ o Lx e, fun b o e => K15 b o (hx0 b o e) (F.keep b o e), F.above⟩
  have cdx : x.cd ∉ fp x := fun hm => LX.ncd _ hm rfl
  have preS : ∀ q ∈ pre ++ [((180 : Addr), tab1 x.cd)], s.heap.get? q.1 = some q.2 := fun q hq => by
    rcases List.mem_append.mp hq with hq | hq
    · exact (N q (List.mem_append_left _ hq)).1
    · rw [List.mem_singleton.mp hq]; exact n0.1
  let P : Addr × Obj → Prop := fun e => h₀.get? e.1 = none ∧ e.1 ≠ L ∧ e.1 ≠ x.cd ∧ e.1 ∉ (pre ++ [((180 : Addr), tab1 x.cd)]).map (fun e : Addr × Obj => e.1)
  have hP : ∀ e, s.heap.get? e = none → h₀.get? e = none ∧ e ≠ L ∧ e ≠ x.cd ∧ e ∉ (pre ++ [((180 : Addr), tab1 x.cd)]).map (fun e : Addr × Obj => e.1) := fun e he => by
    refine ⟨(fresh e he).2, (fresh e he).1, (fun q => by rw [q, ncx.1] at he; cases he), fun hm => ?_⟩
    obtain ⟨z, hz, e'⟩ := List.mem_map.mp hm
    have := preS z hz
    rw [e', he] at this; cases this
  refine ret Tp Qa Na xs nv c1 c3 (ow.filter fun e => decide (P e)) h' tk' F' (fun z hz => ?_) hnv ⟨LN.len, fun i y q h1 h2 => ?_, LN.apart⟩ (fun q hq => ?_) (fun q => by rw [← q, ncx.1] at fQ; cases fQ) (fun q hq e => by have := preS q hq; rw [e, fQ] at this; cases this)
  · rcases List.mem_cons.mp hz with rfl | hz
    · exact ⟨hT, fresh _ fT⟩
    rcases List.mem_cons.mp hz with rfl | hz
    · exact ⟨hN, fresh _ fN⟩
    rcases List.mem_cons.mp hz with rfl | hz
    · exact ⟨hQ, fresh _ fQ⟩
    rcases List.mem_append.mp hz with hz | hz
    · exact ⟨K15 _ _ (off z hz).1 (preS z (List.mem_append_left _ hz)), (N z (List.mem_append_left _ hz)).2⟩
    rcases List.mem_cons.mp hz with rfl | hz
    · exact ⟨h180, n0.2⟩
    rcases List.mem_cons.mp hz with rfl | hz
    · exact ⟨K15 _ _ cdx ncx.1, ncx.2⟩
    · obtain ⟨hz1, hz2⟩ := List.mem_filter.mp hz
      have hz2 := of_decide_eq_true hz2
      exact ⟨hown z hz1, hz2.2.1, hz2.1⟩
  · obtain ⟨a1, a2, a3, ⟨pb, o, pa⟩, a5⟩ := LN.all i y q h1 h2
    refine ⟨a1, a2, a3, pb, ?_, pa⟩
    obtain ⟨k1, k2, k3, k4, ln, lt, mm⟩ := o
    exact ⟨k1, k2, k3, k4, ln, lt, fun e he => List.mem_filter.mpr ⟨mm e he, decide_eq_true (hP _ (a5 _ (List.mem_map_of_mem (f := (·.1)) he)))⟩⟩
  · obtain ⟨hq1, hq2⟩ := List.mem_filter.mp hq
    have hq2 := of_decide_eq_true hq2
    exact ⟨(offQ q hq1).1, hq2.2.2.1, hq2.2.2.2⟩
theorem out_use {Qa : Addr} {c3 : Nat} {own2 : List (Addr × Obj)} {xs : List LA} {qs : List (List Car)} {cd : Addr} {oc : Obj} (B : Below (AR dp un gd outer) b0 outer h₀) (F : Fr h₀ L s.heap m) (X : (hd.heap_1 w.params).In h₀) (N : News h₀ L s.heap ((Qa, listOf (xs.map (fun x : LA => Value.ref x.q)).toArray c3) :: own2)) (Np : News h₀ L s.heap pre) (hcd : s.heap.get? cd = some oc) (T : Top p loose mean mg mb h₀) (hk : cs.kind = .function)
    (hd1 : dp + 1 + 6 < recursionLimit) (hu : un + 3 + 8 * 6 < cLine) (off : ∀ q ∈ own2, q.1 ≠ Qa ∧ q.1 ≠ cd ∧ q.1 ∉ pre.map (·.1)) (ncq : cd ≠ Qa) (offp : ∀ q ∈ pre, q.1 ≠ Qa) (LN : LinesO w own2 cd oc xs qs) (hl : qs.flatten.length ≤ 8) (hx8 : xs.length ≤ 8)
    (ret : ∀ (O : Addr) (ov : List Value) (out : List Car) (c : Nat) h' tk', Fr h₀ L h' m → News h₀ L h' ((O, listOf ov.toArray c) :: pre) → PathsAre ov out → Merge qs out → Q (.ref O) { s with heap := h', toks := tk' }) :
    wpAny (model PySem.Challenge.rw_un0024_01.row.prog w) ((AR dp un gd outer).deeper (envX cn cs L fa0 ccd cl)) (call (.ref 202) [.ref Qa]) Q E s := by
  obtain ⟨Ta, st, OA⟩ := at_frame (env := envX cn cs L fa0 ccd cl) (d := 6) B F X N T rfl hk hd1 hu
  have hcd' : (hideAll s.heap (((Qa, listOf (xs.map (fun x : LA => Value.ref x.q)).toArray c3) :: own2).map (·.1))).get? cd = some oc := hideAll_get _ hcd fun hm => by
    rcases List.mem_cons.mp hm with hm | hm
    · exact ncq hm
    · obtain ⟨z, hz, e⟩ := List.mem_map.mp hm
      exact (off z hz).2.1 e
  refine out_c w Qa c3 own2 xs qs cd oc (dp + 1) (un + 3) gd (envX cn cs L fa0 ccd cl :: outer) _ s Q E Ta (fun b o e => of_hideAll _ e) OA (fun q hq => (off q hq).1) LN hcd' hl hx8 ?_
  intro O ov out c h' tk' K hO fO hov hM
  have fresh := frame_fresh F
  have kL : ∀ b o, h₀.get? b = some o → h'.get? b = some o := fun b o e => K b o (fun q => by have := (N _ (.head _)).2.2; rw [← q, e] at this; cases this) (fun q hq q' => by have := (N q (.tail _ hq)).2.2; rw [q', e] at this; cases this) (F.keep b o e)
  have F' : Fr h₀ L h' m := ⟨F.ns.at' fun o e => K _ o (fun q => (N _ (.head _)).2.1 q.symm) (fun q hq q' => (N q (.tail _ hq)).2.1 q') e, kL, F.above⟩
  refine ret O ov out c h' tk' F' (fun z hz => ?_) hov hM
  rcases List.mem_cons.mp hz with rfl | hz
  · exact ⟨hO, fresh _ fO⟩
  · exact ⟨K _ _ (offp z hz) (fun q hq e => (off q hq).2.2 (e ▸ List.mem_map_of_mem (f := (·.1)) hz)) (Np z hz).1, (Np z hz).2⟩
end
end Mine
end

section
-- K5
open PySem PySem.W PySem.W.X PySem.Calls PyProof.Rows PyProof.Rows.LCg
set_option Elab.async false
namespace Mine
theorem neint_is {prog : Program} {w : World} {A : Around} {E : Value → Shared → Prop} {s : Shared} {i j : Int} {t u : Tok} {b : Bool} {Q : Value → Shared → Prop} (e : (i != j) = b) (h : Q (.bool b) s) : wpAny (model prog w) A (compareOp .NotEq (.int i t) (.int j u)) Q E s := ne_int (e ▸ h)
/-- the pairs (rank, place) -/
def prl (rs : List Nat) (i : Nat) : List (Nat × Nat) := (List.range i).map fun j => (rs.getD j 0, j)
theorem prl_succ (rs : List Nat) (i : Nat) : prl rs (i + 1) = prl rs i ++ [(rs.getD i 0, i)] := by
  unfold prl
  rw [List.range_succ, List.map_append]; rfl
theorem prl_get {rs : List Nat} {n i : Nat} (h : i < n) : (prl rs n)[i]? = some (rs.getD i 0, i) := by
  unfold prl
  simp [h]
theorem prl_len (rs : List Nat) (n : Nat) : (prl rs n).length = n := by simp [prl]
def key8 (rs : List Nat) (i : Nat) : Nat := rs.getD i 0 * 8 + i
theorem key8_lt {rs : List Nat} (i j : Nat) (a b : Nat × Nat) (ha : (prl rs 8)[i]? = some a) (hb : (prl rs 8)[j]? = some b) : ltP a b = decide (key8 rs i < key8 rs j) := by
  have hi : i < 8 := by have := (List.getElem?_eq_some_iff.mp ha).1; rw [prl_len] at this; exact this
  have hj : j < 8 := by have := (List.getElem?_eq_some_iff.mp hb).1; rw [prl_len] at this; exact this
  rw [prl_get hi] at ha
  rw [prl_get hj] at hb
  cases ha; cases hb
  unfold ltP key8
  congr 1
  refine propext ⟨fun h => ?_, fun h => ?_⟩ <;> simp only at h ⊢ <;> omega
theorem key8_inj {rs : List Nat} (i j : Nat) (hi : i < 8) (hj : j < 8) (h : key8 rs i = key8 rs j) : i = j := by
  unfold key8 at h; omega
theorem sort_cars {cars : List Car} {rs : List Nat} {p : Array Nat} (a0 : Car) (hpw : cars.Pairwise (fun a b => a.ix < b.ix)) (hcr : cars.map (·.r) = rs) (h8 : cars.length = 8) (P : PermA 8 p) (hS : SA (key8 rs) p 8) :
    (p.toList.map fun j => cars.getD j a0).Pairwise ltC ∧ (p.toList.map fun j => cars.getD j a0).Perm cars := by
  have hr : ∀ j, j < 8 → (cars.getD j a0).r = rs.getD j 0 := fun j hj => by
    have hj' : j < cars.length := by omega
    rw [← hcr]
    simp [hj']
  have hix : ∀ i j, i < j → j < 8 → (cars.getD i a0).ix < (cars.getD j a0).ix := fun i j hij hj => by
    have hi' : i < cars.length := by omega
    have hj' : j < cars.length := by omega
    have := List.pairwise_iff_getElem.mp hpw i j hi' hj' hij
    simpa [hi', hj'] using this
  have hsz := P.size
  refine ⟨?_, ?_⟩
  · rw [List.pairwise_map, List.pairwise_iff_getElem]
    intro i j hi hj hij
    have hi8 : i < 8 := by simpa [hsz] using hi
    have hj8 : j < 8 := by simpa [hsz] using hj
    have e1 : p.getD i 0 = p.toList[i] := by rw [getD_at]; simp [hsz, hi8]
    have e2 : p.getD j 0 = p.toList[j] := by rw [getD_at]; simp [hsz, hj8]
    have h1 := hS i j (Nat.le_of_lt hij) hj8
    unfold KA at h1
    have l1 := P.lt hi8
    have l2 := P.lt hj8
    have ne : p.getD i 0 ≠ p.getD j 0 := fun e => Nat.ne_of_lt hij (P.inj hi8 hj8 e)
    rw [← e1, ← e2]
    generalize p.getD i 0 = u at h1 l1 ne ⊢
    generalize p.getD j 0 = v at h1 l2 ne ⊢
    unfold key8 at h1
    unfold ltC
    rw [hr u l1, hr v l2]
    rcases Nat.lt_or_ge (rs.getD u 0) (rs.getD v 0) with h | h
    · exact .inl h
    · exact .inr ⟨by omega, hix u v (by omega) l2⟩
  · have e : (List.range 8).map (fun j => cars.getD j a0) = cars := by
      refine List.ext_getElem (by simp [h8]) fun i h1 h2 => ?_
      simp [h2]
    have := P.perm.map fun j => cars.getD j a0
    rw [e] at this
    exact this
end Mine
end

-- M15
open PySem PySem.W PySem.W.X PySem.Calls PyProof.Rows PyProof.Rows.LCg
set_option Elab.async false
set_option maxRecDepth 100000
set_option maxHeartbeats 8000000
namespace Mine
theorem holdA {M : Model} {A : Around} {y : Str} {py pos spos tp : Pos} {elt iter : PySem.Expr} {ts : List PySem.Expr} {k : Nat} {ifs : List PySem.Expr} {scope : Scope} {env : Env} {Q : Flow → Shared → Prop} {E : Value → Shared → Prop} {s : Shared}
    (h : Hold (wpAny M A (exec (.Assign [.Name y py] (.ListComp elt [⟨.Tuple ts k tp, iter, ifs, 0⟩] scope pos) spos) env) Q E s)) : wpAny M A (exec (.Assign [.Name y py] (.ListComp elt [⟨.Tuple ts k tp, iter, ifs, 0⟩] scope pos) spos) env) Q E s := h
theorem pad_K {prog : Program} {w : World} {A : Around} {E : Value → Shared → Prop} {s : Shared} {h₀ : Heap} {L l : Addr} {m : Str → Option Value} {news : List (Addr × Obj)} {value slice : PySem.Expr} {vs : List Value} {ns : List Int} {n : Int} {t : Tok} {c : Nat} {Q : Value → Shared → Prop}
    (F : Fr h₀ L s.heap m) (N : News h₀ L s.heap news) (hm : (l, listOf vs.toArray c) ∈ news) (hi : IntsAre vs ns) (hn : 0 ≤ n) (hz : vs.length ≤ 1000)
    (h : ∀ D ws h', Fr h₀ L h' m → News h₀ L h' ((D, listOf (List.toArray ws) 0) :: news) → (∀ p ∈ news, p.1 < D) → IntsAre ws (ns.drop n.toNat) → Q (.ref D) { s with heap := h' })
    (hs : subscripted slice false (.ref l) (.ref s.heap.objs.size) = operate [.ref s.heap.objs.size, .ref l] (getItem (.ref l) (.ref s.heap.objs.size))) (ht : ∀ r, letTemporaryGo value (.ref l) r = pure ()) :
    wpAny (model prog w) A (subscriptTail value slice (.ref l) (.ref s.heap.objs.size)) Q E { s with heap := s.heap.push { cls := .type "slice", data := .fields #[.int n t, .none, .none] } } := by
  have hI := kmk_from hi hn
  refine kmk_slice F N (News.isList N hm) (.int _ _) .none (fun D h' F' N' l1 => h D _ h' F' ?_ l1 hI) hs ht (by rw [List.size_toArray]; exact Nat.le_trans hz (by decide))
  rw [Array.toArray_toList]
  exact N'
theorem mem_skip4 {a b c d e q : Addr × Obj} {r : List (Addr × Obj)} (h : q ∈ a :: r) : q ∈ a :: b :: c :: d :: e :: r := by
  rcases List.mem_cons.mp h with rfl | h
  · exact .head _
  · exact .tail _ (.tail _ (.tail _ (.tail _ (.tail _ h))))
section
variable {prog : Program} {w : World} {A : Around} {E : Value → Shared → Prop} {s : Shared} {h₀ : Heap} {L a : Addr} {news : List (Addr × Obj)} {c : Nat} {vs : List Value} {v v' : Value} {n : Int} {u : Tok} {Q : Value → Shared → Prop}
theorem pick0 {value slice : Expr} (N : News h₀ L s.heap news) (hm : (a, listOf (v :: vs).toArray c) ∈ news) (e : n = 0) (h : Q v s)
    (hs : ∀ n u, subscripted slice false (.ref a) (.int n u) = operate [.ref a, .int n u] (getItem (.ref a) (.int n u)) := by intro _ _; with_unfolding_all rfl) (hg : ∀ r, letTemporaryGo value (.ref a) r = pure () := by intro _; with_unfolding_all rfl) :
    wpAny (model prog w) A (subscriptTail value slice (.ref a) (.int n u)) Q E s := by
  subst e
  exact item0_K N hm h (hs 0 u) hg
theorem pick1 {value slice : Expr} (N : News h₀ L s.heap news) (hm : (a, listOf (v :: v' :: vs).toArray c) ∈ news) (e : n = 1) (h : Q v' s)
    (hs : ∀ n u, subscripted slice false (.ref a) (.int n u) = operate [.ref a, .int n u] (getItem (.ref a) (.int n u)) := by intro _ _; with_unfolding_all rfl) (hg : ∀ r, letTemporaryGo value (.ref a) r = pure () := by intro _; with_unfolding_all rfl) :
    wpAny (model prog w) A (subscriptTail value slice (.ref a) (.int n u)) Q E s := by
  subst e
  exact item_K (i := 1) N hm (by simp) (by decide) h (hs 1 u) hg
end
def JF (s : Shared) (base : Heap) (L : Nat) (I Fl P R : Nat) (pv rv : List Value) (rs : List Nat) (m : Str → Option Value) (n : Nat) (s' : Shared) : Prop :=
  ∃ h tk k fv fs c o1 o2 o3 o4 v2, s' = { s with heap := h, toks := tk } ∧ k + n = 8 ∧ Fr base L h m ∧
    News base L h ((I, rngO k n) :: (Fl, listOf (List.toArray fv) c) :: (P, lst pv) :: (R, lst rv) :: (L + 1 + 1 + 1 + 1, o4) :: (L + 1 + 1 + 1, o3) :: (L + 1 + 1, o2) :: (L + 1, o1) :: (180, tabObj #[]) :: []) ∧
    o1.data = .cell (some (.ref R)) ∧ o2.data = .cell v2 ∧ o3.data = .cell (some (.ref P)) ∧ o4.data = .cell (some (.ref Fl)) ∧ NatsAre fv fs ∧ FallsTo rs fs k
theorem mem_out {t n q z : Addr × Obj} {a1 a2 a3 a4 a5 a6 a7 b c : Addr × Obj} {own : List (Addr × Obj)} (h : z ∈ q :: own) : z ∈ t :: n :: q :: a1 :: a2 :: a3 :: a4 :: a5 :: a6 :: a7 :: b :: c :: own := by
  rcases List.mem_cons.mp h with rfl | h
  · exact .tail _ (.tail _ (.head _))
  · exact .tail _ (.tail _ (.tail _ (.tail _ (.tail _ (.tail _ (.tail _ (.tail _ (.tail _ (.tail _ (.tail _ (.tail _ h)))))))))))
theorem mem_pre {t n q z : Addr × Obj} {a1 a2 a3 a4 a5 a6 a7 a8 : Addr × Obj} {own : List (Addr × Obj)} (h : z ∈ [a1, a2, a3, a4, a5, a6, a7, a8]) : z ∈ t :: n :: q :: a1 :: a2 :: a3 :: a4 :: a5 :: a6 :: a7 :: a8 :: own :=
  .tail _ (.tail _ (.tail _ (List.mem_append_left (bs := own) h)))
theorem ints8 {l : List Int} {ws : List Value} (h : IntsAre ws (List.take 8 l ++ List.drop ((l.length : Nat) : Int).toNat [9, 4, 7, 7, 2, 8, 5, 3])) : ∃ is, IntsAre ws is ∧ is.length = 8 :=
  ⟨_, h, by simp; omega⟩
end Mine
open Mine
local macro_rules | `(tactic| walk_at "exec Assign cons ListComp") => `(tactic| (k_here; refine wpAny_Assign_Name ?_))
local macro_rules | `(tactic| walk_at "eval ListComp") => `(tactic| (k_here; k_dflt (refine gc_ListComp (by k_asm) (by with_unfolding_all rfl) (by decide) (by rfl) (by decide) ?_)))
local macro_rules | `(tactic| walk_at "subscriptTail List cons Slice ref ref") => `(tactic| (k_here; k_dflt (refine kba_turn (value' := PySem.Expr.Name (PySem.Str.ofString "_") ⟨0, 0, 0, 0⟩) (fun _ => rfl) ?_); k_dflt (refine' Mine.pad_K ?F ?N ?l ?i ?hn ?hz ?_ ?s ?t; (case F => k_asm); (case N => k_asm); (case l => exact List.Mem.head _); (case hn => exact Int.natCast_nonneg _); (case hz => exact Nat.le_of_ble_eq_true rfl); (case i => repeat (first | exact IntsAre.nil | apply IntsAre.cons)); (case s => with_unfolding_all rfl); (case t => (intro _; with_unfolding_all rfl))); intro D' ws' h' F' N' l1 hI'; (try k_lt l1)))
local macro_rules | `(tactic| walk_at "subscriptTail List cons BinOp ref int") => `(tactic| (k_here; k_dflt (refine kba_turn (value' := PySem.Expr.Name (PySem.Str.ofString "_") ⟨0, 0, 0, 0⟩) (fun _ => rfl) ?_); k_dflt (first | (refine' Mine.pick0 ?N ?m ?e ?_; (case N => k_asm); (case m => exact List.Mem.head _); (case e => assumption)) | (refine' Mine.pick1 ?N ?m ?e ?_; (case N => k_asm); (case m => exact List.Mem.head _); (case e => assumption)))))
local macro_rules | `(tactic| walk_at "binaryOp Mod str int") => `(tactic| (k_here; refine Mine.mod_oct (by with_reducible assumption) (by with_reducible assumption) ?_; intro _ _))
local macro_rules | `(tactic| walk_at "call ref") => `(tactic| (k_here; (with_reducible show wpAny _ _ (call (Value.ref 157) _) _ _ _); refine hold ?_))
local macro_rules | `(tactic| walk_at "exec For Name Call cons nil") => `(tactic| (k_here; refine hold ?_))
local macro_rules | `(tactic| walk_at "call type:range") => `(tactic| (k_here; refine hold ?_))
local macro_rules | `(tactic| walk_at "call builtin:max") => `(tactic| (k_here; refine hold ?_))
local macro_rules | `(tactic| walk_at "subscriptTail Name Name ref int") => `(tactic| (k_here; k_dflt (refine' item_K ?N ?m ?x ?z ?_; (case N => k_asm); (case m => k_mem); (case x => assumption); (case z => assumption))))
local macro_rules | `(tactic| walk_at "binaryOp Add ref ref") => `(tactic| (k_here; k_dflt (refine' cat_K (xs := [_]) ?F ?N ?a ?b ?y ?z ?_; (case F => k_asm); (case N => k_asm); (case a => k_mem); (case b => k_mem); (case y => exact Nat.le_of_ble_eq_true rfl); (case z => assumption)); intro D' h' F' N' l1; (try k_lt l1)))
local macro_rules | `(tactic| walk_at "call builtin:list.append") => `(tactic| (k_here; k_dflt (refine' app_K ?F ?N ?U ?z ?_; (case F => k_asm); (case N => k_asm); (case U => k_upd); (case z => assumption)); kl_rest))
local macro_rules | `(tactic| walk_at "call ref") => `(tactic| (k_here; (with_reducible show wpAny _ _ (call (Value.ref 185) _) _ _ _); refine hold ?_))
local macro_rules | `(tactic| walk_at "call ref") => `(tactic| (k_here; (with_reducible show wpAny _ _ (call (Value.ref 197) _) _ _ _); refine hold ?_))
local macro_rules | `(tactic| walk_at "call ref") => `(tactic| (k_here; (with_reducible show wpAny _ _ (call (Value.ref 202) _) _ _ _); refine hold ?_))
local macro_rules | `(tactic| walk_at "call builtin:str.join") => `(tactic| (k_here; refine hold ?_))
local macro_rules | `(tactic| walk_at "compareOp NotEq ref ref") => `(tactic| (k_here; refine hold ?_))
local macro_rules | `(tactic| walk_at "compareOp Eq ref ref") => `(tactic| (k_here; refine hold ?_))
local macro_rules | `(tactic| walk_at "call builtin:sorted") => `(tactic| (k_here; refine hold ?_))
local macro_rules | `(tactic| walk_at "call builtin:len") => `(tactic| (k_here; k_dflt (refine' len_K ?N ?m ?z ?_; (case N => k_asm); (case m => k_mem); (case z => assumption)); intro _ _))
local macro_rules | `(tactic| walk_at "compareOp NotEq int int") => `(tactic| (k_here; refine neint_is (by assumption) ?_))
theorem PySem.Challenge.cw_un0024_01_holds : PySem.Challenge.rw_un0024_01.Holds := by
  w_top off
  refine Mine.hd ?_
  k_go0
  k_steps
  rename News _ _ _ _ => N9
  rename Fr _ _ _ _ => F9
  rename IntsAre _ (_ ++ _) => hI9
  obtain ⟨is, hIs, hl8⟩ := Mine.ints8 hI9
  clear hI9
  have hr8 : (rksOf is).length = 8 := by simp [rksOf, hl8]
  refine gc_list0 (fun i ys => NatsAre ys ((rksOf is).take i)) rfl F9 N9 (by rfl) (by rfl) (.head _) (by rw [IntsAre.length hIs, hl8]; decide) .nil ?_ ?_
  · intro i ys I oI C oC D m₂ h tk E' hi hB hJ hoC F5 N5 lI lL lD lC
    obtain ⟨xv, hx, hm⟩ := hB
    obtain ⟨z, t, hz, rfl⟩ := Mine.IntsAre.get hIs i xv hx
    refine gt_none ?_
    clear F9 N9
    k_steps
    rename News _ _ _ _ => N6
    rename Fr _ _ _ _ => F6
    have hJ2 := fun u => hJ.snoc (z.fmod 4096).toNat u
    have hrk : (rksOf is)[i]? = some (z.fmod 4096).toNat := by simp [rksOf, hz]
    simp only [rk_is, ← take_one hrk] at hJ2
    exact ⟨_, _, rfl, F6, N6, hJ2 _⟩
  · intro R rv h tk F10 N10 lD hJ
    have e8 : rv.length = 8 := by rw [hJ.len, List.length_take, IntsAre.length hIs, hl8, hr8]; rfl
    rw [IntsAre.length hIs, hl8, ← hr8, List.take_length] at hJ
    have hlt := rksOf_lt is
    have hJ' := hJ
    generalize rksOf is = rs at hJ hJ' hr8 hlt
    clear F9 N9 hIs hl8
    have N11 : News _ _ h _ := fun q hq => N10 q (Mine.mem_skip4 hq)
    have lR1 := lD _ (.tail _ (.tail _ (.tail _ (.tail _ (.head _)))))
    have lR2 := lD _ (.tail _ (.tail _ (.tail _ (.tail _ (.tail _ (.head _))))))
    have lR3 := lD _ (.tail _ (.tail _ (.tail _ (.tail _ (.tail _ (.tail _ (.head _)))))))
    have lR4 := lD _ (.tail _ (.tail _ (.tail _ (.tail _ (.tail _ (.tail _ (.tail _ (.head _))))))))
    have lR5 := lD _ (.tail _ (.tail _ (.tail _ (.tail _ (.tail _ (.tail _ (.tail _ (.tail _ (.head _)))))))))
    dsimp only at lR1 lR2 lR3 lR4 lR5
    clear N10 lD
    k_steps
    rename News _ _ _ _ => N12
    rename Fr _ _ _ _ => F12
    have h08 : 0 + rs.length ≤ 8 := by omega
    refine gc_enum0 (fun i ys => PathsAre ys ((carsOf rs 0 h08 hlt).take i)) rfl F12 N12 (by rfl) (by rfl) (by rfl) (by decide) (.head _) (by omega) .nil ?_ ?_
    · intro i ys e oe it oi C oC D m₂ h tk E' hi hB hJ hoC F5 N5 lI lL lit le lC
      obtain ⟨t, xv, hx, hmk, hm⟩ := hB
      obtain ⟨t2, rfl⟩ := hJ'.get i xv hx
      refine gt_none ?_
      clear F12 N12
      have hi8 : i < 8 := by omega
      generalize hrr : rs.getD i 0 = r at hm
      have hr4 : r < 4096 := by
        rw [← hrr]
        have hi' : i < rs.length := by omega
        have e1 : rs.getD i 0 = rs[i] := by simp [hi']
        rw [e1]; exact hlt _ (List.getElem_mem hi')
      have hri : rs[i]? = some r := by
        have hi' : i < rs.length := by omega
        rw [← hrr]; simp [hi']
      rcases Nat.mod_two_eq_zero_or_one i with hp | hp
      · have hpar : Int.fmod (i : Int) 2 = 0 := by rw [Int.fmod_eq_emod_of_nonneg _ (by decide)]; omega
        have b0 : (0 : Int) ≤ (r : Int) + 32768 := by omega
        have b1 : (r : Int) + 32768 < 10 ^ 10 := by omega
        have eo : ((r : Int) + 32768).natAbs = modeOf i r := by unfold modeOf; rw [if_pos hp]; omega
        k_steps
        rename News _ _ _ _ => N6
        rename Fr _ _ _ _ => F6
        rename Below _ _ _ _ => B6
        rename Frag.In _ _ => X6
        rename Top _ _ _ _ _ _ => T6
        unfold Hold
        rw [eo, str_digit i hi8]
        refine PCon.use (join_c _ (carOf i r hi8 hr4).nm _ _ _) B6 F6 X6 N6 T6 rfl (by decide) (by decide) ?_
        intro t7 h7 tk7 F7 N7
        have hJ7 := hJ.snoc (carOf i r hi8 hr4) t7
        rw [← take_one (carsOf_at0 rs h08 hlt i r hri hi8 hr4)] at hJ7
        exact ⟨_, _, rfl, F7, fun q hq => N7 q (.tail _ hq), hJ7⟩
      · have hpar : Int.fmod (i : Int) 2 = 1 := by rw [Int.fmod_eq_emod_of_nonneg _ (by decide)]; omega
        have b0 : (0 : Int) ≤ (r : Int) + 16384 := by omega
        have b1 : (r : Int) + 16384 < 10 ^ 10 := by omega
        have eo : ((r : Int) + 16384).natAbs = modeOf i r := by unfold modeOf; rw [if_neg (by omega)]; omega
        k_steps
        rename News _ _ _ _ => N6
        rename Fr _ _ _ _ => F6
        rename Below _ _ _ _ => B6
        rename Frag.In _ _ => X6
        rename Top _ _ _ _ _ _ => T6
        unfold Hold
        rw [eo, str_digit i hi8]
        refine PCon.use (join_c _ (carOf i r hi8 hr4).nm _ _ _) B6 F6 X6 N6 T6 rfl (by decide) (by decide) ?_
        intro t7 h7 tk7 F7 N7
        have hJ7 := hJ.snoc (carOf i r hi8 hr4) t7
        rw [← take_one (carsOf_at0 rs h08 hlt i r hri hi8 hr4)] at hJ7
        exact ⟨_, _, rfl, F7, fun q hq => N7 q (.tail _ hq), hJ7⟩
    · intro P pv h12 tk12 F13 N13 lP hP
      have hpw := carsOf_pw rs h08 hlt
      have hcr := carsOf_r rs 0 h08 hlt
      have hcl : (carsOf rs 0 h08 hlt).length = 8 := by rw [carsOf_len]; exact hr8
      rw [e8, List.take_of_length_le (Nat.le_of_eq hcl)] at hP
      generalize carsOf rs 0 h08 hlt = cars at hpw hcr hcl hP
      have pl8 : pv.length = 8 := by rw [hP.len]; exact hcl
      have lP0 := lP _ (.head _)
      have lP1 := lP _ (.tail _ (.head _))
      have lP2 := lP _ (.tail _ (.tail _ (.head _)))
      have lP3 := lP _ (.tail _ (.tail _ (.tail _ (.head _))))
      have lP4 := lP _ (.tail _ (.tail _ (.tail _ (.tail _ (.head _)))))
      have lP5 := lP _ (.tail _ (.tail _ (.tail _ (.tail _ (.tail _ (.head _))))))
      dsimp only at lP0 lP1 lP2 lP3 lP4 lP5
      clear F12 N12 lP
      k_steps
      unfold Hold
      k_dflt (refine wpAny_For ?_)
      k_steps
      unfold Hold
      rename News _ _ _ _ => N14
      rename Fr _ _ _ _ => F14
      obtain ⟨Fl, e14⟩ := nameN3 N14
      subst e14
      refine rng_iter (n := 8) F14 N14 (by decide) ?_
      intro I h14 tk14 F15 N15 lI
      have lI0 := lI _ (.head _)
      have lI1 := lI _ (.tail _ (.head _))
      have lI2 := lI _ (.tail _ (.tail _ (.head _)))
      have lI3 := lI _ (.tail _ (.tail _ (.tail _ (.head _))))
      have lI4 := lI _ (.tail _ (.tail _ (.tail _ (.tail _ (.head _)))))
      have lI5 := lI _ (.tail _ (.tail _ (.tail _ (.tail _ (.tail _ (.head _))))))
      have lI6 := lI _ (.tail _ (.tail _ (.tail _ (.tail _ (.tail _ (.tail _ (.head _)))))))
      have lI7 := lI _ (.tail _ (.tail _ (.tail _ (.tail _ (.tail _ (.tail _ (.tail _ (.head _))))))))
      dsimp only at lI0 lI1 lI2 lI3 lI4 lI5 lI6 lI7
      clear F14 N14 lI
      refine forLoopA (JF _ _ _ I Fl P R pv rv rs _) ?_ 8 ⟨_, _, 0, [], [], _, _, _, _, _, _, rfl, rfl, F15, N15, by assumption, by assumption, by assumption, by assumption, .nil, FallsTo.zero rs⟩
      clear F15 N15
      intro nn s9 hJF
      obtain ⟨h, tk, k, fv, fs, c, o1, o2, o3, o4, v2, rfl, hkn, F16, N16, d1, d2, d3, d4, hfv, hfs⟩ := hJF
      cases nn with
      | zero =>
        refine rng_end rfl F16 N16 ?_ (by omega) ?_
        · intro q hq
          simp only [List.mem_cons, List.not_mem_nil, or_false] at hq
          rcases hq with rfl | rfl | rfl | rfl | rfl | rfl | rfl | rfl <;> exact Nat.ne_of_lt (by assumption)
        intro h17 tk17 F17 N17
        have ek : k = 8 := by omega
        subst ek
        have hfo : FallsOK rs fs := (by rw [← hr8] at hfs; exact hfs.ok)
        have fvl : fv.length = 8 := by rw [hfv.len]; exact hfs.len
        clear F16 N16
        k_steps
        unfold Hold
        rename News _ _ _ _ => N18
        rename Fr _ _ _ _ => F18
        rename Below _ _ _ _ => B6
        rename Frag.In _ _ => X6
        rename Top _ _ _ _ _ _ => T6
        refine join_K (News.isList N18 (.tail _ (.head _))) hP (by omega) ?_
        intro t18 k18
        have fl1000 : (flat cars).length ≤ 1000 := Nat.le_trans (flat_len cars) (by omega)
        k_steps
        unfold Hold
        rename News _ _ _ _ => N19
        rename Fr _ _ _ _ => F19
        refine lexer_use0 (pre := [(Fl, _), (P, _), (R, _), (_, o4), (_, o3), (_, o2), (_, o1)]) B6 F19 X6 N19 T6 rfl (by decide) (by decide) codeHd fl1000 ?_ ?_
        · intro q hq
          simp only [List.mem_cons, List.not_mem_nil, or_false] at hq
          rcases hq with rfl | rfl | rfl | rfl | rfl | rfl | rfl <;> exact Nat.ne_of_gt (by dsimp only; omega)
        intro x own h20 tk20 vs20 F20 N20 hCF ncd LX eo LO hV n180 offx
        clear F19 N19
        have N20' := N20
        simp only [List.cons_append, List.nil_append] at N20'
        clear N20
        k_steps
        unfold Hold
        rename News _ _ _ _ => N21
        rename Fr _ _ _ _ => F21
        refine parked_use (pre := [(Fl, _), (P, _), (R, _), (_, o4), (_, o3), (_, o2), (_, o1)]) B6 F21 X6 N21 T6 rfl (by decide) (by decide) codeHd hCF ncd LX eo n180 offx hV (by omega) ?_
        intro Tq Qa Na xs nv cc1 cc3 own2 h22 tk22 F22 N22 hnv LN off2 ncq offp
        clear F21 N21
        simp only [List.cons_append, List.nil_append] at N22
        have hnums := falls_is hpw (by rw [hcr]; exact hfo)
        rw [hnums] at hnv
        have hqs : (park cars).qs.flatten.length ≤ 8 := by rw [(parkI cars hpw).perm.length_eq]; omega
        have hxs : xs.length ≤ 8 := by rw [LN.len, park_len]; exact Nat.le_trans (park_le cars) (by omega)
        have xsl : (xs.map (fun x : LA => Value.ref x.q)).length ≤ 1000 := by rw [List.length_map]; omega
        k_steps
        unfold Hold
        rename News _ _ _ _ => N23
        rename Fr _ _ _ _ => F23
        refine ne_nats (News.isList N23 (.tail _ (.head _))) (News.isList N23 (.tail _ (.tail _ (.tail _ (.head _))))) hnv hfv (show 4 + 3 < cLine by decide) ?_
        k_steps
        unfold Hold
        refine kso_max F23 N23 (News.isList N23 (.tail _ (.tail _ (.tail _ (.head _))))) (NatsAre.ints hfv) (by rw [List.length_map, hfs.len]; decide) rfl ?_
        intro h24 M tM tk24 F24 N24 hM1 hM2
        obtain ⟨mx, hmx, rfl⟩ := List.mem_map.mp hM1
        have hlm : (park cars).qs.length = mx := lines_max hpw (by rw [hnums]; exact hmx) (fun a ha => by
          rw [hnums] at ha
          have := hM2 (a : Int) (List.mem_map.mpr ⟨a, ha, rfl⟩)
          omega)
        have hnn : ((((xs.map (fun x : LA => Value.ref x.q)).length : Nat) : Int) != (mx : Int)) = false := by rw [List.length_map, LN.len, hlm]; simp
        clear F23 N23
        k_steps
        unfold Hold
        rename News _ _ _ _ => N25
        rename Fr _ _ _ _ => F25
        refine out_use (pre := [(Fl, _), (P, _), (R, _), (_, o4), (_, o3), (_, o2), (_, o1), (180, tab1 x.cd)]) B6 F25 X6 (fun q hq => N25 q (mem_out hq)) (fun q hq => N25 q (mem_pre hq)) (N25 (x.cd, x.oc) (.tail _ (.tail _ (.tail _ (.tail _ (.tail _ (.tail _ (.tail _ (.tail _ (.tail _ (.tail _ (.tail _ (.head _))))))))))))).1 T6 rfl (by decide) (by decide) off2 ncq offp LN hqs hxs ?_
        intro O ov out c26 h26 tk26 F26 N26 hov hMg
        clear F25 N25
        k_steps
        rename News _ _ _ _ => N27
        rename Fr _ _ _ _ => F27
        refine gc_enum (fun D i ys nw => ∃ tl : List Tp, nw = (O, PySem.W.listOf (List.toArray ov) c26) :: (Fl, PySem.W.listOf (List.toArray fv) c) :: (P, lst pv) :: (R, lst rv) :: (_, o4) :: (_, o3) :: (_, o2) :: (_, o1) :: (180, tab1 x.cd) :: (tl.map tupE ++ []) ∧ ys = tl.map (fun p : Tp => Value.ref p.1) ∧ PairsAre tl (prl rs i) ∧ ∀ p ∈ tl, @LT.lt Nat _ D p.1) rfl F27 N27 (by rfl) (by rfl) (by rfl) (by decide) (.tail _ (.tail _ (.tail _ (.head _)))) (by omega) (fun D lD => ⟨[], rfl, rfl, .nil, (fun p hp => nomatch hp)⟩) (fun D i ys nw hJ => by obtain ⟨tl, rfl, _⟩ := hJ; exact .tail _ (.tail _ (.tail _ (.head _)))) ?_ ?_
        · intro i ys nw e oe it oi C oC D3 m₂ h tk E' hi hB hJ9 hoC F28 N28 off28 lI lL lit le lC
          obtain ⟨tl, rfl, rfl, hPr, htl⟩ := hJ9
          obtain ⟨t, xv, hx', hmk, hm⟩ := hB
          obtain ⟨t2, rfl⟩ := hJ'.get i xv hx'
          refine gt_none ?_
          clear F27 N27
          k_steps
          rename News _ _ _ _ => N29
          rename Fr _ _ _ _ => F29
          obtain ⟨T2, e29⟩ := nameN3 N29
          subst e29
          have lT : @LT.lt Nat _ C T2 := by omega
          refine ⟨_, _, (O, PySem.W.listOf (List.toArray ov) c26) :: (Fl, PySem.W.listOf (List.toArray fv) c) :: (P, lst pv) :: (R, lst rv) :: (_, o4) :: (_, o3) :: (_, o2) :: (_, o1) :: (180, tab1 x.cd) :: ((tl ++ [(T2, Value.int ((rs.getD i 0 : Nat) : Int) _, Value.int (i : Int) _)]).map tupE ++ []), rfl, F29, fun z hz => N29 z (mem_mid (pre := [(e, oe), (it, oi), (C, oC), (D3, _), (O, _), (Fl, _), (P, _), (R, _), (_, o4), (_, o3), (_, o2), (_, o1), (180, tab1 x.cd)]) hz), Mine.off2 fun z hz => ?_, tl ++ [(T2, _, _)], rfl, by simp, by rw [prl_succ]; exact hPr.snoc T2 _ _ _ _, fun z hz => ?_⟩
          · rcases List.mem_cons.mp (mem_mid (pre := [(O, _), (Fl, _), (P, _), (R, _), (_, o4), (_, o3), (_, o2), (_, o1), (180, tab1 x.cd)]) hz) with rfl | hz
            · exact ⟨Nat.ne_of_gt (by show @LT.lt Nat _ e T2; omega), Nat.ne_of_gt (by show @LT.lt Nat _ it T2; omega), Nat.ne_of_gt lT, Nat.ne_of_gt (by show @LT.lt Nat _ D3 T2; omega)⟩
            · exact off28 z hz
          · rcases List.mem_append.mp hz with hz | hz
            · exact htl z hz
            · rw [List.mem_singleton.mp hz]; show @LT.lt Nat _ D3 T2; omega
        · intro D2 ys2 nw h28 tk28 F28 N28 lD2 off28 hJ9
          obtain ⟨tl, rfl, rfl, hPr, htl⟩ := hJ9
          rw [e8] at hPr
          have htl8 : tl.length = 8 := hPr.len.trans (prl_len _ _)
          obtain ⟨a0, ha0⟩ : ∃ a, cars[0]? = some a := ⟨_, List.getElem?_eq_getElem (by omega)⟩
          clear F27 N27
          k_steps
          unfold Hold
          refine sorted_tups (key8 rs) F28 N28 (.head _) (fun z hz => .tail _ (.tail _ (.tail _ (.tail _ (.tail _ (.tail _ (.tail _ (.tail _ (.tail _ (.tail _ (List.mem_append_left _ (List.mem_map_of_mem hz)))))))))))) hPr (by omega) (by omega) (fun i j a b => key8_lt i j a b) (fun i j hi hj => key8_inj i j (by omega) (by omega)) ?_
          intro D4 p e4 h29 F29 N29 lD4 PP hS
          rw [htl8] at PP hS
          have hsp := sort_cars a0 hpw hcr hcl PP hS
          have plen : p.toList.length = 8 := by rw [PP.perm.length_eq]; simp
          clear F28 N28
          refine gc_pairs0 (tps := p.toList.map fun i => tl.getD i (0, .none, .none)) (fun i ys => PathsAre ys ((p.toList.map fun j => cars.getD j a0).take i)) rfl F29 N29 (by rfl) (by rfl) (by rfl) (by decide) (.head _) ?_ (by rw [List.length_map, plen]; decide) .nil ?_ ?_
          · intro z hz
            obtain ⟨j, hj, rfl⟩ := List.mem_map.mp hz
            have hj8 : j < tl.length := by rw [htl8]; exact List.mem_range.mp (PP.perm.mem_iff.mp hj)
            have hm : tl.getD j (0, .none, .none) ∈ tl := List.mem_of_getElem? (by simp [hj8] : tl[j]? = some (tl.getD j (0, .none, .none)))
            exact .tail _ (.tail _ (.tail _ (.tail _ (.tail _ (.tail _ (.tail _ (.tail _ (.tail _ (.tail _ (.tail _ (List.mem_append_left _ (List.mem_map_of_mem hm))))))))))))
          · intro i ys I2 oI C oC D5 m₂ h tk E' hi hB hJ9 hoC F30 N30 lX lL lD lC
            obtain ⟨pp, hpp, hm1, hm2⟩ := hB
            rw [List.getElem?_map] at hpp
            obtain ⟨j, hj⟩ : ∃ j, p.toList[i]? = some j := ⟨_, List.getElem?_eq_getElem (by rw [List.length_map] at hi; exact hi)⟩
            rw [hj] at hpp
            have hj8 : j < 8 := List.mem_range.mp (PP.perm.mem_iff.mp (List.mem_of_getElem? hj))
            have epp : tl.getD j (0, .none, .none) = pp := by simpa using hpp
            have htj : tl[j]? = some pp := by rw [← epp]; simp [show j < tl.length by omega]
            obtain ⟨r1, k1, t1, u1, hprl, hpe⟩ := hPr.get j pp htj
            rw [prl_get hj8] at hprl
            cases hprl
            rw [hpe] at hm2
            dsimp only at hm2
            obtain ⟨vp, hvp⟩ : ∃ v, pv[j]? = some v := ⟨_, List.getElem?_eq_getElem (by omega)⟩
            obtain ⟨aj, tj, haj, rfl⟩ := PathsAre.get hP j vp hvp
            have ejc : cars.getD j a0 = aj := by rw [List.getD_eq_getElem?_getD, haj]; rfl
            have hsj : (p.toList.map fun j => cars.getD j a0)[i]? = some aj := by rw [List.getElem?_map, hj]; show some (cars.getD j a0) = some aj; rw [ejc]
            have jj : j ≤ 1000 := by omega
            refine gt_none ?_
            clear F29 N29
            k_steps
            rename News _ _ _ _ => N31
            rename Fr _ _ _ _ => F31
            exact ⟨_, _, rfl, F31, N31, by show PathsAre _ (List.take (i + 1) _); rw [take_one hsj]; exact hJ9.snoc aj _⟩
          · intro D6 ys6 h31 tk31 F31 N31 lD6 hJ9
            rw [List.length_map, List.take_of_length_le (by rw [List.length_map]; exact Nat.le_refl _)] at hJ9
            have hout := merge_is hpw hMg hsp.1 hsp.2
            subst hout
            clear F29 N29
            k_steps
            unfold Hold
            refine eq_paths (News.isList N31 (.tail _ (.tail _ (.tail _ (.head _))))) (News.isList N31 (.head _)) hov hJ9 (show 4 + 3 < cLine by decide) ?_
            k_steps
      | succ n' =>
        refine rng_item F16 N16 ?_ (by omega) ?_
        · intro q hq
          simp only [List.mem_cons, List.not_mem_nil, or_false] at hq
          rcases hq with rfl | rfl | rfl | rfl | rfl | rfl | rfl | rfl <;> exact Nat.ne_of_lt (by assumption)
        intro h17 t17 tk17 F17 N17
        clear F16 N16
        rw [show ((k : Int) + 1) = ((k + 1 : Nat) : Int) from rfl, show (((n' + 1 : Nat) : Int) - 1) = (n' : Int) from by omega] at N17
        k_steps
        unfold Hold
        rename News _ _ _ _ => N18
        rename Fr _ _ _ _ => F18
        obtain ⟨Z, e18⟩ := nameN3 N18
        subst e18
        have k8 : k < 8 := by omega
        have fvl : fv.length = k := by rw [hfv.len]; exact hfs.len
        have rvg : ∀ j, j < 8 → ∃ t, rv[j]? = some (.int ((rs.getD j 0 : Nat) : Int) t) := fun j hj => by
          obtain ⟨v, hv⟩ : ∃ v, rv[j]? = some v := ⟨_, List.getElem?_eq_getElem (by omega)⟩
          obtain ⟨t, rfl⟩ := hJ'.get j v hv
          exact ⟨t, hv⟩
        obtain ⟨tkk, rvk⟩ := rvg k k8
        refine gc_range0 (fun i ys => NatsAre ys (cand rs fs k i)) rfl F18 N18 (by rfl) (by rfl) (by omega) .nil ?_ ?_
        · intro i ys I2 oI C oC D m₂ h tk E' hi hB hJ9 hoC F19 N19 lX lL lD lC
          obtain ⟨t, hm⟩ := hB
          obtain ⟨tki, rvi⟩ := rvg i (by omega)
          obtain ⟨vf, hvf⟩ : ∃ v, fv[i]? = some v := ⟨_, List.getElem?_eq_getElem (by omega)⟩
          obtain ⟨tf, rfl⟩ := hfv.get i vf hvf
          have ki : k ≤ 1000 := by omega
          have ii : i ≤ 1000 := by omega
          have hcs := cand_succ rs fs k i
          refine gt_one ?_
          clear F18 N18
          k_steps
          · rename News _ _ _ _ => N20
            rename Fr _ _ _ _ => F20
            have hle : rs.getD k 0 < rs.getD i 0 := by omega
            rw [if_pos hle] at hcs
            exact ⟨_, _, rfl, F20, N20, by show NatsAre _ (cand rs fs k (i + 1)); rw [hcs]; exact hJ9.snoc _ _⟩
          · rename News _ _ _ _ => N20
            rename Fr _ _ _ _ => F20
            have hle : ¬ rs.getD k 0 < rs.getD i 0 := by omega
            rw [if_neg hle, List.append_nil] at hcs
            exact ⟨_, _, rfl, F20, N20, by show NatsAre _ (cand rs fs k (i + 1)); rw [hcs]; exact hJ9⟩
        · intro D ys h19 tk19 F19 N19 lD hJ9
          have cl9 := cand_len rs fs k k
          have lDZ := lD _ (.head _)
          have lDI := lD _ (.tail _ (.head _))
          have lDF := lD _ (.tail _ (.tail _ (.head _)))
          dsimp only at lDZ lDI lDF
          have yl : ys.length ≤ 1000 := by rw [hJ9.len]; omega
          clear F18 N18
          k_steps
          unfold Hold
          rename News _ _ _ _ => N20
          rename Fr _ _ _ _ => F20
          refine kso_max F20 N20 (News.isList N20 (.head _)) (NatsAre.ints (NatsAre.cons 0 _ hJ9)) (by simp) rfl ?_
          intro h21 M tM tk21 F21 N21 hM1 hM2
          obtain ⟨mx, rfl, hx1, hx2⟩ := max_of hM1 hM2
          clear F20 N20 F19 N19 hM1 hM2
          have fl9 : fv.length ≤ 1000 := by omega
          k_steps
          rename News _ _ _ _ => N22
          rename Fr _ _ _ _ => F22
          rename Obj.data _ = Data.cell (some (Value.int _ _)) => d22
          have hfs2 := hfs.snoc hx1 hx2
          have hfv2 := fun u => hfv.snoc (mx + 1) u
          rw [show ((mx + 1 : Nat) : Int) = 1 + (mx : Int) from by omega] at hfv2
          exact ⟨n', Nat.lt_succ_self _, _, _, k + 1, _, _, _, _, _, _, _, _, rfl, by omega, F22, fun q hq => N22 q (.tail _ (.tail _ (.tail _ hq))), d1, d22, d3, d4, hfv2 _, hfs2⟩
