import PyProof.Rows.All
import Wide.All
import OpenK.AllK
import Wide.FinOn
import Lean
import PySem.Challenge.RW_pd0102_01
open PySem PySem.W PyProof.Rows PySem.Calls
set_option Elab.async false
namespace Mine
set_option maxRecDepth 100000
set_option maxHeartbeats 8000000
abbrev R0 : OpenRow := PySem.Challenge.rw_pd0102_01.row
theorem opening_is : opening R0.prog = plainProg R0.prog.main.scope.names := by kernel_rfl
theorem fence_is : ∀ s, fenceModules? R0.prog s = some s := fun s => by kernel_rfl
/- The head at once, not in pieces (so the compiled text stays small): «left» is one equation over the library's quick twins of topRun, treeTable and openSeen, from the booted heap on. -/
noncomputable def topFromQ : { f : Program → World → Nat → Shared → Option Shared // topFrom treeTable = f } := ⟨_, by
  delta topFrom
  rw [PySem.W.Fast.te14082659384304107361, PySem.W.Fast.te14364793385576792824]⟩
abbrev Lft (q : Program) (loose : List Str) (Xt : Shared → Bool) {α : Type} (Yf : Shared → α) (Ya : World → α) (N : Nat) : Prop :=
  ∀ w : World, (Nat.ble 600 N, fun os : OsState => (topFromQ.1 R0.prog w N ⟨boot_heap w.params, #[], boot_drawn, boot_toks, os⟩).map (fun s => (PySem.W.Fast.tw4187177175401517315 q loose (importedModules R0.prog.main.body) Xt true s, Yf s))) =
    (true, fun _ => some (openGood q loose, Ya w))
theorem Lft.go {q : Program} {loose : List Str} {Xt : Shared → Bool} {α : Type} {Yf : Shared → α} {Ya : World → α} {N : Nat} (h : Lft q loose Xt Yf Ya N) : LeftO R0.prog q loose Xt Yf Ya N := fun w => by
  obtain ⟨h1, h2⟩ := Prod.mk.inj (h w)
  obtain ⟨⟨hp, gs, d, k, os⟩, e, e'⟩ := Option.map_eq_some_iff.mp (boot_open opening_is h1 fence_is w)
  obtain ⟨rfl, rfl, rfl, rfl⟩ : hp = boot_heap w.params ∧ gs = #[] ∧ d = boot_drawn ∧ k = boot_toks := by simpa using e'
  show (openEnds _ _ _ _).map _ = _
  unfold openEnds
  rw [e, topFromQ.2, PySem.W.Fast.te4187177175401517315]
  exact congrFun h2 os
noncomputable def vw : Program := view R0.prog [0, 2, 4, 6, 7, 9, 11, 13, 14, 15, 16, 18, 19, 21, 22, 23, 24, 25, 26, 27, 28, 29, 30]
section
local macro_rules | `(tactic| o_head $H) => `(tactic| (refine holds_open (r := R0) (q := vw) (loose := []) (Xt := fun s => xlAt vw [] s && recOk (RowW.records R0.toRowW) s) (XP := XL vw []) (Yf := Hook.obs $H) (Ya := Hook.val $H) (YP := Hook.says $H) (N := 2604) (Lft.go ?hl) (Hook.of $H) (Hook.keeps $H) (fun s e => xl_of s (Bool.and_eq_true_iff.mp e).1) XL.keeps (by rfl) (by rfl) (by rfl) (fun s e => recFacts_of (Bool.and_eq_true_iff.mp e).2) (by rfl) (by assumption) (by decide +kernel) ⟨rfl, rfl, rfl, rfl, rfl, by decide +kernel⟩ ?hw ?hc; (case hl => (intro w; kernel_rfl)); (all_goals (rename_i x9; clear x9))))
open_top hd for PySem.Challenge.rw_pd0102_01
end

abbrev P0 : Program := PySem.Challenge.rw_pd0102_01.row.prog
noncomputable abbrev KF (w : World) : Frag := Mine.hd.heap_39 w.params
noncomputable abbrev TopM (mean : ExcName → Option Value) (mg mb : Str → Option Value) (h : Heap) : Prop := Top Mine.vw (looseW Mine.vw []) mean mg mb h

/-- what a call may lean on -/
structure Gr (w : World) (mean : ExcName → Option Value) (mg mb : Str → Option Value) (c : Nat) (A : Around) (h : Heap) : Prop where
  k : (KF w).In h
  t : TopM mean mg mb h
  hh : A.handled = none
  hd : A.depth + c ≤ 900
  hu : A.units + 10 * c ≤ 9000
theorem Gr.sub {w : World} {mean : ExcName → Option Value} {mg mb : Str → Option Value} {c c' : Nat} {A : Around} {h₀ h : Heap} {L : Addr} {m : Str → Option Value} {env : Env} (G : Gr w mean mg mb c A h₀) (F : Fr h₀ L h m) (hc : c' + 1 ≤ c) :
    Gr w mean mg mb c' (A.deeper env) h :=
  ⟨G.k.keeps F.keep, G.t.keeps F.keep, G.hh, by have := G.hd; show A.depth + 1 + c' ≤ 900; omega, by have := G.hu; show A.units + 3 + 10 * c' ≤ 9000; omega⟩
theorem Gr.sub0 {w : World} {mean : ExcName → Option Value} {mg mb : Str → Option Value} {c c' : Nat} {A : Around} {h₀ h : Heap} (G : Gr w mean mg mb c A h₀) (F : h₀.StaysIn h) (hc : c' ≤ c) :
    Gr w mean mg mb c' A h :=
  ⟨G.k.keeps F, G.t.keeps F, G.hh, by have := G.hd; omega, by have := G.hu; omega⟩

theorem enter {w : World} {mean : ExcName → Option Value} {mg mb : Str → Option Value} {c : Nat} {A : Around} {s : Shared} {K : Frag} {Q E : Value → Shared → Prop} {name qual : Str} {params : Arguments} {body : List Stmt} {scope : Scope} {dV kV doc pm cdv ct oc : Value} {an od : Option Addr} {osl : Array (Option Value)} {f : Addr} {vs : List Value} {binds : List (Str × Value)}
    (G : Gr w mean mg mb c A s.heap) (hK : K = KF w)
    (ho : K.lookup f = some ⟨oc, od, .func (fnOf name qual params body scope dV kV doc pm an cdv ct), osl⟩) (hcd : codeIn K cdv qual = true)
    (hbind : BindsTo s (fnOf name qual params body scope dV kV doc pm an cdv ct) ⟨vs, []⟩ binds) (hloc : ∀ y ∈ binds, scope.names.lookup y.1 = some .local)
    (h : ∀ L' h₁, Fr s.heap L' h₁ (fun y => binds.reverse.lookup y) → News s.heap L' h₁ [] →
      wpAny (model P0 w) (A.deeper (envOf qual scope L' f cdv)) (execs body (envOf qual scope L' f cdv))
        (fun fl s' => Q (match fl with | .ret v => v | _ => .none) s') (fun _ _ => False)
        { s with heap := h₁, toks := s.toks + binds.length })
    (hco : scope.isCoroutine = false) (hgen : scope.isGenerator = false) (hk : scope.kind = .function)
    (hcell : ∀ x ∈ scope.names, x.2 ≠ .cell) : wpAny (model P0 w) A (call (.ref f) vs) Q E s := by
  subst hK
  refine wpAny_call ?_
  refine codeAny_call_def (fd := fnOf name qual params body scope dV kV doc pm an cdv ct) (body := body) (binds := binds) (Nat.lt_of_le_of_lt (Nat.le_trans (Nat.le_add_right _ c) G.hd) (by decide)) (G.k _ _ ho) rfl G.t.nolimit (codeRec_of G.k hcd) rfl hbind hcell hloc (fun h₁ hns hk₁ => ?_) hco hgen hk
  exact wpAny_mono (h s.heap.objs.size h₁ ⟨hns, hk₁, Nat.le_refl _⟩ (fun _ hp => nomatch hp)) (fun fl s' hl => hl) fun _ _ y => y.elim

theorem enterV {w : World} {mean : ExcName → Option Value} {mg mb : Str → Option Value} {c : Nat} {A : Around} {s : Shared} {K : Frag} {Q E : Value → Shared → Prop} {name qual : Str} {params : Arguments} {body : List Stmt} {scope : Scope} {dV kV doc pm cdv ct oc : Value} {an od : Option Addr} {osl : Array (Option Value)} {f : Addr} {vs rest : List Value} {pn : Str} {bs : List (Str × Value)}
    (G : Gr w mean mg mb c A s.heap) (hK : K = KF w)
    (ho : K.lookup f = some ⟨oc, od, .func (fnOf name qual params body scope dV kV doc pm an cdv ct), osl⟩) (hcd : codeIn K cdv qual = true)
    (hbind : bindArgs (fnOf name qual params body scope dV kV doc pm an cdv ct) ⟨vs, []⟩ = (newTuple rest >>= fun t => pure (bs ++ [(pn, t)]))) (hz : rest.length ≤ sizeLine)
    (hloc : ∀ v : Value, ∀ y ∈ bs ++ [(pn, v)], scope.names.lookup y.1 = some .local)
    (h : ∀ T L' h₁ tk, Fr s.heap L' h₁ (fun y => (bs ++ [(pn, Value.ref T)]).reverse.lookup y) → News s.heap L' h₁ [(T, { cls := .type "tuple", data := .seq rest.toArray })] →
      wpAny (model P0 w) (A.deeper (envOf qual scope L' f cdv)) (execs body (envOf qual scope L' f cdv))
        (fun fl s' => Q (match fl with | .ret v => v | _ => .none) s') (fun _ _ => False)
        { s with heap := h₁, toks := tk })
    (hco : scope.isCoroutine = false) (hgen : scope.isGenerator = false) (hk : scope.kind = .function)
    (hcell : ∀ x ∈ scope.names, x.2 ≠ .cell) : wpAny (model P0 w) A (call (.ref f) vs) Q E s := by
  subst hK
  refine wpAny_call ?_
  refine codeAny_call_function (Nat.lt_of_le_of_lt (Nat.le_trans (Nat.le_add_right _ c) G.hd) (by decide)) (G.k _ _ ho) rfl hco hgen rfl (codeRec_of G.k hcd) ?_
  rw [hbind]
  refine wpAny_bind (wpAny_newObj_type (wpAny_pure ?_) (by show rest.toArray.size ≤ sizeLine; rw [List.size_toArray]; exact hz))
  refine wpAny_newFunctionEnv hcell (hloc _) (fun h₁ hns hsb => ⟨Heap.NoLimit.fresh (G.t.nolimit.keeps fun b o e => Heap.get?_push_of_some _ e) _ hsb, ?_⟩) hk
  have keep1 : ∀ b o, (s.heap.push { cls := .type "tuple", data := .seq rest.toArray }).get? b = some o → h₁.get? b = some o := fun b o e => hsb.extBut b o (Nat.ne_of_lt (Heap.lt_size e)) (Heap.get?_push_of_some _ e)
  refine codeAny_func (wpAny_mono (h s.heap.objs.size (s.heap.push { cls := .type "tuple", data := .seq rest.toArray }).objs.size h₁ _ ⟨hns, fun b o e => keep1 b o (Heap.get?_push_of_some _ e), ?_⟩ ?_) (fun fl s' hl => hl) fun _ _ y => y.elim)
  · rw [Heap.size_push]; exact Nat.le_succ _
  · intro p hp
    rw [List.mem_singleton.mp hp]
    refine ⟨keep1 _ _ (Heap.get?_push_size _ rfl), ?_, ?_⟩
    · rw [Heap.size_push]; exact Nat.ne_of_lt (Nat.lt_succ_self _)
    · cases q : s.heap.get? s.heap.objs.size with
      | none => rfl
      | some o => exact absurd (Heap.lt_size q) (Nat.lt_irrefl _)
theorem kun9 {c : Nat} {A : Around} {w : World} {mean : ExcName → Option Value} {mg mb : Str → Option Value} {h : Heap} (G : Gr w mean mg mb c A h) : A.units ≤ 9000 := by have := G.hu; omega

theorem fill0_all : Mine.hd.heap_39 = Mine.hd.heap_39 ∧ PySem.Challenge.rw_pd0102_01 = PySem.Challenge.rw_pd0102_01 := by
  k_fill
  exact ⟨rfl, rfl⟩
theorem kind_issub_nested : builtinKind "issubclass.nested" = none := by decide +kernel
theorem plain_issub_nested : plainId "issubclass.nested" = true := by decide +kernel
theorem args_issub_nested (a b c : Value) : argsOk "issubclass.nested" ⟨[a, b, c], []⟩ := by unfold argsOk; kernel_rfl
section
variable {prog : Program} {w : World} {A : Around} {E : Value → Shared → Prop} {s : Shared}
theorem issub_nested_str {k : Value} {dep : Int} {tk : Tok} {Q : Fin → Shared → Prop} (hk : k = .int dep tk) (hq : Q (.done (.ret (.bool true))) s) :
    wpAny (model prog w) A (Builtin.«issubclass.nested» ⟨[.type "str", .type "str", k], []⟩) Q E s := by
  subst hk
  have hm := PySem.F.isi_meta_str
  have hself := PySem.F.sub_str_str
  repeat (any_goals (first | assumption | (rw [hself]) | wp_step))
theorem issub_tuple {tp : Addr} {cs : List Value} {c : Value} {n : Nat} {Q : Value → Shared → Prop} (htp : s.heap.get? tp = some { cls := .type "tuple", data := .seq cs.toArray n }) (hcs : cs = [.type "str", c]) (h : ∀ tk, Q (.bool true) { s with toks := tk }) :
    wpAny (model prog w) A (call (.builtin "issubclass") [.type "str", .ref tp]) Q E s := by
  refine call_issubclass (S := fun _ R s => s.heap.get? tp = some { cls := .type "tuple", data := .seq cs.toArray n } ∧ ∀ tk, R (.ok (.ret (.bool true))) { s with toks := tk }) (fun prog w A R s hs => issubclass_outer ?_) ⟨htp, h⟩
  obtain ⟨htp, hq⟩ := hs
  obtain ⟨h, g, d, t, os⟩ := s
  have hT2 : (⟨h, g, d, t, os⟩ : Shared).TypeIs (.ref tp) "tuple" := ⟨_, htp, rfl⟩
  have f1 := F.isi_sub_tuple
  repeat (any_goals (first | assumption | wp_step))
  refine wpAny_arrayLoop ?_
  simp only [Option.getD_some, List.toList_toArray]
  subst hcs
  rw [List.forIn_cons]
  refine wpAny_bind (wpAny_bind (call_function_meets kind_issub_nested plain_issub_nested PySem.F.entry_issubclass_nested (args_issub_nested _ _ _) (S := fun _ R s => R (.ok (.ret (.bool true))) s) (fun _ _ _ _ _ hs => issub_nested_str rfl hs) ?_))
  show wpAny _ _ (truthy (.bool true) >>= _) _ _ _
  refine wpAny_bind (m := truthy (.bool true)) (wpAny_pure ?_)
  simp only [if_true]
  refine wpAny_bind (wpAny_pure (wpAny_pure ?_))
  repeat (any_goals (first | assumption | wp_step))
  exact hq t
end


theorem Fr.norm {g h : Heap} {L : Addr} {m : Str → Option Value} (F : Fr g L h m) (ps : List (Str × Value)) (hp : ∀ p ∈ ps, m p.1 = some p.2) :
    Fr g L h (fun y => (List.lookup y ps).or (m y)) := by
  have e : (fun y => (List.lookup y ps).or (m y)) = m := by
    funext y
    induction ps with
    | nil => rfl
    | cons p r ih =>
      by_cases hy : y = p.1
      · subst hy
        rw [List.lookup_cons, beq_self_eq_true]
        exact (hp p (.head _)).symm
      · rw [List.lookup_cons, beq_eq_false_iff_ne.mpr hy]
        exact ih fun q hq => hp q (.tail _ hq)
  rw [e]; exact F

abbrev no : Value → Shared → Prop := fun _ _ => False

def TurnM (Q : Flow → Shared → Prop) (s₂ : Shared) (fp : List Addr) (h : Heap) (Inv : Heap → Prop) (f : Flow) (s' : Shared) : Prop :=
  match f with
  | .ret v => Q (.ret v) s'
  | .brk => Q .next s'
  | _ => ∃ h' tk', s' = { s₂ with heap := h', toks := tk' } ∧ Inv h' ∧ ∀ b ∈ fp, ∀ o, h.get? b = some o → h'.get? b = some o

def LoopM (prog : Program) (w : World) (A : Around) (env : Env) (target : Expr) (body : List Stmt) (Q : Flow → Shared → Prop) (it : Value) (s₂ : Shared) : Prop :=
  ∃ (I : Addr) (fp wr : List Addr) (n : Nat) (P : Nat → Value → Prop) (St : Nat → Heap → Prop) (Inv : Nat → Heap → Prop),
    it = .ref I ∧ Walks prog w A I fp wr n P St ∧ St 0 s₂.heap ∧ Inv 0 s₂.heap ∧
    (∀ i h h', Inv i h → (∀ b o, b ∉ wr → h.get? b = some o → h'.get? b = some o) → Inv i h') ∧
    (∀ i v h tk, s₂.toks ≤ tk → i < n → P i v → St (i + 1) h → Inv i h →
      wpAny (model prog w) A (letOwnedTupleGo target (.ref I) v) (fun _ s₃ => wpAny (model prog w) A (assign target env v) (fun _ s₄ => wpAny (model prog w) A (execs body env) (TurnM Q s₂ fp h (Inv (i + 1))) no s₄) no s₃) no { s₂ with heap := h, toks := tk }) ∧
    (∀ h tk, s₂.toks ≤ tk → Inv n h → Q .next { s₂ with heap := h, toks := tk })

section
variable {prog : Program} {w : World} {A : Around} {E : Value → Shared → Prop} {s : Shared} {env : Env} {target iter : Expr} {body : List Stmt} {pos : Pos} {Q : Flow → Shared → Prop}

theorem loop_code {it : Value} {R : Result → Shared → Prop} (h : LoopM prog w A env target body (fun f s' => R (.ok f) s') it s) : codeAny (model prog w) A (.forLoop target it body [] env) R s := by
  obtain ⟨I, fp, wr, n, P, St, Inv, rfl, W, st0, inv0, stable, turn, done⟩ := h
  refine codeAny_forLoop_any (fun k s' => ∃ h' tk i, s' = { s with heap := h', toks := tk } ∧ s.toks ≤ tk ∧ St i h' ∧ Inv i h' ∧ i ≤ n ∧ k = n + 1 - i) ?_ (n + 1) ⟨s.heap, s.toks, 0, rfl, Nat.le_refl _, st0, inv0, Nat.zero_le _, rfl⟩
  rintro k s' ⟨h', tk, i, rfl, htk, st, inv, hi, rfl⟩
  refine wpAny_with_toks (n := s.toks) htk ?_
  by_cases hlt : i < n
  · refine W.item i _ _ _ hlt st fun v h₁ tk₁ hP hst₁ hk₁ => fun htk₁ => ?_
    refine wpAny_with_toks (n := s.toks) htk₁ (wpAny_mono (turn i v h₁ tk₁ htk₁ hlt hP hst₁ (stable i _ _ inv hk₁)) (fun _ s₃ h₃ ht₃ => wpAny_with_toks (n := s.toks) ht₃ (wpAny_mono h₃ (fun _ s₄ h₄ ht₄ => wpAny_with_toks (n := s.toks) ht₄ (wpAny_mono h₄ (fun f s₅ h₅ ht₅ => ?_) fun _ _ x => x.elim)) fun _ _ x => x.elim)) fun _ _ x => x.elim)
    have fin : (∃ h' tk', s₅ = { s with heap := h', toks := tk' } ∧ Inv (i + 1) h' ∧ ∀ b ∈ fp, ∀ o, h₁.get? b = some o → h'.get? b = some o) →
        ∃ m, m < n + 1 - i ∧ ∃ h' tk i, s₅ = { s with heap := h', toks := tk } ∧ s.toks ≤ tk ∧ St i h' ∧ Inv i h' ∧ i ≤ n ∧ m = n + 1 - i := by
      rintro ⟨h₂, tk₂, rfl, inv₂, keep⟩
      exact ⟨n + 1 - (i + 1), by omega, h₂, tk₂, i + 1, rfl, ht₅, W.frame _ _ _ hst₁ keep, inv₂, hlt, rfl⟩
    cases f with
    | ret v => exact h₅
    | brk => exact h₅
    | next => exact fin h₅
    | cont => exact fin h₅
  · have hin : i = n := by omega
    subst hin
    refine W.done _ _ _ st fun h₁ tk₁ hk₁ => fun htk₁ => wpAny_execs_nil ?_
    exact done h₁ tk₁ htk₁ (stable _ _ _ inv hk₁)

theorem for_any (h : wpAny (model prog w) A (eval iter env) (fun xv s₁ => wpAny (model prog w) A (pyIter xv) (fun it s₂ => LoopM prog w A env target body Q it s₂) no s₁) no s)
    (hs : ∀ x, foldedSetIterable iter env x = pure x := by intro _; rfl) : wpAny (model prog w) A (exec (.For target iter body [] pos) env) Q E s :=
  wpAny_mono (E := no) (wpAny_For (wpAny_mono h (fun _ _ h₁ => wpAny_mono h₁ (fun _ _ h₂ => loop_code h₂) fun _ _ x => x) fun _ _ x => x) hs) (fun _ _ x => x) fun _ _ x => x.elim
end

/-- a turn's end, over the frame and the ledger -/
def TurnF {σ : Type} (Q : Flow → Shared → Prop) (s₂ : Shared) (g : Heap) (L : Addr) (own : List (Addr × Obj)) (ps : σ → List (Str × Value)) (led : σ → List (Addr × Obj)) (J : σ → Prop) (f : Flow) (s' : Shared) : Prop :=
  match f with
  | .ret v => Q (.ret v) s'
  | .brk => Q .next s'
  | _ => ∃ h' tk' c m, s' = { s₂ with heap := h', toks := tk' } ∧ Fr g L h' m ∧ (∀ p ∈ ps c, m p.1 = some p.2) ∧ News g L h' (own ++ led c) ∧ J c

section
variable {prog : Program} {w : World} {A : Around} {s : Shared} {env : Env} {target : Expr} {body : List Stmt} {Q : Flow → Shared → Prop} {g : Heap}

theorem loop_fr {σ : Type} {I : Addr} {fp : List Addr} {n : Nat} {P : Nat → Value → Prop} {St : Nat → Heap → Prop} (ps : σ → List (Str × Value)) (led : σ → List (Addr × Obj)) (J : Nat → σ → Prop)
    (W : Walks prog w A I fp [I] n P St) (hob : ∀ i h, St i h → ∃ o, h.get? I = some o) (hLI : env.locals ≠ I) (hI : g.get? I = none)
    (hfp : ∀ b ∈ fp, b = I ∨ (∃ o, g.get? b = some o) ∨ (∃ o, ∀ i c, J i c → (b, o) ∈ led c)) (hled : ∀ i c, J i c → ∀ p ∈ led c, p.1 ≠ I)
    (hst : St 0 s.heap) {c₀ : σ} {m₀ : Str → Option Value} (F : Fr g env.locals s.heap m₀) (hps : ∀ p ∈ ps c₀, m₀ p.1 = some p.2) (N : News g env.locals s.heap (led c₀)) (hJ : J 0 c₀)
    (hgo : ∀ i (s' : Shared) v (Q' : Unit → Shared → Prop), St i s'.heap → Q' () s' → wpAny (model prog w) A (letOwnedTupleGo target (.ref I) v) Q' no s')
    (turn : ∀ i v h tk c (m : Str → Option Value) oI, s.toks ≤ tk → i < n → P i v → J i c → Fr g env.locals h (fun y => (List.lookup y (ps c)).or (m y)) → News g env.locals h ((I, oI) :: led c) →
      wpAny (model prog w) A (assign target env v) (fun _ s₄ => wpAny (model prog w) A (execs body env) (TurnF Q s g env.locals [(I, oI)] ps led (J (i + 1))) no s₄) no { s with heap := h, toks := tk })
    (done : ∀ h tk c (m : Str → Option Value), s.toks ≤ tk → J n c → Fr g env.locals h (fun y => (List.lookup y (ps c)).or (m y)) → News g env.locals h (led c) → Q .next { s with heap := h, toks := tk }) :
    LoopM prog w A env target body Q (.ref I) s := by
  have keepInv : ∀ i h h', (∃ c m, Fr g env.locals h m ∧ (∀ p ∈ ps c, m p.1 = some p.2) ∧ News g env.locals h (led c) ∧ J i c) → (∀ b o, b ∉ [I] → h.get? b = some o → h'.get? b = some o) →
      ∃ c m, Fr g env.locals h' m ∧ (∀ p ∈ ps c, m p.1 = some p.2) ∧ News g env.locals h' (led c) ∧ J i c := by
    rintro i h h' ⟨c, m, F, hp, N, j⟩ hk
    refine ⟨c, m, ⟨F.ns.at' fun o e => hk _ o (by simpa using hLI) e, fun b o e => hk b o (fun hb => ?_) (F.keep b o e), F.above⟩, hp, fun p hp' => ⟨hk _ _ (by simpa using hled i c j p hp') (N p hp').1, (N p hp').2⟩, j⟩
    rw [List.mem_singleton.mp hb, hI] at e; cases e
  refine ⟨I, fp, [I], n, P, St, fun i h => ∃ c m, Fr g env.locals h m ∧ (∀ p ∈ ps c, m p.1 = some p.2) ∧ News g env.locals h (led c) ∧ J i c, rfl, W, hst, ⟨c₀, m₀, F, hps, N, hJ⟩, keepInv, ?_, ?_⟩
  · rintro i v h tk htk hi hP hst' ⟨c, m, F, hp, N, j⟩
    obtain ⟨oI, hoI⟩ := hob _ _ hst'
    refine hgo (i + 1) _ v _ hst' ?_
    have NI : News g env.locals h ((I, oI) :: led c) := fun p hp' => by
      rcases List.mem_cons.mp hp' with rfl | hp'
      · exact ⟨hoI, Ne.symm hLI, hI⟩
      · exact N p hp'
    refine wpAny_mono (turn i v h tk c m oI htk hi hP j (Fr.norm F _ hp) NI) (fun _ s₄ h₄ => wpAny_mono h₄ (fun f s₅ h₅ => ?_) fun _ _ x => x) fun _ _ x => x
    have fin : (∃ h' tk' c m, s₅ = { s with heap := h', toks := tk' } ∧ Fr g env.locals h' m ∧ (∀ p ∈ ps c, m p.1 = some p.2) ∧ News g env.locals h' ([(I, oI)] ++ led c) ∧ J (i + 1) c) →
        ∃ h' tk', s₅ = { s with heap := h', toks := tk' } ∧ (∃ c m, Fr g env.locals h' m ∧ (∀ p ∈ ps c, m p.1 = some p.2) ∧ News g env.locals h' (led c) ∧ J (i + 1) c) ∧ ∀ b ∈ fp, ∀ o, h.get? b = some o → h'.get? b = some o := by
      rintro ⟨h', tk', c', m', rfl, F', hp', N', j'⟩
      refine ⟨h', tk', rfl, ⟨c', m', F', hp', fun p hp => N' p (List.mem_append_right _ hp), j'⟩, fun b hb o e => ?_⟩
      rcases hfp b hb with rfl | ⟨o₀, ho₀⟩ | ⟨o₀, ho₀⟩
      · have := (N' (b, oI) (by simp)).1
        rw [hoI] at e
        rw [← e]; exact this
      · have := F.keep b o₀ ho₀
        rw [this] at e
        rw [← e]; exact F'.keep b o₀ ho₀
      · have := (N (b, o₀) (ho₀ _ _ j)).1
        rw [this] at e
        rw [← e]; exact (N' (b, o₀) (List.mem_append_right _ (ho₀ _ _ j'))).1
    cases f with
    | ret v => exact h₅
    | brk => exact h₅
    | next => exact fin h₅
    | cont => exact fin h₅
  · rintro h tk htk ⟨c, m, F, hp, N, j⟩
    exact done h tk c m htk j (Fr.norm F _ hp) N

theorem go_name {x : Str} {p : Pos} {it v : Value} {Q' : Unit → Shared → Prop} {E : Value → Shared → Prop} {s' : Shared} (h : Q' () s') : wpAny (model prog w) A (letOwnedTupleGo (.Name x p) it v) Q' E s' := wpAny_pure h

theorem go_listiter {es : List Expr} {k : Nat} {p : Pos} {I l : Addr} {i : Nat} {v : Value} {Q' : Unit → Shared → Prop} {E : Value → Shared → Prop} {s' : Shared} (hit : s'.heap.IsListIter I l i) (h : Q' () s') :
    wpAny (model prog w) A (letOwnedTupleGo (.Tuple es k p) (.ref I) v) Q' E s' := by
  obtain ⟨o, ho, hc, hd⟩ := hit
  unfold letOwnedTupleGo
  cases v with
  | ref a =>
    refine wpAny_bind (wpAny_load ho ?_)
    rw [hc, hd]
    exact wpAny_pure h
  | _ => exact wpAny_pure h

/-- a loop over a str -/
theorem loop_str {σ : Type} {x : Str} {t : Tok} {name : Str} {np : Pos} (ps : σ → List (Str × Value)) (led : σ → List (Addr × Obj)) (J : Nat → σ → Prop) (hh : A.handled = none)
    (hled : ∀ i c, J i c → ∀ p ∈ led c, p.1 ≠ s.heap.objs.size) {c₀ : σ} {m₀ : Str → Option Value} (F : Fr g env.locals s.heap m₀) (hps : ∀ p ∈ ps c₀, m₀ p.1 = some p.2) (N : News g env.locals s.heap (led c₀)) (hJ : J 0 c₀)
    (turn : ∀ i u h tk c (m : Str → Option Value) oI cp, x.cps[i]? = some cp → J i c → Fr g env.locals h (fun y => (List.lookup y (ps c)).or (m y)) → News g env.locals h ((s.heap.objs.size, oI) :: led c) →
      wpAny (model prog w) A (assign (.Name name np) env (.str ⟨#[cp]⟩ u)) (fun _ s₄ => wpAny (model prog w) A (execs body env) (TurnF Q s g env.locals [(s.heap.objs.size, oI)] ps led (J (i + 1))) no s₄) no { s with heap := h, toks := tk })
    (done : ∀ h tk c (m : Str → Option Value), J x.cps.size c → Fr g env.locals h (fun y => (List.lookup y (ps c)).or (m y)) → News g env.locals h (led c) → Q .next { s with heap := h, toks := tk }) :
    wpAny (model prog w) A (pyIter (.str x t)) (fun it s₂ => LoopM prog w A env (.Name name np) body Q it s₂) no s := by
  have hL : env.locals ≠ s.heap.objs.size := Nat.ne_of_lt F.ns.lt
  have hI : g.get? s.heap.objs.size = none := by
    cases hq : g.get? s.heap.objs.size with
    | none => rfl
    | some o' => exact absurd (Heap.lt_size (F.keep _ _ hq)) (Nat.lt_irrefl _)
  have main : ∀ (o : Obj) (St : Nat → Heap → Prop), Walks prog w A s.heap.objs.size [s.heap.objs.size] [s.heap.objs.size] x.cps.size (SignAt x) St → (∀ i h, St i h → ∃ o, h.get? s.heap.objs.size = some o) → St 0 (s.heap.push o) →
      LoopM prog w A env (.Name name np) body Q (.ref s.heap.objs.size) { s with heap := s.heap.push o } := by
    intro o St W hob st
    refine loop_fr (s := { s with heap := s.heap.push o }) ps led J W hob hL hI (fun b hb => .inl (List.mem_singleton.mp hb)) hled st (PyProof.Rows.Fr.push F o) hps (fun p hp => ⟨Heap.get?_push_of_some _ (N p hp).1, (N p hp).2⟩) hJ (fun _ _ _ _ _ q => go_name q) ?_ (fun h tk c m _ => done h tk c m)
    rintro i v h tk c m oI _ hi ⟨cp, u, hc, rfl⟩ j F' N'
    exact turn i u h tk c m oI cp hc j F' N'
  cases ha : x.cps.all (· < 128)
  · exact wpAny_pyIter_wide ha (main _ _ (Walks.strWide hh _ x t) (fun i h st => by obtain ⟨o, ho, _⟩ := st; exact ⟨o, ho⟩) ⟨_, Heap.get?_push_size _ rfl, rfl, rfl⟩)
  · exact wpAny_pyIter_ascii ha (main _ _ (Walks.strAscii hh _ x t) (fun i h st => by obtain ⟨o, ho, _⟩ := st; exact ⟨o, ho⟩) ⟨_, Heap.get?_push_size _ rfl, rfl, rfl⟩)

/-- a loop over a list that stands in the base or in the ledger -/
theorem loop_listT {σ : Type} {l : Addr} {items : Array Value} (ps : σ → List (Str × Value)) (led : σ → List (Addr × Obj)) (J : Nat → σ → Prop) (hh : A.handled = none) (hl : s.heap.IsList l items)
    (hb : (∃ o, g.get? l = some o) ∨ (∃ o, ∀ i c, J i c → (l, o) ∈ led c))
    (ht : (∃ x p, target = .Name x p) ∨ ∃ es k p, target = .Tuple es k p)
    (hled : ∀ i c, J i c → ∀ p ∈ led c, p.1 ≠ s.heap.objs.size) {c₀ : σ} {m₀ : Str → Option Value} (F : Fr g env.locals s.heap m₀) (hps : ∀ p ∈ ps c₀, m₀ p.1 = some p.2) (N : News g env.locals s.heap (led c₀)) (hJ : J 0 c₀)
    (turn : ∀ i v h tk c (m : Str → Option Value) oI, s.toks ≤ tk → items[i]? = some v → J i c → Fr g env.locals h (fun y => (List.lookup y (ps c)).or (m y)) → News g env.locals h ((s.heap.objs.size, oI) :: led c) →
      wpAny (model prog w) A (assign target env v) (fun _ s₄ => wpAny (model prog w) A (execs body env) (TurnF Q s g env.locals [(s.heap.objs.size, oI)] ps led (J (i + 1))) no s₄) no { s with heap := h, toks := tk })
    (done : ∀ h tk c (m : Str → Option Value), s.toks ≤ tk → J items.size c → Fr g env.locals h (fun y => (List.lookup y (ps c)).or (m y)) → News g env.locals h (led c) → Q .next { s with heap := h, toks := tk }) :
    wpAny (model prog w) A (pyIter (.ref l)) (fun it s₂ => LoopM prog w A env target body Q it s₂) no s := by
  have hL : env.locals ≠ s.heap.objs.size := Nat.ne_of_lt F.ns.lt
  have hI : g.get? s.heap.objs.size = none := by
    cases hq : g.get? s.heap.objs.size with
    | none => rfl
    | some o' => exact absurd (Heap.lt_size (F.keep _ _ hq)) (Nat.lt_irrefl _)
  obtain ⟨ol, hol, _⟩ := id hl
  have hne : l ≠ s.heap.objs.size := Nat.ne_of_lt (Heap.lt_size hol)
  refine wpAny_pyIter_list hl ?_
  have W := Walks.list (prog := prog) (w := w) hh s.heap.objs.size l hne items
  refine loop_fr (s := { s with heap := s.heap.push _ }) ps led J W (fun i h st => by obtain ⟨⟨o, ho, _⟩, _⟩ := st; exact ⟨o, ho⟩) hL hI (fun b hb' => ?_) hled ⟨⟨_, Heap.get?_push_size _ rfl, rfl, rfl⟩, hl.at fun o e => Heap.get?_push_of_some _ e⟩ (PyProof.Rows.Fr.push F _) hps (fun p hp => ⟨Heap.get?_push_of_some _ (N p hp).1, (N p hp).2⟩) hJ ?_ ?_ done
  · rcases List.mem_cons.mp hb' with rfl | hb'
    · exact .inl rfl
    · rw [List.mem_singleton.mp hb']; exact .inr hb
  · intro i s' v Q' st q
    rcases ht with ⟨x, p, rfl⟩ | ⟨es, k, p, rfl⟩
    · exact go_name q
    · exact go_listiter st.1 q
  · rintro i v h tk c m oI htk hi hP j F' N'
    exact turn i v h tk c m oI htk hP j F' N'
/-- a loop over a list that stands in the base or in the ledger -/
theorem loop_list {σ : Type} {l : Addr} {items : Array Value} (ps : σ → List (Str × Value)) (led : σ → List (Addr × Obj)) (J : Nat → σ → Prop) (hh : A.handled = none) (hl : s.heap.IsList l items)
    (hb : (∃ o, g.get? l = some o) ∨ (∃ o, ∀ i c, J i c → (l, o) ∈ led c))
    (ht : (∃ x p, target = .Name x p) ∨ ∃ es k p, target = .Tuple es k p)
    (hled : ∀ i c, J i c → ∀ p ∈ led c, p.1 ≠ s.heap.objs.size) {c₀ : σ} {m₀ : Str → Option Value} (F : Fr g env.locals s.heap m₀) (hps : ∀ p ∈ ps c₀, m₀ p.1 = some p.2) (N : News g env.locals s.heap (led c₀)) (hJ : J 0 c₀)
    (turn : ∀ i v h tk c (m : Str → Option Value) oI, items[i]? = some v → J i c → Fr g env.locals h (fun y => (List.lookup y (ps c)).or (m y)) → News g env.locals h ((s.heap.objs.size, oI) :: led c) →
      wpAny (model prog w) A (assign target env v) (fun _ s₄ => wpAny (model prog w) A (execs body env) (TurnF Q s g env.locals [(s.heap.objs.size, oI)] ps led (J (i + 1))) no s₄) no { s with heap := h, toks := tk })
    (done : ∀ h tk c (m : Str → Option Value), J items.size c → Fr g env.locals h (fun y => (List.lookup y (ps c)).or (m y)) → News g env.locals h (led c) → Q .next { s with heap := h, toks := tk }) :
    wpAny (model prog w) A (pyIter (.ref l)) (fun it s₂ => LoopM prog w A env target body Q it s₂) no s :=
  loop_listT ps led J hh hl hb ht hled F hps N hJ (fun i v h tk c m oI _ => turn i v h tk c m oI) (fun h tk c m _ => done h tk c m)
end
section
variable {prog : Program} {w : World} {A : Around} {s : Shared} {env : Env} {target : Expr} {body : List Stmt} {Q : Flow → Shared → Prop} {g : Heap}
/-- a loop over a tuple that stands in the base or in the ledger -/
theorem loop_tuple {σ : Type} {l : Addr} {items : Array Value} {x : Str} {px : Pos} (ps : σ → List (Str × Value)) (led : σ → List (Addr × Obj)) (J : Nat → σ → Prop) (hh : A.handled = none) (hl : s.heap.IsTuple l items)
    (hb : (∃ o, g.get? l = some o) ∨ (∃ o, ∀ i c, J i c → (l, o) ∈ led c))
    (hled : ∀ i c, J i c → ∀ p ∈ led c, p.1 ≠ s.heap.objs.size) {c₀ : σ} {m₀ : Str → Option Value} (F : Fr g env.locals s.heap m₀) (hps : ∀ p ∈ ps c₀, m₀ p.1 = some p.2) (N : News g env.locals s.heap (led c₀)) (hJ : J 0 c₀)
    (turn : ∀ i v h tk c (m : Str → Option Value) oI, items[i]? = some v → J i c → Fr g env.locals h (fun y => (List.lookup y (ps c)).or (m y)) → News g env.locals h ((s.heap.objs.size, oI) :: led c) →
      wpAny (model prog w) A (assign (.Name x px) env v) (fun _ s₄ => wpAny (model prog w) A (execs body env) (TurnF Q s g env.locals [(s.heap.objs.size, oI)] ps led (J (i + 1))) no s₄) no { s with heap := h, toks := tk })
    (done : ∀ h tk c (m : Str → Option Value), J items.size c → Fr g env.locals h (fun y => (List.lookup y (ps c)).or (m y)) → News g env.locals h (led c) → Q .next { s with heap := h, toks := tk }) :
    wpAny (model prog w) A (pyIter (.ref l)) (fun it s₂ => LoopM prog w A env (.Name x px) body Q it s₂) no s := by
  have hL : env.locals ≠ s.heap.objs.size := Nat.ne_of_lt F.ns.lt
  have hI : g.get? s.heap.objs.size = none := by
    cases hq : g.get? s.heap.objs.size with
    | none => rfl
    | some o' => exact absurd (Heap.lt_size (F.keep _ _ hq)) (Nat.lt_irrefl _)
  obtain ⟨ol, hol, _⟩ := id hl
  have hne : l ≠ s.heap.objs.size := Nat.ne_of_lt (Heap.lt_size hol)
  refine wpAny_pyIter_tuple hl ?_
  have W := Walks.tuple (prog := prog) (w := w) hh s.heap.objs.size l hne items
  refine loop_fr (s := { s with heap := s.heap.push _ }) ps led J W (fun i h st => by obtain ⟨⟨o, ho, _⟩, _⟩ := st; exact ⟨o, ho⟩) hL hI (fun b hb' => ?_) hled ⟨⟨_, Heap.get?_push_size _ rfl, rfl, rfl⟩, ⟨ol, Heap.get?_push_of_some _ hol, by assumption⟩⟩ (PyProof.Rows.Fr.push F _) hps (fun p hp => ⟨Heap.get?_push_of_some _ (N p hp).1, (N p hp).2⟩) hJ (fun _ _ _ _ _ q => go_name q) ?_ (fun h tk c m _ => done h tk c m)
  · rcases List.mem_cons.mp hb' with rfl | hb'
    · exact .inl rfl
    · rw [List.mem_singleton.mp hb']; exact .inr hb
  · rintro i v h tk c m oI _ hi hP j F' N'
    exact turn i v h tk c m oI hP j F' N'
end
theorem all2 {α : Type} {P : α → Prop} {a : α} {l : List α} (h : P a) (t : ∀ p ∈ l, P p) : ∀ p ∈ a :: l, P p := fun p hp => by
  rcases List.mem_cons.mp hp with rfl | hp
  · exact h
  · exact t p hp
theorem all0 {α : Type} {P : α → Prop} : ∀ p ∈ ([] : List α), P p := fun _ hp => nomatch hp
theorem TurnF.next {σ : Type} {Q : Flow → Shared → Prop} {s₂ : Shared} {g : Heap} {L : Addr} {own : List (Addr × Obj)} {ps : σ → List (Str × Value)} {led : σ → List (Addr × Obj)} {J : σ → Prop} {h' : Heap} {tk' : Nat} (c : σ) {m : Str → Option Value}
    (F : Fr g L h' m) (hp : ∀ p ∈ ps c, m p.1 = some p.2) (N : News g L h' (own ++ led c)) (j : J c) : TurnF Q s₂ g L own ps led J .next { s₂ with heap := h', toks := tk' } := ⟨h', tk', c, m, rfl, F, hp, N, j⟩
theorem TurnF.cont {σ : Type} {Q : Flow → Shared → Prop} {s₂ : Shared} {g : Heap} {L : Addr} {own : List (Addr × Obj)} {ps : σ → List (Str × Value)} {led : σ → List (Addr × Obj)} {J : σ → Prop} {h' : Heap} {tk' : Nat} (c : σ) {m : Str → Option Value}
    (F : Fr g L h' m) (hp : ∀ p ∈ ps c, m p.1 = some p.2) (N : News g L h' (own ++ led c)) (j : J c) : TurnF Q s₂ g L own ps led J .cont { s₂ with heap := h', toks := tk' } := ⟨h', tk', c, m, rfl, F, hp, N, j⟩
theorem News.add {g h h' : Heap} {L a : Addr} {o : Obj} {m : Str → Option Value} {news : List (Addr × Obj)} (F : Fr g L h m) (N : News g L h news) (hs : h.StaysIn h') (hn : h.get? a = none) (ho : h'.get? a = some o) : News g L h' ((a, o) :: news) := by
  refine all2 ⟨ho, ?_, ?_⟩ fun p hp => ⟨hs _ _ (N p hp).1, (N p hp).2⟩
  · rintro rfl
    obtain ⟨oL, _, _, hL, _⟩ := F.ns
    rw [hn] at hL; cases hL
  · cases q : g.get? a with
    | none => rfl
    | some x => have := F.keep _ _ q; rw [hn] at this; cases this
theorem News.apart {g h : Heap} {L a : Addr} {news : List (Addr × Obj)} (N : News g L h news) (hn : h.get? a = none) : ∀ p ∈ news, p.1 ≠ a := by
  rintro p hp rfl
  rw [(N p hp).1] at hn; cases hn
theorem News.sub {g h : Heap} {L : Addr} {news news' : List (Addr × Obj)} (N : News g L h news) (hs : ∀ p ∈ news', p ∈ news) : News g L h news' := fun p hp => N p (hs p hp)
section
variable {prog : Program} {w : World} {A : Around} {s : Shared} {env : Env} {body : List Stmt} {Q : Flow → Shared → Prop} {g : Heap}
/-- a loop over a range by ones -/
theorem loop_range {σ : Type} {r : Addr} {a₀ b₀ : Int} {t₀ u₀ v₀ : Tok} {n : Nat} {x : Str} {px : Pos} (ps : σ → List (Str × Value)) (led : σ → List (Addr × Obj)) (J : Nat → σ → Prop) (hh : A.handled = none)
    (hr : IsRange s.heap r a₀ b₀ 1 t₀ u₀ v₀) (hsmall : Builtin.Range.small a₀ b₀ 1 = true) (hsz : Builtin.Range.rangeSize a₀ b₀ 1 = (n : Int))
    (hled : ∀ i c, J i c → ∀ p ∈ led c, p.1 ≠ s.heap.objs.size) {c₀ : σ} {m₀ : Str → Option Value} (F : Fr g env.locals s.heap m₀) (hps : ∀ p ∈ ps c₀, m₀ p.1 = some p.2) (N : News g env.locals s.heap (led c₀)) (hJ : J 0 c₀)
    (turn : ∀ i h tk t c (m : Str → Option Value) oI, i < n → J i c → Fr g env.locals h (fun y => (List.lookup y (ps c)).or (m y)) → News g env.locals h ((s.heap.objs.size, oI) :: led c) →
      wpAny (model prog w) A (assign (.Name x px) env (.int (a₀ + i * 1) t)) (fun _ s₄ => wpAny (model prog w) A (execs body env) (TurnF Q s g env.locals [(s.heap.objs.size, oI)] ps led (J (i + 1))) no s₄) no { s with heap := h, toks := tk })
    (done : ∀ h tk c (m : Str → Option Value), J n c → Fr g env.locals h (fun y => (List.lookup y (ps c)).or (m y)) → News g env.locals h (led c) → Q .next { s with heap := h, toks := tk }) :
    wpAny (model prog w) A (pyIter (.ref r)) (fun it s₂ => LoopM prog w A env (.Name x px) body Q it s₂) no s := by
  have hL : env.locals ≠ s.heap.objs.size := Nat.ne_of_lt F.ns.lt
  have hI : g.get? s.heap.objs.size = none := by
    cases hq : g.get? s.heap.objs.size with
    | none => rfl
    | some o' => exact absurd (Heap.lt_size (F.keep _ _ hq)) (Nat.lt_irrefl _)
  refine wpAny_pyIter_range hr hsmall ?_
  have W := Walks.range (prog := prog) (w := w) hh s.heap.objs.size a₀ 1 n
  refine loop_fr (s := { s with heap := s.heap.push _ }) ps led J W (fun i h st => ⟨_, st⟩) hL hI (fun b hb => .inl (List.mem_singleton.mp hb)) hled (by show IsRangeIter _ _ _ _ _; rw [hsz]; simpa using Heap.get?_push_size _ rfl) (PyProof.Rows.Fr.push F _) hps (fun p hp => ⟨Heap.get?_push_of_some _ (N p hp).1, (N p hp).2⟩) hJ (fun _ _ _ _ _ q => go_name q) ?_ (fun h tk c m _ => done h tk c m)
  rintro i v h tk c m oI _ hi ⟨t, rfl⟩ j F' N'
  exact turn i h tk t c m oI hi j F' N'
end

section
variable {prog : Program} {w : World} {A : Around} {E : Value → Shared → Prop} {s : Shared} {h₀ : Heap} {L D : Addr} {m : Str → Option Value} {news news' : List (Addr × Obj)} {ys : List (Str × Tok)} {n : Nat}
abbrev SL (ys : List (Str × Tok)) (n : Nat) : Obj := W.listOf (strValues ys).toArray n
theorem sv_push (ys : List (Str × Tok)) (b : Str) (t : Tok) : (strValues ys).toArray.push (.str b t) = (strValues (ys ++ [(b, t)])).toArray := by simp [strValues]
theorem sv_len (ys : List (Str × Tok)) : (strValues ys).length = ys.length := by simp [strValues]
theorem sv_are : ∀ ys : List (Str × Tok), StrsAre (strValues ys) (ys.map (·.1))
  | [] => .nil
  | (b, t) :: r => .cons b t (sv_are r)
theorem app_strs {b : Str} {tb : Tok} {Q : Value → Shared → Prop} (F : Fr h₀ L s.heap m) (N : News h₀ L s.heap news) (U : Upd D (SL ys n) (SL (ys ++ [(b, tb)]) (n + 1)) news news') (hz : ys.length ≤ 1000000)
    (h : ∀ h', Fr h₀ L h' m → News h₀ L h' news' → Q .none { s with heap := h' }) : wpAny (model prog w) A (call (.builtin "list.append") [.ref D, .str b tb]) Q E s := by
  refine append_K F N (n := n) (its := (strValues ys).toArray) (by rw [sv_push]; exact U) h ?_
  rw [List.size_toArray, sv_len, sizeLine_eq]; omega
theorem truthy_strs {Q : Bool → Shared → Prop} (N : News h₀ L s.heap news) (hm : (D, SL ys n) ∈ news) (hz : ys.length ≤ 1000000)
    (h : Q (!ys.isEmpty) { s with toks := s.toks + 1 + 1 }) : wpAny (model prog w) A (truthy (.ref D)) Q E s := by
  refine wpAny_truthy_list ⟨_, (N _ hm).1, rfl, _, rfl⟩ (by rw [List.size_toArray, sv_len]; omega) ?_
  have e : (strValues ys).toArray.isEmpty = ys.isEmpty := by cases ys <;> rfl
  rw [e]; exact h
theorem last_split {α : Type} {l : List α} (h : l ≠ []) : l = l.dropLast ++ [l.getLast h] := (List.dropLast_concat_getLast h).symm
theorem pop_strs {Q : Value → Shared → Prop} (F : Fr h₀ L s.heap m) (N : News h₀ L s.heap news) (hne : ys.isEmpty = false) (U : Upd D (SL ys n) (SL ys.dropLast (n + 1)) news news') (hz : ys.length ≤ 1000000)
    (h : ∀ h' b t, Fr h₀ L h' m → News h₀ L h' news' → Q (.str b t) { s with heap := h' }) : wpAny (model prog w) A (call (.builtin "list.pop") [.ref D]) Q E s := by
  have hn : ys ≠ [] := by rintro rfl; cases hne
  have e : strValues ys = strValues ys.dropLast ++ [.str (ys.getLast hn).1 (ys.getLast hn).2] := by
    conv => lhs; rw [last_split hn]
    simp [strValues]
  refine kl_pop F N (its := (strValues ys).toArray) (p := strValues ys.dropLast) (y := .str (ys.getLast hn).1 (ys.getLast hn).2) (n := n) ?_ U ?_ (fun h' F' N' => h h' _ _ F' N')
  · show kl_last (strValues ys) = _
    rw [e]; exact kpa_last _ _
  · show (strValues ys).length ≤ sizeLine
    rw [sv_len, sizeLine_eq]; omega
theorem item_last {value slice : Expr} {u : Tok} {Q : Value → Shared → Prop} (hl : s.heap.IsList D (strValues ys).toArray) (hne : ys.isEmpty = false) (hz : ys.length ≤ 1000000)
    (h : ∀ b t, (ys.map (·.1)).getLast? = some b → Q (.str b t) s)
    (hs : subscripted slice false (.ref D) (.int (-1) u) = operate [.ref D, .int (-1) u] (getItem (.ref D) (.int (-1) u)) := by with_unfolding_all rfl) :
    wpAny (model prog w) A (subscriptTail value slice (.ref D) (.int (-1) u)) Q E s := by
  have hn : ys ≠ [] := by rintro rfl; cases hne
  have hpos : 0 < ys.length := List.length_pos_iff.mpr hn
  refine tail_any hl.typeIs slot_list_getitem.lookup (wpAny_getItem_list_neg (x := .str (ys.getLast hn).1 (ys.getLast hn).2) hl (by omega) (by rw [List.size_toArray, sv_len]; omega) (by omega) ?_ (h _ _ ?_)) hs
  · rw [List.size_toArray, sv_len]
    have e : (-1 + (ys.length : Int)).toNat = ys.length - 1 := by omega
    rw [e]
    simp only [List.getElem?_toArray, strValues, List.getElem?_map]
    rw [← List.getLast?_eq_getElem?, List.getLast?_eq_some_getLast hn]; rfl
  · rw [List.getLast?_map, List.getLast?_eq_some_getLast hn]; rfl
theorem sum_le_of {α : Type} (f : α → Nat) (k : Nat) : ∀ l : List α, (∀ a ∈ l, f a ≤ k) → (l.map f).sum ≤ k * l.length
  | [], _ => by simp
  | a :: r, h => by
    have := sum_le_of f k r fun b hb => h b (.tail _ hb)
    have h0 := h a (.head _)
    simp only [List.map_cons, List.sum_cons, List.length_cons, Nat.mul_add, Nat.mul_one]; omega
theorem join_strs {x : Str} {t : Tok} {Q : Value → Shared → Prop} (hl : s.heap.IsList D (strValues ys).toArray) (hx : x.length ≤ 2) (hz : ((ys.map (·.1)).map (·.length)).sum + 2 * ys.length ≤ 4000000)
    (h : ∀ t' k, Q (.str (Txt.join x (ys.map (·.1))) t') { s with toks := k }) : wpAny (model prog w) A (call (.builtin "str.join") [.str x t, .ref D]) Q E s := by
  refine join_list (items := (strValues ys).toArray) hl (by exact sv_are ys) ?_ h
  rw [List.length_map]
  have : ys.length * x.length ≤ ys.length * 2 := Nat.mul_le_mul_left _ hx
  omega
end
theorem sv_snoc (ws : List (Str × Tok)) (b : Str) (t : Tok) : strValues ws ++ [.str b t] = strValues (ws ++ [(b, t)]) := by simp [strValues]
theorem two_of {l : List (Str × Tok)} {a b : Str} (h : l.map (·.1) = [a, b]) : ∃ t1 t2, l = [(a, t1), (b, t2)] := by
  match l, h with
  | [(x, t1), (y, t2)], h => simp only [List.map_cons, List.map_nil, List.cons.injEq, and_true] at h; exact ⟨t1, t2, by rw [h.1, h.2]⟩
theorem rep_len (x z : Str) (c : Nat) : (Txt.replace x ⟨#[c]⟩ z).length ≤ (x.length + 1) * (z.length + 1) := by
  rw [StrLaws.replace_one]
  have h1 := StrLaws.join_length_le z (Txt.split x ⟨#[c]⟩)
  have h2 := split_weight x ⟨#[c]⟩ (Nat.le_refl 1)
  have h3 : (Txt.split x ⟨#[c]⟩).length * z.length ≤ (x.length + 1) * z.length := Nat.mul_le_mul_right _ (by omega)
  have h4 : (x.length + 1) * (z.length + 1) = (x.length + 1) * z.length + (x.length + 1) := by rw [Nat.mul_add, Nat.mul_one]
  omega
theorem rep_one {prog : Program} {w : World} {A : Around} {E : Value → Shared → Prop} {s : Shared} {x y z : Str} {t u v : Tok} {c : Nat} {Q : Value → Shared → Prop} (hy : y = ⟨#[c]⟩) (hz : z.length = 2) (hyz : (y == z) = false) (hx : x.length ≤ 100000)
    (hu : u ≠ 0) (hv : v ≠ 0) (huv : u ≠ v) (hq : ∀ t' k, (Txt.replace x y z).length ≤ (x.length + 1) * 3 → Q (.str (Txt.replace x y z) t') { s with toks := k }) :
    wpAny (model prog w) A (call (.builtin "str.replace") [.str x t, .str y u, .str z v]) Q E s := by
  refine SC.replaceW hu hv huv hyz (by omega) (by omega) fun t' k => hq t' k ?_
  rw [hy]
  have := rep_len x z c
  rw [hz] at this
  exact this
theorem add_T {prog : Program} {w : World} {A : Around} {E : Value → Shared → Prop} {s : Shared} {x y : Str} {t u : Tok} {Q : Value → Shared → Prop} (hsz : x.length + y.length ≤ 4000000)
    (h : ∀ t' k, s.toks ≤ k → (x ++ y).length = x.length + y.length → Q (.str (x ++ y) t') { s with toks := k }) : wpAny (model prog w) A (binaryOp .Add (.str x t) (.str y u)) Q E s :=
  wpAny_with_toks (n := s.toks) (Nat.le_refl _) (PyProof.Rows.add_str (fun t' tk ht => h t' tk ht (Str.length_append x y)) (by rw [sizeLine_eq]; omega))
theorem rep_T {prog : Program} {w : World} {A : Around} {E : Value → Shared → Prop} {s : Shared} {x y z : Str} {t u v : Tok} {c : Nat} {Q : Value → Shared → Prop} (hy : y = ⟨#[c]⟩) (hz : z.length = 2) (hyz : (y == z) = false) (hx : x.length ≤ 100000)
    (hu : u ≠ 0) (hv : v ≠ 0) (huv : u ≠ v) (hq : ∀ t' k, s.toks ≤ k → (Txt.replace x y z).length ≤ (x.length + 1) * 3 → Q (.str (Txt.replace x y z) t') { s with toks := k }) :
    wpAny (model prog w) A (call (.builtin "str.replace") [.str x t, .str y u, .str z v]) Q E s :=
  wpAny_with_toks (n := s.toks) (Nat.le_refl _) (rep_one hy hz hyz hx hu hv huv fun t' k hl ht => hq t' k ht hl)
theorem notin_strs {prog : Program} {w : World} {A : Around} {E : Value → Shared → Prop} {s : Shared} {D : Addr} {ys : List (Str × Tok)} {k : Str} {t : Tok} {Q : Value → Shared → Prop} (hl : s.heap.IsList D (strValues ys).toArray)
    (h : Q (.bool (!(ys.map (·.1)).any (· == k))) s) : wpAny (model prog w) A (compareOp .NotIn (.str k t) (.ref D)) Q E s := notin_list_strs hl (sv_are ys) h
theorem fmod_in (a : Int) {b : Int} (hb : 0 < b) : 0 ≤ a.fmod b ∧ a.fmod b < b := by
  rw [Int.fmod_eq_emod_of_nonneg _ (Int.le_of_lt hb)]
  exact ⟨Int.emod_nonneg _ (Int.ne_of_gt hb), Int.emod_lt_of_pos _ hb⟩
theorem pick_strs {prog : Program} {w : World} {A : Around} {E : Value → Shared → Prop} {s : Shared} {value slice : Expr} {D : Addr} {vs : List Value} {k : Int} {u : Tok} {Q : Value → Shared → Prop} (menu : List Str) (hl : s.heap.IsList D vs.toArray) (h0 : 0 ≤ k) (hk : k < (vs.length : Int)) (hz : vs.length ≤ 100)
    (hall : ∀ v ∈ vs, ∃ b t, v = .str b t ∧ b ∈ menu) (h : ∀ b t, b ∈ menu → Q (.str b t) s)
    (hs : subscripted slice false (.ref D) (.int k u) = operate [.ref D, .int k u] (getItem (.ref D) (.int k u)) := by with_unfolding_all rfl) :
    wpAny (model prog w) A (subscriptTail value slice (.ref D) (.int k u)) Q E s := by
  have hlt : k.toNat < vs.length := by omega
  obtain ⟨b, t, e, hm⟩ := hall vs[k.toNat] (List.getElem_mem hlt)
  refine tail_any hl.typeIs slot_list_getitem.lookup (wpAny_getItem_list (x := .str b t) hl h0 (by omega) ?_ (h b t hm)) hs
  rw [← e]; simp [hlt]

/-- a comprehension's turn has ended with a value -/
def EltF (s : Shared) (g : Heap) (C : Addr) (own tl : List (Addr × Obj)) (J : List Value → List (Addr × Obj) → Prop) (ys : List Value) (y : Value) (s' : Shared) : Prop :=
  ∃ h' tk' m tl', s' = { s with heap := h', toks := tk' } ∧ Fr g C h' m ∧ News g C h' (tl' ++ (own ++ tl)) ∧ (∀ p ∈ tl', ∀ q ∈ own, p.1 ≠ q.1) ∧ J (ys ++ [y]) (tl' ++ tl)
/-- a comprehension's turn was left out by its test -/
def SkipF (s : Shared) (g : Heap) (C : Addr) (own tl : List (Addr × Obj)) (J : List Value → List (Addr × Obj) → Prop) (ys : List Value) (s' : Shared) : Prop :=
  ∃ h' tk' m, s' = { s with heap := h', toks := tk' } ∧ Fr g C h' m ∧ News g C h' (own ++ tl) ∧ J ys tl

section
variable {prog : Program} {w : World} {A : Around} {s : Shared} {elt target iter : Expr} {ifs : List Expr} {sc : Scope} {pos : Pos} {cenv : Env} {g : Heap} {I D ax : Addr} {items : Array Value} {R : Result → Shared → Prop}

abbrev compTest (ifs : List Expr) (cenv : Env) : Sem Bool := forIn ifs true fun c r => if r = true then do let ok ← isTrue c cenv (eval c cenv); pure (ForInStep.yield ok) else pure (ForInStep.yield r)

theorem comp_loop (J : Nat → List Value → List (Addr × Obj) → Prop) (hh : A.handled = none) (_hne : ax ≠ I) (hID : I ≠ D) (hCI : cenv.locals ≠ I)
    (hI : g.get? I = none) (hl : g.IsList ax items) (ht : (∃ x p, target = .Name x p) ∨ ∃ es k p, target = .Tuple es k p) (hz : items.size ≤ 1000000)
    (hJ : ∀ i ys tl, J i ys tl → (∀ p ∈ tl, p.1 ≠ I ∧ p.1 ≠ D) ∧ ys.length ≤ i)
    (turn : ∀ i v h tk ys n tl (m : Str → Option Value) oI, items[i]? = some v → J i ys tl → Fr g cenv.locals h m → News g cenv.locals h ([(I, oI), (D, W.listOf ys.toArray n)] ++ tl) →
      wpAny (model prog w) A (assign target cenv v) (fun _ s₂ => wpAny (model prog w) A (compTest ifs cenv) (fun ok s₃ =>
        if ok = true then wpAny (model prog w) A (eval elt cenv) (EltF s g cenv.locals [(I, oI), (D, W.listOf ys.toArray n)] tl (J (i + 1)) ys) no s₃
        else SkipF s g cenv.locals [(I, oI), (D, W.listOf ys.toArray n)] tl (J (i + 1)) ys s₃) no s₂) no { s with heap := h, toks := tk })
    (done : ∀ h tk ys n tl (m : Str → Option Value), J items.size ys tl → Fr g cenv.locals h m → News g cenv.locals h ((D, W.listOf ys.toArray n) :: tl) → R (.ok .next) { s with heap := h, toks := tk })
    {m₀ : Str → Option Value} {n₀ : Nat} (F : Fr g cenv.locals s.heap m₀) (N : News g cenv.locals s.heap [(D, W.listOf #[] n₀)]) (hit : s.heap.IsListIter I ax 0) (hj : J 0 [] []) :
    codeAny (model prog w) A (.compLoop (.ListComp elt [⟨target, iter, ifs, 0⟩] sc pos) 0 (.ref I) (.ref D) cenv) R s := by
  refine codeAny_loop rfl (fun k s' => ∃ h tk i ys n tl m, s' = { s with heap := h, toks := tk } ∧ h.IsListIter I ax i ∧ Fr g cenv.locals h m ∧ News g cenv.locals h ((D, W.listOf ys.toArray n) :: tl) ∧ J i ys tl ∧ i ≤ items.size ∧ k = items.size + 1 - i) ?_ (items.size + 1)
    ⟨s.heap, s.toks, 0, [], n₀, [], m₀, rfl, hit, F, N, hj, Nat.zero_le _, rfl⟩
  rintro k s' ⟨h, tk, i, ys, n, tl, m, rfl, hit, F, N, hj, hi, rfl⟩
  show wpAny _ A ((compTurn (.ListComp elt [⟨target, iter, ifs, 0⟩] sc pos) 0 (.ref I) (.ref D) cenv).onRaise (fun x => do noteFrame x cenv; theTreesLotGoes x)) _ _ _
  refine wpAny_noted ?_
  rw [compTurn_list]
  have hl' : h.IsList ax items := hl.at fun o e => F.keep _ o e
  obtain ⟨hoff, hylen⟩ := hJ _ _ _ hj
  have old : ∀ b o, g.get? b = some o → b ≠ I := fun b o e q => by rw [q, hI] at e; cases e
  refine wpAny_bind (wpAny_standAt (wpAny_bind ?_))
  by_cases hlt : i < items.size
  · refine wpAny_pyNext_list_item (s := { s with heap := h, toks := tk }) hit hl' (x := items[i]) (by simp [hlt]) fun h₁ hit₁ hs₁ => ?_
    obtain ⟨oI, hoI, hcI, hdI⟩ := id hit₁
    refine wpAny_bind ?_
    have hgo : ∀ {Q' : Unit → Shared → Prop} {E' : Value → Shared → Prop}, Q' () { s with heap := h₁, toks := tk } → wpAny (model prog w) A (letOwnedTupleGo target (.ref I) items[i]) Q' E' { s with heap := h₁, toks := tk } := by
      intro Q' E' q
      rcases ht with ⟨x, p, rfl⟩ | ⟨es, k, p, rfl⟩
      · exact go_name q
      · exact go_listiter (s' := { s with heap := h₁, toks := tk }) hit₁ q
    refine hgo ?_
    have F₁ : Fr g cenv.locals h₁ m := ⟨F.ns.sameBut hs₁ hCI, fun b o e => (hs₁.2 b (old b o e)).trans (F.keep b o e), F.above⟩
    have N₁ : News g cenv.locals h₁ ([(I, oI), (D, W.listOf ys.toArray n)] ++ tl) := by
      refine all2 ⟨hoI, Ne.symm hCI, hI⟩ (all2 ?_ fun p hp => ?_)
      · have := N _ (.head _); exact ⟨(hs₁.2 D (Ne.symm hID)).trans this.1, this.2⟩
      · have := N p (.tail _ hp); exact ⟨(hs₁.2 p.1 (hoff p hp).1).trans this.1, this.2⟩
    refine wpAny_bind (wpAny_mono (turn i items[i] h₁ tk ys n tl m oI (by simp [hlt]) hj F₁ N₁) (fun _ s₂ h₂ => wpAny_bind (wpAny_mono h₂ (fun ok s₃ h₃ => ?_) fun _ _ x => x.elim)) fun _ _ x => x.elim)
    cases ok with
    | false =>
      obtain ⟨h₄, tk₄, m₄, rfl, F₄, N₄, j₄⟩ : SkipF s g cenv.locals [(I, oI), (D, W.listOf ys.toArray n)] tl (J (i + 1)) ys s₃ := h₃
      refine wpAny_pure ⟨rfl, items.size + 1 - (i + 1), by omega, h₄, tk₄, i + 1, ys, n, tl, m₄, rfl, ⟨oI, (N₄ _ (.head _)).1, hcI, hdI⟩, F₄, fun p hp => N₄ p (.tail _ hp), j₄, hlt, rfl⟩
    | true =>
      refine wpAny_bind (wpAny_bind (wpAny_mono (show wpAny _ _ _ _ _ _ from h₃) (fun y s₄ h₄ => ?_) fun _ _ x => x.elim))
      obtain ⟨h₄, tk₄, m₄, tl', rfl, F₄, N₄, hap, j₄⟩ := h₄
      have hD := N₄ (D, W.listOf ys.toArray n) (List.mem_append_right _ (.tail _ (.head _)))
      refine wpAny_bind (append_at (s := { s with heap := h₄, toks := tk₄ }) hD.1 (fun h₅ hs₅ ho₅ => wpAny_pure (wpAny_pure ?_)) ?_)
      · have F₅ : Fr g cenv.locals h₅ m₄ := F₄.change hs₅ hD.2.1 hD.2.2
        obtain ⟨hoff', _⟩ := hJ _ _ _ j₄
        refine ⟨rfl, items.size + 1 - (i + 1), by omega, h₅, tk₄, i + 1, ys ++ [y], n + 1, tl' ++ tl, m₄, rfl, ?_, F₅, ?_, j₄, hlt, rfl⟩
        · exact ⟨oI, (hs₅.2 I hID).trans (N₄ (I, oI) (List.mem_append_right _ (.head _))).1, hcI, hdI⟩
        · refine all2 ⟨?_, hD.2⟩ fun p hp => ?_
          · have e : (ys ++ [y]).toArray = ys.toArray.push y := by simp
            rw [e]; exact ho₅
          · have hp' : p ∈ tl' ++ ([(I, oI), (D, W.listOf ys.toArray n)] ++ tl) := by
              rcases List.mem_append.mp hp with hp | hp
              · exact List.mem_append_left _ hp
              · exact List.mem_append_right _ (List.mem_append_right _ hp)
            have := N₄ p hp'
            exact ⟨(hs₅.2 p.1 (hoff' p hp).2).trans this.1, this.2⟩
      · show ys.toArray.size ≤ sizeLine
        rw [List.size_toArray, sizeLine_eq]; omega
  · have hin : i = items.size := by omega
    subst hin
    refine wpAny_pyNext_list_end (s := { s with heap := h, toks := tk }) hh hit hl' (by simp) fun h₁ he₁ => wpAny_pure ?_
    refine done h₁ tk ys n tl m hj ⟨F.ns.at' fun o e => he₁ _ o hCI e, fun b o e => he₁ b o (old b o e) (F.keep b o e), F.above⟩ (all2 ?_ fun p hp => ?_)
    · have := N _ (.head _); exact ⟨he₁ _ _ (Ne.symm hID) this.1, this.2⟩
    · have := N p (.tail _ hp); exact ⟨he₁ _ _ (hoff p hp).1 this.1, this.2⟩
end

section
variable {prog : Program} {w : World} {A : Around} {s : Shared} {elt target iter : Expr} {ifs : List Expr} {scope : Scope} {pos : Pos} {env : Env} {E : Value → Shared → Prop} {Q : Value → Shared → Prop} {cl : List (Str × Addr)}

/-- what is known of a comprehension's source -/
def CompAt (prog : Program) (w : World) (A : Around) (env : Env) (scope : Scope) (cl : List (Str × Addr)) (target elt : Expr) (ifs : List Expr) (Q : Value → Shared → Prop) (xv : Value) (s₁ : Shared) : Prop :=
  ∃ (ax : Addr) (items : Array Value) (J : Addr → Addr → Nat → List Value → List (Addr × Obj) → Prop), xv = .ref ax ∧ s₁.heap.IsList ax items ∧ items.size ≤ 1000000 ∧
    (∀ I D i ys tl, J I D i ys tl → (∀ p ∈ tl, p.1 ≠ I ∧ p.1 ≠ D) ∧ ys.length ≤ i) ∧ (∀ I D, J I D 0 [] []) ∧
    (∀ C I D i v h tk ys n tl (m : Str → Option Value) oI, I < D → D < C → s₁.heap.objs.size ≤ I → items[i]? = some v → J I D i ys tl → Fr s₁.heap C h m → News s₁.heap C h ([(I, oI), (D, W.listOf ys.toArray n)] ++ tl) →
      wpAny (model prog w) A (assign target (compEnvC scope cl C env) v) (fun _ s₂ => wpAny (model prog w) A (compTest ifs (compEnvC scope cl C env)) (fun ok s₃ =>
        if ok = true then wpAny (model prog w) A (eval elt (compEnvC scope cl C env)) (EltF s₁ s₁.heap C [(I, oI), (D, W.listOf ys.toArray n)] tl (J I D (i + 1)) ys) no s₃
        else SkipF s₁ s₁.heap C [(I, oI), (D, W.listOf ys.toArray n)] tl (J I D (i + 1)) ys s₃) no s₂) no { s₁ with heap := h, toks := tk }) ∧
    (∀ I D h tk ys n tl, s₁.heap.StaysIn h → J I D items.size ys tl → (∀ p ∈ (D, W.listOf ys.toArray n) :: tl, h.get? p.1 = some p.2 ∧ s₁.heap.get? p.1 = none) → Q (.ref D) { s₁ with heap := h, toks := tk })

theorem comp_plain (hclos : closureFor scope env = pure cl) (hkind : scope.kind = .function) (hcell : ∀ x ∈ scope.names, x.2 ≠ .cell)
    (hnames : ∀ x ∈ scope.names, x.2 = .local → scope.names.lookup x.1 = some .local) (ht : (∃ x p, target = .Name x p) ∨ ∃ es k p, target = .Tuple es k p) (hh : A.handled = none)
    (h : wpAny (model prog w) A (eval iter env) (fun xv s₁ => CompAt prog w A env scope cl target elt ifs Q xv s₁) no s)
    (hs : ∀ x, foldedSetIterable iter env x = pure x) :
    wpAny (model prog w) A (eval (.ListComp elt [⟨target, iter, ifs, 0⟩] scope pos) env) Q E s := by
  rw [eval_ListComp]
  refine wpAny_mono (E := no) (wpAny_comprehension_free (g := ⟨target, iter, ifs, 0⟩) (gs := []) (use := none) rfl hs hclos hkind hnames ?_) (fun _ _ x => x) fun _ _ x => x.elim
  refine wpAny_mono h (fun xv s₁ h₁ => ?_) fun _ _ x => x
  obtain ⟨ax, items, J, rfl, hl, hz, hJ, hj0, turn, done⟩ := h₁
  refine wpAny_pyIter_list hl ?_
  refine wpAny_newObj_type ?_ (by show (0 : Nat) ≤ sizeLine; exact Nat.zero_le _)
  refine wpAny_newFunctionEnv hcell (fun _ hx => nomatch hx) (fun h' hns hsb => ?_) hkind
  obtain ⟨hp, gens, drawn, toks, os⟩ := s₁
  dsimp only at *
  generalize hI : hp.objs.size = I at *
  have hDs : ((hp.push { cls := Value.type "list_iterator", data := Data.fields #[Value.ref ax, Value.int 0 0] })).objs.size = I + 1 := by rw [Heap.size_push, hI]
  have hCs : ((hp.push { cls := Value.type "list_iterator", data := Data.fields #[Value.ref ax, Value.int 0 0] }).push { cls := Value.type "list", data := Data.seq [].toArray }).objs.size = I + 1 + 1 := by rw [Heap.size_push, hDs]
  rw [hCs] at hns hsb ⊢
  rw [hDs]
  obtain ⟨ol, hol, _⟩ := id hl
  have hlax : ax < I := hI ▸ Heap.lt_size hol
  have keepAll : ∀ b o, ((hp.push { cls := Value.type "list_iterator", data := Data.fields #[Value.ref ax, Value.int 0 0] }).push { cls := Value.type "list", data := Data.seq [].toArray }).get? b = some o → h'.get? b = some o := fun b o e =>
    hsb.extBut b o (by have := ltN (Heap.lt_size e); rw [hCs] at this; exact Nat.ne_of_lt this) (Heap.get?_push_of_some _ e)
  have keep : hp.StaysIn h' := fun b o e => keepAll b o (Heap.get?_push_of_some _ (Heap.get?_push_of_some _ e))
  have none_ge : ∀ b, I ≤ b → hp.get? b = none := fun b hb => by
    cases q : hp.get? b with
    | none => rfl
    | some o => have := ltN (Heap.lt_size q); rw [hI] at this; exact absurd this (Nat.not_lt.mpr hb)
  have hIo : h'.get? I = some { cls := Value.type "list_iterator", data := Data.fields #[Value.ref ax, Value.int 0 0] } := by
    refine keepAll _ _ (Heap.get?_push_of_some _ ?_)
    rw [← hI]; exact Heap.get?_push_size _ rfl
  have hDo : h'.get? (I + 1) = some { cls := Value.type "list", data := Data.seq [].toArray } := by
    refine keepAll _ _ ?_
    rw [← hDs]; exact Heap.get?_push_size _ rfl
  have F0 : Fr hp (I + 1 + 1) h' (fun x => ([] : List (Str × Value)).reverse.lookup x) := ⟨hns, keep, by rw [hI]; exact Nat.le_succ_of_le (Nat.le_succ I)⟩
  have run : codeAny (model prog w) A (.compLoop (.ListComp elt [⟨target, iter, ifs, 0⟩] scope pos) 0 (.ref I) (.ref (I + 1)) (compEnvC scope cl (I + 1 + 1) env))
      (compPost (model prog w) A no none Q (.ref (I + 1)) (I + 1 + 1)) ⟨h', gens, drawn, toks + ([] : List (Str × Value)).length, os⟩ := by
    refine comp_loop (g := hp) (ax := ax) (items := items) (J I (I + 1)) hh (Nat.ne_of_lt hlax) (Nat.ne_of_lt (Nat.lt_succ_self I)) (Nat.ne_of_gt (show I < I + 1 + 1 from Nat.lt_succ_of_lt (Nat.lt_succ_self I))) (none_ge _ (Nat.le_refl _)) hl ht hz (hJ I (I + 1)) ?_ ?_ (n₀ := 0) F0 (all2 ⟨hDo, Nat.ne_of_lt (Nat.lt_succ_self (I + 1)), none_ge _ (Nat.le_succ I)⟩ all0) ⟨_, hIo, rfl, rfl⟩ (hj0 _ _)
    · intro i v h tk ys n tl m oI hv hj F N
      exact turn (I + 1 + 1) I (I + 1) i v h tk ys n tl m oI (Nat.lt_succ_self I) (Nat.lt_succ_self (I + 1)) (Nat.le_refl _) hv hj F N
    · intro h tk ys n tl m hj F N
      refine ⟨m, F.ns, fun h₂ hs₂ => done I (I + 1) h₂ tk ys n tl ?_ hj ?_⟩
      · exact fun b o e => (hs₂.2 b (by have := ltN (Heap.lt_size e); rw [hI] at this; exact Nat.ne_of_lt (Nat.lt_succ_of_lt (Nat.lt_succ_of_lt this)))).trans (F.keep b o e)
      · exact fun p hp' => ⟨(hs₂.2 p.1 (N p hp').2.1).trans (N p hp').1, (N p hp').2.2⟩
  refine codeAny_compStart_list run ?_
  exact wpAny_pyIter_listiter (s := ⟨h', gens, drawn, toks + ([] : List (Str × Value)).length, os⟩) ⟨_, hIo, rfl, rfl⟩ run
end
section
variable {M : Model} {A : Around} {E : Value → Shared → Prop} {s : Shared} {K : Frag} {g : Heap} {m mg mb : Str → Option Value} {env : Env} {p : Program} {loose : List Str} {x : Str} {pos : Pos} {v : Value} {Q : Value → Shared → Prop} {news : List (Addr × Obj)}
theorem nm_local (F : Fr g env.locals s.heap m) (hl : env.kindOf x = some .local) (hv : m x = some v) (hk : env.scope.kind = .function) (hd : (x == ("__debug__" : Str)) = false) (h : Q v s) :
    wpAny M A (eval (.Name x pos) env) Q E s := wpAny_Name (wpAny_loadName_local hk hl F.ns hv h) hd
theorem nm_global (F : Fr g env.locals s.heap m) (X : K.In g) (T : TopRead p loose mg mb g) (hx : env.kindOf x = some .globalImplicit) (e : nsIn K mainGlobals x = some (some v)) (hg : env.globals = mainGlobals) (hk : env.scope.kind = .function) (hd : (x == ("__debug__" : Str)) = false) (h : Q v s) :
    wpAny M A (eval (.Name x pos) env) Q E s := Name_function_global hk hx (loadGlobal_global (env := env) (hg ▸ T.g.keeps F.keep) (mg_of X T.g e) h) hd
theorem nm_builtin (F : Fr g env.locals s.heap m) (X : K.In g) (T : TopRead p loose mg mb g) (hx : env.kindOf x = some .globalImplicit) (e : nsIn K mainGlobals x = some none) (hv : bootBuiltins x = some v) (hn : x ≠ "__name__") (hg : env.globals = mainGlobals) (hb : env.builtins = builtinsNs) (hk : env.scope.kind = .function) (hd : (x == ("__debug__" : Str)) = false) (h : Q v s) :
    wpAny M A (eval (.Name x pos) env) Q E s := Name_function_global hk hx (loadGlobal_builtin (env := env) (hg ▸ T.g.keeps F.keep) (mg_none_of X T.g e) (hb ▸ T.b.keeps F.keep) ((T.builtins x hn).trans hv) h) hd
theorem nm_cell {c : Addr} (hc : env.cells.lookup x = some c) (hl : env.kindOf x = some .cell) (hv : s.heap.IsCell c (some v)) (hk : env.scope.kind = .function) (hd : (x == ("__debug__" : Str)) = false) (h : Q v s) :
    wpAny M A (eval (.Name x pos) env) Q E s := wpAny_Name (wpAny_loadName_cell hk hl hc hv h) hd
theorem sn_local {L : Addr} {Q : Unit → Shared → Prop} (F : Fr g L s.heap m) (N : News g L s.heap news) (hL : env.locals = L) (hl : env.kindOf x = some .local) (hk : env.scope.kind = .function)
    (h : ∀ h', Fr g L h' (fun y => if y = x then some v else m y) → News g L h' news → Q () { s with heap := h', toks := s.toks + 1 }) : wpAny M A (storeName env x v) Q E s := by
  subst hL
  exact wpAny_storeName_local hl F.ns (fun h' hn hs => h h' (F.set hn hs) (N.set hs)) (by rw [hk]; rfl)
end
theorem EltF.one {s : Shared} {g : Heap} {C : Addr} {own tl : List (Addr × Obj)} {J : List Value → List (Addr × Obj) → Prop} {ys : List Value} {y : Value} {h' : Heap} {tk' : Nat} {m : Str → Option Value}
    (F : Fr g C h' m) (N : News g C h' (own ++ tl)) (j : J (ys ++ [y]) tl) : EltF s g C own tl J ys y { s with heap := h', toks := tk' } := ⟨h', tk', m, [], rfl, F, N, all0, j⟩
theorem SkipF.one {s : Shared} {g : Heap} {C : Addr} {own tl : List (Addr × Obj)} {J : List Value → List (Addr × Obj) → Prop} {ys : List Value} {h' : Heap} {tk' : Nat} {m : Str → Option Value}
    (F : Fr g C h' m) (N : News g C h' (own ++ tl)) (j : J ys tl) : SkipF s g C own tl J ys { s with heap := h', toks := tk' } := ⟨h', tk', m, rfl, F, N, j⟩
theorem sv_get {l : List (Str × Tok)} {i : Nat} {v : Value} (h : (strValues l).toArray[i]? = some v) : ∃ b t, l[i]? = some (b, t) ∧ v = .str b t := by
  have hv' : (strValues l)[i]? = some v := by simpa using h
  rw [strValues, List.getElem?_map] at hv'
  cases hq : l[i]? with
  | none => rw [hq] at hv'; cases hv'
  | some p => rw [hq] at hv'; exact ⟨p.1, p.2, rfl, (Option.some.inj hv').symm⟩
theorem take_map_succ {α β : Type} {f : α → β} {l : List α} {i : Nat} {a : α} (h : l[i]? = some a) : (l.take (i + 1)).map f = (l.take i).map f ++ [f a] := by
  rw [List.take_add_one, h]; simp

abbrev Ent := Str × Str × Tok
def DV (es : List Ent) : List (Str × Value) := es.map fun e => (e.1, .str e.2.1 e.2.2)
def putE (es : List Ent) (k v : Str) (t : Tok) : List Ent := if es.any (fun e => e.1 = k) then es.map (fun e => if e.1 = k then (e.1, v, t) else e) else es ++ [(k, v, t)]
def DO (w : World) (o : Obj) (es : List Ent) : Prop := o.IsDictOf (PySem.strKind P0 w) (DV es)
theorem putE_stored (es : List Ent) (k v : Str) (t : Tok) : stored (DV es) k (.str v t) = DV (putE es k v t) := by
  unfold stored putE
  have e : (DV es).any (fun kv => decide (kv.1 = k)) = es.any (fun e => decide (e.1 = k)) := by simp [DV, List.any_map, Function.comp_def]
  rw [e]
  split
  · simp only [DV, List.map_map]
    congr 1
    funext x
    simp only [Function.comp_def]
    split <;> rfl
  · simp [DV]
theorem DV_flat : ∀ es : List Ent, PyProof.V.FlatPairs PyData.str (DV es) (es.map fun e => (PyData.str e.1, PyData.str e.2.1))
  | [] => .nil
  | _ :: r => .cons (.str _ _) (DV_flat r)
section
variable {w : World} {A : Around} {E : Value → Shared → Prop} {s : Shared} {h₀ : Heap} {L d : Addr} {m : Str → Option Value} {news : List (Addr × Obj)} {o : Obj} {gg : Obj → List (Addr × Obj)} {es : List Ent} {k v : Str} {tk t : Tok}
theorem set_E {Q : Unit → Shared → Prop} (F : Fr h₀ L s.heap m) (N : News h₀ L s.heap news) (U : UpdF d o news gg) (hd : DO w o es) (hz : es.length ≤ 1000000)
    (h : ∀ h' o', Fr h₀ L h' m → News h₀ L h' (gg o') → DO w o' (putE es k v t) → Q () { s with heap := h', toks := s.toks + 1 }) :
    wpAny (model P0 w) A (setItem (.ref d) (.str k tk) (.str v t)) Q E s := by
  refine setItem_K PyProof.V.same_str (strKind_is _ _ _ _) (.str _ _) F N U hd (DV_flat es) (fun h' o' F' N' hd' _ => h h' o' F' N' ?_) ?_
  · rw [putE_stored] at hd'; exact hd'
  · rw [List.length_map, sizeLine_eq]; omega
def getE (es : List Ent) (k : Str) : Option Str := (es.find? fun e => e.1 = k).map (·.2.1)
theorem getE_lookup (k : Str) : ∀ es : List Ent, PySem.Spec.lookup (.str k) (es.map fun e => (PyData.str e.1, PyData.str e.2.1)) = (getE es k).map PyData.str
  | [] => rfl
  | e :: r => by
    have ih := getE_lookup k r
    show (if PySem.Spec.same (PyData.str e.1) (PyData.str k) = true then some (PyData.str e.2.1) else PySem.Spec.lookup (.str k) (r.map fun e => (PyData.str e.1, PyData.str e.2.1))) = _
    rw [PyProof.V.same_str]
    by_cases hk : e.1 = k
    · simp [getE, hk]
    · rw [if_neg (by simpa using hk), ih]
      simp [getE, hk]
theorem get_E {dv : Str} {td : Tok} {Q : Value → Shared → Prop} (ho : s.heap.get? d = some o) (hd : DO w o es) (lo : (d == sysModules) = false)
    (h : ∀ t', Q (.str ((getE es k).getD dv) t') { s with toks := s.toks + 1 }) : wpAny (model P0 w) A (call (.builtin "dict.get") [.ref d, .str k tk, .str dv td]) Q E s := by
  refine call_get2_strTab (TabAt.ofObj lo ho hd (DV_flat es)) (.str dv td) fun x hx => ?_
  rw [getE_lookup] at hx
  have e : ((getE es k).map PyData.str).getD (PyData.str dv) = PyData.str ((getE es k).getD dv) := by cases getE es k <;> rfl
  rw [e] at hx
  obtain ⟨t', rfl⟩ : ∃ t', x = .str ((getE es k).getD dv) t' := PyProof.V.Flat.str_inv hx
  exact h _
end
def proj (es : List Ent) : List (Str × Str) := es.map fun e => (e.1, e.2.1)
def putP (ps : List (Str × Str)) (k v : Str) : List (Str × Str) := if ps.any (fun p => p.1 = k) then ps.map (fun p => if p.1 = k then (p.1, v) else p) else ps ++ [(k, v)]
def dictP (l : List (Str × Str)) : List (Str × Str) := l.foldl (fun ps p => putP ps p.1 p.2) []
theorem putE_proj (es : List Ent) (k v : Str) (t : Tok) : proj (putE es k v t) = putP (proj es) k v := by
  unfold putE putP proj
  have e : (es.map fun e => (e.1, e.2.1)).any (fun p => decide (p.1 = k)) = es.any (fun e => decide (e.1 = k)) := by simp [List.any_map, Function.comp_def]
  rw [e]
  split
  · simp only [List.map_map]
    congr 1
    funext x
    simp only [Function.comp_def]
    split <;> rfl
  · simp
theorem putE_len (es : List Ent) (k v : Str) (t : Tok) : (putE es k v t).length ≤ es.length + 1 := by
  unfold putE
  split <;> simp
/-- a value as parse_keqv_list takes it: without its quotes -/
def unq (v : Str) : Str := if (Txt.item v 0 == Str.ofString "\"") = true ∧ (Txt.item v (-1) == Str.ofString "\"") = true then Txt.slice v (some 1) (some (-1)) else v
theorem unq_a {v : Str} (h1 : (Txt.item v 0 == Str.ofString "\"") = true) (h2 : (Txt.item v (-1) == Str.ofString "\"") = true) : Txt.slice v (some 1) (some (-1)) = unq v := by unfold unq; rw [if_pos ⟨h1, h2⟩]
theorem unq_b {v : Str} (h1 : (Txt.item v 0 == Str.ofString "\"") = false) : v = unq v := by unfold unq; rw [if_neg (by simp [h1])]
theorem unq_c {v : Str} (h2 : (Txt.item v (-1) == Str.ofString "\"") = false) : v = unq v := by unfold unq; rw [if_neg (by simp [h2])]

/-- a pair of texts as a tuple -/
abbrev PT (k p : Str) (t1 t2 : Tok) (n : Nat) : Obj := { cls := .type "tuple", data := .seq [Value.str k t1, .str p t2].toArray n }
def PairV (h : Heap) (v : Value) (q : Str × Str) : Prop := ∃ b t1 t2 n, v = .ref b ∧ h.get? b = some (PT q.1 q.2 t1 t2 n)
noncomputable def PairsV (h : Heap) : List Value → List (Str × Str) → Prop
  | [], [] => True
  | v :: vs, q :: qs => PairV h v q ∧ PairsV h vs qs
  | _, _ => False
def PairsAt (h : Heap) (a : Addr) (ps : List (Str × Str)) : Prop := ∃ vs n, h.get? a = some (W.listOf vs.toArray n) ∧ PairsV h vs ps
theorem PairV.keeps {h h' : Heap} {v : Value} {q : Str × Str} (x : PairV h v q) (hs : h.StaysIn h') : PairV h' v q := let ⟨b, t1, t2, n, e, ho⟩ := x; ⟨b, t1, t2, n, e, hs _ _ ho⟩
theorem PairsV.keeps {h h' : Heap} (hs : h.StaysIn h') : ∀ {vs : List Value} {ps : List (Str × Str)}, PairsV h vs ps → PairsV h' vs ps
  | [], [], _ => trivial
  | _ :: _, _ :: _, x => ⟨x.1.keeps hs, PairsV.keeps hs x.2⟩
theorem PairsAt.keeps {h h' : Heap} {a : Addr} {ps : List (Str × Str)} (x : PairsAt h a ps) (hs : h.StaysIn h') : PairsAt h' a ps := let ⟨vs, n, ho, hp⟩ := x; ⟨vs, n, hs _ _ ho, hp.keeps hs⟩
theorem PairsV.length {h : Heap} : ∀ {vs : List Value} {ps : List (Str × Str)}, PairsV h vs ps → vs.length = ps.length
  | [], [], _ => rfl
  | _ :: _, _ :: _, x => by rw [List.length_cons, List.length_cons, PairsV.length x.2]
theorem PairsV.get {h : Heap} : ∀ {vs : List Value} {ps : List (Str × Str)}, PairsV h vs ps → ∀ {i : Nat} {v : Value}, vs[i]? = some v → ∃ q, ps[i]? = some q ∧ PairV h v q
  | v :: vs, q :: qs, x, 0, u, hu => by
    have e : v = u := by simpa using hu
    subst e
    exact ⟨q, rfl, x.1⟩
  | v :: vs, q :: qs, x, i + 1, u, hu => by
    obtain ⟨q', e, hp⟩ := x.2.get (i := i) (v := u) (by simpa using hu)
    exact ⟨q', by simpa using e, hp⟩
theorem PairsV.append {h : Heap} : ∀ {vs us : List Value} {ps qs : List (Str × Str)}, PairsV h vs ps → PairsV h us qs → PairsV h (vs ++ us) (ps ++ qs)
  | [], _, [], _, _, y => y
  | _ :: _, _, _ :: _, _, x, y => ⟨x.1, PairsV.append x.2 y⟩
theorem PairsV.take {h : Heap} : ∀ {vs : List Value} {ps : List (Str × Str)}, PairsV h vs ps → ∀ i, PairsV h (vs.take i) (ps.take i)
  | [], [], _, i => by simp [PairsV]
  | _ :: _, _ :: _, _, 0 => trivial
  | _ :: _, _ :: _, x, i + 1 => ⟨x.1, PairsV.take x.2 i⟩
theorem PairsV.drop {h : Heap} : ∀ {vs : List Value} {ps : List (Str × Str)}, PairsV h vs ps → ∀ i, PairsV h (vs.drop i) (ps.drop i)
  | [], [], _, i => by simp [PairsV]
  | _ :: _, _ :: _, x, 0 => x
  | _ :: _, _ :: _, x, i + 1 => PairsV.drop x.2 i

local macro_rules | `(tactic| walk_at "mine enter") => `(tactic| (k_dflt (refine' enter (K := Mine.hd.heap_39 _) ?g rfl ?k6 ?k7 ?k9 ?kB ?_ ?c2 ?c3 ?c4 ?c5; (case g => assumption); (case k6 => k_is); (case k7 => k_is); (case k9 => exact BindsTo.of_eq rfl); (case c5 => decide); (case kB => exact locs rfl); (case c2 => exact rfl); (case c3 => exact rfl); (case c4 => exact rfl); k_whole)))
local macro_rules | `(tactic| walk_at "call builtin:issubclass") => `(tactic| (refine issub_tuple (News.get (by k_asm) (by k_mem)) rfl ?_; intro _))
local macro_rules | `(tactic| k_units) => `(tactic| (have hu9 := kun9 (by assumption); simp only [units_deeper, units_in1, cLine] at hu9 ⊢; omega))
local macro_rules | `(tactic| walk_at "exec For Name Name cons nil") => `(tactic| (k_dflt (refine for_any ?_ (by intro _; with_unfolding_all rfl))))
local macro_rules | `(tactic| walk_at "exec For Name Call cons nil") => `(tactic| (k_dflt (refine for_any ?_ (by intro _; with_unfolding_all rfl))))
local macro_rules | `(tactic| walk_at "exec For Tuple Name cons nil") => `(tactic| (k_dflt (refine for_any ?_ (by intro _; with_unfolding_all rfl))))
local macro_rules | `(tactic| walk_at "exec For Tuple Call cons nil") => `(tactic| (k_dflt (refine for_any ?_ (by intro _; with_unfolding_all rfl))))
local macro_rules | `(tactic| walk_at "call builtin:list.append") => `(tactic| (k_dflt (refine' app_strs ?k1 ?k2 ?k3 ?z ?_; (case k1 => k_asm); (case k2 => k_asm); (case k3 => k_upd); (case z => omega); k_whole); intro h' F' N'; (try k_sweep)))
local macro_rules | `(tactic| walk_at "call builtin:list.pop") => `(tactic| (k_dflt (refine' pop_strs ?k1 ?k2 ?k5 ?k3 ?z ?_; (case k1 => k_asm); (case k2 => k_asm); (case k5 => first | assumption | (simpa using (by assumption))); (case k3 => k_upd); (case z => omega); k_whole); intro h' b' t' F' N'; (try k_sweep)))
local macro_rules | `(tactic| walk_at "truthy ref") => `(tactic| (k_dflt (refine' truthy_strs ?k1 ?k2 ?z ?_; (case k1 => k_asm); (case k2 => k_mem); (case z => omega); k_whole)))
local macro_rules | `(tactic| walk_at "call builtin:str.join") => `(tactic| (k_dflt (refine' join_strs (News.isList (by k_asm) (by k_mem)) ?k1 ?z ?_; (case k1 => decide); (case z => first | assumption | omega); k_whole); intro t' k'))
local macro_rules | `(tactic| walk_at "subscriptTail Name UnaryOp ref int") => `(tactic| (k_dflt (refine' item_last (News.isList (by k_asm) (by k_mem)) ?k5 ?z ?_; (case k5 => first | assumption | (simpa using (by assumption))); (case z => omega); k_whole); intro b' t' hb'))
local macro_rules | `(tactic| walk_at "mine steps") => `(tactic| repeat' (first | walk1 | (dsimp only; walk1) | fail "no step"))
local macro_rules | `(tactic| walk_at "eval Name") => `(tactic| (k_dflt (refine' nm_global ?F ?X ?T ?a ?e ?b ?d ?f ?_; (case a => rfl); (case F => k_asm); (case X => k_asm); (case T => k_asm); (case e => k_is); (case b => rfl); (case d => rfl); (case f => decide); k_whole)))
local macro_rules | `(tactic| walk_at "eval Name") => `(tactic| (k_dflt (refine' nm_builtin ?F ?X ?T ?a ?e ?v ?n ?b ?b2 ?d ?f ?_; (case a => rfl); (case F => k_asm); (case X => k_asm); (case T => k_asm); (case e => k_is); (case v => boot_fast); (case n => decide); (case b => rfl); (case b2 => rfl); (case d => rfl); (case f => decide); k_whole)))
local macro_rules | `(tactic| walk_at "eval Name") => `(tactic| (k_dflt (refine' nm_local ?F ?a ?v ?d ?f ?_; (case a => rfl); (case F => k_asm); (case v => exact rfl); (case d => rfl); (case f => decide); k_whole)))
local macro_rules | `(tactic| walk_at "storeName") => `(tactic| (k_dflt (refine' sn_local ?F ?N ?l ?a ?d ?_; (case a => rfl); (case F => k_asm); (case N => k_asm); (case l => rfl); (case d => rfl); k_whole); intro h' F' N'; (try k_sweep)))
local macro_rules | `(tactic| walk_at "eval ListComp") => `(tactic| (k_dflt (refine' comp_plain (cl := []) ?a ?b ?c ?d ?e ?f ?_ ?g; (case a => rfl); (case b => rfl); (case c => decide); (case d => decide); (case e => first | exact .inl ⟨_, _, rfl⟩ | exact .inr ⟨_, _, _, rfl⟩); (case f => rfl); (case g => (intro _; with_unfolding_all rfl)); k_whole)))
local macro_rules | `(tactic| walk_at "forIn") => `(tactic| first | refine wpAny_tests_nil ?_ | refine wpAny_tests_one ?_)
local macro_rules | `(tactic| walk_at "setItem ref str") => `(tactic| (k_dflt (refine' set_E ?F ?N ?U ?d ?z ?_; (case F => k_asm); (case N => k_asm); (case U => k_updF); (case d => k_asm); (case z => omega); k_whole); intro h' o' F' N' hd'; (try dsimp only at N'); (try k_sweep)))
local macro_rules | `(tactic| walk_at "call builtin:dict.get") => `(tactic| (k_dflt (refine' get_E ?o ?d ?l ?_; (case d => k_asm); (case o => exact News.get (by k_asm) (by k_mem)); (case l => k_asm); k_whole); intro t'))
local macro_rules | `(tactic| walk_at "compareOp NotIn str ref") => `(tactic| (k_dflt (refine' notin_strs (News.isList (by k_asm) (by k_mem)) ?_; k_whole)))

section
variable {w : World} {mean : ExcName → Option Value} {mg mb : Str → Option Value} {c : Nat} {A : Around} {s : Shared} {Q E : Value → Shared → Prop}
theorem fspath_ok (G : Gr w mean mg mb c A s.heap) {x : Str} {t : Tok}
    (h : ∀ h' tk, s.heap.StaysIn h' → Q (.str x t) { s with heap := h', toks := tk }) : wpAny (model P0 w) A (call (.ref 94) [.str x t]) Q E s := by
  w_on
  walk_at "mine enter"
  intro L' h' F' N'
  have X : (Mine.hd.heap_39 w.params).In s.heap := G.k
  have T : Top Mine.vw (looseW Mine.vw []) mean mg mb s.heap := G.t
  replace F' : Fr s.heap L' h' (fun y => List.lookup y [(Str.ofString "path", Value.str x t)]) := F'
  w_top on
  dsimp only
  k_steps
  (rename Fr _ _ _ _ => F9); exact h _ _ F9.keep
theorem getsep_ok (G : Gr w mean mg mb c A s.heap) {x : Str} {t : Tok}
    (h : ∀ h' tk t', s.heap.StaysIn h' → Q (.str (Str.ofString "/") t') { s with heap := h', toks := tk }) : wpAny (model P0 w) A (call (.ref 108) [.str x t]) Q E s := by
  w_on
  walk_at "mine enter"
  intro L' h' F' N'
  have X : (Mine.hd.heap_39 w.params).In s.heap := G.k
  have T : Top Mine.vw (looseW Mine.vw []) mean mg mb s.heap := G.t
  replace F' : Fr s.heap L' h' (fun y => List.lookup y [(Str.ofString "path", Value.str x t)]) := F'
  w_top on
  dsimp only
  k_steps
  (rename Fr _ _ _ _ => F9); exact h _ _ _ F9.keep
local macro_rules | `(tactic| walk_at "call ref") => `(tactic| ((rename Fr _ _ _ _ => F9); (rename News _ _ _ _ => N9); refine fspath_ok (Gr.sub (c' := 0) (by assumption) F9 (by omega)) ?_; intro h9 tk9 hs9; (have F8 := Fr.keeps F9 hs9); (have N8 := News.keeps N9 hs9); clear F9 N9; (try dsimp only)))
theorem splitroot_ok (G : Gr w mean mg mb c A s.heap) (hc : 2 ≤ c) {x : Str} {t : Tok} (hx : x.length ≤ 100000) (h1 : (Txt.slice x none (some 1) != Str.ofString "/") = false) (h2 : (Txt.slice x (some 1) (some 2) != Str.ofString "/") = true)
    (h : ∀ h' tk a n t1 t2 t3, s.heap.StaysIn h' → s.heap.get? a = none → h'.get? a = some { cls := .type "tuple", data := .seq #[.str (Str.ofString "") t1, .str (Str.ofString "/") t2, .str (Txt.slice x (some 1) none) t3] n } → Q (.ref a) { s with heap := h', toks := tk }) :
    wpAny (model P0 w) A (call (.ref 122) [.str x t]) Q E s := by
  w_on
  walk_at "mine enter"
  intro L' h' F' N'
  have X : (Mine.hd.heap_39 w.params).In s.heap := G.k
  have T : Top Mine.vw (looseW Mine.vw []) mean mg mb s.heap := G.t
  replace F' : Fr s.heap L' h' (fun y => List.lookup y [(Str.ofString "p", Value.str x t)]) := F'
  w_top on
  dsimp only
  k_steps
  all_goals first
    | (exfalso; simp_all; done)
    | ((rename Fr _ _ _ _ => F9); (rename News _ _ _ _ => N9); exact h _ _ _ _ _ _ _ F9.keep (N9 _ (.head _)).2.2 (N9 _ (.head _)).1)
end

section
variable {w : World} {mean : ExcName → Option Value} {mg mb : Str → Option Value} {c : Nat} {A : Around} {s : Shared} {Q E : Value → Shared → Prop}
local macro_rules | `(tactic| walk_at "call ref") => `(tactic| ((rename Fr _ _ _ _ => F9); (rename News _ _ _ _ => N9); refine fspath_ok (Gr.sub (c' := 0) (by assumption) F9 (by omega)) ?_; intro h9 tk9 hs9; (have F8 := Fr.keeps F9 hs9); (have N8 := News.keeps N9 hs9); clear F9 N9; (try dsimp only)))
local macro_rules | `(tactic| walk_at "call ref") => `(tactic| ((rename Fr _ _ _ _ => F9); (rename News _ _ _ _ => N9); refine getsep_ok (Gr.sub (c' := 0) (by assumption) F9 (by omega)) ?_; intro h9 tk9 t9 hs9; (have F8 := Fr.keeps F9 hs9); (have N8 := News.keeps N9 hs9); clear F9 N9; (try dsimp only)))
/-- what join does with one more part -/
def joinStep (path b : Str) : Str :=
  if Txt.startswith b (Str.ofString "/") = true ∨ path.length = 0 then b
  else if Txt.endswith path (Str.ofString "/") = true then path ++ b else path ++ (Str.ofString "/" ++ b)
def strVs (bs : List (Str × Tok)) : List Value := bs.map fun p => .str p.1 p.2
theorem joinStep_a {path b : Str} (h : Txt.startswith b (Str.ofString "/") = true) : b = joinStep path b := by simp [joinStep, h]
theorem joinStep_b {path b : Str} (h : (path.length : Int) = 0) : b = joinStep path b := by
  have h' : path.length = 0 := by omega
  simp [joinStep, h']
theorem joinStep_c {path b : Str} (h : Txt.startswith b (Str.ofString "/") = false) (h1 : (path.length : Int) ≠ 0) (h2 : Txt.endswith path (Str.ofString "/") = true) : path ++ b = joinStep path b := by
  have h' : path.length ≠ 0 := by omega
  simp [joinStep, h, h', h2]
theorem joinStep_d {path b : Str} (h : Txt.startswith b (Str.ofString "/") = false) (h1 : (path.length : Int) ≠ 0) (h2 : Txt.endswith path (Str.ofString "/") = false) : path ++ (Str.ofString "/" ++ b) = joinStep path b := by
  have h' : path.length ≠ 0 := by omega
  simp [joinStep, h, h', h2]
theorem joinStep_len (path b : Str) : (joinStep path b).length ≤ path.length + 1 + b.length := by
  unfold joinStep
  (repeat' split) <;> (try simp only [Str.length_append, show (Str.ofString "/").length = 1 from rfl]) <;> omega
theorem join_ok (G : Gr w mean mg mb c A s.heap) (hc : 2 ≤ c) {a : Str} {bs : List (Str × Tok)} {ta : Tok} (ha : a.length ≤ 100000) (hb : ∀ p ∈ bs, p.1.length ≤ 100000) (hn : bs.length ≤ 4)
    (h0 : ∀ h' tk t', s.heap.StaysIn h' → Q (.str ((bs.map (·.1)).foldl joinStep a) t') { s with heap := h', toks := tk }) :
    wpAny (model P0 w) A (call (.ref 115) (.str a ta :: strVs bs)) Q E s := by
  w_on
  refine enterV (K := Mine.hd.heap_39 _) (rest := strVs bs) (pn := Str.ofString "p") (bs := [(Str.ofString "a", .str a ta)]) G rfl (by k_is) (by k_is) ?_ (show (strVs bs).length ≤ sizeLine by simp only [strVs, List.length_map, sizeLine_eq]; omega) ?_ ?_ ?_ ?_ ?_ ?_
  · simp [bindArgs, seqItems?]
    rfl
  · intro v; exact locs rfl
  · intro T0 L' h' tk F' N'
    have X : (Mine.hd.heap_39 w.params).In s.heap := G.k
    have T : Top Mine.vw (looseW Mine.vw []) mean mg mb s.heap := G.t
    replace F' : Fr s.heap L' h' (fun y => List.lookup y [(Str.ofString "a", Value.str a ta), (Str.ofString "p", Value.ref T0)]) := by
      have e : (fun y => List.lookup y [(Str.ofString "a", Value.str a ta), (Str.ofString "p", Value.ref T0)]) = (fun y => ([(Str.ofString "a", Value.str a ta)] ++ [(Str.ofString "p", Value.ref T0)]).reverse.lookup y) := by
        funext y
        simp only [List.reverse_cons, List.reverse_nil, List.nil_append, List.cons_append, List.lookup_cons, List.lookup_nil]
        by_cases h1 : y = Str.ofString "a"
        · subst h1; rfl
        · by_cases h2 : y = Str.ofString "p"
          · subst h2; rfl
          · rw [beq_eq_false_iff_ne.mpr h1, beq_eq_false_iff_ne.mpr h2]
      rw [e]; exact F'
    w_top on
    try dsimp only
    k_steps
    (rename Fr _ _ _ _ => F9); (rename News _ _ _ _ => N9)
    refine loop_tuple (σ := Str × Tok × Tok) (items := (strVs bs).toArray) (c₀ := (a, ta, _)) (fun c => [(Str.ofString "path", .str c.1 c.2.1), (Str.ofString "sep", .str (Str.ofString "/") c.2.2), (Str.ofString "p", .ref T0)]) (fun _ => [(T0, { cls := .type "tuple", data := .seq (strVs bs).toArray })])
      (fun i c => c.1 = ((bs.map (·.1)).take i).foldl joinStep a ∧ c.1.length ≤ 100000 + i * 100001) G.hh ⟨_, (N9 _ (.head _)).1, rfl, _, rfl⟩ (.inr ⟨_, fun _ _ _ => .head _⟩)
      (fun _ _ _ => all2 (Nat.ne_of_lt (Heap.lt_size (N9 _ (.head _)).1)) all0) F9 (all2 rfl (all2 rfl (all2 rfl all0))) N9 ⟨rfl, by omega⟩ ?_ ?_
    · rintro i v h tk ⟨path, t, t9⟩ m oI hv ⟨hj, hl⟩ F' N'
      have hv' : (strVs bs)[i]? = some v := by simpa using hv
      obtain ⟨⟨b, tb⟩, hbi, rfl⟩ : ∃ p : Str × Tok, bs[i]? = some p ∧ Value.str p.1 p.2 = v := by
        rw [strVs, List.getElem?_map] at hv'
        cases hq : bs[i]? with
        | none => rw [hq] at hv'; cases hv'
        | some p => rw [hq] at hv'; exact ⟨p, rfl, Option.some.inj hv'⟩
      have hbl : b.length ≤ 100000 := hb _ (List.mem_of_getElem? hbi)
      have hi4 : i < 4 := Nat.lt_of_lt_of_le (List.getElem?_eq_some_iff.mp hbi).1 hn
      dsimp only at hj hl F' N' ⊢
      have hst := joinStep_len path b
      have hj' : ∀ p', p' = joinStep path b → p' = (((bs.map (·.1)).take (i + 1)).foldl joinStep a) ∧ p'.length ≤ 100000 + (i + 1) * 100001 := by
        rintro p' rfl
        refine ⟨?_, by omega⟩
        rw [List.take_add_one, List.getElem?_map, hbi, List.foldl_append, ← hj]
        rfl
      replace hl : path.length ≤ 600000 := by omega
      clear hst
      k_steps
      all_goals ((rename Fr _ _ _ _ => F9); (rename News _ _ _ _ => N9); refine TurnF.next (_, _, t9) F9 (all2 rfl (all2 rfl (all2 rfl all0))) N9 (hj' _ ?_))
      all_goals first
        | exact joinStep_a (by assumption)
        | exact joinStep_b (by assumption)
        | exact joinStep_c (by assumption) (by assumption) (by assumption)
        | exact joinStep_d (by assumption) (by assumption) (by assumption)
    · rintro h tk ⟨path, t, t9⟩ m ⟨hj, hl⟩ F' N'
      dsimp only at hj hl F' N' ⊢
      k_steps
      (rename Fr _ _ _ _ => F9)
      rw [show (strVs bs).toArray.size = (bs.map (·.1)).length by simp [strVs], List.take_length] at hj
      rw [hj]
      exact h0 _ _ _ F9.keep
  · rfl
  · rfl
  · rfl
  · decide
end

section
variable {w : World} {mean : ExcName → Option Value} {mg mb : Str → Option Value} {c : Nat} {A : Around} {s : Shared} {Q E : Value → Shared → Prop}
local macro_rules | `(tactic| walk_at "pad") => `(tactic| fail "pad")
local macro_rules | `(tactic| walk_at "call ref") => `(tactic| ((rename Fr _ _ _ _ => F9); (rename News _ _ _ _ => N9); refine fspath_ok (Gr.sub (c' := 0) (by assumption) F9 (by omega)) ?_; intro h9 tk9 hs9; (have F8 := Fr.keeps F9 hs9); (have N8 := News.keeps N9 hs9); clear F9 N9; (try dsimp only)))
local macro_rules | `(tactic| walk_at "call ref") => `(tactic| ((rename Fr _ _ _ _ => F9); (rename News _ _ _ _ => N9); refine splitroot_ok (Gr.sub (c' := 2) (by assumption) F9 (by omega)) (by omega) (by assumption) (by assumption) (by assumption) ?_; intro h9 tk9 a9 n9 t1 t2 t3 hs9 hf9 ho9; (have hne9 := News.apart N9 hf9); (have F8 := Fr.keeps F9 hs9); (have N8 := News.add F9 N9 hs9 hf9 ho9); clear F9 N9 hf9 ho9; (try dsimp only)))
/-- one name more, straightened, under a rooted path -/
def normStep (acc : List Str) (comp : Str) : List Str :=
  if comp.length = 0 ∨ comp = Str.ofString "." then acc
  else if comp ≠ Str.ofString ".." ∨ acc.getLast? = some (Str.ofString "..") then acc ++ [comp]
  else acc.dropLast
def normOf (x : Str) : Str := Str.ofString "/" ++ Txt.join (Str.ofString "/") ((Txt.split (Txt.slice x (some 1) none) (Str.ofString "/")).foldl normStep [])
/-- how much a list of texts weighs -/
def wt (l : List Str) : Nat := (l.map fun x => x.length + 1).sum
theorem wt_append (a b : List Str) : wt (a ++ b) = wt a + wt b := by simp [wt]
theorem wt_take (l : List Str) (i : Nat) : wt (l.take i) ≤ wt l := by
  conv => rhs; rw [← List.take_append_drop i l, wt_append]
  omega
theorem wt_dropLast (l : List Str) : wt l.dropLast ≤ wt l := by
  rw [List.dropLast_eq_take]; exact wt_take _ _
theorem len_le_wt : ∀ l : List Str, l.length ≤ wt l
  | [] => Nat.le_refl _
  | a :: r => by have := len_le_wt r; simp only [wt, List.map_cons, List.sum_cons, List.length_cons] at this ⊢; omega
theorem wt_sum : ∀ l : List Str, (l.map (·.length)).sum + l.length = wt l
  | [] => rfl
  | a :: r => by have := wt_sum r; simp only [wt, List.map_cons, List.sum_cons, List.length_cons] at this ⊢; omega
theorem mem_le_wt {x : Str} : ∀ {l : List Str}, x ∈ l → x.length ≤ wt l
  | a :: r, h => by
    simp only [wt, List.map_cons, List.sum_cons]
    rcases List.mem_cons.mp h with rfl | h
    · omega
    · have := mem_le_wt h; simp only [wt] at this; omega
theorem normStep_wt (acc : List Str) (b : Str) : wt (normStep acc b) ≤ wt acc + (b.length + 1) := by
  have h1 := wt_dropLast acc
  have h2 : wt (acc ++ [b]) = wt acc + (b.length + 1) := by rw [wt_append]; simp [wt]
  unfold normStep
  (repeat' split) <;> omega
theorem normFold_wt : ∀ (l acc : List Str), wt (l.foldl normStep acc) ≤ wt acc + wt l
  | [], acc => by simp [wt]
  | b :: r, acc => by
    have h1 := normFold_wt r (normStep acc b)
    have h2 := normStep_wt acc b
    simp only [List.foldl_cons, wt, List.map_cons, List.sum_cons] at h1 h2 ⊢
    omega
theorem normStep_skip0 {acc : List Str} {b : Str} (h : (b.length : Int) = 0) : acc = normStep acc b := by
  have h' : b.length = 0 := by omega
  simp [normStep, h']
theorem normStep_skip1 {acc : List Str} {b : Str} (h : (b == Str.ofString ".") = true) : acc = normStep acc b := by
  have h' : b = Str.ofString "." := eq_of_beq h
  simp [normStep, h']
theorem normStep_push1 {acc : List Str} {b : Str} (h0 : (b.length : Int) ≠ 0) (h1 : (b == Str.ofString ".") = false) (h2 : (b != Str.ofString "..") = true) : acc ++ [b] = normStep acc b := by
  have e0 : b.length ≠ 0 := by omega
  have e1 : b ≠ Str.ofString "." := ne_of_beq_false h1
  have e2 : b ≠ Str.ofString ".." := by simpa using h2
  simp [normStep, e0, e1, e2]
theorem normStep_push2 {acc : List Str} {b b' : Str} (h0 : (b.length : Int) ≠ 0) (h1 : (b == Str.ofString ".") = false) (hb : acc.getLast? = some b') (h3 : (b' == Str.ofString "..") = true) : acc ++ [b] = normStep acc b := by
  have e0 : b.length ≠ 0 := by omega
  have e1 : b ≠ Str.ofString "." := ne_of_beq_false h1
  have e3 : b' = Str.ofString ".." := eq_of_beq h3
  simp [normStep, e0, e1, hb, e3]
theorem normStep_stay {acc : List Str} {b : Str} (h0 : (b.length : Int) ≠ 0) (h1 : (b == Str.ofString ".") = false) (h2 : (b != Str.ofString "..") = false) (hb : acc = []) : acc = normStep acc b := by
  have e0 : b.length ≠ 0 := by omega
  have e1 : b ≠ Str.ofString "." := ne_of_beq_false h1
  have e2 : b = Str.ofString ".." := by simpa using h2
  subst hb e2
  simp [normStep, e0, e1]
theorem normStep_pop {acc : List Str} {b b' : Str} (h0 : (b.length : Int) ≠ 0) (h1 : (b == Str.ofString ".") = false) (h2 : (b != Str.ofString "..") = false) (hb : acc.getLast? = some b') (h3 : (b' == Str.ofString "..") = false) : acc.dropLast = normStep acc b := by
  have e0 : b.length ≠ 0 := by omega
  have e1 : b ≠ Str.ofString "." := ne_of_beq_false h1
  have e2 : b = Str.ofString ".." := by simpa using h2
  have e3 : b' ≠ Str.ofString ".." := ne_of_beq_false h3
  subst e2
  simp [normStep, e0, e1, hb, e3]
theorem normpath_ok (G : Gr w mean mg mb c A s.heap) (hc : 3 ≤ c) {x : Str} {t : Tok} (hx : x.length ≤ 100000) (h0 : x.length ≠ 0) (h1 : (Txt.slice x none (some 1) != Str.ofString "/") = false) (h2 : (Txt.slice x (some 1) (some 2) != Str.ofString "/") = true)
    (h9 : ∀ h' tk t', s.heap.StaysIn h' → Q (.str (normOf x) t') { s with heap := h', toks := tk }) :
    wpAny (model P0 w) A (call (.ref 129) [.str x t]) Q E s := by
  obtain ⟨hA, dA, fA, gA, uA⟩ := A
  obtain rfl : hA = none := G.hh
  w_on
  walk_at "mine enter"
  intro L' h' F' N'
  have X : (Mine.hd.heap_39 w.params).In s.heap := G.k
  have T : Top Mine.vw (looseW Mine.vw []) mean mg mb s.heap := G.t
  replace F' : Fr s.heap L' h' (fun y => List.lookup y [(Str.ofString "path", Value.str x t)]) := F'
  w_top on
  dsimp only
  walk_at "mine steps"
  all_goals try (exfalso; omega)
  rename_i hcl l hh3 k9 hsp hSA hlen hIL hh2 nl hh1 hl1 hh0 F9 N9
  dsimp only at F9 N9 hl1 ⊢
  replace hl1 := hl1.1
  have hnI := ltN (Heap.lt_size (N9 _ (.head _)).1)
  have hcI := ltN (Heap.lt_size (N9 _ (.tail _ (.head _))).1)
  dsimp only at hnI hcI
  have hwl : wt (l.map (·.1)) ≤ 100001 := by
    have h5 := split_weight (Txt.slice x (some 1) none) (Str.ofString "/") (by decide)
    have h6 : (Txt.slice x (some 1) none).length ≤ x.length := Txt.slice_le _ _ _
    rw [← hsp, wt_sum] at h5; omega
  have hlen' : ∀ a ∈ l.map (·.1), a.length ≤ 100001 := fun a ha => Nat.le_trans (mem_le_wt ha) hwl
  have hll : l.length ≤ 100001 := by have := len_le_wt (l.map (·.1)); rw [List.length_map] at this; omega
  have hjw : ∀ i (ys : List (Str × Tok)), ys.map (·.1) = ((l.map (·.1)).take i).foldl normStep [] → wt (ys.map (·.1)) ≤ 100001 ∧ ys.length ≤ 100001 := by
    intro i ys e
    have h5 := normFold_wt ((l.map (·.1)).take i) []
    have h6 := wt_take (l.map (·.1)) i
    have h7 := len_le_wt (ys.map (·.1))
    rw [← e] at h5
    rw [List.length_map] at h7
    have h8 : wt [] = 0 := rfl
    omega
  clear hSA hlen hIL
  refine loop_list (σ := List (Str × Tok) × Nat × Tok × Tok × Tok × Tok) (items := (strValues l).toArray) (c₀ := ([], 0, _, _, _, _))
    (fun c => [(Str.ofString "new_comps", .ref nl), (Str.ofString "initial_slashes", .str (Str.ofString "/") c.2.2.1), (Str.ofString "dotdot", .str (Str.ofString "..") c.2.2.2.1), (Str.ofString "dot", .str (Str.ofString ".") c.2.2.2.2.1), (Str.ofString "sep", .str (Str.ofString "/") c.2.2.2.2.2)])
    (fun c => [(nl, W.listOf (strValues c.1).toArray c.2.1), (hcl.objs.size, { cls := .type "list", data := .seq (strValues l).toArray })])
    (fun i c => c.1.map (·.1) = ((l.map (·.1)).take i).foldl normStep []) rfl ⟨_, (N9 _ (.tail _ (.head _))).1, rfl, _, rfl⟩ (.inr ⟨_, fun _ _ _ => .tail _ (.head _)⟩) (.inl ⟨_, _, rfl⟩)
    (fun _ _ _ => all2 (Nat.ne_of_lt hnI) (all2 (Nat.ne_of_lt hcI) all0)) F9 (all2 rfl (all2 rfl (all2 rfl (all2 rfl (all2 rfl all0))))) (News.sub N9 (all2 (.head _) (all2 (.tail _ (.head _)) all0))) rfl ?_ ?_
  · rintro i v h tk ⟨ys, n, t2, t3, t4, t5⟩ m oI hv hj F' N'
    have hv' : (strValues l)[i]? = some v := by simpa using hv
    obtain ⟨⟨b, tb⟩, hbi, rfl⟩ : ∃ p : Str × Tok, l[i]? = some p ∧ Value.str p.1 p.2 = v := by
      rw [strValues, List.getElem?_map] at hv'
      cases hq : l[i]? with
      | none => rw [hq] at hv'; cases hv'
      | some p => rw [hq] at hv'; exact ⟨p, rfl, Option.some.inj hv'⟩
    have hbl : b.length ≤ 100001 := hlen' _ (List.mem_map.mpr ⟨_, List.mem_of_getElem? hbi, rfl⟩)
    dsimp only at hj F' N' ⊢
    obtain ⟨hyw, hyz⟩ := hjw _ _ hj
    have hj' : ∀ zs : List (Str × Tok), zs.map (·.1) = normStep (ys.map (·.1)) b → zs.map (·.1) = ((l.map (·.1)).take (i + 1)).foldl normStep [] := by
      intro zs e
      rw [List.take_add_one, List.getElem?_map, hbi, List.foldl_append, ← hj, e]
      rfl
    clear hv hv' hsp hlen' hjw
    walk_at "mine steps"
    all_goals ((rename Fr _ _ _ _ => F9); (rename News _ _ _ _ => N9); first | refine TurnF.next (_, _, t2, t3, t4, t5) F9 (all2 rfl (all2 rfl (all2 rfl (all2 rfl (all2 rfl all0))))) N9 (hj' _ ?_) | refine TurnF.cont (_, _, t2, t3, t4, t5) F9 (all2 rfl (all2 rfl (all2 rfl (all2 rfl (all2 rfl all0))))) N9 (hj' _ ?_))
    all_goals (try simp only [List.map_append, List.map_cons, List.map_nil, List.map_dropLast])
    all_goals first
      | exact normStep_skip0 (by assumption)
      | exact normStep_skip1 (by assumption)
      | exact normStep_push1 (by assumption) (by assumption) (by assumption)
      | exact normStep_push2 (by assumption) (by assumption) (by assumption) (by assumption)
      | exact normStep_pop (by assumption) (by assumption) (by assumption) (by assumption) (by assumption)
      | (refine normStep_stay (by assumption) (by assumption) (by assumption) ?_; rw [List.map_eq_nil_iff]; exact List.isEmpty_iff.mp (by assumption))
  · rintro h tk ⟨ys, n, t2, t3, t4, t5⟩ m hj F' N'
    dsimp only at hj F' N' ⊢
    obtain ⟨hyw, hyz⟩ := hjw _ _ hj
    have hjz : ((ys.map (·.1)).map (·.length)).sum + 2 * ys.length ≤ 4000000 := by
      have := wt_sum (ys.map (·.1)); rw [List.length_map] at this; omega
    have hjl : (Txt.join (Str.ofString "/") (ys.map (·.1))).length ≤ 4000000 := by
      have h5 := StrLaws.join_length_le (Str.ofString "/") (ys.map (·.1))
      rw [← show Txt.join (Str.ofString "/") (ys.map (·.1)) = Str.join (Str.ofString "/") (ys.map (·.1)) from StrLaws.glued_eq_join _ _] at h5
      rw [List.length_map, show (Str.ofString "/").length = 1 from rfl] at h5
      omega
    walk_at "mine steps"
    (rename Fr _ _ _ _ => F9)
    rw [show (strValues l).toArray.size = (l.map (·.1)).length by simp [strValues], List.take_length, hsp] at hj
    rw [hj]
    exact h9 _ _ _ F9.keep
end

/-- parse_http_list's state: what is gathered, the part at hand, escape, quote -/
structure HS where
  res : List Str
  part : Str
  esc : Bool
  quo : Bool
def chS (c : Nat) : Str := ⟨#[c]⟩
def httpStep (st : HS) (c : Nat) : HS :=
  if st.esc = true then { st with part := st.part ++ chS c, esc := false }
  else if st.quo = true then
    if chS c = Str.ofString "\\" then { st with esc := true }
    else if chS c = Str.ofString "\"" then { st with part := st.part ++ chS c, quo := false }
    else { st with part := st.part ++ chS c }
  else if chS c = Str.ofString "," then { st with res := st.res ++ [st.part], part := Str.ofString "" }
  else if chS c = Str.ofString "\"" then { st with part := st.part ++ chS c, quo := true }
  else { st with part := st.part ++ chS c }
section
variable {res : List Str} {part : Str} {esc quo : Bool} {cp : Nat}
theorem hs1 (h : esc = true) : (⟨res, part ++ ⟨#[cp]⟩, false, quo⟩ : HS) = httpStep ⟨res, part, esc, quo⟩ cp := by simp [httpStep, chS, h]
theorem hs2 (h : esc = false) (h1 : quo = true) (h2 : ((⟨#[cp]⟩ : Str) == Str.ofString "\\") = true) : (⟨res, part, true, quo⟩ : HS) = httpStep ⟨res, part, esc, quo⟩ cp := by
  have e := eq_of_beq h2
  simp [httpStep, chS, h, h1, e]
theorem hs3 (h : esc = false) (h1 : quo = true) (h2 : ((⟨#[cp]⟩ : Str) == Str.ofString "\\") = false) (h3 : ((⟨#[cp]⟩ : Str) == Str.ofString "\"") = true) : (⟨res, part ++ ⟨#[cp]⟩, esc, false⟩ : HS) = httpStep ⟨res, part, esc, quo⟩ cp := by
  have e := ne_of_beq_false h2
  have e3 := eq_of_beq h3
  unfold httpStep chS
  rw [if_neg (by simp [h]), if_pos h1, if_neg e, if_pos e3]
theorem hs4 (h : esc = false) (h1 : quo = true) (h2 : ((⟨#[cp]⟩ : Str) == Str.ofString "\\") = false) (h3 : ((⟨#[cp]⟩ : Str) == Str.ofString "\"") = false) : (⟨res, part ++ ⟨#[cp]⟩, esc, quo⟩ : HS) = httpStep ⟨res, part, esc, quo⟩ cp := by
  have e := ne_of_beq_false h2
  have e3 := ne_of_beq_false h3
  unfold httpStep chS
  rw [if_neg (by simp [h]), if_pos h1, if_neg e, if_neg e3]
theorem hs5 (h : esc = false) (h1 : quo = false) (h2 : ((⟨#[cp]⟩ : Str) == Str.ofString ",") = true) : (⟨res ++ [part], Str.ofString "", esc, quo⟩ : HS) = httpStep ⟨res, part, esc, quo⟩ cp := by
  have e := eq_of_beq h2
  unfold httpStep chS
  rw [if_neg (by simp [h]), if_neg (by simp [h1]), if_pos e]
theorem hs6 (h : esc = false) (h1 : quo = false) (h2 : ((⟨#[cp]⟩ : Str) == Str.ofString ",") = false) (h3 : ((⟨#[cp]⟩ : Str) == Str.ofString "\"") = true) : (⟨res, part ++ ⟨#[cp]⟩, esc, true⟩ : HS) = httpStep ⟨res, part, esc, quo⟩ cp := by
  have e := ne_of_beq_false h2
  have e3 := eq_of_beq h3
  unfold httpStep chS
  rw [if_neg (by simp [h]), if_neg (by simp [h1]), if_neg e, if_pos e3]
theorem hs7 (h : esc = false) (h1 : quo = false) (h2 : ((⟨#[cp]⟩ : Str) == Str.ofString ",") = false) (h3 : ((⟨#[cp]⟩ : Str) == Str.ofString "\"") = false) : (⟨res, part ++ ⟨#[cp]⟩, esc, quo⟩ : HS) = httpStep ⟨res, part, esc, quo⟩ cp := by
  have e := ne_of_beq_false h2
  have e3 := ne_of_beq_false h3
  unfold httpStep chS
  rw [if_neg (by simp [h]), if_neg (by simp [h1]), if_neg e, if_neg e3]
end
def httpRun (cs : List Nat) : HS := cs.foldl httpStep ⟨[], Str.ofString "", false, false⟩
def httpOf (x : Str) : List Str :=
  let st := httpRun x.cps.toList
  (if st.part.length = 0 then st.res else st.res ++ [st.part]).map Txt.strip
section
variable {w : World} {mean : ExcName → Option Value} {mg mb : Str → Option Value} {c : Nat} {A : Around} {s : Shared} {Q E : Value → Shared → Prop}
theorem http_ok (G : Gr w mean mg mb c A s.heap) {x : Str} {t : Tok} (hx : x.length ≤ 100000)
    (h9 : ∀ h' tk a ys n, s.heap.StaysIn h' → s.heap.get? a = none → h'.get? a = some (SL ys n) → ys.map (·.1) = httpOf x → Q (.ref a) { s with heap := h', toks := tk }) :
    wpAny (model P0 w) A (call (.ref 141) [.str x t]) Q E s := by
  obtain ⟨hA, dA, fA, gA, uA⟩ := A
  obtain rfl : hA = none := G.hh
  w_on
  walk_at "mine enter"
  intro L' h' F' N'
  have X : (Mine.hd.heap_39 w.params).In s.heap := G.k
  have T : Top Mine.vw (looseW Mine.vw []) mean mg mb s.heap := G.t
  replace F' : Fr s.heap L' h' (fun y => List.lookup y [(Str.ofString "s", Value.str x t)]) := F'
  w_top on
  dsimp only
  walk_at "mine steps"
  rename_i al h4 l1 h3 h2 h1 h0 F9 N9
  dsimp only at F9 N9 ⊢
  have hnI := ltN (Heap.lt_size (N9 _ (.head _)).1)
  dsimp only at hnI
  refine loop_str (σ := List (Str × Tok) × Nat × Str × Tok × Bool × Bool) (c₀ := ([], 0, Str.ofString "", _, false, false))
    (fun c => [(Str.ofString "res", .ref al), (Str.ofString "part", .str c.2.2.1 c.2.2.2.1), (Str.ofString "escape", .bool c.2.2.2.2.1), (Str.ofString "quote", .bool c.2.2.2.2.2)])
    (fun c => [(al, SL c.1 c.2.1)])
    (fun i c => httpRun (x.cps.toList.take i) = ⟨c.1.map (·.1), c.2.2.1, c.2.2.2.2.1, c.2.2.2.2.2⟩ ∧ c.1.length ≤ i ∧ c.2.2.1.length ≤ i ∧ ∀ p ∈ c.1, p.1.length ≤ 100000) rfl
    (fun _ _ _ => all2 (Nat.ne_of_lt hnI) all0) F9 (all2 rfl (all2 rfl (all2 rfl (all2 rfl all0)))) N9 ⟨rfl, Nat.le_refl _, Nat.le_refl _, all0⟩ ?_ ?_
  · rintro i u h tk ⟨ys, n, part, tp, esc, quo⟩ m oI cp hcp ⟨hj, hyl, hpl, hql⟩ F' N'
    dsimp only at hj hyl hpl hql F' N' ⊢
    change Fr s.heap L' h _ at F'
    change News s.heap L' h _ at N'
    have hi : i < x.length := (Array.getElem?_eq_some_iff.mp hcp).1
    have hyz : ys.length ≤ 100000 := by omega
    have hpz : part.length ≤ 100000 := by omega
    have h1z : (⟨#[cp]⟩ : Str).length = 1 := rfl
    have hql' : ∀ p ∈ ys ++ [(part, tp)], p.1.length ≤ 100000 := fun p hp => (List.mem_append.mp hp).elim (hql p) fun hp => by rw [List.mem_singleton.mp hp]; exact hpz
    have hj' : ∀ st, st = httpStep ⟨ys.map (·.1), part, esc, quo⟩ cp → httpRun (x.cps.toList.take (i + 1)) = st := by
      rintro st rfl
      have e : x.cps.toList[i]? = some cp := by simpa using hcp
      rw [← hj, httpRun, httpRun, List.take_add_one, e, List.foldl_append]; rfl
    walk_at "mine steps"
    all_goals ((rename Fr _ _ _ _ => F9); (rename News _ _ _ _ => N9); first | refine TurnF.next (_, _, _, _, _, _) F9 (all2 rfl (all2 rfl (all2 rfl (all2 rfl all0)))) N9 ⟨hj' _ ?_, ?_, ?_, ?_⟩ | refine TurnF.cont (_, _, _, _, _, _) F9 (all2 rfl (all2 rfl (all2 rfl (all2 rfl all0)))) N9 ⟨hj' _ ?_, ?_, ?_, ?_⟩)
    all_goals (try simp only [List.map_append, List.map_cons, List.map_nil, List.length_append, List.length_cons, List.length_nil, Str.length_append, h1z])
    all_goals first
      | omega
      | exact hql
      | exact hql'
      | exact Nat.zero_le _
      | exact hs1 (by assumption)
      | exact hs2 (by assumption) (by assumption) (by assumption)
      | exact hs3 (by assumption) (by assumption) (by assumption) (by assumption)
      | exact hs4 (by assumption) (by assumption) (by assumption) (by assumption)
      | exact hs5 (by assumption) (by assumption) (by assumption)
      | exact hs6 (by assumption) (by assumption) (by assumption) (by assumption)
      | exact hs7 (by assumption) (by assumption) (by assumption) (by assumption)
  · rintro h tk ⟨ys, n, part, tp, esc, quo⟩ m ⟨hj, hyl, hpl, hql⟩ F' N'
    dsimp only at hj hyl hpl hql F' N' ⊢
    change Fr s.heap L' h _ at F'
    change News s.heap L' h _ at N'
    have hyz : ys.length ≤ 100000 := by have : x.cps.size = x.length := rfl; omega
    have hpz : part.length ≤ 100000 := by have : x.cps.size = x.length := rfl; omega
    walk_at "mine steps"
    all_goals (rename Fr _ _ _ _ => F9; rename News _ _ _ _ => N9)
    have hql' : ∀ p ∈ ys ++ [(part, tp)], p.1.length ≤ 100000 := fun p hp => (List.mem_append.mp hp).elim (hql p) fun hp => by rw [List.mem_singleton.mp hp]; exact hpz
    have hj0 : httpRun x.cps.toList = ⟨ys.map (·.1), part, esc, quo⟩ := by rw [← hj, show x.cps.size = x.cps.toList.length from by simp, List.take_length]
    · have key : ∃ zs n1, News s.heap L' _ [(al, SL zs n1)] ∧ (∀ p ∈ zs, p.1.length ≤ 100000) ∧ zs.length ≤ 100001 ∧ zs.map (fun p => Txt.strip p.1) = httpOf x := ⟨_, _, N9, hql', by simp only [List.length_append, List.length_cons, List.length_nil]; omega, by
        simp only [httpOf, hj0]
        rw [if_neg (by omega)]
        simp⟩
      replace N9 := key
      clear key hql' hj0 hql
      obtain ⟨zs, n1, N9, hzl, hzn, hzz⟩ := N9
      have X2 := X.keeps F9.keep
      have T2 := T.keeps F9.keep
      refine ⟨al, (strValues zs).toArray, fun _ _ i us tl => tl = [] ∧ ∃ ws : List (Str × Tok), us = strValues ws ∧ ws.map (·.1) = (zs.take i).map (fun p => Txt.strip p.1), rfl, ⟨_, (N9 _ (.head _)).1, rfl, _, rfl⟩, by rw [List.size_toArray, sv_len]; omega, ?_, fun _ _ => ⟨rfl, [], rfl, rfl⟩, ?_, ?_⟩
      · rintro I D i us tl ⟨rfl, ws, rfl, hw⟩
        refine ⟨all0, ?_⟩
        have := congrArg List.length hw
        simp only [List.length_map, List.length_take] at this
        rw [sv_len]; omega
      · rintro C I D i v h tk us n tl m oI hID hDC hsz hv ⟨rfl, ws, rfl, hw⟩ F N
        obtain ⟨b, tb, hb, rfl⟩ := sv_get hv
        have hbl := hzl _ (List.mem_of_getElem? hb)
        dsimp only at hbl F N X2 T2 ⊢
        clear hv
        walk_at "mine steps"
        k_unfold
        (rename Fr _ _ _ _ => F8; rename News _ _ _ _ => N8)
        exact EltF.one F8 N8 ⟨rfl, _, sv_snoc _ _ _, by rw [take_map_succ hb, List.map_append, hw]; rfl⟩
      · rintro I D h tk us n tl hst ⟨rfl, ws, rfl, hw⟩ hnew
        dsimp only at hst hnew ⊢
        have hD := hnew _ (.head _)
        have F8 := Fr.keeps F9 hst
        refine h9 _ _ _ ws n F8.keep ?_ hD.1 ?_
        · cases q : s.heap.get? D with
          | none => rfl
          | some o => have := F9.keep _ _ q; rw [hD.2] at this; cases this
        · rw [hw, ← hzz, List.size_toArray, sv_len, List.take_length]
    · have hj0 : httpRun x.cps.toList = ⟨ys.map (·.1), part, esc, quo⟩ := by rw [← hj, show x.cps.size = x.cps.toList.length from by simp, List.take_length]
      have key : ∃ zs n1, News s.heap L' _ [(al, SL zs n1)] ∧ (∀ p ∈ zs, p.1.length ≤ 100000) ∧ zs.length ≤ 100001 ∧ zs.map (fun p => Txt.strip p.1) = httpOf x := ⟨_, _, N9, hql, by omega, by
        simp only [httpOf, hj0]
        rw [if_pos (by omega)]
        simp⟩
      replace N9 := key
      clear key hj0 hql
      obtain ⟨zs, n1, N9, hzl, hzn, hzz⟩ := N9
      have X2 := X.keeps F9.keep
      have T2 := T.keeps F9.keep
      refine ⟨al, (strValues zs).toArray, fun _ _ i us tl => tl = [] ∧ ∃ ws : List (Str × Tok), us = strValues ws ∧ ws.map (·.1) = (zs.take i).map (fun p => Txt.strip p.1), rfl, ⟨_, (N9 _ (.head _)).1, rfl, _, rfl⟩, by rw [List.size_toArray, sv_len]; omega, ?_, fun _ _ => ⟨rfl, [], rfl, rfl⟩, ?_, ?_⟩
      · rintro I D i us tl ⟨rfl, ws, rfl, hw⟩
        refine ⟨all0, ?_⟩
        have := congrArg List.length hw
        simp only [List.length_map, List.length_take] at this
        rw [sv_len]; omega
      · rintro C I D i v h tk us n tl m oI hID hDC hsz hv ⟨rfl, ws, rfl, hw⟩ F N
        obtain ⟨b, tb, hb, rfl⟩ := sv_get hv
        have hbl := hzl _ (List.mem_of_getElem? hb)
        dsimp only at hbl F N X2 T2 ⊢
        clear hv
        walk_at "mine steps"
        k_unfold
        (rename Fr _ _ _ _ => F8; rename News _ _ _ _ => N8)
        exact EltF.one F8 N8 ⟨rfl, _, sv_snoc _ _ _, by rw [take_map_succ hb, List.map_append, hw]; rfl⟩
      · rintro I D h tk us n tl hst ⟨rfl, ws, rfl, hw⟩ hnew
        dsimp only at hst hnew ⊢
        have hD := hnew _ (.head _)
        have F8 := Fr.keeps F9 hst
        refine h9 _ _ _ ws n F8.keep ?_ hD.1 ?_
        · cases q : s.heap.get? D with
          | none => rfl
          | some o => have := F9.keep _ _ q; rw [hD.2] at this; cases this
        · rw [hw, ← hzz, List.size_toArray, sv_len, List.take_length]
end

section
variable {w : World} {mean : ExcName → Option Value} {mg mb : Str → Option Value} {c : Nat} {A : Around} {s : Shared} {Q E : Value → Shared → Prop}
theorem keqv_ok (G : Gr w mean mg mb c A s.heap) {la : Addr} {es : List (Str × Tok)} {n : Nat} (hl : s.heap.get? la = some (SL es n)) (he : ∀ p ∈ es, p.1.length ≤ 100000) (hn : es.length ≤ 100000)
    {kv : Str → Str × Str} (hkv : ∀ p ∈ es, Txt.splitMax p.1 (Str.ofString "=") 1 = [(kv p.1).1, (kv p.1).2] ∧ (kv p.1).2.length ≠ 0)
    (h9 : ∀ h' tk d o ds, s.heap.StaysIn h' → s.heap.get? d = none → h'.get? d = some o → DO w o ds → (d == sysModules) = false → proj ds = dictP (es.map fun p => ((kv p.1).1, unq (kv p.1).2)) → Q (.ref d) { s with heap := h', toks := tk }) :
    wpAny (model P0 w) A (call (.ref 136) [.ref la]) Q E s := by
  obtain ⟨hA, dA, fA, gA, uA⟩ := A
  obtain rfl : hA = none := G.hh
  w_on
  walk_at "mine enter"
  intro L' h' F' N'
  have X : (Mine.hd.heap_39 w.params).In s.heap := G.k
  have T : Top Mine.vw (looseW Mine.vw []) mean mg mb s.heap := G.t
  replace F' : Fr s.heap L' h' (fun y => List.lookup y [(Str.ofString "l", Value.ref la)]) := F'
  w_top on
  dsimp only
  walk_at "mine steps"
  rename_i d0 h1 o0 lo hd0 _ _ _ l1 h0 F9 N9
  try dsimp only at F9 N9 ⊢
  have hnI := ltN (Heap.lt_size (N9 _ (.head _)).1)
  try dsimp only at hnI
  refine loop_list (σ := Obj × List Ent) (items := (strValues es).toArray) (c₀ := (o0, []))
    (fun c => [(Str.ofString "parsed", .ref d0)])
    (fun c => [(d0, c.1)])
    (fun i c => DO w c.1 c.2 ∧ c.2.length ≤ i ∧ proj c.2 = dictP ((es.take i).map fun p => ((kv p.1).1, unq (kv p.1).2))) rfl ⟨_, F9.keep _ _ hl, rfl, _, rfl⟩ (.inl ⟨_, hl⟩) (.inl ⟨_, _, rfl⟩)
    (fun _ _ _ => all2 (Nat.ne_of_lt hnI) all0) F9 (all2 rfl all0) N9 ⟨hd0, Nat.le_refl _, rfl⟩ ?_ ?_
  · rintro i v h tk ⟨o, ds⟩ m oI hv ⟨hd, hdl, hj⟩ F' N'
    obtain ⟨b, tb, hb, rfl⟩ := sv_get hv
    dsimp only at hd hdl hj F' N' ⊢
    change Fr s.heap L' h _ at F'
    change News s.heap L' h _ at N'
    have hi : i < es.length := (List.getElem?_eq_some_iff.mp hb).1
    have hbl := he _ (List.mem_of_getElem? hb)
    obtain ⟨hsp, hv0⟩ := hkv _ (List.mem_of_getElem? hb)
    have hdz : ds.length ≤ 100000 := by omega
    dsimp only at hbl hsp hv0
    obtain ⟨⟨k1, v1⟩, hkvb⟩ : ∃ p, kv b = p := ⟨_, rfl⟩
    rw [hkvb] at hsp hv0
    dsimp only at hsp hv0
    clear hv
    walk_at "mine steps"
    rename_i F7 N7 l2 hh2 kk2 hl2 hSA hq hIL F8 N8
    have hdI := ltN (Heap.lt_size (N7 _ (.tail _ (.head _))).1)
    try dsimp only at hdI
    rw [hsp] at hl2
    obtain ⟨t1, t2, rfl⟩ := two_of hl2
    have hvl : v1.length ≤ 100000 := Nat.le_trans (hq v1 (by simp)) hbl
    clear hSA hq hIL F7 N7 hl2
    dsimp only [strValues, List.map_cons, List.map_nil] at *
    walk_at "mine steps"
    all_goals ((rename Fr _ _ _ _ => F9); (rename News _ _ _ _ => N9); (rename DO _ _ _ => D9); refine TurnF.next (_, putE ds k1 _ _) F9 (all2 rfl all0) (News.sub N9 fun p hp => .tail _ hp) ⟨D9, Nat.le_trans (putE_len _ _ _ _) (by omega), ?_⟩)
    all_goals (rw [putE_proj, hj, take_map_succ hb, dictP, dictP, List.foldl_append]; simp only [List.foldl_cons, List.foldl_nil, hkvb])
    all_goals first
      | (rw [unq_a (by assumption) (by assumption)]; done)
      | (rw [← unq_b (by assumption)]; done)
      | (rw [← unq_c (by assumption)]; done)
  · rintro h tk ⟨o, ds⟩ m ⟨hd, hdl, hj⟩ F' N'
    dsimp only at hd hdl hj F' N' ⊢
    change Fr s.heap L' h _ at F'
    change News s.heap L' h _ at N'
    walk_at "mine steps"
    refine h9 _ _ d0 o ds F'.keep (N' _ (.head _)).2.2 (N' _ (.head _)).1 hd lo ?_
    rw [hj, List.size_toArray, sv_len, List.take_length]
end

section
variable {w : World} {mean : ExcName → Option Value} {mg mb : Str → Option Value} {c : Nat} {A : Around} {s : Shared} {Q E : Value → Shared → Prop}
/-- one pair of the header as it is written -/
def wItem (k p : Str) : Str :=
  if (p == Str.ofString "") = true ∨ (Builtin.Str.occurrences p (Str.ofString "\"") 0 p.length 1).isEmpty = false ∨ (Builtin.Str.occurrences p (Str.ofString ",") 0 p.length 1).isEmpty = false then
    k ++ Str.ofString "=\"" ++ Txt.replace (Txt.replace p (Str.ofString "\\") (Str.ofString "\\\\")) (Str.ofString "\"") (Str.ofString "\\\"") ++ Str.ofString "\""
  else k ++ Str.ofString "=" ++ p
def writtenOf (ps : List (Str × Str)) : Str := Txt.join (Str.ofString ", ") (ps.map fun q => wItem q.1 q.2)
theorem wItem_a {k p : Str} (h : (p == Str.ofString "") = true) : k ++ Str.ofString "=\"" ++ Txt.replace (Txt.replace p (Str.ofString "\\") (Str.ofString "\\\\")) (Str.ofString "\"") (Str.ofString "\\\"") ++ Str.ofString "\"" = wItem k p := by
  unfold wItem; rw [if_pos (.inl h)]
theorem wItem_b {k p : Str} (h : (Builtin.Str.occurrences p (Str.ofString "\"") 0 p.length 1).isEmpty = false) : k ++ Str.ofString "=\"" ++ Txt.replace (Txt.replace p (Str.ofString "\\") (Str.ofString "\\\\")) (Str.ofString "\"") (Str.ofString "\\\"") ++ Str.ofString "\"" = wItem k p := by
  unfold wItem; rw [if_pos (.inr (.inl h))]
theorem wItem_c {k p : Str} (h : (Builtin.Str.occurrences p (Str.ofString ",") 0 p.length 1).isEmpty = false) : k ++ Str.ofString "=\"" ++ Txt.replace (Txt.replace p (Str.ofString "\\") (Str.ofString "\\\\")) (Str.ofString "\"") (Str.ofString "\\\"") ++ Str.ofString "\"" = wItem k p := by
  unfold wItem; rw [if_pos (.inr (.inr h))]
theorem wItem_d {k p : Str} (h1 : (p == Str.ofString "") = false) (h2 : (Builtin.Str.occurrences p (Str.ofString "\"") 0 p.length 1).isEmpty = true) (h3 : (Builtin.Str.occurrences p (Str.ofString ",") 0 p.length 1).isEmpty = true) : k ++ Str.ofString "=" ++ p = wItem k p := by
  unfold wItem; rw [if_neg (by simp [h1, h2, h3])]
local macro_rules | `(tactic| walk_at "execs cons") => `(tactic| refine wpAny_execs_cons ?_)
local macro_rules | `(tactic| walk_at "execs nil") => `(tactic| refine wpAny_execs_nil ?_)
local macro_rules | `(tactic| walk_at "call builtin:str.replace") => `(tactic| (k_dflt (refine' rep_T (c := ?c) ?hy ?hz ?hyz ?hx ?hu ?hv ?huv ?_; (case hy => exact (by decide : Str.ofString "\\" = ⟨#[92]⟩)); (case hz => rfl); (case hyz => decide); (case hx => omega); (case hu => (refine neN ?_; (try dsimp only); omega)); (case hv => (refine neN ?_; (try dsimp only); omega)); (case huv => (refine neN ?_; (try dsimp only); omega)); k_whole); intro t' k' hk' hr'; (try dsimp only at hk')))
local macro_rules | `(tactic| walk_at "call builtin:str.replace") => `(tactic| (k_dflt (refine' rep_T (c := ?c) ?hy ?hz ?hyz ?hx ?hu ?hv ?huv ?_; (case hy => exact (by decide : Str.ofString "\"" = ⟨#[34]⟩)); (case hz => rfl); (case hyz => decide); (case hx => omega); (case hu => (refine neN ?_; (try dsimp only); omega)); (case hv => (refine neN ?_; (try dsimp only); omega)); (case huv => (refine neN ?_; (try dsimp only); omega)); k_whole); intro t' k' hk' hr'; (try dsimp only at hk')))
local macro_rules | `(tactic| walk_at "binaryOp Add str str") => `(tactic| (k_dflt (refine' add_T ?z ?_; (case z => omega); k_whole); intro t' k' hk' hr'; (try dsimp only at hk')))
local macro_rules | `(tactic| walk_at "mine steps") => `(tactic| repeat' (first | walk1 | (dsimp only; walk1) | ((with_reducible show wpAny _ _ (call (Value.builtin "str.replace") _) _ _ _); dsimp only; walk_at "call builtin:str.replace") | fail "no step"))
theorem written_ok (G : Gr w mean mg mb c A s.heap) {pa : Addr} {ps : List (Str × Str)} (hp : PairsAt s.heap pa ps) (hn : ps.length ≤ 20) (he : ∀ p ∈ ps, p.1.length ≤ 10 ∧ p.2.length ≤ 1000)
    (h9 : ∀ h' tk t, s.heap.StaysIn h' → Q (.str (writtenOf ps) t) { s with heap := h', toks := tk }) :
    wpAny (model P0 w) A (call (.ref 155) [.ref pa]) Q E s := by
  obtain ⟨hA, dA, fA, gA, uA⟩ := A
  obtain rfl : hA = none := G.hh
  obtain ⟨vs, n, hl, hpv⟩ := hp
  w_on
  walk_at "mine enter"
  intro L' h' F' N'
  have X : (Mine.hd.heap_39 w.params).In s.heap := G.k
  have T : Top Mine.vw (looseW Mine.vw []) mean mg mb s.heap := G.t
  replace F' : Fr s.heap L' h' (fun y => List.lookup y [(Str.ofString "pairs", Value.ref pa)]) := F'
  w_top on
  dsimp only
  walk_at "mine steps"
  rename_i al h1 l1 h0 F9 N9
  try dsimp only at F9 N9 ⊢
  have hnI := ltN (Heap.lt_size (N9 _ (.head _)).1)
  try dsimp only at hnI
  refine loop_listT (σ := List (Str × Tok) × Nat) (items := vs.toArray) (c₀ := ([], 0))
    (fun c => [(Str.ofString "items", .ref al)])
    (fun c => [(al, SL c.1 c.2)])
    (fun i c => c.1.map (·.1) = (ps.take i).map (fun q => wItem q.1 q.2) ∧ ∀ p ∈ c.1, p.1.length ≤ 50000) rfl ⟨_, F9.keep _ _ hl, rfl, _, rfl⟩ (.inl ⟨_, hl⟩) (.inr ⟨_, _, _, rfl⟩)
    (fun _ _ _ => all2 (Nat.ne_of_lt hnI) all0) F9 (all2 rfl all0) N9 ⟨rfl, all0⟩ ?_ ?_
  · rintro i v h tk ⟨ys, n1⟩ m oI htk hv ⟨hj, hyl⟩ F' N'
    obtain ⟨⟨k, p⟩, hpi, b, t1, t2, n2, rfl, hb⟩ := hpv.get (i := i) (v := v) (by simpa using hv)
    dsimp only at hj hyl hb htk F' N' ⊢
    have hylen : ys.length = min i ps.length := by have := congrArg List.length hj; simpa using this
    have hL1 : (Str.ofString "=\"").length = 2 := rfl
    have hL2 : (Str.ofString "=").length = 1 := rfl
    have hL3 : (Str.ofString "\"").length = 1 := rfl
    have htk1 : 1 ≤ tk := Nat.le_trans (by simp) htk
    clear htk
    change Fr s.heap L' h _ at F'
    change News s.heap L' h _ at N'
    have hi : i < ps.length := (List.getElem?_eq_some_iff.mp hpi).1
    obtain ⟨hkl, hpl⟩ := he _ (List.mem_of_getElem? hpi)
    have hT : IsTup h b [Value.str k t1, Value.str p t2].toArray := ⟨_, F'.keep _ _ hb, rfl, _, rfl⟩
    dsimp only at hkl hpl
    clear hv
    walk_at "mine steps"
    all_goals ((rename Fr _ _ _ _ => F9); (rename News _ _ _ _ => N9); refine TurnF.next (ys ++ [(_, _)], _) F9 (all2 rfl all0) N9 ⟨?_, ?_⟩)
    all_goals first
      | (intro q hq; rcases List.mem_append.mp hq with hq | hq; exact hyl q hq; rw [List.mem_singleton.mp hq]; simp only [Str.length_append, hL1, hL2, hL3]; omega)
      | (rw [List.map_append, hj, take_map_succ hpi]; refine congrArg (fun z => _ ++ z) ?_; first | exact congrArg (fun z => [z]) (wItem_a (by assumption)) | exact congrArg (fun z => [z]) (wItem_b (by assumption)) | exact congrArg (fun z => [z]) (wItem_c (by assumption)) | exact congrArg (fun z => [z]) (wItem_d (by assumption) (by assumption) (by assumption)))
  · rintro h tk ⟨ys, n1⟩ m htk ⟨hj, hyl⟩ F' N'
    dsimp only at hj hyl F' N' ⊢
    change Fr s.heap L' h _ at F'
    change News s.heap L' h _ at N'
    have hylen : ys.length = ps.length := by
      have := congrArg List.length hj
      rw [List.length_map, List.length_map, List.length_take, List.size_toArray, hpv.length] at this
      omega
    have hjz : ((ys.map (·.1)).map (·.length)).sum + 2 * ys.length ≤ 4000000 := by
      have := sum_le_of (fun q : Str × Tok => q.1.length) 50000 ys hyl
      rw [List.map_map]
      simp only [Function.comp_def]
      omega
    walk_at "mine steps"
    (rename Fr _ _ _ _ => F9)
    rw [hj, List.size_toArray, hpv.length, List.take_length]
    exact h9 _ _ _ F9.keep
end

section
variable {w : World} {mean : ExcName → Option Value} {mg mb : Str → Option Value} {c : Nat} {A : Around} {s : Shared} {Q E : Value → Shared → Prop}
def firstsOf (ps : List (Str × Str)) : List Str := ps.foldl (fun ks q => if ks.any (· == q.1) = true then ks else ks ++ [q.1]) []
theorem firsts_ok (G : Gr w mean mg mb c A s.heap) {pa : Addr} {ps : List (Str × Str)} (hp : PairsAt s.heap pa ps) (hn : ps.length ≤ 20) (he : ∀ p ∈ ps, p.1.length ≤ 10 ∧ p.2.length ≤ 1000)
    (h9 : ∀ h' tk a ys n, s.heap.StaysIn h' → s.heap.get? a = none → h'.get? a = some (SL ys n) → ys.map (·.1) = firstsOf ps → Q (.ref a) { s with heap := h', toks := tk }) :
    wpAny (model P0 w) A (call (.ref 183) [.ref pa]) Q E s := by
  obtain ⟨hA, dA, fA, gA, uA⟩ := A
  obtain rfl : hA = none := G.hh
  obtain ⟨vs, n, hl, hpv⟩ := hp
  w_on
  walk_at "mine enter"
  intro L' h' F' N'
  have X : (Mine.hd.heap_39 w.params).In s.heap := G.k
  have T : Top Mine.vw (looseW Mine.vw []) mean mg mb s.heap := G.t
  replace F' : Fr s.heap L' h' (fun y => List.lookup y [(Str.ofString "pairs", Value.ref pa)]) := F'
  w_top on
  dsimp only
  walk_at "mine steps"
  rename_i al h1 l1 h0 F9 N9
  try dsimp only at F9 N9 ⊢
  have hnI := ltN (Heap.lt_size (N9 _ (.head _)).1)
  try dsimp only at hnI
  refine loop_list (σ := List (Str × Tok) × Nat) (items := vs.toArray) (c₀ := ([], 0))
    (fun c => [(Str.ofString "keys", .ref al)])
    (fun c => [(al, SL c.1 c.2)])
    (fun i c => c.1.map (·.1) = firstsOf (ps.take i) ∧ c.1.length ≤ i) rfl ⟨_, F9.keep _ _ hl, rfl, _, rfl⟩ (.inl ⟨_, hl⟩) (.inr ⟨_, _, _, rfl⟩)
    (fun _ _ _ => all2 (Nat.ne_of_lt hnI) all0) F9 (all2 rfl all0) N9 ⟨rfl, Nat.le_refl _⟩ ?_ ?_
  · rintro i v h tk ⟨ys, n1⟩ m oI hv ⟨hj, hyl⟩ F' N'
    obtain ⟨⟨k, p⟩, hpi, b, t1, t2, n2, rfl, hb⟩ := hpv.get (i := i) (v := v) (by simpa using hv)
    dsimp only at hj hyl hb F' N' ⊢
    change Fr s.heap L' h _ at F'
    change News s.heap L' h _ at N'
    have hi : i < ps.length := (List.getElem?_eq_some_iff.mp hpi).1
    obtain ⟨hkl, hpl⟩ := he _ (List.mem_of_getElem? hpi)
    have hT : IsTup h b [Value.str k t1, Value.str p t2].toArray := ⟨_, F'.keep _ _ hb, rfl, _, rfl⟩
    dsimp only at hkl hpl
    clear hv
    have hj' : ∀ zs : List (Str × Tok), zs.map (·.1) = (if (ys.map (·.1)).any (· == k) = true then ys.map (·.1) else ys.map (·.1) ++ [k]) → zs.map (·.1) = firstsOf (ps.take (i + 1)) := by
      intro zs e
      rw [e, hj, firstsOf, firstsOf, List.take_add_one, hpi, List.foldl_append]
      rfl
    have hyz : ys.length ≤ 20 := by omega
    walk_at "mine steps"
    all_goals ((rename Fr _ _ _ _ => F9); (rename News _ _ _ _ => N9); refine TurnF.next (_, _) F9 (all2 rfl all0) N9 ⟨hj' _ ?_, ?_⟩)
    · (rename List.any _ _ = true => hq); rw [if_pos hq]
    · exact Nat.le_succ_of_le hyl
    · (rename List.any _ _ = false => hq); rw [if_neg (by rw [hq]; decide), List.map_append]; rfl
    · simp only [List.length_append, List.length_cons, List.length_nil]; omega
  · rintro h tk ⟨ys, n1⟩ m ⟨hj, hyl⟩ F' N'
    dsimp only at hj hyl F' N' ⊢
    change Fr s.heap L' h _ at F'
    change News s.heap L' h _ at N'
    walk_at "mine steps"
    refine h9 _ _ al ys n1 F'.keep (N' _ (.head _)).2.2 (N' _ (.head _)).1 ?_
    rw [hj, List.size_toArray, hpv.length, List.take_length]
end

theorem mod_T {prog : Program} {w : World} {A : Around} {E : Value → Shared → Prop} {s : Shared} {a b : Int} {t u : Tok} {Q : Value → Shared → Prop} (hb : b ≠ 0) (h : ∀ t' k, Q (.int (a.fmod b) t') { s with toks := k }) : wpAny (model prog w) A (binaryOp .Mod (.int a t) (.int b u)) Q E s := mod_int' hb (h _ _)
theorem fdiv_T {prog : Program} {w : World} {A : Around} {E : Value → Shared → Prop} {s : Shared} {a b : Int} {t u : Tok} {Q : Value → Shared → Prop} (hb : b ≠ 0) (h : ∀ t' k, Q (.int (a.fdiv b) t') { s with toks := k }) (hp : b.natAbs.log2 < 9000) : wpAny (model prog w) A (binaryOp .FloorDiv (.int a t) (.int b u)) Q E s := floordiv_int hb (h _ _) (Or.inl (PyProof.noPylong_of_log2 hp))
theorem cint_T {M : Model} {A : Around} {E : Value → Shared → Prop} {s : Shared} {env : Env} {x : Int} {k pos} {Q : Value → Shared → Prop} (h : ∀ t' k, Q (.int x t') { s with toks := k }) : wpAny M A (eval (.Constant (.int x) k pos) env) Q E s := wpAny_Constant_int (h _ _)
theorem cstr_T {M : Model} {A : Around} {E : Value → Shared → Prop} {s : Shared} {env : Env} {x : Str} {k pos} {Q : Value → Shared → Prop} (h : ∀ t' k, Q (.str x t') { s with toks := k }) : wpAny M A (eval (.Constant (.str x) k pos) env) Q E s := Calls.Constant_str (h _ _)
theorem sn_T {M : Model} {A : Around} {E : Value → Shared → Prop} {s : Shared} {g : Heap} {m : Str → Option Value} {env : Env} {x : Str} {v : Value} {news : List (Addr × Obj)} {L : Addr} {Q : Unit → Shared → Prop} (F : Fr g L s.heap m) (N : News g L s.heap news) (hL : env.locals = L) (hl : env.kindOf x = some .local) (hk : env.scope.kind = .function)
    (h : ∀ h' k, Fr g L h' (fun y => if y = x then some v else m y) → News g L h' news → Q () { s with heap := h', toks := k }) : wpAny M A (storeName env x v) Q E s := sn_local F N hL hl hk fun h' F' N' => h h' _ F' N'

local macro_rules | `(tactic| walk_at "binaryOp Mod int int") => `(tactic| (refine mod_T (by decide) ?_; intro t' k'))
local macro_rules | `(tactic| walk_at "binaryOp FloorDiv int int") => `(tactic| (refine fdiv_T (by decide) ?_ (by decide +kernel); intro t' k'))
local macro_rules | `(tactic| walk_at "eval Constant int") => `(tactic| (refine cint_T ?_; intro t' k'))
local macro_rules | `(tactic| walk_at "eval Constant str") => `(tactic| (refine cstr_T ?_; intro t' k'))
local macro_rules | `(tactic| walk_at "storeName") => `(tactic| (k_dflt (refine' sn_T ?F ?N ?l ?a ?d ?_; (case a => rfl); (case F => k_asm); (case N => k_asm); (case l => rfl); (case d => rfl); k_whole); intro h' k' F' N'; (try k_sweep)))
local macro_rules | `(tactic| walk_at "callWith") => `(tactic| ((with_reducible show wpAny _ _ (callWith _ (Value.builtin _) (_ :: _) (backTo _ (starEach (_ :: _) _)) _) _ _ _); refine callWith_method1 ?_))

section
variable {w : World} {mean : ExcName → Option Value} {mg mb : Str → Option Value} {c : Nat} {A : Around} {s : Shared} {Q E : Value → Shared → Prop}
def menuK : List Str := [Str.ofString "k", Str.ofString "l"]
def menuN : List Str := [Str.ofString "a", Str.ofString "..", Str.ofString "b c", Str.ofString "d,e", Str.ofString "\"g\"", Str.ofString "h=i\\", Str.ofString "."]
theorem allK {t1 t2 : Tok} : ∀ v ∈ [Value.str (Str.ofString "k") t1, .str (Str.ofString "l") t2], ∃ b t, v = .str b t ∧ b ∈ menuK :=
  all2 ⟨_, _, rfl, by simp [menuK]⟩ (all2 ⟨_, _, rfl, by simp [menuK]⟩ all0)
theorem allN {t1 t2 t3 t4 t5 t6 t7 t8 : Tok} : ∀ v ∈ [Value.str (Str.ofString "a") t1, .str (Str.ofString "..") t2, .str (Str.ofString "b c") t3, .str (Str.ofString "d,e") t4, .str (Str.ofString "\"g\"") t5, .str (Str.ofString "..") t6, .str (Str.ofString "h=i\\") t7, .str (Str.ofString ".") t8], ∃ b t, v = .str b t ∧ b ∈ menuN :=
  all2 ⟨_, _, rfl, by simp [menuN]⟩ (all2 ⟨_, _, rfl, by simp [menuN]⟩ (all2 ⟨_, _, rfl, by simp [menuN]⟩ (all2 ⟨_, _, rfl, by simp [menuN]⟩ (all2 ⟨_, _, rfl, by simp [menuN]⟩ (all2 ⟨_, _, rfl, by simp [menuN]⟩ (all2 ⟨_, _, rfl, by simp [menuN]⟩ (all2 ⟨_, _, rfl, by simp [menuN]⟩ all0)))))))
local macro_rules | `(tactic| walk_at "subscriptTail") => `(tactic| (k_dflt (refine' pick_strs menuK (News.isList (by k_asm) (by k_mem)) ?a ?b ?z ?c ?_; (case c => exact allK); (case a => exact (fmod_in _ (by decide)).1); (case b => exact (fmod_in _ (by decide)).2); (case z => exact Nat.le_of_ble_eq_true rfl); k_whole); intro b' t' hb'))
local macro_rules | `(tactic| walk_at "subscriptTail") => `(tactic| (k_dflt (refine' pick_strs menuN (News.isList (by k_asm) (by k_mem)) ?a ?b ?z ?c ?_; (case c => exact allN); (case a => exact (fmod_in _ (by decide)).1); (case b => exact (fmod_in _ (by decide)).2); (case z => exact Nat.le_of_ble_eq_true rfl); k_whole); intro b' t' hb'))
/-- what _law_pair gives as a part -/
def PartOk (p : Str) : Prop := ∃ (r : Bool) (names : List Str), names.length ≤ 3 ∧ (∀ x ∈ names, x ∈ menuN) ∧ p = Str.ofString (if r then "/" else "") ++ Txt.join (Str.ofString "/") names
def PairOk (q : Str × Str) : Prop := q.1 ∈ menuK ∧ PartOk q.2
theorem menuN_len : ∀ x ∈ menuN, x.length ≤ 4 := by decide
theorem partOk_t {p : Str} {names : List Str} (h1 : names.length ≤ 3) (h2 : ∀ x ∈ names, x ∈ menuN) (e : p = Str.ofString "/" ++ Txt.join (Str.ofString "/") names) : PartOk p := ⟨true, names, h1, h2, e⟩
theorem partOk_f {p : Str} {names : List Str} (h1 : names.length ≤ 3) (h2 : ∀ x ∈ names, x ∈ menuN) (e : p = Str.ofString "" ++ Txt.join (Str.ofString "/") names) : PartOk p := ⟨false, names, h1, h2, e⟩
theorem pair_ok (G : Gr w mean mg mb c A s.heap) {n : Int} {t : Tok}
    (h9 : ∀ h' tk a k p t1 t2 n', s.heap.StaysIn h' → s.heap.get? a = none → h'.get? a = some (PT k p t1 t2 n') → PairOk (k, p) → Q (.ref a) { s with heap := h', toks := tk }) :
    wpAny (model P0 w) A (call (.ref 148) [.int n t]) Q E s := by
  obtain ⟨hA, dA, fA, gA, uA⟩ := A
  obtain rfl : hA = none := G.hh
  w_on
  walk_at "mine enter"
  intro L' h' F' N'
  have X : (Mine.hd.heap_39 w.params).In s.heap := G.k
  have T : Top Mine.vw (looseW Mine.vw []) mean mg mb s.heap := G.t
  replace F' : Fr s.heap L' h' (fun y => List.lookup y [(Str.ofString "number", Value.int n t)]) := F'
  w_top on
  dsimp only
  walk_at "mine steps"
  all_goals (
    rename_i nl _ l1 _ _ _ _ _ _ _ _ _ hR F9 N9 _
    (rename _ ∈ menuK => hkey)
    dsimp only at F9 N9 hR ⊢
    obtain ⟨hc0, hc4⟩ := fmod_in ((n.fmod 12288).fdiv 6) (b := 4) (by decide)
    have hnI := ltN (Heap.lt_size (N9 _ (.head _)).1)
    dsimp only at hnI
    generalize ((n.fmod 12288).fdiv 6).fdiv 4 = r1 at F9
    generalize ((n.fmod 12288).fdiv 6).fmod 4 = cnt at F9 hR hc0 hc4
    generalize (n.fmod 12288).fdiv 6 = r2 at F9
    generalize n.fmod 12288 = r3 at F9
    have q1 : Builtin.Range.small 0 cnt 1 = true := small_one (by omega) (by omega) (by omega) (by omega)
    have q2 := rangeSize_nat 0 cnt
    refine loop_range (σ := Int × Tok × List (Str × Tok) × Nat × Str × Tok × Str × Tok) (c₀ := (_, _, [], 0, _, _, _, _)) (n := (cnt - 0).toNat)
      (fun c => [(Str.ofString "names", .ref nl), (Str.ofString "rest", .int c.1 c.2.1), (Str.ofString "key", .str c.2.2.2.2.1 c.2.2.2.2.2.1), (Str.ofString "root", .str c.2.2.2.2.2.2.1 c.2.2.2.2.2.2.2)])
      (fun c => [(nl, SL c.2.2.1 c.2.2.2.1)])
      (fun i c => c.2.2.1.length = i ∧ (∀ p ∈ c.2.2.1, p.1 ∈ menuN) ∧ c.2.2.2.2.1 ∈ menuK ∧ (c.2.2.2.2.2.2.1 = Str.ofString "/" ∨ c.2.2.2.2.2.2.1 = Str.ofString "")) rfl hR q1 q2
      ?h1 F9 (all2 rfl (all2 rfl (all2 rfl (all2 rfl all0)))) ?h2 ?h3 ?_ ?_
    case h1 => exact fun _ _ _ => all2 (Nat.ne_of_lt hnI) all0
    case h2 => exact News.sub N9 (all2 (.head _) all0)
    case h3 => exact ⟨rfl, all0, hkey, by first | exact .inl rfl | exact .inr rfl⟩
    · rintro i h tk tt ⟨rest, tr, ys, n1, key, tk1, root, tk2⟩ m oI hi ⟨hyl, hym, hkey, hroot⟩ F' N'
      dsimp only at hyl hym hkey hroot F' N' ⊢
      change Fr s.heap L' h _ at F'
      change News s.heap L' h _ at N'
      clear N9 F9
      have hyz : ys.length ≤ 4 := by omega
      walk_at "mine steps"
      (rename Fr _ _ _ _ => F9); (rename News _ _ _ _ => N9); (rename _ ∈ menuN => hb9)
      refine TurnF.next (_, _, _, _, _, _, _, _) F9 (all2 rfl (all2 rfl (all2 rfl (all2 rfl all0)))) (News.sub N9 (all2 (by k_mem) (all2 (by k_mem) all0))) ⟨by simp [hyl], fun p hp => (List.mem_append.mp hp).elim (hym p) fun hp => by rw [List.mem_singleton.mp hp]; exact hb9, hkey, hroot⟩
    · rintro h tk ⟨rest, tr, ys, n1, key, tk1, root, tk2⟩ m ⟨hyl, hym, hkey, hroot⟩ F' N'
      dsimp only at hyl hym hkey hroot F' N' ⊢
      change Fr s.heap L' h _ at F'
      change News s.heap L' h _ at N'
      clear N9 F9
      have hyz : ys.length ≤ 4 := by omega
      have hnames : ∀ x ∈ ys.map (·.1), x ∈ menuN := fun x hx => by
        obtain ⟨p, hp, rfl⟩ := List.mem_map.mp hx
        exact hym p hp
      have hjz : ((ys.map (·.1)).map (·.length)).sum + 2 * ys.length ≤ 4000000 := by
        have := sum_le_of (fun q : Str => q.length) 4 (ys.map (·.1)) fun x hx => menuN_len x (hnames x hx)
        rw [List.length_map] at this
        omega
      have hjl : (Txt.join (Str.ofString "/") (ys.map (·.1))).length ≤ 4000000 - 1 := by
        have h5 := StrLaws.join_length_le (Str.ofString "/") (ys.map (·.1))
        rw [← show Txt.join (Str.ofString "/") (ys.map (·.1)) = Str.join (Str.ofString "/") (ys.map (·.1)) from StrLaws.glued_eq_join _ _] at h5
        have := sum_le_of (fun q : Str => q.length) 4 (ys.map (·.1)) fun x hx => menuN_len x (hnames x hx)
        rw [List.length_map] at this h5
        rw [show (Str.ofString "/").length = 1 from rfl] at h5
        omega
      have hl0 : root.length ≤ 1 := by rcases hroot with rfl | rfl <;> decide
      walk_at "mine steps"
      (rename Fr _ _ _ _ => F9); (rename News _ _ _ _ => N9)
      have hpart : PartOk (root ++ Txt.join (Str.ofString "/") (ys.map (·.1))) := by
        rcases hroot with rfl | rfl
        · exact partOk_t (by rw [List.length_map]; omega) hnames rfl
        · exact partOk_f (by rw [List.length_map]; omega) hnames rfl
      obtain ⟨hN1, _, hN2⟩ := N9 _ (.head _)
      exact h9 _ _ _ key (root ++ Txt.join (Str.ofString "/") (ys.map (·.1))) _ _ _ F9.keep hN2 hN1 ⟨hkey, hpart⟩)
end

theorem PairsV.of_get {h : Heap} : ∀ {vs : List Value} {ps : List (Str × Str)}, vs.length = ps.length → (∀ (j : Nat) v, vs[j]? = some v → ∃ q, ps[j]? = some q ∧ PairV h v q) → PairsV h vs ps
  | [], [], _, _ => trivial
  | [], _ :: _, hl, _ => by simp at hl
  | _ :: _, [], hl, _ => by simp at hl
  | v :: vs, q :: ps, hl, hg => by
    obtain ⟨q', e, hp⟩ := hg 0 v rfl
    have e' : q = q' := by simpa using e
    subst e'
    exact ⟨hp, PairsV.of_get (by simpa using hl) fun j v hv => by
      obtain ⟨q', e, hp⟩ := hg (j + 1) v (by simpa using hv)
      exact ⟨q', by simpa using e, hp⟩⟩
abbrev IV (d : Addr) : Obj := { cls := .type "dict_items", data := .fields #[.ref d] }
section
variable {w : World} {A : Around} {E : Value → Shared → Prop} {s : Shared} {h₀ : Heap} {L d v : Addr} {m : Str → Option Value} {news : List (Addr × Obj)} {o : Obj} {es : List Ent}
theorem meth_E {name : Str} {id : String} {pl : Sem Bool} {Q : Value × List Value → Shared → Prop} (slot : Slot "dict" name id) (ty : typeOf (.builtin id) = pure (.type "method_descriptor")) (N : News h₀ L s.heap news) (hp : (d, o) ∈ news) (hd : DO w o es) (h : Q (.builtin id, [.ref d]) s) :
    wpAny (model P0 w) A (getMethod (.ref d) name pl) Q E s := kdl_method (knd := PySem.strKind P0 w) slot ty N hp hd h
theorem view_E {Q : Value → Shared → Prop} (F : Fr h₀ L s.heap m) (N : News h₀ L s.heap news) (hp : (d, o) ∈ news) (hd : DO w o es) (lo : (d == sysModules) = false)
    (h : ∀ D h', Fr h₀ L h' m → News h₀ L h' ((D, IV d) :: news) → (∀ q ∈ news, q.1 < D) → Q (.ref D) { s with heap := h' }) : wpAny (model P0 w) A (call (.builtin "dict.items") [.ref d]) Q E s :=
  kdx_view (knd := PySem.strKind P0 w) F N hp hd lo h
theorem DV_get {j : Nat} {k : Str} {x : Value} (h : (DV es)[j]? = some (k, x)) : ∃ p t, es[j]? = some (k, p, t) ∧ x = .str p t := by
  rw [DV, List.getElem?_map] at h
  cases q : es[j]? with
  | none => rw [q] at h; cases h
  | some e =>
    rw [q] at h
    obtain ⟨a, b, c⟩ := e
    have := Option.some.inj h
    simp only [Prod.mk.injEq] at this
    obtain ⟨rfl, rfl⟩ := this
    exact ⟨b, c, rfl, rfl⟩
theorem items_list {Q : Value → Shared → Prop} (hh : A.handled = none) (F : Fr h₀ L s.heap m) (N : News h₀ L s.heap news) (hv : (v, IV d) ∈ news) (hp : (d, o) ∈ news) (hd : DO w o es) (hz : es.length ≤ 1000000)
    (h : ∀ B h' tk, s.heap.StaysIn h' → h₀.get? B = none → PairsAt h' B (proj es) → Q (.ref B) { s with heap := h', toks := tk }) : wpAny (model P0 w) A (call (.type "list") [.ref v]) Q E s := by
  obtain ⟨ep, hat⟩ := KdkAt.of (knd := PySem.strKind P0 w) hd
  refine kdx_call (knd := PySem.strKind P0 w) (kvs := DV es) (ep := ep) hh ⟨_, (N _ hv).1, rfl, rfl⟩ (hat.dictAt (N _ hp).1) (by rw [DV, List.length_map, sizeLine_eq]; omega) fun h' tk acc c as hk hS hl hG hacc => h _ h' tk hk ?_ ⟨as.map Value.ref, c, ?_, PairsV.of_get ?_ ?_⟩
  · cases q : h₀.get? s.heap.objs.size with
    | none => rfl
    | some o => exact absurd (Heap.lt_size (F.keep _ o q)) (Nat.lt_irrefl _)
  · have ea : acc = (as.map Value.ref).toArray := by rw [← hacc, Array.toArray_toList]
    rw [← ea]; exact hS
  · rw [List.length_map, hl, DV, List.length_map, proj, List.length_map]
  · intro j v hv
    rw [List.getElem?_map] at hv
    cases q : as[j]? with
    | none => rw [q] at hv; cases hv
    | some a =>
      rw [q] at hv
      obtain ⟨key, k, x, e1, e2, e3⟩ := hG.pairs j a q
      obtain ⟨p, t, e4, rfl⟩ := DV_get e1
      obtain ⟨t1, rfl⟩ := Value.isStrOf_shape e2
      refine ⟨(k, p), by rw [proj, List.getElem?_map, e4]; rfl, a, t1, t, 0, (Option.some.inj hv).symm, e3⟩
end
section
variable {prog : Program} {w : World} {A : Around} {E : Value → Shared → Prop} {s : Shared} {env : Env} {target iter : Expr} {body : List Stmt} {pos : Pos} {Q : Flow → Shared → Prop}
def LoopR (prog : Program) (w : World) (A : Around) (env : Env) (target : Expr) (body : List Stmt) (Q : Flow → Shared → Prop) (it : Value) (s₂ : Shared) : Prop :=
  codeAny (model prog w) A (.forLoop target it body [] env) (fun r s' => match r with | .ok f => Q f s' | .error _ => False) s₂
theorem for_raw (h : wpAny (model prog w) A (eval iter env) (fun xv s₁ => wpAny (model prog w) A (pyIter xv) (fun it s₂ => LoopR prog w A env target body Q it s₂) no s₁) no s)
    (hs : ∀ x, foldedSetIterable iter env x = pure x := by intro _; rfl) : wpAny (model prog w) A (exec (.For target iter body [] pos) env) Q E s :=
  wpAny_mono (E := no) (wpAny_For (wpAny_mono h (fun _ _ h₁ => wpAny_mono h₁ (fun _ _ h₂ => codeAny_mono h₂ (fun r _ hr => by
    cases r with
    | ok f => exact hr
    | error e => exact hr.elim)) fun _ _ x => x) fun _ _ x => x) hs) (fun _ _ x => x) fun _ _ x => x.elim
/-- the end of the one turn over a dict of one entry -/
def EndI (Q : Flow → Shared → Prop) (s₂ : Shared) (g : Heap) (L I : Addr) (oI : Obj) (d : Addr) (od : Obj) (f : Flow) (s' : Shared) : Prop :=
  match f with
  | .ret v => Q (.ret v) s'
  | .brk => Q .next s'
  | _ => ∃ h' tk' m' news', s' = { s₂ with heap := h', toks := tk' } ∧ Fr g L h' m' ∧ News g L h' ((I, oI) :: (d, od) :: news') ∧ (∀ p ∈ news', p.1 ≠ I) ∧ ∀ h'' tk'', Fr g L h'' m' → News g L h'' news' → Q .next { s₂ with heap := h'', toks := tk'' }
end
section
variable {w : World} {A : Around} {s : Shared} {env : Env} {body : List Stmt} {Q : Flow → Shared → Prop} {g : Heap} {d v : Addr} {o : Obj} {k x : Str} {t : Tok} {m : Str → Option Value} {news : List (Addr × Obj)} {elts : List Expr} {kk : Nat} {pos : Pos}
theorem items1 (hh : A.handled = none) (hd : DO w o [(k, x, t)]) (F : Fr g env.locals s.heap m) (N : News g env.locals s.heap news) (hv : (v, IV d) ∈ news) (hp : (d, o) ∈ news)
    (turn : ∀ h T I tk oI t1, (∀ p ∈ news, p.1 < I) → I < T → Fr g env.locals h m → News g env.locals h ((T, PT k x t1 t 0) :: (I, oI) :: news) →
      wpAny (model P0 w) A (assign (.Tuple elts kk pos) env (.ref T)) (fun _ s₄ => wpAny (model P0 w) A (execs body env) (EndI Q s g env.locals I oI d o) no s₄) no { s with heap := h, toks := tk }) :
    wpAny (model P0 w) A (pyIter (.ref v)) (fun it s₂ => LoopR P0 w A env (.Tuple elts kk pos) body Q it s₂) no s := by
  obtain ⟨ep, hat⟩ := KdkAt.of (knd := PySem.strKind P0 w) hd
  have hD := hat.dictAt (N _ hp).1
  have hdI : d < s.heap.objs.size := Heap.lt_size (N _ hp).1
  refine wpAny_pyIter_items (knd := PySem.strKind P0 w) (kvs := DV [(k, x, t)]) (ep := ep) ⟨_, (N _ hv).1, rfl, rfl⟩ hD ?_
  have hLI : env.locals ≠ s.heap.objs.size := Nat.ne_of_lt F.ns.lt
  have hI0 : g.get? s.heap.objs.size = none := by
    cases q : g.get? s.heap.objs.size with
    | none => rfl
    | some o => exact absurd (Heap.lt_size (F.keep _ o q)) (Nat.lt_irrefl _)
  have hlt : ∀ p ∈ news, p.1 < s.heap.objs.size := fun p hp => Heap.lt_size (N p hp).1
  generalize hI : s.heap.objs.size = I at *
  refine codeAny_forLoop_any (fun n s' => (n = 1 ∧ ∃ h', s' = { s with heap := h' } ∧ (∃ ok ov, IsItemIter h' I d 0 1 ep ok ov) ∧ (∀ b o, s.heap.get? b = some o → h'.get? b = some o) ∧ I < h'.objs.size) ∨
    (n = 0 ∧ ∃ h' tk' m' news' oI, s' = { s with heap := h', toks := tk' } ∧ (∃ ok ov, IsItemIter h' I d 1 1 ep ok ov ∧ h'.get? I = some oI) ∧ Fr g env.locals h' m' ∧ News g env.locals h' ((I, oI) :: (d, o) :: news') ∧ (∀ p ∈ news', p.1 ≠ I) ∧
      ∀ h'' tk'', Fr g env.locals h'' m' → News g env.locals h'' news' → Q .next { s with heap := h'', toks := tk'' })) ?_ 1 ?_
  · rintro n s' (⟨rfl, h', rfl, ⟨ok, ov, hit⟩, hk, hIs⟩ | ⟨rfl, h', tk', m', news', oI, rfl, ⟨ok, ov, hit, hIo⟩, F', N', hap, fin⟩)
    · refine wpAny_pyNext_items_item (s := { s with heap := h' }) (knd := PySem.strKind P0 w) (kvs := DV [(k, x, t)]) (k := k) (v := .str x t) hit (hat.dictAt (hk _ _ (N _ hp).1)) rfl fun key h₁ hkey ho hT hsz hk₁ => ?_
      obtain ⟨t1, rfl⟩ := Value.isStrOf_shape hkey
      refine wpAny_letOwnedTupleGo_items (s := { s with heap := h₁ }) ho fun h₂ he₂ hs₂ => ?_
      have keep : ∀ b o, b ≠ I → s.heap.get? b = some o → h₂.get? b = some o := fun b o hb e => hs₂.extBut b o hb (hk₁ b o hb (hk b o e))
      have F₂ : Fr g env.locals h₂ m := ⟨F.ns.at' fun o e => keep _ o hLI e, fun b o e => keep b o (fun hb => by rw [hb, hI0] at e; cases e) (F.keep b o e), F.above⟩
      have hTI : h'.objs.size ≠ I := Nat.ne_of_gt hIs
      obtain ⟨oI, hoI, hoE⟩ : ∃ oI, h₂.get? I = some oI ∧ ∀ h3 : Heap, h3.get? I = some oI → IsItemIter h3 I d (0 + 1) 1 ep (Value.str k t1) (Value.str x t) := ⟨_, he₂, fun _ q => q⟩
      have N₂ : News g env.locals h₂ ((h'.objs.size, PT k x t1 t 0) :: (I, oI) :: news) := by
        refine all2 ⟨hs₂.extBut _ _ hTI hT, ?_, ?_⟩ (all2 ⟨hoI, Ne.symm hLI, hI0⟩ fun p hp' => ⟨keep _ _ (Nat.ne_of_lt (hlt p hp')) (N p hp').1, (N p hp').2⟩)
        · have h1 := ltN F.ns.lt
          rw [hI] at h1
          exact Nat.ne_of_gt (Nat.lt_trans h1 hIs)
        · cases q : g.get? h'.objs.size with
          | none => rfl
          | some o =>
            have h1 := ltN (Heap.lt_size (F.keep _ o q))
            rw [hI] at h1
            exact absurd (Nat.lt_trans h1 hIs) (Nat.lt_irrefl _)
      refine wpAny_mono (wpAny_mono (turn h₂ _ I s.toks oI t1 hlt hIs F₂ N₂) (fun _ s₄ h₄ => wpAny_mono h₄ (fun f s₅ h₅ => ?_) fun _ _ x => x.elim) fun _ _ x => x.elim) (fun _ _ x => x) fun _ _ x => x
      cases f with
      | ret v => exact h₅
      | brk => exact h₅
      | next =>
        obtain ⟨h', tk', m', news', rfl, F', N', hap, fin⟩ := h₅
        exact ⟨0, by omega, .inr ⟨rfl, h', tk', m', news', _, rfl, ⟨_, _, hoE _ (N' _ (.head _)).1, (N' _ (.head _)).1⟩, F', N', hap, fin⟩⟩
      | cont =>
        obtain ⟨h', tk', m', news', rfl, F', N', hap, fin⟩ := h₅
        exact ⟨0, by omega, .inr ⟨rfl, h', tk', m', news', _, rfl, ⟨_, _, hoE _ (N' _ (.head _)).1, (N' _ (.head _)).1⟩, F', N', hap, fin⟩⟩
    · refine wpAny_pyNext_items_end (s := { s with heap := h', toks := tk' }) (knd := PySem.strKind P0 w) (kvs := DV [(k, x, t)]) hh hit (hat.dictAt (N' _ (.tail _ (.head _))).1) rfl fun h₁ he => wpAny_execs_nil ?_
      refine fin h₁ tk' ⟨F'.ns.at' fun o e => he _ o hLI e, fun b o e => he b o (fun hb => by rw [hb, hI0] at e; cases e) (F'.keep b o e), F'.above⟩ fun p hp' => ?_
      have := N' p (.tail _ (.tail _ hp'))
      exact ⟨he _ _ (hap p hp') this.1, this.2⟩
  · refine .inl ⟨rfl, _, rfl, ⟨.none, .none, ?_⟩, fun b o e => Heap.get?_push_of_some _ e, ?_⟩
    · rw [← hI]; exact Heap.get?_push_size _ rfl
    · rw [Heap.size_push, hI]; exact Nat.lt_succ_self _
end

/-- a text that reads as a header -/
structure RD (x : Str) (kv : Str → Str × Str) : Prop where
  hx : x.length ≤ 100000
  n : (httpOf x).length ≤ 20
  it : ∀ a ∈ httpOf x, a.length ≤ 100000 ∧ Txt.splitMax a (Str.ofString "=") 1 = [(kv a).1, (kv a).2] ∧ (kv a).2.length ≠ 0
def pairsOf (x : Str) (kv : Str → Str × Str) : List (Str × Str) := (httpOf x).map fun a => ((kv a).1, unq (kv a).2)
section
variable {x : Str} {kv : Str → Str × Str} {ys : List (Str × Tok)}
theorem RD.mem (h : ys.map (·.1) = httpOf x) {p : Str × Tok} (hp : p ∈ ys) : p.1 ∈ httpOf x := by rw [← h]; exact List.mem_map.mpr ⟨p, hp, rfl⟩
theorem RD.he (R : RD x kv) (h : ys.map (·.1) = httpOf x) : ∀ p ∈ ys, p.1.length ≤ 100000 := fun _ hp => (R.it _ (RD.mem h hp)).1
theorem RD.hn (R : RD x kv) (h : ys.map (·.1) = httpOf x) : ys.length ≤ 20 := by have := R.n; rw [← h, List.length_map] at this; exact this
theorem RD.hkv (R : RD x kv) (h : ys.map (·.1) = httpOf x) : ∀ p ∈ ys, Txt.splitMax p.1 (Str.ofString "=") 1 = [(kv p.1).1, (kv p.1).2] ∧ (kv p.1).2.length ≠ 0 := fun _ hp => (R.it _ (RD.mem h hp)).2
theorem RD.ps (h : ys.map (·.1) = httpOf x) : (ys.map fun p => ((kv p.1).1, unq (kv p.1).2)) = pairsOf x kv := by rw [pairsOf, ← h, List.map_map]; rfl
theorem dictP_len : ∀ (l ps : List (Str × Str)), (l.foldl (fun ps p => putP ps p.1 p.2) ps).length ≤ ps.length + l.length
  | [], ps => by simp
  | p :: l, ps => by
    have h1 := dictP_len l (putP ps p.1 p.2)
    have h2 : (putP ps p.1 p.2).length ≤ ps.length + 1 := by unfold putP; split <;> simp
    simp only [List.foldl_cons, List.length_cons]; omega
theorem es_len {es : List Ent} {l : List (Str × Str)} {n : Nat} (h : proj es = dictP l) (hn : l.length ≤ n) : es.length ≤ n := by
  have h1 := dictP_len l []
  have h2 := congrArg List.length h
  rw [proj, List.length_map] at h2
  unfold dictP at h2
  simp only [List.length_nil] at h1
  omega
end
section
variable {w : World} {mean : ExcName → Option Value} {mg mb : Str → Option Value} {c : Nat} {A : Around} {s : Shared} {Q E : Value → Shared → Prop}
local macro_rules | `(tactic| walk_at "call ref") => `(tactic| ((rename Fr _ _ _ _ => F9); (rename News _ _ _ _ => N9); refine http_ok (Gr.sub (c' := 2) (by assumption) F9 (by omega)) (RD.hx (by assumption)) ?_; intro h9 tk9 a9 ys9 n9 hs9 hf9 ho9 hy9; (have hne9 := News.apart N9 hf9); (have F8 := Fr.keeps F9 hs9); (have N8 := News.add F9 N9 hs9 hf9 ho9); clear F9 N9 hf9 ho9; (try dsimp only)))
local macro_rules | `(tactic| walk_at "call ref") => `(tactic| ((rename Fr _ _ _ _ => F9); (rename News _ _ _ _ => N9); refine keqv_ok (Gr.sub (c' := 2) (by assumption) F9 (by omega)) (News.get N9 (by k_mem)) (RD.he (by assumption) (by assumption)) (Nat.le_trans (RD.hn (by assumption) (by assumption)) (by decide)) (RD.hkv (by assumption) (by assumption)) ?_; intro h9 tk9 a9 o9 ds9 hs9 hf9 ho9 hd9 lo9 hp9; (have hne9 := News.apart N9 hf9); (have F8 := Fr.keeps F9 hs9); (have N8 := News.add F9 N9 hs9 hf9 ho9); clear F9 N9 hf9 ho9; (try dsimp only)))
local macro_rules | `(tactic| walk_at "getMethod ref") => `(tactic| ((rename Fr _ _ _ _ => F9); (rename News _ _ _ _ => N9); refine meth_E PySem.F.slot_dict_items PySem.F.type_dict_items N9 (by k_mem) (by assumption) ?_))
local macro_rules | `(tactic| walk_at "call builtin:dict.items") => `(tactic| ((rename Fr _ _ _ _ => F9); (rename News _ _ _ _ => N9); refine view_E F9 N9 (by k_mem) (by assumption) (by assumption) ?_; intro D9 h9 F8 N8 l9; clear F9 N9; (try dsimp only)))
theorem read_ok (G : Gr w mean mg mb c A s.heap) (hc : 3 ≤ c) {x : Str} {t : Tok} {kv : Str → Str × Str} (R : RD x kv)
    (h9 : ∀ h' tk B, s.heap.StaysIn h' → s.heap.get? B = none → PairsAt h' B (dictP (pairsOf x kv)) → Q (.ref B) { s with heap := h', toks := tk }) :
    wpAny (model P0 w) A (call (.ref 162) [.str x t]) Q E s := by
  obtain ⟨hA, dA, fA, gA, uA⟩ := A
  obtain rfl : hA = none := G.hh
  w_on
  walk_at "mine enter"
  intro L' h' F' N'
  have X : (Mine.hd.heap_39 w.params).In s.heap := G.k
  have T : Top Mine.vw (looseW Mine.vw []) mean mg mb s.heap := G.t
  replace F' : Fr s.heap L' h' (fun y => List.lookup y [(Str.ofString "text", Value.str x t)]) := F'
  w_top on
  dsimp only
  walk_at "mine steps"
  (rename Fr _ _ _ _ => F9); (rename News _ _ _ _ => N9)
  (rename DO _ _ _ => hd9); (rename _ = dictP _ => hp9); (rename _ = httpOf x => hy9)
  rw [RD.ps hy9] at hp9
  have hpl : (pairsOf x kv).length ≤ 1000000 := by rw [pairsOf, List.length_map]; exact Nat.le_trans R.n (by decide)
  refine items_list rfl F9 N9 (.head _) (by k_mem) hd9 (es_len hp9 hpl) fun B h' tk hs hn hP => ?_
  rw [hp9] at hP
  exact h9 h' tk B (fun b o e => hs b o (F9.keep b o e)) hn hP
end

def getP (ps : List (Str × Str)) (k : Str) : Option Str := (ps.find? fun p => p.1 = k).map (·.2)
def stepF (f : Str → Str → Str) (d : Str) (tr : List (Str × Str)) (q : Str × Str) : List (Str × Str) := putP tr q.1 (f ((getP tr q.1).getD d) q.2)
def foldF (f : Str → Str → Str) (d : Str) (ps : List (Str × Str)) : List (Str × Str) := ps.foldl (stepF f d) []
def hungF (a p : Str) : Str := joinStep (joinStep a (Str.ofString "")) p
def folF (a p : Str) : Str := normOf (joinStep a p)
theorem getE_proj (es : List Ent) (k : Str) : getE es k = getP (proj es) k := by
  unfold getE getP proj
  induction es with
  | nil => rfl
  | cons e r ih =>
    simp only [List.map_cons, List.find?_cons]
    by_cases h : e.1 = k
    · simp [h]
    · simp only [h, decide_false]; exact ih
theorem getE_mem {es : List Ent} {k v : Str} (h : getE es k = some v) : ∃ e ∈ es, e.2.1 = v := by
  unfold getE at h
  cases q : es.find? (fun e => e.1 = k) with
  | none => rw [q] at h; cases h
  | some e => rw [q] at h; exact ⟨e, List.mem_of_find?_eq_some q, Option.some.inj h⟩
theorem getE_all {P : Str → Prop} {es : List Ent} {d : Str} (k : Str) (hd : P d) (h : ∀ e ∈ es, P e.2.1) : P ((getE es k).getD d) := by
  cases q : getE es k with
  | none => exact hd
  | some v => obtain ⟨e, he, rfl⟩ := getE_mem q; exact h e he
theorem putE_all {P : Str → Prop} {es : List Ent} {k v : Str} {t : Tok} (hv : P v) (h : ∀ e ∈ es, P e.2.1) : ∀ e ∈ putE es k v t, P e.2.1 := by
  unfold putE
  split
  · intro e he
    obtain ⟨e', he', rfl⟩ := List.mem_map.mp he
    split
    · exact hv
    · exact h e' he'
  · intro e he
    rcases List.mem_append.mp he with he | he
    · exact h e he
    · rw [List.mem_singleton.mp he]; exact hv
theorem one_of {ds : List Ent} {q : Str × Str} (h : proj ds = dictP [q]) : ∃ t, ds = [(q.1, q.2, t)] := by
  match ds, h with
  | [(a, b, t)], h =>
    simp only [proj, dictP, putP, List.map_cons, List.map_nil, List.foldl_cons, List.foldl_nil, List.any_nil, Bool.false_eq_true, if_false, List.nil_append, List.cons.injEq, and_true] at h
    obtain ⟨rfl, rfl⟩ := Prod.mk.injEq .. ▸ h
    exact ⟨t, rfl⟩
  | [], h => simp [proj, dictP, putP] at h
  | _ :: _ :: _, h => simp [proj, dictP, putP] at h
theorem foldF_take {f : Str → Str → Str} {d : Str} {ps : List (Str × Str)} {q : Str × Str} {i : Nat} (h : ps[i]? = some q) : foldF f d (ps.take (i + 1)) = stepF f d (foldF f d (ps.take i)) q := by
  rw [foldF, foldF, List.take_add_one, h, List.foldl_append]; rfl
theorem neG {a b : Addr} (h : a ≠ b) : @Ne Nat a b := h
theorem normOf_len (x : Str) : (normOf x).length ≤ x.length + 2 := by
  have h5 := split_weight (Txt.slice x (some 1) none) (Str.ofString "/") (by decide)
  have h6 : (Txt.slice x (some 1) none).length ≤ x.length := Txt.slice_le _ _ _
  have h7 := normFold_wt (Txt.split (Txt.slice x (some 1) none) (Str.ofString "/")) []
  have h8 : wt [] = 0 := rfl
  have h9 := StrLaws.join_length_le (Str.ofString "/") ((Txt.split (Txt.slice x (some 1) none) (Str.ofString "/")).foldl normStep [])
  rw [← show Txt.join (Str.ofString "/") _ = Str.join (Str.ofString "/") ((Txt.split (Txt.slice x (some 1) none) (Str.ofString "/")).foldl normStep []) from StrLaws.glued_eq_join _ _] at h9
  rw [wt_sum] at h5
  have h10 := wt_sum ((Txt.split (Txt.slice x (some 1) none) (Str.ofString "/")).foldl normStep [])
  rw [show (Str.ofString "/").length = 1 from rfl] at h9
  rw [normOf, Str.length_append, show (Str.ofString "/").length = 1 from rfl]
  omega
section
variable {w : World} {mean : ExcName → Option Value} {mg mb : Str → Option Value} {c : Nat} {A : Around} {s : Shared} {Q E : Value → Shared → Prop}
local macro_rules | `(tactic| walk_at "exec For Tuple Call cons nil") => `(tactic| (k_dflt (refine for_raw ?_ (by intro _; with_unfolding_all rfl))))
local macro_rules | `(tactic| walk_at "exec For Tuple Call Attribute cons nil") => `(tactic| (k_dflt (refine for_raw ?_ (by intro _; with_unfolding_all rfl))))
local macro_rules | `(tactic| walk_at "call ref") => `(tactic| ((rename Fr _ _ _ _ => F9); (rename News _ _ _ _ => N9); refine http_ok (Gr.sub (c' := 5) (by assumption) F9 (by omega)) (RD.hx (by assumption)) ?_; intro h9 tk9 a9 ys9 n9 hs9 hf9 ho9 hy9; (have hne9 := News.apart N9 hf9); (have F8 := Fr.keeps F9 hs9); (have N8 := News.add F9 N9 hs9 hf9 ho9); clear F9 N9 hf9 ho9; (try dsimp only)))
local macro_rules | `(tactic| walk_at "call ref") => `(tactic| ((rename Fr _ _ _ _ => F9); (rename News _ _ _ _ => N9); refine keqv_ok (es := [(_, _)]) (n := 0) (Gr.sub (c' := 5) (by assumption) F9 (by omega)) (News.get N9 (by k_mem)) (all2 (by assumption) all0) (by simp) (all2 (by assumption) all0) ?_; intro h9 tk9 a9 o9 ds9 hs9 hf9 ho9 hd9 lo9 hp9; obtain ⟨t9, e9⟩ := one_of hp9; subst e9; (have hne9 := News.apart N9 hf9); (have F8 := Fr.keeps F9 hs9); (have N8 := News.add F9 N9 hs9 hf9 ho9); clear F9 N9 hf9 ho9 hp9; (try dsimp only)))
theorem join2_ok (G : Gr w mean mg mb c A s.heap) (hc : 2 ≤ c) {a x y : Str} {ta tx ty : Tok} (ha : a.length ≤ 100000) (hx : x.length ≤ 100000) (hy : y.length ≤ 100000)
    (h0 : ∀ h' tk t', s.heap.StaysIn h' → Q (.str (joinStep (joinStep a x) y) t') { s with heap := h', toks := tk }) : wpAny (model P0 w) A (call (.ref 115) [.str a ta, .str x tx, .str y ty]) Q E s :=
  join_ok (bs := [(x, tx), (y, ty)]) G hc ha (all2 hx (all2 hy all0)) (by simp) h0
theorem join1_ok (G : Gr w mean mg mb c A s.heap) (hc : 2 ≤ c) {a x : Str} {ta tx : Tok} (ha : a.length ≤ 100000) (hx : x.length ≤ 100000)
    (h0 : ∀ h' tk t', s.heap.StaysIn h' → Q (.str (joinStep a x) t') { s with heap := h', toks := tk }) : wpAny (model P0 w) A (call (.ref 115) [.str a ta, .str x tx]) Q E s :=
  join_ok (bs := [(x, tx)]) G hc ha (all2 hx all0) (by simp) h0
local macro_rules | `(tactic| walk_at "call ref") => `(tactic| ((rename Fr _ _ _ _ => F9); (rename News _ _ _ _ => N9); refine join2_ok (Gr.sub (c' := 5) (by assumption) F9 (by omega)) (by decide) (by omega) (by first | decide | omega) (by omega) ?_; intro h9 tk9 t9 hs9; (have F8 := Fr.keeps F9 hs9); (have N8 := News.keeps N9 hs9); clear F9 N9; (try dsimp only)))
local macro_rules | `(tactic| walk_at "call ref") => `(tactic| ((rename Fr _ _ _ _ => F9); (rename News _ _ _ _ => N9); refine join1_ok (Gr.sub (c' := 5) (by assumption) F9 (by omega)) (by decide) (by omega) (by omega) ?_; intro h9 tk9 t9 hs9; (have F8 := Fr.keeps F9 hs9); (have N8 := News.keeps N9 hs9); clear F9 N9; (try dsimp only)))
local macro_rules | `(tactic| walk_at "getMethod ref") => `(tactic| ((rename Fr _ _ _ _ => F9); (rename News _ _ _ _ => N9); (with_reducible show wpAny _ _ (getMethod (Value.ref _) (Str.ofString "items") _) _ _ _); refine meth_E PySem.F.slot_dict_items PySem.F.type_dict_items N9 (by k_mem) (by assumption) ?_))
local macro_rules | `(tactic| walk_at "getMethod ref") => `(tactic| ((rename Fr _ _ _ _ => F9); (rename News _ _ _ _ => N9); (with_reducible show wpAny _ _ (getMethod (Value.ref _) (Str.ofString "get") _) _ _ _); refine meth_E PySem.F.slot_dict_get PySem.F.type_dict_get N9 (by k_mem) (by assumption) ?_))
local macro_rules | `(tactic| walk_at "call builtin:dict.items") => `(tactic| ((rename Fr _ _ _ _ => F9); (rename News _ _ _ _ => N9); refine view_E F9 N9 (by k_mem) (by assumption) (by assumption) ?_; intro D9 h9 F8 N8 l9; clear F9 N9; (try dsimp only); (try k_lt l9)))
local macro_rules | `(tactic| walk_at "call builtin:dict.get") => `(tactic| ((rename Fr _ _ _ _ => F9); (rename News _ _ _ _ => N9); refine get_E (News.get N9 (by k_mem)) (by assumption) (by assumption) ?_; intro t9))
theorem hung_ok (G : Gr w mean mg mb c A s.heap) (hc : 6 ≤ c) {x : Str} {t : Tok} {kv : Str → Str × Str} (R : RD x kv) (hp : ∀ a ∈ httpOf x, (unq (kv a).2).length ≤ 1000)
    (h9 : ∀ h' tk B, s.heap.StaysIn h' → s.heap.get? B = none → PairsAt h' B (foldF hungF (Str.ofString "") (pairsOf x kv)) → Q (.ref B) { s with heap := h', toks := tk }) :
    wpAny (model P0 w) A (call (.ref 176) [.str x t]) Q E s := by
  obtain ⟨hA, dA, fA, gA, uA⟩ := A
  obtain rfl : hA = none := G.hh
  w_on
  walk_at "mine enter"
  intro L' h' F' N'
  have X : (Mine.hd.heap_39 w.params).In s.heap := G.k
  have T : Top Mine.vw (looseW Mine.vw []) mean mg mb s.heap := G.t
  replace F' : Fr s.heap L' h' (fun y => List.lookup y [(Str.ofString "text", Value.str x t)]) := F'
  w_top on
  dsimp only
  walk_at "mine steps"
  (rename Fr _ _ _ _ => F9); (rename News _ _ _ _ => N9)
  rename_i d0 _ o0 lo0 hd0 _ _ _ _ _ _ h1 _ la ys n1 _ hy hne
  try dsimp only at F9 N9 ⊢
  have hyl := RD.hn R hy
  have hlaI := ltN (Heap.lt_size (N9 _ (.head _)).1)
  have hdI := ltN (Heap.lt_size (N9 _ (.tail _ (.head _))).1)
  have hdla := neG (hne _ (.head _))
  try dsimp only at hlaI hdI hdla
  refine loop_list (σ := Obj × List Ent) (items := (strValues ys).toArray) (c₀ := (o0, []))
    (fun c => [(Str.ofString "trails", .ref d0)])
    (fun c => [(la, SL ys n1), (d0, c.1)])
    (fun i c => DO w c.1 c.2 ∧ c.2.length ≤ i ∧ (∀ e ∈ c.2, e.2.1.length ≤ i * 1003) ∧ proj c.2 = foldF hungF (Str.ofString "") ((pairsOf x kv).take i)) rfl ⟨_, (N9 _ (.head _)).1, rfl, _, rfl⟩ (.inr ⟨_, fun _ _ _ => .head _⟩) (.inl ⟨_, _, rfl⟩)
    (fun _ _ _ => all2 (Nat.ne_of_lt hlaI) (all2 (Nat.ne_of_lt hdI) all0)) F9 (all2 rfl all0) N9 ⟨hd0, Nat.le_refl _, all0, rfl⟩ ?_ ?_
  · rintro i v h tk ⟨o, ds⟩ m oI hv ⟨hd, hdl, hel, hj⟩ F' N'
    obtain ⟨b, tb, hb, rfl⟩ := sv_get hv
    dsimp only at hd hdl hel hj F' N' ⊢
    change Fr s.heap L' h _ at F'
    change News s.heap L' h _ at N'
    have hi : i < ys.length := (List.getElem?_eq_some_iff.mp hb).1
    have hbm : b ∈ httpOf x := RD.mem hy (List.mem_of_getElem? hb)
    obtain ⟨hbl, hsp⟩ := R.it b hbm
    have hpl := hp b hbm
    have hdz : ds.length ≤ 100000 := by omega
    have hj' : foldF hungF (Str.ofString "") ((pairsOf x kv).take (i + 1)) = stepF hungF (Str.ofString "") (proj ds) ((kv b).1, unq (kv b).2) := by
      rw [hj]; exact foldF_take (by rw [← RD.ps hy, List.getElem?_map, hb]; rfl)
    have hgl : ∀ k, ((getE ds k).getD (Str.ofString "")).length ≤ i * 1003 := fun k => getE_all (P := fun v => v.length ≤ i * 1003) k (Nat.zero_le _) hel
    clear hv N9 F9 hd0
    walk_at "mine steps"
    (rename Fr _ _ _ _ => F9); (rename News _ _ _ _ => N9); (rename DO _ _ [(_, _, _)] => hd9)
    (rename ∀ (p : Addr × Obj), p ∈ _ → p.1 ≠ _ => hne9)
    have hda := neG (hne9 (d0, o) (.tail _ (.tail _ (.tail _ (.head _)))))
    clear hne9 hne
    dsimp only at hd9 F9 N9 hda ⊢
    refine items1 rfl hd9 F9 N9 (.head _) (.tail _ (.head _)) ?_
    rintro h4 T4 I4 tk4 oI4 t4 hlt hIT F4 N4
    have hT : IsTup h4 T4 [Value.str (kv b).1 t4, Value.str (unq (kv b).2) _].toArray := ⟨_, (N4 _ (.head _)).1, rfl, _, rfl⟩
    (try k_lt hlt)
    replace hIT := ltN hIT
    change Fr s.heap L' h4 _ at F4
    change News s.heap L' h4 _ at N4
    clear N9 F9
    have hgk := hgl (kv b).1
    walk_at "mine steps"
    (rename Fr _ _ _ _ => F9); (rename News _ _ _ _ => N9); (rename DO _ _ (putE _ _ _ _) => D9); rename_i o2
    refine ⟨_, _, _, [(h1.objs.size, oI), (la, SL ys n1), (d0, o2)], rfl, F9, News.sub N9 ?_, ?_, fun h'' tk'' F'' N'' => ?_⟩
    · exact all2 (by k_mem) (all2 (by k_mem) (all2 (by k_mem) (all2 (by k_mem) (all2 (by k_mem) all0))))
    · exact all2 (Nat.ne_of_lt (by omega)) (all2 (Nat.ne_of_lt (by omega)) (all2 (Nat.ne_of_lt (by omega)) all0))
    clear F9 N9
    walk_at "mine steps"
    refine TurnF.next (_, putE ds (kv b).1 _ _) F'' (all2 rfl all0) N'' ⟨D9, Nat.le_trans (putE_len _ _ _ _) (by omega), ?_, ?_⟩
    · refine putE_all (P := fun v => v.length ≤ (i + 1) * 1003) ?_ fun e he => Nat.le_trans (hel e he) (by omega)
      have q1 := joinStep_len (joinStep ((getE ds (kv b).1).getD (Str.ofString "")) (Str.ofString "")) (unq (kv b).2)
      have q2 := joinStep_len ((getE ds (kv b).1).getD (Str.ofString "")) (Str.ofString "")
      have q3 : (Str.ofString "").length = 0 := rfl
      omega
    · rw [hj', putE_proj, stepF, ← getE_proj]; rfl
  · rintro h tk ⟨o, ds⟩ m ⟨hd, hdl, hel, hj⟩ F' N'
    dsimp only at hd hdl hel hj F' N' ⊢
    change Fr s.heap L' h _ at F'
    change News s.heap L' h _ at N'
    clear N9 F9
    walk_at "mine steps"
    (rename Fr _ _ _ _ => F9); (rename News _ _ _ _ => N9)
    refine items_list rfl F9 N9 (.head _) (by k_mem) hd (Nat.le_trans hdl (by rw [List.size_toArray, sv_len]; omega)) fun B h' tk hs hn hP => ?_
    rw [hj, show (strValues ys).toArray.size = (pairsOf x kv).length by rw [← RD.ps hy]; simp [strValues], List.take_length] at hP
    exact h9 h' tk B (fun b o e => hs b o (F9.keep b o e)) hn hP
end

section
variable {w : World} {mean : ExcName → Option Value} {mg mb : Str → Option Value} {c : Nat} {A : Around} {s : Shared} {Q E : Value → Shared → Prop}
local macro_rules | `(tactic| walk_at "pad") => `(tactic| fail "pad")
local macro_rules | `(tactic| walk_at "exec For Tuple Call cons nil") => `(tactic| (k_dflt (refine for_raw ?_ (by intro _; with_unfolding_all rfl))))
local macro_rules | `(tactic| walk_at "exec For Tuple Call Attribute cons nil") => `(tactic| (k_dflt (refine for_raw ?_ (by intro _; with_unfolding_all rfl))))
local macro_rules | `(tactic| walk_at "call ref") => `(tactic| ((rename Fr _ _ _ _ => F9); (rename News _ _ _ _ => N9); refine http_ok (Gr.sub (c' := 5) (by assumption) F9 (by omega)) (RD.hx (by assumption)) ?_; intro h9 tk9 a9 ys9 n9 hs9 hf9 ho9 hy9; (have hne9 := News.apart N9 hf9); (have F8 := Fr.keeps F9 hs9); (have N8 := News.add F9 N9 hs9 hf9 ho9); clear F9 N9 hf9 ho9; (try dsimp only)))
local macro_rules | `(tactic| walk_at "call ref") => `(tactic| ((rename Fr _ _ _ _ => F9); (rename News _ _ _ _ => N9); refine keqv_ok (es := [(_, _)]) (n := 0) (Gr.sub (c' := 5) (by assumption) F9 (by omega)) (News.get N9 (by k_mem)) (all2 (by assumption) all0) (by simp) (all2 (by assumption) all0) ?_; intro h9 tk9 a9 o9 ds9 hs9 hf9 ho9 hd9 lo9 hp9; obtain ⟨t9, e9⟩ := one_of hp9; subst e9; (have hne9 := News.apart N9 hf9); (have F8 := Fr.keeps F9 hs9); (have N8 := News.add F9 N9 hs9 hf9 ho9); clear F9 N9 hf9 ho9 hp9; (try dsimp only)))
local macro_rules | `(tactic| walk_at "getMethod ref") => `(tactic| ((rename Fr _ _ _ _ => F9); (rename News _ _ _ _ => N9); (with_reducible show wpAny _ _ (getMethod (Value.ref _) (Str.ofString "items") _) _ _ _); refine meth_E PySem.F.slot_dict_items PySem.F.type_dict_items N9 (by k_mem) (by assumption) ?_))
local macro_rules | `(tactic| walk_at "getMethod ref") => `(tactic| ((rename Fr _ _ _ _ => F9); (rename News _ _ _ _ => N9); (with_reducible show wpAny _ _ (getMethod (Value.ref _) (Str.ofString "get") _) _ _ _); refine meth_E PySem.F.slot_dict_get PySem.F.type_dict_get N9 (by k_mem) (by assumption) ?_))
local macro_rules | `(tactic| walk_at "call builtin:dict.items") => `(tactic| ((rename Fr _ _ _ _ => F9); (rename News _ _ _ _ => N9); refine view_E F9 N9 (by k_mem) (by assumption) (by assumption) ?_; intro D9 h9 F8 N8 l9; clear F9 N9; (try dsimp only); (try k_lt l9)))
def NormPre (y : Str) : Prop := y.length ≠ 0 ∧ (Txt.slice y none (some 1) != Str.ofString "/") = false ∧ (Txt.slice y (some 1) (some 2) != Str.ofString "/") = true
theorem get_G {d : Addr} {o : Obj} {es : List Ent} {k dv : Str} {tk td : Tok} {P : Str → Prop} {Q : Value → Shared → Prop} (ho : s.heap.get? d = some o) (hd : DO w o es) (lo : (d == sysModules) = false) (hG : ∀ v, v = (getE es k).getD dv → P v)
    (h : ∀ v t' tk', P v → Q (.str v t') { s with toks := tk' }) : wpAny (model P0 w) A (call (.builtin "dict.get") [.ref d, .str k tk, .str dv td]) Q E s := get_E ho hd lo fun t' => h _ _ _ (hG _ rfl)
theorem join1_G (G : Gr w mean mg mb c A s.heap) (hc : 2 ≤ c) {a x : Str} {ta tx : Tok} {P : Str → Prop} (ha : a.length ≤ 30000) (hx : x.length ≤ 1000) (hG : ∀ y, y = joinStep a x → P y)
    (h0 : ∀ y h' tk t', P y → s.heap.StaysIn h' → Q (.str y t') { s with heap := h', toks := tk }) : wpAny (model P0 w) A (call (.ref 115) [.str a ta, .str x tx]) Q E s :=
  join1_ok G hc (by omega) (by omega) fun h' tk t' hs => h0 _ h' tk t' (hG _ rfl) hs
theorem norm_G (G : Gr w mean mg mb c A s.heap) (hc : 3 ≤ c) {y : Str} {t : Tok} {P : Str → Prop} (hy : y.length ≤ 100000 ∧ NormPre y ∧ ∀ z, z = normOf y → P z)
    (h0 : ∀ z h' tk t', P z → s.heap.StaysIn h' → Q (.str z t') { s with heap := h', toks := tk }) : wpAny (model P0 w) A (call (.ref 129) [.str y t]) Q E s :=
  normpath_ok G hc hy.1 hy.2.1.1 hy.2.1.2.1 hy.2.1.2.2 fun h' tk t' hs => h0 _ h' tk t' (hy.2.2 _ rfl) hs
local macro_rules | `(tactic| walk_at "call builtin:dict.get") => `(tactic| ((rename Fr _ _ _ _ => F9); (rename News _ _ _ _ => N9); refine get_G (News.get N9 (by k_mem)) (by assumption) (by assumption) (by assumption) ?_; intro v9 t9 tk9 hP9; (have hQ9 := hP9.2); (replace hP9 := hP9.1)))
local macro_rules | `(tactic| walk_at "call ref") => `(tactic| ((rename Fr _ _ _ _ => F9); (rename News _ _ _ _ => N9); refine join1_G (Gr.sub (c' := 5) (by assumption) F9 (by omega)) (by decide) (by assumption) (by assumption) (by assumption) ?_; intro y9 h9 tk9 t9 hP9 hs9; (have F8 := Fr.keeps F9 hs9); (have N8 := News.keeps N9 hs9); clear F9 N9; (try dsimp only)))
local macro_rules | `(tactic| walk_at "call ref") => `(tactic| ((rename Fr _ _ _ _ => F9); (rename News _ _ _ _ => N9); refine norm_G (Gr.sub (c' := 5) (by assumption) F9 (by omega)) (by decide) (by assumption) ?_; intro z9 h9 tk9 t9 hP9 hs9; (have F8 := Fr.keeps F9 hs9); (have N8 := News.keeps N9 hs9); clear F9 N9; (try dsimp only)))
theorem followed_ok (G : Gr w mean mg mb c A s.heap) (hc : 6 ≤ c) {x : Str} {t : Tok} {kv : Str → Str × Str} (R : RD x kv) (hp : ∀ a ∈ httpOf x, (unq (kv a).2).length ≤ 1000)
    (Inv : Str → Prop) (hI0 : Inv (Str.ofString "/")) (hI : ∀ v, Inv v → ∀ a ∈ httpOf x, NormPre (joinStep v (unq (kv a).2)) ∧ Inv (folF v (unq (kv a).2)))
    (h9 : ∀ h' tk B, s.heap.StaysIn h' → s.heap.get? B = none → PairsAt h' B (foldF folF (Str.ofString "/") (pairsOf x kv)) → Q (.ref B) { s with heap := h', toks := tk }) :
    wpAny (model P0 w) A (call (.ref 169) [.str x t]) Q E s := by
  obtain ⟨hA, dA, fA, gA, uA⟩ := A
  obtain rfl : hA = none := G.hh
  w_on
  walk_at "mine enter"
  intro L' h' F' N'
  have X : (Mine.hd.heap_39 w.params).In s.heap := G.k
  have T : Top Mine.vw (looseW Mine.vw []) mean mg mb s.heap := G.t
  replace F' : Fr s.heap L' h' (fun y => List.lookup y [(Str.ofString "text", Value.str x t)]) := F'
  w_top on
  dsimp only
  walk_at "mine steps"
  (rename Fr _ _ _ _ => F9); (rename News _ _ _ _ => N9)
  rename_i d0 _ o0 lo0 hd0 _ _ _ _ _ _ h1 _ la ys n1 _ hy hne
  try dsimp only at F9 N9 ⊢
  have hyl := RD.hn R hy
  have hlaI := ltN (Heap.lt_size (N9 _ (.head _)).1)
  have hdI := ltN (Heap.lt_size (N9 _ (.tail _ (.head _))).1)
  have hdla := neG (hne _ (.head _))
  try dsimp only at hlaI hdI hdla
  refine loop_list (σ := Obj × List Ent) (items := (strValues ys).toArray) (c₀ := (o0, []))
    (fun c => [(Str.ofString "places", .ref d0)])
    (fun c => [(la, SL ys n1), (d0, c.1)])
    (fun i c => DO w c.1 c.2 ∧ c.2.length ≤ i ∧ (∀ e ∈ c.2, e.2.1.length ≤ 1 + i * 1003 ∧ Inv e.2.1) ∧ proj c.2 = foldF folF (Str.ofString "/") ((pairsOf x kv).take i)) rfl ⟨_, (N9 _ (.head _)).1, rfl, _, rfl⟩ (.inr ⟨_, fun _ _ _ => .head _⟩) (.inl ⟨_, _, rfl⟩)
    (fun _ _ _ => all2 (Nat.ne_of_lt hlaI) (all2 (Nat.ne_of_lt hdI) all0)) F9 (all2 rfl all0) N9 ⟨hd0, Nat.le_refl _, all0, rfl⟩ ?_ ?_
  · rintro i v h tk ⟨o, ds⟩ m oI hv ⟨hd, hdl, hel, hj⟩ F' N'
    obtain ⟨b, tb, hb, rfl⟩ := sv_get hv
    dsimp only at hd hdl hel hj F' N' ⊢
    change Fr s.heap L' h _ at F'
    change News s.heap L' h _ at N'
    have hi : i < ys.length := (List.getElem?_eq_some_iff.mp hb).1
    have hbm : b ∈ httpOf x := RD.mem hy (List.mem_of_getElem? hb)
    obtain ⟨hbl, hsp⟩ := R.it b hbm
    have hpl := hp b hbm
    have hdz : ds.length ≤ 100000 := by omega
    have hj' : foldF folF (Str.ofString "/") ((pairsOf x kv).take (i + 1)) = stepF folF (Str.ofString "/") (proj ds) ((kv b).1, unq (kv b).2) := by
      rw [hj]; exact foldF_take (by rw [← RD.ps hy, List.getElem?_map, hb]; rfl)
    have hgl : ∀ k, ((getE ds k).getD (Str.ofString "/")).length ≤ 1 + i * 1003 ∧ Inv ((getE ds k).getD (Str.ofString "/")) := fun k => getE_all (P := fun v => v.length ≤ 1 + i * 1003 ∧ Inv v) k ⟨by rw [show (Str.ofString "/").length = 1 from rfl]; omega, hI0⟩ hel
    obtain ⟨kb, hkb⟩ : ∃ z, z = (kv b).1 := ⟨_, rfl⟩
    obtain ⟨pb, hpb⟩ : ∃ z, z = unq (kv b).2 := ⟨_, rfl⟩
    rw [← hpb] at hpl
    rw [← hkb, ← hpb] at hj'
    have hG : ∀ v, v = (getE ds kb).getD (Str.ofString "/") → v.length ≤ 30000 ∧ ∀ y, y = joinStep v pb → y.length ≤ 100000 ∧ NormPre y ∧ ∀ z, z = normOf y → (z.length ≤ 1 + (i + 1) * 1003 ∧ Inv z) ∧ z = folF ((getE ds kb).getD (Str.ofString "/")) pb := by
      obtain ⟨hgk, hgi⟩ := hgl kb
      obtain ⟨hn0, hni⟩ := hI _ hgi b hbm
      have hnl := joinStep_len ((getE ds kb).getD (Str.ofString "/")) pb
      rw [← hpb] at hn0 hni
      rintro v rfl
      refine ⟨by omega, ?_⟩
      rintro y rfl
      refine ⟨by omega, hn0, ?_⟩
      rintro z rfl
      have hny := normOf_len (joinStep ((getE ds kb).getD (Str.ofString "/")) pb)
      exact ⟨⟨by omega, hni⟩, rfl⟩
    clear hv N9 F9 hd0 hI hI0 hgl
    walk_at "mine steps"
    (rename Fr _ _ _ _ => F9); (rename News _ _ _ _ => N9); (rename DO _ _ [(_, _, _)] => hd9)
    (rename ∀ (p : Addr × Obj), p ∈ _ → p.1 ≠ _ => hne9)
    have hda := neG (hne9 (d0, o) (.tail _ (.tail _ (.tail _ (.head _)))))
    clear hne9 hne
    dsimp only at hd9 F9 N9 hda ⊢
    rw [← hkb, ← hpb] at hd9
    clear hsp hbl
    refine items1 rfl hd9 F9 N9 (.head _) (.tail _ (.head _)) ?_
    rintro h4 T4 I4 tk4 oI4 t4 hlt hIT F4 N4
    have hT : IsTup h4 T4 [Value.str kb t4, Value.str pb _].toArray := ⟨_, (N4 _ (.head _)).1, rfl, _, rfl⟩
    (try k_lt hlt)
    replace hIT := ltN hIT
    change Fr s.heap L' h4 _ at F4
    change News s.heap L' h4 _ at N4
    clear N9 F9
    walk_at "mine steps"
    (rename Fr _ _ _ _ => F9); (rename News _ _ _ _ => N9); (rename DO _ _ (putE _ _ _ _) => D9); (rename _ ∧ _ = folF _ _ => hz9); rename_i o2
    refine ⟨_, _, _, [(h1.objs.size, oI), (la, SL ys n1), (d0, o2)], rfl, F9, News.sub N9 ?_, ?_, fun h'' tk'' F'' N'' => ?_⟩
    · exact all2 (by k_mem) (all2 (by k_mem) (all2 (by k_mem) (all2 (by k_mem) (all2 (by k_mem) all0))))
    · exact all2 (Nat.ne_of_lt (by omega)) (all2 (Nat.ne_of_lt (by omega)) (all2 (Nat.ne_of_lt (by omega)) all0))
    clear F9 N9
    walk_at "mine steps"
    refine TurnF.next (_, putE ds kb _ _) F'' (all2 rfl all0) N'' ⟨D9, Nat.le_trans (putE_len _ _ _ _) (by omega), ?_, ?_⟩
    · exact putE_all (P := fun v => v.length ≤ 1 + (i + 1) * 1003 ∧ Inv v) hz9.1 fun e he => ⟨Nat.le_trans (hel e he).1 (by omega), (hel e he).2⟩
    · rw [hj', putE_proj, stepF, ← getE_proj, hz9.2]
  · rintro h tk ⟨o, ds⟩ m ⟨hd, hdl, hel, hj⟩ F' N'
    dsimp only at hd hdl hel hj F' N' ⊢
    change Fr s.heap L' h _ at F'
    change News s.heap L' h _ at N'
    clear N9 F9
    walk_at "mine steps"
    (rename Fr _ _ _ _ => F9); (rename News _ _ _ _ => N9)
    refine items_list rfl F9 N9 (.head _) (by k_mem) hd (Nat.le_trans hdl (by rw [List.size_toArray, sv_len]; omega)) fun B h' tk hs hn hP => ?_
    rw [hj, show (strValues ys).toArray.size = (pairsOf x kv).length by rw [← RD.ps hy]; simp [strValues], List.take_length] at hP
    exact h9 h' tk B (fun b o e => hs b o (F9.keep b o e)) hn hP
end

theorem slicePick_dl (items : Array Value) : slicePick items none (some (-1)) none = items.toList.dropLast.toArray := by
  have e : sliceBounds none (some (-1)) none items.size = sliceBounds none (some ((items.size - 1 : Nat) : Int)) none items.size := by
    simp only [sliceBounds, Option.getD_none]
    have h2 : ¬ (((items.size - 1 : Nat) : Int) < 0) := by omega
    simp only [h2, if_false, show (1 : Int) > 0 by decide, if_true, show ((-1 : Int) < 0) by decide]
    congr 1
    congr 1
    by_cases h : items.size = 0
    · rw [h]; decide
    · omega
  have e2 : slicePick items none (some (-1)) none = slicePick items none (some ((items.size - 1 : Nat) : Int)) none := by unfold slicePick; rw [e]
  rw [e2, slicePick_upto items (items.size - 1) (by omega), List.dropLast_eq_take, Array.length_toList]
theorem sv_app (a b : List (Str × Tok)) : strValues a ++ strValues b = strValues (a ++ b) := by simp [strValues]
theorem sv_dl (a : List (Str × Tok)) : (strValues a).dropLast = strValues a.dropLast := by simp [strValues]
section
variable {prog : Program} {w : World} {A : Around} {E : Value → Shared → Prop} {s : Shared} {h₀ : Heap} {L : Addr} {m : Str → Option Value} {news : List (Addr × Obj)}
theorem slice_dl {value slice : Expr} {l : Addr} {ys : List (Str × Tok)} {n : Nat} {u : Tok} {Q : Value → Shared → Prop}
    (F : Fr h₀ L s.heap m) (N : News h₀ L s.heap news) (hm : (l, SL ys n) ∈ news) (hz : ys.length ≤ 1000000)
    (h : ∀ a h', Fr h₀ L h' m → News h₀ L h' ((a, SL ys.dropLast 0) :: news) → (∀ q ∈ news, q.1 < a) → Q (.ref a) { s with heap := h' })
    (hs : subscripted slice false (.ref l) (.ref s.heap.objs.size) = operate [.ref s.heap.objs.size, .ref l] (getItem (.ref l) (.ref s.heap.objs.size)) := by with_unfolding_all rfl)
    (ht : ∀ r, letTemporaryGo value (.ref l) r = pure () := by intro _; with_unfolding_all rfl) :
    wpAny (model prog w) A (subscriptTail value slice (.ref l) (.ref s.heap.objs.size)) Q E { s with heap := s.heap.push { cls := .type "slice", data := .fields #[.none, .int (-1) u, .none] } } := by
  refine slice_list F N (News.isList N hm) .none (.int _ _) (fun h' F' N' => h _ h' F' ?_ fun q hq => Nat.lt_succ_of_lt (Heap.lt_size (N q hq).1)) hs ht (by rw [List.size_toArray, sv_len, sizeLine_eq]; omega)
  rw [slicePick_dl, List.toList_toArray, sv_dl] at N'
  exact N'
theorem add_strs {l b : Addr} {ys zs : List (Str × Tok)} {n k : Nat} {Q : Value → Shared → Prop}
    (F : Fr h₀ L s.heap m) (N : News h₀ L s.heap news) (hm : (l, SL ys n) ∈ news) (hb : (b, SL zs k) ∈ news) (hz : ys.length + zs.length ≤ 1000000)
    (h : ∀ a h', Fr h₀ L h' m → News h₀ L h' ((a, SL (ys ++ zs) 0) :: news) → (∀ q ∈ news, q.1 < a) → Q (.ref a) { s with heap := h' }) : wpAny (model prog w) A (binaryOp .Add (.ref l) (.ref b)) Q E s := by
  refine add_lists F N (News.isList N hm) (News.isList N hb) (fun h' F' N' => h _ h' F' ?_ fun q hq => Heap.lt_size (N q hq).1) (by rw [sv_len, sv_len, sizeLine_eq]; omega)
  rw [sv_app] at N'
  exact N'
theorem fresh_none {g h : Heap} (hk : g.StaysIn h) {a : Addr} (ha : h.objs.size ≤ a) : g.get? a = none := by
  cases q : g.get? a with
  | none => rfl
  | some o => exact absurd (Heap.lt_size (hk _ o q)) (Nat.not_lt.mpr ha)
theorem slice_pto {value slice : Expr} {l : Addr} {ps : List (Str × Str)} {k : Int} {u : Tok} {Q : Value → Shared → Prop}
    (hp : PairsAt s.heap l ps) (h0 : 0 ≤ k) (hk : k ≤ (ps.length : Int)) (hz : ps.length ≤ 1000000)
    (h : ∀ a h', s.heap.StaysIn h' → s.heap.get? a = none → PairsAt h' a (ps.take k.toNat) → Q (.ref a) { s with heap := h' })
    (hs : subscripted slice false (.ref l) (.ref s.heap.objs.size) = operate [.ref s.heap.objs.size, .ref l] (getItem (.ref l) (.ref s.heap.objs.size)) := by with_unfolding_all rfl)
    (ht : ∀ r, letTemporaryGo value (.ref l) r = pure () := by intro _; with_unfolding_all rfl) :
    wpAny (model prog w) A (subscriptTail value slice (.ref l) (.ref s.heap.objs.size)) Q E { s with heap := s.heap.push { cls := .type "slice", data := .fields #[.none, .int k u, .none] } } := by
  obtain ⟨vs, n, hl, hv⟩ := hp
  have hst : s.heap.StaysIn ((s.heap.push { cls := .type "slice", data := .fields #[.none, .int k u, .none] }).push { cls := .type "list", data := .seq (vs.take k.toNat).toArray }) := fun b o e => Heap.get?_push_of_some _ (Heap.get?_push_of_some _ e)
  refine slice_listK ⟨_, hl, rfl, _, rfl⟩ .none (.int _ _) ?_ hs ht (by rw [List.size_toArray, hv.length, sizeLine_eq]; omega)
  have e : slicePick vs.toArray none (some k) none = (vs.take k.toNat).toArray := by
    have := slicePick_upto vs.toArray k.toNat (by rw [List.size_toArray, hv.length]; omega)
    rw [Int.toNat_of_nonneg h0] at this
    rw [this, List.toList_toArray]
  rw [e]
  refine h _ _ hst (fresh_none (fun _ _ e => e) (Nat.le_succ _)) ⟨vs.take k.toNat, 0, ?_, (hv.take _).keeps hst⟩
  have := Heap.get?_push_size (s.heap.push { cls := .type "slice", data := .fields #[.none, .int k u, .none] }) (o := { cls := .type "list", data := .seq (vs.take k.toNat).toArray }) rfl
  rw [Heap.size_push] at this
  exact this
theorem slice_pfrom {value slice : Expr} {l : Addr} {ps : List (Str × Str)} {k : Int} {u : Tok} {Q : Value → Shared → Prop}
    (hp : PairsAt s.heap l ps) (h0 : 0 ≤ k) (hk : k ≤ (ps.length : Int)) (hz : ps.length ≤ 1000000)
    (h : ∀ a h', s.heap.StaysIn h' → s.heap.get? a = none → PairsAt h' a (ps.drop k.toNat) → Q (.ref a) { s with heap := h' })
    (hs : subscripted slice false (.ref l) (.ref s.heap.objs.size) = operate [.ref s.heap.objs.size, .ref l] (getItem (.ref l) (.ref s.heap.objs.size)) := by with_unfolding_all rfl)
    (ht : ∀ r, letTemporaryGo value (.ref l) r = pure () := by intro _; with_unfolding_all rfl) :
    wpAny (model prog w) A (subscriptTail value slice (.ref l) (.ref s.heap.objs.size)) Q E { s with heap := s.heap.push { cls := .type "slice", data := .fields #[.int k u, .none, .none] } } := by
  obtain ⟨vs, n, hl, hv⟩ := hp
  have hst : s.heap.StaysIn ((s.heap.push { cls := .type "slice", data := .fields #[.int k u, .none, .none] }).push { cls := .type "list", data := .seq (vs.drop k.toNat).toArray }) := fun b o e => Heap.get?_push_of_some _ (Heap.get?_push_of_some _ e)
  refine slice_listK ⟨_, hl, rfl, _, rfl⟩ (.int _ _) .none ?_ hs ht (by rw [List.size_toArray, hv.length, sizeLine_eq]; omega)
  have e : slicePick vs.toArray (some k) none none = (vs.drop k.toNat).toArray := by
    have := slicePick_from vs.toArray k.toNat (by rw [List.size_toArray, hv.length]; omega)
    rw [Int.toNat_of_nonneg h0] at this
    rw [this, List.toList_toArray]
  rw [e]
  refine h _ _ hst (fresh_none (fun _ _ e => e) (Nat.le_succ _)) ⟨vs.drop k.toNat, 0, ?_, (hv.drop _).keeps hst⟩
  have := Heap.get?_push_size (s.heap.push { cls := .type "slice", data := .fields #[.int k u, .none, .none] }) (o := { cls := .type "list", data := .seq (vs.drop k.toNat).toArray }) rfl
  rw [Heap.size_push] at this
  exact this
theorem add_pairs {l b : Addr} {ps qs : List (Str × Str)} {Q : Value → Shared → Prop}
    (hp : PairsAt s.heap l ps) (hq : PairsAt s.heap b qs) (hz : ps.length + qs.length ≤ 1000000)
    (h : ∀ a h', s.heap.StaysIn h' → s.heap.get? a = none → PairsAt h' a (ps ++ qs) → Q (.ref a) { s with heap := h' }) : wpAny (model prog w) A (binaryOp .Add (.ref l) (.ref b)) Q E s := by
  obtain ⟨vs, n, hl, hv⟩ := hp
  obtain ⟨us, k, hb, hu⟩ := hq
  have hst : s.heap.StaysIn (s.heap.push { cls := .type "list", data := .seq (vs ++ us).toArray }) := fun b o e => Heap.get?_push_of_some _ e
  have e : vs.toArray ++ us.toArray = (vs ++ us).toArray := by simp
  have hsz : vs.toArray.size + us.toArray.size ≤ sizeLine := by rw [List.size_toArray, List.size_toArray, hv.length, hu.length, sizeLine_eq]; omega
  refine concat_meets ⟨_, hl, rfl⟩ ⟨_, hb, rfl⟩ noFill_list_add seq_list_add PySem.F.slot_list_add PySem.F.entry_list_add (PySem.F.args_list_add_2 _ _) (list_addW l b vs.toArray us.toArray n k none none #[] #[] hsz) ⟨hl, hb, ?_⟩
  rw [e]
  exact h _ _ hst (fresh_none (fun _ _ e => e) (Nat.le_refl _)) ⟨vs ++ us, 0, Heap.get?_push_size _ rfl, (hv.keeps hst).append (hu.keeps hst)⟩
end

def walkName (acc : List Str) (x : Str) : List Str := if x = Str.ofString ".." then acc.dropLast else if x = Str.ofString "" ∨ x = Str.ofString "." then acc else acc ++ [x]
def walkPart (ns : List Str) (p : Str) : List Str := (Txt.split p (Str.ofString "/")).foldl walkName (if (Txt.slice p none (some 1) == Str.ofString "/") = true then [] else ns)
def walkOf (ps : List (Str × Str)) (one : Str) : List Str := ps.foldl (fun ns q => if (q.1 == one) = true then walkPart ns q.2 else ns) []
theorem walkName_a {acc : List Str} {x : Str} (h : (x == Str.ofString "..") = true) : acc.dropLast = walkName acc x := by rw [eq_of_beq h]; rfl
theorem walkName_b {acc : List Str} {x : Str} (h : (x == Str.ofString "..") = false) (h2 : (x != Str.ofString "") = false) : acc = walkName acc x := by
  have e : x = Str.ofString "" := by simpa using h2
  unfold walkName; rw [if_neg (ne_of_beq_false h), if_pos (.inl e)]
theorem walkName_c {acc : List Str} {x : Str} (h : (x == Str.ofString "..") = false) (h2 : (x != Str.ofString ".") = false) : acc = walkName acc x := by
  have e : x = Str.ofString "." := by simpa using h2
  unfold walkName; rw [if_neg (ne_of_beq_false h), if_pos (.inr e)]
theorem walkName_d {acc : List Str} {x : Str} (h : (x == Str.ofString "..") = false) (h2 : (x != Str.ofString "") = true) (h3 : (x != Str.ofString ".") = true) : acc ++ [x] = walkName acc x := by
  have e : x ≠ Str.ofString "" := by simpa using h2
  have e3 : x ≠ Str.ofString "." := by simpa using h3
  unfold walkName; rw [if_neg (ne_of_beq_false h), if_neg (by simp [e, e3])]
theorem iter_named {M : Model} {A : Around} {E : Value → Shared → Prop} {s : Shared} {Q : Value → Shared → Prop} {a : Addr} (h : ∀ sl : Nat, sl = a → wpAny M A (pyIter (.ref sl)) Q E s) : wpAny M A (pyIter (.ref a)) Q E s := h a rfl
theorem walkName_wt (acc : List Str) (b : Str) : wt (walkName acc b) ≤ wt acc + (b.length + 1) := by
  have h1 := wt_dropLast acc
  have h2 : wt (acc ++ [b]) = wt acc + (b.length + 1) := by rw [wt_append]; simp [wt]
  unfold walkName
  (repeat' split) <;> omega
section
variable {w : World} {mean : ExcName → Option Value} {mg mb : Str → Option Value} {c : Nat} {A : Around} {s : Shared} {Q E : Value → Shared → Prop}
local macro_rules | `(tactic| walk_at "subscriptTail Name Slice ref ref") => `(tactic| ((rename Fr _ _ _ _ => F9); (rename News _ _ _ _ => N9); refine slice_dl F9 N9 (by k_mem) (by omega) ?_; intro a9 h9 F8 N8 l9; (clear F9 N9); (try k_lt l9)))
local macro_rules | `(tactic| walk_at "binaryOp Add ref ref") => `(tactic| ((rename Fr _ _ _ _ => F9); (rename News _ _ _ _ => N9); refine add_strs (zs := [(_, _)]) (k := 0) F9 N9 (by k_mem) (by k_mem) (by simp only [List.length_cons, List.length_nil]; omega) ?_; intro a9 h9 F8 N8 l9; (clear F9 N9); (try k_lt l9)))
theorem walked_ok (G : Gr w mean mg mb c A s.heap) {pa : Addr} {ps : List (Str × Str)} {one : Str} {t0 : Tok} (hp : PairsAt s.heap pa ps) (hn : ps.length ≤ 20) (he : ∀ p ∈ ps, p.1.length ≤ 10 ∧ p.2.length ≤ 1000)
    (h9 : ∀ h' tk t, s.heap.StaysIn h' → Q (.str (Str.ofString "/" ++ Txt.join (Str.ofString "/") (walkOf ps one)) t) { s with heap := h', toks := tk }) :
    wpAny (model P0 w) A (call (.ref 200) [.ref pa, .str one t0]) Q E s := by
  obtain ⟨hA, dA, fA, gA, uA⟩ := A
  obtain rfl : hA = none := G.hh
  obtain ⟨vs, n, hl, hpv⟩ := hp
  w_on
  walk_at "mine enter"
  intro L' h' F' N'
  have X : (Mine.hd.heap_39 w.params).In s.heap := G.k
  have T : Top Mine.vw (looseW Mine.vw []) mean mg mb s.heap := G.t
  have F'' : Fr s.heap L' h' (fun y => List.lookup y [(Str.ofString "one", Value.str one t0), (Str.ofString "pairs", Value.ref pa)]) := F'
  clear F'
  w_top on
  dsimp only
  walk_at "mine steps"
  (rename Fr _ _ _ _ => F9); (rename News _ _ _ _ => N9)
  rename_i nl _ _ h1 _
  try dsimp only at F9 N9 ⊢
  have hnI := ltN (Heap.lt_size (N9 _ (.head _)).1)
  try dsimp only at hnI
  refine loop_list (σ := Nat × List (Str × Tok) × Nat) (items := vs.toArray) (c₀ := (nl, [], 0))
    (fun c => [(Str.ofString "names", .ref c.1), (Str.ofString "one", .str one t0)])
    (fun c => [(c.1, SL c.2.1 c.2.2)])
    (fun i c => c.1 ≠ h1.objs.size ∧ c.2.1.map (·.1) = walkOf (ps.take i) one ∧ wt (c.2.1.map (·.1)) ≤ i * 1001) rfl ⟨_, F9.keep _ _ hl, rfl, _, rfl⟩ (.inl ⟨_, hl⟩) (.inr ⟨_, _, _, rfl⟩)
    (fun i c j => all2 j.1 all0) F9 (all2 rfl (all2 rfl all0)) N9 ⟨Nat.ne_of_lt hnI, rfl, Nat.le_refl _⟩ ?_ ?_
  · rintro i v h tk ⟨na, ys, n1⟩ m oI hv ⟨hna, hj, hyw⟩ F' N'
    obtain ⟨⟨k, p⟩, hpi, b, t1, t2, n2, rfl, hb⟩ := hpv.get (i := i) (v := v) (by simpa using hv)
    dsimp only at hna hj hyw hb F' N' ⊢
    change Fr s.heap L' h _ at F'
    change News s.heap L' h _ at N'
    have hi : i < ps.length := (List.getElem?_eq_some_iff.mp hpi).1
    obtain ⟨hkl, hpl⟩ := he _ (List.mem_of_getElem? hpi)
    have hT : IsTup h b [Value.str k t1, Value.str p t2].toArray := ⟨_, F'.keep _ _ hb, rfl, _, rfl⟩
    have hIo := ltN (Heap.lt_size (N' _ (.head _)).1)
    have hna2 := ltN (Heap.lt_size (N' _ (.tail _ (.head _))).1)
    dsimp only at hkl hpl hIo hna2
    clear hv N9 F9
    have hjs : walkOf (ps.take (i + 1)) one = if (k == one) = true then walkPart (walkOf (ps.take i) one) p else walkOf (ps.take i) one := by
      rw [walkOf, walkOf, List.take_add_one, hpi, List.foldl_append]; rfl
    have hyz : ys.length ≤ 30000 := by have := len_le_wt (ys.map (·.1)); rw [List.length_map] at this; omega
    walk_at "mine steps"
    all_goals ((rename Fr _ _ _ _ => F9); (rename News _ _ _ _ => N9); try dsimp only at F9 N9 ⊢)
    rotate_left 2
    · (rename (k == one) = false => hk)
      refine TurnF.next (na, ys, n1) F9 (all2 rfl (all2 rfl all0)) N9 ⟨hna, ?_, Nat.le_trans hyw (by omega)⟩
      rw [hjs, hk]; exact hj
    all_goals (
      (rename _ = Txt.split p _ => hsp); (rename (k == one) = true => hk); (rename (Txt.slice p none (some 1) == Str.ofString "/") = _ => hsl)
      rw [hk, if_pos rfl, walkPart, ← hj, hsl, ← hsp] at hjs)
    all_goals (
      rename_i l h2 _ _ _ _
      refine iter_named fun sl hsl => ?_
      rw [← hsl] at N9
      have key : ∃ (na0 : Nat) (ys0 : List (Str × Tok)) (n0 : Nat) (m2 : Str → Option Value), Fr s.heap L' h2 m2 ∧ m2 (Str.ofString "names") = some (.ref na0) ∧ m2 (Str.ofString "one") = some (.str one t0) ∧
          News s.heap L' h2 [(sl, { cls := .type "list", data := .seq (strValues l).toArray }), (na0, SL ys0 n0), (h1.objs.size, oI)] ∧ na0 ≠ h1.objs.size ∧
          walkOf (ps.take (i + 1)) one = (l.map (·.1)).foldl walkName (ys0.map (·.1)) ∧ wt (ys0.map (·.1)) ≤ i * 1001 := by
        first
          | exact ⟨_, [], 0, _, F9, rfl, rfl, News.sub N9 (all2 (.head _) (all2 (.tail _ (.head _)) (all2 (.tail _ (.tail _ (.head _))) all0))), Nat.ne_of_gt (by omega), hjs, Nat.zero_le _⟩
          | exact ⟨_, ys, n1, _, F9, rfl, rfl, News.sub N9 (all2 (.head _) (all2 (.tail _ (.tail _ (.head _))) (all2 (.tail _ (.head _)) all0))), hna, hjs, hyw⟩
      obtain ⟨na0, ys0, n0, m2, F2, hm1, hm2, N2, hna0, hj2, hw2⟩ := key
      have hlw : wt (l.map (·.1)) ≤ 1001 := by
        have h5 := split_weight p (Str.ofString "/") (by decide)
        rw [← hsp, wt_sum] at h5; omega
      have hsI := ltN (Heap.lt_size (N2 _ (.head _)).1)
      have hnI2 := ltN (Heap.lt_size (N2 _ (.tail _ (.head _))).1)
      have hoI2 := ltN (Heap.lt_size (N2 _ (.tail _ (.tail _ (.head _)))).1)
      dsimp only at hsI hnI2 hoI2
      clear F9 N9 hsl hjs hsp
      refine loop_list (σ := Nat × List (Str × Tok) × Nat) (items := (strValues l).toArray) (c₀ := (na0, ys0, n0))
        (fun c => [(Str.ofString "names", .ref c.1), (Str.ofString "one", .str one t0)])
        (fun c => [(sl, { cls := .type "list", data := .seq (strValues l).toArray }), (c.1, SL c.2.1 c.2.2), (h1.objs.size, oI)])
        (fun j c => c.1 ≠ h2.objs.size ∧ c.1 ≠ h1.objs.size ∧ c.2.1.map (·.1) = ((l.map (·.1)).take j).foldl walkName (ys0.map (·.1)) ∧ wt (c.2.1.map (·.1)) ≤ i * 1001 + wt ((l.map (·.1)).take j)) rfl ⟨_, (N2 _ (.head _)).1, rfl, _, rfl⟩ (.inr ⟨_, fun _ _ _ => .head _⟩) (.inl ⟨_, _, rfl⟩)
        (fun i c j => all2 (Nat.ne_of_lt hsI) (all2 j.1 (all2 (Nat.ne_of_lt hoI2) all0))) F2 (all2 hm1 (all2 hm2 all0)) N2 ⟨Nat.ne_of_lt hnI2, hna0, rfl, Nat.le_trans hw2 (Nat.le_add_right _ _)⟩ ?_ ?_
      · rintro j v h3 tk3 ⟨na3, ys3, n3⟩ m3 oI3 hv3 ⟨hna3, hnb3, hj3, hw3⟩ F' N'
        obtain ⟨b3, tb3, hb3, rfl⟩ := sv_get hv3
        dsimp only at hna3 hnb3 hj3 hw3 F' N' ⊢
        change Fr s.heap L' h3 _ at F'
        change News s.heap L' h3 _ at N'
        have hI3 := ltN (Heap.lt_size (N' _ (.head _)).1)
        dsimp only at hI3
        have hb4 : (l.map (·.1))[j]? = some b3 := by rw [List.getElem?_map, hb3]; rfl
        have hst : ∀ zs : List Str, zs = walkName (ys3.map (·.1)) b3 → zs = ((l.map (·.1)).take (j + 1)).foldl walkName (ys0.map (·.1)) ∧ wt zs ≤ i * 1001 + wt ((l.map (·.1)).take (j + 1)) := by
          rintro zs rfl
          have q1 := walkName_wt (ys3.map (·.1)) b3
          have q2 : wt ((l.map (·.1)).take (j + 1)) = wt ((l.map (·.1)).take j) + (b3.length + 1) := by rw [List.take_add_one, hb4, wt_append]; simp [wt]
          refine ⟨?_, by omega⟩
          rw [List.take_add_one, hb4, List.foldl_append, ← hj3]; rfl
        have hyz3 : ys3.length ≤ 30000 := by
          have q1 := len_le_wt (ys3.map (·.1))
          have q2 := wt_take (l.map (·.1)) j
          rw [List.length_map] at q1; omega
        have hbl3 : b3.length ≤ 100000 := by
          have := mem_le_wt (List.mem_of_getElem? hb4); omega
        clear hv3 hj3 hw3 hj2 hw2 hlw
        walk_at "mine steps"
        all_goals ((rename Fr _ _ _ _ => F9); (rename News _ _ _ _ => N9))
        all_goals first
          | (have e := hst (ys3.dropLast.map (·.1)) (by rw [List.map_dropLast]; exact walkName_a (by assumption))
             refine TurnF.next (_, ys3.dropLast, 0) F9 (all2 rfl (all2 rfl all0)) (News.sub N9 (all2 (by k_mem) (all2 (by k_mem) (all2 (.head _) (all2 (by k_mem) all0))))) ⟨Nat.ne_of_gt (by omega), Nat.ne_of_gt (by omega), e⟩)
          | (have e := hst ((ys3 ++ [(b3, tb3)]).map (·.1)) (by rw [List.map_append]; exact walkName_d (by assumption) (by assumption) (by assumption))
             refine TurnF.next (_, ys3 ++ [(b3, tb3)], 0) F9 (all2 rfl (all2 rfl all0)) (News.sub N9 (all2 (by k_mem) (all2 (by k_mem) (all2 (.head _) (all2 (by k_mem) all0))))) ⟨Nat.ne_of_gt (by omega), Nat.ne_of_gt (by omega), e⟩)
          | exact TurnF.next (na3, ys3, n3) F9 (all2 rfl (all2 rfl all0)) N9 ⟨hna3, hnb3, hst (ys3.map (·.1)) (walkName_b (by assumption) (by assumption))⟩
          | exact TurnF.next (na3, ys3, n3) F9 (all2 rfl (all2 rfl all0)) N9 ⟨hna3, hnb3, hst (ys3.map (·.1)) (walkName_c (by assumption) (by assumption))⟩
      · rintro h3 tk3 ⟨na3, ys3, n3⟩ m3 ⟨hna3, hnb3, hj3, hw3⟩ F' N'
        dsimp only at hna3 hnb3 hj3 hw3 F' N' ⊢
        change Fr s.heap L' h3 _ at F'
        change News s.heap L' h3 _ at N'
        have hsz3 : (strValues l).toArray.size = (l.map (·.1)).length := by simp [strValues]
        rw [hsz3, List.take_length] at hj3 hw3
        rw [← hj2] at hj3
        walk_at "mine steps"
        exact TurnF.next (na3, ys3, n3) F' (all2 rfl (all2 rfl all0)) (News.sub N' (all2 (.tail _ (.tail _ (.head _))) (all2 (.tail _ (.head _)) all0))) ⟨hnb3, hj3, Nat.le_trans hw3 (by omega)⟩)
  · rintro h tk ⟨na, ys, n1⟩ m ⟨hna, hj, hyw⟩ F' N'
    dsimp only at hna hj hyw F' N' ⊢
    change Fr s.heap L' h _ at F'
    change News s.heap L' h _ at N'
    clear N9 F9
    have hsz : vs.toArray.size = ps.length := by rw [List.size_toArray, hpv.length]
    rw [hsz] at hj hyw
    rw [List.take_length] at hj
    have hww := wt_sum (ys.map (·.1))
    have hwl := len_le_wt (ys.map (·.1))
    rw [List.length_map] at hww hwl
    have hjz : ((ys.map (·.1)).map (·.length)).sum + 2 * ys.length ≤ 4000000 := by omega
    have hjl : (Txt.join (Str.ofString "/") (ys.map (·.1))).length ≤ 4000000 - 1 := by
      have h5 := StrLaws.join_length_le (Str.ofString "/") (ys.map (·.1))
      rw [← show Txt.join (Str.ofString "/") (ys.map (·.1)) = Str.join (Str.ofString "/") (ys.map (·.1)) from StrLaws.glued_eq_join _ _] at h5
      rw [show (Str.ofString "/").length = 1 from rfl, List.length_map] at h5
      omega
    have hl1 : (Str.ofString "/").length = 1 := rfl
    walk_at "mine steps"
    (rename Fr _ _ _ _ => F9)
    rw [← hj] at h9
    exact h9 _ _ _ F9.keep
end

/-- the end of a turn of a comprehension with a cell of its own -/
def EltK (s : Shared) (g : Heap) (C k : Addr) (own tl : List (Addr × Obj)) (J : List Value → List (Addr × Obj) → Prop) (ys : List Value) (y : Value) (s' : Shared) : Prop :=
  ∃ h' tk' m tl' oK, s' = { s with heap := h', toks := tk' } ∧ Fr g C h' m ∧ News g C h' (tl' ++ (own ++ (k, oK) :: tl)) ∧ (∃ v, oK.data = .cell v) ∧ (∀ p ∈ tl', ∀ q ∈ own, p.1 ≠ q.1) ∧ (∀ p ∈ tl', p.1 ≠ k) ∧ J (ys ++ [y]) (tl' ++ tl)
section
variable {prog : Program} {w : World} {A : Around} {s : Shared} {elt iter : Expr} {x : Str} {xp : Pos} {sc : Scope} {pos : Pos} {cenv : Env} {g : Heap} {I D ax k : Addr} {items : Array Value} {R : Result → Shared → Prop}

theorem comp_loopK (J : Nat → List Value → List (Addr × Obj) → Prop) (hh : A.handled = none) (_hne : ax ≠ I) (hID : I ≠ D) (hCI : cenv.locals ≠ I) (hkI : k ≠ I) (hkD : k ≠ D)
    (hI : g.get? I = none) (hl : g.IsList ax items) (hz : items.size ≤ 1000000)
    (hJ : ∀ i ys tl, J i ys tl → (∀ p ∈ tl, p.1 ≠ I ∧ p.1 ≠ D) ∧ ys.length ≤ i)
    (turn : ∀ i v h tk ys n tl (m : Str → Option Value) oI oK, items[i]? = some v → J i ys tl → (∃ v, oK.data = .cell v) → Fr g cenv.locals h m → News g cenv.locals h ([(I, oI), (D, W.listOf ys.toArray n)] ++ (k, oK) :: tl) →
      wpAny (model prog w) A (assign (.Name x xp) cenv v) (fun _ s₂ => wpAny (model prog w) A (eval elt cenv) (EltK s g cenv.locals k [(I, oI), (D, W.listOf ys.toArray n)] tl (J (i + 1)) ys) no s₂) no { s with heap := h, toks := tk })
    (done : ∀ h tk ys n tl (m : Str → Option Value) oK, J items.size ys tl → Fr g cenv.locals h m → News g cenv.locals h ((D, W.listOf ys.toArray n) :: (k, oK) :: tl) → R (.ok .next) { s with heap := h, toks := tk })
    {m₀ : Str → Option Value} {n₀ : Nat} {oK₀ : Obj} (F : Fr g cenv.locals s.heap m₀) (N : News g cenv.locals s.heap [(D, W.listOf #[] n₀), (k, oK₀)]) (hK₀ : ∃ v, oK₀.data = .cell v) (hit : s.heap.IsListIter I ax 0) (hj : J 0 [] []) :
    codeAny (model prog w) A (.compLoop (.ListComp elt [⟨.Name x xp, iter, [], 0⟩] sc pos) 0 (.ref I) (.ref D) cenv) R s := by
  refine codeAny_loop rfl (fun k' s' => ∃ h tk i ys n tl m oK, s' = { s with heap := h, toks := tk } ∧ h.IsListIter I ax i ∧ Fr g cenv.locals h m ∧ News g cenv.locals h ((D, W.listOf ys.toArray n) :: (k, oK) :: tl) ∧ (∃ v, oK.data = .cell v) ∧ J i ys tl ∧ i ≤ items.size ∧ k' = items.size + 1 - i) ?_ (items.size + 1)
    ⟨s.heap, s.toks, 0, [], n₀, [], m₀, oK₀, rfl, hit, F, N, hK₀, hj, Nat.zero_le _, rfl⟩
  rintro k' s' ⟨h, tk, i, ys, n, tl, m, oK, rfl, hit, F, N, hK, hj, hi, rfl⟩
  show wpAny _ A ((compTurn (.ListComp elt [⟨.Name x xp, iter, [], 0⟩] sc pos) 0 (.ref I) (.ref D) cenv).onRaise (fun x => do noteFrame x cenv; theTreesLotGoes x)) _ _ _
  refine wpAny_noted ?_
  rw [compTurn_list]
  have hl' : h.IsList ax items := hl.at fun o e => F.keep _ o e
  obtain ⟨hoff, hylen⟩ := hJ _ _ _ hj
  have old : ∀ b o, g.get? b = some o → b ≠ I := fun b o e q => by rw [q, hI] at e; cases e
  refine wpAny_bind (wpAny_standAt (wpAny_bind ?_))
  by_cases hlt : i < items.size
  · refine wpAny_pyNext_list_item (s := { s with heap := h, toks := tk }) hit hl' (x := items[i]) (by simp [hlt]) fun h₁ hit₁ hs₁ => ?_
    obtain ⟨oI, hoI, hcI, hdI⟩ := id hit₁
    refine wpAny_bind (go_name ?_)
    have F₁ : Fr g cenv.locals h₁ m := ⟨F.ns.sameBut hs₁ hCI, fun b o e => (hs₁.2 b (old b o e)).trans (F.keep b o e), F.above⟩
    have N₁ : News g cenv.locals h₁ ([(I, oI), (D, W.listOf ys.toArray n)] ++ (k, oK) :: tl) := by
      refine all2 ⟨hoI, Ne.symm hCI, hI⟩ (all2 ?_ (all2 ?_ fun p hp => ?_))
      · have := N _ (.head _); exact ⟨(hs₁.2 D (Ne.symm hID)).trans this.1, this.2⟩
      · have := N _ (.tail _ (.head _)); exact ⟨(hs₁.2 k hkI).trans this.1, this.2⟩
      · have := N p (.tail _ (.tail _ hp)); exact ⟨(hs₁.2 p.1 (hoff p hp).1).trans this.1, this.2⟩
    refine wpAny_bind (wpAny_mono (turn i items[i] h₁ tk ys n tl m oI oK (by simp [hlt]) hj hK F₁ N₁) (fun _ s₂ h₂ => wpAny_bind (wpAny_tests_nil ?_)) fun _ _ x => x.elim)
    refine wpAny_bind (wpAny_bind (wpAny_mono h₂ (fun y s₄ h₄ => ?_) fun _ _ x => x.elim))
    obtain ⟨h₄, tk₄, m₄, tl', oK', rfl, F₄, N₄, hK', hap, hapk, j₄⟩ := h₄
    have hD := N₄ (D, W.listOf ys.toArray n) (List.mem_append_right _ (.tail _ (.head _)))
    refine wpAny_bind (append_at (s := { s with heap := h₄, toks := tk₄ }) hD.1 (fun h₅ hs₅ ho₅ => wpAny_pure (wpAny_pure ?_)) ?_)
    · have F₅ : Fr g cenv.locals h₅ m₄ := F₄.change hs₅ hD.2.1 hD.2.2
      obtain ⟨hoff', _⟩ := hJ _ _ _ j₄
      refine ⟨rfl, items.size + 1 - (i + 1), by omega, h₅, tk₄, i + 1, ys ++ [y], n + 1, tl' ++ tl, m₄, oK', rfl, ?_, F₅, ?_, hK', j₄, hlt, rfl⟩
      · exact ⟨oI, (hs₅.2 I hID).trans (N₄ (I, oI) (List.mem_append_right _ (.head _))).1, hcI, hdI⟩
      · refine all2 ⟨?_, hD.2⟩ (all2 ?_ fun p hp => ?_)
        · have e : (ys ++ [y]).toArray = ys.toArray.push y := by simp
          rw [e]; exact ho₅
        · have := N₄ (k, oK') (List.mem_append_right _ (.tail _ (.tail _ (.head _))))
          exact ⟨(hs₅.2 k hkD).trans this.1, this.2⟩
        · have hp' : p ∈ tl' ++ ([(I, oI), (D, W.listOf ys.toArray n)] ++ (k, oK') :: tl) := by
            rcases List.mem_append.mp hp with hp | hp
            · exact List.mem_append_left _ hp
            · exact List.mem_append_right _ (List.mem_append_right _ (.tail _ hp))
          have := N₄ p hp'
          exact ⟨(hs₅.2 p.1 (hoff' p hp).2).trans this.1, this.2⟩
    · show ys.toArray.size ≤ sizeLine
      rw [List.size_toArray, sizeLine_eq]; omega
  · have hin : i = items.size := by omega
    subst hin
    refine wpAny_pyNext_list_end (s := { s with heap := h, toks := tk }) hh hit hl' (by simp) fun h₁ he₁ => wpAny_pure ?_
    refine done h₁ tk ys n tl m oK hj ⟨F.ns.at' fun o e => he₁ _ o hCI e, fun b o e => he₁ b o (old b o e) (F.keep b o e), F.above⟩ (all2 ?_ (all2 ?_ fun p hp => ?_))
    · have := N _ (.head _); exact ⟨he₁ _ _ (Ne.symm hID) this.1, this.2⟩
    · have := N _ (.tail _ (.head _)); exact ⟨he₁ _ _ hkI this.1, this.2⟩
    · have := N p (.tail _ (.tail _ hp)); exact ⟨he₁ _ _ (hoff p hp).1 this.1, this.2⟩
end
section
variable {M : Model} {A : Around} {E : Value → Shared → Prop} {s : Shared}
theorem nfe_cell {scope : Scope} {globals : Addr} {cl : List (Str × Addr)} {qual : Str} {env : Env} {x : Str} {Q : Env → Shared → Prop}
    (hcf : ∀ n, cellsFrom n scope.names cl = (x, n) :: cl) (hpc : ∀ h, pushCells h scope.names = h.push { cls := .type "cell", data := .cell none })
    (h : Q { scope, locals := s.heap.objs.size, globals, cells := (x, s.heap.objs.size + 1) :: cl, qual, func := none, code := env.code, frame := env.frame, builtins := env.builtins }
      { s with heap := (s.heap.push { cls := .type "dict", data := .dict #[] }).push { cls := .type "cell", data := .cell none } }) :
    wpAny M A (newFunctionEnv scope globals cl [] qual none .none (some env)) Q E s := by
  simp only [newFunctionEnv, Option.isSome_some, if_true]
  refine wpAny_bind (wpAny_alloc ?_)
  refine wpAny_bind (wpAny_layCells _ (fun name kind cells => by cases hkc : kind == NameKind.cell <;> simp [hkc]) _ _ _ _ ?_)
  dsimp only
  rw [hcf, hpc, Heap.size_push]
  exact wpAny_bind (wpAny_pure (wpAny_pure h))
end
section
variable {prog : Program} {w : World} {A : Around} {s : Shared} {elt iter : Expr} {x : Str} {xp : Pos} {scope : Scope} {pos : Pos} {env : Env} {E : Value → Shared → Prop} {Q : Value → Shared → Prop} {cl : List (Str × Addr)}
def CompAtK (prog : Program) (w : World) (A : Around) (env : Env) (scope : Scope) (cl : List (Str × Addr)) (x : Str) (xp : Pos) (elt : Expr) (Q : Value → Shared → Prop) (xv : Value) (s₁ : Shared) : Prop :=
  ∃ (ax : Addr) (items : Array Value) (J : Addr → Addr → Nat → List Value → List (Addr × Obj) → Prop), xv = .ref ax ∧ s₁.heap.IsList ax items ∧ items.size ≤ 1000000 ∧
    (∀ I D i ys tl, J I D i ys tl → (∀ p ∈ tl, p.1 ≠ I ∧ p.1 ≠ D) ∧ ys.length ≤ i) ∧ (∀ I D, J I D 0 [] []) ∧
    (∀ C k I D i v h tk ys n tl (m : Str → Option Value) oI oK, I < D → D < C → C < k → s₁.heap.objs.size ≤ I → items[i]? = some v → J I D i ys tl → (∃ v, oK.data = .cell v) → Fr s₁.heap C h m → News s₁.heap C h ([(I, oI), (D, W.listOf ys.toArray n)] ++ (k, oK) :: tl) →
      wpAny (model prog w) A (assign (.Name x xp) (compEnvC scope ((x, k) :: cl) C env) v) (fun _ s₂ => wpAny (model prog w) A (eval elt (compEnvC scope ((x, k) :: cl) C env)) (EltK s₁ s₁.heap C k [(I, oI), (D, W.listOf ys.toArray n)] tl (J I D (i + 1)) ys) no s₂) no { s₁ with heap := h, toks := tk }) ∧
    (∀ I D h tk ys n tl, s₁.heap.StaysIn h → J I D items.size ys tl → (∀ p ∈ (D, W.listOf ys.toArray n) :: tl, h.get? p.1 = some p.2 ∧ s₁.heap.get? p.1 = none) → Q (.ref D) { s₁ with heap := h, toks := tk })

theorem comp_cell (hclos : closureFor scope env = pure cl) (hkind : scope.kind = .function)
    (hcf : ∀ n, cellsFrom n scope.names cl = (x, n) :: cl) (hpc : ∀ h, pushCells h scope.names = h.push { cls := .type "cell", data := .cell none })
    (hnames : ∀ x ∈ scope.names, x.2 = .local → scope.names.lookup x.1 = some .local) (hh : A.handled = none)
    (h : wpAny (model prog w) A (eval iter env) (fun xv s₁ => CompAtK prog w A env scope cl x xp elt Q xv s₁) no s)
    (hs : ∀ y, foldedSetIterable iter env y = pure y) :
    wpAny (model prog w) A (eval (.ListComp elt [⟨.Name x xp, iter, [], 0⟩] scope pos) env) Q E s := by
  rw [eval_ListComp]
  refine wpAny_mono (E := no) (wpAny_comprehension_free (g := ⟨.Name x xp, iter, [], 0⟩) (gs := []) (use := none) rfl hs hclos hkind hnames ?_) (fun _ _ x => x) fun _ _ x => x.elim
  refine wpAny_mono h (fun xv s₁ h₁ => ?_) fun _ _ x => x
  obtain ⟨ax, items, J, rfl, hl, hz, hJ, hj0, turn, done⟩ := h₁
  refine wpAny_pyIter_list hl ?_
  refine wpAny_newObj_type ?_ (by show (0 : Nat) ≤ sizeLine; exact Nat.zero_le _)
  refine nfe_cell hcf hpc ?_
  obtain ⟨hp, gens, drawn, toks, os⟩ := s₁
  dsimp only at *
  generalize hI : hp.objs.size = I at *
  obtain ⟨h1, hh1⟩ : ∃ h1, h1 = hp.push { cls := Value.type "list_iterator", data := Data.fields #[Value.ref ax, Value.int 0 0] } := ⟨_, rfl⟩
  obtain ⟨h2, hh2⟩ : ∃ h2, h2 = h1.push { cls := Value.type "list", data := Data.seq [].toArray } := ⟨_, rfl⟩
  obtain ⟨h3, hh3⟩ : ∃ h3, h3 = h2.push { cls := Value.type "dict", data := Data.dict #[] } := ⟨_, rfl⟩
  obtain ⟨h4, hh4⟩ : ∃ h4, h4 = h3.push { cls := Value.type "cell", data := Data.cell none } := ⟨_, rfl⟩
  rw [← hh1, ← hh2, ← hh3, ← hh4]
  have z1 : h1.objs.size = I + 1 := by rw [hh1, Heap.size_push, hI]
  have z2 : h2.objs.size = I + 1 + 1 := by rw [hh2, Heap.size_push, z1]
  have z3 : h3.objs.size = I + 1 + 1 + 1 := by rw [hh3, Heap.size_push, z2]
  rw [z1, z2]
  obtain ⟨ol, hol, _⟩ := id hl
  have hlax : ax < I := hI ▸ Heap.lt_size hol
  have k1 : ∀ b o, hp.get? b = some o → h1.get? b = some o := fun b o e => by rw [hh1]; exact Heap.get?_push_of_some _ e
  have k2 : ∀ b o, h1.get? b = some o → h2.get? b = some o := fun b o e => by rw [hh2]; exact Heap.get?_push_of_some _ e
  have k3 : ∀ b o, h2.get? b = some o → h3.get? b = some o := fun b o e => by rw [hh3]; exact Heap.get?_push_of_some _ e
  have k4 : ∀ b o, h3.get? b = some o → h4.get? b = some o := fun b o e => by rw [hh4]; exact Heap.get?_push_of_some _ e
  have keep : hp.StaysIn h4 := fun b o e => k4 _ _ (k3 _ _ (k2 _ _ (k1 _ _ e)))
  have none_ge : ∀ b, I ≤ b → hp.get? b = none := fun b hb => by
    cases q : hp.get? b with
    | none => rfl
    | some o => have := ltN (Heap.lt_size q); rw [hI] at this; exact absurd this (Nat.not_lt.mpr hb)
  have hIo : h4.get? I = some { cls := Value.type "list_iterator", data := Data.fields #[Value.ref ax, Value.int 0 0] } := by
    refine k4 _ _ (k3 _ _ (k2 _ _ ?_))
    rw [hh1, ← hI]; exact Heap.get?_push_size _ rfl
  have hDo : h4.get? (I + 1) = some { cls := Value.type "list", data := Data.seq [].toArray } := by
    refine k4 _ _ (k3 _ _ ?_)
    rw [hh2, ← z1]; exact Heap.get?_push_size _ rfl
  have hKo : h4.get? (I + 1 + 1 + 1) = some { cls := Value.type "cell", data := Data.cell none } := by
    rw [hh4, ← z3]; exact Heap.get?_push_size _ rfl
  have hns : h4.Ns (I + 1 + 1) (fun _ => none) := by
    have := (Heap.Ns.new h2 (.type "dict")).keeps (h' := h4) (fun b o e => by rw [← hh3] at e; exact k4 _ _ e)
    rw [z2] at this; exact this
  have F0 : Fr hp (I + 1 + 1) h4 (fun _ => none) := ⟨hns, keep, by rw [hI]; exact Nat.le_succ_of_le (Nat.le_succ I)⟩
  have N0 : News hp (I + 1 + 1) h4 [(I + 1, W.listOf #[] 0), (I + 1 + 1 + 1, { cls := Value.type "cell", data := Data.cell none })] :=
    all2 ⟨hDo, Nat.ne_of_lt (Nat.lt_succ_self (I + 1)), none_ge _ (Nat.le_succ I)⟩ (all2 ⟨hKo, Nat.ne_of_gt (Nat.lt_succ_self (I + 1 + 1)), none_ge _ (Nat.le_succ_of_le (Nat.le_succ_of_le (Nat.le_succ I)))⟩ all0)
  have run : codeAny (model prog w) A (.compLoop (.ListComp elt [⟨.Name x xp, iter, [], 0⟩] scope pos) 0 (.ref I) (.ref (I + 1)) (compEnvC scope ((x, I + 1 + 1 + 1) :: cl) (I + 1 + 1) env))
      (compPost (model prog w) A no none Q (.ref (I + 1)) (I + 1 + 1)) ⟨h4, gens, drawn, toks, os⟩ := by
    refine comp_loopK (g := hp) (ax := ax) (k := I + 1 + 1 + 1) (items := items) (J I (I + 1)) hh (Nat.ne_of_lt hlax) (Nat.ne_of_lt (Nat.lt_succ_self I)) (Nat.ne_of_gt (show I < I + 1 + 1 from Nat.lt_succ_of_lt (Nat.lt_succ_self I)))
      (Nat.ne_of_gt (show I < I + 1 + 1 + 1 by omega)) (Nat.ne_of_gt (show I + 1 < I + 1 + 1 + 1 by omega)) (none_ge _ (Nat.le_refl _)) hl hz (hJ I (I + 1)) ?_ ?_ (n₀ := 0) F0 N0 ⟨_, rfl⟩ ⟨_, hIo, rfl, rfl⟩ (hj0 _ _)
    · intro i v h tk ys n tl m oI oK hv hj hK F N
      exact turn (I + 1 + 1) (I + 1 + 1 + 1) I (I + 1) i v h tk ys n tl m oI oK (Nat.lt_succ_self I) (Nat.lt_succ_self (I + 1)) (Nat.lt_succ_self (I + 1 + 1)) (Nat.le_refl _) hv hj hK F N
    · intro h tk ys n tl m oK hj F N
      refine ⟨m, F.ns, fun h₂ hs₂ => done I (I + 1) h₂ tk ys n tl ?_ hj (all2 ?_ fun p hp' => ?_)⟩
      · exact fun b o e => (hs₂.2 b (by have := ltN (Heap.lt_size e); rw [hI] at this; exact Nat.ne_of_lt (Nat.lt_succ_of_lt (Nat.lt_succ_of_lt this)))).trans (F.keep b o e)
      · have := N _ (.head _); exact ⟨(hs₂.2 _ this.2.1).trans this.1, this.2.2⟩
      · have := N p (.tail _ (.tail _ hp')); exact ⟨(hs₂.2 p.1 this.2.1).trans this.1, this.2.2⟩
  refine codeAny_compStart_list run ?_
  exact wpAny_pyIter_listiter (s := ⟨h4, gens, drawn, toks, os⟩) ⟨_, hIo, rfl, rfl⟩ run
end

theorem enterC1 {w : World} {mean : ExcName → Option Value} {mg mb : Str → Option Value} {c : Nat} {A : Around} {s : Shared} {K : Frag} {Q E : Value → Shared → Prop} {name qual : Str} {params : Arguments} {body : List Stmt} {scope : Scope} {dV kV doc pm cdv ct oc : Value} {an od : Option Addr} {osl : Array (Option Value)} {f : Addr} {vs : List Value} {binds : List (Str × Value)} {x : Str}
    (G : Gr w mean mg mb c A s.heap) (hK : K = KF w)
    (ho : K.lookup f = some ⟨oc, od, .func (fnOf name qual params body scope dV kV doc pm an cdv ct), osl⟩) (hcd : codeIn K cdv qual = true)
    (hbind : bindArgs (fnOf name qual params body scope dV kV doc pm an cdv ct) ⟨vs, []⟩ = pure binds)
    (hkind : ∀ n, KindsOk scope n binds) (hcf : ∀ n, cellsFrom n scope.names [] = [(x, n)])
    (h : ∀ L' h₁ tk o, Fr s.heap L' h₁ (bindL (fun y => scope.names.lookup y) binds fun _ => none) → News s.heap L' h₁ [(L' + 1, o)] → o.data = .cell ((bindC (fun y => scope.names.lookup y) binds fun _ => none) x) →
      wpAny (model P0 w) (A.deeper (envOfC qual scope L' f cdv)) (execs body (envOfC qual scope L' f cdv))
        (fun fl s' => Q (match fl with | .ret v => v | _ => .none) s') (fun _ _ => False)
        { s with heap := h₁, toks := tk })
    (hco : scope.isCoroutine = false) (hgen : scope.isGenerator = false) (hk : scope.kind = .function) : wpAny (model P0 w) A (call (.ref f) vs) Q E s := by
  subst hK
  refine wpAny_call ?_
  refine codeAny_call_cells (fd := fnOf name qual params body scope dV kV doc pm an cdv ct) (body := body) (binds := binds) (Nat.lt_of_le_of_lt (Nat.le_trans (Nat.le_add_right _ c) G.hd) (by decide)) (G.k _ _ ho) rfl G.t.nolimit (codeRec_of G.k hcd) rfl hbind rfl (kinds_of (hkind _)) (fun s₁ X => ?_) hco hgen hk
  obtain ⟨h₁, tk, rfl, hk₁⟩ := X.done
  have hcell : h₁.IsCell (s.heap.objs.size + 1) ((bindC (fun y => scope.names.lookup y) binds fun _ => none) x) := by
    refine X.cell x _ ?_
    show (cellsFrom (s.heap.objs.size + 1) scope.names []).lookup x = some (s.heap.objs.size + 1)
    rw [hcf]; simp
  obtain ⟨o, ho1, hd⟩ := hcell
  refine wpAny_mono (h s.heap.objs.size h₁ tk o ⟨X.toInCall.ns, hk₁, Nat.le_refl _⟩ (all2 ⟨ho1, Nat.ne_of_gt (Nat.lt_succ_self _), ?_⟩ all0) hd) (fun fl s' hl => hl) fun _ _ y => y.elim
  exact Heap.get?_none_of_le (Nat.le_succ _)
/-- the values of a list of pairs of texts, over a ledger -/
noncomputable def PairsL (tl : List (Addr × Obj)) : List Value → List (Str × Str) → Prop
  | [], [] => True
  | v :: vs, q :: qs => (∃ b t1 t2 n, v = .ref b ∧ (b, PT q.1 q.2 t1 t2 n) ∈ tl) ∧ PairsL tl vs qs
  | _, _ => False
theorem PairsL.mono {tl tl' : List (Addr × Obj)} (hs : ∀ p ∈ tl, p ∈ tl') : ∀ {vs : List Value} {ps : List (Str × Str)}, PairsL tl vs ps → PairsL tl' vs ps
  | [], [], _ => trivial
  | _ :: _, _ :: _, x => ⟨let ⟨b, t1, t2, n, e, hm⟩ := x.1; ⟨b, t1, t2, n, e, hs _ hm⟩, PairsL.mono hs x.2⟩
theorem PairsL.length {tl : List (Addr × Obj)} : ∀ {vs : List Value} {ps : List (Str × Str)}, PairsL tl vs ps → vs.length = ps.length
  | [], [], _ => rfl
  | _ :: _, _ :: _, x => by rw [List.length_cons, List.length_cons, PairsL.length x.2]
theorem PairsL.snoc {tl : List (Addr × Obj)} {b : Addr} {k p : Str} {t1 t2 : Tok} {n : Nat} : ∀ {vs : List Value} {ps : List (Str × Str)}, PairsL tl vs ps → PairsL ((b, PT k p t1 t2 n) :: tl) (vs ++ [.ref b]) (ps ++ [(k, p)])
  | [], [], _ => ⟨⟨b, t1, t2, n, rfl, .head _⟩, trivial⟩
  | _ :: _, _ :: _, x => ⟨let ⟨b, t1, t2, n, e, hm⟩ := x.1; ⟨b, t1, t2, n, e, .tail _ hm⟩, PairsL.snoc x.2⟩
theorem PairsL.at {tl : List (Addr × Obj)} {h : Heap} (ht : ∀ p ∈ tl, h.get? p.1 = some p.2) : ∀ {vs : List Value} {ps : List (Str × Str)}, PairsL tl vs ps → PairsV h vs ps
  | [], [], _ => trivial
  | _ :: _, _ :: _, x => ⟨let ⟨b, t1, t2, n, e, hm⟩ := x.1; ⟨b, t1, t2, n, e, ht _ hm⟩, PairsL.at ht x.2⟩

def grp (ps : List (Str × Str)) (one : Str) : List Str := (ps.filter fun q => q.1 == one).map (·.2)
def lastsOf (ps : List (Str × Str)) : List (Str × Str) := (firstsOf ps).map fun one => (one, (grp ps one).getLast?.getD (Str.ofString ""))
def IsPT (o : Obj) : Prop := ∃ k p t1 t2 n, o = PT k p t1 t2 n
theorem grp_take {ps : List (Str × Str)} {q : Str × Str} {i : Nat} {one : Str} (h : ps[i]? = some q) : grp (ps.take (i + 1)) one = grp (ps.take i) one ++ (if (q.1 == one) = true then [q.2] else []) := by
  rw [grp, grp, List.take_add_one, h, List.filter_append, List.map_append]
  congr 1
  by_cases hq : (q.1 == one) = true <;> simp [hq]
theorem firsts_fold (l : List (Str × Str)) : ∀ (acc : List Str) (x : Str), x ∈ l.foldl (fun ks q => if ks.any (· == q.1) = true then ks else ks ++ [q.1]) acc → x ∈ acc ∨ ∃ q ∈ l, q.1 = x := by
  induction l with
  | nil => intro acc x h; exact .inl h
  | cons p r ih =>
    intro acc x h
    rw [List.foldl_cons] at h
    rcases ih _ x h with h | ⟨q, hq, e⟩
    · split at h
      · exact .inl h
      · rcases List.mem_append.mp h with h | h
        · exact .inl h
        · exact .inr ⟨p, .head _, (List.mem_singleton.mp h).symm⟩
    · exact .inr ⟨q, .tail _ hq, e⟩
theorem firsts_mem {ps : List (Str × Str)} {x : Str} (h : x ∈ firstsOf ps) : ∃ q ∈ ps, q.1 = x := by
  rcases firsts_fold ps [] x h with h | h
  · nomatch h
  · exact h
theorem grp_ne {ps : List (Str × Str)} {x : Str} (h : x ∈ firstsOf ps) : grp ps x ≠ [] := by
  obtain ⟨q, hq, e⟩ := firsts_mem h
  intro hg
  have : q.2 ∈ grp ps x := List.mem_map.mpr ⟨q, List.mem_filter.mpr ⟨hq, by simp [e]⟩, rfl⟩
  rw [hg] at this; nomatch this
theorem firsts_len (l : List (Str × Str)) : ∀ acc : List Str, (l.foldl (fun ks q => if ks.any (· == q.1) = true then ks else ks ++ [q.1]) acc).length ≤ acc.length + l.length := by
  induction l with
  | nil => intro acc; simp
  | cons p r ih =>
    intro acc
    rw [List.foldl_cons]
    refine Nat.le_trans (ih _) ?_
    split
    · simp only [List.length_cons]; omega
    · simp only [List.length_append, List.length_cons, List.length_nil]; omega
section
variable {M : Model} {A : Around} {E : Value → Shared → Prop} {s : Shared} {g : Heap} {L k : Addr} {m : Str → Option Value} {own rest : List (Addr × Obj)} {oK : Obj} {env : Env} {x : Str} {v : Value}
theorem sn_cell {Q : Unit → Shared → Prop} (F : Fr g L s.heap m) (N : News g L s.heap (own ++ (k, oK) :: rest)) (hk : env.scope.kind = .function) (hl : env.kindOf x = some .cell) (hc : env.cells.lookup x = some k) (hK : ∃ v, oK.data = .cell v)
    (h1 : ∀ p ∈ own, p.1 ≠ k) (h2 : ∀ p ∈ rest, p.1 ≠ k)
    (h : ∀ h' o', Fr g L h' m → News g L h' (own ++ (k, o') :: rest) → o'.data = .cell (some v) → Q () { s with heap := h' }) : wpAny M A (storeName env x v) Q E s := by
  obtain ⟨v₀, hv₀⟩ := hK
  have hmem := N (k, oK) (List.mem_append_right _ (.head _))
  refine wpAny_storeName_cell hk hl hc ⟨oK, hmem.1, hv₀⟩ fun h' hv hs => ?_
  obtain ⟨o', ho', hd'⟩ := hv
  refine h h' o' ⟨F.ns.sameBut hs (Ne.symm hmem.2.1), fun b ob e => (hs.2 b (fun q => ?_)).trans (F.keep b ob e), F.above⟩ (N.setAt h1 h2 hs ho') hd'
  rw [q, hmem.2.2] at e; cases e
end
theorem ne_of_obj {g h : Heap} {L a b : Addr} {o o' : Obj} {news : List (Addr × Obj)} (N : News g L h news) (h1 : (a, o) ∈ news) (h2 : (b, o') ∈ news) (hne : o ≠ o') : a ≠ b := by
  rintro rfl
  have e := (N _ h1).1
  rw [(N _ h2).1] at e
  exact hne (Option.some.inj e).symm
section
variable {w : World} {mean : ExcName → Option Value} {mg mb : Str → Option Value} {c : Nat} {A : Around} {s : Shared} {Q E : Value → Shared → Prop}
local macro_rules | `(tactic| walk_at "eval ListComp") => `(tactic| (k_dflt (refine' comp_plain (cl := [(Str.ofString "one", _)]) ?a ?b ?c ?d ?e ?f ?_ ?g; (case a => rfl); (case b => rfl); (case c => decide); (case d => decide); (case e => first | exact .inl ⟨_, _, rfl⟩ | exact .inr ⟨_, _, _, rfl⟩); (case f => rfl); (case g => (intro _; with_unfolding_all rfl)); k_whole)))
local macro_rules | `(tactic| walk_at "eval ListComp") => `(tactic| ((with_reducible show wpAny _ _ (eval (Expr.ListComp _ [⟨Expr.Name _ _, _, _, _⟩] _ _) _) _ _ _); k_dflt (refine' comp_cell (cl := [(Str.ofString "pairs", _)]) ?a ?b ?c ?d ?e ?f ?_ ?g; (case a => rfl); (case b => rfl); (case c => intro _; rfl); (case d => intro _; rfl); (case e => decide); (case f => rfl); (case g => (intro _; with_unfolding_all rfl)); k_whole)))
local macro_rules | `(tactic| walk_at "eval Name") => `(tactic| (k_dflt (refine' nm_cell (c := ?c) ?a ?b ?v ?d ?f ?_; (case a => rfl); (case b => rfl); (case v => first | ((rename Fr _ _ _ _ => F9); exact Heap.IsCell.keeps (by assumption) F9.keep) | ((rename News _ _ _ _ => N9); exact ⟨_, (News.get N9 (by k_mem)), (by assumption)⟩)); (case d => rfl); (case f => decide); k_whole)))
local macro_rules | `(tactic| walk_at "mine steps") => `(tactic| repeat' (first | ((with_reducible show wpAny _ _ (eval (Expr.Name _ _) _) _ _ _); walk_at "eval Name") | walk1 | (dsimp only; walk1) | fail "no step"))
local macro_rules | `(tactic| walk_at "subscriptTail") => `(tactic| ((with_reducible show wpAny _ _ (subscriptTail _ (Expr.UnaryOp _ _ _) (Value.ref _) (Value.int _ _)) _ _ _); (rename News _ _ _ _ => N9); refine item_last (News.isList N9 (by k_mem)) (by assumption) (by omega) ?_; intro b9 t9 hb9))
theorem last_ok (G : Gr w mean mg mb c A s.heap) (hc : 4 ≤ c) {pa : Addr} {ps : List (Str × Str)} (hp : PairsAt s.heap pa ps) (hn : ps.length ≤ 20) (he : ∀ p ∈ ps, p.1.length ≤ 10 ∧ p.2.length ≤ 1000)
    (h9 : ∀ h' tk B, s.heap.StaysIn h' → s.heap.get? B = none → PairsAt h' B (lastsOf ps) → Q (.ref B) { s with heap := h', toks := tk }) :
    wpAny (model P0 w) A (call (.ref 188) [.ref pa]) Q E s := by
  obtain ⟨hA, dA, fA, gA, uA⟩ := A
  obtain rfl : hA = none := G.hh
  w_on
  refine enterC1 (K := Mine.hd.heap_39 _) (x := Str.ofString "pairs") (binds := [(Str.ofString "pairs", .ref pa)]) G rfl (by k_is) (by k_is) ?_ ?_ ?_ ?_ rfl rfl rfl
  · rfl
  · intro n; exact ⟨.inr ⟨rfl, rfl⟩, trivial⟩
  · intro n; rfl
  intro L' h' tk o F' N' hcl
  have X : (Mine.hd.heap_39 w.params).In s.heap := G.k
  have T : Top Mine.vw (looseW Mine.vw []) mean mg mb s.heap := G.t
  replace hcl : o.data = .cell (some (.ref pa)) := hcl
  w_top on
  try dsimp only
  walk_at "mine steps"
  refine firsts_ok (Gr.sub (c' := 0) G F' (by omega)) (PairsAt.keeps hp F'.keep) hn he ?_
  intro h2 tk2 ka ys n2 hs2 hf2 ho2 hy2
  have F2 := Fr.keeps F' hs2
  have N2 := News.add F' N' hs2 hf2 ho2
  obtain ⟨vs, n, hl, hpv⟩ := hp
  have hyl : ys.length ≤ 20 := by
    have q1 := congrArg List.length hy2
    have q2 := firsts_len ps []
    rw [List.length_map] at q1
    rw [q1]
    exact Nat.le_trans q2 (by simpa using hn)
  have hcB : h2.IsCell (L' + 1) (some (.ref pa)) := ⟨o, (N2 _ (.tail _ (.head _))).1, hcl⟩
  clear F' N'
  refine ⟨ka, (strValues ys).toArray, fun I D i us tl => PairsL tl us ((lastsOf ps).take i) ∧ ∀ p ∈ tl, (p.1 ≠ I ∧ p.1 ≠ D) ∧ IsPT p.2, rfl, ⟨_, ho2, rfl, _, rfl⟩, by rw [List.size_toArray, sv_len]; omega, ?_, fun _ _ => ⟨trivial, all0⟩, ?_, ?_⟩
  · rintro I D i us tl ⟨hP, htl⟩
    refine ⟨fun p hp => (htl p hp).1, ?_⟩
    rw [hP.length, List.length_take]; exact Nat.min_le_left _ _
  · rintro C k I D i v h3 tk3 us n3 tl m oI oK hID hDC hCk hsz hv ⟨hP, htl⟩ hK F3 N3
    obtain ⟨b, tb, hb, rfl⟩ := sv_get hv
    dsimp only at F3 N3 hsz ⊢
    have hb1 : b ∈ firstsOf ps := by rw [← hy2]; exact List.mem_map.mpr ⟨_, List.mem_of_getElem? hb, rfl⟩
    have hg := grp_ne hb1
    have hlb : (lastsOf ps)[i]? = some (b, (grp ps b).getLast?.getD (Str.ofString "")) := by
      rw [lastsOf, List.getElem?_map, ← hy2, List.getElem?_map, hb]; rfl
    have hKD := N3
    have htk : ∀ p ∈ tl, p.1 ≠ k := fun p hp => ne_of_obj N3 (.tail _ (.tail _ (.tail _ hp))) (.tail _ (.tail _ (.head _))) (fun e => by
      obtain ⟨_, hpt⟩ := htl p hp
      obtain ⟨a1, a2, a3, a4, a5, e2⟩ := hpt
      obtain ⟨vK, hvK⟩ := hK
      rw [← e, e2] at hvK; cases hvK)
    refine wpAny_assign_Name (sn_cell (own := [(I, oI), (D, W.listOf us.toArray n3)]) F3 N3 rfl rfl rfl hK (all2 (Nat.ne_of_lt (Nat.lt_trans hID (Nat.lt_trans hDC hCk))) (all2 (Nat.ne_of_lt (Nat.lt_trans hDC hCk)) all0)) htk ?_)
    intro h4 o4 F4 N4 hd4
    change News h2 C h4 ((I, oI) :: (D, W.listOf us.toArray n3) :: (k, o4) :: tl) at N4
    clear F3 N3 hKD hK hv
    dsimp only at F4 N4 ⊢
    walk_at "mine steps"
    have hcK : h4.IsCell k (some (.str b tb)) := ⟨o4, (N4 _ (.tail _ (.tail _ (.head _)))).1, hd4⟩
    have F4s : s.heap.StaysIn h4 := fun b o e => F4.keep _ _ (F2.keep _ _ e)
    refine ⟨pa, vs.toArray, fun _ _ j us tl => tl = [] ∧ ∃ ws : List (Str × Tok), us = strValues ws ∧ ws.map (·.1) = grp (ps.take j) b, rfl, ⟨_, F4s _ _ hl, rfl, _, rfl⟩, by rw [List.size_toArray, hpv.length]; omega, ?_, fun _ _ => ⟨rfl, [], rfl, rfl⟩, ?_, ?_⟩
    · rintro I D j us tl ⟨rfl, ws, rfl, hw⟩
      refine ⟨all0, ?_⟩
      have q1 := congrArg List.length hw
      rw [List.length_map, grp, List.length_map] at q1
      have q2 := List.length_filter_le (fun q : Str × Str => q.1 == b) (ps.take j)
      rw [List.length_take] at q2
      rw [sv_len]; omega
    · rintro C5 I5 D5 j v5 h5 tk5 us5 n5 tl5 m5 oI5 hID5 hDC5 hsz5 hv5 ⟨rfl, ws, rfl, hw⟩ F5 N5
      obtain ⟨⟨kk, pp⟩, hpi, b5, t1, t2, n6, rfl, hb5⟩ := hpv.get (i := j) (v := v5) (by simpa using hv5)
      dsimp only at hb5 F5 N5 ⊢
      have hT : IsTup h5 b5 [Value.str kk t1, Value.str pp t2].toArray := ⟨_, F5.keep _ _ (F4s _ _ hb5), rfl, _, rfl⟩
      have hgt := grp_take (one := b) hpi
      clear hv5 N4 F4 hcB F2 N2
      walk_at "mine steps"
      all_goals ((rename Fr _ _ _ _ => F8); (rename News _ _ _ _ => N8); (rename (kk == b) = _ => hq))
      · exact EltF.one F8 N8 ⟨rfl, _, sv_snoc _ _ _, by rw [hgt, if_pos hq, List.map_append, hw]; rfl⟩
      · exact SkipF.one F8 N8 ⟨rfl, ws, rfl, by rw [hgt, if_neg (by rw [hq]; decide), List.append_nil]; exact hw⟩
    · rintro I5 D5 h5 tk5 us5 n5 tl5 hst ⟨rfl, ws, rfl, hw⟩ hnew
      dsimp only at hst hnew ⊢
      obtain ⟨hD1, hD2⟩ := hnew _ (.head _)
      rw [List.size_toArray, hpv.length, List.take_length] at hw
      have F5 := Fr.keeps F4 hst
      have N5 := News.add F4 N4 hst hD2 hD1
      have hwe : ws.isEmpty = false := by
        cases ws with
        | nil => exact absurd hw.symm hg
        | cons _ _ => rfl
      have hwl : ws.length ≤ 20 := by
        have q1 := congrArg List.length hw
        rw [List.length_map, grp, List.length_map] at q1
        have q2 := List.length_filter_le (fun q : Str × Str => q.1 == b) ps
        omega
      have hg5 : (ws.map (·.1)).getLast? = (grp ps b).getLast? := by rw [hw]
      clear hnew hst N4 F4
      walk_at "mine steps"
      (rename Fr _ _ _ _ => F9); (rename News _ _ _ _ => N9); (rename _ = some _ => hb9)
      rename_i T9 _ l9
      obtain ⟨_, lb, lc, ld, _⟩ := l9
      rw [← hg5, hb9, Option.getD_some] at hlb
      refine ⟨_, _, _, [(T9, PT b _ tb _ 0)], o4, rfl, F9, News.sub N9 (all2 (.head _) fun p hp => .tail _ (.tail _ hp)), ⟨_, hd4⟩, all2 (all2 (Nat.ne_of_gt lb) (all2 (Nat.ne_of_gt lc) all0)) all0, all2 (Nat.ne_of_gt ld) all0, ?_, all2 ⟨⟨Nat.ne_of_gt lb, Nat.ne_of_gt lc⟩, _, _, _, _, _, rfl⟩ htl⟩
      rw [List.take_add_one, hlb]
      exact hP.snoc
  · rintro I D h3 tk3 us n3 tl hst ⟨hP, htl⟩ hnew
    dsimp only at hst hnew ⊢
    have hD := hnew _ (.head _)
    have F8 := Fr.keeps F2 hst
    refine h9 _ _ _ F8.keep ?_ ⟨us, n3, hD.1, ?_⟩
    · cases q : s.heap.get? D with
      | none => rfl
      | some o => have := F2.keep _ _ q; rw [hD.2] at this; cases this
    · have hz : (strValues ys).toArray.size = (lastsOf ps).length := by rw [List.size_toArray, sv_len, lastsOf, List.length_map, ← hy2, List.length_map]
      rw [hz, List.take_length] at hP
      exact hP.at fun p hp => (hnew p (.tail _ hp)).1
end

def partStep (one : Str) (acc : List Str) (q : Str × Str) : List Str := if (q.1 == one) = true then (if (Txt.slice q.2 none (some 1) == Str.ofString "/") = true then [q.2] else acc ++ [q.2]) else acc
def partsOf (ps : List (Str × Str)) (one : Str) : List Str := ps.foldl (partStep one) []
def slashed (p : Str) : Str := if (Txt.slice p (some (-1)) none == Str.ofString "/") = true then p else p ++ Str.ofString "/"
def textOf (l : List Str) : Str := Txt.join (Str.ofString "") ((l.filter fun p => p != Str.ofString "").map slashed)
def spellOf (ps : List (Str × Str)) (one : Str) : Str :=
  if [Str.ofString "", Str.ofString "/"].any (· == Txt.slice ((partsOf ps one).getLast?.getD (Str.ofString "")) (some (-1)) none) = true then textOf (partsOf ps one) else Txt.slice (textOf (partsOf ps one)) none (some (-1))
theorem partsOf_take {ps : List (Str × Str)} {q : Str × Str} {i : Nat} {one : Str} (h : ps[i]? = some q) : partsOf (ps.take (i + 1)) one = partStep one (partsOf (ps.take i) one) q := by
  rw [partsOf, partsOf, List.take_add_one, h, List.foldl_append]; rfl
theorem partsOf_ne {one : Str} (l : List (Str × Str)) : ∀ acc, acc ≠ [] ∨ (∃ q ∈ l, q.1 = one) → l.foldl (partStep one) acc ≠ [] := by
  induction l with
  | nil =>
    rintro acc (h | ⟨q, hq, _⟩)
    · exact h
    · nomatch hq
  | cons p r ih =>
    intro acc h
    rw [List.foldl_cons]
    by_cases hp : p.1 = one
    · refine ih _ (.inl ?_)
      unfold partStep
      rw [if_pos (by simp [hp])]
      split <;> simp
    · refine ih _ ?_
      have e0 : partStep one acc p = acc := by unfold partStep; rw [if_neg (by simp [hp])]
      rw [e0]
      rcases h with h | ⟨q, hq, e⟩
      · exact .inl h
      · rcases List.mem_cons.mp hq with rfl | hq
        · exact absurd e hp
        · exact .inr ⟨q, hq, e⟩
theorem filter_take_succ {l : List Str} {i : Nat} {a : Str} (h : l[i]? = some a) (f : Str → Bool) (g : Str → Str) : ((l.take (i + 1)).filter f).map g = ((l.take i).filter f).map g ++ (if f a = true then [g a] else []) := by
  rw [List.take_add_one, h, List.filter_append, List.map_append]
  congr 1
  by_cases hq : f a = true <;> simp [hq]
section
variable {w : World} {mean : ExcName → Option Value} {mg mb : Str → Option Value} {c : Nat} {A : Around} {s : Shared} {Q E : Value → Shared → Prop}
local macro_rules | `(tactic| walk_at "binaryOp Add ref ref") => `(tactic| ((rename Fr _ _ _ _ => F9); (rename News _ _ _ _ => N9); refine add_strs (zs := [(_, _)]) (k := 0) F9 N9 (by k_mem) (by k_mem) (by simp only [List.length_cons, List.length_nil]; omega) ?_; intro a9 h9 F8 N8 l9; (clear F9 N9); (try k_lt l9)))
theorem last_le {ys : List (Str × Tok)} {b : Str} (h : ∀ p ∈ ys, p.1.length ≤ 1000) (hb : (ys.map (·.1)).getLast? = some b) : b.length ≤ 1000 := by
  obtain ⟨p, hp, rfl⟩ := List.mem_map.mp (List.mem_of_getLast? hb)
  exact h p hp
local macro_rules | `(tactic| walk_at "subscriptTail Name UnaryOp ref int") => `(tactic| ((rename News _ _ _ _ => N9); refine item_last (News.isList N9 (by k_mem)) (by assumption) (by omega) ?_; intro b9 t9 hb9; (have hbl9 := last_le (by assumption) hb9)))
local macro_rules | `(tactic| walk_at "compareOp In str ref") => `(tactic| ((rename News _ _ _ _ => N9); refine in_list_strs (News.isList N9 (by k_mem)) (.cons _ _ (.cons _ _ .nil)) ?_))
theorem spelled_ok (G : Gr w mean mg mb c A s.heap) {pa : Addr} {ps : List (Str × Str)} {one : Str} {t0 : Tok} (hp : PairsAt s.heap pa ps) (hn : ps.length ≤ 20) (he : ∀ p ∈ ps, p.1.length ≤ 10 ∧ p.2.length ≤ 1000) (h1 : one ∈ firstsOf ps)
    (h9 : ∀ h' tk t, s.heap.StaysIn h' → Q (.str (spellOf ps one) t) { s with heap := h', toks := tk }) :
    wpAny (model P0 w) A (call (.ref 193) [.ref pa, .str one t0]) Q E s := by
  obtain ⟨hA, dA, fA, gA, uA⟩ := A
  obtain rfl : hA = none := G.hh
  obtain ⟨vs, n, hl, hpv⟩ := hp
  w_on
  walk_at "mine enter"
  intro L' h' F' N'
  have X : (Mine.hd.heap_39 w.params).In s.heap := G.k
  have T : Top Mine.vw (looseW Mine.vw []) mean mg mb s.heap := G.t
  have F'' : Fr s.heap L' h' (fun y => List.lookup y [(Str.ofString "one", Value.str one t0), (Str.ofString "pairs", Value.ref pa)]) := F'
  clear F'
  w_top on
  dsimp only
  walk_at "mine steps"
  (rename Fr _ _ _ _ => F9); (rename News _ _ _ _ => N9)
  rename_i nl _ _ h1 _
  try dsimp only at F9 N9 ⊢
  have hnI := ltN (Heap.lt_size (N9 _ (.head _)).1)
  try dsimp only at hnI
  refine loop_list (σ := Nat × List (Str × Tok) × Nat) (items := vs.toArray) (c₀ := (nl, [], 0))
    (fun c => [(Str.ofString "parts", .ref c.1), (Str.ofString "one", .str one t0)])
    (fun c => [(c.1, SL c.2.1 c.2.2)])
    (fun i c => c.1 ≠ h1.objs.size ∧ c.2.1.map (·.1) = partsOf (ps.take i) one ∧ c.2.1.length ≤ i ∧ ∀ p ∈ c.2.1, p.1.length ≤ 1000) rfl ⟨_, F9.keep _ _ hl, rfl, _, rfl⟩ (.inl ⟨_, hl⟩) (.inr ⟨_, _, _, rfl⟩)
    (fun i c j => all2 j.1 all0) F9 (all2 rfl (all2 rfl all0)) N9 ⟨Nat.ne_of_lt hnI, rfl, Nat.le_refl _, all0⟩ ?_ ?_
  · rintro i v h tk ⟨na, ys, n1⟩ m oI hv ⟨hna, hj, hyl, hyp⟩ F' N'
    obtain ⟨⟨k, p⟩, hpi, b, t1, t2, n2, rfl, hb⟩ := hpv.get (i := i) (v := v) (by simpa using hv)
    dsimp only at hna hj hyl hyp hb F' N' ⊢
    change Fr s.heap L' h _ at F'
    change News s.heap L' h _ at N'
    have hi : i < ps.length := (List.getElem?_eq_some_iff.mp hpi).1
    obtain ⟨hkl, hpl⟩ := he _ (List.mem_of_getElem? hpi)
    have hT : IsTup h b [Value.str k t1, Value.str p t2].toArray := ⟨_, F'.keep _ _ hb, rfl, _, rfl⟩
    have hIo := ltN (Heap.lt_size (N' _ (.head _)).1)
    have hna2 := ltN (Heap.lt_size (N' _ (.tail _ (.head _))).1)
    dsimp only at hkl hpl hIo hna2
    clear hv N9 F9
    have hjs := partsOf_take (one := one) hpi
    rw [← hj, partStep] at hjs
    dsimp only at hjs
    have hyz : ys.length ≤ 20 := by omega
    walk_at "mine steps"
    all_goals ((rename Fr _ _ _ _ => F9); (rename News _ _ _ _ => N9))
    all_goals first
      | ((rename (k == one) = false => hk)
         exact TurnF.next (na, ys, n1) F9 (all2 rfl (all2 rfl all0)) N9 ⟨hna, by rw [hjs, if_neg (by rw [hk]; decide)], Nat.le_succ_of_le hyl, hyp⟩)
      | ((rename (k == one) = true => hk); (rename (Txt.slice p none (some 1) == Str.ofString "/") = true => hsl)
         exact TurnF.next (_, [(p, t2)], 0) F9 (all2 rfl (all2 rfl all0)) (News.sub N9 (all2 (.tail _ (.head _)) (all2 (.head _) all0))) ⟨Nat.ne_of_gt (by omega), by rw [hjs, if_pos hk, if_pos hsl]; rfl, by simp, all2 hpl all0⟩)
      | ((rename (k == one) = true => hk); (rename (Txt.slice p none (some 1) == Str.ofString "/") = false => hsl)
         exact TurnF.next (_, ys ++ [(p, t2)], 0) F9 (all2 rfl (all2 rfl all0)) (News.sub N9 (all2 (.tail _ (.tail _ (.head _))) (all2 (.head _) all0))) ⟨Nat.ne_of_gt (by omega), by rw [hjs, if_pos hk, if_neg (by rw [hsl]; decide), List.map_append]; rfl, by simp; omega, fun q hq => (List.mem_append.mp hq).elim (hyp q) fun hq => by rw [List.mem_singleton.mp hq]; exact hpl⟩)
  · rintro h tk ⟨na, ys, n1⟩ m ⟨hna, hj, hyl, hyp⟩ F' N'
    dsimp only at hna hj hyl hyp F' N' ⊢
    change Fr s.heap L' h _ at F'
    change News s.heap L' h _ at N'
    clear N9 F9
    have hsz : vs.toArray.size = ps.length := by rw [List.size_toArray, hpv.length]
    rw [hsz] at hj hyl
    rw [List.take_length] at hj
    walk_at "mine steps"
    refine ⟨na, (strValues ys).toArray, fun _ _ j us tl => tl = [] ∧ ∃ ws : List (Str × Tok), us = strValues ws ∧ ws.map (·.1) = (((ys.map (·.1)).take j).filter fun p => p != Str.ofString "").map slashed ∧ ∀ p ∈ ws, p.1.length ≤ 1001, rfl, ⟨_, (N' _ (.head _)).1, rfl, _, rfl⟩, by rw [List.size_toArray, sv_len]; omega, ?_, fun _ _ => ⟨rfl, [], rfl, rfl, all0⟩, ?_, ?_⟩
    · rintro I D j us tl ⟨rfl, ws, rfl, hw, _⟩
      refine ⟨all0, ?_⟩
      have q1 := congrArg List.length hw
      rw [List.length_map, List.length_map] at q1
      have q2 := List.length_filter_le (fun p : Str => p != Str.ofString "") ((ys.map (·.1)).take j)
      rw [List.length_take] at q2
      rw [sv_len]; omega
    · rintro C5 I5 D5 j v5 h5 tk5 us5 n5 tl5 m5 oI5 hID5 hDC5 hsz5 hv5 ⟨rfl, ws, rfl, hw, hwl⟩ F5 N5
      obtain ⟨b, tb, hb, rfl⟩ := sv_get hv5
      dsimp only at F5 N5 hsz5 ⊢
      have hbl : b.length ≤ 1000 := hyp _ (List.mem_of_getElem? hb)
      have hfs := filter_take_succ (l := ys.map (·.1)) (a := b) (by rw [List.getElem?_map, hb]; rfl) (fun p => p != Str.ofString "") slashed
      rw [← hw] at hfs
      have hl1 : (Str.ofString "/").length = 1 := rfl
      clear hv5
      walk_at "mine steps"
      all_goals ((rename Fr _ _ _ _ => F8); (rename News _ _ _ _ => N8))
      · (rename (Txt.slice b (some (-1)) none == Str.ofString "/") = true => hq); (rename (b != Str.ofString "") = true => hb2)
        rw [if_pos hb2, slashed, if_pos hq] at hfs
        exact EltF.one F8 N8 ⟨rfl, ws ++ [(b, tb)], sv_snoc _ _ _, by rw [hfs, List.map_append]; rfl, fun q hq => (List.mem_append.mp hq).elim (hwl q) fun hq => by rw [List.mem_singleton.mp hq]; exact Nat.le_succ_of_le hbl⟩
      · (rename (Txt.slice b (some (-1)) none == Str.ofString "/") = false => hq); (rename (b != Str.ofString "") = true => hb2)
        rw [if_pos hb2, slashed, if_neg (by rw [hq]; decide)] at hfs
        refine EltF.one F8 N8 ⟨rfl, ws ++ [(b ++ Str.ofString "/", _)], sv_snoc _ _ _, by rw [hfs, List.map_append]; rfl, fun q hq => (List.mem_append.mp hq).elim (hwl q) fun hq => by rw [List.mem_singleton.mp hq, Str.length_append, hl1]; omega⟩
      · (rename (b != Str.ofString "") = false => hb2)
        rw [if_neg (by rw [hb2]; decide), List.append_nil] at hfs
        exact SkipF.one F8 N8 ⟨rfl, ws, rfl, hfs.symm, hwl⟩
    · rintro I5 D5 h5 tk5 us5 n5 tl5 hst ⟨rfl, ws, rfl, hw, hwl⟩ hnew
      dsimp only at hst hnew ⊢
      obtain ⟨hD1, hD2⟩ := hnew _ (.head _)
      have hzz : (strValues ys).toArray.size = (ys.map (·.1)).length := by simp [strValues]
      rw [hzz, List.take_length, hj] at hw
      have F5 := Fr.keeps F' hst
      have N5 := News.add F' N' hst hD2 hD1
      have hne : partsOf ps one ≠ [] := by
        refine partsOf_ne ps [] (.inr ?_)
        exact firsts_mem (by assumption)
      have hye : ys.isEmpty = false := by
        cases ys with
        | nil => exact absurd hj.symm hne
        | cons _ _ => rfl
      have hwn : ws.length ≤ 20 := by
        have q1 := congrArg List.length hw
        rw [List.length_map, List.length_map] at q1
        have q2 := List.length_filter_le (fun p : Str => p != Str.ofString "") (partsOf ps one)
        rw [← hj, List.length_map] at q2
        rw [← hj] at q1
        omega
      have hjz : ((ws.map (·.1)).map (·.length)).sum + 2 * ws.length ≤ 4000000 := by
        have := sum_le_of (fun q : Str × Tok => q.1.length) 1001 ws hwl
        rw [List.map_map]
        simp only [Function.comp_def]
        omega
      have htx : textOf (partsOf ps one) = Txt.join (Str.ofString "") (ws.map (·.1)) := by rw [textOf, ← hw]
      have hyz : ys.length ≤ 20 := by omega
      clear hnew hst
      walk_at "mine steps"
      (rename List.getLast? _ = some _ => hb9)
      have hbl9 := last_le hyp hb9
      have hjl : (Txt.join (Str.ofString "") (ws.map (·.1))).length ≤ 100000 := by
        have h5 := StrLaws.join_length_le (Str.ofString "") (ws.map (·.1))
        rw [← show Txt.join (Str.ofString "") (ws.map (·.1)) = Str.join (Str.ofString "") (ws.map (·.1)) from StrLaws.glued_eq_join _ _] at h5
        rw [show (Str.ofString "").length = 0 from rfl, List.length_map] at h5
        have := sum_le_of (fun q : Str × Tok => q.1.length) 1001 ws hwl
        rw [List.map_map] at h5
        simp only [Function.comp_def] at h5
        omega
      walk_at "mine steps"
      all_goals ((rename Fr _ _ _ _ => F9); (rename List.any _ _ = _ => hq))
      · have e : spellOf ps one = Txt.join (Str.ofString "") (ws.map (·.1)) := by unfold spellOf; rw [← hj, hb9, Option.getD_some, if_pos hq, hj, htx]
        rw [e] at h9
        exact h9 _ _ _ F9.keep
      · have e : spellOf ps one = Txt.slice (Txt.join (Str.ofString "") (ws.map (·.1))) none (some (-1)) := by unfold spellOf; rw [← hj, hb9, Option.getD_some, if_neg (by rw [hq]; decide), hj, htx]
        rw [e] at h9
        exact h9 _ _ _ F9.keep
end

section
variable {prog : Program} {w : World} {A : Around} {s : Shared} {elt target iter : Expr} {ifs : List Expr} {scope : Scope} {pos spos py : Pos} {y : Str} {env : Env} {E : Value → Shared → Prop} {Q : Flow → Shared → Prop} {cl : List (Str × Addr)}
def CompAtU (prog : Program) (w : World) (A : Around) (env : Env) (scope : Scope) (cl : List (Str × Addr)) (target elt : Expr) (ifs : List Expr) (y : Str) (Q : Flow → Shared → Prop) (xv : Value) (s₁ : Shared) : Prop :=
  ∃ (ax : Addr) (items : Array Value) (J : Addr → Addr → Nat → List Value → List (Addr × Obj) → Prop) (m₀ : Str → Option Value), xv = .ref ax ∧ s₁.heap.IsList ax items ∧ items.size ≤ 1000000 ∧ s₁.heap.Ns env.locals m₀ ∧
    (∀ I D i ys tl, J I D i ys tl → (∀ p ∈ tl, p.1 ≠ I ∧ p.1 ≠ D) ∧ ys.length ≤ i) ∧ (∀ I D, J I D 0 [] []) ∧
    (∀ C I D i v h tk ys n tl (m : Str → Option Value) oI, I < D → D < C → s₁.heap.objs.size ≤ I → items[i]? = some v → J I D i ys tl → Fr s₁.heap C h m → News s₁.heap C h ([(I, oI), (D, W.listOf ys.toArray n)] ++ tl) →
      wpAny (model prog w) A (assign target (compEnvC scope cl C env) v) (fun _ s₂ => wpAny (model prog w) A (compTest ifs (compEnvC scope cl C env)) (fun ok s₃ =>
        if ok = true then wpAny (model prog w) A (eval elt (compEnvC scope cl C env)) (EltF s₁ s₁.heap C [(I, oI), (D, W.listOf ys.toArray n)] tl (J I D (i + 1)) ys) no s₃
        else SkipF s₁ s₁.heap C [(I, oI), (D, W.listOf ys.toArray n)] tl (J I D (i + 1)) ys s₃) no s₂) no { s₁ with heap := h, toks := tk }) ∧
    (∀ I D h tk ys n tl, (∀ b o, b ≠ env.locals → s₁.heap.get? b = some o → h.get? b = some o) → h.Ns env.locals (fun z => if z = y then some (.ref D) else m₀ z) → J I D items.size ys tl →
      (∀ p ∈ (D, W.listOf ys.toArray n) :: tl, h.get? p.1 = some p.2 ∧ s₁.heap.get? p.1 = none) → Q .next { s₁ with heap := h, toks := tk })

theorem comp_use (hsw : swapsWith (.ListComp elt [⟨target, iter, ifs, 0⟩] scope pos) (some (.Name y py)) spos.line env = pure true)
    (hclos : closureFor scope env = pure cl) (hkind : scope.kind = .function) (hcell : ∀ x ∈ scope.names, x.2 ≠ .cell)
    (hnames : ∀ x ∈ scope.names, x.2 = .local → scope.names.lookup x.1 = some .local) (ht : (∃ x p, target = .Name x p) ∨ ∃ es k p, target = .Tuple es k p) (hh : A.handled = none)
    (hy : env.kindOf y = some .local) (hp : (env.scope.kind == .class || (env.scope.kind == .module && env.locals != env.globals)) = false)
    (h : wpAny (model prog w) A (eval iter env) (fun xv s₁ => CompAtU prog w A env scope cl target elt ifs y Q xv s₁) no s)
    (hs : ∀ x, foldedSetIterable iter env x = pure x) :
    wpAny (model prog w) A (exec (.Assign [.Name y py] (.ListComp elt [⟨target, iter, ifs, 0⟩] scope pos) spos) env) Q E s := by
  rw [exec_Assign_Name_used _ _ _ _ hsw]
  refine wpAny_bind (wpAny_standAt (wpAny_bind ?_))
  show wpAny _ A (do let _ ← comprehension (.ListComp elt [⟨target, iter, ifs, 0⟩] scope pos) scope env _ (newList []) false (eval iter env) (some (assign (.Name y py) env))) _ _ s
  refine wpAny_bind (wpAny_mono (wpAny_mono (E := no) (wpAny_comprehension_free (g := ⟨target, iter, ifs, 0⟩) (gs := []) (use := some (assign (.Name y py) env)) (Q := fun _ s' => Q .next s') rfl hs hclos hkind hnames ?_) (fun _ _ x => x) fun _ _ x => x.elim) (fun _ s' hq => wpAny_pure (wpAny_pure hq)) fun _ _ e => e)
  refine wpAny_mono h (fun xv s₁ h₁ => ?_) fun _ _ x => x
  obtain ⟨ax, items, J, m₀, rfl, hl, hz, hL0, hJ, hj0, turn, done⟩ := h₁
  refine wpAny_pyIter_list hl ?_
  refine wpAny_newObj_type ?_ (by show (0 : Nat) ≤ sizeLine; exact Nat.zero_le _)
  refine wpAny_newFunctionEnv hcell (fun _ hx => nomatch hx) (fun h' hns hsb => ?_) hkind
  obtain ⟨hp', gens, drawn, toks, os⟩ := s₁
  dsimp only at *
  generalize hI : hp'.objs.size = I at *
  have hDs : ((hp'.push { cls := Value.type "list_iterator", data := Data.fields #[Value.ref ax, Value.int 0 0] })).objs.size = I + 1 := by rw [Heap.size_push, hI]
  have hCs : ((hp'.push { cls := Value.type "list_iterator", data := Data.fields #[Value.ref ax, Value.int 0 0] }).push { cls := Value.type "list", data := Data.seq [].toArray }).objs.size = I + 1 + 1 := by rw [Heap.size_push, hDs]
  rw [hCs] at hns hsb ⊢
  rw [hDs]
  obtain ⟨ol, hol, _⟩ := id hl
  have hlax : ax < I := hI ▸ Heap.lt_size hol
  have keepAll : ∀ b o, ((hp'.push { cls := Value.type "list_iterator", data := Data.fields #[Value.ref ax, Value.int 0 0] }).push { cls := Value.type "list", data := Data.seq [].toArray }).get? b = some o → h'.get? b = some o := fun b o e =>
    hsb.extBut b o (by have := ltN (Heap.lt_size e); rw [hCs] at this; exact Nat.ne_of_lt this) (Heap.get?_push_of_some _ e)
  have keep : hp'.StaysIn h' := fun b o e => keepAll b o (Heap.get?_push_of_some _ (Heap.get?_push_of_some _ e))
  have none_ge : ∀ b, I ≤ b → hp'.get? b = none := fun b hb => by
    cases q : hp'.get? b with
    | none => rfl
    | some o => have := ltN (Heap.lt_size q); rw [hI] at this; exact absurd this (Nat.not_lt.mpr hb)
  have hIo : h'.get? I = some { cls := Value.type "list_iterator", data := Data.fields #[Value.ref ax, Value.int 0 0] } := by
    refine keepAll _ _ (Heap.get?_push_of_some _ ?_)
    rw [← hI]; exact Heap.get?_push_size _ rfl
  have hDo : h'.get? (I + 1) = some { cls := Value.type "list", data := Data.seq [].toArray } := by
    refine keepAll _ _ ?_
    rw [← hDs]; exact Heap.get?_push_size _ rfl
  have F0 : Fr hp' (I + 1 + 1) h' (fun x => ([] : List (Str × Value)).reverse.lookup x) := ⟨hns, keep, by rw [hI]; exact Nat.le_succ_of_le (Nat.le_succ I)⟩
  have hLlt : env.locals < I := hI ▸ hL0.lt
  have run : codeAny (model prog w) A (.compLoop (.ListComp elt [⟨target, iter, ifs, 0⟩] scope pos) 0 (.ref I) (.ref (I + 1)) (compEnvC scope cl (I + 1 + 1) env))
      (compPost (model prog w) A no (some (assign (.Name y py) env)) (fun _ s' => Q .next s') (.ref (I + 1)) (I + 1 + 1)) ⟨h', gens, drawn, toks + ([] : List (Str × Value)).length, os⟩ := by
    refine comp_loop (g := hp') (ax := ax) (items := items) (J I (I + 1)) hh (Nat.ne_of_lt hlax) (Nat.ne_of_lt (Nat.lt_succ_self I)) (Nat.ne_of_gt (show I < I + 1 + 1 from Nat.lt_succ_of_lt (Nat.lt_succ_self I))) (none_ge _ (Nat.le_refl _)) hl ht hz (hJ I (I + 1)) ?_ ?_ (n₀ := 0) F0 (all2 ⟨hDo, Nat.ne_of_lt (Nat.lt_succ_self (I + 1)), none_ge _ (Nat.le_succ I)⟩ all0) ⟨_, hIo, rfl, rfl⟩ (hj0 _ _)
    · intro i v h tk ys n tl m oI hv hj F N
      exact turn (I + 1 + 1) I (I + 1) i v h tk ys n tl m oI (Nat.lt_succ_self I) (Nat.lt_succ_self (I + 1)) (Nat.le_refl _) hv hj F N
    · intro h tk ys n tl m hj F N
      have hLC : env.locals ≠ I + 1 + 1 := Nat.ne_of_lt (Nat.lt_succ_of_lt (Nat.lt_succ_of_lt hLlt))
      show wpAny _ A (assign (.Name y py) env (.ref (I + 1))) _ _ _
      refine wpAny_assign_Name (wpAny_storeName_local hy (hL0.at' fun o e => F.keep _ o e) (fun h₂ hn₂ hs₂ => ?_) hp)
      refine ⟨m, F.ns.sameBut hs₂ (Ne.symm hLC), fun h₃ hs₃ => ?_⟩
      have off : ∀ p ∈ (I + 1, W.listOf ys.toArray n) :: tl, p.1 ≠ env.locals := fun p hp' e => by
        have := (N p hp').2.2
        rw [e] at this
        obtain ⟨oL, _, _, hoL, _⟩ := hL0
        rw [hoL] at this; cases this
      refine done I (I + 1) h₃ _ ys n tl (fun b o hb e => ?_) (hn₂.sameBut hs₃ hLC) hj fun p hp' => ⟨?_, (N p hp').2.2⟩
      · exact (hs₃.2 b (by have := ltN (Heap.lt_size e); rw [hI] at this; exact Nat.ne_of_lt (Nat.lt_succ_of_lt (Nat.lt_succ_of_lt this)))).trans ((hs₂.2 b hb).trans (F.keep b o e))
      · exact (hs₃.2 p.1 (N p hp').2.1).trans ((hs₂.2 p.1 (off p hp')).trans (N p hp').1)
  refine codeAny_compStart_list run ?_
  exact wpAny_pyIter_listiter (s := ⟨h', gens, drawn, toks + ([] : List (Str × Value)).length, os⟩) ⟨_, hIo, rfl, rfl⟩ run
end

def datOf (ps : List (Str × Str)) : List Dat := ps.map fun q => Dat.tuple [.str q.1, .str q.2]
theorem pairs_tl {h : Heap} : ∀ {vs : List Value} {ps : List (Str × Str)}, PairsV h vs ps → ∃ tl, DatAll tl vs (datOf ps) ∧ ∀ p ∈ tl, h.get? p.1 = some p.2
  | [], [], _ => ⟨[], .nil, all0⟩
  | _ :: _, _ :: _, x => by
    obtain ⟨tl, hd, ht⟩ := pairs_tl x.2
    obtain ⟨b, t1, t2, n, rfl, ho⟩ := x.1
    exact ⟨(b, _) :: tl, .cons (.tuple (vs := [.str _ t1, .str _ t2]) (n := n) (.head _) (.cons (.str _ _) (.cons (.str _ _) .nil))) (hd.mono fun p hp => .tail _ hp), all2 ho ht⟩
theorem dat_ok {ps : List (Str × Str)} (h : ∀ q ∈ ps, PyData.strOk q.1 = true ∧ PyData.strOk q.2 = true) : ∀ d ∈ datOf ps, kqdOk 8 d = true := by
  intro d hd
  obtain ⟨q, hq, rfl⟩ := List.mem_map.mp hd
  obtain ⟨h1, h2⟩ := h q hq
  simp [kqdOk, h1, h2]
section
variable {prog : Program} {w : World} {A : Around} {E : Value → Shared → Prop} {s : Shared}
theorem ne_pairs {a b : Addr} {ps : List (Str × Str)} {Q : Value → Shared → Prop} (ha : PairsAt s.heap a ps) (hb : PairsAt s.heap b ps) (hok : ∀ q ∈ ps, PyData.strOk q.1 = true ∧ PyData.strOk q.2 = true)
    (hu : A.units + 64 < cLine) (h : Q (.bool false) s) : wpAny (model prog w) A (compareOp .NotEq (.ref a) (.ref b)) Q E s := by
  obtain ⟨vs, n, hl, hv⟩ := ha
  obtain ⟨us, k, hm, hu'⟩ := hb
  obtain ⟨t1, d1, g1⟩ := pairs_tl hv
  obtain ⟨t2, d2, g2⟩ := pairs_tl hu'
  have gg : ∀ p ∈ (a, W.listOf vs.toArray n) :: (b, W.listOf us.toArray k) :: (t1 ++ t2), s.heap.get? p.1 = some p.2 := all2 hl (all2 hm fun p hp => (List.mem_append.mp hp).elim (g1 p) (g2 p))
  have N : News (default : Heap) s.heap.objs.size s.heap ((a, W.listOf vs.toArray n) :: (b, W.listOf us.toArray k) :: (t1 ++ t2)) := fun p hp => ⟨gg p hp, Nat.ne_of_lt (Heap.lt_size (gg p hp)), by rfl⟩
  refine kqd_ne N (.head _) rfl rfl d1 (fun p hp => .tail _ (.tail _ (List.mem_append_left _ hp))) (.tail _ (.head _)) rfl rfl d2 (fun p hp => .tail _ (.tail _ (List.mem_append_right _ hp))) (dat_ok hok) (dat_ok hok) hu ?_
  simpa using h
end
theorem PairsAt.ofNews {g h : Heap} {L D : Addr} {us : List Value} {n : Nat} {ps : List (Str × Str)} {tl news : List (Addr × Obj)} (N : News g L h news) (hD : (D, W.listOf us.toArray n) ∈ news) (ht : ∀ p ∈ tl, p ∈ news) (hP : PairsL tl us ps) : PairsAt h D ps :=
  ⟨us, n, (N _ hD).1, hP.at fun p hp => (N p (ht p hp)).1⟩
theorem codeC1 {w : World} {mean : ExcName → Option Value} {mg mb : Str → Option Value} {c : Nat} {A : Around} {s : Shared} {K : Frag} {R : Result → Shared → Prop} {name qual : Str} {params : Arguments} {body : List Stmt} {scope : Scope} {dV kV doc pm cdv ct oc : Value} {an od : Option Addr} {osl : Array (Option Value)} {f : Addr} {vs : List Value} {binds : List (Str × Value)} {x : Str}
    (G : Gr w mean mg mb c A s.heap) (hK : K = KF w)
    (ho : K.lookup f = some ⟨oc, od, .func (fnOf name qual params body scope dV kV doc pm an cdv ct), osl⟩) (hcd : codeIn K cdv qual = true)
    (hbind : bindArgs (fnOf name qual params body scope dV kV doc pm an cdv ct) ⟨vs, []⟩ = pure binds)
    (hkind : ∀ n, KindsOk scope n binds) (hcf : ∀ n, cellsFrom n scope.names [] = [(x, n)])
    (h : ∀ L' h₁ tk o, Fr s.heap L' h₁ (bindL (fun y => scope.names.lookup y) binds fun _ => none) → News s.heap L' h₁ [(L' + 1, o)] → o.data = .cell ((bindC (fun y => scope.names.lookup y) binds fun _ => none) x) →
      wpAny (model P0 w) (A.deeper (envOfC qual scope L' f cdv)) (execs body (envOfC qual scope L' f cdv))
        (fun fl s' => R (.ok (.ret (match fl with | .ret v => v | _ => .none))) s') (fun _ _ => False)
        { s with heap := h₁, toks := tk })
    (hco : scope.isCoroutine = false) (hgen : scope.isGenerator = false) (hk : scope.kind = .function) : codeAny (model P0 w) A (.call (.ref f) ⟨vs, []⟩) R s := by
  subst hK
  refine codeAny_call_cells (fd := fnOf name qual params body scope dV kV doc pm an cdv ct) (body := body) (binds := binds) (Nat.lt_of_le_of_lt (Nat.le_trans (Nat.le_add_right _ c) G.hd) (by decide)) (G.k _ _ ho) rfl G.t.nolimit (codeRec_of G.k hcd) rfl hbind rfl (kinds_of (hkind _)) (fun s₁ X => ?_) hco hgen hk
  obtain ⟨h₁, tk, rfl, hk₁⟩ := X.done
  have hcell : h₁.IsCell (s.heap.objs.size + 1) ((bindC (fun y => scope.names.lookup y) binds fun _ => none) x) := by
    refine X.cell x _ ?_
    show (cellsFrom (s.heap.objs.size + 1) scope.names []).lookup x = some (s.heap.objs.size + 1)
    rw [hcf]; simp
  obtain ⟨o, ho1, hd⟩ := hcell
  refine wpAny_mono (h s.heap.objs.size h₁ tk o ⟨X.toInCall.ns, hk₁, Nat.le_refl _⟩ (all2 ⟨ho1, Nat.ne_of_gt (Nat.lt_succ_self _), ?_⟩ all0) hd) (fun fl s' hl => hl) fun _ _ y => y.elim
  exact Heap.get?_none_of_le (Nat.le_succ _)

def FolOk (qs : List (Str × Str)) : Prop := ∃ Inv : Str → Prop, Inv (Str.ofString "/") ∧ ∀ v, Inv v → ∀ q ∈ qs, NormPre (joinStep v q.2) ∧ Inv (folF v q.2)
/-- a header of pairs that is read back -/
structure HdOk (ps : List (Str × Str)) : Prop where
  n : ps.length ≤ 20
  he : ∀ p ∈ ps, p.1.length ≤ 10 ∧ p.2.length ≤ 1000
  rd : ∃ kv, RD (writtenOf ps) kv ∧ pairsOf (writtenOf ps) kv = ps
  fol : FolOk ps
def OkP (ps : List (Str × Str)) : Prop := ∀ q ∈ ps, PyData.strOk q.1 = true ∧ PyData.strOk q.2 = true
def dueOf (ps : List (Str × Str)) : List (Str × Str) := (firstsOf ps).map fun one => (one, Str.ofString "/" ++ Txt.join (Str.ofString "/") (walkOf ps one))
def hungOf (ps : List (Str × Str)) : List (Str × Str) := (firstsOf ps).map fun one => (one, spellOf ps one)
def toldOf (ps : List (Str × Str)) : List (Str × Str) := foldF folF (Str.ofString "/") ps
/-- the plain facts that the law leans on -/
structure LF (ps : List (Str × Str)) : Prop where
  hd : HdOk ps
  last : dictP ps = lastsOf ps
  hung : foldF hungF (Str.ofString "") ps = hungOf ps
  okL : OkP (lastsOf ps)
  okH : OkP (hungOf ps)
  okD : OkP (dueOf ps)
  take : ∀ k ≤ ps.length, HdOk (ps.take k)
  told : ∀ k ≤ ps.length, HdOk (toldOf (ps.take k) ++ ps.drop k)
  cut : ∀ k ≤ ps.length, toldOf (toldOf (ps.take k) ++ ps.drop k) = dueOf ps
theorem ints_get : ∀ {vs : List Value} {ns : List Int}, IntsAre vs ns → ∀ {i : Nat} {v : Value}, vs[i]? = some v → ∃ n t, v = .int n t
  | _, _, .nil, _, _, h => by simp at h
  | _, _, .cons n t _, 0, v, h => ⟨n, t, by simpa using h.symm⟩
  | _, _, .cons _ _ r, i + 1, v, h => ints_get r (i := i) (by simpa using h)
theorem News.fresh {g h₁ h : Heap} {L : Addr} {m : Str → Option Value} {l : List (Addr × Obj)} (F : Fr g L h₁ m) (hl : ∀ p ∈ l, h.get? p.1 = some p.2 ∧ h₁.get? p.1 = none) : News g L h l := fun p hp => by
  refine ⟨(hl p hp).1, ?_, ?_⟩
  · rintro rfl
    obtain ⟨oL, _, _, hL, _⟩ := F.ns
    rw [(hl p hp).2] at hL; cases hL
  · cases q : g.get? p.1 with
    | none => rfl
    | some x => have := F.keep _ _ q; rw [(hl p hp).2] at this; cases this
theorem News.app {g h : Heap} {L : Addr} {a b : List (Addr × Obj)} (h1 : News g L h a) (h2 : News g L h b) : News g L h (a ++ b) := fun p hp => (List.mem_append.mp hp).elim (h1 p) (h2 p)
section
variable {w : World} {mean : ExcName → Option Value} {mg mb : Str → Option Value} {c : Nat} {A : Around} {s : Shared} {Q E : Value → Shared → Prop}
local macro_rules | `(tactic| walk_at "mine steps") => `(tactic| repeat' (first | ((with_reducible show wpAny _ _ (eval (Expr.Name _ _) _) _ _ _); walk_at "eval Name") | walk1 | (dsimp only; walk1) | fail "no step"))
local macro_rules | `(tactic| walk_at "eval Name") => `(tactic| (k_dflt (refine' nm_cell (c := ?c) ?a ?b ?v ?d ?f ?_; (case a => rfl); (case b => rfl); (case v => first | ((rename Fr _ _ _ _ => F9); exact Heap.IsCell.keeps (by assumption) F9.keep) | ((rename News _ _ _ _ => N9); exact ⟨_, (News.get N9 (by k_mem)), (by assumption)⟩)); (case d => rfl); (case f => decide); k_whole)))
local macro_rules | `(tactic| walk_at "eval ListComp") => `(tactic| (k_dflt (refine' comp_plain (cl := [(Str.ofString "pairs", _)]) ?a ?b ?c ?d ?e ?f ?_ ?g; (case a => rfl); (case b => rfl); (case c => decide); (case d => decide); (case e => exact .inl ⟨_, _, rfl⟩); (case f => rfl); (case g => (intro _; with_unfolding_all rfl)); k_whole)))
theorem RD.hp {x : Str} {kv : Str → Str × Str} {ps : List (Str × Str)} (h : pairsOf x kv = ps) (he : ∀ p ∈ ps, p.1.length ≤ 10 ∧ p.2.length ≤ 1000) : ∀ a ∈ httpOf x, (unq (kv a).2).length ≤ 1000 := fun a ha =>
  (he ((kv a).1, unq (kv a).2) (by rw [← h]; exact List.mem_map.mpr ⟨a, ha, rfl⟩)).2
theorem FolOk.use {x : Str} {kv : Str → Str × Str} {ps : List (Str × Str)} {Inv : Str → Prop} (h : pairsOf x kv = ps) (hI : ∀ v, Inv v → ∀ q ∈ ps, NormPre (joinStep v q.2) ∧ Inv (folF v q.2)) :
    ∀ v, Inv v → ∀ a ∈ httpOf x, NormPre (joinStep v (unq (kv a).2)) ∧ Inv (folF v (unq (kv a).2)) := fun v hv a ha =>
  hI v hv ((kv a).1, unq (kv a).2) (by rw [← h]; exact List.mem_map.mpr ⟨a, ha, rfl⟩)
theorem sn_off {M : Model} {A : Around} {E : Value → Shared → Prop} {s : Shared} {g : Heap} {m : Str → Option Value} {env : Env} {x : Str} {v : Value} {news : List (Addr × Obj)} {Q : Unit → Shared → Prop} (F : Fr g env.locals s.heap m) (N : News g env.locals s.heap news) (hl : env.kindOf x = some .local) (hk : env.scope.kind = .function)
    (h : ∀ h' k, Fr g env.locals h' (fun y => if y = x then some v else m y) → News g env.locals h' news → (∀ b o, b ≠ env.locals → s.heap.get? b = some o → h'.get? b = some o) → Q () { s with heap := h', toks := k }) : wpAny M A (storeName env x v) Q E s :=
  wpAny_storeName_local hl F.ns (fun h' hn hs => h h' _ (F.set hn hs) (N.set hs) fun b o hb e => (hs.2 b hb).trans e) (by rw [hk]; rfl)
theorem ns_ne {h : Heap} {L b : Addr} {m : Str → Option Value} {o : Obj} {a : Array Value} {n : Nat} (hL : h.Ns L m) (ho : h.get? b = some o) (hs : o.data = .seq a n) : b ≠ L := by
  rintro rfl
  obtain ⟨oL, _, _, hoL, hd, _⟩ := hL
  rw [ho] at hoL
  rw [← Option.some.inj hoL, hs] at hd
  cases hd
theorem PairsV.off {h h' : Heap} {L : Addr} {m : Str → Option Value} (hL : h.Ns L m) (hk : ∀ b o, b ≠ L → h.get? b = some o → h'.get? b = some o) : ∀ {vs : List Value} {ps : List (Str × Str)}, PairsV h vs ps → PairsV h' vs ps
  | [], [], _ => trivial
  | _ :: _, _ :: _, x => ⟨let ⟨b, t1, t2, n, e, ho⟩ := x.1; ⟨b, t1, t2, n, e, hk _ _ (ns_ne hL ho rfl) ho⟩, PairsV.off hL hk x.2⟩
theorem PairsAt.off {h h' : Heap} {L a : Addr} {m : Str → Option Value} {ps : List (Str × Str)} (hL : h.Ns L m) (hk : ∀ b o, b ≠ L → h.get? b = some o → h'.get? b = some o) (x : PairsAt h a ps) : PairsAt h' a ps :=
  let ⟨vs, n, ho, hp⟩ := x; ⟨vs, n, hk _ _ (ns_ne hL ho rfl) ho, hp.off hL hk⟩
local macro_rules | `(tactic| walk_at "subscriptTail Name Slice ref ref") => `(tactic| ((rename Fr _ _ _ _ => F9); (rename News _ _ _ _ => N9); refine' slice_pto ?sp ?s0 ?sk ?sz ?_; (case sp => exact PairsAt.ofNews N9 (by k_mem) (fun p hp => by simp [hp]) (by assumption)); (case s0 => omega); (case sk => omega); (case sz => omega); intro a9 h9 hs9 hf9 hP9; (have F8 := Fr.keeps F9 hs9); (have N8 := News.keeps N9 hs9); clear F9 N9; (try dsimp only)))
local macro_rules | `(tactic| walk_at "subscriptTail Name Slice ref ref") => `(tactic| ((rename Fr _ _ _ _ => F9); (rename News _ _ _ _ => N9); refine' slice_pfrom ?sp ?s0 ?sk ?sz ?_; (case sp => exact PairsAt.ofNews N9 (by k_mem) (fun p hp => by simp [hp]) (by assumption)); (case s0 => omega); (case sk => omega); (case sz => omega); intro a9 h9 hs9 hf9 hP9; (have F8 := Fr.keeps F9 hs9); (have N8 := News.keeps N9 hs9); clear F9 N9; (try dsimp only)))
theorem law_ok {R : Result → Shared → Prop} (G : Gr w mean mg mb c A s.heap) (hc : 12 ≤ c) {sa : Addr} {vs : List Value} {ns : List Int} (hl : s.heap.IsList sa vs.toArray) (hi : IntsAre vs ns) (hn : ns.length ≤ 63)
    (hLF : ∀ ps : List (Str × Str), (∀ q ∈ ps, PairOk q) → 1 ≤ ps.length → ps.length ≤ 6 → LF ps) (hu : A.units + 164 < cLine)
    (hR : ∀ L h tk m, Fr s.heap L h m → R (.ok (.ret (.bool true))) { s with heap := h, toks := tk }) :
    codeAny (model P0 w) A (.call (.ref 205) ⟨[.ref sa], []⟩) R s := by
  obtain ⟨hA, dA, fA, gA, uA⟩ := A
  obtain rfl : hA = none := G.hh
  w_on
  refine codeC1 (K := Mine.hd.heap_39 _) (x := Str.ofString "pairs") (binds := [(Str.ofString "script", .ref sa)]) G rfl (by k_is) (by k_is) ?_ ?_ ?_ ?_ rfl rfl rfl
  · rfl
  · intro n; exact ⟨.inl rfl, trivial⟩
  · intro n; rfl
  intro L' h' tk o F' N' hcl
  have X : (Mine.hd.heap_39 w.params).In s.heap := G.k
  have T : Top Mine.vw (looseW Mine.vw []) mean mg mb s.heap := G.t
  replace hcl : o.data = .cell none := hcl
  have F1 : Fr s.heap L' h' (fun y => if y = Str.ofString "script" then some (Value.ref sa) else none) := F'
  clear F'
  w_top on
  try dsimp only
  refine wpAny_execs_cons ?_
  refine wpAny_Assign_Name ?_ rfl
  refine' comp_plain (cl := []) ?a ?b ?c ?d ?e ?f ?_ ?g
  case a => rfl
  case b => rfl
  case c => decide
  case d => decide
  case e => exact .inl ⟨_, _, rfl⟩
  case f => rfl
  case g => (intro _; with_unfolding_all rfl)
  walk_at "mine steps"
  (rename Fr _ _ _ _ => F9); (rename News _ _ _ _ => N9); (rename IntsAre _ ([1261] ++ _) => hI9)
  have X2 := X.keeps F9.keep
  have T2 := T.keeps F9.keep
  have GG := fun env : Env => Gr.sub (c' := 11) (env := env) G F9 (by omega)
  have hws := hI9.length
  have hwn : ([1261] ++ List.take 5 ns).length ≤ 6 := by simp; omega
  have hw1 : 1 ≤ ([1261] ++ List.take 5 ns).length := by simp
  refine ⟨_, _, fun I D i us tl => ∃ ps : List (Str × Str), PairsL tl us ps ∧ (∀ q ∈ ps, PairOk q) ∧ ps.length = i ∧ ∀ p ∈ tl, (p.1 ≠ I ∧ p.1 ≠ D) ∧ IsPT p.2, rfl, ⟨_, (N9 _ (.head _)).1, rfl, _, rfl⟩, by rw [List.size_toArray]; omega, ?_, fun _ _ => ⟨[], trivial, all0, rfl, all0⟩, ?_, ?_⟩
  · rintro I D i us tl ⟨ps, hP, _, hpl, htl⟩
    exact ⟨fun p hp => (htl p hp).1, by rw [hP.length, hpl]; exact Nat.le_refl _⟩
  · rintro C I D i v h3 tk3 us n3 tl m oI hID hDC hsz hv ⟨ps, hP, hok, hpl, htl⟩ F3 N3
    obtain ⟨nn, tt, rfl⟩ := ints_get hI9 (i := i) (v := v) (by simpa using hv)
    dsimp only at F3 N3 hsz ⊢
    clear hv F9 N9
    walk_at "mine steps"
    (rename Fr _ _ _ _ => F9); (rename News _ _ _ _ => N9)
    refine' pair_ok (c := 9) ?G9 ?_
    case G9 => exact Gr.sub0 (GG _) F9.keep (by omega)
    intro h9 tk9 a9 k9 p9 t1 t2 n9 hs9 hf9 ho9 hok9
    have hap := News.apart N9 hf9
    exact ⟨_, _, _, [(a9, PT k9 p9 t1 t2 n9)], rfl, Fr.keeps F9 hs9, News.add F9 N9 hs9 hf9 ho9, all2 (all2 (Ne.symm (hap _ (.head _))) (all2 (Ne.symm (hap _ (.tail _ (.head _)))) all0)) all0,
      ps ++ [(k9, p9)], hP.snoc, fun q hq => (List.mem_append.mp hq).elim (hok q) fun hq => by rw [List.mem_singleton.mp hq]; exact hok9, by simp [hpl], all2 ⟨⟨Ne.symm (hap _ (.head _)), Ne.symm (hap _ (.tail _ (.head _)))⟩, _, _, _, _, _, rfl⟩ htl⟩
  · rintro I D h3 tk3 us n3 tl hst ⟨ps, hP, hok, hpl, htl⟩ hnew
    dsimp only at hst hnew ⊢
    rw [List.size_toArray, hws] at hpl
    have lf := hLF ps hok (by omega) (by omega)
    have F3 := Fr.keeps F9 hst
    have N3 : News s.heap L' h3 ([] ++ (L' + 1, o) :: (D, W.listOf us.toArray n3) :: tl) := all2 ⟨hst _ _ (N9 (L' + 1, o) (by k_mem)).1, (N9 (L' + 1, o) (by k_mem)).2⟩ (News.fresh F9 hnew)
    have hcD : ∀ p ∈ (D, W.listOf us.toArray n3) :: tl, p.1 ≠ L' + 1 := fun p hp e => by
      have := (hnew p hp).2
      rw [e, (N9 (L' + 1, o) (by k_mem)).1] at this; cases this
    clear hnew hst F9 N9 X2 T2 GG
    refine' sn_cell (own := []) F3 N3 ?sa ?sb ?sc ⟨_, hcl⟩ all0 hcD ?_
    case sa => rfl
    case sb => rfl
    case sc => rfl
    intro h4 o4 F4 N4 hd4
    change News s.heap L' h4 ((L' + 1, o4) :: (D, W.listOf us.toArray n3) :: tl) at N4
    clear F3 N3
    dsimp only at F4 N4 ⊢
    refine wpAny_execs_cons ?_
    refine' comp_use (cl := [(Str.ofString "pairs", L' + 1)]) ?u1 ?u2 ?u3 ?u4 ?u5 (.inl ⟨_, _, rfl⟩) rfl ?u6 ?u7 ?_ ?u8
    case u1 => rfl
    case u2 => rfl
    case u3 => rfl
    case u4 => decide
    case u5 => decide
    case u6 => rfl
    case u7 => rfl
    case u8 => (intro _; with_unfolding_all rfl)
    walk_at "mine steps"
    refine' firsts_ok (c := 11) ?G9 (PairsAt.ofNews N4 (.tail _ (.head _)) (fun p hp => .tail _ (.tail _ hp)) hP) lf.hd.n lf.hd.he ?_
    case G9 => exact Gr.sub G F4 (by omega)
    intro h5 tk5 ka ys n5 hs5 hf5 ho5 hy5
    have F5 := Fr.keeps F4 hs5
    have N5 := News.keeps N4 hs5
    have hyl : ys.length ≤ 20 := by
      have q1 := congrArg List.length hy5
      have q2 := firsts_len ps []
      rw [List.length_map] at q1
      rw [q1]
      exact Nat.le_trans q2 (by have := lf.hd.n; simpa using this)
    have hcB : h5.IsCell (L' + 1) (some (.ref D)) := ⟨o4, (N5 _ (.head _)).1, hd4⟩
    have hPD : PairsAt h5 D ps := PairsAt.ofNews N5 (.tail _ (.head _)) (fun p hp => .tail _ (.tail _ hp)) hP
    have X2 := X.keeps F5.keep
    have T2 := T.keeps F5.keep
    have GG := fun env : Env => Gr.sub (c' := 11) (env := env) G F5 (by omega)
    clear F4 N4
    refine ⟨ka, (strValues ys).toArray, fun I D i us tl => PairsL tl us ((dueOf ps).take i) ∧ ∀ p ∈ tl, (p.1 ≠ I ∧ p.1 ≠ D) ∧ IsPT p.2, _, rfl, ⟨_, ho5, rfl, _, rfl⟩, by rw [List.size_toArray, sv_len]; omega, F5.ns, ?_, fun _ _ => ⟨trivial, all0⟩, ?_, ?_⟩
    · rintro I D i us tl ⟨hP, htl⟩
      refine ⟨fun p hp => (htl p hp).1, ?_⟩
      rw [hP.length, List.length_take]; exact Nat.min_le_left _ _
    · rintro C I6 D6 i v h6 tk6 us6 n6 tl6 m6 oI6 hID hDC hsz hv ⟨hP6, htl6⟩ F6 N6
      obtain ⟨b, tb, hb, rfl⟩ := sv_get hv
      dsimp only at F6 N6 hsz ⊢
      have hdu : (dueOf ps)[i]? = some (b, Str.ofString "/" ++ Txt.join (Str.ofString "/") (walkOf ps b)) := by
        rw [dueOf, List.getElem?_map, ← hy5, List.getElem?_map, hb]; rfl
      clear hv F5 N5
      walk_at "mine steps"
      (rename Fr _ _ _ _ => F9); (rename News _ _ _ _ => N9)
      refine' walked_ok (c := 9) ?G9 (PairsAt.keeps hPD F9.keep) lf.hd.n lf.hd.he ?_
      case G9 => exact Gr.sub0 (GG _) F9.keep (by omega)
      intro h7 tk7 t7 hs7
      have F7 := Fr.keeps F9 hs7
      have N7 := News.keeps N9 hs7
      clear F9 N9
      dsimp only
      walk_at "mine steps"
      (rename Fr _ _ _ _ => F9); (rename News _ _ _ _ => N9)
      rename_i T9 _ l9
      have lb := l9 _ (.head _)
      have lc := l9 _ (.tail _ (.head _))
      refine ⟨_, _, _, [(T9, PT b _ tb _ 0)], rfl, F9, N9, all2 (all2 (Nat.ne_of_gt lb) (all2 (Nat.ne_of_gt lc) all0)) all0, ?_, all2 ⟨⟨Nat.ne_of_gt lb, Nat.ne_of_gt lc⟩, _, _, _, _, _, rfl⟩ htl6⟩
      rw [List.take_add_one, hdu]
      exact hP6.snoc
    · rintro I6 D6 h6 tk6 us6 n6 tl6 hst hns ⟨hP6, htl6⟩ hnew
      dsimp only at hst hns hnew ⊢
      have hz : (strValues ys).toArray.size = (dueOf ps).length := by rw [List.size_toArray, sv_len, dueOf, List.length_map, ← hy5, List.length_map]
      rw [hz, List.take_length] at hP6
      have offL : ∀ b o, s.heap.get? b = some o → b ≠ L' := fun b o e => Nat.ne_of_lt (Nat.lt_of_lt_of_le (Heap.lt_size e) F5.above)
      have F6 : Fr s.heap L' h6 (fun z => if z = Str.ofString "due" then some (.ref D6) else _) := ⟨hns, fun b o e => hst b o (offL b o e) (F5.keep b o e), F5.above⟩
      have N6 : News s.heap L' h6 ((L' + 1, o4) :: (D, W.listOf us.toArray n3) :: (D6, W.listOf us6.toArray n6) :: (tl ++ tl6)) := by
        have q1 : News s.heap L' h6 ((L' + 1, o4) :: (D, W.listOf us.toArray n3) :: tl) := fun p hp => ⟨hst _ _ (N5 p hp).2.1 (N5 p hp).1, (N5 p hp).2⟩
        have q2 : News s.heap L' h6 ((D6, W.listOf us6.toArray n6) :: tl6) := News.fresh F5 hnew
        refine all2 (q1 _ (.head _)) (all2 (q1 _ (.tail _ (.head _))) (all2 (q2 _ (.head _)) (News.app (fun p hp => q1 p (.tail _ (.tail _ hp))) fun p hp => q2 p (.tail _ hp))))
      clear hst hns hnew F5 N5 GG X2 T2 hcB hPD hs5 hf5
      refine wpAny_execs_cons ?_
      walk_at "mine steps"
      have mD : ∀ {h : Heap} {l : List (Addr × Obj)}, News s.heap L' h (l ++ (L' + 1, o4) :: (D, W.listOf us.toArray n3) :: (D6, W.listOf us6.toArray n6) :: (tl ++ tl6)) → PairsAt h D ps := fun N =>
        PairsAt.ofNews N (List.mem_append_right _ (.tail _ (.head _))) (fun p hp => List.mem_append_right _ (.tail _ (.tail _ (.tail _ (List.mem_append_left _ hp))))) hP
      have mU : ∀ {h : Heap} {l : List (Addr × Obj)}, News s.heap L' h (l ++ (L' + 1, o4) :: (D, W.listOf us.toArray n3) :: (D6, W.listOf us6.toArray n6) :: (tl ++ tl6)) → PairsAt h D6 (dueOf ps) := fun N =>
        PairsAt.ofNews N (List.mem_append_right _ (.tail _ (.tail _ (.head _)))) (fun p hp => List.mem_append_right _ (.tail _ (.tail _ (.tail _ (List.mem_append_right _ hp))))) hP6
      obtain ⟨kv, hRD, hkv⟩ := lf.hd.rd
      refine' written_ok (c := 11) ?G9 (mD (l := []) N6) lf.hd.n lf.hd.he ?_
      case G9 => exact Gr.sub G F6 (by omega)
      intro h7 tk7 t7 hs7
      have F7 := Fr.keeps F6 hs7
      have N7 := News.keeps N6 hs7
      clear F6 N6
      walk_at "mine steps"
      refine' read_ok (c := 11) ?G9 (by decide) hRD ?_
      case G9 => exact Gr.sub G F7 (by omega)
      intro h8 tk8 B8 hs8 hf8 hP8
      rw [hkv, lf.last] at hP8
      have F8 := Fr.keeps F7 hs8
      have N8 := News.keeps N7 hs8
      clear F7 N7 hf8
      walk_at "mine steps"
      refine' last_ok (c := 11) ?G9 (by decide) (mD (l := []) N8) lf.hd.n lf.hd.he ?_
      case G9 => exact Gr.sub G F8 (by omega)
      intro h9 tk9 B9 hs9 hf9 hP9
      replace hP8 := hP8.keeps hs9
      have F9 := Fr.keeps F8 hs9
      have N9 := News.keeps N8 hs9
      clear F8 N8 hf9 hs8 hs9 hs7
      walk_at "mine steps"
      refine ne_pairs hP8 hP9 lf.okL (by have := hu; simp only [units_deeper] at this ⊢; omega) ?_
      clear hP8 hP9
      walk_at "mine steps"
      refine' written_ok (c := 11) ?G9 (mD (l := []) N9) lf.hd.n lf.hd.he ?_
      case G9 => exact Gr.sub G F9 (by omega)
      intro h7 tk7 t7 hs7
      have F7 := Fr.keeps F9 hs7
      have N7 := News.keeps N9 hs7
      clear F9 N9
      walk_at "mine steps"
      refine' hung_ok (c := 11) ?G9 (by decide) hRD (RD.hp hkv lf.hd.he) ?_
      case G9 => exact Gr.sub G F7 (by omega)
      intro h8 tk8 B8 hs8 hf8 hP8
      rw [hkv, lf.hung] at hP8
      have F8 := Fr.keeps F7 hs8
      have N8 := News.keeps N7 hs8
      clear F7 N7 hf8
      walk_at "mine steps"
      refine' firsts_ok (c := 11) ?G9 (mD (l := []) N8) lf.hd.n lf.hd.he ?_
      case G9 => exact Gr.sub G F8 (by omega)
      intro h9 tk9 ka ys n5 hs9 hf9 ho9 hy9
      have F9 := Fr.keeps F8 hs9
      have N9 := News.keeps N8 hs9
      replace hP8 := hP8.keeps hs9
      have hyl : ys.length ≤ 20 := by
        have q1 := congrArg List.length hy9
        have q2 := firsts_len ps []
        rw [List.length_map] at q1
        rw [q1]
        exact Nat.le_trans q2 (by have := lf.hd.n; simpa using this)
      have hcB : h9.IsCell (L' + 1) (some (.ref D)) := ⟨o4, (N9 _ (.head _)).1, hd4⟩
      have hPD : PairsAt h9 D ps := mD (l := []) N9
      have X2 := X.keeps F9.keep
      have T2 := T.keeps F9.keep
      have GG := fun env : Env => Gr.sub (c' := 11) (env := env) G F9 (by omega)
      clear F8 N8 hs7 hs8 hs9 hf9
      refine ⟨ka, (strValues ys).toArray, fun I D i us tl => PairsL tl us ((hungOf ps).take i) ∧ ∀ p ∈ tl, (p.1 ≠ I ∧ p.1 ≠ D) ∧ IsPT p.2, rfl, ⟨_, ho9, rfl, _, rfl⟩, by rw [List.size_toArray, sv_len]; omega, ?_, fun _ _ => ⟨trivial, all0⟩, ?_, ?_⟩
      · rintro I D i us tl ⟨hP, htl⟩
        refine ⟨fun p hp => (htl p hp).1, ?_⟩
        rw [hP.length, List.length_take]; exact Nat.min_le_left _ _
      · rintro C I8 D8 i v h10 tk10 us10 n10 tl10 m10 oI10 hID hDC hsz hv ⟨hP10, htl10⟩ F10 N10
        obtain ⟨b, tb, hb, rfl⟩ := sv_get hv
        dsimp only at F10 N10 hsz ⊢
        have hb1 : b ∈ firstsOf ps := by rw [← hy9]; exact List.mem_map.mpr ⟨_, List.mem_of_getElem? hb, rfl⟩
        have hdu : (hungOf ps)[i]? = some (b, spellOf ps b) := by
          rw [hungOf, List.getElem?_map, ← hy9, List.getElem?_map, hb]; rfl
        clear hv F9 N9
        walk_at "mine steps"
        (rename Fr _ _ _ _ => F11); (rename News _ _ _ _ => N11)
        refine' spelled_ok (c := 9) ?G9 (PairsAt.keeps hPD F11.keep) lf.hd.n lf.hd.he hb1 ?_
        case G9 => exact Gr.sub0 (GG _) F11.keep (by omega)
        intro h12 tk12 t12 hs12
        have F12 := Fr.keeps F11 hs12
        have N12 := News.keeps N11 hs12
        clear F11 N11
        dsimp only
        walk_at "mine steps"
        (rename Fr _ _ _ _ => F13); (rename News _ _ _ _ => N13)
        rename_i T9 _ l9
        have lb := l9 _ (.head _)
        have lc := l9 _ (.tail _ (.head _))
        refine ⟨_, _, _, [(T9, PT b _ tb _ 0)], rfl, F13, N13, all2 (all2 (Nat.ne_of_gt lb) (all2 (Nat.ne_of_gt lc) all0)) all0, ?_, all2 ⟨⟨Nat.ne_of_gt lb, Nat.ne_of_gt lc⟩, _, _, _, _, _, rfl⟩ htl10⟩
        rw [List.take_add_one, hdu]
        exact hP10.snoc
      · rintro I8 D8 h10 tk10 us10 n10 tl10 hst ⟨hP10, htl10⟩ hnew
        dsimp only at hst hnew ⊢
        have hz : (strValues ys).toArray.size = (hungOf ps).length := by rw [List.size_toArray, sv_len, hungOf, List.length_map, ← hy9, List.length_map]
        rw [hz, List.take_length] at hP10
        have hPC : PairsAt h10 D8 (hungOf ps) := ⟨us10, n10, (hnew _ (.head _)).1, hP10.at fun p hp => (hnew p (.tail _ hp)).1⟩
        replace hP8 := hP8.keeps hst
        have F10 := Fr.keeps F9 hst
        have N10 := News.keeps N9 hst
        clear hst hnew F9 N9 GG X2 T2 hcB hPD
        walk_at "mine steps"
        refine ne_pairs hP8 hPC lf.okH (by have := hu; simp only [units_deeper] at this ⊢; omega) ?_
        clear hP8 hPC
        walk_at "mine steps"
        have hpn := lf.hd.n
        refine Calls.call_len_list ⟨_, (N10 _ (.tail _ (.head _))).1, rfl, _, rfl⟩ (by rw [List.size_toArray, hP.length]; omega) ?_
        rw [List.size_toArray, hP.length]
        walk_at "mine steps"
        (rename IsRange _ _ _ _ _ _ _ _ => hR9); (rename Fr _ _ _ _ => F11); (rename News _ _ _ _ => N11)
        rename_i h12 _ _ _ _ _
        have q1 : Builtin.Range.small 0 ((ps.length : Int) + 1) 1 = true := small_one (by omega) (by omega) (by omega) (by omega)
        have q2 := rangeSize_nat 0 ((ps.length : Int) + 1)
        dsimp only at hR9 ⊢
        refine loop_range (σ := Unit) (c₀ := ()) (n := ((ps.length : Int) + 1 - 0).toNat) (fun _ => [(Str.ofString "due", .ref D6)])
          (fun _ => (L' + 1, o4) :: (D, W.listOf us.toArray n3) :: (D6, W.listOf us6.toArray n6) :: (tl ++ tl6)) (fun _ _ => True) rfl hR9 q1 q2
          ?h1 F11 (all2 rfl all0) N11 trivial ?_ ?_
        case h1 => exact fun _ _ _ p hp => Nat.ne_of_lt (Heap.lt_size (N11 p hp).1)
        · rintro i h13 tk13 tt _ m13 oI hi _ F13 N13
          have hik : i ≤ ps.length := by omega
          rw [show (0 : Int) + (i : Int) * 1 = (i : Int) by omega]
          dsimp only at F13 N13 ⊢
          change Fr s.heap L' h13 _ at F13
          change News s.heap L' h13 _ at N13
          clear F11 N11 hR9 hi q1 q2
          have hdt := lf.take i hik
          obtain ⟨kt, hRt, hkt⟩ := hdt.rd
          obtain ⟨Inv, hI0, hI⟩ := hdt.fol
          walk_at "mine steps"
          (rename Fr _ _ _ _ => F14); (rename News _ _ _ _ => N14)
          have hP14 : PairsAt _ D ps := mD (l := [(h12.objs.size, oI)]) N14
          refine' slice_pto (s := { heap := _, gens := s.gens, drawn := s.drawn, toks := _, os := s.os }) hP14 ?s0 ?sk ?sz ?_
          case s0 => omega
          case sk => omega
          case sz => omega
          intro a15 h15 hs15 hf15 hP15
          have F15 := Fr.keeps F14 hs15
          have N15 := News.keeps N14 hs15
          rw [Int.toNat_natCast] at hP15
          clear F14 N14 hP14 hs15 hf15
          dsimp only
          walk_at "mine steps"
          refine' written_ok (c := 11) ?G9 hP15 hdt.n hdt.he ?_
          case G9 => exact Gr.sub G F15 (by omega)
          intro h16 tk16 t16 hs16
          have F16 := Fr.keeps F15 hs16
          have N16 := News.keeps N15 hs16
          clear F15 N15 hP15 hs16
          walk_at "mine steps"
          refine' followed_ok (c := 11) ?G9 (by decide) hRt (RD.hp hkt hdt.he) Inv hI0 (FolOk.use hkt hI) ?_
          case G9 => exact Gr.sub G F16 (by omega)
          intro h17 tk17 B17 hs17 hf17 hP17
          rw [hkt] at hP17
          have F17 := Fr.keeps F16 hs17
          have N17 := News.keeps N16 hs17
          clear F16 N16 hs17 hf17 hRt hkt hI hI0 hdt
          refine' sn_off F17 N17 ?sa ?sb ?_
          case sa => rfl
          case sb => rfl
          intro h18 k18 F18 N18 hk18
          replace hP17 := hP17.off F17.ns hk18
          change Fr s.heap L' h18 _ at F18
          change News s.heap L' h18 _ at N18
          clear F17 N17 hk18
          dsimp only
          walk_at "mine steps"
          (rename Fr _ _ _ _ => F19); (rename News _ _ _ _ => N19)
          have hP19 : PairsAt _ D ps := mD (l := [(h12.objs.size, oI)]) N19
          refine' slice_pfrom (s := { heap := _, gens := s.gens, drawn := s.drawn, toks := _, os := s.os }) hP19 ?s0 ?sk ?sz ?_
          case s0 => omega
          case sk => omega
          case sz => omega
          intro a20 h20 hs20 hf20 hP20
          have F20 := Fr.keeps F19 hs20
          have N20 := News.keeps N19 hs20
          rw [Int.toNat_natCast] at hP20
          replace hP17 := hP17.keeps hs20
          have hdt := lf.told i hik
          have hdn := hdt.n
          rw [List.length_append] at hdn
          change PairsAt _ _ (toldOf (ps.take i)) at hP17
          clear F19 N19 hP19 hs20 hf20
          dsimp only
          refine' add_pairs hP17 hP20 ?sz ?_
          case sz => omega
          intro a21 h21 hs21 hf21 hP21
          have F21 := Fr.keeps F20 hs21
          have N21 := News.keeps N20 hs21
          clear F20 N20 hP17 hP20 hs21 hf21
          obtain ⟨kt, hRt, hkt⟩ := hdt.rd
          obtain ⟨Inv, hI0, hI⟩ := hdt.fol
          dsimp only
          walk_at "mine steps"
          refine' written_ok (c := 11) ?G9 hP21 hdt.n hdt.he ?_
          case G9 => exact Gr.sub G F21 (by omega)
          intro h22 tk22 t22 hs22
          have F22 := Fr.keeps F21 hs22
          have N22 := News.keeps N21 hs22
          clear F21 N21 hP21 hs22
          walk_at "mine steps"
          refine' followed_ok (c := 11) ?G9 (by decide) hRt (RD.hp hkt hdt.he) Inv hI0 (FolOk.use hkt hI) ?_
          case G9 => exact Gr.sub G F22 (by omega)
          intro h23 tk23 B23 hs23 hf23 hP23
          rw [hkt] at hP23
          have F23 := Fr.keeps F22 hs23
          have N23 := News.keeps N22 hs23
          have hcut := lf.cut i hik
          rw [toldOf] at hcut
          rw [hcut] at hP23
          clear F22 N22 hs23 hf23 hRt hkt hI hI0 hdt
          walk_at "mine steps"
          refine ne_pairs hP23 (mU (l := [(h12.objs.size, oI)]) N23) lf.okD (by have := hu; simp only [units_deeper] at this ⊢; omega) ?_
          clear hP23
          walk_at "mine steps"
          (rename Fr _ _ _ _ => F24); (rename News _ _ _ _ => N24)
          exact TurnF.next () F24 (all2 rfl all0) N24 trivial
        · rintro h13 tk13 _ m13 _ F13 N13
          dsimp only at F13 N13 ⊢
          change Fr s.heap L' h13 _ at F13
          clear F11 N11 hR9
          walk_at "mine steps"
          exact hR _ _ _ _ F13
end

/-! the plain law: texts as lists of code points -/
abbrev tl (x : Str) : List Nat := x.cps.toList
theorem str_ext {a b : Str} (h : tl a = tl b) : a = b := Str.ext' (Array.ext' h)
theorem tl_app (a b : Str) : tl (a ++ b) = tl a ++ tl b := by simp [tl, Str.cps_append]
theorem tl_len (a : Str) : (tl a).length = a.length := by simp [tl, Str.length]
theorem tl_mk (l : List Nat) : tl ⟨l.toArray⟩ = l := rfl
theorem slice_congr {x : Str} {l u l' u' : Option Int} (h : Builtin.Str.strSliceIndices l u 1 x.length = Builtin.Str.strSliceIndices l' u' 1 x.length) : Txt.slice x l u = Txt.slice x l' u' := by
  unfold Txt.slice; rw [h]
theorem slice_plain {x : Str} {a b : Nat} (h1 : a ≤ b) (h2 : b ≤ x.length) : tl (Txt.slice x (some (a : Int)) (some (b : Int))) = ((tl x).drop a).take (b - a) := by
  have h := slice_closesL (x := x) (i := a) (j := b) (by omega) (by omega) (by omega)
  rw [eq_of_beq h, tl_mk, Int.toNat_natCast, show ((b : Int) - (a : Int)).toNat = b - a by omega]
theorem slice_to1 (x : Str) : tl (Txt.slice x none (some 1)) = (tl x).take 1 := by
  by_cases hx : x.length = 0
  · have : x = ⟨#[]⟩ := str_ext (List.eq_nil_of_length_eq_zero (by rw [tl_len]; exact hx))
    subst this; rfl
  · rw [slice_congr (StrLaws.sliceIdx_none_lo (some 1) x.length)]
    have := slice_plain (x := x) (a := 0) (b := 1) (by omega) (by omega)
    simpa using this
theorem slice_from1 (x : Str) : tl (Txt.slice x (some 1) none) = (tl x).drop 1 := by
  by_cases hx : x.length = 0
  · have : x = ⟨#[]⟩ := str_ext (List.eq_nil_of_length_eq_zero (by rw [tl_len]; exact hx))
    subst this; rfl
  · rw [slice_congr (StrLaws.sliceIdx_none_hi (some 1) x.length)]
    have := slice_plain (x := x) (a := 1) (b := x.length) (by omega) (by omega)
    rw [List.take_of_length_le (by rw [List.length_drop, tl_len]; omega)] at this
    exact this
theorem slice_12 (x : Str) : tl (Txt.slice x (some 1) (some 2)) = ((tl x).drop 1).take 1 := by
  by_cases hx : x.length = 0
  · have : x = ⟨#[]⟩ := str_ext (List.eq_nil_of_length_eq_zero (by rw [tl_len]; exact hx))
    subst this; rfl
  by_cases h1 : x.length = 1
  · obtain ⟨c, hc⟩ : ∃ c, tl x = [c] := List.length_eq_one_iff.mp (by rw [tl_len]; exact h1)
    have : x = ⟨#[c]⟩ := str_ext hc
    subst this; rfl
  · exact slice_plain (x := x) (a := 1) (b := 2) (by omega) (by omega)
theorem slice_last (x : Str) : tl (Txt.slice x (some (-1)) none) = (tl x).drop (x.length - 1) := by
  by_cases hx : x.length = 0
  · have : x = ⟨#[]⟩ := str_ext (List.eq_nil_of_length_eq_zero (by rw [tl_len]; exact hx))
    subst this; rfl
  · rw [slice_congr (StrLaws.sliceIdx_neg_lo none x.length (by omega) (by omega)), slice_congr (StrLaws.sliceIdx_none_hi _ x.length)]
    have := slice_plain (x := x) (a := x.length - 1) (b := x.length) (by omega) (by omega)
    rw [List.take_of_length_le (by rw [List.length_drop, tl_len]; omega)] at this
    rw [← this]
    congr 3
    omega
theorem slice_dlast (x : Str) : tl (Txt.slice x none (some (-1))) = (tl x).dropLast := by
  by_cases hx : x.length = 0
  · have : x = ⟨#[]⟩ := str_ext (List.eq_nil_of_length_eq_zero (by rw [tl_len]; exact hx))
    subst this; rfl
  · rw [slice_congr (StrLaws.sliceIdx_neg_hi none x.length (by omega) (by omega)), slice_congr (StrLaws.sliceIdx_none_lo _ x.length)]
    have := slice_plain (x := x) (a := 0) (b := x.length - 1) (by omega) (by omega)
    rw [List.dropLast_eq_take, tl_len]
    simp only [List.drop_zero, Nat.sub_zero] at this
    rw [← this]
    congr 3
    omega
theorem slice_mid {x : Str} (h : 2 ≤ x.length) : tl (Txt.slice x (some 1) (some (-1))) = ((tl x).drop 1).take (x.length - 2) := by
  rw [slice_congr (StrLaws.sliceIdx_neg_hi (some 1) x.length (by omega) (by omega))]
  have := slice_plain (x := x) (a := 1) (b := x.length - 1) (by omega) (by omega)
  rw [show x.length - 2 = x.length - 1 - 1 by omega, ← this]
  congr 3
  omega
theorem of_slash : Str.ofString "/" = ⟨#[47]⟩ := by decide
theorem tl_slash : tl (Str.ofString "/") = [47] := by rw [of_slash]
theorem sw_slash (p : Str) : Txt.startswith p (Str.ofString "/") = true ↔ (tl p).take 1 = [47] := by
  unfold Txt.startswith
  rw [of_slash, StrLaws.subAt_eq, Bool.and_eq_true, decide_eq_true_eq]
  show 0 + 1 ≤ p.length ∧ (List.take 1 (List.drop 0 p.cps.toList) == [47]) = true ↔ _
  rw [List.drop_zero, beq_iff_eq]
  refine ⟨fun h => h.2, fun h => ⟨?_, h⟩⟩
  have := congrArg List.length h
  rw [List.length_take, tl_len] at this
  simp at this; omega
theorem ew_slash (p : Str) : Txt.endswith p (Str.ofString "/") = true ↔ (tl p).drop (p.length - 1) = [47] := by
  unfold Txt.endswith
  rw [of_slash, StrLaws.subAt_eq, Bool.and_eq_true, decide_eq_true_eq]
  show 0 + 1 ≤ p.length ∧ (List.take 1 (List.drop (p.length - 1) p.cps.toList) == [47]) = true ↔ _
  rw [beq_iff_eq]
  have hl : p.cps.toList.length = p.length := tl_len p
  constructor
  · rintro ⟨h1, h2⟩
    rw [List.take_of_length_le (by rw [List.length_drop, hl]; omega)] at h2
    exact h2
  · intro h
    have := congrArg List.length h
    rw [List.length_drop, tl_len] at this
    simp at this
    refine ⟨by omega, ?_⟩
    rw [List.take_of_length_le (by rw [List.length_drop, hl]; omega)]
    exact h

noncomputable def jn (c : Nat) : List (List Nat) → List Nat
  | [] => []
  | [a] => a
  | a :: b :: r => a ++ c :: jn c (b :: r)
theorem tl_join (c : Nat) : ∀ l : List Str, tl (Str.join ⟨#[c]⟩ l) = jn c (l.map tl)
  | [] => rfl
  | [a] => rfl
  | a :: b :: r => by
    have ih := tl_join c (b :: r)
    show tl (a ++ ⟨#[c]⟩ ++ Str.join ⟨#[c]⟩ (b :: r)) = tl a ++ c :: jn c ((b :: r).map tl)
    rw [tl_app, tl_app, ih]
    simp [tl]
theorem app_inj {c : Nat} : ∀ {a b x y : List Nat}, c ∉ a → c ∉ b → a ++ c :: x = b ++ c :: y → a = b ∧ x = y
  | [], [], _, _, _, _, h => by simpa using h
  | [], d :: b, _, _, _, hb, h => by
    rw [List.nil_append, List.cons_append, List.cons.injEq] at h
    exact absurd (h.1 ▸ .head _) hb
  | d :: a, [], _, _, ha, _, h => by
    rw [List.nil_append, List.cons_append, List.cons.injEq] at h
    exact absurd (h.1 ▸ .head _) ha
  | d :: a, e :: b, _, _, ha, hb, h => by
    rw [List.cons_append, List.cons_append, List.cons.injEq] at h
    obtain ⟨h1, h2⟩ := app_inj (fun q => ha (.tail _ q)) (fun q => hb (.tail _ q)) h.2
    exact ⟨by rw [h.1, h1], h2⟩
theorem jn_inj {c : Nat} : ∀ {l1 l2 : List (List Nat)}, l1 ≠ [] → l2 ≠ [] → (∀ p ∈ l1, c ∉ p) → (∀ p ∈ l2, c ∉ p) → jn c l1 = jn c l2 → l1 = l2
  | [], _, h, _, _, _, _ => absurd rfl h
  | _, [], _, h, _, _, _ => absurd rfl h
  | [a], [b], _, _, _, _, h => by rw [show a = b from h]
  | [a], b :: b2 :: r, _, _, h1, _, h => by
    have h' : a = b ++ c :: jn c (b2 :: r) := h
    exact absurd (by rw [h']; simp) (h1 a (.head _))
  | a :: a2 :: r, [b], _, _, _, h2, h => by
    have h' : a ++ c :: jn c (a2 :: r) = b := h
    exact absurd (by rw [← h']; simp) (h2 b (.head _))
  | a :: a2 :: r, b :: b2 :: r2, _, _, h1, h2, h => by
    obtain ⟨e1, e2⟩ := app_inj (h1 a (.head _)) (h2 b (.head _)) (show a ++ c :: jn c (a2 :: r) = b ++ c :: jn c (b2 :: r2) from h)
    rw [e1, jn_inj (by simp) (by simp) (fun p hp => h1 p (.tail _ hp)) (fun p hp => h2 p (.tail _ hp)) e2]
theorem map_tl_inj : ∀ {a b : List Str}, a.map tl = b.map tl → a = b
  | [], [], _ => rfl
  | [], _ :: _, h => by simp at h
  | _ :: _, [], h => by simp at h
  | x :: a, y :: b, h => by
    rw [List.map_cons, List.map_cons, List.cons.injEq] at h
    rw [str_ext h.1, map_tl_inj h.2]
theorem split_ne (x y : Str) : Txt.split x y ≠ [] := by
  unfold Txt.split
  split
  · simp
  · split
    · simp
    · rw [StrLaws.partsBetween_eq]
      obtain ⟨p, r, e⟩ := StrLaws.partsFrom_ne x y.length 0 (Builtin.Str.occurrences x y 0 x.length (x.length + 1))
      rw [e]; simp
/-- splitting is the one way to cut a text into pieces free of the sign -/
theorem split_uniq {x : Str} {c : Nat} {l : List Str} (h0 : l ≠ []) (hf : ∀ p ∈ l, c ∉ tl p) (e : tl x = jn c (l.map tl)) : Txt.split x ⟨#[c]⟩ = l := by
  refine map_tl_inj (jn_inj (c := c) (by simpa using split_ne x ⟨#[c]⟩) (by simpa using h0) ?_ ?_ ?_)
  · intro p hp
    obtain ⟨q, hq, rfl⟩ := List.mem_map.mp hp
    exact StrLaws.split_free x c q hq
  · intro p hp
    obtain ⟨q, hq, rfl⟩ := List.mem_map.mp hp
    exact hf q hq
  · rw [← tl_join, StrLaws.join_split, e]
theorem jn_split (x : Str) (c : Nat) : jn c ((Txt.split x ⟨#[c]⟩).map tl) = tl x := by rw [← tl_join, StrLaws.join_split]
theorem jn_app {c : Nat} : ∀ {a b : List (List Nat)}, a ≠ [] → b ≠ [] → jn c (a ++ b) = jn c a ++ c :: jn c b
  | [], _, h, _ => absurd rfl h
  | _, [], _, h => absurd rfl h
  | [a], b :: r, _, _ => rfl
  | a :: a2 :: r, b :: r2, _, _ => by
    have ih := jn_app (c := c) (a := a2 :: r) (b := b :: r2) (by simp) (by simp)
    show a ++ c :: jn c (a2 :: r ++ b :: r2) = (a ++ c :: jn c (a2 :: r)) ++ c :: jn c (b :: r2)
    rw [ih]; simp
/-- a name as a straightened path holds it -/
def NameOk (x : Str) : Prop := x.length ≠ 0 ∧ x ≠ Str.ofString "." ∧ x ≠ Str.ofString ".." ∧ 47 ∉ tl x
def Root (ns : List Str) : Str := Str.ofString "/" ++ Txt.join (Str.ofString "/") ns
theorem tl_root (ns : List Str) : tl (Root ns) = 47 :: jn 47 (ns.map tl) := by
  rw [Root, tl_app, tl_slash, show Txt.join (Str.ofString "/") ns = Str.join (Str.ofString "/") ns from StrLaws.glued_eq_join _ _, of_slash, tl_join]; rfl
theorem empty_iff {x : Str} : x = Str.ofString "" ↔ x.length = 0 := by
  constructor
  · rintro rfl; rfl
  · intro h; exact str_ext (by rw [List.eq_nil_of_length_eq_zero (by rw [tl_len]; exact h : (tl x).length = 0)]; rfl)
theorem walkName_eq {acc : List Str} {b : Str} (h : acc.getLast? ≠ some (Str.ofString "..")) : normStep acc b = walkName acc b := by
  unfold normStep walkName
  by_cases h1 : b = Str.ofString ".."
  · subst h1
    rw [if_neg (by decide), if_pos rfl, if_neg (by simpa using h)]
  · rw [if_neg h1]
    by_cases h2 : b.length = 0 ∨ b = Str.ofString "."
    · rw [if_pos h2, if_pos (h2.imp empty_iff.mpr id)]
    · rw [if_neg h2, if_pos (.inl h1), if_neg (fun q => h2 (q.imp empty_iff.mp id))]
def PlainN (acc : List Str) : Prop := ∀ x ∈ acc, x ≠ Str.ofString ".."
theorem walkName_plain {acc : List Str} {b : Str} (h : PlainN acc) : PlainN (walkName acc b) := by
  unfold walkName
  split
  · exact fun x hx => h x ((List.dropLast_sublist acc).subset hx)
  · rename_i hb
    split
    · exact h
    · intro x hx
      rcases List.mem_append.mp hx with hx | hx
      · exact h x hx
      · rw [List.mem_singleton.mp hx]; exact hb
theorem fold_eq : ∀ (l acc : List Str), PlainN acc → l.foldl normStep acc = l.foldl walkName acc
  | [], _, _ => rfl
  | b :: l, acc, h => by
    rw [List.foldl_cons, List.foldl_cons, walkName_eq (fun e => h _ (List.mem_of_getLast? e) rfl)]
    exact fold_eq l _ (walkName_plain h)
theorem fold_good : ∀ (l acc : List Str), (∀ x ∈ l, NameOk x) → l.foldl walkName acc = acc ++ l
  | [], acc, _ => by simp
  | b :: l, acc, h => by
    obtain ⟨h1, h2, h3, _⟩ := h b (.head _)
    rw [List.foldl_cons, walkName, if_neg h3, if_neg (fun q => q.elim (fun e => h1 (empty_iff.mp e)) h2), fold_good l _ fun x hx => h x (.tail _ hx)]
    simp
theorem walkName_good {acc : List Str} {b : Str} (h : ∀ x ∈ acc, NameOk x) (hb : 47 ∉ tl b) : ∀ x ∈ walkName acc b, NameOk x := by
  unfold walkName
  split
  · exact fun x hx => h x ((List.dropLast_sublist acc).subset hx)
  · rename_i h2
    split
    · exact h
    · rename_i h3
      intro x hx
      rcases List.mem_append.mp hx with hx | hx
      · exact h x hx
      · rw [List.mem_singleton.mp hx]
        exact ⟨fun e => h3 (.inl (empty_iff.mpr e)), fun e => h3 (.inr e), h2, hb⟩
theorem fold_names : ∀ (l acc : List Str), (∀ x ∈ acc, NameOk x) → (∀ x ∈ l, 47 ∉ tl x) → ∀ x ∈ l.foldl walkName acc, NameOk x
  | [], _, h, _ => h
  | _ :: l, _, h, hl => fold_names l _ (walkName_good h (hl _ (.head _))) fun x hx => hl x (.tail _ hx)
theorem walkPart_good {ns : List Str} {p : Str} (h : ∀ x ∈ ns, NameOk x) : ∀ x ∈ walkPart ns p, NameOk x := by
  unfold walkPart
  refine fold_names _ _ ?_ fun x hx => ?_
  · split
    · exact all0
    · exact h
  · rw [of_slash] at hx; exact StrLaws.split_free p 47 x hx
theorem jn_last {l : List (List Nat)} : l ≠ [] → (∀ p ∈ l, p ≠ [] ∧ 47 ∉ p) → ∃ c, (jn 47 l).getLast? = some c ∧ c ≠ 47 := by
  induction l with
  | nil => intro h; exact absurd rfl h
  | cons a r ih =>
    intro _ h
    cases r with
    | nil =>
      obtain ⟨h1, h2⟩ := h a (.head _)
      refine ⟨a.getLast h1, List.getLast?_eq_some_getLast h1, fun e => h2 (e ▸ List.getLast_mem h1)⟩
    | cons b r =>
      obtain ⟨c, hc, hn⟩ := ih (by simp) fun p hp => h p (.tail _ hp)
      refine ⟨c, ?_, hn⟩
      show (a ++ 47 :: jn 47 (b :: r)).getLast? = some c
      rw [List.getLast?_append, List.getLast?_cons, hc]; rfl
theorem root_end {ns : List Str} (h0 : ns ≠ []) (h : ∀ x ∈ ns, NameOk x) : Txt.endswith (Root ns) (Str.ofString "/") = false := by
  rw [Bool.eq_false_iff]
  intro e
  rw [ew_slash] at e
  obtain ⟨c, hc, hn⟩ := jn_last (l := ns.map tl) (by simpa using h0) (fun p hp => by
    obtain ⟨q, hq, rfl⟩ := List.mem_map.mp hp
    obtain ⟨h1, _, _, h4⟩ := h q hq
    exact ⟨fun e => h1 (by rw [← tl_len, e]; rfl), h4⟩)
  have e2 : (tl (Root ns)).getLast? = some 47 := by
    rw [← List.take_append_drop ((Root ns).length - 1) (tl (Root ns)), e]; simp
  rw [tl_root, List.getLast?_cons, hc] at e2
  exact hn (by simpa using e2)
theorem root_len (ns : List Str) : (Root ns).length ≠ 0 := by rw [← tl_len, tl_root]; simp
theorem slash_beq {x : Str} : (x == Str.ofString "/") = true ↔ tl x = [47] := by
  rw [beq_iff_eq]
  exact ⟨fun e => by rw [e, tl_slash], fun e => str_ext (by rw [e, tl_slash])⟩
theorem walkName_nil (acc : List Str) : walkName acc (Str.ofString "") = acc := by
  unfold walkName; rw [if_neg (by decide), if_pos (.inl rfl)]
theorem fol_split {ns : List Str} {p : Str} (h : ∀ x ∈ ns, NameOk x) : (Txt.split (Txt.slice (joinStep (Root ns) p) (some 1) none) (Str.ofString "/")).foldl normStep [] = walkPart ns p := by
  by_cases hs : (tl p).take 1 = [47]
  · have e1 : joinStep (Root ns) p = p := by unfold joinStep; rw [if_pos (.inl ((sw_slash p).mpr hs))]
    have e2 : (Txt.slice p none (some 1) == Str.ofString "/") = true := slash_beq.mpr (by rw [slice_to1, hs])
    rw [e1, walkPart, if_pos e2]
    have e3 : Txt.split p (Str.ofString "/") = Str.ofString "" :: Txt.split (Txt.slice p (some 1) none) (Str.ofString "/") := by
      rw [of_slash]
      refine split_uniq (by simp) (all2 (by simp [tl, show Str.ofString "" = ⟨#[]⟩ from rfl]) fun x hx => StrLaws.split_free _ 47 x hx) ?_
      have q := jn_split (Txt.slice p (some 1) none) 47
      rw [slice_from1] at q
      cases hq : Txt.split (Txt.slice p (some 1) none) ⟨#[47]⟩ with
      | nil => exact absurd hq (split_ne _ _)
      | cons a r =>
        rw [hq] at q
        show tl p = tl (Str.ofString "") ++ 47 :: jn 47 ((a :: r).map tl)
        rw [q, show tl (Str.ofString "") = [] from rfl, List.nil_append]
        conv => lhs; rw [← List.take_append_drop 1 (tl p), hs]
        rfl
    rw [e3, List.foldl_cons, walkName_nil, fold_eq _ _ all0]
  · have hs' : Txt.startswith p (Str.ofString "/") = false := by rw [Bool.eq_false_iff]; exact fun e => hs ((sw_slash p).mp e)
    have e2 : (Txt.slice p none (some 1) == Str.ofString "/") = false := by rw [Bool.eq_false_iff]; exact fun e => hs (by rw [← slice_to1]; exact slash_beq.mp e)
    rw [walkPart, if_neg (by rw [e2]; decide)]
    by_cases hn : ns = []
    · subst hn
      have e1 : joinStep (Root []) p = Root [] ++ p := by
        unfold joinStep
        rw [if_neg (by rw [hs']; simp [root_len]), if_pos (by decide)]
      have e4 : Txt.slice (Root [] ++ p) (some 1) none = p := str_ext (by rw [slice_from1, tl_app, tl_root]; rfl)
      rw [e1, e4, fold_eq _ _ all0]
    · have e1 : joinStep (Root ns) p = Root ns ++ (Str.ofString "/" ++ p) := by
        unfold joinStep
        rw [if_neg (by rw [hs']; simp [root_len]), if_neg (by rw [root_end hn h]; decide)]
      have e4 : Txt.split (Txt.slice (Root ns ++ (Str.ofString "/" ++ p)) (some 1) none) (Str.ofString "/") = ns ++ Txt.split p (Str.ofString "/") := by
        rw [of_slash]
        refine split_uniq (by simp [hn]) (fun x hx => ?_) ?_
        · rcases List.mem_append.mp hx with hx | hx
          · exact (h x hx).2.2.2
          · exact StrLaws.split_free _ 47 x hx
        · rw [slice_from1, tl_app, tl_app, tl_root, List.map_append, jn_app (by simpa using hn) (by simpa using split_ne p ⟨#[47]⟩), jn_split]
          rfl
      rw [e1, e4, fold_eq _ _ all0, List.foldl_append, fold_good _ _ h, List.nil_append]
theorem folF_root {ns : List Str} {p : Str} (h : ∀ x ∈ ns, NameOk x) : folF (Root ns) p = Root (walkPart ns p) := by
  rw [folF, normOf, fol_split h]; rfl
def OneSlash (p : Str) : Prop := (tl p).take 1 = [47] → ((tl p).drop 1).take 1 ≠ [47]
theorem normPre_root {ns : List Str} {p : Str} (h : ∀ x ∈ ns, NameOk x) (hp : OneSlash p) : NormPre (joinStep (Root ns) p) := by
  have key : ∀ y : Str, (tl y).take 1 = [47] → ((tl y).drop 1).take 1 ≠ [47] → NormPre y := by
    intro y h1 h2
    refine ⟨fun e => ?_, ?_, ?_⟩
    · rw [List.eq_nil_of_length_eq_zero (by rw [tl_len]; exact e : (tl y).length = 0)] at h1; simp at h1
    · have : (Txt.slice y none (some 1) == Str.ofString "/") = true := slash_beq.mpr (by rw [slice_to1, h1])
      rw [bne, this]; rfl
    · rw [bne]
      have : (Txt.slice y (some 1) (some 2) == Str.ofString "/") = false := by rw [Bool.eq_false_iff]; exact fun e => h2 (by rw [← slice_12]; exact slash_beq.mp e)
      rw [this]; rfl
  by_cases hs : (tl p).take 1 = [47]
  · have e1 : joinStep (Root ns) p = p := by unfold joinStep; rw [if_pos (.inl ((sw_slash p).mpr hs))]
    rw [e1]; exact key p hs (hp hs)
  · have hs' : Txt.startswith p (Str.ofString "/") = false := by rw [Bool.eq_false_iff]; exact fun e => hs ((sw_slash p).mp e)
    by_cases hn : ns = []
    · subst hn
      have e1 : joinStep (Root []) p = Root [] ++ p := by
        unfold joinStep
        rw [if_neg (by rw [hs']; simp [root_len]), if_pos (by decide)]
      rw [e1]
      exact key _ (by rw [tl_app, tl_root]; rfl) (by rw [tl_app, tl_root]; exact hs)
    · have e1 : joinStep (Root ns) p = Root ns ++ (Str.ofString "/" ++ p) := by
        unfold joinStep
        rw [if_neg (by rw [hs']; simp [root_len]), if_neg (by rw [root_end hn h]; decide)]
      rw [e1]
      refine key _ (by rw [tl_app, tl_root]; rfl) ?_
      rw [tl_app, tl_root]
      cases ns with
      | nil => exact absurd rfl hn
      | cons a r =>
        obtain ⟨h1, _, _, h4⟩ := h a (.head _)
        have ha : tl a ≠ [] := fun e => h1 (by rw [← tl_len, e]; rfl)
        have hj : ∃ d t, jn 47 ((a :: r).map tl) = d :: t ∧ d ≠ 47 := by
          cases hq : tl a with
          | nil => exact absurd hq ha
          | cons d t =>
            have hd : d ≠ 47 := fun e => h4 (by rw [hq, e]; exact .head _)
            cases r with
            | nil => exact ⟨d, t, by simp [jn, hq], hd⟩
            | cons b r => exact ⟨d, t ++ 47 :: jn 47 (tl b :: r.map tl), by simp only [List.map_cons, jn, hq, List.cons_append], hd⟩
        obtain ⟨d, t, e, hd⟩ := hj
        rw [e]
        simpa using hd

theorem firsts_snoc (ps : List (Str × Str)) (q : Str × Str) : firstsOf (ps ++ [q]) = if (firstsOf ps).any (· == q.1) = true then firstsOf ps else firstsOf ps ++ [q.1] := by
  rw [firstsOf, List.foldl_append]; rfl
theorem grp_snoc (ps : List (Str × Str)) (q : Str × Str) (one : Str) : grp (ps ++ [q]) one = grp ps one ++ (if (q.1 == one) = true then [q.2] else []) := by
  rw [grp, grp, List.filter_append, List.map_append]
  congr 1
  by_cases hq : (q.1 == one) = true <;> simp [hq]
theorem any_mem {l : List Str} {k : Str} : l.any (· == k) = true ↔ k ∈ l := by simp
theorem snoc_ind {α : Type} {P : List α → Prop} (h0 : P []) (h1 : ∀ l a, P l → P (l ++ [a])) : ∀ l, P l := fun l => by
  have : ∀ r : List α, P r.reverse := by
    intro r
    induction r with
    | nil => exact h0
    | cons a r ih => rw [List.reverse_cons]; exact h1 _ _ ih
  have := this l.reverse
  rwa [List.reverse_reverse] at this
theorem firsts_all : ∀ ps : List (Str × Str), ∀ q ∈ ps, q.1 ∈ firstsOf ps := by
  refine snoc_ind (fun q hq => nomatch hq) fun ps a ih q hq => ?_
  rw [firsts_snoc]
  by_cases h : (firstsOf ps).any (· == a.1) = true
  · rw [if_pos h]
    rcases List.mem_append.mp hq with hq | hq
    · exact ih q hq
    · rw [List.mem_singleton.mp hq]; exact any_mem.mp h
  · rw [if_neg h]
    rcases List.mem_append.mp hq with hq | hq
    · exact List.mem_append_left _ (ih q hq)
    · rw [List.mem_singleton.mp hq]; exact List.mem_append_right _ (.head _)
theorem grp_nil {ps : List (Str × Str)} {k : Str} (h : k ∉ firstsOf ps) : grp ps k = [] := by
  rw [grp, List.filter_eq_nil_iff.mpr fun q hq e => h (by rw [← eq_of_beq e]; exact firsts_all ps q hq)]; rfl
theorem getP_map {G : Str → Str} {k : Str} : ∀ l : List Str, getP (l.map fun one => (one, G one)) k = if k ∈ l then some (G k) else none
  | [] => rfl
  | a :: l => by
    have ih := getP_map (G := G) (k := k) l
    unfold getP at ih ⊢
    rw [List.map_cons, List.find?_cons]
    by_cases h : a = k
    · subst h; simp
    · simp only [h, decide_false]
      rw [ih]
      have : (k ∈ a :: l) = (k ∈ l) := by simp [Ne.symm h]
      simp only [this]
theorem putP_map {G : Str → Str} {k v : Str} {l : List Str} : putP (l.map fun one => (one, G one)) k v = (if l.any (· == k) = true then l else l ++ [k]).map fun one => (one, if (k == one) = true then v else G one) := by
  unfold putP
  have e : (l.map fun one => (one, G one)).any (fun p => decide (p.1 = k)) = l.any (· == k) := by
    rw [List.any_map]; congr 1
  rw [e]
  by_cases h : l.any (· == k) = true
  · rw [if_pos h, if_pos h, List.map_map]
    apply List.map_congr_left
    intro a _
    simp only [Function.comp]
    by_cases hk : a = k
    · subst hk; simp
    · rw [if_neg hk, if_neg (by simpa using Ne.symm hk)]
  · rw [if_neg h, if_neg h, List.map_append]
    congr 1
    · apply List.map_congr_left
      intro a ha
      rw [if_neg]
      intro e2
      exact h (any_mem.mpr (eq_of_beq e2 ▸ ha))
    · simp
theorem foldF_eq (f : Str → Str → Str) (d : Str) : ∀ ps : List (Str × Str), foldF f d ps = (firstsOf ps).map fun one => (one, (grp ps one).foldl f d) := by
  refine snoc_ind rfl fun ps q ih => ?_
  have e1 : foldF f d (ps ++ [q]) = stepF f d (foldF f d ps) q := by rw [foldF, List.foldl_append]; rfl
  rw [e1, ih, stepF, getP_map, putP_map, firsts_snoc]
  have e2 : ((if q.1 ∈ firstsOf ps then some ((grp ps q.1).foldl f d) else none).getD d) = (grp ps q.1).foldl f d := by
    by_cases h : q.1 ∈ firstsOf ps
    · rw [if_pos h]; rfl
    · rw [if_neg h, grp_nil h]; rfl
  rw [e2]
  apply List.map_congr_left
  intro one _
  rw [grp_snoc]
  by_cases h : (q.1 == one) = true
  · rw [if_pos h, if_pos h, List.foldl_append, eq_of_beq h]; rfl
  · rw [if_neg h, if_neg h, List.append_nil]
theorem dictP_eq (ps : List (Str × Str)) : dictP ps = lastsOf ps := by
  have e : dictP ps = foldF (fun _ p => p) (Str.ofString "") ps := rfl
  rw [e, foldF_eq, lastsOf]
  apply List.map_congr_left
  intro one _
  have : ∀ (l : List Str) (a : Str), l.foldl (fun _ p => p) a = l.getLast?.getD a := by
    intro l
    induction l with
    | nil => intro a; rfl
    | cons b r ih => intro a; rw [List.foldl_cons, ih, List.getLast?_cons]; rfl
  rw [this]
/-- the walk over the pairs of one key -/
theorem walkOf_eq : ∀ (ps : List (Str × Str)) (one : Str), walkOf ps one = (grp ps one).foldl walkPart [] := by
  refine snoc_ind (fun _ => rfl) fun ps q ih one => ?_
  rw [walkOf, List.foldl_append, grp_snoc, List.foldl_append, ← ih, List.foldl_cons, List.foldl_nil]
  by_cases h : (q.1 == one) = true
  · rw [if_pos h, if_pos h]; rfl
  · rw [if_neg h, if_neg h]; rfl
theorem fol_fold : ∀ (l : List Str) (ns : List Str), (∀ x ∈ ns, NameOk x) → l.foldl folF (Root ns) = Root (l.foldl walkPart ns)
  | [], _, _ => rfl
  | p :: l, ns, h => by rw [List.foldl_cons, List.foldl_cons, folF_root h, fol_fold l _ (walkPart_good h)]
theorem root_nil : Str.ofString "/" = Root [] := by decide
theorem told_eq (ps : List (Str × Str)) : toldOf ps = dueOf ps := by
  rw [toldOf, foldF_eq, dueOf]
  apply List.map_congr_left
  intro one _
  rw [root_nil, fol_fold _ _ all0, ← walkOf_eq]; rfl

theorem firsts_nodup : ∀ ps : List (Str × Str), (firstsOf ps).Nodup := by
  refine snoc_ind List.nodup_nil fun ps q ih => ?_
  rw [firsts_snoc]
  by_cases h : (firstsOf ps).any (· == q.1) = true
  · rw [if_pos h]; exact ih
  · rw [if_neg h]
    refine List.nodup_append.mpr ⟨ih, by simp, fun a ha b hb e => ?_⟩
    rw [List.mem_singleton.mp hb] at e
    exact h (any_mem.mpr (e ▸ ha))
theorem foldF_keys (f : Str → Str → Str) (d : Str) (G : Str → Str) : ∀ l : List Str, l.Nodup → foldF f d (l.map fun one => (one, G one)) = l.map fun one => (one, f d (G one)) := by
  refine snoc_ind (fun _ => rfl) fun l a ih hn => ?_
  obtain ⟨h1, _, h3⟩ := List.nodup_append.mp hn
  have ha : a ∉ l := fun h => h3 a h a (.head _) rfl
  have e1 : foldF f d ((l ++ [a]).map fun one => (one, G one)) = stepF f d (foldF f d (l.map fun one => (one, G one))) (a, G a) := by
    rw [List.map_append, foldF, List.foldl_append]; rfl
  rw [e1, ih h1, stepF, getP_map, putP_map]
  dsimp only
  rw [if_neg ha, if_neg (fun h => ha (any_mem.mp h))]
  apply List.map_congr_left
  intro one ho
  by_cases h : (a == one) = true
  · rw [if_pos h, eq_of_beq h]; rfl
  · rw [if_neg h]
theorem walk_root {ns : List Str} (h : ∀ x ∈ ns, NameOk x) : walkPart [] (Root ns) = ns := by
  have e2 : (Txt.slice (Root ns) none (some 1) == Str.ofString "/") = true := slash_beq.mpr (by rw [slice_to1, tl_root]; rfl)
  rw [walkPart, if_pos e2]
  have e3 : ∃ l, Txt.split (Root ns) (Str.ofString "/") = Str.ofString "" :: l ∧ l.foldl walkName [] = ns := by
    rw [of_slash]
    by_cases hn : ns = []
    · subst hn
      exact ⟨[Str.ofString ""], split_uniq (by simp) (all2 (by decide) (all2 (by decide) all0)) (by rw [tl_root]; rfl), by rw [List.foldl_cons, walkName_nil]; rfl⟩
    · refine ⟨ns, split_uniq (by simp) (all2 (by decide) fun x hx => (h x hx).2.2.2) ?_, by rw [fold_good _ _ h, List.nil_append]⟩
      rw [tl_root]
      cases ns with
      | nil => exact absurd rfl hn
      | cons a r => rfl
  obtain ⟨l, e3, e4⟩ := e3
  rw [e3, List.foldl_cons, walkName_nil, e4]
theorem told_told (ps : List (Str × Str)) : toldOf (toldOf ps) = toldOf ps := by
  rw [told_eq ps, toldOf, dueOf, foldF_keys _ _ _ _ (firsts_nodup ps)]
  apply List.map_congr_left
  intro one _
  have hg : ∀ (l : List Str) (ns : List Str), (∀ x ∈ ns, NameOk x) → ∀ x ∈ l.foldl walkPart ns, NameOk x := by
    intro l
    induction l with
    | nil => intro ns h; exact h
    | cons p l ih => intro ns h; exact ih _ (walkPart_good h)
  have hw : ∀ x ∈ walkOf ps one, NameOk x := by rw [walkOf_eq]; exact hg _ _ all0
  show (one, folF (Str.ofString "/") (Root (walkOf ps one))) = (one, Root (walkOf ps one))
  rw [root_nil, folF_root all0, walk_root hw]
theorem cut_law (ps : List (Str × Str)) (k : Nat) : toldOf (toldOf (ps.take k) ++ ps.drop k) = dueOf ps := by
  have e : toldOf (toldOf (ps.take k) ++ ps.drop k) = (ps.drop k).foldl (stepF folF (Str.ofString "/")) (toldOf (toldOf (ps.take k))) := by rw [toldOf, foldF, List.foldl_append]; rfl
  rw [e, told_told, ← told_eq]
  conv => rhs; rw [← List.take_append_drop k ps]
  rw [toldOf, toldOf, foldF, foldF, List.foldl_append]
/-! the spelled parts -/
def pstep (acc : List Str) (p : Str) : List Str := if (Txt.slice p none (some 1) == Str.ofString "/") = true then [p] else acc ++ [p]
theorem partsOf_eq : ∀ (ps : List (Str × Str)) (one : Str), partsOf ps one = (grp ps one).foldl pstep [] := by
  refine snoc_ind (fun _ => rfl) fun ps q ih one => ?_
  rw [partsOf, List.foldl_append, grp_snoc, List.foldl_append, ← ih, List.foldl_cons, List.foldl_nil]
  show partStep one (partsOf ps one) q = _
  unfold partStep
  by_cases h : (q.1 == one) = true
  · rw [if_pos h, if_pos h]; rfl
  · rw [if_neg h, if_neg h]; rfl
def spellL (l : List Str) : Str :=
  if [Str.ofString "", Str.ofString "/"].any (· == Txt.slice (l.getLast?.getD (Str.ofString "")) (some (-1)) none) = true then textOf l else Txt.slice (textOf l) none (some (-1))
theorem tl_empty : tl (Str.ofString "") = [] := rfl
theorem tl_join0 : ∀ l : List Str, tl (Txt.join (Str.ofString "") l) = (l.map tl).flatten := by
  intro l
  rw [show Txt.join (Str.ofString "") l = Str.join (Str.ofString "") l from StrLaws.glued_eq_join _ _]
  induction l with
  | nil => rfl
  | cons a r ih =>
    cases r with
    | nil => simp [Str.join]
    | cons b r =>
      show tl (a ++ Str.ofString "" ++ Str.join (Str.ofString "") (b :: r)) = _
      rw [tl_app, tl_app, ih, tl_empty, List.append_nil]; rfl
theorem text_snoc (l : List Str) (p : Str) : tl (textOf (l ++ [p])) = tl (textOf l) ++ (if (p != Str.ofString "") = true then tl (slashed p) else []) := by
  rw [textOf, textOf, tl_join0, tl_join0, List.filter_append, List.map_append, List.map_append, List.flatten_append]
  congr 1
  by_cases h : (p != Str.ofString "") = true <;> simp [h]
theorem last_slice {p : Str} : (Txt.slice p (some (-1)) none == Str.ofString "/") = true ↔ (tl p).getLast? = some 47 := by
  rw [slash_beq, slice_last, ← tl_len]
  constructor
  · intro h
    rw [← List.take_append_drop ((tl p).length - 1) (tl p), h]; simp
  · intro h
    have hne : tl p ≠ [] := by rintro e; rw [e] at h; cases h
    rw [List.getLast?_eq_some_getLast hne, Option.some.injEq] at h
    rw [← List.dropLast_concat_getLast hne]
    simp [h]
theorem tl_slashed (p : Str) : tl (slashed p) = if (tl p).getLast? = some 47 then tl p else tl p ++ [47] := by
  unfold slashed
  by_cases h : (tl p).getLast? = some 47
  · rw [if_pos h, if_pos (last_slice.mpr h)]
  · rw [if_neg h, if_neg (fun e => h (last_slice.mp e)), tl_app, tl_slash]
theorem ne_iff {p : Str} : (p != Str.ofString "") = true ↔ tl p ≠ [] := by
  rw [bne_iff_ne]
  exact ⟨fun h e => h (str_ext (by rw [e, tl_empty])), fun h e => h (by rw [e, tl_empty])⟩
theorem text_end : ∀ l : List Str, tl (textOf l) = [] ∨ (tl (textOf l)).getLast? = some 47 := by
  refine snoc_ind (.inl rfl) fun l p ih => ?_
  rw [text_snoc]
  by_cases h : (p != Str.ofString "") = true
  · rw [if_pos h, tl_slashed]
    right
    by_cases h2 : (tl p).getLast? = some 47
    · rw [if_pos h2, List.getLast?_append, h2]; rfl
    · rw [if_neg h2, ← List.append_assoc]; simp
  · rw [if_neg h, List.append_nil]; exact ih
theorem spell_snoc (l : List Str) (p : Str) : tl (spellL (l ++ [p])) = tl (textOf l) ++ tl p := by
  have hl : (l ++ [p]).getLast?.getD (Str.ofString "") = p := by simp
  unfold spellL
  rw [hl]
  by_cases h0 : tl p = []
  · have e : p = Str.ofString "" := str_ext (by rw [h0, tl_empty])
    rw [if_pos (by rw [e]; decide), text_snoc, if_neg (by rw [e]; decide), h0]
  · have hne : (p != Str.ofString "") = true := ne_iff.mpr h0
    by_cases h2 : (tl p).getLast? = some 47
    · have e : Txt.slice p (some (-1)) none = Str.ofString "/" := eq_of_beq (last_slice.mpr h2)
      rw [if_pos (by rw [e]; decide), text_snoc, if_pos hne, tl_slashed, if_pos h2]
    · rw [if_neg, slice_dlast, text_snoc, if_pos hne, tl_slashed, if_neg h2, ← List.append_assoc, List.dropLast_concat]
      intro e
      rw [any_mem] at e
      rcases List.mem_cons.mp e with e | e
      · have q : tl (Txt.slice p (some (-1)) none) = [] := by rw [e, tl_empty]
        rw [slice_last, ← tl_len] at q
        have q2 : (tl p).length - ((tl p).length - 1) = 0 := by
          have := congrArg List.length q
          rwa [List.length_drop] at this
        have hp : (tl p).length ≠ 0 := fun e => h0 (List.eq_nil_of_length_eq_zero e)
        omega
      · exact h2 (last_slice.mp (beq_iff_eq.mpr (List.mem_singleton.mp e)))
theorem ew_last {p : Str} : Txt.endswith p (Str.ofString "/") = true ↔ (tl p).getLast? = some 47 := by
  rw [ew_slash, ← tl_len, ← last_slice, slash_beq, slice_last, ← tl_len]
theorem join_T {T p : Str} (hT : tl T = [] ∨ (tl T).getLast? = some 47) (hp : ¬ (tl p).take 1 = [47]) : tl (joinStep T p) = tl T ++ tl p := by
  have hs' : Txt.startswith p (Str.ofString "/") = false := by rw [Bool.eq_false_iff]; exact fun e => hp ((sw_slash p).mp e)
  unfold joinStep
  by_cases h0 : T.length = 0
  · rw [if_pos (.inr h0), List.eq_nil_of_length_eq_zero (by rw [tl_len]; exact h0 : (tl T).length = 0)]; rfl
  · rw [if_neg (by rw [hs']; simp [h0])]
    rcases hT with hT | hT
    · exact absurd (by rw [← tl_len, hT]; rfl) h0
    · rw [if_pos (ew_last.mpr hT), tl_app]
theorem join_E (l : List Str) (p : Str) : tl (joinStep (spellL (l ++ [p])) (Str.ofString "")) = tl (textOf (l ++ [p])) := by
  have hs := spell_snoc l p
  rw [text_snoc]
  by_cases h0 : tl p = []
  · have hne : ¬ (p != Str.ofString "") = true := fun e => ne_iff.mp e h0
    rw [if_neg hne, join_T (by rw [hs, h0, List.append_nil]; exact text_end l) (by decide), hs, h0, tl_empty]; simp
  · have hne : (p != Str.ofString "") = true := ne_iff.mpr h0
    rw [if_pos hne, tl_slashed]
    by_cases h2 : (tl p).getLast? = some 47
    · rw [if_pos h2, join_T (.inr (by rw [hs, List.getLast?_append, h2]; rfl)) (by decide), hs, tl_empty, List.append_nil]
    · rw [if_neg h2]
      have hn : (spellL (l ++ [p])).length ≠ 0 := by
        intro e
        have q : tl (spellL (l ++ [p])) = [] := List.eq_nil_of_length_eq_zero (by rw [tl_len]; exact e)
        rw [hs] at q
        exact h0 (List.append_eq_nil_iff.mp q).2
      have he : Txt.endswith (spellL (l ++ [p])) (Str.ofString "/") = false := by
        rw [Bool.eq_false_iff]
        intro e
        rw [ew_last, hs, List.getLast?_append] at e
        cases hq : (tl p).getLast? with
        | none => exact h0 (List.getLast?_eq_none_iff.mp hq)
        | some c => rw [hq] at e h2; exact h2 e
      unfold joinStep
      rw [if_neg (by rw [show Txt.startswith (Str.ofString "") (Str.ofString "/") = false by decide]; simp [hn]), if_neg (by rw [he]; decide), tl_app, tl_app, hs, tl_slash, tl_empty, List.append_nil, List.append_assoc]
theorem hung_eq : ∀ g : List Str, g.foldl hungF (Str.ofString "") = spellL (g.foldl pstep []) := by
  refine snoc_ind (by decide) fun g p ih => ?_
  rw [List.foldl_append, List.foldl_append, List.foldl_cons, List.foldl_nil, List.foldl_cons, List.foldl_nil, ih]
  have hT : ∀ l : List Str, tl (joinStep (spellL l) (Str.ofString "")) = tl (textOf l) := by
    refine snoc_ind (by decide) fun l q _ => join_E l q
  have e : joinStep (spellL (g.foldl pstep [])) (Str.ofString "") = textOf (g.foldl pstep []) := str_ext (hT _)
  rw [hungF, e]
  refine str_ext ?_
  unfold pstep
  by_cases hs : (tl p).take 1 = [47]
  · rw [if_pos (slash_beq.mpr (by rw [slice_to1, hs]))]
    have q := spell_snoc [] p
    rw [List.nil_append] at q
    rw [q, show tl (textOf []) = [] by decide, List.nil_append]
    unfold joinStep
    rw [if_pos (.inl ((sw_slash p).mpr hs))]
  · rw [if_neg (fun e => hs (by rw [← slice_to1]; exact slash_beq.mp e)), spell_snoc, join_T (text_end _) hs]
theorem hung_law (ps : List (Str × Str)) : foldF hungF (Str.ofString "") ps = hungOf ps := by
  rw [foldF_eq, hungOf]
  apply List.map_congr_left
  intro one _
  rw [hung_eq, ← partsOf_eq]; rfl

def PF (p : Str) (n : Nat) : Prop := ∃ (r : Bool) (names : List Str), names.length ≤ n ∧ (∀ x ∈ names, x ∈ menuN) ∧ p = Str.ofString (if r then "/" else "") ++ Txt.join (Str.ofString "/") names
def Low (x : Str) : Prop := ∀ c ∈ tl x, c < 128
theorem menu_no : ∀ x ∈ menuN, 47 ∉ tl x := by decide
theorem menu_ne : ∀ x ∈ menuN, tl x ≠ [] := by decide
theorem menu_low : ∀ x ∈ menuN, ∀ c ∈ tl x, c < 128 := by decide
theorem menu_last : ∀ x ∈ menuN, ∀ c, (tl x).getLast? = some c → Unicode.isSpace c = false := by
  have h : ∀ x ∈ menuN, ((tl x).getLast?.map Unicode.isSpace).getD false = false := by decide +kernel
  intro x hx c hc
  have := h x hx
  rw [hc] at this; exact this
theorem menuK_ok : ∀ k ∈ menuK, k.length ≤ 10 ∧ ∀ c ∈ tl k, c < 128 := by decide
theorem tl_pf (r : Bool) (names : List Str) : tl (Str.ofString (if r then "/" else "") ++ Txt.join (Str.ofString "/") names) = (if r then [47] else []) ++ jn 47 (names.map tl) := by
  rw [tl_app, show Txt.join (Str.ofString "/") names = Str.join (Str.ofString "/") names from StrLaws.glued_eq_join _ _, of_slash, tl_join]
  cases r <;> rfl
theorem jn_mem {c d : Nat} : ∀ {l : List (List Nat)}, d ∈ jn c l → d = c ∨ ∃ p ∈ l, d ∈ p
  | [], h => nomatch h
  | [a], h => .inr ⟨a, .head _, h⟩
  | a :: b :: r, h => by
    rcases List.mem_append.mp (show d ∈ a ++ c :: jn c (b :: r) from h) with h | h
    · exact .inr ⟨a, .head _, h⟩
    · rcases List.mem_cons.mp h with h | h
      · exact .inl h
      · rcases jn_mem h with h | ⟨p, hp, h⟩
        · exact .inl h
        · exact .inr ⟨p, .tail _ hp, h⟩
theorem jn_first {l : List (List Nat)} (h0 : l ≠ []) (h : ∀ p ∈ l, p ≠ [] ∧ 47 ∉ p) : ∃ d t, jn 47 l = d :: t ∧ d ≠ 47 := by
  match l, h0 with
  | a :: r, _ =>
    obtain ⟨h1, h2⟩ := h a (.head _)
    match a, h1 with
    | d :: t, _ =>
      have hd : d ≠ 47 := fun e => h2 (e ▸ .head _)
      cases r with
      | nil => exact ⟨d, t, rfl, hd⟩
      | cons b r => exact ⟨d, t ++ 47 :: jn 47 (b :: r), rfl, hd⟩
theorem names_ok {names : List Str} (h : ∀ x ∈ names, x ∈ menuN) : ∀ p ∈ names.map tl, p ≠ [] ∧ 47 ∉ p := by
  intro p hp
  obtain ⟨x, hx, rfl⟩ := List.mem_map.mp hp
  exact ⟨menu_ne x (h x hx), menu_no x (h x hx)⟩
theorem PF.low {p : Str} {n : Nat} (h : PF p n) : Low p := by
  obtain ⟨r, names, _, h2, rfl⟩ := h
  intro c hc
  rw [tl_pf] at hc
  rcases List.mem_append.mp hc with hc | hc
  · cases r
    · nomatch hc
    · rw [List.mem_singleton.mp hc]; decide
  · rcases jn_mem hc with e | ⟨q, hq, hc⟩
    · rw [e]; decide
    · obtain ⟨x, hx, rfl⟩ := List.mem_map.mp hq
      exact menu_low x (h2 x hx) c hc
theorem jn_len : ∀ l : List (List Nat), (∀ p ∈ l, p.length ≤ 4) → (jn 47 l).length ≤ 5 * l.length
  | [], _ => by simp [jn]
  | [a], h => by have := h a (.head _); simp [jn]; omega
  | a :: b :: r, h => by
    have ih := jn_len (b :: r) fun p hp => h p (.tail _ hp)
    have h1 := h a (.head _)
    show (a ++ 47 :: jn 47 (b :: r)).length ≤ _
    simp only [List.length_append, List.length_cons] at ih ⊢
    omega
theorem PF.len {p : Str} {n : Nat} (h : PF p n) : p.length ≤ 1 + 5 * n := by
  obtain ⟨r, names, h1, h2, rfl⟩ := h
  rw [← tl_len, tl_pf, List.length_append]
  have q := jn_len (names.map tl) (fun p hp => by
    obtain ⟨x, hx, rfl⟩ := List.mem_map.mp hp
    rw [tl_len]; exact menuN_len x (h2 x hx))
  rw [List.length_map] at q
  have : (if r then [47] else ([] : List Nat)).length ≤ 1 := by cases r <;> decide
  omega
theorem PF.one {p : Str} {n : Nat} (h : PF p n) : OneSlash p := by
  obtain ⟨r, names, _, h2, rfl⟩ := h
  intro e1 e2
  rw [tl_pf] at e1 e2
  by_cases hn : names = []
  · subst hn; cases r <;> simp [jn] at e1 e2
  · obtain ⟨d, t, e, hd⟩ := jn_first (l := names.map tl) (by simpa using hn) (names_ok h2)
    rw [e] at e1 e2
    cases r <;> simp at e1 e2 <;> exact hd (by assumption)
theorem PF.last {p : Str} {n : Nat} (h : PF p n) : tl p = [] ∨ ∃ c, (tl p).getLast? = some c ∧ Unicode.isSpace c = false := by
  obtain ⟨r, names, _, h2, rfl⟩ := h
  rw [tl_pf]
  by_cases hn : names = []
  · subst hn
    cases r
    · exact .inl rfl
    · exact .inr ⟨47, rfl, by decide +kernel⟩
  · have key : ∀ l : List Str, l ≠ [] → (∀ x ∈ l, x ∈ menuN) → ∃ c, (jn 47 (l.map tl)).getLast? = some c ∧ Unicode.isSpace c = false := by
      intro l
      induction l with
      | nil => intro h; exact absurd rfl h
      | cons a r ih =>
        intro _ h
        cases r with
        | nil =>
          have ha := menu_ne a (h a (.head _))
          exact ⟨_, List.getLast?_eq_some_getLast ha, menu_last a (h a (.head _)) _ (List.getLast?_eq_some_getLast ha)⟩
        | cons b r =>
          obtain ⟨c, hc, hs⟩ := ih (by simp) fun x hx => h x (.tail _ hx)
          refine ⟨c, ?_, hs⟩
          show (tl a ++ 47 :: jn 47 ((b :: r).map tl)).getLast? = some c
          rw [List.getLast?_append, List.getLast?_cons, hc]; rfl
    obtain ⟨c, hc, hs⟩ := key names hn h2
    exact .inr ⟨c, by rw [List.getLast?_append, hc]; rfl, hs⟩
theorem PF.split {p : Str} {n : Nat} (h : PF p n) : (∀ x ∈ Txt.split p (Str.ofString "/"), x = Str.ofString "" ∨ x ∈ menuN) ∧ (Txt.split p (Str.ofString "/")).length ≤ n + 2 := by
  obtain ⟨r, names, h1, h2, rfl⟩ := h
  have he : 47 ∉ tl (Str.ofString "") := by decide
  have hm : ∀ x ∈ names, 47 ∉ tl x := fun x hx => menu_no x (h2 x hx)
  rw [of_slash]
  have key : ∃ l : List Str, l ≠ [] ∧ (∀ x ∈ l, 47 ∉ tl x) ∧ (if r then [47] else []) ++ jn 47 (names.map tl) = jn 47 (l.map tl) ∧ (∀ x ∈ l, x = Str.ofString "" ∨ x ∈ menuN) ∧ l.length ≤ n + 2 := by
    by_cases hn : names = []
    · subst hn
      cases r
      · exact ⟨[Str.ofString ""], by simp, all2 he all0, rfl, all2 (.inl rfl) all0, by simp⟩
      · exact ⟨[Str.ofString "", Str.ofString ""], by simp, all2 he (all2 he all0), rfl, all2 (.inl rfl) (all2 (.inl rfl) all0), by simp⟩
    · cases r
      · exact ⟨names, hn, hm, rfl, fun x hx => .inr (h2 x hx), by omega⟩
      · refine ⟨Str.ofString "" :: names, by simp, all2 he hm, ?_, all2 (.inl rfl) fun x hx => .inr (h2 x hx), by simp; omega⟩
        cases names with
        | nil => exact absurd rfl hn
        | cons a r => rfl
  obtain ⟨l, k1, k2, k3, k4, k5⟩ := key
  have e := split_uniq (x := Str.ofString (if r then "/" else "") ++ Txt.join (Str.ofString "/") names) k1 k2 (by rw [tl_pf, k3])
  rw [← of_slash] at e ⊢
  rw [e]
  exact ⟨k4, k5⟩
def MenuN (ns : List Str) : Prop := ∀ x ∈ ns, NameOk x ∧ x ∈ menuN
theorem walkName_menu {acc : List Str} {b : Str} (h : MenuN acc) (hb : b = Str.ofString "" ∨ b ∈ menuN) : MenuN (walkName acc b) := by
  intro x hx
  have hno : 47 ∉ tl b := by
    rcases hb with rfl | hb
    · decide
    · exact menu_no b hb
  refine ⟨walkName_good (fun x hx => (h x hx).1) hno x hx, ?_⟩
  unfold walkName at hx
  split at hx
  · exact (h x ((List.dropLast_sublist acc).subset hx)).2
  · split at hx
    · exact (h x hx).2
    · rename_i h3
      rcases List.mem_append.mp hx with hx | hx
      · exact (h x hx).2
      · rw [List.mem_singleton.mp hx]
        exact hb.elim (fun e => absurd (.inl e) h3) id
theorem fold_menu : ∀ (l acc : List Str), MenuN acc → (∀ x ∈ l, x = Str.ofString "" ∨ x ∈ menuN) → MenuN (l.foldl walkName acc) ∧ (l.foldl walkName acc).length ≤ acc.length + l.length
  | [], _, h, _ => ⟨h, by simp⟩
  | b :: l, acc, h, hl => by
    obtain ⟨h1, h2⟩ := fold_menu l (walkName acc b) (walkName_menu h (hl b (.head _))) fun x hx => hl x (.tail _ hx)
    have h3 : (walkName acc b).length ≤ acc.length + 1 := by unfold walkName; (repeat' split) <;> simp <;> omega
    exact ⟨h1, by rw [List.length_cons]; exact Nat.le_trans h2 (by omega)⟩
theorem walkPart_menu {ns : List Str} {p : Str} {n : Nat} (h : MenuN ns) (hp : PF p n) : MenuN (walkPart ns p) ∧ (walkPart ns p).length ≤ ns.length + (n + 2) := by
  obtain ⟨s1, s2⟩ := hp.split
  unfold walkPart
  split
  · obtain ⟨a, b⟩ := fold_menu _ [] all0 s1
    exact ⟨a, Nat.le_trans b (by simp only [List.length_nil]; omega)⟩
  · obtain ⟨a, b⟩ := fold_menu _ ns h s1
    exact ⟨a, Nat.le_trans b (by omega)⟩
theorem walk_menu {n : Nat} : ∀ (l ns : List Str), MenuN ns → (∀ p ∈ l, PF p n) → MenuN (l.foldl walkPart ns) ∧ (l.foldl walkPart ns).length ≤ ns.length + (n + 2) * l.length
  | [], _, h, _ => ⟨h, by simp⟩
  | p :: l, ns, h, hp => by
    obtain ⟨a, b⟩ := walkPart_menu h (hp p (.head _))
    obtain ⟨c, d⟩ := walk_menu l _ a fun q hq => hp q (.tail _ hq)
    refine ⟨c, Nat.le_trans d ?_⟩
    rw [List.length_cons, Nat.mul_add, Nat.mul_one]; omega
/-- pairs that fit: a key of the two, a part of names of the menu -/
def Fit (ps : List (Str × Str)) (n : Nat) : Prop := ∀ q ∈ ps, q.1 ∈ menuK ∧ PF q.2 n
theorem grp_mem {ps : List (Str × Str)} {one p : Str} (h : p ∈ grp ps one) : ∃ q ∈ ps, q.2 = p := by
  obtain ⟨q, hq, rfl⟩ := List.mem_map.mp h
  exact ⟨q, (List.mem_filter.mp hq).1, rfl⟩
theorem grp_len (ps : List (Str × Str)) (one : Str) : (grp ps one).length ≤ ps.length := by
  rw [grp, List.length_map]; exact List.length_filter_le _ _
theorem Fit.mem {ps : List (Str × Str)} {n : Nat} (h : Fit ps n) (one : Str) : ∀ p ∈ grp ps one, PF p n := by
  intro p hp
  obtain ⟨q, hq, rfl⟩ := grp_mem hp
  exact (h q hq).2
theorem Fit.key {ps : List (Str × Str)} {n : Nat} (h : Fit ps n) {one : Str} (ho : one ∈ firstsOf ps) : one ∈ menuK := by
  obtain ⟨q, hq, rfl⟩ := firsts_mem ho
  exact (h q hq).1
theorem Fit.due {ps : List (Str × Str)} {n : Nat} (h : Fit ps n) : Fit (dueOf ps) ((n + 2) * ps.length) := by
  intro q hq
  obtain ⟨one, ho, rfl⟩ := List.mem_map.mp hq
  obtain ⟨a, b⟩ := walk_menu (grp ps one) [] all0 (h.mem one)
  refine ⟨h.key ho, true, walkOf ps one, ?_, ?_, rfl⟩
  · rw [walkOf_eq]
    exact Nat.le_trans b (by simp only [List.length_nil, Nat.zero_add]; exact Nat.mul_le_mul_left _ (grp_len ps one))
  · rw [walkOf_eq]; exact fun x hx => (a x hx).2
theorem Fit.mono {ps : List (Str × Str)} {n m : Nat} (h : Fit ps n) (hm : n ≤ m) : Fit ps m := fun q hq =>
  ⟨(h q hq).1, let ⟨r, names, h1, h2⟩ := (h q hq).2; ⟨r, names, Nat.le_trans h1 hm, h2⟩⟩
theorem low_ok {x : Str} (h : Low x) : PyData.strOk x = true := by
  unfold PyData.strOk
  rw [← Array.all_toList, List.all_eq_true]
  intro c hc
  have := h c hc
  exact decide_eq_true (by omega)
theorem low_app {a b : Str} (h1 : Low a) (h2 : Low b) : Low (a ++ b) := by
  intro c hc
  rw [tl_app] at hc
  exact (List.mem_append.mp hc).elim (h1 c) (h2 c)
theorem low_slash : Low (Str.ofString "/") := by unfold Low; decide
theorem low_empty : Low (Str.ofString "") := by unfold Low; decide
theorem low_join {a b : Str} (h1 : Low a) (h2 : Low b) : Low (joinStep a b) := by
  unfold joinStep
  (repeat' split)
  · exact h2
  · exact low_app h1 h2
  · exact low_app h1 (low_app low_slash h2)
theorem low_hung : ∀ (l : List Str) (a : Str), Low a → (∀ p ∈ l, Low p) → Low (l.foldl hungF a)
  | [], _, h, _ => h
  | p :: l, a, h, hp => low_hung l _ (low_join (low_join h low_empty) (hp p (.head _))) fun q hq => hp q (.tail _ hq)
theorem key_ok {k : Str} (h : k ∈ menuK) : PyData.strOk k = true := low_ok (menuK_ok k h).2
theorem Fit.okL {ps : List (Str × Str)} {n : Nat} (h : Fit ps n) : OkP (lastsOf ps) := by
  intro q hq
  obtain ⟨one, ho, rfl⟩ := List.mem_map.mp hq
  refine ⟨key_ok (h.key ho), low_ok ?_⟩
  dsimp only
  cases e : (grp ps one).getLast? with
  | none => exact low_empty
  | some p => exact (h.mem one p (List.mem_of_getLast? e)).low
theorem Fit.okH {ps : List (Str × Str)} {n : Nat} (h : Fit ps n) : OkP (hungOf ps) := by
  rw [← hung_law, foldF_eq]
  intro q hq
  obtain ⟨one, ho, rfl⟩ := List.mem_map.mp hq
  exact ⟨key_ok (h.key ho), low_ok (low_hung _ _ low_empty fun p hp => (h.mem one p hp).low)⟩
theorem Fit.okD {ps : List (Str × Str)} {n : Nat} (h : Fit ps n) : OkP (dueOf ps) := fun q hq => ⟨key_ok (h.due q hq).1, low_ok (h.due q hq).2.low⟩
theorem Fit.fol {ps : List (Str × Str)} {n : Nat} (h : Fit ps n) : FolOk ps := by
  refine ⟨fun v => ∃ ns, (∀ x ∈ ns, NameOk x) ∧ v = Root ns, ⟨[], all0, root_nil⟩, ?_⟩
  rintro v ⟨ns, hns, rfl⟩ q hq
  exact ⟨normPre_root hns (h q hq).2.one, walkPart ns q.2, walkPart_good hns, folF_root hns⟩

def quoted (p : Str) : Bool := (p == Str.ofString "") || decide (34 ∈ tl p) || decide (44 ∈ tl p)
def qp (p : Str) : Str := if quoted p = true then Str.ofString "\"" ++ p ++ Str.ofString "\"" else p
def rItem (k p : Str) : Str := k ++ Str.ofString "=" ++ qp p
def g1 (d : Nat) : List Nat := if d = 92 then [92, 92] else [d]
def g2 (d : Nat) : List Nat := if d = 34 then [92, 34] else [d]
theorem of_q : Str.ofString "\"" = ⟨#[34]⟩ := by decide
theorem of_b : Str.ofString "\\" = ⟨#[92]⟩ := by decide
theorem of_c : Str.ofString "," = ⟨#[44]⟩ := by decide
theorem of_e : Str.ofString "=" = ⟨#[61]⟩ := by decide
theorem flat_free {c : Nat} {z : List Nat} : ∀ {l : List Nat}, c ∉ l → l.flatMap (fun d => if d = c then z else [d]) = l
  | [], _ => rfl
  | d :: l, h => by
    have hd : d ≠ c := by rintro rfl; exact h (.head _)
    rw [List.flatMap_cons, flat_free (fun q => h (.tail _ q)), if_neg hd]; rfl
theorem join_flat {c : Nat} {z : Str} : ∀ {l : List Str}, (∀ p ∈ l, c ∉ tl p) → tl (Str.join z l) = (jn c (l.map tl)).flatMap (fun d => if d = c then tl z else [d])
  | [], _ => rfl
  | [a], h => (flat_free (h a (.head _))).symm
  | a :: b :: r, h => by
    have ih := join_flat (c := c) (z := z) (l := b :: r) fun p hp => h p (.tail _ hp)
    show tl (a ++ z ++ Str.join z (b :: r)) = (tl a ++ c :: jn c ((b :: r).map tl)).flatMap _
    rw [List.flatMap_append, List.flatMap_cons, flat_free (h a (.head _)), if_pos rfl, ← ih, tl_app, tl_app, List.append_assoc]
theorem tl_rep (x z : Str) (c : Nat) : tl (Txt.replace x ⟨#[c]⟩ z) = (tl x).flatMap (fun d => if d = c then tl z else [d]) := by
  rw [StrLaws.replace_one, join_flat (c := c) (StrLaws.split_free x c), jn_split]
def esc (l : List Nat) : List Nat := (l.flatMap g1).flatMap g2
theorem tl_esc (p : Str) : tl (Txt.replace (Txt.replace p (Str.ofString "\\") (Str.ofString "\\\\")) (Str.ofString "\"") (Str.ofString "\\\"")) = esc (tl p) := by
  rw [of_b, of_q, tl_rep, tl_rep]; rfl
theorem esc_cons (d : Nat) (l : List Nat) : esc (d :: l) = (if d = 92 then [92, 92] else if d = 34 then [92, 34] else [d]) ++ esc l := by
  unfold esc
  rw [List.flatMap_cons, List.flatMap_append]
  congr 1
  unfold g1
  by_cases h : d = 92
  · subst h; rfl
  · rw [if_neg h, if_neg h, List.flatMap_cons, List.flatMap_nil, List.append_nil]; rfl
theorem mk_app (a : Str) (d : Nat) : tl (a ++ chS d) = tl a ++ [d] := by rw [tl_app]; rfl
theorem chS_eq {d e : Nat} : (chS d = ⟨#[e]⟩) ↔ d = e := by
  constructor
  · intro h
    have := congrArg tl h
    simpa [chS, tl] using this
  · rintro rfl; rfl
/-- signs that are no quote and no comma are gathered as they are -/
theorem run_bare : ∀ (l : List Nat) (res : List Str) (part : Str), 34 ∉ l → 44 ∉ l → ∃ part', l.foldl httpStep ⟨res, part, false, false⟩ = ⟨res, part', false, false⟩ ∧ tl part' = tl part ++ l
  | [], res, part, _, _ => ⟨part, rfl, by simp⟩
  | d :: l, res, part, h1, h2 => by
    have e : httpStep ⟨res, part, false, false⟩ d = ⟨res, part ++ chS d, false, false⟩ := by
      unfold httpStep; dsimp only
      rw [if_neg (by decide), if_neg (by decide), if_neg (by rw [of_c, chS_eq]; exact fun e => h2 (e ▸ .head _)), if_neg (by rw [of_q, chS_eq]; exact fun e => h1 (e ▸ .head _))]
    obtain ⟨part', e2, e3⟩ := run_bare l res (part ++ chS d) (fun q => h1 (.tail _ q)) (fun q => h2 (.tail _ q))
    exact ⟨part', by rw [List.foldl_cons, e, e2], by rw [e3, mk_app]; simp⟩
/-- within quotes the escapes are undone -/
theorem run_esc : ∀ (l : List Nat) (res : List Str) (part : Str), ∃ part', (esc l).foldl httpStep ⟨res, part, false, true⟩ = ⟨res, part', false, true⟩ ∧ tl part' = tl part ++ l
  | [], res, part => ⟨part, rfl, by simp⟩
  | d :: l, res, part => by
    obtain ⟨part', e2, e3⟩ := run_esc l res (part ++ chS d)
    refine ⟨part', ?_, by rw [e3, mk_app]; simp⟩
    rw [esc_cons, List.foldl_append]
    have bs : ∀ c, (⟨res, part ++ chS c, false, true⟩ : HS) = httpStep (httpStep ⟨res, part, false, true⟩ 92) c := by
      intro c
      have q1 : httpStep ⟨res, part, false, true⟩ 92 = ⟨res, part, true, true⟩ := by
        unfold httpStep; dsimp only
        rw [if_neg (by decide), if_pos rfl, if_pos (by decide)]
      rw [q1]
      unfold httpStep; dsimp only
      rw [if_pos rfl]
    by_cases h : d = 92
    · subst h
      rw [if_pos rfl, List.foldl_cons, List.foldl_cons, List.foldl_nil, ← bs, e2]
    · rw [if_neg h]
      by_cases h2 : d = 34
      · subst h2
        rw [if_pos rfl, List.foldl_cons, List.foldl_cons, List.foldl_nil, ← bs, e2]
      · rw [if_neg h2, List.foldl_cons, List.foldl_nil]
        have q : httpStep ⟨res, part, false, true⟩ d = ⟨res, part ++ chS d, false, true⟩ := by
          unfold httpStep; dsimp only
          rw [if_neg (by decide), if_pos rfl, if_neg (by rw [of_b, chS_eq]; exact h), if_neg (by rw [of_q, chS_eq]; exact h2)]
        rw [q, e2]
theorem quoted_iff (p : Str) : quoted p = true ↔ ((p == Str.ofString "") = true ∨ (Builtin.Str.occurrences p (Str.ofString "\"") 0 p.length 1).isEmpty = false ∨ (Builtin.Str.occurrences p (Str.ofString ",") 0 p.length 1).isEmpty = false) := by
  have a := StrLaws.found_one p 34
  have b := StrLaws.found_one p 44
  rw [← of_q] at a
  rw [← of_c] at b
  unfold quoted
  rw [Bool.or_eq_true, Bool.or_eq_true, ← a, ← b, or_assoc, Bool.not_eq_true', Bool.not_eq_true']
theorem tl_witem (k p : Str) : tl (wItem k p) = tl k ++ (61 :: (if quoted p = true then 34 :: (esc (tl p) ++ [34]) else tl p)) := by
  unfold wItem
  by_cases h : quoted p = true
  · rw [if_pos ((quoted_iff p).mp h), if_pos h, tl_app, tl_app, tl_app, tl_esc, show tl (Str.ofString "=\"") = [61, 34] by decide, show tl (Str.ofString "\"") = [34] by decide]
    simp
  · rw [if_neg (fun e => h ((quoted_iff p).mpr e)), if_neg h, tl_app, tl_app, show tl (Str.ofString "=") = [61] by decide]
    simp
theorem tl_ritem (k p : Str) : tl (rItem k p) = tl k ++ (61 :: tl (qp p)) := by
  unfold rItem
  rw [tl_app, tl_app, show tl (Str.ofString "=") = [61] by decide]; simp
theorem tl_qp (p : Str) : tl (qp p) = if quoted p = true then 34 :: (tl p ++ [34]) else tl p := by
  unfold qp
  by_cases h : quoted p = true
  · rw [if_pos h, if_pos h, tl_app, tl_app, show tl (Str.ofString "\"") = [34] by decide]; rfl
  · rw [if_neg h, if_neg h]
theorem key_free {k : Str} (h : k ∈ menuK) : 34 ∉ tl k ∧ 44 ∉ tl k ∧ 61 ∉ tl k ∧ (tl k).length = 1 ∧ ∀ c ∈ tl k, Unicode.isSpace c = false := by
  have : ∀ k ∈ menuK, 34 ∉ tl k ∧ 44 ∉ tl k ∧ 61 ∉ tl k ∧ (tl k).length = 1 ∧ ∀ c ∈ tl k, Unicode.isSpace c = false := by decide +kernel
  exact this k h
/-- one written item is read as one part -/
theorem run_item {k p : Str} (hk : k ∈ menuK) (res : List Str) (part : Str) : ∃ part', (tl (wItem k p)).foldl httpStep ⟨res, part, false, false⟩ = ⟨res, part', false, false⟩ ∧ tl part' = tl part ++ tl (rItem k p) := by
  obtain ⟨k1, k2, _, _, _⟩ := key_free hk
  rw [tl_witem, tl_ritem, tl_qp, List.foldl_append]
  obtain ⟨p1, e1, f1⟩ := run_bare (tl k) res part k1 k2
  rw [e1, List.foldl_cons]
  obtain ⟨p2, e2, f2⟩ := run_bare [61] res p1 (by decide) (by decide)
  rw [List.foldl_cons, List.foldl_nil] at e2
  rw [e2]
  by_cases h : quoted p = true
  · rw [if_pos h, if_pos h, List.foldl_cons, List.foldl_append]
    have q : httpStep ⟨res, p2, false, false⟩ 34 = ⟨res, p2 ++ chS 34, false, true⟩ := by
      unfold httpStep; dsimp only
      rw [if_neg (by decide), if_neg (by decide), if_neg (by decide), if_pos (by decide)]
    rw [q]
    obtain ⟨p3, e3, f3⟩ := run_esc (tl p) res (p2 ++ chS 34)
    rw [e3, List.foldl_cons, List.foldl_nil]
    refine ⟨p3 ++ chS 34, ?_, ?_⟩
    · unfold httpStep; dsimp only
      rw [if_neg (by decide), if_pos rfl, if_neg (by decide), if_pos (by decide)]
    · rw [mk_app, f3, mk_app, f2, f1]; simp
  · rw [if_neg h, if_neg h]
    have hq : 34 ∉ tl p ∧ 44 ∉ tl p := by
      unfold quoted at h
      simp only [Bool.or_eq_true, decide_eq_true_eq, not_or] at h
      exact ⟨h.1.2, h.2⟩
    obtain ⟨p3, e3, f3⟩ := run_bare (tl p) res p2 hq.1 hq.2
    exact ⟨p3, e3, by rw [f3, f2, f1]; simp⟩

theorem tl_join2 (q : Str × Str) (r : Str × Str) (l : List (Str × Str)) : tl (writtenOf (q :: r :: l)) = tl (wItem q.1 q.2) ++ (44 :: 32 :: tl (writtenOf (r :: l))) := by
  rw [writtenOf, writtenOf, show Txt.join (Str.ofString ", ") ((q :: r :: l).map fun q => wItem q.1 q.2) = Str.join (Str.ofString ", ") ((q :: r :: l).map fun q => wItem q.1 q.2) from StrLaws.glued_eq_join _ _,
    show Txt.join (Str.ofString ", ") ((r :: l).map fun q => wItem q.1 q.2) = Str.join (Str.ofString ", ") ((r :: l).map fun q => wItem q.1 q.2) from StrLaws.glued_eq_join _ _]
  show tl (wItem q.1 q.2 ++ Str.ofString ", " ++ Str.join (Str.ofString ", ") ((r :: l).map fun q => wItem q.1 q.2)) = _
  rw [tl_app, tl_app, show tl (Str.ofString ", ") = [44, 32] by decide]; simp
theorem tl_join1 (q : Str × Str) : tl (writtenOf [q]) = tl (wItem q.1 q.2) := rfl
/-- the run over a written header -/
theorem run_written : ∀ (l : List (Str × Str)) (q : Str × Str), (∀ r ∈ q :: l, r.1 ∈ menuK) → ∀ (res : List Str) (part : Str),
    ∃ (ps : List Str) (last : Str), (tl (writtenOf (q :: l))).foldl httpStep ⟨res, part, false, false⟩ = ⟨res ++ ps, last, false, false⟩ ∧
      (ps ++ [last]).map tl = (tl part ++ tl (rItem q.1 q.2)) :: l.map fun r => 32 :: tl (rItem r.1 r.2)
  | [], q, hk, res, part => by
    obtain ⟨p1, e1, f1⟩ := run_item (p := q.2) (hk q (.head _)) res part
    exact ⟨[], p1, by rw [tl_join1, e1, List.append_nil], by simp [f1]⟩
  | r :: l, q, hk, res, part => by
    obtain ⟨p1, e1, f1⟩ := run_item (p := q.2) (hk q (.head _)) res part
    obtain ⟨ps, last, e2, f2⟩ := run_written l r (fun x hx => hk x (.tail _ hx)) (res ++ [p1]) (Str.ofString "" ++ chS 32)
    refine ⟨p1 :: ps, last, ?_, ?_⟩
    · rw [tl_join2, List.foldl_append, e1, List.foldl_cons, List.foldl_cons]
      have q1 : httpStep ⟨res, p1, false, false⟩ 44 = ⟨res ++ [p1], Str.ofString "", false, false⟩ := by
        unfold httpStep; dsimp only
        rw [if_neg (by decide), if_neg (by decide), if_pos (by decide)]
      have q2 : httpStep ⟨res ++ [p1], Str.ofString "", false, false⟩ 32 = ⟨res ++ [p1], Str.ofString "" ++ chS 32, false, false⟩ := by
        unfold httpStep; dsimp only
        rw [if_neg (by decide), if_neg (by decide), if_neg (by decide), if_neg (by decide)]
      rw [q1, q2, e2]; simp
    · rw [List.cons_append, List.map_cons, f2, f1, tl_app]; rfl
theorem strip_go {x : Str} {s y : List Nat} (e : tl x = s ++ y) (hs : ∀ c ∈ s, Unicode.isSpace c = true) {a z : Nat} (ha : y.head? = some a) (hz : y.getLast? = some z) (h1 : Unicode.isSpace a = false) (h2 : Unicode.isSpace z = false) : tl (Txt.strip x) = y := by
  have hlo : stripLo Unicode.isSpace true x = s.length := by
    show (List.takeWhile Unicode.isSpace (tl x)).length = s.length
    rw [e]
    cases y with
    | nil => cases ha
    | cons b y =>
      have hb : b = a := by simpa using ha
      rw [List.takeWhile_append_of_pos hs, List.takeWhile_cons, hb, h1]; simp
  have hhi : stripHi Unicode.isSpace true x s.length = x.length := by
    show x.length - (List.takeWhile Unicode.isSpace (List.drop s.length (tl x)).reverse).length = x.length
    rw [e, List.drop_left]
    have hy : y ≠ [] := by rintro rfl; cases hz
    have e2 : y.reverse = z :: y.dropLast.reverse := by
      rw [List.getLast?_eq_some_getLast hy, Option.some.injEq] at hz
      conv => lhs; rw [← List.dropLast_concat_getLast hy, hz]
      simp
    rw [e2, List.takeWhile_cons, h2]; rfl
  unfold Txt.strip Txt.stripBy
  by_cases h : stripSame Unicode.isSpace true true x = true
  · rw [if_pos h]
    unfold stripSame at h
    rw [hlo, Bool.and_eq_true, beq_iff_eq] at h
    rw [e, List.eq_nil_of_length_eq_zero h.1]; rfl
  · rw [if_neg h]
    unfold PySem.stripped
    rw [hlo, hhi]
    show (Builtin.Str.strSub x s.length x.length).cps.toList = y
    rw [StrLaws.strSub_toList]
    have e3 : x.cps.toList = s ++ y := e
    have e4 : x.length - s.length = y.length := by rw [← tl_len, e, List.length_append]; omega
    rw [e3, List.drop_left, e4, List.take_length]
theorem key_one {k : Str} (h : k ∈ menuK) : ∃ c, tl k = [c] ∧ Unicode.isSpace c = false ∧ c ≠ 61 := by
  obtain ⟨_, _, k3, k4, k5⟩ := key_free h
  obtain ⟨c, hc⟩ := List.length_eq_one_iff.mp k4
  exact ⟨c, hc, k5 c (by rw [hc]; exact .head _), fun e => k3 (by rw [hc, e]; exact .head _)⟩
theorem qp_ne (p : Str) : tl (qp p) ≠ [] := by
  rw [tl_qp]
  by_cases h : quoted p = true
  · rw [if_pos h]; simp
  · rw [if_neg h]
    intro e
    refine h ?_
    have : p = Str.ofString "" := str_ext (by rw [e, tl_empty])
    unfold quoted; rw [this]; rfl
theorem qp_last {p : Str} {n : Nat} (hp : PF p n) : ∃ z, (tl (qp p)).getLast? = some z ∧ Unicode.isSpace z = false := by
  have hne := qp_ne p
  rw [tl_qp] at hne ⊢
  by_cases h : quoted p = true
  · rw [if_pos h]
    exact ⟨34, by rw [List.getLast?_cons, List.getLast?_append]; rfl, by decide +kernel⟩
  · rw [if_neg h] at hne ⊢
    rcases hp.last with e | e
    · exact absurd e hne
    · exact e
theorem strip_item {x k p : Str} {n : Nat} {s : List Nat} (hk : k ∈ menuK) (hp : PF p n) (e : tl x = s ++ tl (rItem k p)) (hs : ∀ c ∈ s, Unicode.isSpace c = true) : Txt.strip x = rItem k p := by
  obtain ⟨c, hc, hsp, _⟩ := key_one hk
  obtain ⟨z, hz, hzs⟩ := qp_last hp
  refine str_ext (strip_go e hs (a := c) (z := z) ?_ ?_ hsp hzs)
  · rw [tl_ritem, hc]; rfl
  · rw [tl_ritem, List.getLast?_append, List.getLast?_cons, hz]; rfl
theorem http_written {ps : List (Str × Str)} {n : Nat} (h : Fit ps n) : httpOf (writtenOf ps) = ps.map fun q => rItem q.1 q.2 := by
  cases ps with
  | nil => decide
  | cons q l =>
    obtain ⟨rs, last, e, f⟩ := run_written l q (fun r hr => (h r hr).1) [] (Str.ofString "")
    have e' : httpRun (writtenOf (q :: l)).cps.toList = ⟨rs, last, false, false⟩ := by rw [httpRun]; exact e
    have key : (rs ++ [last]).map Txt.strip = (q :: l).map fun q => rItem q.1 q.2 := by
      have gen : ∀ (xs : List Str) (qs : List (Str × Str)) , (∀ r ∈ qs, r.1 ∈ menuK ∧ PF r.2 n) → xs.map tl = qs.map (fun r => 32 :: tl (rItem r.1 r.2)) → xs.map Txt.strip = qs.map fun r => rItem r.1 r.2 := by
        intro xs
        induction xs with
        | nil => intro qs _ e; cases qs with
          | nil => rfl
          | cons _ _ => simp at e
        | cons x xs ih =>
          intro qs hq e
          cases qs with
          | nil => simp at e
          | cons r qs =>
            rw [List.map_cons, List.map_cons, List.cons.injEq] at e
            rw [List.map_cons, List.map_cons, ih qs (fun r hr => hq r (.tail _ hr)) e.2, strip_item (s := [32]) (hq r (.head _)).1 (hq r (.head _)).2 e.1 (all2 (by decide +kernel) all0)]
      cases hx : rs ++ [last] with
      | nil => simp at hx
      | cons x xs =>
        rw [hx, List.map_cons, List.cons.injEq] at f
        rw [List.map_cons, List.map_cons, gen xs l (fun r hr => h r (.tail _ hr)) f.2, strip_item (s := []) (h q (.head _)).1 (h q (.head _)).2 (by rw [f.1, tl_empty]) all0]
    have hl : last.length ≠ 0 := by
      intro e0
      have e1 : tl last = [] := List.eq_nil_of_length_eq_zero (by rw [tl_len]; exact e0)
      have f2 := congrArg List.getLast? f
      rw [List.map_append, List.getLast?_append] at f2
      have f3 : (List.map tl [last]).getLast? = some [] := by simp [e1]
      rw [f3] at f2
      have f4 : (([] : List Nat)) ∈ (tl (Str.ofString "") ++ tl (rItem q.1 q.2)) :: l.map fun r => 32 :: tl (rItem r.1 r.2) := List.mem_of_getLast? f2.symm
      rcases List.mem_cons.mp f4 with f5 | f5
      · rw [tl_empty, List.nil_append, tl_ritem] at f5; simp at f5
      · obtain ⟨r, _, f6⟩ := List.mem_map.mp f5; simp at f6
    unfold httpOf
    rw [e']
    dsimp only
    rw [if_neg hl]; exact key

theorem split_eq {a : Str} {c : Nat} {v : List Nat} (e : tl a = c :: 61 :: v) (hc : c ≠ 61) : Txt.splitMax a (Str.ofString "=") 1 = [⟨#[c]⟩, ⟨v.toArray⟩] := by
  have hlen : a.length = v.length + 2 := by rw [← tl_len, e]; rfl
  have hm : 61 ∈ a.cps.toList := by show 61 ∈ tl a; rw [e]; simp
  have at1 : ∀ i, StrLaws.At a ⟨#[61]⟩ a.length i ↔ (tl a)[i]? = some 61 := fun i => StrLaws.subAt_one a 61 i
  have hocc : Builtin.Str.occurrences a ⟨#[61]⟩ 0 a.length 1 = [1] := by
    have hle := StrLaws.occ_length_le a ⟨#[61]⟩ 0 a.length 1
    have h1 : StrLaws.At a ⟨#[61]⟩ a.length 1 := (at1 1).mpr (by rw [e]; rfl)
    rcases StrLaws.occ_head a ⟨#[61]⟩ 1 (Nat.le_refl 1) with ⟨_, hn⟩ | ⟨i, r, hi, hat, hn⟩
    · exact absurd h1 (hn 1)
    · rw [hi] at hle ⊢
      have hr : r = [] := List.eq_nil_of_length_eq_zero (by simp at hle; exact List.length_eq_zero_iff.mpr hle)
      have h0 : i ≠ 0 := by
        rintro rfl
        rw [at1, e] at hat
        exact hc (by simpa using hat)
      have h2 : ¬ 1 < i := fun q => hn 1 q h1
      have : i = 1 := by omega
      rw [this, hr]
  rw [of_e]
  unfold Txt.splitMax
  have c1 : (decide (a.length < (⟨#[61]⟩ : Str).length) || decide (Builtin.Str.strKind a < Builtin.Str.strKind ⟨#[61]⟩)) = false := by
    rw [Bool.or_eq_false_iff]
    refine ⟨decide_eq_false (by show ¬ a.length < 1; omega), decide_eq_false fun q => StrLaws.kind_free a 61 q hm⟩
  rw [if_neg (by rw [c1]; decide), show limitOf a 1 = 1 from rfl, hocc, if_neg (by decide), StrLaws.partsBetween_eq]
  show [Builtin.Str.strSub a 0 1, Builtin.Str.strSub a (1 + 1) a.length] = _
  have s1 : Builtin.Str.strSub a 0 1 = ⟨#[c]⟩ := str_ext (by
    show (Builtin.Str.strSub a 0 1).cps.toList = [c]
    rw [StrLaws.strSub_toList]
    have e' : a.cps.toList = c :: 61 :: v := e
    rw [e']; rfl)
  have s2 : Builtin.Str.strSub a (1 + 1) a.length = ⟨v.toArray⟩ := str_ext (by
    show (Builtin.Str.strSub a (1 + 1) a.length).cps.toList = v
    rw [StrLaws.strSub_toList]
    have e' : a.cps.toList = c :: 61 :: v := e
    rw [e', hlen]
    show v.take (v.length + 2 - 2) = v
    rw [Nat.add_sub_cancel, List.take_length])
  rw [s1, s2]
theorem item0 {v : Str} {d : Nat} (h : (tl v)[0]? = some d) : Txt.item v 0 = ⟨#[d]⟩ := by
  have q : Txt.charAt v 0 = some d := StrLaws.at_nonneg (x := v) (i := 0) (n := d) (by decide) (by rw [← Array.getElem?_toList]; exact h)
  unfold Txt.item; rw [q]; rfl
theorem itemL {v : Str} {d : Nat} (h : (tl v).getLast? = some d) : Txt.item v (-1) = ⟨#[d]⟩ := by
  have hne : tl v ≠ [] := by rintro e; rw [e] at h; cases h
  have hpos : 0 < v.length := by rw [← tl_len]; exact List.length_pos_iff.mpr hne
  have q : Txt.charAt v (-1) = some d := StrLaws.at_neg (x := v) (i := -1) (n := d) (by decide) (by omega) (by
    rw [← Array.getElem?_toList, show ((-1 : Int) + (v.length : Int)).toNat = v.length - 1 by omega]
    rw [List.getLast?_eq_getElem?, tl_len] at h
    exact h)
  unfold Txt.item; rw [q]; rfl
theorem unq_qp (p : Str) : unq (qp p) = p := by
  have e := tl_qp p
  by_cases h : quoted p = true
  · rw [if_pos h] at e
    have i0 : (Txt.item (qp p) 0 == Str.ofString "\"") = true := by rw [item0 (d := 34) (by rw [e]; rfl), of_q]; exact beq_self_eq_true _
    have i1 : (Txt.item (qp p) (-1) == Str.ofString "\"") = true := by rw [itemL (d := 34) (by rw [e, List.getLast?_cons, List.getLast?_append]; rfl), of_q]; exact beq_self_eq_true _
    have hl : (qp p).length = p.length + 2 := by rw [← tl_len, e]; simp [← tl_len]
    rw [← unq_a i0 i1]
    refine str_ext ?_
    rw [slice_mid (by omega), hl, e]
    show (tl p ++ [34]).take (p.length + 2 - 2) = tl p
    rw [Nat.add_sub_cancel, ← tl_len, List.take_left']
    rfl
  · have eq : qp p = p := by unfold qp; rw [if_neg h]
    rw [eq]
    have hne := qp_ne p
    rw [eq] at hne
    have hq : 34 ∉ tl p := by
      unfold quoted at h
      simp only [Bool.or_eq_true, decide_eq_true_eq, not_or] at h
      exact h.1.2
    cases hp : tl p with
    | nil => exact absurd hp hne
    | cons d r =>
      refine (unq_b ?_).symm
      rw [item0 (d := d) (by rw [hp]; rfl), of_q, Bool.eq_false_iff]
      intro e2
      have e3 := congrArg tl (eq_of_beq e2)
      have e4 : d = 34 := by simpa [tl] using e3
      exact hq (by rw [hp, e4]; exact .head _)
def kvOf (a : Str) : Str × Str := (⟨((tl a).take 1).toArray⟩, ⟨((tl a).drop 2).toArray⟩)
theorem kv_item {k : Str} (hk : k ∈ menuK) (p : Str) : kvOf (rItem k p) = (k, qp p) ∧ Txt.splitMax (rItem k p) (Str.ofString "=") 1 = [k, qp p] := by
  obtain ⟨c, hc, _, hn⟩ := key_one hk
  have e : tl (rItem k p) = c :: 61 :: tl (qp p) := by rw [tl_ritem, hc]; rfl
  have e1 : (⟨#[c]⟩ : Str) = k := str_ext (by rw [hc])
  have e2 : (⟨(tl (qp p)).toArray⟩ : Str) = qp p := str_ext rfl
  refine ⟨?_, by rw [split_eq e hn, e1, e2]⟩
  unfold kvOf
  rw [e]
  exact Prod.ext (str_ext (by rw [hc]; rfl)) (str_ext rfl)
theorem esc_len : ∀ l : List Nat, (esc l).length ≤ 2 * l.length
  | [] => by simp [esc]
  | d :: l => by
    have ih := esc_len l
    rw [esc_cons, List.length_append, List.length_cons]
    have : (if d = 92 then [92, 92] else if d = 34 then [92, 34] else [d]).length ≤ 2 := by (repeat' split) <;> simp
    omega
theorem witem_len {k p : Str} (hk : k ∈ menuK) (hp : PF p 30) : (tl (wItem k p)).length ≤ 350 := by
  obtain ⟨c, hc, _, _⟩ := key_one hk
  have h1 := hp.len
  have h2 := esc_len (tl p)
  rw [tl_witem, hc]
  rw [tl_len] at h2
  by_cases h : quoted p = true
  · rw [if_pos h]; simp only [List.length_append, List.length_cons, List.length_nil]; omega
  · rw [if_neg h]; simp only [List.length_append, List.length_cons, List.length_nil, tl_len]; omega
theorem written_len : ∀ ps : List (Str × Str), Fit ps 30 → (tl (writtenOf ps)).length ≤ 400 * ps.length
  | [], _ => by decide
  | [q], h => by
    have := witem_len (h q (.head _)).1 (h q (.head _)).2
    rw [tl_join1]; simp only [List.length_cons, List.length_nil]; omega
  | q :: r :: l, h => by
    have h1 := witem_len (h q (.head _)).1 (h q (.head _)).2
    have h2 := written_len (r :: l) fun x hx => h x (.tail _ hx)
    rw [tl_join2]
    simp only [List.length_append, List.length_cons] at h2 ⊢
    omega
theorem qp_len (p : Str) : (qp p).length ≤ p.length + 2 := by
  rw [← tl_len, ← tl_len, tl_qp]
  split <;> simp
theorem fit_rd {ps : List (Str × Str)} (h : Fit ps 30) (hn : ps.length ≤ 20) : ∃ kv, RD (writtenOf ps) kv ∧ pairsOf (writtenOf ps) kv = ps := by
  have hh := http_written h
  refine ⟨kvOf, ⟨?_, ?_, ?_⟩, ?_⟩
  · have := written_len ps h
    rw [← tl_len]; omega
  · rw [hh, List.length_map]; exact hn
  · intro a ha
    rw [hh] at ha
    obtain ⟨q, hq, rfl⟩ := List.mem_map.mp ha
    obtain ⟨e1, e2⟩ := kv_item (h q hq).1 q.2
    refine ⟨?_, ?_, ?_⟩
    · obtain ⟨c, hc, _, _⟩ := key_one (h q hq).1
      have h1 := (h q hq).2.len
      have h2 := qp_len q.2
      rw [← tl_len, tl_ritem, hc]
      simp only [List.length_append, List.length_cons, List.length_nil, tl_len]; omega
    · rw [e1]; exact e2
    · rw [e1]
      intro e3
      exact qp_ne q.2 (List.eq_nil_of_length_eq_zero (by rw [tl_len]; exact e3))
  · rw [pairsOf, hh, List.map_map]
    conv => rhs; rw [← List.map_id ps]
    apply List.map_congr_left
    intro q hq
    show ((kvOf (rItem q.1 q.2)).1, unq (kvOf (rItem q.1 q.2)).2) = id q
    rw [(kv_item (h q hq).1 q.2).1]
    show (q.1, unq (qp q.2)) = q
    rw [unq_qp]
theorem fit_hd {ps : List (Str × Str)} (h : Fit ps 30) (hn : ps.length ≤ 20) : HdOk ps where
  n := hn
  he := fun q hq => ⟨(menuK_ok _ (h q hq).1).1, Nat.le_trans (h q hq).2.len (by decide)⟩
  rd := fit_rd h hn
  fol := h.fol
theorem due_len (ps : List (Str × Str)) : (dueOf ps).length ≤ ps.length := by
  rw [dueOf, List.length_map]
  exact Nat.le_trans (firsts_len ps []) (by simp)
theorem facts (ps : List (Str × Str)) (hp : ∀ q ∈ ps, PairOk q) (_h1 : 1 ≤ ps.length) (h6 : ps.length ≤ 6) : LF ps := by
  have hF : Fit ps 3 := fun q hq => ⟨(hp q hq).1, (hp q hq).2⟩
  have hT : ∀ k, Fit (ps.take k) 3 := fun k q hq => hF q (List.mem_of_mem_take hq)
  refine ⟨fit_hd (hF.mono (by decide)) (by omega), dictP_eq ps, hung_law ps, hF.okL, hF.okH, hF.okD, ?_, ?_, fun k _ => cut_law ps k⟩
  · intro k _
    exact fit_hd ((hT k).mono (by decide)) (by rw [List.length_take]; omega)
  · intro k _
    have hk : (ps.take k).length ≤ 6 := by rw [List.length_take]; omega
    rw [told_eq]
    refine fit_hd (fun q hq => ?_) ?_
    · rcases List.mem_append.mp hq with hq | hq
      · exact (hT k).due.mono (by omega) q hq
      · exact hF.mono (by decide) q (List.mem_of_mem_drop hq)
    · have := due_len (ps.take k)
      rw [List.length_append, List.length_drop]; omega

theorem goal_of (hLF : ∀ ps : List (Str × Str), (∀ q ∈ ps, PairOk q) → 1 ≤ ps.length → ps.length ≤ 6 → LF ps) : PySem.Challenge.rw_pd0102_01.Holds := Mine.hd (by
  k_fill
  intro w s₀ s₁ mg mb G Y fa o pm cd doc dV kV ho hd hcd hD hmg hg args vals as hpre hlay hrd hwl hlo
  have KX := kIn_of Y
  refine Ground.open G ?_
  intro T B D TE TW
  try (refine guard_noD D (by decide +kernel) ?_; clear D)
  have hfa : mg (Str.ofString "law") = some (.ref 205) := mg_of KX T.g (by k_is)
  have e205 : fa = 205 := by
    have e : some (Value.ref fa) = some (Value.ref 205) := hmg.symm.trans hfa
    exact Value.ref.inj (Option.some.inj e)
  clear hmg hfa
  wrow_args hpre hlay hrd hwl hlo
  subst e205
  refine enter_call ?_
  refine codeAny_mono ?_ (fun _ _ g => GoodW.toG g)
  refine law_ok (c := 12) ⟨KX, T, rfl, by decide, by decide⟩ (by decide) (by assumption) (by assumption) (by omega) hLF (by decide) ?_
  intro L h tk m F
  refine goodW_bool F hg (raisesW_false ?_) ?_
  · wrow_none_raised
  · wrow_post)

end Mine
theorem PySem.Challenge.cw_pd0102_01_holds : PySem.Challenge.rw_pd0102_01.Holds :=
  Mine.goal_of Mine.facts

