import PyProof.Rows.All
import Wide.All
import OpenK.AllK
import Wide.FinOn
import Lean
import PySem.Challenge.RW_oc0165_02
set_option Elab.async false

section
-- Hd1B
namespace Mine
open PySem PySem.W PyProof.Rows
/-- the top's run over a tree of objects -/
noncomputable def goT (so : Nat → Option Value → Thread → Bool) (st : SharedT → Thread → Option (SharedT × Thread)) (n₀ : Nat) (ann : Option Value) : Nat → SharedT → Thread → Option SharedT
  | 0, _, _ => none
  | n + 1, s, t => match through t with
    | true => some s
    | false => match so n₀ ann t with
      | false => none
      | true => match st s t with
        | some (s', t') => goT so st n₀ ann n s' t'
        | none => none
theorem goT_of {tb : String → Option Builtin} {p : Program} {w : World} {n₀ : Nat} {ann : Option Value} : ∀ {n : Nat} {s s' : SharedT} {t : Thread}, goT stepOk (stepT (denote tb) p w) n₀ ann n s t = some s' → topRun tb p w n₀ ann n s.abs t = some s'.abs
  | 0, _, _, _, h => by cases h
  | n + 1, s, s', t, h => by
    unfold goT at h
    unfold topRun
    cases ht : through t with
    | true => rw [ht] at h; cases h; rfl
    | false =>
      rw [ht] at h
      cases hk : stepOk n₀ ann t with
      | false => rw [hk] at h; cases h
      | true =>
        rw [hk] at h
        cases hs : stepT (denote tb) p w s t with
        | none => rw [hs] at h; cases h
        | some r => obtain ⟨s₂, t₂⟩ := r; rw [hs] at h; rw [stepT_spec hs]; exact goT_of h
theorem left_tree {p q : Program} {loose : List Str} {Xt : Shared → Bool} {α : Type} {Yf : Shared → α} {Ya : World → α} {N m : Nat} {g0 : Bool} {T : Params → BT} {life : Life} {ann : Option Value} (e : opening p = plainProg p.main.scope.names) (hN : Nat.ble 600 N = true) (f : ∀ s, fenceModules? p s = some s)
    (hT : ∀ P, absHeap (T P) m life = boot_heap P) (z : ∀ P, ((boot_heap P).isNs mainGlobals, (boot_heap P).nsMap mainGlobals "__annotations__") = (true, ann))
    {so : Nat → Option Value → Thread → Bool} {dn : Code → Sem Fin} {st : (Code → Sem Fin) → Program → World → SharedT → Thread → Option (SharedT × Thread)} (e1 : stepOk = so) (e2 : denote treeTable = dn) (e3 : stepT = st) {ls : Program → List Str → List Str → (Shared → Bool) → Bool → Shared → _} (e4 : openSeen = ls)
    (h : ∀ (w : World) (os : OsState), (goT so (st dn p w) m ann N ⟨T w.params, m, life, Array.mk [], boot_drawn, boot_toks, os⟩ (topStub p)).map (fun s => ((staticsOk (importedModules p.main.body) (boot_heap w.params) s.abs.heap && namesBound p s.abs.heap && gensDone s.abs && laidKept (boot_heap w.params) s.abs.heap), ls q loose (importedModules p.main.body) Xt g0 s.abs, Yf s.abs)) = some (true, openGood q loose, Ya w)) : LeftO p q loose Xt Yf Ya N g0 := fun w => by
  subst e1 e2 e3 e4
  obtain ⟨⟨hp, gs, d, k, os⟩, x, y⟩ := Option.map_eq_some_iff.mp (boot_open e hN f w)
  obtain ⟨rfl, rfl, rfl, rfl⟩ : hp = boot_heap w.params ∧ gs = Array.mk [] ∧ d = boot_drawn ∧ k = boot_toks := by simpa using y
  obtain ⟨s', a, b⟩ := Option.map_eq_some_iff.mp (h w os)
  obtain ⟨b1, b2, b3⟩ : _ ∧ _ ∧ _ := by simpa only [Prod.mk.injEq] using b
  obtain ⟨z1, z2⟩ : _ ∧ _ := by simpa only [Prod.mk.injEq] using z w.params
  have r := goT_of a
  have sz : (boot_heap w.params).objs.size = m := by rw [← hT, absHeap_size]
  have ab : SharedT.abs ⟨T w.params, m, life, Array.mk [], boot_drawn, boot_toks, os⟩ = ⟨boot_heap w.params, Array.mk [], boot_drawn, boot_toks, os⟩ := by rw [← hT]; rfl
  rw [ab] at r
  have t : topFrom treeTable p w N ⟨boot_heap w.params, Array.mk [], boot_drawn, boot_toks, os⟩ = some s'.abs := by
    unfold topFrom
    dsimp only
    rw [z1, z2, sz, r]
    show (match staticsOk (importedModules p.main.body) (boot_heap w.params) s'.abs.heap && namesBound p s'.abs.heap && gensDone s'.abs && laidKept (boot_heap w.params) s'.abs.heap with | true => _ | false => _) = _
    rw [b1]
  unfold openEnds
  rw [x]
  show ((topFrom treeTable p w N _).map _) = _
  rw [t]
  show some (_, _) = _
  rw [b2, b3]
/-- the heap of the boot as a tree -/
noncomputable def bootT (P : Params) : BT := (boot_heap P).objs.toList.zipIdx.foldl (fun t x => t.ins x.2 x.1) .nil
theorem bootT_abs : ∀ P, absHeap (bootT P) 11 { debug := 0, thresholds := [2000, 10, 10] } = boot_heap P := by intro P; kernel_rfl
theorem den_tw : denote treeTable = Fast.tw11892475500146522536 Fast.tw14364793385576792824 := by rw [Fast.te11892475500146522536, Fast.te14364793385576792824]
/-- the top's statements that the walk sees -/
noncomputable def view : Program := { Challenge.pw_oc0165_02 with main := { Challenge.pw_oc0165_02.main with body := (Challenge.pw_oc0165_02.main.body.zipIdx.filter fun x => x.2 != 1 && x.2 != 6 && x.2 != 29 && x.2 != 31).map fun x => x.1 } }
noncomputable def bitsOf (l : List (Int × Nat)) : WData := .tuple (l.map fun q => .tuple [.int q.1, .str ⟨#[q.2]⟩])
noncomputable def looseL : List Str := [Str.ofString "_Accumulator", Str.ofString "_filemode_table"]
noncomputable def seenL : List (Str × WData) := [(Str.ofString "_filemode_table", WData.tuple [bitsOf [(40960, 108), (49152, 115), (32768, 45), (24576, 98), (16384, 100), (8192, 99), (4096, 112)], bitsOf [(256, 114)], bitsOf [(128, 119)], bitsOf [(2112, 115), (2048, 83), (64, 120)],
  bitsOf [(32, 114)], bitsOf [(16, 119)], bitsOf [(1032, 115), (1024, 83), (8, 120)], bitsOf [(4, 114)], bitsOf [(2, 119)], bitsOf [(513, 116), (512, 84), (1, 120)]])]
local macro_rules | `(tactic| o_head ($f $k $a $e $ts)) => do match ts with
  | `($_ :: []) => do
    let (hw, hc) := (Lean.mkIdent `hw, Lean.mkIdent `hc)
    `(tactic| (refine holds_open (q := view) (loose := looseL) (Xt := fun s => xlAt view seenL s && recOk (RowW.records (OpenRow.toRowW (OpenLaw.row Challenge.rw_oc0165_02))) s) (XP := XL view seenL) (Yf := Hook.obs ($f $k $a $e [140, 147, 283])) (Ya := Hook.val ($f $k $a $e [140, 147, 283])) (YP := Hook.says ($f $k $a $e [140, 147, 283])) (N := 3624) ?_ (Hook.of ($f $k $a $e [140, 147, 283])) (Hook.keeps ($f $k $a $e [140, 147, 283])) (fun s e => xl_of s (Bool.and_eq_true_iff.mp e).1) XL.keeps (by rfl) (by rfl) (by rfl) (fun s e => recFacts_of (Bool.and_eq_true_iff.mp e).2) (by rfl) (by first | assumption | decide +kernel) (by decide +kernel) ⟨rfl, rfl, rfl, rfl, rfl, by decide +kernel⟩ ?$hw ?$hc; (focus (refine left_tree (T := bootT) (ann := some (.ref 6)) (by kernel_rfl) (by kernel_rfl) (fun s => by kernel_rfl) bootT_abs (fun P => by kernel_rfl) Fast.te6613529449190102663 den_tw Fast.te10156331382660048174 Fast.te4187177175401517315 fun w os => ?_; kernel_rfl))))
  | _ => Lean.Macro.throwUnsupported
set_option maxRecDepth 100000 in
theorem said0 : OpenLaw.wellSaid Challenge.rw_oc0165_02 = true := by rw [Fast.te9446332074065402090]; kernel_rfl
local macro_rules | `(tactic| o_law) => `(tactic| refine holds_law said0 fun said => ?_)
set_option maxRecDepth 100000 in
set_option maxHeartbeats 8000000 in
open_top hd for PySem.Challenge.rw_oc0165_02
end Mine
end

section
-- BaseB
example : True := by w_top off; trivial
open PySem PySem.W PyProof.Rows PySem.Calls PySem.Spec
namespace Mine
theorem all_nil {α : Type} {P : α → Prop} : ∀ q ∈ ([] : List α), P q := fun _ h => nomatch h
theorem all_cons {α : Type} {P : α → Prop} {x : α} {l : List α} (h : P x) (t : ∀ q ∈ l, P q) : ∀ q ∈ x :: l, P q := List.forall_mem_cons.mpr ⟨h, t⟩
/-- what is known around a call: nothing handled, so deep, so many units -/
noncomputable abbrev Am (dp un : Nat) : Around := { handled := none, depth := dp, frames := none, guards := none, units := un }
theorem wp_up {α : Type} {M : Model} {A : Around} {D U : Nat} {t : Sem α} {Q : α → Shared → Prop} {E : Value → Shared → Prop} {s : Shared}
    (hh : A.handled = none) (hd : A.depth ≤ D) (hu : A.units ≤ U) (h : wpAny M (Am D U) t Q E s) : wpAny M A t Q E s :=
  fun Γ p hΓ => h Γ p ⟨hΓ.1.trans hh, Nat.le_trans hΓ.2.1 hd, (fun _ e => by cases e), (fun _ e => by cases e), Nat.le_trans hΓ.2.2.2.2 hu⟩
theorem code_up {M : Model} {A : Around} {D U : Nat} {c : Code} {R : Result → Shared → Prop} {s : Shared}
    (hh : A.handled = none) (hd : A.depth ≤ D) (hu : A.units ≤ U) (h : codeAny M (Am D U) c R s) : codeAny M A c R s :=
  fun Γ p hc hΓ => h Γ p hc ⟨hΓ.1.trans hh, Nat.le_trans hΓ.2.1 hd, (fun _ e => by cases e), (fun _ e => by cases e), Nat.le_trans hΓ.2.2.2.2 hu⟩

/-- the ground: the text's own objects, the top -/
structure Gd (w : World) (p : Program) (loose : List Str) (mean : ExcName → Option Value) (mg mb : Str → Option Value) (G : Heap) : Prop where
  X : (hd.heap_1 w.params).In G
  T : Top p loose mean mg mb G

section
variable {w : World} {p : Program} {loose : List Str} {mean : ExcName → Option Value} {mg mb : Str → Option Value} {G : Heap} {s : Shared}
  {R : Result → Shared → Prop} {name qual : Str} {params : Arguments} {body : List Stmt} {scope : Scope} {cl : List (Str × Addr)} {dV kV doc pm cdv ct oc : Value} {an od : Option Addr} {osl : Array (Option Value)} {f : Addr} {args : Args} {binds : List (Str × Value)} {dp un : Nat}

/-- a def is entered; the objects of led may be changed by it, all others not -/
theorem enterP (led : List (Addr × Obj)) (D : Gd w p loose mean mg mb G) (S : G.StaysIn s.heap) (hl : ∀ q ∈ led, s.heap.get? q.1 = some q.2) (hf : ∀ q ∈ led, G.get? q.1 = none)
    (ho : (hd.heap_1 w.params).lookup f = some ⟨oc, od, .func (fnX name qual params body scope cl dV kV doc pm an cdv ct), osl⟩) (hcd : codeIn (hd.heap_1 w.params) cdv qual = true) (hroom : dp < recursionLimit)
    (hbind : BindsTo s (fnX name qual params body scope cl dV kV doc pm an cdv ct) args binds) (hloc : ∀ y ∈ binds, scope.names.lookup y.1 = some .local)
    (hcell : ∀ x ∈ scope.names, x.2 ≠ .cell) (hco : scope.isCoroutine = false) (hgen : scope.isGenerator = false) (hk : scope.kind = .function)
    (h : ∀ g L' h₁, g = hideAll s.heap (led.map (·.1)) → L' = s.heap.objs.size → Fr g L' h₁ (fun y => binds.reverse.lookup y) → News g L' h₁ led → (hd.heap_1 w.params).In g → Top p loose mean mg mb g → (∀ q ∈ led, q.1 < L') →
      (∀ b o, s.heap.get? b = some o → (∀ q ∈ led, q.1 ≠ b) → g.get? b = some o) → G.StaysIn g →
      wpAny (model Challenge.rw_oc0165_02.row.prog w) (Am (dp + 1) (un + 3)) (execs body (envX qual scope L' f cdv cl)) (fun fl s' => R (.ok (.ret (match fl with | .ret v => v | _ => .none))) s') (fun _ _ => False)
        { s with heap := h₁, toks := s.toks + binds.length }) : codeAny (model Challenge.rw_oc0165_02.row.prog w) (Am dp un) (.call (.ref f) args) R s := by
  have nm : ∀ b o, G.get? b = some o → b ∉ led.map (·.1) := fun b o e q => by
    obtain ⟨p, hp, rfl⟩ := List.mem_map.mp q
    rw [hf p hp] at e; cases e
  have st : G.StaysIn (hideAll s.heap (led.map (·.1))) := fun b o e => hideAll_get _ (S b o e) (nm b o e)
  refine codeAny_call_def (fd := fnX name qual params body scope cl dV kV doc pm an cdv ct) (body := body) (binds := binds) hroom (S _ _ (D.X _ _ ho)) rfl (D.T.nolimit.keeps S) (codeRec_of (D.X.keeps S) hcd) rfl hbind hcell hloc (fun h₁ hns hk₁ => ?_) hco hgen hk
  refine wpAny_mono (h _ s.heap.objs.size h₁ rfl rfl ⟨hns, fun b o e => hk₁ b o (of_hideAll _ e), Nat.le_of_eq (hideAll_size _ _)⟩
    (fun p hp => ⟨hk₁ _ _ (hl p hp), Nat.ne_of_lt (Heap.lt_size (hl p hp)), hideAll_none _ (List.mem_map_of_mem hp)⟩) (D.X.keeps st) (D.T.keeps st) (fun p hp => Heap.lt_size (hl p hp))
    (fun b o e n => hideAll_get _ e fun q => ?_) st) (fun fl s' x => x) fun _ _ x => x.elim
  obtain ⟨p, hp, e'⟩ := List.mem_map.mp q
  exact n p hp e'
end
theorem as_if {m : Str → Option Value} {x : Str} {v : Value} (e : m x = some v) : ∃ m' : Str → Option Value, m = fun y => if y = x then some v else m' y :=
  ⟨m, by funext y; by_cases h : y = x <;> simp [h, e]⟩
theorem keeps_of {g h₁ h' : Heap} {L : Addr} {m : Str → Option Value} (hk : ∀ b o, h₁.get? b = some o → (∀ q ∈ ([] : List (Addr × Obj)), q.1 ≠ b) → g.get? b = some o) (F : Fr g L h' m) : ∀ b o, h₁.get? b = some o → h'.get? b = some o :=
  fun b o e => F.keep b o (hk b o e fun _ q => nomatch q)
theorem stays_fr {G g h : Heap} {L : Addr} {m : Str → Option Value} (F : Fr g L h m) (hs : G.StaysIn g) : G.StaysIn h := fun b o e => F.keep b o (hs b o e)
theorem frK {h₀ h : Heap} {L : Addr} {m : Str → Option Value} (F : Fr h₀ L h m) {h' : Heap} (hk : ∀ b o, h.get? b = some o → h'.get? b = some o) : Fr h₀ L h' m :=
  ⟨F.ns.at' fun o e => hk _ o e, fun b o e => hk b o (F.keep b o e), F.above⟩
theorem newsK {h₀ h : Heap} {L : Addr} {nw : List (Addr × Obj)} (N : News h₀ L h nw) {h' : Heap} (hk : ∀ b o, h.get? b = some o → h'.get? b = some o) : News h₀ L h' nw :=
  fun q hq => ⟨hk _ _ (N q hq).1, (N q hq).2⟩
theorem as_if2 {m : Str → Option Value} {x1 x2 : Str} {v1 v2 : Value} (e1 : m x1 = some v1) (e2 : m x2 = some v2) : ∃ m' : Str → Option Value, m = fun y => if y = x1 then some v1 else if y = x2 then some v2 else m' y :=
  ⟨m, by funext y; by_cases h1 : y = x1; (· subst h1; simp only [if_true]; exact e1); by_cases h2 : y = x2; (· subst h2; simp only [if_neg h1, if_true]; exact e2); simp only [if_neg h1, if_neg h2]⟩
theorem as_if3 {m : Str → Option Value} {x1 x2 x3 : Str} {v1 v2 v3 : Value} (e1 : m x1 = some v1) (e2 : m x2 = some v2) (e3 : m x3 = some v3) : ∃ m' : Str → Option Value, m = fun y => if y = x1 then some v1 else if y = x2 then some v2 else if y = x3 then some v3 else m' y :=
  ⟨m, by funext y; by_cases h1 : y = x1; (· subst h1; simp only [if_true]; exact e1); by_cases h2 : y = x2; (· subst h2; simp only [if_neg h1, if_true]; exact e2); by_cases h3 : y = x3; (· subst h3; simp only [if_neg h1, if_neg h2, if_true]; exact e3); simp only [if_neg h1, if_neg h2, if_neg h3]⟩
theorem as_if4 {m : Str → Option Value} {x1 x2 x3 x4 : Str} {v1 v2 v3 v4 : Value} (e1 : m x1 = some v1) (e2 : m x2 = some v2) (e3 : m x3 = some v3) (e4 : m x4 = some v4) : ∃ m' : Str → Option Value, m = fun y => if y = x1 then some v1 else if y = x2 then some v2 else if y = x3 then some v3 else if y = x4 then some v4 else m' y :=
  ⟨m, by funext y; by_cases h1 : y = x1; (· subst h1; simp only [if_true]; exact e1); by_cases h2 : y = x2; (· subst h2; simp only [if_neg h1, if_true]; exact e2); by_cases h3 : y = x3; (· subst h3; simp only [if_neg h1, if_neg h2, if_true]; exact e3); by_cases h4 : y = x4; (· subst h4; simp only [if_neg h1, if_neg h2, if_neg h3, if_true]; exact e4); simp only [if_neg h1, if_neg h2, if_neg h3, if_neg h4]⟩
end Mine
end

section
-- Loops
example : True := by w_top off; trivial
open PySem PySem.W PyProof.Rows PySem.Calls PySem.Spec
namespace Mine
/-- what a turn of a loop leaves -/
inductive LoopNext (h₀ : Heap) (L : Addr) (own : List (Addr × Obj)) (J : (Str → Option Value) → List (Addr × Obj) → Array GenState → Prop) (d : Drawn) (os : OsState) (s₂ : Shared) : Prop
  | mk (h' : Heap) (tk : Nat) (m' : Str → Option Value) (nw' : List (Addr × Obj)) (gs' : Array GenState) (e : s₂ = ⟨h', gs', d, tk, os⟩) (F : Fr h₀ L h' m') (N : News h₀ L h' (nw' ++ own)) (o : OwnOff own (nw'.map (·.1))) (j : J m' nw' gs')
/-- what holds between the turns -/
inductive LoopInv (h₀ : Heap) (L : Addr) (wr : List Addr) (St : Nat → Heap → Prop) (J : Nat → (Str → Option Value) → List (Addr × Obj) → Array GenState → Prop) (d : Drawn) (os : OsState) (n k : Nat) (s' : Shared) : Prop
  | mk (i : Nat) (h : Heap) (tk : Nat) (m : Str → Option Value) (nw : List (Addr × Obj)) (gs : Array GenState) (ek : k = n + 1 - i) (hi : i ≤ n) (e : s' = ⟨h, gs, d, tk, os⟩) (F : Fr h₀ L h m) (N : News h₀ L h nw) (hw : ∀ q ∈ nw, q.1 ∉ wr) (st : St i h) (j : J i m nw gs)
noncomputable def LoopPost (h₀ : Heap) (L : Addr) (own : List (Addr × Obj)) (J : (Str → Option Value) → List (Addr × Obj) → Array GenState → Prop) (d : Drawn) (os : OsState) (Q : Flow → Shared → Prop) (f : Flow) (s₂ : Shared) : Prop :=
  match f with
  | .ret v => Q (.ret v) s₂
  | .brk => Q .next s₂
  | _ => LoopNext h₀ L own J d os s₂

theorem exists_own {h : Heap} : ∀ {wr : List Addr}, (∀ b ∈ wr, ∃ o, h.get? b = some o) → ∃ own : List (Addr × Obj), own.map (·.1) = wr ∧ ∀ q ∈ own, h.get? q.1 = some q.2
  | [], _ => ⟨[], rfl, fun _ q => nomatch q⟩
  | b :: r, x => by
    obtain ⟨o, ho⟩ := x b (.head _)
    obtain ⟨own, h1, h2⟩ := exists_own (wr := r) fun b' hb => x b' (.tail _ hb)
    refine ⟨(b, o) :: own, by rw [List.map_cons, h1], fun q hq => ?_⟩
    rcases List.mem_cons.mp hq with rfl | hq
    · exact ho
    · exact h2 q hq

section
variable {prog : Program} {w : World} {A : Around} {E : Value → Shared → Prop} {s : Shared} {env : Env} {h₀ : Heap} {body orelse : List Stmt} {Q : Flow → Shared → Prop}

theorem forW {x : Str} {px : Pos} {I : Addr} {fp wr : List Addr} {n : Nat} {P : Nat → Value → Prop} {St : Nat → Heap → Prop} {m₀ : Str → Option Value} {nw₀ : List (Addr × Obj)}
    (J : Nat → (Str → Option Value) → List (Addr × Obj) → Array GenState → Prop)
    (W : Walks prog w A I fp wr n P St) (hlive : ∀ i h, St i h → ∀ b ∈ wr, ∃ o, h.get? b = some o)
    (hx : env.kindOf x = some .local) (hp : (env.scope.kind == .class || (env.scope.kind == .module && env.locals != env.globals)) = false)
    (hLf : env.locals ∉ fp) (hbw : ∀ b ∈ wr, h₀.get? b = none)
    (F : Fr h₀ env.locals s.heap m₀) (N : News h₀ env.locals s.heap nw₀) (hnw : ∀ q ∈ nw₀, q.1 ∉ wr) (hst : St 0 s.heap) (h0 : J 0 m₀ nw₀ s.gens)
    (hsrc0 : ∀ b ∈ fp, b ∉ wr → ∃ o, s.heap.get? b = some o)
    (hsrc : ∀ i m nw gs h, J i m nw gs → Fr h₀ env.locals h m → News h₀ env.locals h nw → ∀ b ∈ fp, b ∉ wr → ∀ o, s.heap.get? b = some o → h.get? b = some o)
    (turn : ∀ i v m nw h tk gs own E', i < n → P i v → J i m nw gs → OwnOff own (nw.map (·.1)) → Fr h₀ env.locals h (fun y => if y = x then some v else m y) → News h₀ env.locals h (nw ++ own) →
      wpAny (model prog w) A (execs body env) (LoopPost h₀ env.locals own (J (i + 1)) s.drawn s.os Q) E' ⟨h, gs, s.drawn, tk, s.os⟩)
    (done : ∀ m nw h tk gs E', J n m nw gs → Fr h₀ env.locals h m → News h₀ env.locals h nw → wpAny (model prog w) A (execs orelse env) Q E' ⟨h, gs, s.drawn, tk, s.os⟩) :
    codeAny (model prog w) A (.forLoop (.Name x px) (.ref I) body orelse env) (fun r s' => match r with | .ok f => Q f s' | .error e => cameBackBy (model prog w) A env E e s') s := by
  have hLw : env.locals ∉ wr := fun q => hLf (W.sub _ q)
  refine codeAny_forLoop (LoopInv h₀ env.locals wr St J s.drawn s.os n) ?_ (n + 1)
    ⟨0, s.heap, s.toks, m₀, nw₀, s.gens, rfl, Nat.zero_le _, rfl, F, N, hnw, hst, h0⟩
  rintro k s' ⟨i, h, tk, m, nw, gs, rfl, hi, rfl, F₁, N₁, hw₁, hst₁, hJ⟩
  by_cases hlt : i < n
  · refine W.item i _ _ _ hlt hst₁ fun v h₂ tk₂ hP hst₂ hk₂ => ?_
    replace hk₂ : ∀ b o, b ∉ wr → h.get? b = some o → h₂.get? b = some o := hk₂
    have F₂ : Fr h₀ env.locals h₂ m := ⟨F₁.ns.at' fun o e => hk₂ _ o hLw e, fun b o e => hk₂ b o (fun q => by rw [hbw b q] at e; cases e) (F₁.keep b o e), F₁.above⟩
    obtain ⟨own, ho1, ho2⟩ := exists_own (hlive _ _ hst₂)
    have hoff : OwnOff own (nw.map (·.1)) := fun q hq b hb e => by
      obtain ⟨r, hr, rfl⟩ := List.mem_map.mp hb
      exact hw₁ r hr (e ▸ ho1 ▸ List.mem_map_of_mem hq)
    have N₂ : News h₀ env.locals h₂ (nw ++ own) := fun q hq => by
      rcases (List.mem_append.mp hq).symm with hq | hq
      · have hm : q.1 ∈ wr := ho1 ▸ List.mem_map_of_mem hq
        exact ⟨ho2 q hq, fun e => hLw (e ▸ hm), hbw _ hm⟩
      · exact ⟨hk₂ _ _ (hw₁ q hq) (N₁ q hq).1, (N₁ q hq).2⟩
    refine wpAny_assign_Name (wpAny_storeName_local hx F₂.ns (fun h₃ hn₃ hs₃ => ?_) hp)
    have F₃ := F₂.set hn₃ hs₃
    have N₃ := N₂.set hs₃
    have hst₃ : St (i + 1) h₃ := W.frame _ _ _ hst₂ fun b hb o e => (hs₃.2 b fun q => hLf (q ▸ hb)).trans e
    refine wpAny_mono (turn i v m nw h₃ _ gs own _ hlt hP hJ hoff F₃ N₃) (fun f s₃ hf => ?_) fun _ _ e => e
    have fin : LoopNext h₀ env.locals own (J (i + 1)) s.drawn s.os s₃ →
        ∃ k', k' < n + 1 - i ∧ LoopInv h₀ env.locals wr St J s.drawn s.os n k' s₃ := by
      rintro ⟨h', tk', m', nw', gs', rfl, F', N', ho', hJ'⟩
      have hw' : ∀ q ∈ nw', q.1 ∉ wr := fun q hq hm => by
        rw [← ho1] at hm
        obtain ⟨r, hr, e⟩ := List.mem_map.mp hm
        exact ho' r hr q.1 (List.mem_map_of_mem hq) e
      have N'' : News h₀ env.locals h' nw' := fun q hq => N' q (List.mem_append_left _ hq)
      refine ⟨n + 1 - (i + 1), by omega, i + 1, h', tk', m', nw', gs', rfl, hlt, rfl, F', N'', hw', W.frame _ _ _ hst₃ fun b hb o e => ?_, hJ'⟩
      by_cases hbw' : b ∈ wr
      · rw [← ho1] at hbw'
        obtain ⟨q, hq, rfl⟩ := List.mem_map.mp hbw'
        have e1 := (N₃ q (List.mem_append_right _ hq)).1
        have e2 := (N' q (List.mem_append_right _ hq)).1
        rw [e1] at e
        exact e2.trans e
      · obtain ⟨o₀, ho₀⟩ := hsrc0 b hb hbw'
        have e1 := hsrc _ _ _ _ _ hJ F₁ N₁ b hb hbw' o₀ ho₀
        have e2 := hsrc _ _ _ _ _ hJ' F' N'' b hb hbw' o₀ ho₀
        have e3 : h₃.get? b = some o₀ := (hs₃.2 b fun q => hLf (q ▸ hb)).trans (hk₂ b o₀ hbw' e1)
        rw [e3] at e
        exact e2.trans e
    cases f with
    | ret v => exact hf
    | brk => exact hf
    | next => exact fin hf
    | cont => exact fin hf
  · obtain rfl : i = n := by omega
    refine W.done _ _ _ hst₁ fun h₂ tk₂ hk₂ => ?_
    replace hk₂ : ∀ b o, b ∉ wr → h.get? b = some o → h₂.get? b = some o := hk₂
    refine done m nw h₂ tk₂ gs _ hJ ⟨F₁.ns.at' fun o e => hk₂ _ o hLw e, fun b o e => hk₂ b o (fun q => by rw [hbw b q] at e; cases e) (F₁.keep b o e), F₁.above⟩ fun q hq => ⟨hk₂ _ _ (hw₁ q hq) (N₁ q hq).1, (N₁ q hq).2⟩
theorem forWU {xa xb : Str} {pa pb pt : Pos} {kt : Nat} {I : Addr} {fp wr : List Addr} {n : Nat} {Pt : Nat → Array Value → Prop} {St : Nat → Heap → Prop} {Mid : Nat → Addr → Heap → Prop} {m₀ : Str → Option Value} {nw₀ : List (Addr × Obj)}
    (J : Nat → (Str → Option Value) → List (Addr × Obj) → Array GenState → Prop) (hh : A.handled = none)
    (W : WalksU prog w A I fp wr n Pt St Mid) (hlive : ∀ i h, St i h → ∀ b ∈ wr, ∃ o, h.get? b = some o) (hpair : ∀ i vals, i < n → Pt i vals → ∃ va vb, vals = #[va, vb])
    (hxa : env.kindOf xa = some .local) (hxb : env.kindOf xb = some .local) (hp : (env.scope.kind == .class || (env.scope.kind == .module && env.locals != env.globals)) = false)
    (hLf : env.locals ∉ fp) (hbw : ∀ b ∈ wr, h₀.get? b = none)
    (F : Fr h₀ env.locals s.heap m₀) (N : News h₀ env.locals s.heap nw₀) (hnw : ∀ q ∈ nw₀, q.1 ∉ wr) (hst : St 0 s.heap) (h0 : J 0 m₀ nw₀ s.gens)
    (hsrc0 : ∀ b ∈ fp, b ∉ wr → ∃ o, s.heap.get? b = some o)
    (hsrc : ∀ i m nw gs h, J i m nw gs → Fr h₀ env.locals h m → News h₀ env.locals h nw → ∀ b ∈ fp, b ∉ wr → ∀ o, s.heap.get? b = some o → h.get? b = some o)
    (turn : ∀ i va vb m nw h tk gs own E', i < n → Pt i #[va, vb] → J i m nw gs → OwnOff own (nw.map (·.1)) → Fr h₀ env.locals h (fun y => if y = xb then some vb else if y = xa then some va else m y) → News h₀ env.locals h (nw ++ own) →
      wpAny (model prog w) A (execs body env) (LoopPost h₀ env.locals own (J (i + 1)) s.drawn s.os Q) E' ⟨h, gs, s.drawn, tk, s.os⟩)
    (done : ∀ m nw h tk gs E', J n m nw gs → Fr h₀ env.locals h m → News h₀ env.locals h nw → wpAny (model prog w) A (execs orelse env) Q E' ⟨h, gs, s.drawn, tk, s.os⟩) :
    codeAny (model prog w) A (.forLoop (.Tuple [.Name xa pa, .Name xb pb] kt pt) (.ref I) body orelse env) (fun r s' => match r with | .ok f => Q f s' | .error e => cameBackBy (model prog w) A env E e s') s := by
  have hLw : env.locals ∉ wr := fun q => hLf (W.sub _ q)
  refine codeAny_forLoop_any (LoopInv h₀ env.locals wr St J s.drawn s.os n) ?_ (n + 1)
    ⟨0, s.heap, s.toks, m₀, nw₀, s.gens, rfl, Nat.zero_le _, rfl, F, N, hnw, hst, h0⟩
  rintro k s' ⟨i, h, tk, m, nw, gs, rfl, hi, rfl, F₁, N₁, hw₁, hst₁, hJ⟩
  by_cases hlt : i < n
  · refine W.item i _ _ _ hlt hst₁ fun T vals ha tka hPt hT hmid hka => ?_
    replace hka : ∀ b o, b ∉ wr → h.get? b = some o → ha.get? b = some o := hka
    refine W.go _ _ _ i T _ _ _ hmid fun hb hst₂ hkb => ?_
    replace hkb : ∀ b o, b ∉ wr → ha.get? b = some o → hb.get? b = some o := hkb
    obtain ⟨va, vb, rfl⟩ := hpair i _ hlt hPt
    have hTb : hb.IsTuple T #[va, vb] := by
      obtain ⟨o, ho, r⟩ := hT
      exact ⟨o, hkb T o (W.apart _ _ _ hmid) ho, r⟩
    refine wpAny_assign_Tuple hh hTb rfl rfl fun h₂ hx₂ => ?_
    replace hx₂ : Heap.ExtBut hb.objs.size hb h₂ := hx₂
    have oldb : ∀ b o, hb.get? b = some o → h₂.get? b = some o := fun b o e => hx₂ b o (Nat.ne_of_lt (Heap.lt_size e)) e
    have hk₂ : ∀ b o, b ∉ wr → h.get? b = some o → h₂.get? b = some o := fun b o hbw' e => oldb b o (hkb b o hbw' (hka b o hbw' e))
    have hst₂' : St (i + 1) h₂ := W.frame _ _ _ hst₂ fun b _ o e => oldb b o e
    have F₂ : Fr h₀ env.locals h₂ m := ⟨F₁.ns.at' fun o e => hk₂ _ o hLw e, fun b o e => hk₂ b o (fun q => by rw [hbw b q] at e; cases e) (F₁.keep b o e), F₁.above⟩
    obtain ⟨own, ho1, ho2⟩ := exists_own (hlive _ _ hst₂')
    have hoff : OwnOff own (nw.map (·.1)) := fun q hq b hb e => by
      obtain ⟨r, hr, rfl⟩ := List.mem_map.mp hb
      exact hw₁ r hr (e ▸ ho1 ▸ List.mem_map_of_mem hq)
    have N₂ : News h₀ env.locals h₂ (nw ++ own) := fun q hq => by
      rcases (List.mem_append.mp hq).symm with hq | hq
      · have hm : q.1 ∈ wr := ho1 ▸ List.mem_map_of_mem hq
        exact ⟨ho2 q hq, fun e => hLw (e ▸ hm), hbw _ hm⟩
      · exact ⟨hk₂ _ _ (hw₁ q hq) (N₁ q hq).1, (N₁ q hq).2⟩
    show wpAny _ A (do holding [vb] (assign (.Name xa pa) env va); do holding [] (assign (.Name xb pb) env vb); pure ()) _ _ _
    refine wpAny_bind (wpAny_holding (wpAny_assign_Name (wpAny_storeName_local hxa F₂.ns (fun h₃a hn₃a hs₃a => ?_) hp)))
    have F₃a := F₂.set hn₃a hs₃a
    have N₃a := N₂.set hs₃a
    refine wpAny_bind (wpAny_holding (wpAny_assign_Name (wpAny_storeName_local hxb F₃a.ns (fun h₃ hn₃ hs₃ => wpAny_pure ?_) hp)))
    have F₃ := F₃a.set hn₃ hs₃
    have N₃ := N₃a.set hs₃
    have hsb : ∀ b, b ∈ fp → h₃.get? b = h₂.get? b := fun b hb => (hs₃.2 b fun q => hLf (q ▸ hb)).trans (hs₃a.2 b fun q => hLf (q ▸ hb))
    have hst₃ : St (i + 1) h₃ := W.frame _ _ _ hst₂' fun b hb o e => (hsb b hb).trans e
    refine wpAny_mono (turn i va vb m nw h₃ _ gs own _ hlt hPt hJ hoff F₃ N₃) (fun f s₃ hf => ?_) fun _ _ e => e
    have fin : LoopNext h₀ env.locals own (J (i + 1)) s.drawn s.os s₃ →
        ∃ k', k' < n + 1 - i ∧ LoopInv h₀ env.locals wr St J s.drawn s.os n k' s₃ := by
      rintro ⟨h', tk', m', nw', gs', rfl, F', N', ho', hJ'⟩
      have hw' : ∀ q ∈ nw', q.1 ∉ wr := fun q hq hm => by
        rw [← ho1] at hm
        obtain ⟨r, hr, e⟩ := List.mem_map.mp hm
        exact ho' r hr q.1 (List.mem_map_of_mem hq) e
      have N'' : News h₀ env.locals h' nw' := fun q hq => N' q (List.mem_append_left _ hq)
      refine ⟨n + 1 - (i + 1), by omega, i + 1, h', tk', m', nw', gs', rfl, hlt, rfl, F', N'', hw', W.frame _ _ _ hst₃ fun b hb o e => ?_, hJ'⟩
      by_cases hbw' : b ∈ wr
      · rw [← ho1] at hbw'
        obtain ⟨q, hq, rfl⟩ := List.mem_map.mp hbw'
        have e1 := (N₃ q (List.mem_append_right _ hq)).1
        have e2 := (N' q (List.mem_append_right _ hq)).1
        rw [e1] at e
        exact e2.trans e
      · obtain ⟨o₀, ho₀⟩ := hsrc0 b hb hbw'
        have e1 := hsrc _ _ _ _ _ hJ F₁ N₁ b hb hbw' o₀ ho₀
        have e2 := hsrc _ _ _ _ _ hJ' F' N'' b hb hbw' o₀ ho₀
        have e3 : h₃.get? b = some o₀ := (hsb b hb).trans (hk₂ b o₀ hbw' e1)
        rw [e3] at e
        exact e2.trans e
    cases f with
    | ret v => exact hf
    | brk => exact hf
    | next => exact fin hf
    | cont => exact fin hf
  · obtain rfl : i = n := by omega
    refine W.done _ _ _ hst₁ fun h₂ tk₂ hk₂ => ?_
    replace hk₂ : ∀ b o, b ∉ wr → h.get? b = some o → h₂.get? b = some o := hk₂
    refine done m nw h₂ tk₂ gs _ hJ ⟨F₁.ns.at' fun o e => hk₂ _ o hLw e, fun b o e => hk₂ b o (fun q => by rw [hbw b q] at e; cases e) (F₁.keep b o e), F₁.above⟩ fun q hq => ⟨hk₂ _ _ (hw₁ q hq) (N₁ q hq).1, (N₁ q hq).2⟩
end
end Mine
end

section
-- TupSrc
example : True := by w_top off; trivial
open PySem PySem.W PyProof.Rows PySem.Calls PySem.Spec
namespace Mine
open PySem.AutoSeq1 (wpAny_loadPart')
set_option maxRecDepth 100000
theorem isTuple_at {h h' : Heap} {a : Addr} {items : Array Value} (x : h.IsTuple a items) (e : ∀ o, h.get? a = some o → h'.get? a = some o) : h'.IsTuple a items := let ⟨o, ho, r⟩ := x; ⟨o, e _ ho, r⟩
theorem isTupleIter_at {h h' : Heap} {a t : Addr} {i : Nat} (x : h.IsTupleIter a t i) (e : ∀ o, h.get? a = some o → h'.get? a = some o) : h'.IsTupleIter a t i := let ⟨o, ho, r⟩ := x; ⟨o, e _ ho, r⟩
section
variable {prog : Program} {w : World} {A : Around} {E : Value → Shared → Prop} {s : Shared}
theorem nextOf_tuple_item {it l : Addr} {i : Nat} {items} {x : Value} {Q : Value → Shared → Prop} (hit : s.heap.IsTupleIter it l i)
    (hl : s.heap.IsTuple l items) (hx : items[i]? = some x)
    (hQ : ∀ h', h'.IsTupleIter it l (i + 1) → Heap.SameBut it s.heap h' → Q x { s with heap := h' }) :
    wpAny (model prog w) A (Builtin.SmallTypes.nextOf (.ref it)) Q E s := by
  obtain ⟨o, ho, hc, hd⟩ := id hit
  obtain ⟨ol, hol, _, nl, hdl⟩ := hl
  unfold Builtin.SmallTypes.nextOf
  refine wpAny_bind (wpAny_callSpecial?_slot (name := Str.ofString "__next__") hit.typeIs F.slot_tuple_iterator_next
    (wpAny_call_entry F.slot_tuple_iterator_next hit.typeIs F.entry_tuple_iterator_next ?_ (F.args_tuple_iterator_next_1 _)))
  show wpAny _ _ (field (.ref it) 0 >>= _) _ _ s
  refine wpAny_bind (wpAny_field ho hd (x := .ref l) rfl ?_)
  show wpAny _ _ (if (Value.ref l == Value.none) = true then _ else _) _ _ s
  rw [if_neg (show ¬ ((Value.ref l == Value.none) = true) from Bool.false_ne_true)]
  show wpAny _ _ (field (.ref it) 1 >>= _) _ _ s
  refine wpAny_bind (wpAny_field ho hd (x := .int i 0) rfl ?_)
  show wpAny _ _ (seqItems? (.ref l) >>= _) _ _ s
  refine wpAny_bind (wpAny_seqItems hol hdl ?_)
  simp only [Int.toNat_natCast, hx]
  refine wpAny_bind (wpAny_setField ho hd (by simp) (wpAny_pure ⟨x, rfl, wpAny_pure (hQ _ ?_ (Heap.SameBut.update ..))⟩))
  exact ⟨_, Heap.get?_update_self _ ho (Obj.isFreed_of_fields (Obj.data_mapFields hd _)), (Obj.cls_mapFields ..).trans hc, by
    rw [Obj.data_mapFields hd]; simp [rawInt]⟩

theorem nextOf_tuple_end {it l : Addr} {i : Nat} {items} {Q : Value → Shared → Prop} (hh : A.handled = none)
    (hit : s.heap.IsTupleIter it l i) (hl : s.heap.IsTuple l items) (hx : items[i]? = none)
    (hE : ∀ h' e, Heap.ExtBut it s.heap h' → (∃ o, h'.get? e = some o ∧ o.cls = .type "StopIteration") → E (.ref e) { s with heap := h' }) :
    wpAny (model prog w) A (Builtin.SmallTypes.nextOf (.ref it)) Q E s := by
  obtain ⟨o, ho, hc, hd⟩ := id hit
  obtain ⟨ol, hol, _, nl, hdl⟩ := hl
  unfold Builtin.SmallTypes.nextOf
  refine wpAny_bind (wpAny_callSpecial?_slot (name := Str.ofString "__next__") hit.typeIs F.slot_tuple_iterator_next
    (wpAny_call_entry F.slot_tuple_iterator_next hit.typeIs F.entry_tuple_iterator_next ?_ (F.args_tuple_iterator_next_1 _)))
  show wpAny _ _ (field (.ref it) 0 >>= _) _ _ s
  refine wpAny_bind (wpAny_field ho hd (x := .ref l) rfl ?_)
  show wpAny _ _ (if (Value.ref l == Value.none) = true then _ else _) _ _ s
  rw [if_neg (show ¬ ((Value.ref l == Value.none) = true) from Bool.false_ne_true)]
  show wpAny _ _ (field (.ref it) 1 >>= _) _ _ s
  refine wpAny_bind (wpAny_field ho hd (x := .int i 0) rfl ?_)
  show wpAny _ _ (seqItems? (.ref l) >>= _) _ _ s
  refine wpAny_bind (wpAny_seqItems hol hdl ?_)
  simp only [Int.toNat_natCast, hx]
  refine wpAny_bind (wpAny_rule (wpAny_bind (wpAny_setField ho hd (by simp) ?_)))
  show wpAny _ _ (newExc (.type "StopIteration") [] >>= _) _ _ _
  refine wpAny_bind ?_
  simp only [newExc, newTuple]
  refine wpAny_bind (wpAny_newObj_type ?_ (by size_fits))
  refine wpAny_bind (m := firstArgMember _ _) (wpAny_of_eq (a := Value.none) (by first | rfl | (simp only [firstArgMember]; rfl)) ?_)
  refine wpAny_newObj_type ?_ (by size_fits)
  simp only [raiseNew]
  refine wpAny_bind (wpAny_handled ?_)
  first | rw [show A.in1.handled = none from hh] | rw [hh]
  refine wpAny_bind (wpAny_pure (wpAny_throw ?_))
  exact hE _ _ (((Heap.SameBut.update ..).extBut.push _).push _) ⟨_, Heap.get?_push_size _ rfl, rfl⟩
end
theorem draws_tuple {prog : Program} {w : World} {A : Around} (hh : A.handled = none) (it l : Addr) (hne : l ≠ it) (items : Array Value) :
    Draws prog w A it [it, l] items.size (fun i v => items[i]? = some v) (fun i h => h.IsTupleIter it l i ∧ h.IsTuple l items) where
  live := fun _ _ st => let ⟨o, ho, _⟩ := st.1; ⟨o, ho⟩
  frame := fun _ _ _ st hk => ⟨isTupleIter_at st.1 fun o e => hk it (by simp) o e, isTuple_at st.2 fun o e => hk l (by simp) o e⟩
  item := fun i s Q E hi st hQ => by
    refine nextOf_tuple_item st.1 st.2 (x := items[i]) (by simp [hi]) fun h' hit' hs' => ?_
    exact hQ _ h' s.toks (by simp [hi]) ⟨hit', st.2.extBut hs'.extBut hne⟩ hs'
  done := fun s Q E st hE => nextOf_tuple_end hh st.1 st.2 (by simp) hE

theorem meets_enumerate_newT (l : Addr) (items : Array Value) (n : Nat) (dct : Option Addr) (sl : Array (Option Value)) :
    Meets (Builtin.«enumerate.__new__» ⟨[.type "enumerate", .ref l], []⟩) (fun _ R s => s.heap.get? l = some { cls := .type "tuple", dict := dct, data := .seq items n, slots := sl } ∧
      R (.ok (.ret (.ref (s.heap.push { cls := .type "tuple_iterator", data := .fields #[.ref l, .int 0 0] }).objs.size)))
        { s with heap := (s.heap.push { cls := .type "tuple_iterator", data := .fields #[.ref l, .int 0 0] }).push { cls := .type "enumerate", data := .fields #[.none, .bool false, .ref s.heap.objs.size, rawInt 0, .none, .none] } }) :=
  .of_wp fun prog w A R s h => by
    obtain ⟨hp, g, d, tk, os⟩ := s; obtain ⟨hl, h⟩ := h
    have hsub := sub_enumerate
    have hL : Heap.IsTuple (Shared.heap ⟨hp, g, d, tk, os⟩) l items := ⟨_, hl, rfl, n, rfl⟩
    wp_walk using wpAny_loadPart' hl
    refine wpAny_stack_any fun st => wpAny_pure ?_
    split
    · rename_i c _ _ _ _ _
      cases (c == Value.type "enumerate")
      · wp_walk using wpAny_loadPart' hl, wpAny_pyIter_tuple hL
        exact ⟨_, rfl, h⟩
      · wp_walk using wpAny_loadPart' hl, wpAny_pyIter_tuple hL
        exact ⟨_, rfl, h⟩
    · wp_walk using wpAny_loadPart' hl, wpAny_pyIter_tuple hL
      exact ⟨_, rfl, h⟩
section
variable {prog : Program} {w : World} {A : Around} {E : Value → Shared → Prop} {s : Shared}
theorem call_enumerate_tuple {l : Addr} {items : Array Value} {Q : Value → Shared → Prop} (hL : s.heap.IsTuple l items)
    (h : ∀ h', IsEnum h' (s.heap.objs.size + 1) s.heap.objs.size 0 .none → h'.IsTupleIter s.heap.objs.size l 0 → h'.objs.size = s.heap.objs.size + 2 →
      (∀ b o, s.heap.get? b = some o → h'.get? b = some o) → Q (.ref (s.heap.objs.size + 1)) { s with heap := h' }) :
    wpAny (model prog w) A (call (.type "enumerate") [.ref l]) Q E s := by
  obtain ⟨⟨c, dct, dt, sl⟩, hl, hc, n, hd⟩ := hL
  replace hc : c = .type "tuple" := hc
  replace hd : dt = .seq items n := hd
  subst hc hd
  refine callType_new F.called_enumerate (by decide) (F.typeCall_enumerate_1 _) (F.newCall_enumerate_1 _) (fun obj => F.args_object_init_2 obj _) F.entry_enumerate_new
    (meets_enumerate_newT l items n dct sl) ⟨hl, ?_⟩
  have hz : (s.heap.push { cls := .type "tuple_iterator", data := .fields #[.ref l, .int 0 0] }).objs.size = s.heap.objs.size + 1 := Heap.size_push ..
  show _ ∧ _
  rw [hz]
  have he : IsEnum ((s.heap.push { cls := .type "tuple_iterator", data := .fields #[.ref l, .int 0 0] }).push
      { cls := .type "enumerate", data := .fields #[.none, .bool false, .ref s.heap.objs.size, rawInt 0, .none, .none] }) (s.heap.objs.size + 1) s.heap.objs.size 0 .none := by
    have := Heap.get?_push_size (s.heap.push { cls := .type "tuple_iterator", data := .fields #[.ref l, .int 0 0] })
      (o := { cls := .type "enumerate", data := .fields #[.none, .bool false, .ref s.heap.objs.size, rawInt 0, .none, .none] }) rfl
    rw [hz] at this; exact this
  refine ⟨⟨_, he, rfl⟩, h _ he ⟨_, Heap.get?_push_of_some _ (Heap.get?_push_size _ rfl), rfl, rfl⟩ (by rw [Heap.size_push, hz]) fun b o x => Heap.get?_push_of_some _ (Heap.get?_push_of_some _ x)⟩

theorem letOwnedTupleGo_tupiter {elts : List Expr} {x1} {pos : Pos} {I l T : Addr} {i : Nat} {Q : Unit → Shared → Prop} (hit : s.heap.IsTupleIter I l i) (hQ : Q () s) :
    wpAny (model prog w) A (letOwnedTupleGo (.Tuple elts x1 pos) (.ref I) (.ref T)) Q E s := by
  obtain ⟨o, ho, hc, hd⟩ := hit
  unfold letOwnedTupleGo
  refine wpAny_bind (wpAny_load ho ?_)
  rw [hc, hd]
  show wpAny _ A (if (["enumerate", "zip", "dict_itemiterator", "dict_reverseitemiterator", "odict_iterator", "itertools.zip_longest", "itertools.pairwise"].contains "tuple_iterator" &&
      (#[.ref l, .int i 0] : Array Value)[0]? == some (rawInt T)) = true then _ else _) Q E s
  rw [if_neg (by
    intro h
    rw [show (["enumerate", "zip", "dict_itemiterator", "dict_reverseitemiterator", "odict_iterator", "itertools.zip_longest", "itertools.pairwise"].contains "tuple_iterator") = false from by decide, Bool.false_and] at h
    cases h)]
  exact wpAny_pure hQ
theorem pyIter_tupiter {I l : Addr} {i : Nat} {Q : Value → Shared → Prop} (hit : s.heap.IsTupleIter I l i) (hQ : Q (.ref I) s) : wpAny (model prog w) A (pyIter (.ref I)) Q E s := by
  refine wpAny_pyIter_slot hit.typeIs F.slot_tuple_iterator_iter (wpAny_call_entry F.slot_tuple_iterator_iter hit.typeIs F.entry_tuple_iterator_iter ?_ (F.args_tuple_iterator_iter_1 _))
  show wpAny _ _ (ret (.ref I)) _ _ s
  exact wpAny_pure ⟨_, rfl, "tuple_iterator", _, hit.typeIs, F.slot_tuple_iterator_next.lookup, hQ⟩
end
theorem walksU_tupleOfTuples {prog : Program} {w : World} {A : Around} (hh : A.handled = none) (I ax : Addr) (hne : ax ≠ I) (items : Array Value) (Ts : Nat → Addr) (vals : Nat → Array Value)
    (hit : ∀ j, j < items.size → items[j]? = some (.ref (Ts j))) (hTI : ∀ j, j < items.size → Ts j ≠ I) :
    WalksU prog w A I (I :: ax :: (List.range items.size).map Ts) [I] items.size (fun j v => v = vals j)
      (fun j h => h.IsTupleIter I ax j ∧ h.IsTuple ax items ∧ ∀ k, k < items.size → h.IsTuple (Ts k) (vals k))
      (fun j T h => (j < items.size ∧ T = Ts j) ∧ h.IsTupleIter I ax (j + 1) ∧ h.IsTuple ax items ∧ ∀ k, k < items.size → h.IsTuple (Ts k) (vals k)) where
  sub := fun b hb => by simp at hb; simp [hb]
  frame := fun _ _ _ st hk => ⟨isTupleIter_at st.1 fun o e => hk I (by simp) o e, isTuple_at st.2.1 fun o e => hk ax (by simp) o e,
    fun k hk' => isTuple_at (st.2.2 k hk') fun o e => hk (Ts k) (List.mem_cons_of_mem _ (List.mem_cons_of_mem _ (List.mem_map.mpr ⟨k, List.mem_range.mpr hk', rfl⟩))) o e⟩
  item := fun i s Q E hi st hQ => by
    refine wpAny_pyNext_tuple_item st.1 st.2.1 (x := .ref (Ts i)) (hit i hi) fun h' hit' hs' => ?_
    have tup : ∀ k, k < items.size → h'.IsTuple (Ts k) (vals k) := fun k hk' => (st.2.2 k hk').extBut hs'.extBut (hTI k hk')
    exact hQ (Ts i) (vals i) h' s.toks rfl (tup i hi) ⟨⟨hi, rfl⟩, hit', st.2.1.extBut hs'.extBut hne, tup⟩ fun b o hb e => hs'.extBut b o (fun h => hb (by simp [h])) e
  go := fun _ _ _ _ _ s Q _ hm hQ => letOwnedTupleGo_tupiter hm.2.1 (hQ s.heap hm.2 fun _ _ _ e => e)
  apart := fun j T _ hm hmem => by
    rcases List.mem_cons.mp hmem with e | e
    · exact hTI j hm.1.1 (hm.1.2 ▸ e)
    · cases e
  done := fun s Q E st hQ => wpAny_pyNext_tuple_end hh st.1 st.2.1 (by simp) fun h' he' => hQ h' s.toks fun b o hb e => he' b o (fun h => hb (by simp [h])) e
  self := fun _ _ _ _ st hQ => pyIter_tupiter st.1 hQ
end Mine
end

section
-- LeafB
example : True := by w_top off; trivial
open PySem PySem.W PyProof.Rows PySem.Calls PySem.Spec
namespace Mine
/-- which sign is greater, by the bits alone -/
noncomputable def rankZ (mode place : Int) : Int :=
  if place = 0 then [1, 6, 3, 1, 4, 1, 2, 1, 0, 1, 5, 1, 7, 1, 1, 1].getD (mode.fdiv 4096).toNat 0
  else if place.fmod 3 ≠ 0 then (mode.fdiv (2 ^ (9 - place).toNat)).fmod 2
  else if (mode.fdiv (2 ^ (9 - place).toNat)).fmod 2 = 1 then 3 - (mode.fdiv (2 ^ (12 - place.fdiv 3).toNat)).fmod 2 else (mode.fdiv (2 ^ (12 - place.fdiv 3).toNat)).fmod 2
section
variable {w : World} {p : Program} {loose : List Str} {mean : ExcName → Option Value} {mg mb : Str → Option Value} {G : Heap} {s : Shared} {Q E : Value → Shared → Prop}
set_option maxRecDepth 100000
set_option maxHeartbeats 8000000
theorem c_ifmt {mode : Int} {t1 : Tok} (D : Gd w p loose mean mg mb G) (St : G.StaysIn s.heap)
    (hret : ∀ t h' tk', (∀ b o, s.heap.get? b = some o → h'.get? b = some o) → Q (.int (Builtin.bitAnd mode 61440) t) { s with heap := h', toks := tk' }) :
    wpAny (model Challenge.rw_oc0165_02.row.prog w) (Am 800 600) (call (.ref 189) [.int mode t1]) Q E s := by
  have fill : (hd.heap_1 w.params).In G := D.X
  revert fill
  k_fill
  intro _
  refine wpAny_call ?_
  ((k_dflt (refine' enterP [] ?k1 ?k2 ?k3 ?k4 ?k6 ?k7 ?k8 ?k9 ?kB ?c5 ?c2 ?c3 ?c4 ?_; (case k1 => assumption); (case k2 => assumption); (case k3 => exact fun _ q => nomatch q); (case k4 => exact fun _ q => nomatch q); (case k6 => k_is); (case k7 => k_is); (case k8 => decide); (case k9 => exact BindsTo.of_eq rfl); (case kB => exact locs rfl); (case c5 => decide); (case c2 => exact rfl); (case c3 => exact rfl); (case c4 => exact rfl))))
  intro g L h hg hL F N X T l1 hkeep hst
  dsimp only
  k_fold
  (repeat' (first | (fail_if_success (with_reducible show wpAny _ _ (exec (Stmt.For _ _ _ _ _) _) _ _ _)); (first | (k_unfold; (try dsimp only)) | walk1 | (dsimp only; walk1))))
  try k_unfold
  dsimp only
  exact hret _ _ _ (keeps_of hkeep (by assumption))
theorem c_cmp {x y : Str} {t1 t2 : Tok} (D : Gd w p loose mean mg mb G) (St : G.StaysIn s.heap)
    (hret : ∀ t h' tk', (∀ b o, s.heap.get? b = some o → h'.get? b = some o) → Q (.int (b2i (decide (y.cps.toList < x.cps.toList)) - b2i (decide (x.cps.toList < y.cps.toList))) t) { s with heap := h', toks := tk' }) :
    wpAny (model Challenge.rw_oc0165_02.row.prog w) (Am 800 600) (call (.ref 236) [.str x t1, .str y t2]) Q E s := by
  refine wpAny_call ?_
  ((k_dflt (refine' enterP [] ?k1 ?k2 ?k3 ?k4 ?k6 ?k7 ?k8 ?k9 ?kB ?c5 ?c2 ?c3 ?c4 ?_; (case k1 => assumption); (case k2 => assumption); (case k3 => exact fun _ q => nomatch q); (case k4 => exact fun _ q => nomatch q); (case k6 => k_is); (case k7 => k_is); (case k8 => decide); (case k9 => exact BindsTo.of_eq rfl); (case kB => exact locs rfl); (case c5 => decide); (case c2 => exact rfl); (case c3 => exact rfl); (case c4 => exact rfl))))
  intro g L h hg hL F N X T l1 hkeep hst
  dsimp only
  k_fold
  (repeat' (first | (fail_if_success (with_reducible show wpAny _ _ (exec (Stmt.For _ _ _ _ _) _) _ _ _)); (first | (k_unfold; (try dsimp only)) | walk1 | (dsimp only; walk1))))
  try k_unfold
  dsimp only
  exact hret _ _ _ (keeps_of hkeep (by assumption))
theorem c_rank {mode place : Int} {t1 t2 : Tok} (D : Gd w p loose mean mg mb G) (St : G.StaysIn s.heap) (h1 : 0 ≤ mode) (h2 : mode < 65536) (h3 : 0 ≤ place) (h4 : place < 10)
    (hret : ∀ t h' tk', (∀ b o, s.heap.get? b = some o → h'.get? b = some o) → Q (.int (rankZ mode place) t) { s with heap := h', toks := tk' }) :
    wpAny (model Challenge.rw_oc0165_02.row.prog w) (Am 800 600) (call (.ref 248) [.int mode t1, .int place t2]) Q E s := by
  refine wpAny_call ?_
  ((k_dflt (refine' enterP [] ?k1 ?k2 ?k3 ?k4 ?k6 ?k7 ?k8 ?k9 ?kB ?c5 ?c2 ?c3 ?c4 ?_; (case k1 => assumption); (case k2 => assumption); (case k3 => exact fun _ q => nomatch q); (case k4 => exact fun _ q => nomatch q); (case k6 => k_is); (case k7 => k_is); (case k8 => decide); (case k9 => exact BindsTo.of_eq rfl); (case kB => exact locs rfl); (case c5 => decide); (case c2 => exact rfl); (case c3 => exact rfl); (case c4 => exact rfl))))
  intro g L h hg hL F N X T l1 hkeep hst
  dsimp only
  k_fold
  (repeat' (first | (fail_if_success (with_reducible show wpAny _ _ (exec (Stmt.For _ _ _ _ _) _) _ _ _)); (first | (k_unfold; (try dsimp only)) | walk1 | (dsimp only; walk1))))
  all_goals (try k_unfold)
  all_goals (try dsimp only)
  all_goals (refine cast (congrArg (fun r => Q (.int r _) _) ?_) (hret _ _ _ (keeps_of hkeep (by assumption))))
  all_goals unfold rankZ
  all_goals first
    | exact if_pos (by assumption)
    | (rw [if_neg (by assumption)]; first
      | exact if_pos (by assumption)
      | (rw [if_neg (by first | assumption | (intro hh; exact hh (by assumption)))]; first
        | exact if_pos (by assumption)
        | exact if_neg (by assumption)))
end
section
variable {w : World} {p : Program} {loose : List Str} {mean : ExcName → Option Value} {mg mb : Str → Option Value} {G g : Heap} {L : Addr} {m : Str → Option Value} {nw : List (Addr × Obj)} {A : Around} {s : Shared} {Q E : Value → Shared → Prop}
theorem u_ifmt {mode : Int} {t1 : Tok} (F : Fr g L s.heap m) (N : News g L s.heap nw) (D : Gd w p loose mean mg mb G) (hs : G.StaysIn g) (hh : A.handled = none) (hd : A.depth ≤ 800) (hu : A.units ≤ 600)
    (k : ∀ t h' tk', Fr g L h' m → News g L h' nw → Q (.int (Builtin.bitAnd mode 61440) t) { s with heap := h', toks := tk' }) :
    wpAny (model Challenge.rw_oc0165_02.row.prog w) A (call (.ref 189) [.int mode t1]) Q E s :=
  wp_up hh hd hu (c_ifmt D (stays_fr F hs) fun t h' tk' hk => k t h' tk' (frK F hk) (newsK N hk))
end
end Mine
end

section
-- Loops2
example : True := by w_top off; trivial
open PySem PySem.W PyProof.Rows PySem.Calls PySem.Spec
namespace Mine
theorem fr_push {h₀ h : Heap} {L : Addr} {m : Str → Option Value} (F : Fr h₀ L h m) {h' : Heap} (hk : ∀ b o, h.get? b = some o → h'.get? b = some o) : Fr h₀ L h' m :=
  ⟨F.ns.at' fun o e => hk _ o e, fun b o e => hk b o (F.keep b o e), F.above⟩
theorem news_keep {h₀ h : Heap} {L : Addr} {nw : List (Addr × Obj)} (N : News h₀ L h nw) {h' : Heap} (hk : ∀ b o, h.get? b = some o → h'.get? b = some o) : News h₀ L h' nw :=
  fun q hq => ⟨hk _ _ (N q hq).1, (N q hq).2⟩
theorem fresh_base {h₀ h : Heap} {L : Addr} {m : Str → Option Value} (F : Fr h₀ L h m) {I : Addr} (hI : h.objs.size ≤ I) : h₀.get? I = none := by
  cases e : h₀.get? I with
  | none => rfl
  | some o => exact absurd (Heap.lt_size (F.keep _ _ e)) (Nat.not_lt.mpr hI)
theorem fresh_news {h₀ h : Heap} {L : Addr} {nw : List (Addr × Obj)} (N : News h₀ L h nw) {I : Addr} (hI : h.objs.size ≤ I) : ∀ q ∈ nw, q.1 ≠ I := fun q hq e =>
  absurd (Heap.lt_size (N q hq).1) (Nat.not_lt.mpr (e ▸ hI))
theorem fresh_loc {h₀ h : Heap} {L : Addr} {m : Str → Option Value} (F : Fr h₀ L h m) {I : Addr} (hI : h.objs.size ≤ I) : L ≠ I := fun e => absurd F.ns.lt (Nat.not_lt.mpr (e ▸ hI))
section
variable {prog : Program} {w : World} {A : Around} {E : Value → Shared → Prop} {s : Shared} {env : Env} {h₀ : Heap} {body orelse : List Stmt} {Q : Flow → Shared → Prop} {m₀ : Str → Option Value} {nw₀ : List (Addr × Obj)}

/-- a loop over a tuple of pairs that stands in the base -/
theorem for_tupPairs {xa xb : Str} {pa pb pt : Pos} {kt : Nat} {l : Addr} {items : Array Value} {Ts : Nat → Addr} {vals : Nat → Array Value}
    (J : Nat → (Str → Option Value) → List (Addr × Obj) → Array GenState → Prop) (hh : A.handled = none)
    (hT : h₀.IsTuple l items) (hit : ∀ j, j < items.size → items[j]? = some (.ref (Ts j))) (hv : ∀ k, k < items.size → h₀.IsTuple (Ts k) (vals k)) (hpair : ∀ k, k < items.size → ∃ va vb, vals k = #[va, vb])
    (F : Fr h₀ env.locals s.heap m₀) (N : News h₀ env.locals s.heap nw₀) (h0 : J 0 m₀ nw₀ s.gens)
    (hxa : env.kindOf xa = some .local) (hxb : env.kindOf xb = some .local) (hp : (env.scope.kind == .class || (env.scope.kind == .module && env.locals != env.globals)) = false)
    (turn : ∀ i va vb m nw h tk gs own E', i < items.size → vals i = #[va, vb] → J i m nw gs → OwnOff own (nw.map (·.1)) → Fr h₀ env.locals h (fun y => if y = xb then some vb else if y = xa then some va else m y) → News h₀ env.locals h (nw ++ own) →
      wpAny (model prog w) A (execs body env) (LoopPost h₀ env.locals own (J (i + 1)) s.drawn s.os Q) E' ⟨h, gs, s.drawn, tk, s.os⟩)
    (done : ∀ m nw h tk gs E', J items.size m nw gs → Fr h₀ env.locals h m → News h₀ env.locals h nw → wpAny (model prog w) A (execs orelse env) Q E' ⟨h, gs, s.drawn, tk, s.os⟩) :
    wpAny (model prog w) A (pyIter (.ref l)) (fun it s₂ => codeAny (model prog w) A (.forLoop (.Tuple [.Name xa pa, .Name xb pb] kt pt) it body orelse env) (fun r s' => match r with | .ok f => Q f s' | .error e => cameBackBy (model prog w) A env E e s') s₂) E s := by
  refine wpAny_pyIter_tuple (isTuple_at hT fun o e => F.keep _ _ e) ?_
  have hIs : ∀ {b : Addr} {o : Obj}, h₀.get? b = some o → b ≠ s.heap.objs.size := fun {b o} e q => absurd (Heap.lt_size (F.keep _ _ e)) (by rw [q]; exact Nat.lt_irrefl _)
  have hk : ∀ b o, s.heap.get? b = some o → (s.heap.push { cls := .type "tuple_iterator", data := .fields #[.ref l, .int 0 0] }).get? b = some o := fun b o e => Heap.get?_push_of_some _ e
  have hll : l ≠ s.heap.objs.size := let ⟨_, ho, _⟩ := hT; hIs ho
  have hts : ∀ k, k < items.size → Ts k ≠ s.heap.objs.size := fun k hk => let ⟨_, ho, _⟩ := hv k hk; hIs ho
  have memfp : ∀ b, b ∈ s.heap.objs.size :: l :: (List.range items.size).map Ts → b ≠ s.heap.objs.size → ∃ o, h₀.get? b = some o := fun b hb hn => by
    rcases List.mem_cons.mp hb with rfl | hb
    · exact absurd rfl hn
    · rcases List.mem_cons.mp hb with rfl | hb
      · obtain ⟨o, ho, _⟩ := hT; exact ⟨o, ho⟩
      · obtain ⟨k, hk, rfl⟩ := List.mem_map.mp hb
        obtain ⟨o, ho, _⟩ := hv k (List.mem_range.mp hk); exact ⟨o, ho⟩
  refine forWU (s := { s with heap := _ }) J hh (walksU_tupleOfTuples hh s.heap.objs.size l hll items Ts vals hit hts) (fun i h st b hb => ?_) (fun i v hi e => e ▸ hpair i hi) hxa hxb hp (fun hm => ?_) (fun b hb => ?_) (fr_push F hk) (news_keep N hk) (fun q hq hm => ?_)
    ⟨⟨_, Heap.get?_push_size _ rfl, rfl, rfl⟩, isTuple_at hT fun o e => hk _ _ (F.keep _ _ e), fun k hk' => isTuple_at (hv k hk') fun o e => hk _ _ (F.keep _ _ e)⟩ h0 (fun b hb hw => ?_) (fun i m nw gs h hJ F' N' b hb hw o e => ?_)
    (fun i va vb m nw h tk gs own E' hi hP hJ ho F' N' => turn i va vb m nw h tk gs own E' hi hP.symm hJ ho F' N') done
  · rw [List.mem_singleton.mp hb]; obtain ⟨o, ho, _⟩ := st.1; exact ⟨o, ho⟩
  · have hne : env.locals ≠ s.heap.objs.size := fresh_loc F (Nat.le_refl _)
    obtain ⟨o, ho⟩ := memfp _ hm hne
    exact absurd (Heap.lt_size ho) (Nat.not_lt.mpr F.above)
  · rw [List.mem_singleton.mp hb]; exact fresh_base F (Nat.le_refl _)
  · exact fresh_news N (Nat.le_refl _) q hq (List.mem_singleton.mp hm)
  · obtain ⟨o, ho⟩ := memfp b hb (fun q => hw (List.mem_singleton.mpr q)); exact ⟨o, hk _ _ (F.keep _ _ ho)⟩
  · obtain ⟨o', ho'⟩ := memfp b hb (fun q => hw (List.mem_singleton.mpr q))
    have e1 := hk _ _ (F.keep _ _ ho')
    replace e : (s.heap.push { cls := .type "tuple_iterator", data := .fields #[.ref l, .int 0 0] }).get? b = some o := e
    rw [e1] at e; cases e
    exact F'.keep _ _ ho'

/-- a loop over enumerate of a tuple that stands in the base -/
theorem for_enumTup {xa xb : Str} {pa pb pt : Pos} {kt : Nat} {l : Addr} {items : Array Value}
    (J : Nat → (Str → Option Value) → List (Addr × Obj) → Array GenState → Prop) (hh : A.handled = none) (hT : h₀.IsTuple l items)
    (F : Fr h₀ env.locals s.heap m₀) (N : News h₀ env.locals s.heap nw₀) (h0 : J 0 m₀ nw₀ s.gens)
    (hxa : env.kindOf xa = some .local) (hxb : env.kindOf xb = some .local) (hp : (env.scope.kind == .class || (env.scope.kind == .module && env.locals != env.globals)) = false)
    (turn : ∀ i v t m nw h tk gs own E', items[i]? = some v → J i m nw gs → OwnOff own (nw.map (·.1)) → Fr h₀ env.locals h (fun y => if y = xb then some v else if y = xa then some (.int i t) else m y) → News h₀ env.locals h (nw ++ own) →
      wpAny (model prog w) A (execs body env) (LoopPost h₀ env.locals own (J (i + 1)) s.drawn s.os Q) E' ⟨h, gs, s.drawn, tk, s.os⟩)
    (done : ∀ m nw h tk gs E', J items.size m nw gs → Fr h₀ env.locals h m → News h₀ env.locals h nw → wpAny (model prog w) A (execs orelse env) Q E' ⟨h, gs, s.drawn, tk, s.os⟩) :
    wpAny (model prog w) A (call (.type "enumerate") [.ref l]) (fun x s₁ => wpAny (model prog w) A (pyIter x) (fun it s₂ => codeAny (model prog w) A (.forLoop (.Tuple [.Name xa pa, .Name xb pb] kt pt) it body orelse env) (fun r s' => match r with | .ok f => Q f s' | .error e => cameBackBy (model prog w) A env E e s') s₂) E s₁) E s := by
  refine call_enumerate_tuple (isTuple_at hT fun o e => F.keep _ _ e) fun h3 he hit hsz hk => ?_
  refine wpAny_pyIter_enum he ?_
  have hIs : ∀ {b : Addr} {o : Obj}, h₀.get? b = some o → b < s.heap.objs.size := fun {b o} e => Heap.lt_size (F.keep _ _ e)
  obtain ⟨ol, hol, _⟩ := id hT
  have hll : l ≠ s.heap.objs.size := Nat.ne_of_lt (hIs hol)
  have hle : l ≠ s.heap.objs.size + 1 := Nat.ne_of_lt (Nat.lt_succ_of_lt (hIs hol))
  have W := (WalksT.enumerateD (prog := prog) (w := w) (A := A) (draws_tuple (A := A.in1) hh s.heap.objs.size l hll items) (s.heap.objs.size + 1) (Nat.succ_ne_self _) (by simp; exact Ne.symm hle) (by simp)).toU
  have wrm : ∀ b, b ∈ [s.heap.objs.size + 1, s.heap.objs.size] → s.heap.objs.size ≤ b := fun b hb => by
    rcases List.mem_cons.mp hb with rfl | hb
    · exact Nat.le_succ _
    · rw [List.mem_singleton.mp hb]; exact Nat.le_refl _
  have memfp : ∀ b, b ∈ (s.heap.objs.size + 1) :: [s.heap.objs.size, l] → b ∉ [s.heap.objs.size + 1, s.heap.objs.size] → b = l := fun b hb hn => by
    simp at hb hn
    rcases hb with h | h | h
    · exact absurd h hn.1
    · exact absurd h hn.2
    · exact h
  refine forWU (s := { s with heap := _ }) J hh W (fun i h st b hb => ?_) (fun i v hi ⟨t, x, _, e⟩ => ⟨_, _, e⟩) hxa hxb hp (fun hm => ?_) (fun b hb => fresh_base F (wrm b hb)) (fr_push F hk) (news_keep N hk) (fun q hq hm => fresh_news N (wrm _ hm) q hq rfl)
    ⟨⟨_, he⟩, hit, isTuple_at hT fun o e => hk _ _ (F.keep _ _ e)⟩ h0 (fun b hb hw => ?_) (fun i m nw gs h hJ F' N' b hb hw o e => ?_)
    (fun i va vb m nw h tk gs own E' hi hP hJ ho F' N' => ?_) done
  · rcases List.mem_cons.mp hb with rfl | hb
    · obtain ⟨⟨old, ho⟩, _⟩ := st; exact ⟨_, ho⟩
    · rw [List.mem_singleton.mp hb]; obtain ⟨_, ⟨o, ho, _⟩, _⟩ := st; exact ⟨o, ho⟩
  · have hne := fresh_loc F (Nat.le_refl _)
    have hne' := fresh_loc F (Nat.le_succ _)
    have := memfp _ hm (by simp; exact ⟨hne', hne⟩)
    rw [← this] at hol
    exact absurd (Heap.lt_size hol) (Nat.not_lt.mpr F.above)
  · rw [memfp b hb hw]; exact ⟨ol, hk _ _ (F.keep _ _ hol)⟩
  · have hbl := memfp b hb hw
    subst hbl
    have e1 := hk _ _ (F.keep _ _ hol)
    replace e : h3.get? b = some o := e
    rw [e1] at e; cases e
    exact F'.keep _ _ hol
  · obtain ⟨t, x, hx, e⟩ := hP
    have e' : va = .int i t ∧ vb = x := by simpa using e
    obtain ⟨rfl, rfl⟩ := e'
    exact turn i vb t m nw h tk gs own E' hx hJ ho F' N'
/-- a loop over enumerate of a list of the ledger's that the turns leave as it is -/
theorem for_enumList {xa xb : Str} {pa pb pt : Pos} {kt : Nat} {l : Addr} {items : Array Value} {ep : Nat}
    (J : Nat → (Str → Option Value) → List (Addr × Obj) → Array GenState → Prop) (hh : A.handled = none) (hin : ∀ i m nw gs, J i m nw gs → (l, listOf items ep) ∈ nw)
    (F : Fr h₀ env.locals s.heap m₀) (N : News h₀ env.locals s.heap nw₀) (h0 : J 0 m₀ nw₀ s.gens)
    (hxa : env.kindOf xa = some .local) (hxb : env.kindOf xb = some .local) (hp : (env.scope.kind == .class || (env.scope.kind == .module && env.locals != env.globals)) = false)
    (turn : ∀ i v t m nw h tk gs own E', items[i]? = some v → J i m nw gs → OwnOff own (nw.map (·.1)) → Fr h₀ env.locals h (fun y => if y = xb then some v else if y = xa then some (.int i t) else m y) → News h₀ env.locals h (nw ++ own) →
      wpAny (model prog w) A (execs body env) (LoopPost h₀ env.locals own (J (i + 1)) s.drawn s.os Q) E' ⟨h, gs, s.drawn, tk, s.os⟩)
    (done : ∀ m nw h tk gs E', J items.size m nw gs → Fr h₀ env.locals h m → News h₀ env.locals h nw → wpAny (model prog w) A (execs orelse env) Q E' ⟨h, gs, s.drawn, tk, s.os⟩) :
    wpAny (model prog w) A (call (.type "enumerate") [.ref l]) (fun x s₁ => wpAny (model prog w) A (pyIter x) (fun it s₂ => codeAny (model prog w) A (.forLoop (.Tuple [.Name xa pa, .Name xb pb] kt pt) it body orelse env) (fun r s' => match r with | .ok f => Q f s' | .error e => cameBackBy (model prog w) A env E e s') s₂) E s₁) E s := by
  have hm0 := hin _ _ _ _ h0
  have hol := (N _ hm0).1
  refine call_enumerate_list (items := items) ⟨_, hol, rfl, _, rfl⟩ fun h3 he hit hsz hk => ?_
  refine wpAny_pyIter_enum he ?_
  have hlt : l < s.heap.objs.size := Heap.lt_size hol
  have hll : l ≠ s.heap.objs.size := Nat.ne_of_lt hlt
  have hle : l ≠ s.heap.objs.size + 1 := Nat.ne_of_lt (Nat.lt_succ_of_lt hlt)
  have W := (WalksT.enumerateD (prog := prog) (w := w) (A := A) (Draws.list (A := A.in1) hh s.heap.objs.size l hll items) (s.heap.objs.size + 1) (Nat.succ_ne_self _) (by simp; exact Ne.symm hle) (by simp)).toU
  have wrm : ∀ b, b ∈ [s.heap.objs.size + 1, s.heap.objs.size] → s.heap.objs.size ≤ b := fun b hb => by
    rcases List.mem_cons.mp hb with rfl | hb
    · exact Nat.le_succ _
    · rw [List.mem_singleton.mp hb]; exact Nat.le_refl _
  have memfp : ∀ b, b ∈ (s.heap.objs.size + 1) :: [s.heap.objs.size, l] → b ∉ [s.heap.objs.size + 1, s.heap.objs.size] → b = l := fun b hb hn => by
    simp at hb hn
    rcases hb with h | h | h
    · exact absurd h hn.1
    · exact absurd h hn.2
    · exact h
  refine forWU (s := { s with heap := _ }) J hh W (fun i h st b hb => ?_) (fun i v hi ⟨t, x, _, e⟩ => ⟨_, _, e⟩) hxa hxb hp (fun hm => ?_) (fun b hb => fresh_base F (wrm b hb)) (fr_push F hk) (news_keep N hk) (fun q hq hm => fresh_news N (wrm _ hm) q hq rfl)
    ⟨⟨_, he⟩, hit, ⟨_, hk _ _ hol, rfl, _, rfl⟩⟩ h0 (fun b hb hw => ?_) (fun i m nw gs h hJ F' N' b hb hw o e => ?_)
    (fun i va vb m nw h tk gs own E' hi hP hJ ho F' N' => ?_) done
  · rcases List.mem_cons.mp hb with rfl | hb
    · obtain ⟨⟨old, ho⟩, _⟩ := st; exact ⟨_, ho⟩
    · rw [List.mem_singleton.mp hb]; obtain ⟨_, ⟨o, ho, _⟩, _⟩ := st; exact ⟨o, ho⟩
  · have hne := fresh_loc F (Nat.le_refl _)
    have hne' := fresh_loc F (Nat.le_succ _)
    exact (N _ hm0).2.1 (memfp _ hm (by simp; exact ⟨hne', hne⟩)).symm
  · rw [memfp b hb hw]; exact ⟨_, hk _ _ hol⟩
  · have hbl := memfp b hb hw
    subst hbl
    have e1 := hk _ _ hol
    replace e : h3.get? b = some o := e
    rw [e1] at e; cases e
    exact (N' _ (hin _ _ _ _ hJ)).1
  · obtain ⟨t, x, hx, e⟩ := hP
    have e' : va = .int i t ∧ vb = x := by simpa using e
    obtain ⟨rfl, rfl⟩ := e'
    exact turn i vb t m nw h tk gs own E' hx hJ ho F' N'

/-- a loop over what a sequence's iterator walks: a list, a string, a range -/
theorem for_any {x : Str} {px : Pos} {I : Addr} {src : List Addr} {n : Nat} {P : Nat → Value → Prop} {St : Nat → Heap → Prop} {h1 : Heap} {tk1 : Nat}
    (J : Nat → (Str → Option Value) → List (Addr × Obj) → Array GenState → Prop) (hI : s.heap.objs.size ≤ I) (hk : ∀ b o, s.heap.get? b = some o → h1.get? b = some o)
    (W : Walks prog w A I (I :: src) [I] n P St) (hlive : ∀ i h, St i h → ∃ o, h.get? I = some o) (hst : St 0 h1)
    (F : Fr h₀ env.locals s.heap m₀) (N : News h₀ env.locals s.heap nw₀) (h0 : J 0 m₀ nw₀ s.gens)
    (hsrc0 : ∀ b ∈ src, ∃ o, s.heap.get? b = some o ∧ b ≠ env.locals ∧ ∀ i m nw gs h, J i m nw gs → Fr h₀ env.locals h m → News h₀ env.locals h nw → h.get? b = some o)
    (hx : env.kindOf x = some .local) (hp : (env.scope.kind == .class || (env.scope.kind == .module && env.locals != env.globals)) = false)
    (turn : ∀ i v m nw h tk gs own E', i < n → P i v → J i m nw gs → OwnOff own (nw.map (·.1)) → Fr h₀ env.locals h (fun y => if y = x then some v else m y) → News h₀ env.locals h (nw ++ own) →
      wpAny (model prog w) A (execs body env) (LoopPost h₀ env.locals own (J (i + 1)) s.drawn s.os Q) E' ⟨h, gs, s.drawn, tk, s.os⟩)
    (done : ∀ m nw h tk gs E', J n m nw gs → Fr h₀ env.locals h m → News h₀ env.locals h nw → wpAny (model prog w) A (execs orelse env) Q E' ⟨h, gs, s.drawn, tk, s.os⟩) :
    codeAny (model prog w) A (.forLoop (.Name x px) (.ref I) body orelse env) (fun r s' => match r with | .ok f => Q f s' | .error e => cameBackBy (model prog w) A env E e s') ⟨h1, s.gens, s.drawn, tk1, s.os⟩ := by
  refine forW (s := ⟨h1, s.gens, s.drawn, tk1, s.os⟩) J W (fun i h st b hb => by rw [List.mem_singleton.mp hb]; exact hlive i h st) hx hp (fun hm => ?_) (fun b hb => by rw [List.mem_singleton.mp hb]; exact fresh_base F hI)
    (fr_push F hk) (news_keep N hk) (fun q hq hm => fresh_news N hI q hq (List.mem_singleton.mp hm)) hst h0 (fun b hb hw => ?_) (fun i m nw gs h hJ F' N' b hb hw o e => ?_) turn done
  · rcases List.mem_cons.mp hm with e | hm
    · exact fresh_loc F hI e
    · obtain ⟨o, _, hn, _⟩ := hsrc0 _ hm; exact hn rfl
  · rcases List.mem_cons.mp hb with e | hb
    · exact absurd (List.mem_singleton.mpr e) hw
    · obtain ⟨o, ho, _⟩ := hsrc0 _ hb; exact ⟨o, hk _ _ ho⟩
  · rcases List.mem_cons.mp hb with e' | hb
    · exact absurd (List.mem_singleton.mpr e') hw
    · obtain ⟨o', ho, _, hj⟩ := hsrc0 _ hb
      have e1 := hk _ _ ho
      replace e : h1.get? b = some o := e
      rw [e1] at e; cases e
      exact hj _ _ _ _ _ hJ F' N'

/-- a loop over a list of the ledger's that the turns leave as it is -/
theorem for_listN {x : Str} {px : Pos} {l : Addr} {items : Array Value} {ep : Nat}
    (J : Nat → (Str → Option Value) → List (Addr × Obj) → Array GenState → Prop) (hh : A.handled = none) (hin : ∀ i m nw gs, J i m nw gs → (l, listOf items ep) ∈ nw)
    (F : Fr h₀ env.locals s.heap m₀) (N : News h₀ env.locals s.heap nw₀) (h0 : J 0 m₀ nw₀ s.gens)
    (hx : env.kindOf x = some .local) (hp : (env.scope.kind == .class || (env.scope.kind == .module && env.locals != env.globals)) = false)
    (turn : ∀ i v m nw h tk gs own E', items[i]? = some v → J i m nw gs → OwnOff own (nw.map (·.1)) → Fr h₀ env.locals h (fun y => if y = x then some v else m y) → News h₀ env.locals h (nw ++ own) →
      wpAny (model prog w) A (execs body env) (LoopPost h₀ env.locals own (J (i + 1)) s.drawn s.os Q) E' ⟨h, gs, s.drawn, tk, s.os⟩)
    (done : ∀ m nw h tk gs E', J items.size m nw gs → Fr h₀ env.locals h m → News h₀ env.locals h nw → wpAny (model prog w) A (execs orelse env) Q E' ⟨h, gs, s.drawn, tk, s.os⟩) :
    wpAny (model prog w) A (pyIter (.ref l)) (fun it s₂ => codeAny (model prog w) A (.forLoop (.Name x px) it body orelse env) (fun r s' => match r with | .ok f => Q f s' | .error e => cameBackBy (model prog w) A env E e s') s₂) E s := by
  have hm0 := hin _ _ _ _ h0
  have hol := (N _ hm0).1
  refine wpAny_pyIter_list (items := items) ⟨_, hol, rfl, _, rfl⟩ ?_
  have hk : ∀ b o, s.heap.get? b = some o → (s.heap.push { cls := .type "list_iterator", data := .fields #[.ref l, .int 0 0] }).get? b = some o := fun b o e => Heap.get?_push_of_some _ e
  exact for_any J (Nat.le_refl _) hk (Walks.list hh _ l (Nat.ne_of_lt (Heap.lt_size hol)) items) (fun i h st => let ⟨o, ho, _⟩ := st.1; ⟨o, ho⟩) ⟨⟨_, Heap.get?_push_size _ rfl, rfl, rfl⟩, ⟨_, hk _ _ hol, rfl, _, rfl⟩⟩ F N h0
    (fun b hb => by rw [List.mem_singleton.mp hb]; exact ⟨_, hol, (N _ hm0).2.1, fun i m nw gs h hJ _ N' => (N' _ (hin _ _ _ _ hJ)).1⟩) hx hp (fun i v m nw h tk gs own E' _ hP => turn i v m nw h tk gs own E' hP) done

/-- a loop over a list that stands in the base -/
theorem for_listB {x : Str} {px : Pos} {l : Addr} {items : Array Value}
    (J : Nat → (Str → Option Value) → List (Addr × Obj) → Array GenState → Prop) (hh : A.handled = none) (hl : h₀.IsList l items)
    (F : Fr h₀ env.locals s.heap m₀) (N : News h₀ env.locals s.heap nw₀) (h0 : J 0 m₀ nw₀ s.gens)
    (hx : env.kindOf x = some .local) (hp : (env.scope.kind == .class || (env.scope.kind == .module && env.locals != env.globals)) = false)
    (turn : ∀ i v m nw h tk gs own E', items[i]? = some v → J i m nw gs → OwnOff own (nw.map (·.1)) → Fr h₀ env.locals h (fun y => if y = x then some v else m y) → News h₀ env.locals h (nw ++ own) →
      wpAny (model prog w) A (execs body env) (LoopPost h₀ env.locals own (J (i + 1)) s.drawn s.os Q) E' ⟨h, gs, s.drawn, tk, s.os⟩)
    (done : ∀ m nw h tk gs E', J items.size m nw gs → Fr h₀ env.locals h m → News h₀ env.locals h nw → wpAny (model prog w) A (execs orelse env) Q E' ⟨h, gs, s.drawn, tk, s.os⟩) :
    wpAny (model prog w) A (pyIter (.ref l)) (fun it s₂ => codeAny (model prog w) A (.forLoop (.Name x px) it body orelse env) (fun r s' => match r with | .ok f => Q f s' | .error e => cameBackBy (model prog w) A env E e s') s₂) E s := by
  obtain ⟨o, ho, hr⟩ := id hl
  refine wpAny_pyIter_list (hl.at fun o e => F.keep _ _ e) ?_
  have hk : ∀ b o, s.heap.get? b = some o → (s.heap.push { cls := .type "list_iterator", data := .fields #[.ref l, .int 0 0] }).get? b = some o := fun b o e => Heap.get?_push_of_some _ e
  have hlt := Heap.lt_size (F.keep _ _ ho)
  exact for_any J (Nat.le_refl _) hk (Walks.list hh _ l (Nat.ne_of_lt hlt) items) (fun i h st => let ⟨o, ho, _⟩ := st.1; ⟨o, ho⟩) ⟨⟨_, Heap.get?_push_size _ rfl, rfl, rfl⟩, hl.at fun o e => hk _ _ (F.keep _ _ e)⟩ F N h0
    (fun b hb => by
      rw [List.mem_singleton.mp hb]
      exact ⟨_, F.keep _ _ ho, fun q => by rw [q] at ho; exact absurd (Heap.lt_size ho) (Nat.not_lt.mpr F.above), fun i m nw gs h hJ F' _ => F'.keep _ _ ho⟩) hx hp (fun i v m nw h tk gs own E' _ hP => turn i v m nw h tk gs own E' hP) done

/-- a loop over a text's signs -/
theorem for_str {x : Str} {px : Pos} {y : Str} {t : Tok}
    (J : Nat → (Str → Option Value) → List (Addr × Obj) → Array GenState → Prop) (hh : A.handled = none)
    (F : Fr h₀ env.locals s.heap m₀) (N : News h₀ env.locals s.heap nw₀) (h0 : J 0 m₀ nw₀ s.gens)
    (hx : env.kindOf x = some .local) (hp : (env.scope.kind == .class || (env.scope.kind == .module && env.locals != env.globals)) = false)
    (turn : ∀ i c u m nw h tk gs own E', y.cps[i]? = some c → J i m nw gs → OwnOff own (nw.map (·.1)) → Fr h₀ env.locals h (fun z => if z = x then some (.str ⟨#[c]⟩ u) else m z) → News h₀ env.locals h (nw ++ own) →
      wpAny (model prog w) A (execs body env) (LoopPost h₀ env.locals own (J (i + 1)) s.drawn s.os Q) E' ⟨h, gs, s.drawn, tk, s.os⟩)
    (done : ∀ m nw h tk gs E', J y.cps.size m nw gs → Fr h₀ env.locals h m → News h₀ env.locals h nw → wpAny (model prog w) A (execs orelse env) Q E' ⟨h, gs, s.drawn, tk, s.os⟩) :
    wpAny (model prog w) A (pyIter (.str y t)) (fun it s₂ => codeAny (model prog w) A (.forLoop (.Name x px) it body orelse env) (fun r s' => match r with | .ok f => Q f s' | .error e => cameBackBy (model prog w) A env E e s') s₂) E s := by
  refine wpAny_pyIter_strU ?_
  have hk : ∀ b o, s.heap.get? b = some o → (s.heap.push { cls := .type (strIterType y), data := .fields #[.str y t, .int 0 0] }).get? b = some o := fun b o e => Heap.get?_push_of_some _ e
  have go : ∀ ty, ty = strIterType y → ∀ W : Walks prog w A s.heap.objs.size [s.heap.objs.size] [s.heap.objs.size] y.cps.size (SignAt y) (fun i h => h.IsStrIter s.heap.objs.size ty y t i), codeAny (model prog w) A (.forLoop (.Name x px) (.ref s.heap.objs.size) body orelse env) (fun r s' => match r with | .ok f => Q f s' | .error e => cameBackBy (model prog w) A env E e s')
      ⟨s.heap.push { cls := .type (strIterType y), data := .fields #[.str y t, .int 0 0] }, s.gens, s.drawn, s.toks, s.os⟩ := by
    intro ty e W
    subst e
    exact for_any J (Nat.le_refl _) hk W (fun i h st => let ⟨o, ho, _⟩ := st; ⟨o, ho⟩) ⟨_, Heap.get?_push_size _ rfl, rfl, rfl⟩ F N h0 (fun b hb => nomatch hb) hx hp
      (fun i v m nw h tk gs own E' _ hP hJ ho F' N' => by obtain ⟨c, u, hc, rfl⟩ := hP; exact turn i c u m nw h tk gs own E' hc hJ ho F' N') done
  cases ha : y.cps.all (· < 128)
  · exact go "str_iterator" (by simp [strIterType, ha]) (Walks.strWide hh _ y t)
  · exact go "str_ascii_iterator" (by simp [strIterType, ha]) (Walks.strAscii hh _ y t)

/-- a loop over a range that lies in the ledger -/
theorem for_range {x : Str} {px : Pos} {r : Addr} {a b c : Int} {t u v : Tok} {n : Nat}
    (J : Nat → (Str → Option Value) → List (Addr × Obj) → Array GenState → Prop) (hh : A.handled = none) (hr : IsRange s.heap r a b c t u v) (hsmall : Builtin.Range.small a b c = true) (hsz : Builtin.Range.rangeSize a b c = n)
    (F : Fr h₀ env.locals s.heap m₀) (N : News h₀ env.locals s.heap nw₀) (h0 : J 0 m₀ nw₀ s.gens)
    (hx : env.kindOf x = some .local) (hp : (env.scope.kind == .class || (env.scope.kind == .module && env.locals != env.globals)) = false)
    (turn : ∀ i k m nw h tk gs own E', i < n → J i m nw gs → OwnOff own (nw.map (·.1)) → Fr h₀ env.locals h (fun z => if z = x then some (.int (a + i * c) k) else m z) → News h₀ env.locals h (nw ++ own) →
      wpAny (model prog w) A (execs body env) (LoopPost h₀ env.locals own (J (i + 1)) s.drawn s.os Q) E' ⟨h, gs, s.drawn, tk, s.os⟩)
    (done : ∀ m nw h tk gs E', J n m nw gs → Fr h₀ env.locals h m → News h₀ env.locals h nw → wpAny (model prog w) A (execs orelse env) Q E' ⟨h, gs, s.drawn, tk, s.os⟩) :
    wpAny (model prog w) A (pyIter (.ref r)) (fun it s₂ => codeAny (model prog w) A (.forLoop (.Name x px) it body orelse env) (fun r s' => match r with | .ok f => Q f s' | .error e => cameBackBy (model prog w) A env E e s') s₂) E s := by
  refine wpAny_pyIter_range hr hsmall ?_
  rw [hsz]
  have hk : ∀ b o, s.heap.get? b = some o → (s.heap.push { cls := .type "range_iterator", data := .fields #[rawInt a, rawInt n, rawInt c] }).get? b = some o := fun b o e => Heap.get?_push_of_some _ e
  refine for_any J (Nat.le_refl _) hk (Walks.range hh s.heap.objs.size a c n) (fun i h st => ⟨_, st⟩) ?_ F N h0 (fun b hb => nomatch hb) hx hp
    (fun i v m nw h tk gs own E' hi hP hJ ho F' N' => by obtain ⟨k, rfl⟩ := hP; exact turn i k m nw h tk gs own E' hi hJ ho F' N') done
  show IsRangeIter _ _ (a + ((0 : Nat) : Int) * c) ((n : Int) - ((0 : Nat) : Int)) c
  rw [show a + ((0 : Nat) : Int) * c = a by simp, show (n : Int) - ((0 : Nat) : Int) = n by simp]
  exact Heap.get?_push_size _ rfl
end
end Mine
end

section
-- FmB
example : True := by w_top off; trivial
open PySem PySem.W PyProof.Rows PySem.Calls PySem.Spec
namespace Mine
/-- the table's rows: where they lie, and each pair's place, bit and sign -/
noncomputable def fmRows : List (Addr × List (Addr × Int × Nat)) := [(197, [(190, 40960, 108), (191, 49152, 115), (192, 32768, 45), (193, 24576, 98), (194, 16384, 100), (195, 8192, 99), (196, 4096, 112)]),
  (199, [(198, 256, 114)]), (201, [(200, 128, 119)]), (205, [(202, 2112, 115), (203, 2048, 83), (204, 64, 120)]),
  (207, [(206, 32, 114)]), (209, [(208, 16, 119)]), (213, [(210, 1032, 115), (211, 1024, 83), (212, 8, 120)]),
  (215, [(214, 4, 114)]), (217, [(216, 2, 119)]), (221, [(218, 513, 116), (219, 512, 84), (220, 1, 120)])]
noncomputable def PairsAt (h : Heap) : List (Addr × Int × Nat) → Prop
  | [] => True
  | q :: r => (∃ t u, h.IsTuple q.1 #[.int q.2.1 t, .str ⟨#[q.2.2]⟩ u]) ∧ PairsAt h r
noncomputable def RowsAt (h : Heap) : List (Addr × List (Addr × Int × Nat)) → Prop
  | [] => True
  | q :: r => h.IsTuple q.1 (q.2.map fun x => Value.ref x.1).toArray ∧ PairsAt h q.2 ∧ RowsAt h r
set_option maxRecDepth 100000 in
theorem rows_at {w : World} {g : Heap} (X : (hd.heap_1 w.params).In g) (hp : Challenge.rw_oc0165_02.row.prog = Challenge.rw_oc0165_02.row.prog) : g.IsTuple 222 (fmRows.map fun x => Value.ref x.1).toArray ∧ RowsAt g fmRows := by
  revert X hp
  k_fill
  intro X _
  have e : ∀ a o, (hd.heap_1 w.params).lookup a = some o → g.get? a = some o := X
  refine ⟨⟨_, e 222 _ (by k_is), rfl, _, rfl⟩, ?_⟩
  simp only [RowsAt, fmRows, PairsAt, and_true]
  refine ⟨⟨_, e 197 _ (by k_is), rfl, _, rfl⟩, ⟨⟨_, _, _, e 190 _ (by k_is), rfl, _, rfl⟩, ⟨_, _, _, e 191 _ (by k_is), rfl, _, rfl⟩, ⟨_, _, _, e 192 _ (by k_is), rfl, _, rfl⟩, ⟨_, _, _, e 193 _ (by k_is), rfl, _, rfl⟩, ⟨_, _, _, e 194 _ (by k_is), rfl, _, rfl⟩, ⟨_, _, _, e 195 _ (by k_is), rfl, _, rfl⟩, ⟨_, _, _, e 196 _ (by k_is), rfl, _, rfl⟩⟩,
    ⟨_, e 199 _ (by k_is), rfl, _, rfl⟩, ⟨_, _, _, e 198 _ (by k_is), rfl, _, rfl⟩,
    ⟨_, e 201 _ (by k_is), rfl, _, rfl⟩, ⟨_, _, _, e 200 _ (by k_is), rfl, _, rfl⟩,
    ⟨_, e 205 _ (by k_is), rfl, _, rfl⟩, ⟨⟨_, _, _, e 202 _ (by k_is), rfl, _, rfl⟩, ⟨_, _, _, e 203 _ (by k_is), rfl, _, rfl⟩, ⟨_, _, _, e 204 _ (by k_is), rfl, _, rfl⟩⟩,
    ⟨_, e 207 _ (by k_is), rfl, _, rfl⟩, ⟨_, _, _, e 206 _ (by k_is), rfl, _, rfl⟩,
    ⟨_, e 209 _ (by k_is), rfl, _, rfl⟩, ⟨_, _, _, e 208 _ (by k_is), rfl, _, rfl⟩,
    ⟨_, e 213 _ (by k_is), rfl, _, rfl⟩, ⟨⟨_, _, _, e 210 _ (by k_is), rfl, _, rfl⟩, ⟨_, _, _, e 211 _ (by k_is), rfl, _, rfl⟩, ⟨_, _, _, e 212 _ (by k_is), rfl, _, rfl⟩⟩,
    ⟨_, e 215 _ (by k_is), rfl, _, rfl⟩, ⟨_, _, _, e 214 _ (by k_is), rfl, _, rfl⟩,
    ⟨_, e 217 _ (by k_is), rfl, _, rfl⟩, ⟨_, _, _, e 216 _ (by k_is), rfl, _, rfl⟩,
    ⟨_, e 221 _ (by k_is), rfl, _, rfl⟩, ⟨_, _, _, e 218 _ (by k_is), rfl, _, rfl⟩, ⟨_, _, _, e 219 _ (by k_is), rfl, _, rfl⟩, ⟨_, _, _, e 220 _ (by k_is), rfl, _, rfl⟩⟩
theorem rows_get {h : Heap} : ∀ {l : List (Addr × List (Addr × Int × Nat))}, RowsAt h l → ∀ {i : Nat} {q : Addr × List (Addr × Int × Nat)}, l[i]? = some q → h.IsTuple q.1 (q.2.map fun x => Value.ref x.1).toArray ∧ PairsAt h q.2
  | [], _, _, _, e => by simp at e
  | r :: l, x, 0, q, e => by simp at e; subst e; exact ⟨x.1, x.2.1⟩
  | r :: l, x, i + 1, q, e => rows_get x.2.2 (by simpa using e)
theorem pairs_vals {h : Heap} : ∀ {l : List (Addr × Int × Nat)}, PairsAt h l → ∃ vals : Nat → Array Value, ∀ k q, l[k]? = some q → h.IsTuple q.1 (vals k) ∧ ∃ t u, vals k = #[.int q.2.1 t, .str ⟨#[q.2.2]⟩ u]
  | [], _ => ⟨fun _ => #[], fun _ _ e => by simp at e⟩
  | r :: l, x => by
    obtain ⟨vals, hv⟩ := pairs_vals x.2
    obtain ⟨t, u, h1⟩ := x.1
    refine ⟨fun k => match k with | 0 => #[.int r.2.1 t, .str ⟨#[r.2.2]⟩ u] | k + 1 => vals k, fun k q e => ?_⟩
    cases k with
    | zero => simp at e; subst e; exact ⟨h1, t, u, rfl⟩
    | succ k => exact hv k q (by simpa using e)
noncomputable def hitB (mode : Int) (i : Nat) (bit : Int) : Bool := if i = 0 then decide (Builtin.bitAnd mode 61440 = bit) else decide (Builtin.bitAnd mode bit = bit)
noncomputable def pickC (mode : Int) (i : Nat) : List (Addr × Int × Nat) → Nat
  | [] => if i = 0 then 63 else 45
  | q :: r => if hitB mode i q.2.1 then q.2.2 else pickC mode i r
/-- the first n signs of filemode -/
noncomputable def fmSigns (mode : Int) (n : Nat) : List Nat := (List.range n).map fun i => pickC mode i (fmRows.getD i (0, [])).2
noncomputable def oneStr (c : Nat) : Str := ⟨#[c]⟩
theorem strs_push {vs : List Value} {ts : List Str} {x : Str} {u : Tok} (h : StrsAre vs ts) : StrsAre (vs ++ [.str x u]) (ts ++ [x]) := by
  induction h with
  | nil => exact .cons _ _ .nil
  | cons _ _ _ ih => exact .cons _ _ ih
theorem news_sub {h₀ h : Heap} {L : Addr} {a b : List (Addr × Obj)} (N : News h₀ L h a) (hs : ∀ q ∈ b, q ∈ a) : News h₀ L h b := fun q hq => N q (hs q hq)
theorem signs_push {mode : Int} {i c : Nat} {u : Tok} {its : Array Value} {q : Addr × List (Addr × Int × Nat)} (hq : fmRows[i]? = some q) (hc : pickC mode i q.2 = c) (h : StrsAre its.toList ((fmSigns mode i).map oneStr)) :
    StrsAre (its.push (.str ⟨#[c]⟩ u)).toList ((fmSigns mode (i + 1)).map oneStr) := by
  have e : fmSigns mode (i + 1) = fmSigns mode i ++ [c] := by
    unfold fmSigns
    rw [List.range_succ, List.map_append, List.map_singleton, List.getD_eq_getElem?_getD, hq, ← hc]; rfl
  rw [e, List.map_append, Array.toList_push]
  exact strs_push h
theorem signs_len (l : List Nat) : ((l.map oneStr).map (·.length)).sum = l.length := by
  induction l with
  | nil => rfl
  | cons c r ih => rw [List.map_cons, List.map_cons, List.sum_cons, ih, List.length_cons]; show 1 + _ = _; (first | lia | omega)
theorem signs_fold (l : List Nat) : ∀ acc : Array Nat, (l.map oneStr).foldl (fun acc p => acc ++ (Str.ofString "").cps ++ p.cps) acc = acc ++ l.toArray := by
  have e : (Str.ofString "").cps = #[] := by decide +kernel
  rw [e]
  induction l with
  | nil => intro acc; simp
  | cons c r ih => intro acc; rw [List.map_cons, List.foldl_cons, ih]; simp [oneStr]
theorem signs_join (l : List Nat) : Txt.join (Str.ofString "") (l.map oneStr) = ⟨l.toArray⟩ := by
  cases l with
  | nil => rfl
  | cons c r =>
    show Str.mk (((c :: r).map oneStr).drop 1 |>.foldl _ _) = _
    rw [List.map_cons, List.drop_succ_cons, List.drop_zero]
    have := signs_fold r #[c]
    rw [show (List.headD (oneStr c :: List.map oneStr r) Str.empty).cps = #[c] from rfl, this]
    simp
/-- what holds between the turns -/
inductive FmInv (g0 : Array GenState) (mode : Int) (t1 : Tok) (i : Nat) (m : Str → Option Value) (nw : List (Addr × Obj)) (gs : Array GenState) : Prop
  | mk (eg : gs = g0) (D : Addr) (its : Array Value) (e : Nat) (en : nw = [(D, listOf its e)]) (m1 : m "perm" = some (.ref D)) (m2 : m "mode" = some (.int mode t1)) (hs : StrsAre its.toList ((fmSigns mode i).map oneStr))
section
variable {w : World} {p : Program} {loose : List Str} {mean : ExcName → Option Value} {mg mb : Str → Option Value} {G : Heap} {s : Shared} {Q E : Value → Shared → Prop}
set_option maxRecDepth 100000
set_option maxHeartbeats 8000000
theorem c_filemode {mode : Int} {t1 : Tok} (D : Gd w p loose mean mg mb G) (St : G.StaysIn s.heap) (h1 : 0 ≤ mode) (h2 : mode < 65536)
    (hret : ∀ t h' tk', (∀ b o, s.heap.get? b = some o → h'.get? b = some o) → Q (.str ⟨(fmSigns mode 10).toArray⟩ t) { s with heap := h', toks := tk' }) :
    wpAny (model Challenge.rw_oc0165_02.row.prog w) (Am 700 500) (call (.ref 229) [.int mode t1]) Q E s := by
  refine wpAny_call ?_
  refine' enterP (binds := [("mode", .int mode t1)]) [] D St ?k3 ?k4 ?k6 ?k7 ?k8 ?k9 ?kB ?c5 ?c2 ?c3 ?c4 ?_
  (((case k3 => exact fun _ q => nomatch q); (case k4 => exact fun _ q => nomatch q); (case k6 => k_is); (case k7 => k_is); (case k8 => decide); (case k9 => exact BindsTo.of_eq rfl); (case kB => exact locs rfl); (case c5 => decide); (case c2 => exact rfl); (case c3 => exact rfl); (case c4 => exact rfl)))
  intro g L h hg hL F N X T l1 hkeep hst
  obtain ⟨hT, hR⟩ := rows_at X rfl
  dsimp only
  k_fold
  (repeat' (first | (fail_if_success (with_reducible show wpAny _ _ (exec (Stmt.For _ _ _ _ _) _) _ _ _)); (first | (k_unfold; (try dsimp only)) | (first | ((with_reducible show LoopPost _ _ _ _ _ _ _ _ _); (dsimp only [LoopPost])) | ((k_here; (with_reducible show wpAny _ _ (call (Value.ref 189) _) _ _ _); k_dflt (refine' u_ifmt ?k1 ?k2 ?k3 ?k4 ?k5 ?k6 ?k7 ?_; (case k1 => k_asm); (case k2 => k_asm); (case k3 => assumption); (case k4 => assumption); (case k5 => exact rfl); (case k6 => decide); (case k7 => decide)); intro t' h' tk' F' N'; (try k_sweep))) | walk1) | (dsimp only; (first | ((with_reducible show LoopPost _ _ _ _ _ _ _ _ _); (dsimp only [LoopPost])) | ((k_here; (with_reducible show wpAny _ _ (call (Value.ref 189) _) _ _ _); k_dflt (refine' u_ifmt ?k1 ?k2 ?k3 ?k4 ?k5 ?k6 ?k7 ?_; (case k1 => k_asm); (case k2 => k_asm); (case k3 => assumption); (case k4 => assumption); (case k5 => exact rfl); (case k6 => decide); (case k7 => decide)); intro t' h' tk' F' N'; (try k_sweep))) | walk1)))))
  refine wpAny_For ?_ (fun _ => rfl)
  (repeat' (first | (fail_if_success (with_reducible show wpAny _ _ (exec (Stmt.For _ _ _ _ _) _) _ _ _)); (first | (k_unfold; (try dsimp only)) | (first | ((with_reducible show LoopPost _ _ _ _ _ _ _ _ _); (dsimp only [LoopPost])) | ((k_here; (with_reducible show wpAny _ _ (call (Value.ref 189) _) _ _ _); k_dflt (refine' u_ifmt ?k1 ?k2 ?k3 ?k4 ?k5 ?k6 ?k7 ?_; (case k1 => k_asm); (case k2 => k_asm); (case k3 => assumption); (case k4 => assumption); (case k5 => exact rfl); (case k6 => decide); (case k7 => decide)); intro t' h' tk' F' N'; (try k_sweep))) | walk1) | (dsimp only; (first | ((with_reducible show LoopPost _ _ _ _ _ _ _ _ _); (dsimp only [LoopPost])) | ((k_here; (with_reducible show wpAny _ _ (call (Value.ref 189) _) _ _ _); k_dflt (refine' u_ifmt ?k1 ?k2 ?k3 ?k4 ?k5 ?k6 ?k7 ?_; (case k1 => k_asm); (case k2 => k_asm); (case k3 => assumption); (case k4 => assumption); (case k5 => exact rfl); (case k6 => decide); (case k7 => decide)); intro t' h' tk' F' N'; (try k_sweep))) | walk1)))))
  rename Fr _ _ _ _ => F1
  rename News _ _ _ _ => N1
  refine for_enumTup (FmInv s.gens mode t1) rfl hT F1 N1 ⟨rfl, _, _, _, rfl, rfl, rfl, .nil⟩ rfl rfl rfl ?_ ?_
  · rintro i v t m nw h tk gs own E' hv ⟨rfl, Dp, its, e, rfl, hm1, hm2, hits⟩ hoff F2 N2
    clear F1 N1
    obtain ⟨m2, rfl⟩ := as_if2 hm1 hm2
    dsimp only at F2 N2
    clear hm1 hm2
    obtain ⟨q, hq, rfl⟩ : ∃ q, fmRows[i]? = some q ∧ v = .ref q.1 := by
      simp only [List.getElem?_toArray, List.getElem?_map, Option.map_eq_some_iff] at hv
      obtain ⟨q, h1, h2⟩ := hv
      exact ⟨q, h1, h2.symm⟩
    obtain ⟨hqT, hqP⟩ := rows_get hR hq
    obtain ⟨vals, hvals⟩ := pairs_vals hqP
    have hi10 : i < 10 := (List.getElem?_eq_some_iff.mp hq).1
    have hsz0 : its.size ≤ 10 := by have := hits.length; simp [fmSigns] at this; (first | lia | omega)
    (repeat' (first | (fail_if_success (with_reducible show wpAny _ _ (exec (Stmt.For _ _ _ _ _) _) _ _ _)); (first | (k_unfold; (try dsimp only)) | (first | ((with_reducible show LoopPost _ _ _ _ _ _ _ _ _); (dsimp only [LoopPost])) | ((k_here; (with_reducible show wpAny _ _ (call (Value.ref 189) _) _ _ _); k_dflt (refine' u_ifmt ?k1 ?k2 ?k3 ?k4 ?k5 ?k6 ?k7 ?_; (case k1 => k_asm); (case k2 => k_asm); (case k3 => assumption); (case k4 => assumption); (case k5 => exact rfl); (case k6 => decide); (case k7 => decide)); intro t' h' tk' F' N'; (try k_sweep))) | walk1) | (dsimp only; (first | ((with_reducible show LoopPost _ _ _ _ _ _ _ _ _); (dsimp only [LoopPost])) | ((k_here; (with_reducible show wpAny _ _ (call (Value.ref 189) _) _ _ _); k_dflt (refine' u_ifmt ?k1 ?k2 ?k3 ?k4 ?k5 ?k6 ?k7 ?_; (case k1 => k_asm); (case k2 => k_asm); (case k3 => assumption); (case k4 => assumption); (case k5 => exact rfl); (case k6 => decide); (case k7 => decide)); intro t' h' tk' F' N'; (try k_sweep))) | walk1)))))
    refine wpAny_For ?_ (fun _ => rfl)
    walk1
    rename Fr _ _ _ _ => F3
    rename News _ _ _ _ => N3
    have gt : ∀ j, j < (q.2.map fun x => Value.ref x.1).toArray.size → q.2[j]? = some (q.2.getD j (0, 0, 0)) := fun j hj => by simp at hj; simp [hj]
    refine for_tupPairs (Ts := fun j => (q.2.getD j (0, 0, 0)).1) (vals := vals) (fun j m nw gs => gs = s.gens ∧ nw = (Dp, listOf its e) :: own ∧ m "perm" = some (.ref Dp) ∧ m "mode" = some (.int mode t1) ∧ m "index" = some (.int i t) ∧ pickC mode i (q.2.drop j) = pickC mode i q.2)
      rfl hqT (fun j hj => by rw [List.getElem?_toArray, List.getElem?_map, gt j hj]; rfl) (fun j hj => (hvals j _ (gt j hj)).1) (fun j hj => let ⟨_, _, e⟩ := (hvals j _ (gt j hj)).2; ⟨_, _, e⟩) F3 N3 ⟨rfl, rfl, rfl, rfl, rfl, rfl⟩ rfl rfl rfl ?_ ?_
    · rintro j va vb m nw h tk gs own2 E' hj hvj ⟨rfl, rfl, hm1, hm2, hm3, hpk⟩ hoff2 F4 N4
      clear F3 N3
      obtain ⟨m3, rfl⟩ := as_if3 hm1 hm2 hm3
      dsimp only at F4 N4
      clear hm1 hm2 hm3
      obtain ⟨tb, uc, hvv⟩ := (hvals j _ (gt j hj)).2
      rw [hvv] at hvj
      have e' : va = .int (q.2.getD j (0, 0, 0)).2.1 tb ∧ vb = .str ⟨#[(q.2.getD j (0, 0, 0)).2.2]⟩ uc := by simpa [eq_comm] using hvj
      obtain ⟨rfl, rfl⟩ := e'
      have hcons : pickC mode i (q.2.drop j) = if hitB mode i (q.2.getD j (0, 0, 0)).2.1 then (q.2.getD j (0, 0, 0)).2.2 else pickC mode i (q.2.drop (j + 1)) := by
        have hjl : j < q.2.length := by simpa using hj
        rw [List.drop_eq_getElem_cons hjl, show q.2.getD j (0, 0, 0) = q.2[j] by simp [hjl]]; rfl
      rw [hpk] at hcons
      generalize (q.2.getD j (0, 0, 0)).2.1 = bit at *
      generalize (q.2.getD j (0, 0, 0)).2.2 = cc at *
      have hoff3 : OwnOff (own ++ own2) [Dp] := fun q hq b hb => by
        rcases List.mem_append.mp hq with hq | hq
        · exact hoff q hq b hb
        · exact hoff2 q hq b (by rw [List.mem_singleton.mp hb]; exact .head _)
      replace N4 : News g L h ((Dp, W.listOf its e) :: (own ++ own2)) := N4
      have hsz : its.size ≤ 10 := hsz0
      (repeat' (first | (fail_if_success (with_reducible show wpAny _ _ (exec (Stmt.For _ _ _ _ _) _) _ _ _)); (first | (k_unfold; (try dsimp only)) | (first | ((with_reducible show LoopPost _ _ _ _ _ _ _ _ _); (dsimp only [LoopPost])) | ((k_here; (with_reducible show wpAny _ _ (call (Value.ref 189) _) _ _ _); k_dflt (refine' u_ifmt ?k1 ?k2 ?k3 ?k4 ?k5 ?k6 ?k7 ?_; (case k1 => k_asm); (case k2 => k_asm); (case k3 => assumption); (case k4 => assumption); (case k5 => exact rfl); (case k6 => decide); (case k7 => decide)); intro t' h' tk' F' N'; (try k_sweep))) | walk1) | (dsimp only; (first | ((with_reducible show LoopPost _ _ _ _ _ _ _ _ _); (dsimp only [LoopPost])) | ((k_here; (with_reducible show wpAny _ _ (call (Value.ref 189) _) _ _ _); k_dflt (refine' u_ifmt ?k1 ?k2 ?k3 ?k4 ?k5 ?k6 ?k7 ?_; (case k1 => k_asm); (case k2 => k_asm); (case k3 => assumption); (case k4 => assumption); (case k5 => exact rfl); (case k6 => decide); (case k7 => decide)); intro t' h' tk' F' N'; (try k_sweep))) | walk1)))))
      all_goals rename Fr _ _ _ _ => F5
      all_goals rename News _ _ _ _ => N5
      · rename Builtin.bitAnd mode 61440 = bit => hb
        have hi0 : i = 0 := by (first | lia | omega)
        rw [if_pos (by simp [hitB, hi0, hb])] at hcons
        exact ⟨_, _, _, [(Dp, listOf (its.push (.str ⟨#[cc]⟩ uc)) (e + 1))], _, rfl, F5, news_sub N5 (fun q hq => by simp at hq ⊢; rcases hq with h | h; exact .inl h; exact .inr (.inl h)), hoff, rfl, _, _, _, rfl, rfl, rfl, signs_push hq hcons hits⟩
      · rename Builtin.bitAnd mode 61440 ≠ bit => hb
        have hi0 : i = 0 := by (first | lia | omega)
        rw [if_neg (by simp [hitB, hi0, hb])] at hcons
        exact ⟨_, _, _, _, _, rfl, F5, N5, hoff2, rfl, rfl, rfl, rfl, rfl, hcons.symm⟩
      · rename Builtin.bitAnd mode bit = bit => hb
        have hi0 : i ≠ 0 := by (first | lia | omega)
        rw [if_pos (by simp [hitB, hi0, hb])] at hcons
        exact ⟨_, _, _, [(Dp, listOf (its.push (.str ⟨#[cc]⟩ uc)) (e + 1))], _, rfl, F5, news_sub N5 (fun q hq => by simp at hq ⊢; rcases hq with h | h; exact .inl h; exact .inr (.inl h)), hoff, rfl, _, _, _, rfl, rfl, rfl, signs_push hq hcons hits⟩
      · rename Builtin.bitAnd mode bit ≠ bit => hb
        have hi0 : i ≠ 0 := by (first | lia | omega)
        rw [if_neg (by simp [hitB, hi0, hb])] at hcons
        exact ⟨_, _, _, _, _, rfl, F5, N5, hoff2, rfl, rfl, rfl, rfl, rfl, hcons.symm⟩
    · rintro m nw h tk gs E' ⟨rfl, rfl, hm1, hm2, hm3, hpk⟩ F4 N4
      clear F3 N3
      obtain ⟨m3, rfl⟩ := as_if3 hm1 hm2 hm3
      dsimp only at F4 N4
      clear hm1 hm2 hm3
      rw [show (q.2.map fun x => Value.ref x.1).toArray.size = q.2.length by simp, List.drop_length] at hpk
      have hoff3 : OwnOff own [Dp] := hoff
      (repeat' (first | (fail_if_success (with_reducible show wpAny _ _ (exec (Stmt.For _ _ _ _ _) _) _ _ _)); (first | (k_unfold; (try dsimp only)) | (first | ((with_reducible show LoopPost _ _ _ _ _ _ _ _ _); (dsimp only [LoopPost])) | ((k_here; (with_reducible show wpAny _ _ (call (Value.ref 189) _) _ _ _); k_dflt (refine' u_ifmt ?k1 ?k2 ?k3 ?k4 ?k5 ?k6 ?k7 ?_; (case k1 => k_asm); (case k2 => k_asm); (case k3 => assumption); (case k4 => assumption); (case k5 => exact rfl); (case k6 => decide); (case k7 => decide)); intro t' h' tk' F' N'; (try k_sweep))) | walk1) | (dsimp only; (first | ((with_reducible show LoopPost _ _ _ _ _ _ _ _ _); (dsimp only [LoopPost])) | ((k_here; (with_reducible show wpAny _ _ (call (Value.ref 189) _) _ _ _); k_dflt (refine' u_ifmt ?k1 ?k2 ?k3 ?k4 ?k5 ?k6 ?k7 ?_; (case k1 => k_asm); (case k2 => k_asm); (case k3 => assumption); (case k4 => assumption); (case k5 => exact rfl); (case k6 => decide); (case k7 => decide)); intro t' h' tk' F' N'; (try k_sweep))) | walk1)))))
      all_goals rename Fr _ _ _ _ => F5
      all_goals rename News _ _ _ _ => N5
      · have hi0 : i = 0 := by (first | lia | omega)
        rw [show pickC mode i [] = 63 by simp [pickC, hi0]] at hpk
        rw [show Str.ofString "?" = ⟨#[63]⟩ from by decide +kernel] at N5
        exact ⟨_, _, _, [(Dp, listOf (its.push (.str ⟨#[63]⟩ _)) (e + 1))], _, rfl, F5, N5, hoff, rfl, _, _, _, rfl, rfl, rfl, signs_push hq hpk.symm hits⟩
      · have hi0 : i ≠ 0 := by (first | lia | omega)
        rw [show pickC mode i [] = 45 by simp [pickC, hi0]] at hpk
        rw [show Str.ofString "-" = ⟨#[45]⟩ from by decide +kernel] at N5
        exact ⟨_, _, _, [(Dp, listOf (its.push (.str ⟨#[45]⟩ _)) (e + 1))], _, rfl, F5, N5, hoff, rfl, _, _, _, rfl, rfl, rfl, signs_push hq hpk.symm hits⟩
  · rintro m nw h tk gs E' ⟨rfl, Dp, its, e, rfl, hm1, hm2, hits⟩ F2 N2
    clear F1 N1
    obtain ⟨m2, rfl⟩ := as_if2 hm1 hm2
    dsimp only at F2 N2
    clear hm1 hm2
    have hsz : its.size ≤ 10 := by have := hits.length; simp [fmSigns, fmRows] at this; (first | lia | omega)
    (repeat' (first | (fail_if_success (with_reducible show wpAny _ _ (exec (Stmt.For _ _ _ _ _) _) _ _ _)); (first | (k_unfold; (try dsimp only)) | (first | ((with_reducible show LoopPost _ _ _ _ _ _ _ _ _); (dsimp only [LoopPost])) | ((k_here; (with_reducible show wpAny _ _ (call (Value.ref 189) _) _ _ _); k_dflt (refine' u_ifmt ?k1 ?k2 ?k3 ?k4 ?k5 ?k6 ?k7 ?_; (case k1 => k_asm); (case k2 => k_asm); (case k3 => assumption); (case k4 => assumption); (case k5 => exact rfl); (case k6 => decide); (case k7 => decide)); intro t' h' tk' F' N'; (try k_sweep))) | walk1) | (dsimp only; (first | ((with_reducible show LoopPost _ _ _ _ _ _ _ _ _); (dsimp only [LoopPost])) | ((k_here; (with_reducible show wpAny _ _ (call (Value.ref 189) _) _ _ _); k_dflt (refine' u_ifmt ?k1 ?k2 ?k3 ?k4 ?k5 ?k6 ?k7 ?_; (case k1 => k_asm); (case k2 => k_asm); (case k3 => assumption); (case k4 => assumption); (case k5 => exact rfl); (case k6 => decide); (case k7 => decide)); intro t' h' tk' F' N'; (try k_sweep))) | walk1)))))
    have hl : h.IsList Dp its := ⟨_, (N2 _ (.head _)).1, rfl, _, rfl⟩
    refine join_list hl hits (by rw [signs_len, show (Str.ofString "").length = 0 from by decide +kernel, Nat.mul_zero]; simp [fmSigns, fmRows]) fun t' k => ?_
    rw [signs_join]
    exact hret _ _ _ (keeps_of hkeep F2)
end
section
variable {w : World} {p : Program} {loose : List Str} {mean : ExcName → Option Value} {mg mb : Str → Option Value} {G g : Heap} {L : Addr} {m : Str → Option Value} {nw : List (Addr × Obj)} {A : Around} {s : Shared} {Q E : Value → Shared → Prop}
theorem u_filemode {mode : Int} {t1 : Tok} (F : Fr g L s.heap m) (N : News g L s.heap nw) (D : Gd w p loose mean mg mb G) (hs : G.StaysIn g) (hh : A.handled = none) (hd : A.depth ≤ 700) (hu : A.units ≤ 500)
    (h1 : 0 ≤ mode) (h2 : mode < 65536)
    (k : ∀ t h' tk', Fr g L h' m → News g L h' nw → Q (.str ⟨(fmSigns mode 10).toArray⟩ t) { s with heap := h', toks := tk' }) :
    wpAny (model Challenge.rw_oc0165_02.row.prog w) A (call (.ref 229) [.int mode t1]) Q E s :=
  wp_up hh hd hu (c_filemode D (stays_fr F hs) h1 h2 fun t h' tk' hk => k t h' tk' (frK F hk) (newsK N hk))
end
end Mine
end

section
-- RowB
example : True := by w_top off; trivial
open PySem PySem.W PyProof.Rows PySem.Calls PySem.Spec
namespace Mine
/-- a row: the letter, and behind it what filemode tells, turned -/
noncomputable def rowS (letter : Str) (mode place : Int) : Str := letter ++ Txt.slice ⟨(fmSigns mode 10).toArray⟩ (some (place + 1)) none ++ Txt.slice ⟨(fmSigns mode 10).toArray⟩ none (some (place + 1))
section
variable {w : World} {p : Program} {loose : List Str} {mean : ExcName → Option Value} {mg mb : Str → Option Value} {G : Heap} {s : Shared} {Q E : Value → Shared → Prop}
set_option maxRecDepth 100000
set_option maxHeartbeats 8000000
theorem c_row {letter : Str} {mode place : Int} {t1 t2 t3 : Tok} (D : Gd w p loose mean mg mb G) (St : G.StaysIn s.heap) (hl : letter.length = 1) (h1 : 0 ≤ mode) (h2 : mode < 65536) (h3 : 0 ≤ place) (h4 : place < 10)
    (hret : ∀ t h' tk', (∀ b o, s.heap.get? b = some o → h'.get? b = some o) → Q (.str (rowS letter mode place) t) { s with heap := h', toks := tk' }) :
    wpAny (model Challenge.rw_oc0165_02.row.prog w) (Am 600 400) (call (.ref 255) [.str letter t1, .int mode t2, .int place t3]) Q E s := by
  have fill : (hd.heap_1 w.params).In G := D.X
  revert fill
  k_fill
  intro _
  refine wpAny_call ?_
  refine' enterP (binds := [("letter", .str letter t1), ("mode", .int mode t2), ("place", .int place t3)]) [] D St ?k3 ?k4 ?k6 ?k7 ?k8 ?k9 ?kB ?c5 ?c2 ?c3 ?c4 ?_
  (((case k3 => exact fun _ q => nomatch q); (case k4 => exact fun _ q => nomatch q); (case k6 => k_is); (case k7 => k_is); (case k8 => decide); (case k9 => exact BindsTo.of_eq rfl); (case kB => exact locs rfl); (case c5 => decide); (case c2 => exact rfl); (case c3 => exact rfl); (case c4 => exact rfl)))
  intro g L h hg hL F N X T l1 hkeep hst
  dsimp only
  k_fold
  have hsl : (Str.mk (fmSigns mode 10).toArray).length = 10 := by simp [Str.length, fmSigns]
  (repeat' (first | (fail_if_success (with_reducible show wpAny _ _ (exec (Stmt.For _ _ _ _ _) _) _ _ _)); (first | (k_unfold; (try dsimp only)) | (first | ((k_here; (with_reducible show wpAny _ _ (call (Value.ref 229) _) _ _ _); k_dflt (refine' u_filemode ?k1 ?k2 ?k3 ?k4 ?k5 ?k6 ?k7 ?k8 ?k9 ?_; (case k1 => k_asm); (case k2 => k_asm); (case k3 => assumption); (case k4 => assumption); (case k5 => exact rfl); (case k6 => decide); (case k7 => decide); (case k8 => assumption); (case k9 => assumption)); intro t' h' tk' F' N'; (try k_sweep))) | walk1) | (dsimp only; (first | ((k_here; (with_reducible show wpAny _ _ (call (Value.ref 229) _) _ _ _); k_dflt (refine' u_filemode ?k1 ?k2 ?k3 ?k4 ?k5 ?k6 ?k7 ?k8 ?k9 ?_; (case k1 => k_asm); (case k2 => k_asm); (case k3 => assumption); (case k4 => assumption); (case k5 => exact rfl); (case k6 => decide); (case k7 => decide); (case k8 => assumption); (case k9 => assumption)); intro t' h' tk' F' N'; (try k_sweep))) | walk1)))))
  try k_unfold
  try dsimp only
  exact hret _ _ _ (keeps_of hkeep (by assumption))
end
section
variable {w : World} {p : Program} {loose : List Str} {mean : ExcName → Option Value} {mg mb : Str → Option Value} {G g : Heap} {L : Addr} {m : Str → Option Value} {nw : List (Addr × Obj)} {A : Around} {s : Shared} {Q E : Value → Shared → Prop}
end
end Mine
end

section
-- CellsB
example : True := by w_top off; trivial
open PySem PySem.W PyProof.Rows PySem.Calls PySem.Spec
namespace Mine
theorem ints_item : ∀ {vs : List Value} {ns : List Int}, IntsAre vs ns → ∀ {i : Nat} {v : Value}, vs[i]? = some v → ∃ x t, v = .int x t ∧ ns[i]? = some x
  | _, _, .nil, i, v, e => by simp at e
  | _, _, .cons x t r, 0, v, e => by simp at e; exact ⟨x, t, e.symm, rfl⟩
  | _, _, .cons x t r, i + 1, v, e => by simpa using ints_item r (by simpa using e)
theorem fr_loc {h₀ h : Heap} {L : Addr} {m : Str → Option Value} (F : Fr h₀ L h m) : ∃ o, h.get? L = some o :=
  let ⟨o, _, _, ho, _⟩ := F.ns; ⟨o, ho⟩
theorem news_more {h₀ h h' : Heap} {L : Addr} {m : Str → Option Value} {nw : List (Addr × Obj)} {b : Addr} {o : Obj} (N : News h₀ L h' nw) (F : Fr h₀ L h m) (hb : h.get? b = none) (hb' : h'.get? b = some o) : News h₀ L h' ((b, o) :: nw) := by
  intro q hq
  rcases List.mem_cons.mp hq with rfl | hq
  · refine ⟨hb', ?_, ?_⟩
    · rintro rfl
      obtain ⟨o2, e2⟩ := fr_loc F
      rw [e2] at hb; cases hb
    · cases e : h₀.get? b with
      | none => rfl
      | some o2 => rw [F.keep b o2 e] at hb; cases hb
  · exact N q hq
/-- what holds between the turns -/
inductive CellsInv (g0 : Array GenState) (Dl : Addr) (ws : List Value) (l : Addr) (i : Nat) (m : Str → Option Value) (nw : List (Addr × Obj)) (gs : Array GenState) : Prop
  | mk (eg : gs = g0) (C : Addr) (its : List Value) (e : Nat) (cs : List Int) (en : nw = [(Dl, listOf ws.toArray 0), (C, listOf its.toArray e)]) (hC : C < Dl) (m1 : m "cells" = some (.ref C)) (m2 : m "script" = some (.ref l)) (hi : IntsAre its cs) (hl : cs.length = 6)
section
variable {w : World} {p : Program} {loose : List Str} {mean : ExcName → Option Value} {mg mb : Str → Option Value} {G : Heap} {s : Shared} {Q E : Value → Shared → Prop}
set_option maxRecDepth 100000
set_option maxHeartbeats 8000000
theorem c_cells {l : Addr} {vs : List Value} {ns : List Int} (D : Gd w p loose mean mg mb G) (St : G.StaysIn s.heap) (hl : s.heap.IsList l vs.toArray) (hi : IntsAre vs ns) (hn : ns.length ≤ 63)
    (hret : ∀ T M f t ys ms k h' tk', (∀ b o, s.heap.get? b = some o → h'.get? b = some o) → s.heap.get? T = none → s.heap.get? M = none → h'.get? T = some { cls := .type "tuple", data := .seq #[.int f t, .ref M] } → h'.get? M = some (listOf (List.toArray ys) k) → IntsAre ys ms →
      5 ≤ ms.length → ms.length ≤ 6 → (∀ x ∈ ms, 0 ≤ x ∧ x < 65536) → Q (.ref T) { s with heap := h', toks := tk' }) :
    wpAny (model Challenge.rw_oc0165_02.row.prog w) (Am 600 400) (call (.ref 241) [.ref l]) Q E s := by
  have fill : (hd.heap_1 w.params).In G := D.X
  revert fill
  k_fill
  intro _
  refine wpAny_call ?_
  refine' enterP (binds := [("script", .ref l)]) [] D St ?k3 ?k4 ?k6 ?k7 ?k8 ?k9 ?kB ?c5 ?c2 ?c3 ?c4 ?_
  (((case k3 => exact fun _ q => nomatch q); (case k4 => exact fun _ q => nomatch q); (case k6 => k_is); (case k7 => k_is); (case k8 => decide); (case k9 => exact BindsTo.of_eq rfl); (case kB => exact locs rfl); (case c5 => decide); (case c2 => exact rfl); (case c3 => exact rfl); (case c4 => exact rfl)))
  intro g L h hg hL F N X T l1 hkeep hst
  have hlg : g.IsList l vs.toArray := hl.at fun o e => hkeep _ _ e fun _ q => nomatch q
  dsimp only
  try k_fold
  (repeat' (first | (fail_if_success (with_reducible show wpAny _ _ (exec (Stmt.For _ _ _ _ _) _) _ _ _)); (first | (k_unfold; (try dsimp only)) | walk1 | (dsimp only; walk1))))
  refine wpAny_For ?_ (fun _ => rfl)
  (repeat' (first | (fail_if_success (with_reducible show wpAny _ _ (exec (Stmt.For _ _ _ _ _) _) _ _ _)); (first | (k_unfold; (try dsimp only)) | walk1 | (dsimp only; walk1))))
  rename Fr _ _ _ _ => F1
  rename News _ _ _ _ => N1
  rename_i Dl ws h5 hI hC hLn hlt
  refine for_enumList (l := Dl) (items := ws.toArray) (ep := 0) (CellsInv s.gens Dl ws l)
    rfl (by rintro i m nw gs ⟨rfl, C, its, e, cs, rfl, _⟩; exact .head _) F1 N1 ⟨rfl, _, [_, _, _, _, _, _], _, _, rfl, hlt, rfl, rfl, .cons _ _ (.cons _ _ (.cons _ _ (.cons _ _ (.cons _ _ (.cons _ _ .nil))))), rfl⟩ rfl rfl rfl ?_ ?_
  · rintro i v t m nw h tk gs own E' hv ⟨rfl, C, its, e, cs, rfl, hCD, hm1, hm2, hits, hc6⟩ hoff F2 N2
    clear F1 N1
    obtain ⟨m2, rfl⟩ := as_if2 hm1 hm2
    dsimp only at F2 N2
    clear hm1 hm2
    obtain ⟨x, tx, rfl, hx⟩ := ints_item hI (show ws[i]? = some v by simpa using hv)
    have hi6 : i < 6 := by have := (List.getElem?_eq_some_iff.mp hx).1; rw [List.length_take] at this; exact Nat.lt_of_lt_of_le this (Nat.min_le_left _ _)
    replace N2 : News g L h ((Dl, listOf ws.toArray 0) :: (C, listOf its.toArray e) :: own) := N2
    have hoff' : OwnOff own [Dl, C] := hoff
    have hi6' : (i : Int) < 6 := by (first | lia | omega)
    have hc6' : (cs.length : Int) = 6 := by (first | lia | omega)
    (repeat' (first | (fail_if_success (with_reducible show wpAny _ _ (exec (Stmt.For _ _ _ _ _) _) _ _ _)); (first | (k_unfold; (try dsimp only)) | walk1 | (dsimp only; walk1))))
    refine ksa_set F2 N2 (.tail (Nat.ne_of_gt hCD) (.head fun q hq => hoff' q hq C (.tail _ (.head _)))) hits (by (first | lia | omega)) (by (first | lia | omega)) (by (first | lia | omega)) ?_
    intro h3 F3 N3 i3 l3 s3
    (repeat' (first | (fail_if_success (with_reducible show wpAny _ _ (exec (Stmt.For _ _ _ _ _) _) _ _ _)); (first | (k_unfold; (try dsimp only)) | walk1 | (dsimp only; walk1))))
    exact ⟨_, _, _, [(Dl, listOf ws.toArray 0), (C, listOf (its.set (i : Int).toNat _).toArray e)], _, rfl, F3, N3, hoff, rfl, C, _, e, _, rfl, hCD, rfl, rfl, i3, l3.trans hc6⟩
  · rintro m nw h tk gs E' ⟨rfl, C, its, e, cs, rfl, hCD, hm1, hm2, hits, hc6⟩ F2 N2
    clear F1 N1
    obtain ⟨m2, rfl⟩ := as_if2 hm1 hm2
    dsimp only at F2 N2
    clear hm1 hm2
    have hc6' : (cs.length : Int) = 6 := by (first | lia | omega)
    (repeat' (first | (fail_if_success (with_reducible show wpAny _ _ (exec (Stmt.For _ _ _ _ _) _) _ _ _)); (first | (k_unfold; (try dsimp only)) | walk1 | (dsimp only; walk1))))
    rename Fr _ _ _ _ => F3
    rename News _ _ _ _ => N3
    rename IntsAre _ (List.map _ _) => hI3
    have hk := keeps_of hkeep F3
    have hf : ∀ b, g.get? b = none → s.heap.get? b = none := fun b e => by
      cases e2 : s.heap.get? b with
      | none => rfl
      | some o => rw [hkeep b o e2 (fun _ q => nomatch q)] at e; cases e
    have z1 := N3 _ (.head _)
    have z2 := N3 _ (.tail _ (.head _))
    refine hret _ _ _ _ _ _ _ _ _ hk (hf _ z1.2.2) (hf _ z2.2.2) z1.1 z2.1 hI3 ?_ ?_ ?_
    · rw [List.length_map, List.length_append, List.length_drop, List.length_take, List.length_drop, hc6]; exact Nat.le_add_right 5 _
    · rw [List.length_map, List.length_append, List.length_drop, List.length_take, List.length_drop, hc6]; exact Nat.add_le_add_left (Nat.le_trans (Nat.min_le_left _ _) (Nat.sub_le_sub_right (Nat.min_le_left 7 _) 6)) 5
    · intro x hx
      obtain ⟨y, _, rfl⟩ := List.mem_map.mp hx
      rw [Int.fmod_eq_emod_of_nonneg _ (by decide)]
      (first | lia | omega)
end
section
variable {w : World} {p : Program} {loose : List Str} {mean : ExcName → Option Value} {mg mb : Str → Option Value} {G g : Heap} {L : Addr} {m : Str → Option Value} {nw : List (Addr × Obj)} {A : Around} {s : Shared} {Q E : Value → Shared → Prop}
theorem u_cells {l : Addr} {vs : List Value} {ns : List Int} (F : Fr g L s.heap m) (N : News g L s.heap nw) (D : Gd w p loose mean mg mb G) (hs : G.StaysIn g) (hh : A.handled = none) (hd : A.depth ≤ 600) (hu : A.units ≤ 400)
    (hl : g.IsList l vs.toArray) (hi : IntsAre vs ns) (hn : ns.length ≤ 63)
    (k : ∀ T M f t ys ms k h' tk', Fr g L h' m → News g L h' ((T, { cls := .type "tuple", data := .seq #[.int f t, .ref M] }) :: (M, listOf (List.toArray ys) k) :: nw) → IntsAre ys ms → 5 ≤ ms.length → ms.length ≤ 6 → (∀ x ∈ ms, 0 ≤ x ∧ x < 65536) → Q (.ref T) { s with heap := h', toks := tk' }) :
    wpAny (model Challenge.rw_oc0165_02.row.prog w) A (call (.ref 241) [.ref l]) Q E s :=
  wp_up hh hd hu (c_cells D (stays_fr F hs) (hl.at fun o e => F.keep _ _ e) hi hn fun T M f t ys ms k' h' tk' hk hT hM h1 h2 h3 h4 h5 h6 => k T M f t ys ms k' h' tk' (frK F hk)
    (news_more (news_more (newsK N hk) F hM h2) F hT h1) h3 h4 h5 h6)
end
end Mine
end

section
-- AccB
example : True := by w_top off; trivial
open PySem PySem.W PyProof.Rows PySem.Calls PySem.Spec
set_option maxRecDepth 100000
namespace Mine
/-- an accumulator: a list of its own class, with a dict -/
noncomputable abbrev acObj (d : Addr) (ps : Array Value) (n : Nat) : Obj := { cls := .ref 178, dict := some d, data := .seq ps n, slots := #[] }
theorem check_meth {M : Model} {A : Around} {E : Value → Shared → Prop} {s : Shared} {i owner n : String} {self : Value} {rest : List Value} {kw : List (Str × Value)} {Q : Unit → Shared → Prop}
    (hk : builtinKind i = some .slot ∨ builtinKind i = some .method) (hs : splitId i = some (owner, n)) (hi : Looks M s.heap (isInstance self (.type owner)) true) (ha : argsOk i ⟨self :: rest, kw⟩) (q : Q () s) :
    wpAny M A (checkBuiltinCall i ⟨self :: rest, kw⟩) Q E s := by
  rcases hk with hk | hk <;>
  · simp only [checkBuiltinCall, hk, hs]
    refine wpAny_bind (hi.here ?_)
    simp only [Bool.not_true, Bool.false_eq_true, if_false]
    cases hsig : Manifest.signature? i with
    | none => exact wpAny_pure q
    | some sig =>
      simp only [argsOk, hsig] at ha
      have h2 : Bind.checkArgs i sig ⟨self :: rest, kw⟩ = pure () := ha
      show wpAny M A (Bind.checkArgs i sig ⟨self :: rest, kw⟩) Q E s
      rw [h2]; exact wpAny_pure q
theorem canon_lga : (Manifest.canonical "list.__getattribute__" != "object.__getattribute__") = false := by decide +kernel
section
variable {w : World} {A : Around} {E : Value → Shared → Prop} {s : Shared} {x d : Addr} {ps : Array Value} {n : Nat} {od : Obj}
theorem k_ga : findIn (hd.heap_1 w.params) (.ref 178) "__getattribute__" = some (some (.builtin "list.__getattribute__")) := by kernel_rfl
theorem k_hook : findIn (hd.heap_1 w.params) (.ref 178) "__getattr__" = some none := by kernel_rfl
theorem k_mro : mroIn (hd.heap_1 w.params) 178 (.type "list") = some true := by kernel_rfl
theorem ac_at {h : Heap} (hx : h.get? x = some (acObj d ps n)) (hd' : h.get? d = some od) : InstAt h x (acObj d ps n) 178 (some od) := ⟨hx, rfl, rfl, hd'⟩
theorem ac_inst {M : Model} {h : Heap} (X : (hd.heap_1 w.params).In h) (hx : h.get? x = some (acObj d ps n)) : Looks M h (isInstance (.ref x) (.type "list")) true :=
  (show Looks M h (typeOf (.ref x)) (.ref 178) from (Looks.ld hx).andThen .now).andThen (looks_mroIn X k_mro)
/-- a builtin of list, called with an accumulator -/
theorem ac_call {i nm : String} {b : Builtin} {rest : List Value} {Q : Value → Shared → Prop} (X : (hd.heap_1 w.params).In s.heap) (hx : s.heap.get? x = some (acObj d ps n))
    (hk : builtinKind i = some .slot ∨ builtinKind i = some .method) (hs : splitId i = some ("list", nm)) (hp : plainId i = true) (hb : entryFor table i = some b) (ha : argsOk i ⟨.ref x :: rest, []⟩)
    (hc : wpAny (model Challenge.rw_oc0165_02.row.prog w) A.in1 (b ⟨.ref x :: rest, []⟩) (fun fin s' => ∃ v, fin = .done (.ret v) ∧ Q v s') E s) :
    wpAny (model Challenge.rw_oc0165_02.row.prog w) A (call (.builtin i) (.ref x :: rest)) Q E s := by
  refine wpAny_call (codeAny_call_builtin hp hb (check_meth hk hs (ac_inst X hx) ha (wpAny_mono hc (fun fin s' h' => ?_) fun _ _ h' => h')))
  obtain ⟨v, rfl, hv⟩ := h'; exact hv
/-- a method of an accumulator -/
theorem ac_method {name : Str} {f : Value} {T : String} {pl : Sem Bool} {Q : Value × List Value → Shared → Prop} (X : (hd.heap_1 w.params).In s.heap) (hx : s.heap.get? x = some (acObj d ps n)) (hd' : s.heap.get? d = some od)
    (hf : findIn (hd.heap_1 w.params) (.ref 178) name = some (some f)) (ht : typeIn (hd.heap_1 w.params) f = some (.type T)) (hT : (Value.type T != .type "function" && Value.type T != .type "method_descriptor" && Value.type T != .type "wrapper_descriptor") = false)
    (hs : shadowIn (some od) name = some false) (h : Q (f, [.ref x]) s) :
    wpAny (model Challenge.rw_oc0165_02.row.prog w) A (getMethod (.ref x) name pl) Q E s := by
  have I := ac_at hx hd'
  have hcan := canon_lga
  unfold getMethod specialOf
  refine wpAny_bind (wpAny_bind (I.type.here ((looks_findIn X k_ga).here ?_)))
  dsimp only
  rw [hcan, if_neg (by decide)]
  refine wpAny_bind (wpAny_bind (I.type.here ((looks_findIn X k_hook).here ?_)))
  refine wpAny_bind (wpAny_bind (I.type.here ((looks_findIn X hf).here (wpAny_bind ((looks_typeIn X ht).here ?_)))))
  rw [if_neg (by rw [hT]; decide)]
  refine wpAny_bind (wpAny_loadPart I.at_ ?_)
  obtain ⟨r, a, b⟩ := Option.map_eq_some_iff.mp hs
  refine wpAny_bind (wpAny_bind (wpAny_loadPart hd' ?_))
  rw [nsLook_of a]
  refine wpAny_pure ?_
  rw [b]
  exact wpAny_bind (wpAny_rule (wpAny_pure h))
/-- an attribute of an accumulator that is no method -/
theorem ac_getattr {name : Str} {v : Value} {expr : Bool} {Q : Value → Shared → Prop} (X : (hd.heap_1 w.params).In s.heap) (hx : s.heap.get? x = some (acObj d ps n)) (hd' : s.heap.get? d = some od)
    (hf : findObj (hd.heap_1 w.params) 178 (some od) name = some (.value v)) (hh : handedIn v = true) (h : Q v { s with toks := s.toks + 1 }) :
    wpAny (model Challenge.rw_oc0165_02.row.prog w) A (getAttr (.ref x) name expr) Q E s := by
  obtain ⟨hp, g, dr, t, os⟩ := s
  have I := ac_at hx hd'
  have L0 := I.type (M := model Challenge.rw_oc0165_02.row.prog w)
  have L1 := looks_findIn (M := model Challenge.rw_oc0165_02.row.prog w) X k_ga
  have L2 := looks_findIn (M := model Challenge.rw_oc0165_02.row.prog w) X k_hook
  have L3 := looks_find (M := model Challenge.rw_oc0165_02.row.prog w) X I hf
  unfold getAttr getAttrBy
  refine wpAny_bind (wpAny_mkText (wpAny_holding (wpAny_bind (L0.at (wpAny_bind (L1.at ?_))))))
  show wpAny _ _ (getAttrByItsOwn (.ref x) (.str name t) (.ref 178) (.builtin "list.__getattribute__") true expr) _ _ _
  unfold getAttrByItsOwn hookBefore callGetattribute boundAndCalled
  refine wpAny_bind (L2.at ?_)
  rw [if_neg (by cases expr <;> decide)]
  refine wpAny_bind (wpAny_attempt (wpAny_holding ?_))
  show wpAny _ _ (bindSpecial (.builtin "list.__getattribute__") (.ref x) >>= _) _ _ _
  refine wpAny_bind (wpAny_of_eq (PySem.F.slot_list_getattribute.bind _) ?_)
  refine wpAny_mono (Q := fun v' s' => v' = v ∧ s' = ⟨hp, g, dr, t + 1, os⟩) (E := fun _ _ => False)
    (ac_call X hx (.inl (by decide +kernel)) (nm := "__getattribute__") (by decide +kernel) PySem.F.slot_list_getattribute.plain PySem.F.entry_list_ga (PySem.F.args_list_getattribute_2 _ _) ?_) (fun v' s' hv => ?_) fun _ _ z => z.elim
  · unfold Builtin.«object.__getattribute__»
    refine wpAny_bind (wpAny_pure (wpAny_bind (wpAny_pure (wpAny_bind (L0.at (wpAny_bind (L3.at ?_)))))))
    exact wpAny_pure ⟨_, rfl, rfl, rfl⟩
  · obtain ⟨rfl, rfl⟩ := hv
    show wpAny _ _ (handedOut _) _ _ _
    rw [handedOut_of hh]; exact wpAny_pure h
/-- the seven things that a list's builtins do to an accumulator -/
theorem ac_upd {h : Heap} (hx : h.get? x = some (acObj d ps n)) (f : Array Value → Array Value) : (h.update x (Obj.mapSeq f)).get? x = some (acObj d (f ps) (if (f ps).size == ps.size then n else n + 1)) := Heap.get?_update_self _ hx rfl
theorem pop_last {ps : Array Value} : ps.eraseIdxIfInBounds (ps.size - 1) = ps.pop := by
  apply Array.toList_inj.mp
  rcases ps with ⟨l⟩
  simp only [Array.eraseIdxIfInBounds, List.size_toArray]
  split
  · simp [List.dropLast_eq_take, List.eraseIdx_eq_take_drop_succ, show l.length - 1 + 1 = l.length by (first | lia | omega)]
  · have : l = [] := List.length_eq_zero_iff.mp (by (first | lia | omega))
    subst this; rfl
theorem b_append {v : Value} {Q : Value → Shared → Prop} (X : (hd.heap_1 w.params).In s.heap) (hx : s.heap.get? x = some (acObj d ps n)) (hz : ps.size ≤ 1000)
    (h : Q .none { s with heap := s.heap.update x (Obj.mapSeq fun a => a.push v) }) : wpAny (model Challenge.rw_oc0165_02.row.prog w) A (call (.builtin "list.append") [.ref x, v]) Q E s := by
  refine ac_call X hx (.inr (by decide +kernel)) (nm := "append") (by decide +kernel) PySem.F.slot_list_append.plain PySem.F.entry_list_append (PySem.F.args_list_append_2 _ _) ?_
  obtain ⟨hp, g, dr, tk, os⟩ := s
  have hsz : ps.size ≤ sizeLine := by rw [sizeLine_eq]; (first | lia | omega)
  have hz' : (ps.push v).size ≤ sizeLine + 1 := by rw [Array.size_push]; (first | lia | omega)
  wp_walk using (wpAny_updateSeq hx rfl (hz := hsz) (_hz' := hz'))
  exact ⟨_, rfl, h⟩
theorem b_iter {Q : Value → Shared → Prop} (X : (hd.heap_1 w.params).In s.heap) (hx : s.heap.get? x = some (acObj d ps n))
    (h : Q (.ref s.heap.objs.size) { s with heap := s.heap.push { cls := .type "list_iterator", data := .fields #[.ref x, rawInt 0] } }) : wpAny (model Challenge.rw_oc0165_02.row.prog w) A (call (.builtin "list.__iter__") [.ref x]) Q E s := by
  refine ac_call X hx (.inl (by decide +kernel)) (nm := "__iter__") (by decide +kernel) PySem.F.slot_list_iter.plain PySem.F.entry_list_iter (PySem.F.args_list_iter_1 _) ?_
  obtain ⟨hp, g, dr, tk, os⟩ := s
  wp_walk
  exact ⟨_, rfl, h⟩
end
end Mine
end

section
-- Acc2B
example : True := by w_top off; trivial
open PySem PySem.W PyProof.Rows PySem.Calls PySem.Spec
set_option maxRecDepth 100000
namespace Mine
section
variable {w : World} {A : Around} {E : Value → Shared → Prop} {s : Shared} {x d : Addr} {ps : Array Value} {n : Nat} {od : Obj}
theorem k_getitem : findIn (hd.heap_1 w.params) (.ref 178) "__getitem__" = some (some (.builtin "list.__getitem__")) := by kernel_rfl
theorem k_setitem : findIn (hd.heap_1 w.params) (.ref 178) "__setitem__" = some (some (.builtin "list.__setitem__")) := by kernel_rfl
theorem k_deque : mroIn (hd.heap_1 w.params) 178 (.type "collections.deque") = some false := by kernel_rfl
theorem ac_type {M : Model} {h : Heap} (hx : h.get? x = some (acObj d ps n)) : Looks M h (typeOf (.ref x)) (.ref 178) := (Looks.ld hx).andThen .now
theorem ac_key {k : Value} {name : Str} {Q : Value → Shared → Prop} (X : (hd.heap_1 w.params).In s.heap) (hx : s.heap.get? x = some (acObj d ps n)) (h : Q k s) :
    wpAny (model Challenge.rw_oc0165_02.row.prog w) A (sequenceKey (.ref x) k name) Q E s := by
  unfold sequenceKey
  refine wpAny_bind ((ac_type hx).here ?_)
  show wpAny _ _ ((List.anyM (fun n => isSubtype (.ref 178) (.type n)) ["collections.deque"]) >>= _) _ _ _
  refine wpAny_bind (wpAny_bind ((looks_mroIn X k_deque).here ?_))
  exact wpAny_pure (wpAny_pure h)
theorem ac_special {name : Str} {i : String} {args : List Value} {Q : Option Value → Shared → Prop} (X : (hd.heap_1 w.params).In s.heap) (hx : s.heap.get? x = some (acObj d ps n))
    (hf : findIn (hd.heap_1 w.params) (.ref 178) name = some (some (.builtin i))) (hb : bindSpecial (.builtin i) (.ref x) = pure (.builtin i, [.ref x]))
    (h : wpAny (model Challenge.rw_oc0165_02.row.prog w) A (call (.builtin i) (.ref x :: args)) (fun v => Q (some v)) E s) : wpAny (model Challenge.rw_oc0165_02.row.prog w) A (callSpecial? (.ref x) name args) Q E s := by
  unfold callSpecial? specialOf
  refine wpAny_bind (wpAny_bind ((ac_type hx).here ((looks_findIn X hf).here ?_)))
  refine wpAny_holding (wpAny_bind (wpAny_of_eq hb ?_))
  exact wpAny_bind (wpAny_mono h (fun _ _ z => wpAny_pure z) fun _ _ z => z)
theorem ac_tail {value slice : Expr} {i : Value} {ops : List Value} {Q : Value → Shared → Prop} (X : (hd.heap_1 w.params).In s.heap) (hx : s.heap.get? x = some (acObj d ps n))
    (hg : wpAny (model Challenge.rw_oc0165_02.row.prog w) A (getItem (.ref x) i) Q E s)
    (hs : subscripted slice false (.ref x) i = operate ops (getItem (.ref x) i)) : wpAny (model Challenge.rw_oc0165_02.row.prog w) A (subscriptTail value slice (.ref x) i) Q E s := by
  unfold subscriptTail
  refine wpAny_bind ?_
  rw [getitemInPython_of_ne (by intro h; cases h)]
  unfold specialOf
  refine wpAny_bind (wpAny_bind ((ac_type hx).here ((looks_findIn X k_getitem).here ?_)))
  have fin : wpAny (model Challenge.rw_oc0165_02.row.prog w) A (subscripted slice false (.ref x) i) (fun r s₃ => wpAny (model Challenge.rw_oc0165_02.row.prog w) A (letTemporaryGo value (.ref x) r >>= fun _ => pure r) Q E s₃) E s := by
    rw [hs]
    exact wpAny_operating (wpAny_mono hg (fun r s₃ h₃ => wpAny_bind (wpAny_letTemporaryGo (wpAny_pure h₃))) fun _ _ x => x)
  exact wpAny_pure (wpAny_bind fin)
/-- one item of an accumulator -/
theorem ac_item {k : Int} {u : Tok} {y : Value} {Q : Value → Shared → Prop} (X : (hd.heap_1 w.params).In s.heap) (hx : s.heap.get? x = some (acObj d ps n)) (hz : ps.size ≤ 1000) (h0 : 0 ≤ k) (hy : ps[k.toNat]? = some y) (h : Q y s) :
    wpAny (model Challenge.rw_oc0165_02.row.prog w) A (getItem (.ref x) (.int k u)) Q E s := by
  unfold getItem
  refine wpAny_holding ?_
  refine wpAny_bind (ac_key X hx ?_)
  refine wpAny_bind (ac_special X hx k_getitem (PySem.F.slot_list_getitem.bind _) (ac_call X hx (.inr (by decide +kernel)) (nm := "__getitem__") (by decide +kernel) PySem.F.slot_list_getitem.plain PySem.F.entry_list_getitem (PySem.F.args_list_getitem_2 _ _) ?_))
  have hk : k.toNat < ps.size := (Array.getElem?_eq_some_iff.mp hy).1
  have hfit : k < 2 ^ 63 := by omega
  show wpAny _ _ (Builtin.List.listSubscript? (.int k u) >>= _) _ _ s
  refine wpAny_bind (wpAny_listSubscript_int (fitsIndex_of h0 hfit) ?_)
  clear hfit hk
  obtain ⟨j, rfl⟩ := Int.eq_ofNat_of_zero_le h0
  have hx' : ps[j]? = some y := hy
  show wpAny _ _ ((seqItemAt x j >>= fun r => pure (r.map (j, ·))) >>= _) _ _ s
  refine wpAny_bind (wpAny_bind (wpAny_seqItemAt hx rfl (wpAny_pure ?_)))
  rw [hx']
  first
    | exact wpAny_bind (wpAny_pure (wpAny_pure ⟨y, rfl, wpAny_pure h⟩))
    | exact wpAny_pure ⟨y, rfl, wpAny_pure h⟩
theorem ac_slice {sl : Addr} {vl vu vs : Value} {lo hi st : Option Int} {Q : Value → Shared → Prop} (X : (hd.heap_1 w.params).In s.heap) (hx : s.heap.get? x = some (acObj d ps n)) (hz : ps.size ≤ 1000)
    (hs : s.heap.IsSliceOf sl vl vu vs) (pl : IsPart vl lo) (pu : IsPart vu hi) (pt : IsPart vs st) (h0 : st ≠ some 0)
    (h : Q (.ref s.heap.objs.size) { s with heap := s.heap.push { cls := .type "list", data := .seq (slicePick ps lo hi st) } }) : wpAny (model Challenge.rw_oc0165_02.row.prog w) A (getItem (.ref x) (.ref sl)) Q E s := by
  obtain ⟨os, hos, hcs, hds⟩ := id hs
  have hsz : ps.size ≤ sizeLine := by rw [sizeLine_eq]; omega
  have hTs : s.TypeIs (.ref sl) "slice" := ⟨os, hos, hcs⟩
  unfold getItem
  refine wpAny_holding ?_
  refine wpAny_bind (ac_key X hx ?_)
  refine wpAny_bind (ac_special X hx k_getitem (PySem.F.slot_list_getitem.bind _) (ac_call X hx (.inr (by decide +kernel)) (nm := "__getitem__") (by decide +kernel) PySem.F.slot_list_getitem.plain PySem.F.entry_list_getitem (PySem.F.args_list_getitem_2 _ _) ?_))
  show wpAny _ _ (Builtin.List.listSubscript? (.ref sl) >>= _) _ _ s
  refine wpAny_bind ?_
  unfold Builtin.List.listSubscript?
  refine wpAny_bind (wpAny_specialOf hTs slice_no_index ?_)
  simp only [Option.isNone_none, if_true]
  refine wpAny_pure ?_
  show wpAny _ _ (typeOf (.ref sl) >>= _) _ _ s
  refine wpAny_bind (wpAny_typeOf hTs ?_)
  rw [if_neg (by decide)]
  rw [listSliceParts_eq]
  have hstep : ¬ ((rawPart st == rawInt 0) = true) := by
    cases st with
    | none => exact Bool.false_ne_true
    | some c =>
      intro hh
      have : c = 0 := by simpa [rawPart, rawInt] using hh
      exact h0 (by rw [this])
  refine wpAny_bind (wpAny_bind (wpAny_field hos hds (x := vs) rfl (wpAny_bind (wpAny_listPart pt ?_))))
  rw [if_neg hstep]
  refine wpAny_bind (wpAny_field hos hds (x := vl) rfl (wpAny_bind (wpAny_listPart pl ?_)))
  refine wpAny_bind (wpAny_field hos hds (x := vu) rfl (wpAny_bind (wpAny_listPart pu (wpAny_pure ?_))))
  refine wpAny_bind (m := Builtin.List.listItems (.ref x)) ?_
  unfold Builtin.List.listItems
  refine wpAny_bind (wpAny_seqItems hx rfl (wpAny_pure ?_))
  refine wpAny_bind (wpAny_of_eq (sliceIndices_raw lo hi st ps.size h0) ?_)
  refine wpAny_bind (wpAny_newObj_type (wpAny_pure ⟨_, rfl, wpAny_pure h⟩) (Nat.le_trans (slicePick_size_le ps lo hi st) hsz))
/-- a list is put in the place of the items from start on -/
theorem ac_put {sl l : Addr} {vl vu : Value} {lo hi : Option Int} {items : Array Value} {Q : Unit → Shared → Prop} (X : (hd.heap_1 w.params).In s.heap) (hx : s.heap.get? x = some (acObj d ps n)) (hz : ps.size ≤ 1000) (hz2 : items.size ≤ 1000)
    (hs : s.heap.IsSliceOf sl vl vu .none) (pl : IsPart vl lo) (pu : IsPart vu hi) (hl : s.heap.IsList l items)
    (h : Q () { s with heap := s.heap.update x (Obj.mapSeq fun xs => xs.extract 0 (sliceBounds lo hi none ps.size).1.toNat ++ items ++ xs.extract (max (sliceBounds lo hi none ps.size).1 (sliceBounds lo hi none ps.size).2.1).toNat xs.size) }) :
    wpAny (model Challenge.rw_oc0165_02.row.prog w) A (setItem (.ref x) (.ref sl) (.ref l)) Q E s := by
  obtain ⟨os, hos, hcs, hds⟩ := id hs
  obtain ⟨ol, hol, hcl, nl, hdl⟩ := id hl
  have hne : Builtin.List.listSameRef (.ref x) (.ref l) = false := by
    simp only [Builtin.List.listSameRef, beq_eq_false_iff_ne]
    rintro rfl
    rw [hol] at hx; cases hx; cases hcl
  have hsz : ps.size ≤ sizeLine := by rw [sizeLine_eq]; omega
  have hTs : s.TypeIs (.ref sl) "slice" := ⟨os, hos, hcs⟩
  unfold setItem
  refine wpAny_holding ?_
  refine wpAny_bind (ac_key X hx ?_)
  refine wpAny_bind (ac_special X hx k_setitem (PySem.F.slot_list_setitem.bind _) (ac_call X hx (.inl (by decide +kernel)) (nm := "__setitem__") (by decide +kernel) PySem.F.slot_list_setitem.plain PySem.F.entry_list_setitem (PySem.F.args_list_setitem_3 _ _ _) ?_))
  show wpAny _ _ (Builtin.List.listSubscript? (.ref sl) >>= _) _ _ s
  refine wpAny_bind ?_
  unfold Builtin.List.listSubscript?
  refine wpAny_bind (wpAny_specialOf hTs slice_no_index ?_)
  simp only [Option.isNone_none, if_true]
  refine wpAny_pure ?_
  show wpAny _ _ (typeOf (.ref sl) >>= _) _ _ s
  refine wpAny_bind (wpAny_typeOf hTs ?_)
  rw [if_neg (by decide)]
  rw [listSliceParts_eq]
  refine wpAny_bind (wpAny_bind (wpAny_field hos hds (x := .none) rfl (wpAny_bind (wpAny_listPart .none ?_))))
  rw [if_neg (by decide)]
  refine wpAny_bind (wpAny_field hos hds (x := vl) rfl (wpAny_bind (wpAny_listPart pl ?_)))
  refine wpAny_bind (wpAny_field hos hds (x := vu) rfl (wpAny_bind (wpAny_listPart pu (wpAny_pure ?_))))
  simp only [hne]
  rw [if_neg (by decide)]
  refine wpAny_bind (m := Builtin.List.listAllItems (.ref l) _) ?_
  unfold Builtin.List.listAllItems
  refine wpAny_bind (wpAny_typeOf hl.typeIs ?_)
  rw [if_pos (by decide)]
  unfold Builtin.List.listItems
  refine wpAny_bind (wpAny_seqItems hol hdl (wpAny_pure ?_))
  refine wpAny_bind (wpAny_bind (wpAny_seqItems hx rfl (wpAny_pure ?_)))
  refine wpAny_bind (wpAny_of_eq (sliceIndices_raw lo hi none ps.size (by simp)) ?_)
  rw [if_pos (by rfl)]
  have hlong : ¬ Builtin.List.listTooLong (ps.size + items.size) = true := by simp [Builtin.List.listTooLong, sizeLine]; omega
  refine wpAny_bind (wpAny_rule ?_)
  rw [if_neg hlong]
  refine wpAny_bind (m := updateSeq x _) (wpAny_updateSeq hx rfl ?_ (hz := hsz) (_hz' := ?_))
  · exact wpAny_bind (wpAny_letGo (wpAny_pure ⟨_, rfl, wpAny_pure h⟩))
  · simp [sizeLine_eq]; omega
end
end Mine
end

section
-- SupB
example : True := by w_top off; trivial
open PySem PySem.W PyProof.Rows PySem.Calls PySem.Spec
set_option maxRecDepth 100000
namespace Mine
theorem slot_wget : Slot "wrapper_descriptor" "__get__" "wrapper_descriptor.__get__" :=
  .of (owner := "wrapper_descriptor") (n := "__get__") (by rw [typeLookup_type, builtinLookup_eq_fast]; kernel_rfl) (by decide +kernel) (by decide +kernel) (by decide +kernel)
    (by first | exact .inl (by decide +kernel) | exact .inr (by decide +kernel)) (by rw [isSubtype_type]; kernel_rfl)
theorem entry_wget : entryFor table "wrapper_descriptor.__get__" = some Builtin.«wrapper_descriptor.__get__» := entryFor_of_tree (by kernel_rfl)
theorem args_wget (a b c : Value) : argsOk "wrapper_descriptor.__get__" ⟨[a, b, c], []⟩ := by unfold argsOk; kernel_rfl
theorem slot_mget : Slot "method_descriptor" "__get__" "method_descriptor.__get__" :=
  .of (owner := "method_descriptor") (n := "__get__") (by rw [typeLookup_type, builtinLookup_eq_fast]; kernel_rfl) (by decide +kernel) (by decide +kernel) (by decide +kernel)
    (by first | exact .inl (by decide +kernel) | exact .inr (by decide +kernel)) (by rw [isSubtype_type]; kernel_rfl)
theorem entry_mget : entryFor table "method_descriptor.__get__" = some Builtin.«method_descriptor.__get__» := entryFor_of_tree (by kernel_rfl)
theorem args_mget (a b c : Value) : argsOk "method_descriptor.__get__" ⟨[a, b, c], []⟩ := by unfold argsOk; kernel_rfl
theorem t_len : typeOf (.builtin "list.__len__") = pure (.type "wrapper_descriptor") := by show builtinType _ = _; rw [builtinType_eq_fast]; kernel_rfl
theorem t_init : typeOf (.builtin "list.__init__") = pure (.type "wrapper_descriptor") := by show builtinType _ = _; rw [builtinType_eq_fast]; kernel_rfl
theorem t_pop : typeOf (.builtin "list.pop") = pure (.type "method_descriptor") := by show builtinType _ = _; rw [builtinType_eq_fast]; kernel_rfl
section
variable {w : World} {A : Around} {E : Value → Shared → Prop} {s : Shared} {x d : Addr} {ps : Array Value} {n : Nat} {od : Obj}
theorem s_len : ks_superIn (hd.heap_1 w.params) 178 178 "__len__" = some (some (.builtin "list.__len__")) := by kernel_rfl
theorem s_init : ks_superIn (hd.heap_1 w.params) 178 178 "__init__" = some (some (.builtin "list.__init__")) := by kernel_rfl
theorem s_pop : ks_superIn (hd.heap_1 w.params) 178 178 "pop" = some (some (.builtin "list.pop")) := by kernel_rfl
theorem s_opaque : nsIn (hd.heap_1 w.params) cStatics "thirdparty.any" = some none := by kernel_rfl
noncomputable abbrev bndObj (T i : String) (x : Addr) : Obj := { cls := .type T, data := .fields #[.builtin i, .ref x] }
theorem wget_run {i : String} {Q : Fin → Shared → Prop} (X : (hd.heap_1 w.params).In s.heap) (hx : s.heap.get? x = some (acObj d ps n)) (hi : i = "list.__len__" ∨ i = "list.__init__")
    (h : Q (.done (.ret (.ref s.heap.objs.size))) { s with heap := s.heap.push (bndObj "method-wrapper" i x) }) :
    wpAny (model Challenge.rw_oc0165_02.row.prog w) A (Builtin.«wrapper_descriptor.__get__» ⟨[.builtin i, .ref x, .ref 178], []⟩) Q E s := by
  unfold Builtin.«wrapper_descriptor.__get__»
  refine wpAny_bind (wpAny_of_eq (a := (.builtin i, some (.ref x), some (.ref 178))) (by rfl) ?_)
  rcases hi with rfl | rfl
  all_goals
    refine wpAny_bind (wpAny_bind (wpAny_of_eq (a := _) rfl (wpAny_bind ((ac_inst X hx).here ?_))))
    refine wpAny_pure ?_
    exact wpAny_bind (wpAny_newObj_type (wpAny_pure h))
theorem mget_run {Q : Fin → Shared → Prop} (X : (hd.heap_1 w.params).In s.heap) (hx : s.heap.get? x = some (acObj d ps n))
    (h : Q (.done (.ret (.ref s.heap.objs.size))) { s with heap := s.heap.push (bndObj "builtin_function_or_method" "list.pop" x) }) :
    wpAny (model Challenge.rw_oc0165_02.row.prog w) A (Builtin.«method_descriptor.__get__» ⟨[.builtin "list.pop", .ref x, .ref 178], []⟩) Q E s := by
  unfold Builtin.«method_descriptor.__get__»
  refine wpAny_bind (wpAny_of_eq (a := (.builtin "list.pop", some (.ref x), some (.ref 178))) (by rfl) ?_)
  dsimp only
  rw [if_neg (by decide +kernel)]
  refine wpAny_bind (wpAny_bind (wpAny_of_eq (a := _) rfl (wpAny_bind ((ac_inst X hx).here ?_))))
  refine wpAny_pure ?_
  exact wpAny_bind (wpAny_newObj_type (wpAny_pure h))
end
section
variable {prog : Program} {w : World} {A : Around} {E : Value → Shared → Prop} {h : Heap} {g : Array GenState} {dr : Drawn} {t : Nat} {os : OsState}
theorem sup_ga {so D x C : Addr} {l₀ l : List Value} {K : Frag} {name : Str} {i T gid : String} {B : Builtin} {ob : Obj} {tk : Tok} {Q : Fin → Shared → Prop}
    (hso : h.get? so = some { cls := .type "super", dict := none, data := .fields #[.ref D, .ref x, .ref C], slots := #[] }) (hno : Looks (model prog w) h (opaqueClassAbove (.ref C)) none)
    (hC : Looks (model prog w) h (mroOf (.ref C)) l₀) (hl : (l₀.dropWhile (· != .ref D)).drop 1 = l) (X : K.In h)
    (hf : alongIn K name l = some (some (.builtin i))) (hti : typeOf (.builtin i) = pure (.type T)) (hsl : Slot T "__get__" gid) (he : entryFor table gid = some B)
    (hag : ∀ a b c, argsOk gid ⟨[a, b, c], []⟩) (hxC : x ≠ C) (hn : (name == ("__class__" : Str)) = false)
    (hrun : ∀ (A : Around) (E : Value → Shared → Prop) (Q : Fin → Shared → Prop), Q (.done (.ret (.ref h.objs.size))) ⟨h.push ob, g, dr, t, os⟩ → wpAny (model prog w) A (B ⟨[.builtin i, .ref x, .ref C], []⟩) Q E ⟨h, g, dr, t, os⟩)
    (hq : Q (.done (.ret (.ref h.objs.size))) ⟨h.push ob, g, dr, t, os⟩) :
    wpAny (model prog w) A (Builtin.«super.__getattribute__» ⟨[.ref so, .str name tk], []⟩) Q E ⟨h, g, dr, t, os⟩ := by
  have hlk := hsl.lookup
  have hne : (Value.ref x == Value.ref C) = false := by simp [hxC]
  have hTf : (⟨h, g, dr, t, os⟩ : Shared).TypeIs (.builtin i) T := hti
  have hdt : ({ cls := .type "super", dict := none, data := .fields #[.ref D, .ref x, .ref C], slots := #[] } : Obj).data = .fields #[.ref D, .ref x, .ref C] := rfl
  have f0 : (#[.ref D, .ref x, .ref C] : Array Value)[0]? = some (.ref D) := rfl
  have f1 : (#[.ref D, .ref x, .ref C] : Array Value)[1]? = some (.ref x) := rfl
  have f2 : (#[.ref D, .ref x, .ref C] : Array Value)[2]? = some (.ref C) := rfl
  unfold Builtin.«super.__getattribute__»
  repeat (first
    | (with_reducible refine wpAny_field hso hdt f0 ?_) | (with_reducible refine wpAny_field hso hdt f1 ?_) | (with_reducible refine wpAny_field hso hdt f2 ?_)
    | (with_reducible refine ks_wpAny_notOpaque hno ?_)
    | (with_reducible refine Looks.at hC ?_; rw [hl])
    | (refine ks_forIn_along X (fun _ _ => rfl) rfl ?_ hf)
    | (with_reducible refine wpAny_typeOf hTf ?_)
    | (with_reducible refine wpAny_call_entry hsl hTf he ?_ (hag _ _ _))
    | (with_reducible refine hrun _ _ _ ?_)
    | (with_reducible refine ⟨_, rfl, ?_⟩)
    | (simp only [hn, hne, Bool.or_false, Bool.false_eq_true, if_false])
    | wp_step
    | dsimp only)
  all_goals exact hq
theorem sup_get {so D x C : Addr} {l₀ l : List Value} {K : Frag} {name : Str} {i T gid : String} {B : Builtin} {ob : Obj} {pl : Sem Bool} {Q : Value × List Value → Shared → Prop}
    (hso : h.get? so = some { cls := .type "super", dict := none, data := .fields #[.ref D, .ref x, .ref C], slots := #[] }) (hno : Looks (model prog w) h (opaqueClassAbove (.ref C)) none)
    (hC : Looks (model prog w) h (mroOf (.ref C)) l₀) (hl : (l₀.dropWhile (· != .ref D)).drop 1 = l) (X : K.In h)
    (hf : alongIn K name l = some (some (.builtin i))) (hti : typeOf (.builtin i) = pure (.type T)) (hsl : Slot T "__get__" gid) (he : entryFor table gid = some B)
    (hag : ∀ a b c, argsOk gid ⟨[a, b, c], []⟩) (hxC : x ≠ C) (hn : (name == ("__class__" : Str)) = false)
    (hrun : ∀ (A : Around) (E : Value → Shared → Prop) (Q : Fin → Shared → Prop), Q (.done (.ret (.ref h.objs.size))) ⟨h.push ob, g, dr, t + 1, os⟩ → wpAny (model prog w) A (B ⟨[.builtin i, .ref x, .ref C], []⟩) Q E ⟨h, g, dr, t + 1, os⟩)
    (hq : Q (.ref h.objs.size, []) ⟨h.push ob, g, dr, t + 1, os⟩) :
    wpAny (model prog w) A (getMethod (.ref so) name pl) Q E ⟨h, g, dr, t, os⟩ := by
  have hlk := PySem.F.ks_slot_super_ga.lookup
  have hcan := PySem.F.ks_canon_super_ga
  have hT : ∀ t', (⟨h, g, dr, t', os⟩ : Shared).TypeIs (.ref so) "super" := fun _ => ⟨_, hso, rfl⟩
  unfold getMethod
  refine wpAny_bind (wpAny_specialOf (hT _) hlk ?_)
  show wpAny _ _ (if (Manifest.canonical "super.__getattribute__" != "object.__getattribute__") = true then _ else _) _ _ _
  rw [if_pos hcan]
  unfold getAttr getAttrBy
  refine wpAny_bind (wpAny_bind (wpAny_mkText (wpAny_holding (wpAny_bind (wpAny_typeOf (hT _) (wpAny_bind (wpAny_of_eq hlk ?_)))))))
  show wpAny _ _ (getAttrByItsOwn (.ref so) (.str name t) (.type "super") (.builtin "super.__getattribute__") true false) _ _ _
  unfold getAttrByItsOwn hookBefore callGetattribute boundAndCalled
  refine wpAny_bind (wpAny_of_eq (show (if onTheHeap (.type "super") then typeLookup (.type "super") "__getattr__" else pure none) = pure none from rfl) ?_)
  refine wpAny_bind (wpAny_attempt (wpAny_holding ?_))
  show wpAny _ _ (bindSpecial (.builtin "super.__getattribute__") (.ref so) >>= _) _ _ _
  refine wpAny_bind (wpAny_of_eq (PySem.F.ks_slot_super_ga.bind _) ?_)
  refine wpAny_mono (Q := fun v s' => v = .ref h.objs.size ∧ s' = ⟨h.push ob, g, dr, t + 1, os⟩) (E := fun _ _ => False)
    (wpAny_call_entry PySem.F.ks_slot_super_ga (hT _) PySem.F.ks_entry_super_ga (sup_ga hso hno hC hl X hf hti hsl he hag hxC hn hrun ⟨_, rfl, rfl, rfl⟩) (PySem.F.ks_gaArgs_super _ _)) (fun v s' hv => ?_) fun _ _ z => z.elim
  obtain ⟨rfl, rfl⟩ := hv
  exact wpAny_pure (wpAny_pure hq)
end
section
variable {w : World} {A : Around} {E : Value → Shared → Prop} {s : Shared} {x d : Addr} {ps : Array Value} {n : Nat} {od : Obj}
/-- super() of an accumulator hands out a builtin of list, bound -/
theorem sup_method {so : Addr} {name : Str} {i T gid bt : String} {B : Builtin} {pl : Sem Bool} {Q : Value × List Value → Shared → Prop} (X : (hd.heap_1 w.params).In s.heap) (hx : s.heap.get? x = some (acObj d ps n))
    (hso : s.heap.get? so = some (ks_superObj 178 x 178)) (hm : ks_superIn (hd.heap_1 w.params) 178 178 name = some (some (.builtin i))) (hti : typeOf (.builtin i) = pure (.type T)) (hsl : Slot T "__get__" gid) (he : entryFor table gid = some B)
    (hag : ∀ a b c, argsOk gid ⟨[a, b, c], []⟩) (hn : (name == ("__class__" : Str)) = false)
    (hrun : ∀ (A : Around) (E : Value → Shared → Prop) (s : Shared) (Q : Fin → Shared → Prop), (hd.heap_1 w.params).In s.heap → s.heap.get? x = some (acObj d ps n) → Q (.done (.ret (.ref s.heap.objs.size))) { s with heap := s.heap.push (bndObj bt i x) } →
      wpAny (model Challenge.rw_oc0165_02.row.prog w) A (B ⟨[.builtin i, .ref x, .ref 178], []⟩) Q E s)
    (h : Q (.ref s.heap.objs.size, []) { s with heap := s.heap.push (bndObj bt i x), toks := s.toks + 1 }) :
    wpAny (model Challenge.rw_oc0165_02.row.prog w) A (getMethod (.ref so) name pl) Q E s := by
  obtain ⟨hp, g, dr, t, os⟩ := s
  obtain ⟨cd, hc, hm'⟩ := Option.bind_eq_some_iff.mp hm
  have hC : Looks (model Challenge.rw_oc0165_02.row.prog w) hp (mroOf (.ref 178)) cd.mro := fun A Q E s k q => wpAny_bind ((looks_clsIn X hc) A _ E s k (wpAny_pure q))
  have hno : Looks (model Challenge.rw_oc0165_02.row.prog w) hp (opaqueClassAbove (.ref 178)) none := looks_opaque X s_opaque
  have hxC : x ≠ 178 := by
    rintro rfl
    unfold clsIn at hc
    split at hc
    · rename_i c d' cd' sl ho
      have e := X _ _ ho
      rw [hx] at e
      cases e
    · cases hc
  exact sup_get hso hno hC rfl X hm' hti hsl he hag hxC hn (fun A E Q q => hrun A E _ Q X hx q) h
end
end Mine
end

section
-- Sup2B
example : True := by w_top off; trivial
open PySem PySem.W PyProof.Rows PySem.Calls PySem.Spec
set_option maxRecDepth 100000
namespace Mine
/-- an accumulator's dict -/
noncomputable abbrev acDict (hs : Int) (t : Tok) (v : Value) (n : Nat) : Obj := dictOf [⟨hs, .str "_initial_size" t, v⟩] n
section
variable {w : World} {p : Program} {loose : List Str} {mean : ExcName → Option Value} {mg mb : Str → Option Value} {G : Heap} {s : Shared}
  {R : Result → Shared → Prop} {name qual : Str} {params : Arguments} {body : List Stmt} {scope : Scope} {cl : List (Str × Addr)} {dV kV doc pm cdv ct oc : Value} {an od : Option Addr} {osl : Array (Option Value)} {f : Addr} {args : Args} {binds : List (Str × Value)} {dp un : Nat}
/-- a def that asks super() is entered -/
theorem enterS (led : List (Addr × Obj)) (D : Gd w p loose mean mg mb G) (S : G.StaysIn s.heap) (hl : ∀ q ∈ led, s.heap.get? q.1 = some q.2) (hf : ∀ q ∈ led, G.get? q.1 = none)
    (ho : (hd.heap_1 w.params).lookup f = some ⟨oc, od, .func (fnX name qual params body scope cl dV kV doc pm an cdv ct), osl⟩) (hcd : codeIn (hd.heap_1 w.params) cdv qual = true) (hroom : dp < recursionLimit)
    (hbind : BindsTo s (fnX name qual params body scope cl dV kV doc pm an cdv ct) args binds) (hloc : ∀ y ∈ binds, scope.names.lookup y.1 = some .local)
    (hcell : ∀ x ∈ scope.names, x.2 ≠ .cell) (hco : scope.isCoroutine = false) (hgen : scope.isGenerator = false) (hk : scope.kind = .function)
    (h : ∀ g L' h₁, g = hideAll s.heap (led.map (·.1)) → L' = s.heap.objs.size → Fr g L' h₁ (fun y => binds.reverse.lookup y) → News g L' h₁ led → (hd.heap_1 w.params).In g → Top p loose mean mg mb g → (∀ q ∈ led, q.1 < L') →
      (∀ b o, s.heap.get? b = some o → (∀ q ∈ led, q.1 ≠ b) → g.get? b = some o) → G.StaysIn g →
      _root_.PySem.wpAt (model Challenge.rw_oc0165_02.row.prog w) (Am (dp + 1) (un + 3)) (.func body (envX qual scope L' f cdv cl)) (execs body (envX qual scope L' f cdv cl)) (fun fl s' => R (.ok (.ret (match fl with | .ret v => v | _ => .none))) s') (fun _ _ => False)
        { s with heap := h₁, toks := s.toks + binds.length }) : codeAny (model Challenge.rw_oc0165_02.row.prog w) (Am dp un) (.call (.ref f) args) R s := by
  have nm : ∀ b o, G.get? b = some o → b ∉ led.map (·.1) := fun b o e q => by
    obtain ⟨p, hp, rfl⟩ := List.mem_map.mp q
    rw [hf p hp] at e; cases e
  have st : G.StaysIn (hideAll s.heap (led.map (·.1))) := fun b o e => hideAll_get _ (S b o e) (nm b o e)
  refine ks_codeAny_call_defAt (fd := fnX name qual params body scope cl dV kV doc pm an cdv ct) (body := body) (binds := binds) hroom (S _ _ (D.X _ _ ho)) rfl (D.T.nolimit.keeps S) (codeRec_of (D.X.keeps S) hcd) rfl hbind hcell hloc (fun h₁ hns hk₁ => ?_) hco hgen hk
  refine ks_wpAt_mono (h _ s.heap.objs.size h₁ rfl rfl ⟨hns, fun b o e => hk₁ b o (of_hideAll _ e), Nat.le_of_eq (hideAll_size _ _)⟩
    (fun p hp => ⟨hk₁ _ _ (hl p hp), Nat.ne_of_lt (Heap.lt_size (hl p hp)), hideAll_none _ (List.mem_map_of_mem hp)⟩) (D.X.keeps st) (D.T.keeps st) (fun p hp => Heap.lt_size (hl p hp))
    (fun b o e n => hideAll_get _ e fun q => ?_) st) (fun fl s' x => x) fun _ _ x => x.elim
  obtain ⟨p, hp, e'⟩ := List.mem_map.mp q
  exact n p hp e'
end
section
variable {w : World} {A : Around} {E : Value → Shared → Prop} {s : Shared} {x d : Addr} {ps : Array Value} {n : Nat} {od : Obj}
/-- a bound builtin is called -/
theorem bnd_call {q : Addr} {T i : String} {b : Builtin} {rest : List Value} {Q : Value → Shared → Prop} (hq : s.heap.get? q = some (bndObj T i x)) (hT : T = "builtin_function_or_method" ∨ T = "method-wrapper") (hp : plainId i = true) (hb : entryFor table i = some b)
    (hck : ∀ Q : Unit → Shared → Prop, Q () s → wpAny (model Challenge.rw_oc0165_02.row.prog w) A.in1 (checkBoundCall i ⟨.ref x :: rest, []⟩) Q E s)
    (hc : wpAny (model Challenge.rw_oc0165_02.row.prog w) A.in1 (b ⟨.ref x :: rest, []⟩) (fun fin s' => ∃ v, fin = .done (.ret v) ∧ Q v s') E s) :
    wpAny (model Challenge.rw_oc0165_02.row.prog w) A (call (.ref q) rest) Q E s := by
  refine wpAny_call (codeAny_of_tree ?_)
  show wpAny _ A.in1 (callAny (.ref q) ⟨rest, []⟩) _ _ _
  unfold callAny
  refine wpAny_bind (wpAny_load hq ?_)
  rcases hT with rfl | rfl
  all_goals
    refine wpAny_bind (hck _ ?_)
    refine wpAny_pure ⟨plainId_quiet hp _, ?_⟩
    refine codeAny_builtin hb ?_
    rw [Around.under_plainId hp]
    refine wpAny_mono hc (fun fin s' h' => ?_) fun _ _ h' => h'
    obtain ⟨v, rfl, hv⟩ := h'; exact hv
theorem bnd_callWith {q : Addr} {T i : String} {pos : Pos} {env : Env} {Q : Value → Shared → Prop} (hq : s.heap.get? q = some (bndObj T i x)) (hT : T = "builtin_function_or_method" ∨ T = "method-wrapper")
    (h : wpAny (model Challenge.rw_oc0165_02.row.prog w) A (call (.ref q) []) Q E s) : wpAny (model Challenge.rw_oc0165_02.row.prog w) A (callWith pos (.ref q) [] (backTo pos (starEach [] env)) []) Q E s := by
  rw [show backTo pos (starEach [] env) = [] from rfl]
  unfold callWith
  refine wpAny_bind (wpAny_holding (PyProof.Rows.evalArgs_nil3 (wpAny_bind (wpAny_standAt ?_))))
  refine wpAny_bind (m := keeperOf (.ref q)) ?_
  unfold keeperOf
  refine wpAny_bind (wpAny_load hq ?_)
  rcases hT with rfl | rfl
  all_goals
    simp only [show (Value.type "builtin_function_or_method" != Value.type "method") = true by decide, show (Value.type "method-wrapper" != Value.type "method") = true by decide, show (Value.type "builtin_function_or_method" == Value.type "builtin_function_or_method" || Value.type "builtin_function_or_method" == Value.type "method-wrapper") = true by decide, show (Value.type "method-wrapper" == Value.type "builtin_function_or_method" || Value.type "method-wrapper" == Value.type "method-wrapper") = true by decide, if_true]
    refine wpAny_pure ?_
    exact wpAny_bind (wpAny_mono h (fun r s₂ hr => wpAny_bind (wpAny_holding (wpAny_point (wpAny_pure hr)))) fun _ _ x => x)
theorem ck_slot {i : String} {rest : List Value} {Q : Unit → Shared → Prop} (hk : builtinKind i = some .slot) (ha : argsOk i ⟨.ref x :: rest, []⟩) (h : Q () s) :
    wpAny (model Challenge.rw_oc0165_02.row.prog w) A (checkBoundCall i ⟨.ref x :: rest, []⟩) Q E s := by
  unfold checkBoundCall
  unfold argsOk at ha
  cases e : Manifest.signature? i with
  | none => exact wpAny_pure h
  | some sig =>
    rw [e] at ha
    simp only [hk]
    rw [if_pos (by decide)]
    exact wpAny_of_eq ha h
theorem k_module : mroIn (hd.heap_1 w.params) 178 (.type "module") = some false := by kernel_rfl
theorem sig_pop (a : Value) : (match Manifest.signature? "list.pop" with | some sig => Bind.checkArgs "list.pop" { sig with full := s!"{"_Accumulator"}.{Bind.lastOf "list.pop"}" } ⟨[a], []⟩ | none => pure ()) = pure () := by
  rw [signature?_of (id := "list.pop") (n := ['p', 'o', 'p']) (o := ['t', 's', 'i', 'l']) (by kernel_rfl) PySem.F.owner_list]; kernel_rfl
theorem k_cls : ∃ cd, clsIn (hd.heap_1 w.params) 178 = some cd ∧ cd.qualname.toString = "_Accumulator" := Option.map_eq_some_iff.mp (by kernel_rfl)
theorem k_type : typeIn (hd.heap_1 w.params) (.ref 178) = some (.type "type") := by kernel_rfl
theorem ck_pop {Q : Unit → Shared → Prop} (X : (hd.heap_1 w.params).In s.heap) (hx : s.heap.get? x = some (acObj d ps n)) (h : Q () s) :
    wpAny (model Challenge.rw_oc0165_02.row.prog w) A (checkBoundCall "list.pop" ⟨[.ref x], []⟩) Q E s := by
  have ha := sig_pop (.ref x)
  obtain ⟨cd, hc, hqn⟩ := k_cls (w := w)
  obtain ⟨hp, g, dr, tk, os⟩ := s
  unfold checkBoundCall
  cases e : Manifest.signature? "list.pop" with
  | none => exact wpAny_pure h
  | some sig =>
    rw [e] at ha
    simp only [show builtinKind "list.pop" = some .method by decide +kernel]
    rw [if_neg (by decide)]
    refine wpAny_bind (wpAny_bind ((ac_type hx).here ((looks_mroIn X k_module).here ?_)))
    rw [if_neg (by decide +kernel)]
    refine wpAny_bind (ks_wpAny_isType_inst hx (by intro c e; cases e) ?_)
    rw [if_neg (by decide)]
    refine wpAny_bind ((ac_type hx).at ?_)
    refine wpAny_bind ((looks_clsIn X hc).at ?_)
    refine wpAny_bind ((looks_typeIn X k_type).at ?_)
    rw [if_pos (by decide)]
    rw [hqn]
    exact wpAny_of_eq ha h
theorem bb_pop {y : Value} {Q : Value → Shared → Prop} (hx : s.heap.get? x = some (acObj d ps n)) (hz : ps.size ≤ 1000) (hy : ps[ps.size - 1]? = some y)
    (h : Q y { s with heap := s.heap.update x (Obj.mapSeq fun a => a.eraseIdxIfInBounds (ps.size - 1)) }) :
    wpAny (model Challenge.rw_oc0165_02.row.prog w) A (Builtin.«list.pop» ⟨[.ref x], []⟩) (fun fin s' => ∃ v, fin = .done (.ret v) ∧ Q v s') E s := by
  obtain ⟨hp, g, dr, tk, os⟩ := s
  have hs1 : ps.size ≤ sizeLine := by rw [sizeLine_eq]; (first | lia | omega)
  have hpos : 0 < ps.size := by
    rcases Nat.eq_zero_or_pos ps.size with h0 | h0
    · simp [h0] at hy
    · exact h0
  have hne : ¬ ps.isEmpty = true := by
    intro he; have : ps.size = 0 := by simpa using he
    (first | lia | omega)
  have hk : seqIndex? (-1) ps.size = some (ps.size - 1) := by
    rw [seqIndex_neg (by (first | lia | omega)) (by (first | lia | omega))]; congr 1; (first | lia | omega)
  wp_walk using wpAny_loadPart' hx
  simp only [hk, hy, Option.bind_some, Option.map_some]
  have hz' : (ps.eraseIdxIfInBounds (ps.size - 1)).size ≤ sizeLine + 1 := by rw [pop_last]; simp; (first | lia | omega)
  wp_walk using (wpAny_updateSeq hx rfl (hz := hs1) (_hz' := hz')), wpAny_loadPart' hx
  exact ⟨_, rfl, h⟩
end
section
variable {w : World} {p : Program} {loose : List Str} {mean : ExcName → Option Value} {mg mb : Str → Option Value} {G : Heap} {s : Shared} {Q E : Value → Shared → Prop}
set_option maxHeartbeats 8000000
theorem c_partcount {x d : Addr} {ps : Array Value} {n : Nat} {od : Obj} (D : Gd w p loose mean mg mb G) (St : G.StaysIn s.heap) (hx : s.heap.get? x = some (acObj d ps n)) (hd' : s.heap.get? d = some od)
    (hret : ∀ t h' tk', (∀ b o, s.heap.get? b = some o → h'.get? b = some o) → Q (.int (ps.size : Nat) t) { s with heap := h', toks := tk' }) :
    wpAny (model Challenge.rw_oc0165_02.row.prog w) (Am 900 700) (call (.ref 175) [.ref x]) Q E s := by
  have fill : (hd.heap_1 w.params).In G := D.X
  revert fill
  k_fill
  intro _
  refine wpAny_call ?_
  refine' enterS (binds := [("self", .ref x)]) [] D St ?k3 ?k4 ?k6 ?k7 ?k8 ?k9 ?kB ?c5 ?c2 ?c3 ?c4 ?_
  (((case k3 => exact fun _ q => nomatch q); (case k4 => exact fun _ q => nomatch q); (case k6 => k_is); (case k7 => k_is); (case k8 => decide); (case k9 => exact BindsTo.of_eq rfl); (case kB => exact locs rfl); (case c5 => decide); (case c2 => exact rfl); (case c3 => exact rfl); (case c4 => exact rfl)))
  intro g L h hg hL F N X T l1 hkeep hst
  have hxg := hkeep _ _ hx fun _ q => nomatch q
  have hdg := hkeep _ _ hd' fun _ q => nomatch q
  dsimp only
  try k_fold
  (repeat' (first | (fail_if_success (with_reducible show wpAny _ _ (exec (Stmt.For _ _ _ _ _) _) _ _ _)); (first | (k_unfold; (try dsimp only)) | walk1 | (dsimp only; walk1))))
  refine ks_node F X N T (by k_is) (by rfl) (by rfl) (ac_at (F.keep _ _ hxg) (F.keep _ _ hdg)) (by k_is) (by rfl) (by first | rfl | decide +kernel) (by k_is) (by k_is) (by k_is) (by k_is) (by decide) (by rfl) (by rfl) (by rfl) (by rfl) (by decide +kernel) (by first | boot_by_name | rfl | kernel_rfl) ?_
  intro so h1 F1 N1 l1
  refine sup_method (X.keeps F1.keep) (F1.keep _ _ hxg) (N1 _ (.head _)).1 s_len t_len slot_wget entry_wget args_wget (by decide) (fun A E s Q X hx q => wget_run X hx (.inl rfl) q) ?_
  have hk1 : ∀ b o, h1.get? b = some o → (h1.push (bndObj "method-wrapper" "list.__len__" x)).get? b = some o := fun b o e => Heap.get?_push_of_some _ e
  have hq1 : (h1.push (bndObj "method-wrapper" "list.__len__" x)).get? h1.objs.size = some (bndObj "method-wrapper" "list.__len__" x) := Heap.get?_push_size _ rfl
  refine bnd_callWith hq1 (.inr rfl) (bnd_call hq1 (.inr rfl) PySem.F.slot_list_len.plain PySem.F.entry_list_len (fun Q q => ck_slot (by decide +kernel) (PySem.F.args_list_len_1 _) q) ?_)
  have hxq := hk1 _ _ (F1.keep _ _ hxg)
  wp_walk
  exact ⟨_, rfl, hret _ _ _ fun b o e => hk1 _ _ (F1.keep _ _ (hkeep _ _ e fun _ q => nomatch q))⟩
end
section
variable {w : World} {p : Program} {loose : List Str} {mean : ExcName → Option Value} {mg mb : Str → Option Value} {G g : Heap} {L : Addr} {m : Str → Option Value} {nw : List (Addr × Obj)} {A : Around} {s : Shared}
theorem at_of {h : Heap} {x : Addr} {o : Obj} (F : Fr g L h m) (N : News g L h nw) (hh : (x, o) ∈ nw ∨ g.get? x = some o) : h.get? x = some o := hh.elim (fun q => (N _ q).1) fun q => F.keep _ _ q
theorem m_method {x d : Addr} {ps : Array Value} {n : Nat} {od : Obj} {E : Value → Shared → Prop} {name : Str} {f : Value} {T : String} {pl : Sem Bool} {Q : Value × List Value → Shared → Prop} (F : Fr g L s.heap m) (N : News g L s.heap nw) (X : (hd.heap_1 w.params).In g)
    (hx : (x, acObj d ps n) ∈ nw ∨ g.get? x = some (acObj d ps n)) (hd' : (d, od) ∈ nw ∨ g.get? d = some od)
    (hf : findIn (hd.heap_1 w.params) (.ref 178) name = some (some f)) (ht : typeIn (hd.heap_1 w.params) f = some (.type T)) (hT : (Value.type T != .type "function" && Value.type T != .type "method_descriptor" && Value.type T != .type "wrapper_descriptor") = false)
    (hs : shadowIn (some od) name = some false) (h : Q (f, [.ref x]) s) :
    wpAny (model Challenge.rw_oc0165_02.row.prog w) A (getMethod (.ref x) name pl) Q E s := ac_method (X.keeps F.keep) (at_of F N hx) (at_of F N hd') hf ht hT hs h
theorem u_partcount {Q E : Value → Shared → Prop} {x d : Addr} {ps : Array Value} {n : Nat} {od : Obj} (F : Fr g L s.heap m) (N : News g L s.heap nw) (D : Gd w p loose mean mg mb G) (hs : G.StaysIn g) (hh : A.handled = none) (hd : A.depth ≤ 900) (hu : A.units ≤ 700)
    (hx : (x, acObj d ps n) ∈ nw ∨ g.get? x = some (acObj d ps n)) (hd' : (d, od) ∈ nw ∨ g.get? d = some od)
    (k : ∀ t h' tk', Fr g L h' m → News g L h' nw → Q (.int (ps.size : Nat) t) { s with heap := h', toks := tk' }) :
    wpAny (model Challenge.rw_oc0165_02.row.prog w) A (call (.ref 175) [.ref x]) Q E s :=
  wp_up hh hd hu (c_partcount D (stays_fr F hs) (at_of F N hx) (at_of F N hd') fun t h' tk' hk => k t h' tk' (frK F hk) (newsK N hk))
end
section
variable {w : World} {p : Program} {loose : List Str} {mean : ExcName → Option Value} {mg mb : Str → Option Value} {G : Heap} {s : Shared} {Q E : Value → Shared → Prop}
set_option maxHeartbeats 8000000
/-- pop, where something is there -/
theorem c_pop {x d : Addr} {ps : Array Value} {n : Nat} {hs0 : Int} {t0 : Tok} {v0 : Value} {n0 : Nat} {y : Value} (D : Gd w p loose mean mg mb G) (St : G.StaysIn s.heap) (hx : s.heap.get? x = some (acObj d ps n)) (hd' : s.heap.get? d = some (acDict hs0 t0 v0 n0)) (hxG : G.get? x = none)
    (hz : ps.size ≤ 1000) (hy : ps[ps.size - 1]? = some y)
    (hret : ∀ h' tk' n', (∀ b o, s.heap.get? b = some o → b ≠ x → h'.get? b = some o) → h'.get? x = some (acObj d ps.pop n') → Q y { s with heap := h', toks := tk' }) :
    wpAny (model Challenge.rw_oc0165_02.row.prog w) (Am 800 600) (call (.ref 138) [.ref x]) Q E s := by
  have fill : (hd.heap_1 w.params).In G := D.X
  revert fill
  k_fill
  intro _
  refine wpAny_call ?_
  refine' enterS (binds := [("self", .ref x)]) [(x, acObj d ps n)] D St ?k3 ?k4 ?k6 ?k7 ?k8 ?k9 ?kB ?c5 ?c2 ?c3 ?c4 ?_
  case k3 => exact all_cons (hx) all_nil
  case k4 => exact all_cons (hxG) all_nil
  (case k6 => k_is); (case k7 => k_is); (case k8 => decide); (case k9 => exact BindsTo.of_eq rfl); (case kB => exact locs rfl); (case c5 => decide); (case c2 => exact rfl); (case c3 => exact rfl); (case c4 => exact rfl)
  intro g L h hg hL F N X T l1 hkeep hst
  have hdx : d ≠ x := by rintro rfl; rw [hx] at hd'; cases hd'
  have hdg := hkeep _ _ hd' (by exact all_cons (hdx.symm) all_nil)
  have hpos : 0 < ps.size := by
    rcases Nat.eq_zero_or_pos ps.size with h0 | h0
    · simp [h0] at hy
    · exact h0
  have hne : ((ps.size : Nat) : Int) ≠ 0 := by (first | lia | omega)
  dsimp only
  try k_fold
  refine ks_wpAt_execs_cons ?_
  refine ks_wpAt_If ?_
  refine wpAt_of_wpAny ?_
  (repeat' (first | (fail_if_success (show _root_.PySem.wpAt _ _ _ _ _ _ _)); (first | (k_unfold; (try dsimp only)) | (first | ((k_here; (with_reducible show wpAny _ _ (call (Value.ref 175) _) _ _ _); k_dflt (refine' u_partcount ?k1 ?k2 ?k3 ?k4 ?k5 ?k6 ?k7 ?k8 ?k9 ?_; (case k1 => k_asm); (case k2 => k_asm); (case k3 => assumption); (case k4 => assumption); (case k5 => exact rfl); (case k6 => decide); (case k7 => decide); (case k8 => (first | exact .inr (by assumption) | exact .inl (by k_mem))); (case k9 => (first | exact .inr (by assumption) | exact .inl (by k_mem)))); intro t' h' tk' F' N'; (try k_sweep))) | ((with_reducible show wpAny _ _ (getMethod (Value.ref _) _ _) _ _ _); (k_here; k_dflt (refine' m_method ?k1 ?k2 ?k3 ?k4 ?k5 ?k6 ?k7 ?k8 ?k9 ?_; (case k1 => k_asm); (case k2 => k_asm); (case k3 => k_asm); (case k4 => (first | exact .inr (by assumption) | exact .inl (by k_mem))); (case k5 => (first | exact .inr (by assumption) | exact .inl (by k_mem))); (case k6 => k_is); (case k7 => k_is); (case k8 => decide +kernel); (case k9 => rfl)))) | walk1) | (dsimp only; (first | ((k_here; (with_reducible show wpAny _ _ (call (Value.ref 175) _) _ _ _); k_dflt (refine' u_partcount ?k1 ?k2 ?k3 ?k4 ?k5 ?k6 ?k7 ?k8 ?k9 ?_; (case k1 => k_asm); (case k2 => k_asm); (case k3 => assumption); (case k4 => assumption); (case k5 => exact rfl); (case k6 => decide); (case k7 => decide); (case k8 => (first | exact .inr (by assumption) | exact .inl (by k_mem))); (case k9 => (first | exact .inr (by assumption) | exact .inl (by k_mem)))); intro t' h' tk' F' N'; (try k_sweep))) | ((with_reducible show wpAny _ _ (getMethod (Value.ref _) _ _) _ _ _); (k_here; k_dflt (refine' m_method ?k1 ?k2 ?k3 ?k4 ?k5 ?k6 ?k7 ?k8 ?k9 ?_; (case k1 => k_asm); (case k2 => k_asm); (case k3 => k_asm); (case k4 => (first | exact .inr (by assumption) | exact .inl (by k_mem))); (case k5 => (first | exact .inr (by assumption) | exact .inl (by k_mem))); (case k6 => k_is); (case k7 => k_is); (case k8 => decide +kernel); (case k9 => rfl)))) | walk1)))))
  · (first | lia | omega)
  · refine wpAt_of_wpAny (wpAny_execs_nil ?_)
    dsimp only
    rename Fr _ _ _ _ => F1
    rename News _ _ _ _ => N1
    refine ks_wpAt_execs_cons ?_
    refine ks_wpAt_Return_some ?_
    refine ks_wpAt_MethodCall ?_
    refine ks_node F1 X N1 T (by k_is) (by rfl) (by rfl) (ac_at (N1 _ (.head _)).1 (F1.keep _ _ hdg)) (by k_is) (by rfl) (by first | rfl | decide +kernel) (by k_is) (by k_is) (by k_is) (by k_is) (by decide) (by rfl) (by rfl) (by rfl) (by rfl) (by decide +kernel) (by first | boot_by_name | rfl | kernel_rfl) ?_
    intro so h1 F1 N1 l1
    have hx1 := (N1 _ (.tail _ (.head _))).1
    have X1 := X.keeps F1.keep
    refine sup_method X1 hx1 (N1 _ (.head _)).1 s_pop t_pop slot_mget entry_mget args_mget (by decide) (fun A E s Q X hx q => mget_run X hx q) ?_
    have hk1 : ∀ b o, h1.get? b = some o → (h1.push (bndObj "builtin_function_or_method" "list.pop" x)).get? b = some o := fun b o e => Heap.get?_push_of_some _ e
    have hq1 : (h1.push (bndObj "builtin_function_or_method" "list.pop" x)).get? h1.objs.size = some (bndObj "builtin_function_or_method" "list.pop" x) := Heap.get?_push_size _ rfl
    have hxq := hk1 _ _ hx1
    have Xq : (hd.heap_1 w.params).In (h1.push (bndObj "builtin_function_or_method" "list.pop" x)) := X1.keeps hk1
    refine bnd_callWith hq1 (.inl rfl) (bnd_call hq1 (.inl rfl) PySem.F.slot_list_pop.plain PySem.F.entry_list_pop (fun Q q => ck_pop Xq hxq q) ?_)
    refine bb_pop hxq hz hy ?_
    refine hret _ _ _ (fun b o e hb => ?_) ((ac_upd hxq _).trans (by rw [pop_last]))
    refine (Heap.get?_update_other _ _ hb.symm).trans (hk1 _ _ (F1.keep _ _ (hkeep _ _ e ?_)))
    refine all_cons ?_ all_nil
    · exact hb.symm
end
end Mine
end

section
-- SetLB
example : True := by w_top off; trivial
open PySem PySem.W PyProof.Rows PySem.Calls PySem.Spec
set_option maxRecDepth 100000
namespace Mine
theorem refuseL (self : Value) (c : Addr) : refuseLoop self "__setattr__" [.ref c, .type "list", .type "object"] = pure () := by
  rw [refuseLoop_ref]
  have h := PySem.F.store_object.passes self
  rw [← h]
  kernel_rfl
theorem k_mro3 {w : World} : ∃ cd, clsIn (hd.heap_1 w.params) 178 = some cd ∧ cd.mro = [.ref 178, .type "list", .type "object"] := Option.map_eq_some_iff.mp (by kernel_rfl)
theorem k_obj {w : World} : mroIn (hd.heap_1 w.params) 178 (.type "object") = some true := by kernel_rfl
theorem k_taker {w : World} : takerIn (hd.heap_1 w.params) 178 "_initial_size" = some none := by kernel_rfl
theorem k_hasd {w : World} : (clsIn (hd.heap_1 w.params) 178).any (·.hasDict) = true := by kernel_rfl
theorem k_seta {w : World} : findIn (hd.heap_1 w.params) (.ref 178) "__setattr__" = some (some (.builtin "object.__setattr__")) := by kernel_rfl
section
variable {w : World} {A : Around} {x d : Addr} {s : Shared} {h₀ : Heap} {L : Addr} {m : Str → Option Value} {news news' : List (Addr × Obj)} {R : Result → Shared → Prop} {ps : Array Value} {n : Nat}
theorem osaL_open {od : Obj} {name : Str} {tk : Tok} {v : Value} {r : Option Value} (X : (hd.heap_1 w.params).In s.heap) (I : InstAt s.heap x (acObj d ps n) 178 (some od)) (ht : takerIn (hd.heap_1 w.params) 178 name = some r)
    (h : ∀ b, wpAny (model Challenge.rw_oc0165_02.row.prog w) A.in1 (match r with | some a => Builtin.ObjectAttr.setByDescriptor a (.ref x) v | none => Builtin.ObjectAttr.storeInOwnDict (.ref x) (.ref 178) (.str name tk) name v b)
      (fun fin s' => match fin with | .done f => R (.ok f) s' | .again c' => c'.quiet = true ∧ codeAny (model Challenge.rw_oc0165_02.row.prog w) A c' R s') (fun e s' => R (.error e) s') s) :
    codeAny (model Challenge.rw_oc0165_02.row.prog w) A (.call (.builtin "object.__setattr__") ⟨[.ref x, .str name tk, v], []⟩) R s := by
  have SF := PySem.F.store_object
  obtain ⟨cd, hc, ho⟩ := k_mro3 (w := w)
  have sub : Looks (model Challenge.rw_oc0165_02.row.prog w) s.heap (isInstance (.ref x) (.type "object")) true := I.type.andThen (looks_mroIn X k_obj)
  refine codeAny_call_builtin SF.slot.plain SF.entry (@check_slot (model Challenge.rw_oc0165_02.row.prog w) _ _ s "object.__setattr__" "object" "__setattr__" (.ref x) [.str name tk, v] [] _ SF.kind SF.split sub (SF.args (.ref x) (.str name tk) v) ?_)
  obtain ⟨attr, ha, hr⟩ := Option.bind_eq_some_iff.mp ht
  have hm : Looks (model Challenge.rw_oc0165_02.row.prog w) s.heap (mroOf (.ref 178)) cd.mro := (looks_clsIn X hc).andThen .now
  have L3 : Looks (model Challenge.rw_oc0165_02.row.prog w) s.heap (Builtin.ObjectAttr.storeTaker? attr) r := by
    cases attr with
    | none => cases hr; exact .now
    | some a =>
      obtain ⟨b, hb, rfl⟩ := Option.map_eq_some_iff.mp hr
      refine (looks_takesIn X hb).andThen ?_
      cases b <;> exact .now
  rw [osa_eq, refuse_eq]
  refine wpAny_bind (wpAny_bind (I.type.here (wpAny_bind (hm.here ?_))))
  rw [ho, refuseL]
  refine wpAny_pure (wpAny_bind (I.type.here (wpAny_bind ((looks_findIn X ha).here (wpAny_bind (L3.here ?_))))))
  exact h _
theorem osaL_dict {od od' : Obj} {name : Str} {tk : Tok} {v : Value} {pre post : List (Addr × Obj)} {es : List DictEntry} {k : Nat} (F : Fr h₀ L s.heap m) (N : News h₀ L s.heap (pre ++ (d, od) :: post)) (X : (hd.heap_1 w.params).In s.heap)
    (I : InstAt s.heap x (acObj d ps n) 178 (some od)) (ht : takerIn (hd.heap_1 w.params) 178 name = some none)
    (hl : (lookIn name od).isSome = true) (h1 : ∀ p ∈ pre, p.1 ≠ d) (h2 : ∀ p ∈ post, p.1 ≠ d)
    (e : Obj.putName name (PyData.keyHash w.params name) (.str name s.toks) v od = od') (e' : od'.data = .dict es.toArray k) (hz : es.length ≤ 1000)
    (h : ∀ h', Fr h₀ L h' m → News h₀ L h' (pre ++ (d, od') :: post) → R (.ok (.ret .none)) { s with heap := h', toks := s.toks + 1 }) :
    codeAny (model Challenge.rw_oc0165_02.row.prog w) A (.call (.builtin "object.__setattr__") ⟨[.ref x, .str name tk, v], []⟩) R s := by
  refine osaL_open X I ht fun b => ?_
  obtain ⟨cd, hc, hd'⟩ := any_some (k_hasd (w := w))
  obtain ⟨U1, U2⟩ := news_upd (f := Obj.putName name (PyData.keyHash w.params name) (.str name s.toks) v) F N h1 h2 e (by obtain ⟨_, _, dd, _⟩ := od'; cases e'; rfl)
  have D := (N (d, od) (by simp)).1
  have D' := (U2 (d, od') (by simp)).1
  obtain ⟨hx, hcl, hn, -⟩ := I
  refine wpAny_bind (wpAny_pure (wpAny_bind (wpAny_bind (wpAny_loadPart hx (wpAny_bind ((looks_clsIn X hc).here ?_))))))
  rw [hd']
  refine wpAny_pure (a := some d) (wpAny_bind (wpAny_pure (wpAny_bind ?_)))
  unfold nsSet
  refine wpAny_bind (wpAny_bind (wpAny_askSetting (wpAny_pure (wpAny_bind (wpAny_mkText (wpAny_bind (wpAny_loadPart D ?_)))))))
  unfold lookIn at hl
  split at hl
  · rename_i es₀ n₀ q
    rw [q]
    dsimp only
    have c : (!es₀.any (·.key.isStr name) && es₀.any (·.refKey)) = false := by
      rw [← Array.any_toList, ← Array.any_toList]
      split at hl
      · rename_i en he
        rw [List.any_eq_true.mpr ⟨en, List.mem_of_find?_eq_some he, List.find?_some he⟩]; rfl
      · split at hl
        · cases hl
        · rename_i z; rw [Bool.not_eq_true] at z; rw [z, Bool.and_false]
    rw [aRefKeyMayBeTheName_at, c]
    refine wpAny_updatePart D ?_
    refine wpAny_bind (wpAny_lookBehind D' (by rw [e']; exact pastItsLine_dict (by rw [List.size_toArray, sizeLine_eq]; omega)) ?_)
    exact wpAny_pure (h _ U1 U2)
  · cases hl
theorem set_dictL {E : Value → Shared → Prop} {name : Str} {v : Value} {es es' : List DictEntry} {k k' : Nat} {Q : Unit → Shared → Prop} (F : Fr h₀ L s.heap m) (X₀ : (hd.heap_1 w.params).In h₀) (N : News h₀ L s.heap news) (I : InstAt s.heap x (acObj d ps n) 178 (some (dictOf es k)))
    (ht : takerIn (hd.heap_1 w.params) 178 name = some none) (hl : (getL name es).isSome = true)
    (e : (putL name (PyData.keyHash w.params name) (.str name (s.toks + 1)) v es, putN name es k) = (es', k')) (U : Upd d (dictOf es k) (dictOf es' k') news news') (hz : es'.length ≤ 1000)
    (h : ∀ h', Fr h₀ L h' m → News h₀ L h' news' → Q () { s with heap := h', toks := s.toks + 2 }) :
    wpAny (model Challenge.rw_oc0165_02.row.prog w) A (setAttr (.ref x) name v) Q E s := by
  obtain ⟨pre, post, rfl, rfl, a, b⟩ := U.split
  obtain ⟨e1, e2⟩ := Prod.mk.inj e
  exact set_plain (X₀.keeps F.keep) I k_seta (osaL_dict (s := { s with toks := s.toks + 1 }) F N (X₀.keeps F.keep) I ht hl a b (by rw [putName_dict, e1, e2]) rfl hz fun h' F' N' => h h' F' N')
end
end Mine
end

section
-- Acc3B
example : True := by w_top off; trivial
open PySem PySem.W PyProof.Rows PySem.Calls PySem.Spec
set_option maxRecDepth 100000
namespace Mine
/-- a def of the ground -/
noncomputable def FdIs (K : Frag) (f : Addr) (fd : FuncData) : Prop := ∃ oc od osl, K.lookup f = some ⟨oc, od, .func fd, osl⟩
theorem FdIs.of {K : Frag} {f : Addr} {name qual : Str} {params : Arguments} {body : List Stmt} {scope : Scope} {cl : List (Str × Addr)} {dV kV doc pm cdv ct oc : Value} {an od : Option Addr} {osl : Array (Option Value)} (h : K.lookup f = some ⟨oc, od, .func (fnX name qual params body scope cl dV kV doc pm an cdv ct), osl⟩) : FdIs K f (fnX name qual params body scope cl dV kV doc pm an cdv ct) := ⟨_, _, _, h⟩
theorem FdIs.binds {K : Frag} {f : Addr} {fd fd' : FuncData} {oc : Value} {od : Option Addr} {osl : Array (Option Value)} {s : Shared} {args : Args} {binds : List (Str × Value)} (h : FdIs K f fd) (hb : BindsTo s fd args binds) (ho : K.lookup f = some ⟨oc, od, .func fd', osl⟩) : BindsTo s fd' args binds := by
  obtain ⟨_, _, _, e⟩ := h
  rw [ho] at e
  cases e
  exact hb
theorem none_of {h g : Heap} {x b : Addr} (hkeep : ∀ c o', h.get? c = some o' → c ≠ x → g.get? c = some o') (hx : b ≠ x) (hb : g.get? b = none) : h.get? b = none := by
  cases e : h.get? b with
  | none => rfl
  | some o' => rw [hkeep b o' e hx] at hb; cases hb
section
variable {g h h' : Heap} {L x : Addr} {m : Str → Option Value} {nw nw' : List (Addr × Obj)} {o o' : Obj}
theorem upd_news (F : Fr g L h m) (N : News g L h nw) (U : Upd x o o' nw nw') (hk : ∀ b o, h.get? b = some o → b ≠ x → h'.get? b = some o) (hx : h'.get? x = some o') : Fr g L h' m ∧ News g L h' nw' := by
  obtain ⟨pre, post, rfl, rfl, a, b⟩ := U.split
  have z := N (x, o) (List.mem_append.mpr (.inr (.head _)))
  obtain ⟨oL, es, ep, hL, r⟩ := F.ns
  refine ⟨⟨⟨oL, es, ep, hk _ _ hL (Ne.symm z.2.1), r⟩, fun b o e => hk b o (F.keep b o e) ?_, F.above⟩, fun q hq => ?_⟩
  · rintro rfl
    rw [z.2.2] at e; cases e
  · rcases List.mem_append.mp hq with hq | hq
    · have P := N q (List.mem_append_left _ hq)
      exact ⟨hk _ _ P.1 (a q hq), P.2⟩
    · rcases List.mem_cons.mp hq with rfl | hq
      · exact ⟨hx, z.2⟩
      · have P := N q (List.mem_append_right _ (.tail _ hq))
        exact ⟨hk _ _ P.1 (b q hq), P.2⟩
end
section
variable {w : World} {A : Around} {E : Value → Shared → Prop} {s : Shared} {g : Heap} {L x d : Addr} {m : Str → Option Value} {nw nw' : List (Addr × Obj)} {ps : Array Value} {n : Nat}
theorem m_append {v : Value} {Q : Value → Shared → Prop} (F : Fr g L s.heap m) (N : News g L s.heap nw) (X : (hd.heap_1 w.params).In g) (U : Upd x (acObj d ps n) (acObj d (ps.push v) (n + 1)) nw nw') (hz : ps.size ≤ 1000)
    (h : ∀ h', Fr g L h' m → News g L h' nw' → Q .none { s with heap := h' }) : wpAny (model Challenge.rw_oc0165_02.row.prog w) A (call (.builtin "list.append") [.ref x, v]) Q E s := by
  obtain ⟨pre, post, e1, _⟩ := U.split
  have hx := (N (x, acObj d ps n) (by rw [e1]; exact List.mem_append.mpr (.inr (.head _)))).1
  obtain ⟨F', N'⟩ := upd_news (h' := s.heap.update x (Obj.mapSeq fun a => a.push v)) F N U (fun b o e hb => (Heap.get?_update_other _ _ (Ne.symm hb)).trans e) ((ac_upd hx _).trans (by simp))
  exact b_append (X.keeps F.keep) hx hz (h _ F' N')
theorem m_slice {value slice : Expr} {vl vu : Value} {lo hi : Option Int} {Q : Value → Shared → Prop} (F : Fr g L s.heap m) (N : News g L s.heap nw) (X : (hd.heap_1 w.params).In g) (hx : (x, acObj d ps n) ∈ nw ∨ g.get? x = some (acObj d ps n)) (hz : ps.size ≤ 1000) (pl : IsPart vl lo) (pu : IsPart vu hi)
    (h : ∀ D h', Fr g L h' m → News g L h' ((D, listOf (slicePick ps lo hi none) 0) :: nw) → (∀ p ∈ nw, p.1 < D) → Q (.ref D) { s with heap := h' })
    (hs : subscripted slice false (.ref x) (.ref s.heap.objs.size) = operate [.ref s.heap.objs.size, .ref x] (getItem (.ref x) (.ref s.heap.objs.size))) :
    wpAny (model Challenge.rw_oc0165_02.row.prog w) A (subscriptTail value slice (.ref x) (.ref s.heap.objs.size)) Q E { s with heap := s.heap.push { cls := .type "slice", data := .fields #[vl, vu, .none] } } := by
  obtain ⟨hp, gs, dr, tk, os⟩ := s
  have hx' := at_of F N hx
  have k1 : ∀ b o, hp.get? b = some o → (hp.push { cls := .type "slice", data := .fields #[vl, vu, .none] }).get? b = some o := fun b o e => Heap.get?_push_of_some _ e
  have F1 : Fr g L (hp.push { cls := .type "slice", data := .fields #[vl, vu, .none] }) m := frK F k1
  have N1 := newsK N k1
  refine ac_tail (X.keeps F1.keep) (k1 _ _ hx') (ac_slice (X.keeps F1.keep) (k1 _ _ hx') hz (Heap.IsSliceOf.new ..) pl pu .none (by simp) ?_) hs
  exact h _ _ (F1.push _) (News.push F1 N1 _) fun p hp => Heap.lt_size (N1 p hp).1
theorem m_put {l : Addr} {vl vu : Value} {lo hi : Option Int} {items items' : Array Value} {n' : Nat} {Q : Unit → Shared → Prop} (F : Fr g L s.heap m) (N : News g L s.heap nw) (X : (hd.heap_1 w.params).In g) (U : Upd x (acObj d ps n) (acObj d items' n') nw nw') (hz : ps.size ≤ 1000) (hz2 : items.size ≤ 1000) (pl : IsPart vl lo) (pu : IsPart vu hi)
    (hl : s.heap.IsList l items) (he : ps.extract 0 (sliceBounds lo hi none ps.size).1.toNat ++ items ++ ps.extract (max (sliceBounds lo hi none ps.size).1 (sliceBounds lo hi none ps.size).2.1).toNat ps.size = items') (hn : (if items'.size == ps.size then n else n + 1) = n')
    (h : ∀ h', Fr g L h' m → News g L h' nw' → Q () { s with heap := h' }) :
    wpAny (model Challenge.rw_oc0165_02.row.prog w) A (setItem (.ref x) (.ref s.heap.objs.size) (.ref l)) Q E { s with heap := s.heap.push { cls := .type "slice", data := .fields #[vl, vu, .none] } } := by
  obtain ⟨hp, gs, dr, tk, os⟩ := s
  obtain ⟨pre, post, e1, _⟩ := U.split
  have hx := (N (x, acObj d ps n) (by rw [e1]; exact List.mem_append.mpr (.inr (.head _)))).1
  have k1 : ∀ b o, hp.get? b = some o → (hp.push { cls := .type "slice", data := .fields #[vl, vu, .none] }).get? b = some o := fun b o e => Heap.get?_push_of_some _ e
  have F1 : Fr g L (hp.push { cls := .type "slice", data := .fields #[vl, vu, .none] }) m := frK F k1
  have N1 := newsK N k1
  refine ac_put (X.keeps F1.keep) (k1 _ _ hx) hz hz2 (Heap.IsSliceOf.new ..) pl pu (hl.push _) ?_
  have e2 := ac_upd (k1 _ _ hx) (fun xs => xs.extract 0 (sliceBounds lo hi none ps.size).1.toNat ++ items ++ xs.extract (max (sliceBounds lo hi none ps.size).1 (sliceBounds lo hi none ps.size).2.1).toNat xs.size)
  simp only [he, hn] at e2
  obtain ⟨F', N'⟩ := upd_news F1 N1 U (fun b o e hb => (Heap.get?_update_other _ _ (Ne.symm hb)).trans e) e2
  exact h _ F' N'
theorem m_setattr {hs0 : Int} {t0 : Tok} {v0 v : Value} {n0 : Nat} {Q : Unit → Shared → Prop} (F : Fr g L s.heap m) (N : News g L s.heap nw) (X : (hd.heap_1 w.params).In g) (hx : (x, acObj d ps n) ∈ nw ∨ g.get? x = some (acObj d ps n)) (U : Upd d (acDict hs0 t0 v0 n0) (acDict hs0 t0 v n0) nw nw')
    (h : ∀ h', Fr g L h' m → News g L h' nw' → Q () { s with heap := h', toks := s.toks + 2 }) : wpAny (model Challenge.rw_oc0165_02.row.prog w) A (setAttr (.ref x) "_initial_size" v) Q E s := by
  obtain ⟨pre, post, e1, _⟩ := U.split
  have hd' := (N (d, acDict hs0 t0 v0 n0) (by rw [e1]; exact List.mem_append.mpr (.inr (.head _)))).1
  exact set_dictL F X N (ac_at (at_of F N hx) hd') k_taker rfl rfl U (Nat.le_of_ble_eq_true rfl) h
end
section
variable {w : World} {p : Program} {loose : List Str} {mean : ExcName → Option Value} {mg mb : Str → Option Value} {G : Heap} {s : Shared} {Q E : Value → Shared → Prop}
set_option maxHeartbeats 8000000
theorem c_push {x d : Addr} {ps : Array Value} {n : Nat} {hs0 : Int} {t0 : Tok} {v0 : Value} {n0 : Nat} {a b : Str} {ta tb : Tok} (D : Gd w p loose mean mg mb G) (St : G.StaysIn s.heap) (hx : s.heap.get? x = some (acObj d ps n)) (hd' : s.heap.get? d = some (acDict hs0 t0 v0 n0)) (hxG : G.get? x = none)
    (hz : ps.size ≤ 1000)
    (hret : ∀ h' tk' n' T t1 t2, (∀ b o, s.heap.get? b = some o → b ≠ x → h'.get? b = some o) → s.heap.get? T = none → h'.get? T = some { cls := .type "tuple", data := .seq #[.str a t1, .str b t2] } → h'.get? x = some (acObj d (ps.push (.ref T)) n') → Q .none { s with heap := h', toks := tk' }) :
    wpAny (model Challenge.rw_oc0165_02.row.prog w) (Am 800 600) (call (.ref 122) [.ref x, .str a ta, .str b tb]) Q E s := by
  have fill : (hd.heap_1 w.params).In G := D.X
  revert fill
  k_fill
  intro _
  refine wpAny_call ?_
  refine' enterP (binds := [("self", .ref x), ("fws", .str a ta), ("string", .str b tb)]) [(x, acObj d ps n)] D St ?k3 ?k4 ?k6 ?k7 ?k8 ?k9 ?kB ?c5 ?c2 ?c3 ?c4 ?_
  case k3 => exact all_cons (hx) all_nil
  case k4 => exact all_cons (hxG) all_nil
  (((case k6 => k_is); (case k7 => k_is); (case k8 => decide)))
  case k9 => first | exact BindsTo.of_eq rfl | (refine' binds_K (D.X.keeps St) ?b1 ?b2 ?b3 ?b4 ?b5; (case b1 => exact rfl); (case b2 => k_is); (case b3 => exact rfl); (case b4 => exact rfl); (case b5 => exact rfl))
  (((case kB => exact locs rfl); (case c5 => decide); (case c2 => exact rfl); (case c3 => exact rfl); (case c4 => exact rfl)))
  intro g L h hg hL F N X T l1 hkeep hst
  have hdx : d ≠ x := by rintro rfl; rw [hx] at hd'; cases hd'
  replace hkeep : ∀ b o, s.heap.get? b = some o → b ≠ x → g.get? b = some o := fun b o e hb => hkeep b o e (by exact all_cons (hb.symm) all_nil)
  have hdg := hkeep _ _ hd' hdx
  dsimp only
  try k_fold
  (repeat' (first | (fail_if_success (with_reducible show wpAny _ _ (exec (Stmt.For _ _ _ _ _) _) _ _ _)); (first | (k_unfold; (try dsimp only)) | (first | ((with_reducible show wpAny _ _ (call (Value.builtin "list.append") _) _ _ _); (k_here; k_dflt (refine' m_append ?k1 ?k2 ?k3 ?k4 ?k5 ?_; (case k1 => k_asm); (case k2 => k_asm); (case k3 => k_asm); (case k4 => k_upd); (case k5 => omega)); intro h' F' N'; (try k_sweep))) | ((k_here; (with_reducible show wpAny _ _ (subscriptTail _ (PySem.Expr.Slice _ _ none _) (Value.ref _) (Value.ref _)) _ _ _); k_dflt (refine' m_slice ?k1 ?k2 ?k3 ?k4 ?k5 ?k6 ?k7 ?_ ?k8; (case k1 => k_asm); (case k2 => k_asm); (case k3 => k_asm); (case k4 => (first | exact .inr (by assumption) | exact .inl (by k_mem))); (case k5 => omega); (case k6 => (first | exact .none | exact .int _ _)); (case k7 => (first | exact .none | exact .int _ _)); (case k8 => with_unfolding_all rfl)); intro D' h' F' N' l1; (try k_lt l1); (try k_sweep))) | ((with_reducible show wpAny _ _ (setAttr (Value.ref _) _ _) _ _ _); (k_here; k_dflt (refine' m_setattr ?k1 ?k2 ?k3 ?k4 ?k5 ?_; (case k1 => k_asm); (case k2 => k_asm); (case k3 => k_asm); (case k4 => (first | exact .inr (by assumption) | exact .inl (by k_mem))); (case k5 => k_upd)); intro h' F' N'; (try k_sweep))) | ((with_reducible show wpAny _ _ (getMethod (Value.ref _) _ _) _ _ _); (k_here; k_dflt (refine' m_method ?k1 ?k2 ?k3 ?k4 ?k5 ?k6 ?k7 ?k8 ?k9 ?_; (case k1 => k_asm); (case k2 => k_asm); (case k3 => k_asm); (case k4 => (first | exact .inr (by assumption) | exact .inl (by k_mem))); (case k5 => (first | exact .inr (by assumption) | exact .inl (by k_mem))); (case k6 => k_is); (case k7 => k_is); (case k8 => decide +kernel); (case k9 => rfl)))) | walk1) | (dsimp only; (first | ((with_reducible show wpAny _ _ (call (Value.builtin "list.append") _) _ _ _); (k_here; k_dflt (refine' m_append ?k1 ?k2 ?k3 ?k4 ?k5 ?_; (case k1 => k_asm); (case k2 => k_asm); (case k3 => k_asm); (case k4 => k_upd); (case k5 => omega)); intro h' F' N'; (try k_sweep))) | ((k_here; (with_reducible show wpAny _ _ (subscriptTail _ (PySem.Expr.Slice _ _ none _) (Value.ref _) (Value.ref _)) _ _ _); k_dflt (refine' m_slice ?k1 ?k2 ?k3 ?k4 ?k5 ?k6 ?k7 ?_ ?k8; (case k1 => k_asm); (case k2 => k_asm); (case k3 => k_asm); (case k4 => (first | exact .inr (by assumption) | exact .inl (by k_mem))); (case k5 => omega); (case k6 => (first | exact .none | exact .int _ _)); (case k7 => (first | exact .none | exact .int _ _)); (case k8 => with_unfolding_all rfl)); intro D' h' F' N' l1; (try k_lt l1); (try k_sweep))) | ((with_reducible show wpAny _ _ (setAttr (Value.ref _) _ _) _ _ _); (k_here; k_dflt (refine' m_setattr ?k1 ?k2 ?k3 ?k4 ?k5 ?_; (case k1 => k_asm); (case k2 => k_asm); (case k3 => k_asm); (case k4 => (first | exact .inr (by assumption) | exact .inl (by k_mem))); (case k5 => k_upd)); intro h' F' N'; (try k_sweep))) | ((with_reducible show wpAny _ _ (getMethod (Value.ref _) _ _) _ _ _); (k_here; k_dflt (refine' m_method ?k1 ?k2 ?k3 ?k4 ?k5 ?k6 ?k7 ?k8 ?k9 ?_; (case k1 => k_asm); (case k2 => k_asm); (case k3 => k_asm); (case k4 => (first | exact .inr (by assumption) | exact .inl (by k_mem))); (case k5 => (first | exact .inr (by assumption) | exact .inl (by k_mem))); (case k6 => k_is); (case k7 => k_is); (case k8 => decide +kernel); (case k9 => rfl)))) | walk1)))))
  rename Fr _ _ _ _ => F1
  rename News _ _ _ _ => N1
  try dsimp only
  have z := N1 _ (.head _)
  exact hret _ _ _ _ _ _ (fun b o e hb => F1.keep _ _ (hkeep _ _ e hb)) (none_of hkeep (Nat.ne_of_gt (by assumption)) z.2.2) z.1 (N1 _ (.tail _ (.head _))).1
theorem c_popfromG {rest : List Value} {fd : FuncData} {x d : Addr} {ps : Array Value} {n : Nat} {hs0 : Int} {t0 : Tok} {v0 : Value} {n0 : Nat} {i : Int} {ti : Tok} (hfd : FdIs (hd.heap_1 w.params) 130 fd) (hb : BindsTo s fd ⟨.ref x :: rest, []⟩ [("self", .ref x), ("i", .int i ti)]) (D : Gd w p loose mean mg mb G) (St : G.StaysIn s.heap) (hx : s.heap.get? x = some (acObj d ps n)) (hd' : s.heap.get? d = some (acDict hs0 t0 v0 n0)) (hxG : G.get? x = none)
    (hz : ps.size ≤ 1000) (h0 : 0 ≤ i) (h1 : i ≤ ps.size)
    (hret : ∀ h' tk' n' R, (∀ b o, s.heap.get? b = some o → b ≠ x → h'.get? b = some o) → s.heap.get? R = none → h'.get? R = some (listOf (ps.toList.drop i.toNat).toArray 0) → h'.get? x = some (acObj d (ps.toList.take i.toNat).toArray n') → Q (.ref R) { s with heap := h', toks := tk' }) :
    wpAny (model Challenge.rw_oc0165_02.row.prog w) (Am 800 600) (call (.ref 130) (.ref x :: rest)) Q E s := by
  have fill : (hd.heap_1 w.params).In G := D.X
  revert fill
  k_fill
  intro _
  refine wpAny_call ?_
  refine' enterP (binds := [("self", .ref x), ("i", .int i ti)]) [(x, acObj d ps n)] D St ?k3 ?k4 ?k6 ?k7 ?k8 ?k9 ?kB ?c5 ?c2 ?c3 ?c4 ?_
  case k3 => exact all_cons (hx) all_nil
  case k4 => exact all_cons (hxG) all_nil
  (((case k6 => k_is); (case k7 => k_is); (case k8 => decide)))
  case k9 => exact hfd.binds hb (by k_is)
  (((case kB => exact locs rfl); (case c5 => decide); (case c2 => exact rfl); (case c3 => exact rfl); (case c4 => exact rfl)))
  intro g L h hg hL F N X T l1 hkeep hst
  have hdx : d ≠ x := by rintro rfl; rw [hx] at hd'; cases hd'
  replace hkeep : ∀ b o, s.heap.get? b = some o → b ≠ x → g.get? b = some o := fun b o e hb => hkeep b o e (by exact all_cons (hb.symm) all_nil)
  have hdg := hkeep _ _ hd' hdx
  dsimp only
  try k_fold
  (repeat' (first | (fail_if_success (with_reducible show wpAny _ _ (exec (Stmt.For _ _ _ _ _) _) _ _ _)); (first | (k_unfold; (try dsimp only)) | (first | ((with_reducible show wpAny _ _ (call (Value.builtin "list.append") _) _ _ _); (k_here; k_dflt (refine' m_append ?k1 ?k2 ?k3 ?k4 ?k5 ?_; (case k1 => k_asm); (case k2 => k_asm); (case k3 => k_asm); (case k4 => k_upd); (case k5 => omega)); intro h' F' N'; (try k_sweep))) | ((k_here; (with_reducible show wpAny _ _ (subscriptTail _ (PySem.Expr.Slice _ _ none _) (Value.ref _) (Value.ref _)) _ _ _); k_dflt (refine' m_slice ?k1 ?k2 ?k3 ?k4 ?k5 ?k6 ?k7 ?_ ?k8; (case k1 => k_asm); (case k2 => k_asm); (case k3 => k_asm); (case k4 => (first | exact .inr (by assumption) | exact .inl (by k_mem))); (case k5 => omega); (case k6 => (first | exact .none | exact .int _ _)); (case k7 => (first | exact .none | exact .int _ _)); (case k8 => with_unfolding_all rfl)); intro D' h' F' N' l1; (try k_lt l1); (try k_sweep))) | ((with_reducible show wpAny _ _ (setAttr (Value.ref _) _ _) _ _ _); (k_here; k_dflt (refine' m_setattr ?k1 ?k2 ?k3 ?k4 ?k5 ?_; (case k1 => k_asm); (case k2 => k_asm); (case k3 => k_asm); (case k4 => (first | exact .inr (by assumption) | exact .inl (by k_mem))); (case k5 => k_upd)); intro h' F' N'; (try k_sweep))) | ((with_reducible show wpAny _ _ (getMethod (Value.ref _) _ _) _ _ _); (k_here; k_dflt (refine' m_method ?k1 ?k2 ?k3 ?k4 ?k5 ?k6 ?k7 ?k8 ?k9 ?_; (case k1 => k_asm); (case k2 => k_asm); (case k3 => k_asm); (case k4 => (first | exact .inr (by assumption) | exact .inl (by k_mem))); (case k5 => (first | exact .inr (by assumption) | exact .inl (by k_mem))); (case k6 => k_is); (case k7 => k_is); (case k8 => decide +kernel); (case k9 => rfl)))) | walk1) | (dsimp only; (first | ((with_reducible show wpAny _ _ (call (Value.builtin "list.append") _) _ _ _); (k_here; k_dflt (refine' m_append ?k1 ?k2 ?k3 ?k4 ?k5 ?_; (case k1 => k_asm); (case k2 => k_asm); (case k3 => k_asm); (case k4 => k_upd); (case k5 => omega)); intro h' F' N'; (try k_sweep))) | ((k_here; (with_reducible show wpAny _ _ (subscriptTail _ (PySem.Expr.Slice _ _ none _) (Value.ref _) (Value.ref _)) _ _ _); k_dflt (refine' m_slice ?k1 ?k2 ?k3 ?k4 ?k5 ?k6 ?k7 ?_ ?k8; (case k1 => k_asm); (case k2 => k_asm); (case k3 => k_asm); (case k4 => (first | exact .inr (by assumption) | exact .inl (by k_mem))); (case k5 => omega); (case k6 => (first | exact .none | exact .int _ _)); (case k7 => (first | exact .none | exact .int _ _)); (case k8 => with_unfolding_all rfl)); intro D' h' F' N' l1; (try k_lt l1); (try k_sweep))) | ((with_reducible show wpAny _ _ (setAttr (Value.ref _) _ _) _ _ _); (k_here; k_dflt (refine' m_setattr ?k1 ?k2 ?k3 ?k4 ?k5 ?_; (case k1 => k_asm); (case k2 => k_asm); (case k3 => k_asm); (case k4 => (first | exact .inr (by assumption) | exact .inl (by k_mem))); (case k5 => k_upd)); intro h' F' N'; (try k_sweep))) | ((with_reducible show wpAny _ _ (getMethod (Value.ref _) _ _) _ _ _); (k_here; k_dflt (refine' m_method ?k1 ?k2 ?k3 ?k4 ?k5 ?k6 ?k7 ?k8 ?k9 ?_; (case k1 => k_asm); (case k2 => k_asm); (case k3 => k_asm); (case k4 => (first | exact .inr (by assumption) | exact .inl (by k_mem))); (case k5 => (first | exact .inr (by assumption) | exact .inl (by k_mem))); (case k6 => k_is); (case k7 => k_is); (case k8 => decide +kernel); (case k9 => rfl)))) | walk1)))))
  rename Fr _ _ _ _ => F1
  rename News _ _ _ _ => N1
  refine' m_put F1 N1 X (d := d) (ps := ps) (n := n) (items := #[]) (items' := (ps.toList.take i.toNat).toArray) (n' := _) ?u hz (by simp) (.int i ti) .none (PySem.IsL.isList (n := 0) (N1 _ (.head _)).1) ?v rfl ?w
  case u => k_upd
  case v =>
    obtain ⟨j, rfl⟩ := Int.eq_ofNat_of_zero_le h0
    apply Array.toList_inj.mp
    have e1 : (sliceBounds (some (j : Int)) none none ps.size).1.toNat = j := by simp [sliceBounds]; omega
    have e2 : (max (sliceBounds (some (j : Int)) none none ps.size).1 (sliceBounds (some (j : Int)) none none ps.size).2.1).toNat = ps.size := by simp [sliceBounds]; omega
    rw [e1, e2]
    simp
  intro h2 F2 N2
  (repeat' (first | (fail_if_success (with_reducible show wpAny _ _ (exec (Stmt.For _ _ _ _ _) _) _ _ _)); (first | (k_unfold; (try dsimp only)) | (first | ((with_reducible show wpAny _ _ (call (Value.builtin "list.append") _) _ _ _); (k_here; k_dflt (refine' m_append ?k1 ?k2 ?k3 ?k4 ?k5 ?_; (case k1 => k_asm); (case k2 => k_asm); (case k3 => k_asm); (case k4 => k_upd); (case k5 => omega)); intro h' F' N'; (try k_sweep))) | ((k_here; (with_reducible show wpAny _ _ (subscriptTail _ (PySem.Expr.Slice _ _ none _) (Value.ref _) (Value.ref _)) _ _ _); k_dflt (refine' m_slice ?k1 ?k2 ?k3 ?k4 ?k5 ?k6 ?k7 ?_ ?k8; (case k1 => k_asm); (case k2 => k_asm); (case k3 => k_asm); (case k4 => (first | exact .inr (by assumption) | exact .inl (by k_mem))); (case k5 => omega); (case k6 => (first | exact .none | exact .int _ _)); (case k7 => (first | exact .none | exact .int _ _)); (case k8 => with_unfolding_all rfl)); intro D' h' F' N' l1; (try k_lt l1); (try k_sweep))) | ((with_reducible show wpAny _ _ (setAttr (Value.ref _) _ _) _ _ _); (k_here; k_dflt (refine' m_setattr ?k1 ?k2 ?k3 ?k4 ?k5 ?_; (case k1 => k_asm); (case k2 => k_asm); (case k3 => k_asm); (case k4 => (first | exact .inr (by assumption) | exact .inl (by k_mem))); (case k5 => k_upd)); intro h' F' N'; (try k_sweep))) | ((with_reducible show wpAny _ _ (getMethod (Value.ref _) _ _) _ _ _); (k_here; k_dflt (refine' m_method ?k1 ?k2 ?k3 ?k4 ?k5 ?k6 ?k7 ?k8 ?k9 ?_; (case k1 => k_asm); (case k2 => k_asm); (case k3 => k_asm); (case k4 => (first | exact .inr (by assumption) | exact .inl (by k_mem))); (case k5 => (first | exact .inr (by assumption) | exact .inl (by k_mem))); (case k6 => k_is); (case k7 => k_is); (case k8 => decide +kernel); (case k9 => rfl)))) | walk1) | (dsimp only; (first | ((with_reducible show wpAny _ _ (call (Value.builtin "list.append") _) _ _ _); (k_here; k_dflt (refine' m_append ?k1 ?k2 ?k3 ?k4 ?k5 ?_; (case k1 => k_asm); (case k2 => k_asm); (case k3 => k_asm); (case k4 => k_upd); (case k5 => omega)); intro h' F' N'; (try k_sweep))) | ((k_here; (with_reducible show wpAny _ _ (subscriptTail _ (PySem.Expr.Slice _ _ none _) (Value.ref _) (Value.ref _)) _ _ _); k_dflt (refine' m_slice ?k1 ?k2 ?k3 ?k4 ?k5 ?k6 ?k7 ?_ ?k8; (case k1 => k_asm); (case k2 => k_asm); (case k3 => k_asm); (case k4 => (first | exact .inr (by assumption) | exact .inl (by k_mem))); (case k5 => omega); (case k6 => (first | exact .none | exact .int _ _)); (case k7 => (first | exact .none | exact .int _ _)); (case k8 => with_unfolding_all rfl)); intro D' h' F' N' l1; (try k_lt l1); (try k_sweep))) | ((with_reducible show wpAny _ _ (setAttr (Value.ref _) _ _) _ _ _); (k_here; k_dflt (refine' m_setattr ?k1 ?k2 ?k3 ?k4 ?k5 ?_; (case k1 => k_asm); (case k2 => k_asm); (case k3 => k_asm); (case k4 => (first | exact .inr (by assumption) | exact .inl (by k_mem))); (case k5 => k_upd)); intro h' F' N'; (try k_sweep))) | ((with_reducible show wpAny _ _ (getMethod (Value.ref _) _ _) _ _ _); (k_here; k_dflt (refine' m_method ?k1 ?k2 ?k3 ?k4 ?k5 ?k6 ?k7 ?k8 ?k9 ?_; (case k1 => k_asm); (case k2 => k_asm); (case k3 => k_asm); (case k4 => (first | exact .inr (by assumption) | exact .inl (by k_mem))); (case k5 => (first | exact .inr (by assumption) | exact .inl (by k_mem))); (case k6 => k_is); (case k7 => k_is); (case k8 => decide +kernel); (case k9 => rfl)))) | walk1)))))
  rename Fr _ _ _ _ => F3
  rename News _ _ _ _ => N3
  have z := N3 _ (.tail _ (.head _))
  have e : (listOf (slicePick ps (some i) none none) 0) = listOf (ps.toList.drop i.toNat).toArray 0 := by
    obtain ⟨j, rfl⟩ := Int.eq_ofNat_of_zero_le h0
    rw [show ((j : Int)) = ((j : Nat) : Int) from rfl, slicePick_from ps j (by omega)]
    rfl
  exact hret _ _ _ _ (fun b o e hb => F3.keep _ _ (hkeep _ _ e hb)) (none_of hkeep (Nat.ne_of_gt (by assumption)) z.2.2) (z.1.trans (congrArg some e)) (N3 _ (.tail _ (.tail _ (.head _)))).1
theorem c_popfrom {x d : Addr} {ps : Array Value} {n : Nat} {hs0 : Int} {t0 : Tok} {v0 : Value} {n0 : Nat} {i : Int} {ti : Tok} (D : Gd w p loose mean mg mb G) (St : G.StaysIn s.heap) (hx : s.heap.get? x = some (acObj d ps n)) (hd' : s.heap.get? d = some (acDict hs0 t0 v0 n0)) (hxG : G.get? x = none)
    (hz : ps.size ≤ 1000) (h0 : 0 ≤ i) (h1 : i ≤ ps.size)
    (hret : ∀ h' tk' n' R, (∀ b o, s.heap.get? b = some o → b ≠ x → h'.get? b = some o) → s.heap.get? R = none → h'.get? R = some (listOf (ps.toList.drop i.toNat).toArray 0) → h'.get? x = some (acObj d (ps.toList.take i.toNat).toArray n') → Q (.ref R) { s with heap := h', toks := tk' }) :
    wpAny (model Challenge.rw_oc0165_02.row.prog w) (Am 800 600) (call (.ref 130) [.ref x, .int i ti]) Q E s := by
  have fill : (hd.heap_1 w.params).In G := D.X
  revert fill
  k_fill
  intro _
  refine' c_popfromG (rest := [.int i ti]) (ti := ti) (FdIs.of ?h) ?e D St hx hd' hxG hz h0 h1 hret
  case h => k_is
  case e => first | exact BindsTo.of_eq rfl | (refine' binds_K (D.X.keeps St) ?b1 ?b2 ?b3 ?b4 ?b5; (case b1 => exact rfl); (case b2 => k_is); (case b3 => exact rfl); (case b4 => exact rfl); (case b5 => exact rfl))
theorem c_reset {x d : Addr} {ps : Array Value} {n : Nat} {hs0 : Int} {t0 : Tok} {v0 : Value} {n0 : Nat} {R : Addr} {items : Array Value} {k : Nat} (D : Gd w p loose mean mg mb G) (St : G.StaysIn s.heap) (hx : s.heap.get? x = some (acObj d ps n)) (hd' : s.heap.get? d = some (acDict hs0 t0 v0 n0)) (hxG : G.get? x = none) (hdG : G.get? d = none)
    (hz : ps.size ≤ 1000) (hR : s.heap.get? R = some (listOf items k)) (hz2 : items.size ≤ 1000)
    (hret : ∀ h' tk' n' t', (∀ b o, s.heap.get? b = some o → b ≠ x → b ≠ d → h'.get? b = some o) → h'.get? x = some (acObj d items n') → h'.get? d = some (acDict hs0 t0 (.int 0 t') n0) → Q .none { s with heap := h', toks := tk' }) :
    wpAny (model Challenge.rw_oc0165_02.row.prog w) (Am 800 600) (call (.ref 160) [.ref x, .ref R]) Q E s := by
  have fill : (hd.heap_1 w.params).In G := D.X
  revert fill
  k_fill
  intro _
  refine wpAny_call ?_
  refine' enterP (binds := [("self", .ref x), ("startval", .ref R)]) [(x, acObj d ps n), (d, acDict hs0 t0 v0 n0)] D St ?k3 ?k4 ?k6 ?k7 ?k8 ?k9 ?kB ?c5 ?c2 ?c3 ?c4 ?_
  case k3 => exact all_cons (hx) (all_cons (hd') all_nil)
  case k4 => exact all_cons (hxG) (all_cons (hdG) all_nil)
  (((case k6 => k_is); (case k7 => k_is); (case k8 => decide)))
  case k9 => first | exact BindsTo.of_eq rfl | (refine' binds_K (D.X.keeps St) ?b1 ?b2 ?b3 ?b4 ?b5; (case b1 => exact rfl); (case b2 => k_is); (case b3 => exact rfl); (case b4 => exact rfl); (case b5 => exact rfl))
  (((case kB => exact locs rfl); (case c5 => decide); (case c2 => exact rfl); (case c3 => exact rfl); (case c4 => exact rfl)))
  intro g L h hg hL F N X T l1 hkeep hst
  have hdx : d ≠ x := by rintro rfl; rw [hx] at hd'; cases hd'
  have hRx : R ≠ x := by rintro rfl; rw [hx] at hR; cases hR
  have hRd : R ≠ d := by rintro rfl; rw [hd'] at hR; simp at hR
  replace hkeep : ∀ b o, s.heap.get? b = some o → b ≠ x → b ≠ d → g.get? b = some o := fun b o e hb hb2 => hkeep b o e (by exact all_cons (hb.symm) (all_cons (hb2.symm) all_nil))
  have hRg := hkeep _ _ hR hRx hRd
  have o1 : x ≠ d := hdx.symm
  dsimp only
  try k_fold
  (repeat' (first | (fail_if_success (with_reducible show wpAny _ _ (exec (Stmt.For _ _ _ _ _) _) _ _ _)); (first | (k_unfold; (try dsimp only)) | (first | ((with_reducible show wpAny _ _ (call (Value.builtin "list.append") _) _ _ _); (k_here; k_dflt (refine' m_append ?k1 ?k2 ?k3 ?k4 ?k5 ?_; (case k1 => k_asm); (case k2 => k_asm); (case k3 => k_asm); (case k4 => k_upd); (case k5 => omega)); intro h' F' N'; (try k_sweep))) | ((k_here; (with_reducible show wpAny _ _ (subscriptTail _ (PySem.Expr.Slice _ _ none _) (Value.ref _) (Value.ref _)) _ _ _); k_dflt (refine' m_slice ?k1 ?k2 ?k3 ?k4 ?k5 ?k6 ?k7 ?_ ?k8; (case k1 => k_asm); (case k2 => k_asm); (case k3 => k_asm); (case k4 => (first | exact .inr (by assumption) | exact .inl (by k_mem))); (case k5 => omega); (case k6 => (first | exact .none | exact .int _ _)); (case k7 => (first | exact .none | exact .int _ _)); (case k8 => with_unfolding_all rfl)); intro D' h' F' N' l1; (try k_lt l1); (try k_sweep))) | ((with_reducible show wpAny _ _ (setAttr (Value.ref _) _ _) _ _ _); (k_here; k_dflt (refine' m_setattr ?k1 ?k2 ?k3 ?k4 ?k5 ?_; (case k1 => k_asm); (case k2 => k_asm); (case k3 => k_asm); (case k4 => (first | exact .inr (by assumption) | exact .inl (by k_mem))); (case k5 => k_upd)); intro h' F' N'; (try k_sweep))) | ((with_reducible show wpAny _ _ (getMethod (Value.ref _) _ _) _ _ _); (k_here; k_dflt (refine' m_method ?k1 ?k2 ?k3 ?k4 ?k5 ?k6 ?k7 ?k8 ?k9 ?_; (case k1 => k_asm); (case k2 => k_asm); (case k3 => k_asm); (case k4 => (first | exact .inr (by assumption) | exact .inl (by k_mem))); (case k5 => (first | exact .inr (by assumption) | exact .inl (by k_mem))); (case k6 => k_is); (case k7 => k_is); (case k8 => decide +kernel); (case k9 => rfl)))) | walk1) | (dsimp only; (first | ((with_reducible show wpAny _ _ (call (Value.builtin "list.append") _) _ _ _); (k_here; k_dflt (refine' m_append ?k1 ?k2 ?k3 ?k4 ?k5 ?_; (case k1 => k_asm); (case k2 => k_asm); (case k3 => k_asm); (case k4 => k_upd); (case k5 => omega)); intro h' F' N'; (try k_sweep))) | ((k_here; (with_reducible show wpAny _ _ (subscriptTail _ (PySem.Expr.Slice _ _ none _) (Value.ref _) (Value.ref _)) _ _ _); k_dflt (refine' m_slice ?k1 ?k2 ?k3 ?k4 ?k5 ?k6 ?k7 ?_ ?k8; (case k1 => k_asm); (case k2 => k_asm); (case k3 => k_asm); (case k4 => (first | exact .inr (by assumption) | exact .inl (by k_mem))); (case k5 => omega); (case k6 => (first | exact .none | exact .int _ _)); (case k7 => (first | exact .none | exact .int _ _)); (case k8 => with_unfolding_all rfl)); intro D' h' F' N' l1; (try k_lt l1); (try k_sweep))) | ((with_reducible show wpAny _ _ (setAttr (Value.ref _) _ _) _ _ _); (k_here; k_dflt (refine' m_setattr ?k1 ?k2 ?k3 ?k4 ?k5 ?_; (case k1 => k_asm); (case k2 => k_asm); (case k3 => k_asm); (case k4 => (first | exact .inr (by assumption) | exact .inl (by k_mem))); (case k5 => k_upd)); intro h' F' N'; (try k_sweep))) | ((with_reducible show wpAny _ _ (getMethod (Value.ref _) _ _) _ _ _); (k_here; k_dflt (refine' m_method ?k1 ?k2 ?k3 ?k4 ?k5 ?k6 ?k7 ?k8 ?k9 ?_; (case k1 => k_asm); (case k2 => k_asm); (case k3 => k_asm); (case k4 => (first | exact .inr (by assumption) | exact .inl (by k_mem))); (case k5 => (first | exact .inr (by assumption) | exact .inl (by k_mem))); (case k6 => k_is); (case k7 => k_is); (case k8 => decide +kernel); (case k9 => rfl)))) | walk1)))))
  rename Fr _ _ _ _ => F1
  rename News _ _ _ _ => N1
  refine' m_put F1 N1 X (d := d) (ps := ps) (n := n) (items := items) (items' := items) (n' := _) ?u hz hz2 .none .none (PySem.IsL.isList (n := k) (F1.keep _ _ hRg)) ?v rfl ?w
  case u => k_upd
  case v =>
    apply Array.toList_inj.mp
    simp [sliceBounds]
  intro h2 F2 N2
  (repeat' (first | (fail_if_success (with_reducible show wpAny _ _ (exec (Stmt.For _ _ _ _ _) _) _ _ _)); (first | (k_unfold; (try dsimp only)) | (first | ((with_reducible show wpAny _ _ (call (Value.builtin "list.append") _) _ _ _); (k_here; k_dflt (refine' m_append ?k1 ?k2 ?k3 ?k4 ?k5 ?_; (case k1 => k_asm); (case k2 => k_asm); (case k3 => k_asm); (case k4 => k_upd); (case k5 => omega)); intro h' F' N'; (try k_sweep))) | ((k_here; (with_reducible show wpAny _ _ (subscriptTail _ (PySem.Expr.Slice _ _ none _) (Value.ref _) (Value.ref _)) _ _ _); k_dflt (refine' m_slice ?k1 ?k2 ?k3 ?k4 ?k5 ?k6 ?k7 ?_ ?k8; (case k1 => k_asm); (case k2 => k_asm); (case k3 => k_asm); (case k4 => (first | exact .inr (by assumption) | exact .inl (by k_mem))); (case k5 => omega); (case k6 => (first | exact .none | exact .int _ _)); (case k7 => (first | exact .none | exact .int _ _)); (case k8 => with_unfolding_all rfl)); intro D' h' F' N' l1; (try k_lt l1); (try k_sweep))) | ((with_reducible show wpAny _ _ (setAttr (Value.ref _) _ _) _ _ _); (k_here; k_dflt (refine' m_setattr ?k1 ?k2 ?k3 ?k4 ?k5 ?_; (case k1 => k_asm); (case k2 => k_asm); (case k3 => k_asm); (case k4 => (first | exact .inr (by assumption) | exact .inl (by k_mem))); (case k5 => k_upd)); intro h' F' N'; (try k_sweep))) | ((with_reducible show wpAny _ _ (getMethod (Value.ref _) _ _) _ _ _); (k_here; k_dflt (refine' m_method ?k1 ?k2 ?k3 ?k4 ?k5 ?k6 ?k7 ?k8 ?k9 ?_; (case k1 => k_asm); (case k2 => k_asm); (case k3 => k_asm); (case k4 => (first | exact .inr (by assumption) | exact .inl (by k_mem))); (case k5 => (first | exact .inr (by assumption) | exact .inl (by k_mem))); (case k6 => k_is); (case k7 => k_is); (case k8 => decide +kernel); (case k9 => rfl)))) | walk1) | (dsimp only; (first | ((with_reducible show wpAny _ _ (call (Value.builtin "list.append") _) _ _ _); (k_here; k_dflt (refine' m_append ?k1 ?k2 ?k3 ?k4 ?k5 ?_; (case k1 => k_asm); (case k2 => k_asm); (case k3 => k_asm); (case k4 => k_upd); (case k5 => omega)); intro h' F' N'; (try k_sweep))) | ((k_here; (with_reducible show wpAny _ _ (subscriptTail _ (PySem.Expr.Slice _ _ none _) (Value.ref _) (Value.ref _)) _ _ _); k_dflt (refine' m_slice ?k1 ?k2 ?k3 ?k4 ?k5 ?k6 ?k7 ?_ ?k8; (case k1 => k_asm); (case k2 => k_asm); (case k3 => k_asm); (case k4 => (first | exact .inr (by assumption) | exact .inl (by k_mem))); (case k5 => omega); (case k6 => (first | exact .none | exact .int _ _)); (case k7 => (first | exact .none | exact .int _ _)); (case k8 => with_unfolding_all rfl)); intro D' h' F' N' l1; (try k_lt l1); (try k_sweep))) | ((with_reducible show wpAny _ _ (setAttr (Value.ref _) _ _) _ _ _); (k_here; k_dflt (refine' m_setattr ?k1 ?k2 ?k3 ?k4 ?k5 ?_; (case k1 => k_asm); (case k2 => k_asm); (case k3 => k_asm); (case k4 => (first | exact .inr (by assumption) | exact .inl (by k_mem))); (case k5 => k_upd)); intro h' F' N'; (try k_sweep))) | ((with_reducible show wpAny _ _ (getMethod (Value.ref _) _ _) _ _ _); (k_here; k_dflt (refine' m_method ?k1 ?k2 ?k3 ?k4 ?k5 ?k6 ?k7 ?k8 ?k9 ?_; (case k1 => k_asm); (case k2 => k_asm); (case k3 => k_asm); (case k4 => (first | exact .inr (by assumption) | exact .inl (by k_mem))); (case k5 => (first | exact .inr (by assumption) | exact .inl (by k_mem))); (case k6 => k_is); (case k7 => k_is); (case k8 => decide +kernel); (case k9 => rfl)))) | walk1)))))
  rename Fr _ _ _ _ => F3
  rename News _ _ _ _ => N3
  try dsimp only
  exact hret _ _ _ _ (fun b o e hb hb2 => F3.keep _ _ (hkeep _ _ e hb hb2)) (N3 _ (.head _)).1 (N3 _ (.tail _ (.head _))).1
theorem c_reset0 {x d : Addr} {ps : Array Value} {n : Nat} {hs0 : Int} {t0 : Tok} {v0 : Value} {n0 : Nat} (D : Gd w p loose mean mg mb G) (St : G.StaysIn s.heap) (hx : s.heap.get? x = some (acObj d ps n)) (hd' : s.heap.get? d = some (acDict hs0 t0 v0 n0)) (hxG : G.get? x = none) (hdG : G.get? d = none)
    (hz : ps.size ≤ 1000)
    (hret : ∀ h' tk' n' t', (∀ b o, s.heap.get? b = some o → b ≠ x → b ≠ d → h'.get? b = some o) → h'.get? x = some (acObj d #[] n') → h'.get? d = some (acDict hs0 t0 (.int 0 t') n0) → Q .none { s with heap := h', toks := tk' }) :
    wpAny (model Challenge.rw_oc0165_02.row.prog w) (Am 800 600) (call (.ref 160) [.ref x]) Q E s := by
  have fill : (hd.heap_1 w.params).In G := D.X
  revert fill
  k_fill
  intro _
  refine wpAny_call ?_
  refine' enterP (binds := [("self", .ref x), ("startval", .none)]) [(x, acObj d ps n), (d, acDict hs0 t0 v0 n0)] D St ?k3 ?k4 ?k6 ?k7 ?k8 ?k9 ?kB ?c5 ?c2 ?c3 ?c4 ?_
  case k3 => exact all_cons (hx) (all_cons (hd') all_nil)
  case k4 => exact all_cons (hxG) (all_cons (hdG) all_nil)
  (((case k6 => k_is); (case k7 => k_is); (case k8 => decide)))
  case k9 => first | exact BindsTo.of_eq rfl | (refine' binds_K (D.X.keeps St) ?b1 ?b2 ?b3 ?b4 ?b5; (case b1 => exact rfl); (case b2 => k_is); (case b3 => exact rfl); (case b4 => exact rfl); (case b5 => exact rfl))
  (((case kB => exact locs rfl); (case c5 => decide); (case c2 => exact rfl); (case c3 => exact rfl); (case c4 => exact rfl)))
  intro g L h hg hL F N X T l1 hkeep hst
  have hdx : d ≠ x := by rintro rfl; rw [hx] at hd'; cases hd'
  replace hkeep : ∀ b o, s.heap.get? b = some o → b ≠ x → b ≠ d → g.get? b = some o := fun b o e hb hb2 => hkeep b o e (by exact all_cons (hb.symm) (all_cons (hb2.symm) all_nil))
  have o1 : x ≠ d := hdx.symm
  dsimp only
  try k_fold
  (repeat' (first | (fail_if_success (with_reducible show wpAny _ _ (exec (Stmt.For _ _ _ _ _) _) _ _ _)); (first | (k_unfold; (try dsimp only)) | (first | ((with_reducible show wpAny _ _ (call (Value.builtin "list.append") _) _ _ _); (k_here; k_dflt (refine' m_append ?k1 ?k2 ?k3 ?k4 ?k5 ?_; (case k1 => k_asm); (case k2 => k_asm); (case k3 => k_asm); (case k4 => k_upd); (case k5 => omega)); intro h' F' N'; (try k_sweep))) | ((k_here; (with_reducible show wpAny _ _ (subscriptTail _ (PySem.Expr.Slice _ _ none _) (Value.ref _) (Value.ref _)) _ _ _); k_dflt (refine' m_slice ?k1 ?k2 ?k3 ?k4 ?k5 ?k6 ?k7 ?_ ?k8; (case k1 => k_asm); (case k2 => k_asm); (case k3 => k_asm); (case k4 => (first | exact .inr (by assumption) | exact .inl (by k_mem))); (case k5 => omega); (case k6 => (first | exact .none | exact .int _ _)); (case k7 => (first | exact .none | exact .int _ _)); (case k8 => with_unfolding_all rfl)); intro D' h' F' N' l1; (try k_lt l1); (try k_sweep))) | ((with_reducible show wpAny _ _ (setAttr (Value.ref _) _ _) _ _ _); (k_here; k_dflt (refine' m_setattr ?k1 ?k2 ?k3 ?k4 ?k5 ?_; (case k1 => k_asm); (case k2 => k_asm); (case k3 => k_asm); (case k4 => (first | exact .inr (by assumption) | exact .inl (by k_mem))); (case k5 => k_upd)); intro h' F' N'; (try k_sweep))) | ((with_reducible show wpAny _ _ (getMethod (Value.ref _) _ _) _ _ _); (k_here; k_dflt (refine' m_method ?k1 ?k2 ?k3 ?k4 ?k5 ?k6 ?k7 ?k8 ?k9 ?_; (case k1 => k_asm); (case k2 => k_asm); (case k3 => k_asm); (case k4 => (first | exact .inr (by assumption) | exact .inl (by k_mem))); (case k5 => (first | exact .inr (by assumption) | exact .inl (by k_mem))); (case k6 => k_is); (case k7 => k_is); (case k8 => decide +kernel); (case k9 => rfl)))) | walk1) | (dsimp only; (first | ((with_reducible show wpAny _ _ (call (Value.builtin "list.append") _) _ _ _); (k_here; k_dflt (refine' m_append ?k1 ?k2 ?k3 ?k4 ?k5 ?_; (case k1 => k_asm); (case k2 => k_asm); (case k3 => k_asm); (case k4 => k_upd); (case k5 => omega)); intro h' F' N'; (try k_sweep))) | ((k_here; (with_reducible show wpAny _ _ (subscriptTail _ (PySem.Expr.Slice _ _ none _) (Value.ref _) (Value.ref _)) _ _ _); k_dflt (refine' m_slice ?k1 ?k2 ?k3 ?k4 ?k5 ?k6 ?k7 ?_ ?k8; (case k1 => k_asm); (case k2 => k_asm); (case k3 => k_asm); (case k4 => (first | exact .inr (by assumption) | exact .inl (by k_mem))); (case k5 => omega); (case k6 => (first | exact .none | exact .int _ _)); (case k7 => (first | exact .none | exact .int _ _)); (case k8 => with_unfolding_all rfl)); intro D' h' F' N' l1; (try k_lt l1); (try k_sweep))) | ((with_reducible show wpAny _ _ (setAttr (Value.ref _) _ _) _ _ _); (k_here; k_dflt (refine' m_setattr ?k1 ?k2 ?k3 ?k4 ?k5 ?_; (case k1 => k_asm); (case k2 => k_asm); (case k3 => k_asm); (case k4 => (first | exact .inr (by assumption) | exact .inl (by k_mem))); (case k5 => k_upd)); intro h' F' N'; (try k_sweep))) | ((with_reducible show wpAny _ _ (getMethod (Value.ref _) _ _) _ _ _); (k_here; k_dflt (refine' m_method ?k1 ?k2 ?k3 ?k4 ?k5 ?k6 ?k7 ?k8 ?k9 ?_; (case k1 => k_asm); (case k2 => k_asm); (case k3 => k_asm); (case k4 => (first | exact .inr (by assumption) | exact .inl (by k_mem))); (case k5 => (first | exact .inr (by assumption) | exact .inl (by k_mem))); (case k6 => k_is); (case k7 => k_is); (case k8 => decide +kernel); (case k9 => rfl)))) | walk1)))))
  rename Fr _ _ _ _ => F1
  rename News _ _ _ _ => N1
  refine' m_put F1 N1 X (d := d) (ps := ps) (n := n) (items := #[]) (items' := #[]) (n' := _) ?u hz (by simp) .none .none (PySem.IsL.isList (n := 0) (N1 _ (.head _)).1) ?v rfl ?w
  case u => k_upd
  case v =>
    apply Array.toList_inj.mp
    simp [sliceBounds]
  intro h2 F2 N2
  (repeat' (first | (fail_if_success (with_reducible show wpAny _ _ (exec (Stmt.For _ _ _ _ _) _) _ _ _)); (first | (k_unfold; (try dsimp only)) | (first | ((with_reducible show wpAny _ _ (call (Value.builtin "list.append") _) _ _ _); (k_here; k_dflt (refine' m_append ?k1 ?k2 ?k3 ?k4 ?k5 ?_; (case k1 => k_asm); (case k2 => k_asm); (case k3 => k_asm); (case k4 => k_upd); (case k5 => omega)); intro h' F' N'; (try k_sweep))) | ((k_here; (with_reducible show wpAny _ _ (subscriptTail _ (PySem.Expr.Slice _ _ none _) (Value.ref _) (Value.ref _)) _ _ _); k_dflt (refine' m_slice ?k1 ?k2 ?k3 ?k4 ?k5 ?k6 ?k7 ?_ ?k8; (case k1 => k_asm); (case k2 => k_asm); (case k3 => k_asm); (case k4 => (first | exact .inr (by assumption) | exact .inl (by k_mem))); (case k5 => omega); (case k6 => (first | exact .none | exact .int _ _)); (case k7 => (first | exact .none | exact .int _ _)); (case k8 => with_unfolding_all rfl)); intro D' h' F' N' l1; (try k_lt l1); (try k_sweep))) | ((with_reducible show wpAny _ _ (setAttr (Value.ref _) _ _) _ _ _); (k_here; k_dflt (refine' m_setattr ?k1 ?k2 ?k3 ?k4 ?k5 ?_; (case k1 => k_asm); (case k2 => k_asm); (case k3 => k_asm); (case k4 => (first | exact .inr (by assumption) | exact .inl (by k_mem))); (case k5 => k_upd)); intro h' F' N'; (try k_sweep))) | ((with_reducible show wpAny _ _ (getMethod (Value.ref _) _ _) _ _ _); (k_here; k_dflt (refine' m_method ?k1 ?k2 ?k3 ?k4 ?k5 ?k6 ?k7 ?k8 ?k9 ?_; (case k1 => k_asm); (case k2 => k_asm); (case k3 => k_asm); (case k4 => (first | exact .inr (by assumption) | exact .inl (by k_mem))); (case k5 => (first | exact .inr (by assumption) | exact .inl (by k_mem))); (case k6 => k_is); (case k7 => k_is); (case k8 => decide +kernel); (case k9 => rfl)))) | walk1) | (dsimp only; (first | ((with_reducible show wpAny _ _ (call (Value.builtin "list.append") _) _ _ _); (k_here; k_dflt (refine' m_append ?k1 ?k2 ?k3 ?k4 ?k5 ?_; (case k1 => k_asm); (case k2 => k_asm); (case k3 => k_asm); (case k4 => k_upd); (case k5 => omega)); intro h' F' N'; (try k_sweep))) | ((k_here; (with_reducible show wpAny _ _ (subscriptTail _ (PySem.Expr.Slice _ _ none _) (Value.ref _) (Value.ref _)) _ _ _); k_dflt (refine' m_slice ?k1 ?k2 ?k3 ?k4 ?k5 ?k6 ?k7 ?_ ?k8; (case k1 => k_asm); (case k2 => k_asm); (case k3 => k_asm); (case k4 => (first | exact .inr (by assumption) | exact .inl (by k_mem))); (case k5 => omega); (case k6 => (first | exact .none | exact .int _ _)); (case k7 => (first | exact .none | exact .int _ _)); (case k8 => with_unfolding_all rfl)); intro D' h' F' N' l1; (try k_lt l1); (try k_sweep))) | ((with_reducible show wpAny _ _ (setAttr (Value.ref _) _ _) _ _ _); (k_here; k_dflt (refine' m_setattr ?k1 ?k2 ?k3 ?k4 ?k5 ?_; (case k1 => k_asm); (case k2 => k_asm); (case k3 => k_asm); (case k4 => (first | exact .inr (by assumption) | exact .inl (by k_mem))); (case k5 => k_upd)); intro h' F' N'; (try k_sweep))) | ((with_reducible show wpAny _ _ (getMethod (Value.ref _) _ _) _ _ _); (k_here; k_dflt (refine' m_method ?k1 ?k2 ?k3 ?k4 ?k5 ?k6 ?k7 ?k8 ?k9 ?_; (case k1 => k_asm); (case k2 => k_asm); (case k3 => k_asm); (case k4 => (first | exact .inr (by assumption) | exact .inl (by k_mem))); (case k5 => (first | exact .inr (by assumption) | exact .inl (by k_mem))); (case k6 => k_is); (case k7 => k_is); (case k8 => decide +kernel); (case k9 => rfl)))) | walk1)))))
  rename Fr _ _ _ _ => F3
  rename News _ _ _ _ => N3
  try dsimp only
  exact hret _ _ _ _ (fun b o e hb hb2 => F3.keep _ _ (hkeep _ _ e hb hb2)) (N3 _ (.tail _ (.head _))).1 (N3 _ (.tail _ (.tail _ (.head _)))).1
end
end Mine
end

section
-- GenB
example : True := by w_top off; trivial
open PySem PySem.W PyProof.Rows PySem.Calls PySem.Spec
set_option maxRecDepth 100000
namespace Mine
/-- something that holds items, whatever its class -/
noncomputable def IsSeq (h : Heap) (l : Addr) (items : Array Value) : Prop := ∃ o, h.get? l = some o ∧ ∃ n, o.data = .seq items n
theorem IsSeq.at {h h' : Heap} {l : Addr} {items : Array Value} (x : IsSeq h l items) (k : ∀ o, h.get? l = some o → h'.get? l = some o) : IsSeq h' l items := let ⟨o, ho, r⟩ := x; ⟨o, k o ho, r⟩
section
variable {prog : Program} {w : World} {A : Around} {E : Value → Shared → Prop} {s : Shared}
theorem nextSeq_item {it l : Addr} {i : Nat} {items} {x : Value} {Q : Option Value → Shared → Prop} (hit : s.heap.IsListIter it l i)
    (hl : IsSeq s.heap l items) (hx : items[i]? = some x)
    (hQ : ∀ h', h'.IsListIter it l (i + 1) → Heap.SameBut it s.heap h' → Q (some x) { s with heap := h' }) :
    wpAny (model prog w) A (pyNext (.ref it)) Q E s := by
  obtain ⟨o, ho, hc, hd⟩ := id hit
  obtain ⟨ol, hol, nl, hdl⟩ := hl
  unfold pyNext
  refine wpAny_bind (wpAny_attempt (wpAny_callSpecial?_slot (name := Str.ofString "__next__") hit.typeIs slot_listiter_next
    (wpAny_call_entry slot_listiter_next hit.typeIs entry_listiter_next ?_ (args_listiter_next _))))
  show wpAny _ _ (field (.ref it) 0 >>= _) _ _ s
  refine wpAny_bind (wpAny_field ho hd (x := .ref l) rfl ?_)
  show wpAny _ _ (if (Value.ref l == Value.none) = true then _ else _) _ _ s
  rw [if_neg (show ¬ ((Value.ref l == Value.none) = true) from Bool.false_ne_true)]
  show wpAny _ _ (field (.ref it) 1 >>= _) _ _ s
  refine wpAny_bind (wpAny_field ho hd (x := .int i 0) rfl ?_)
  show wpAny _ _ (seqItems? (.ref l) >>= _) _ _ s
  refine wpAny_bind (wpAny_seqItems hol hdl ?_)
  simp only [Int.toNat_natCast, hx]
  refine wpAny_bind (wpAny_setField ho hd (by simp) (wpAny_pure ⟨x, rfl, wpAny_pure (hQ _ ?_ (Heap.SameBut.update ..))⟩))
  exact ⟨_, Heap.get?_update_self _ ho (Obj.isFreed_of_fields (Obj.data_mapFields hd _)), (Obj.cls_mapFields ..).trans hc, by
    rw [Obj.data_mapFields hd]; simp [rawInt]⟩
theorem nextSeq_end {it l : Addr} {i : Nat} {items} {Q : Option Value → Shared → Prop} (hh : A.handled = none)
    (hit : s.heap.IsListIter it l i) (hl : IsSeq s.heap l items) (hx : items[i]? = none)
    (hQ : ∀ h', Heap.ExtBut it s.heap h' → Q none { s with heap := h' }) : wpAny (model prog w) A (pyNext (.ref it)) Q E s := by
  obtain ⟨o, ho, hc, hd⟩ := id hit
  obtain ⟨ol, hol, nl, hdl⟩ := hl
  unfold pyNext
  refine wpAny_bind (wpAny_attempt (wpAny_callSpecial?_slot (name := Str.ofString "__next__") hit.typeIs slot_listiter_next
    (wpAny_call_entry slot_listiter_next hit.typeIs entry_listiter_next ?_ (args_listiter_next _))))
  show wpAny _ _ (field (.ref it) 0 >>= _) _ _ s
  refine wpAny_bind (wpAny_field ho hd (x := .ref l) rfl ?_)
  show wpAny _ _ (if (Value.ref l == Value.none) = true then _ else _) _ _ s
  rw [if_neg (show ¬ ((Value.ref l == Value.none) = true) from Bool.false_ne_true)]
  show wpAny _ _ (field (.ref it) 1 >>= _) _ _ s
  refine wpAny_bind (wpAny_field ho hd (x := .int i 0) rfl ?_)
  show wpAny _ _ (seqItems? (.ref l) >>= _) _ _ s
  refine wpAny_bind (wpAny_seqItems hol hdl ?_)
  simp only [Int.toNat_natCast, hx]
  refine wpAny_bind (wpAny_rule (wpAny_bind (wpAny_setField ho hd (by simp) ?_)))
  show wpAny _ _ (newExc (.type "StopIteration") [] >>= _) _ _ _
  refine wpAny_bind ?_
  simp only [newExc, newTuple]
  refine wpAny_bind (wpAny_newObj_type ?_ (by size_fits))
  refine wpAny_bind (m := firstArgMember _ _) (wpAny_of_eq (a := Value.none) (by first | rfl | (simp only [firstArgMember]; rfl)) ?_)
  refine wpAny_newObj_type ?_ (by size_fits)
  simp only [raiseNew]
  refine wpAny_bind (wpAny_handled ?_)
  rw [show A.in1.handled = none from hh]
  refine wpAny_bind (wpAny_pure (wpAny_throw ?_))
  refine wpAny_bind (wpAny_isInstance (T := "StopIteration") (b := true) ⟨_, Heap.get?_push_size _ rfl, rfl⟩ isSubtype_stop ?_)
  exact wpAny_pure (hQ _ (((Heap.SameBut.update ..).extBut.push _).push _))
end
theorem walksU_seq {prog : Program} {w : World} {A : Around} (hh : A.handled = none) (I ax : Addr) (hne : ax ≠ I) (items : Array Value) (Ts : Nat → Addr) (vals : Nat → Array Value)
    (hit : ∀ j, j < items.size → items[j]? = some (.ref (Ts j))) (hTI : ∀ j, j < items.size → Ts j ≠ I) :
    WalksU prog w A I (I :: ax :: (List.range items.size).map Ts) [I] items.size (fun j v => v = vals j)
      (fun j h => h.IsListIter I ax j ∧ IsSeq h ax items ∧ ∀ k, k < items.size → h.IsTuple (Ts k) (vals k))
      (fun j T h => (j < items.size ∧ T = Ts j) ∧ h.IsListIter I ax (j + 1) ∧ IsSeq h ax items ∧ ∀ k, k < items.size → h.IsTuple (Ts k) (vals k)) where
  sub := fun b hb => by simp at hb; simp [hb]
  frame := fun _ _ _ st hk => ⟨st.1.at fun o e => hk I (by simp) o e, st.2.1.at fun o e => hk ax (by simp) o e,
    fun k hk' => (st.2.2 k hk').at fun o e => hk (Ts k) (List.mem_cons_of_mem _ (List.mem_cons_of_mem _ (List.mem_map.mpr ⟨k, List.mem_range.mpr hk', rfl⟩))) o e⟩
  item := fun i s Q E hi st hQ => by
    refine nextSeq_item st.1 st.2.1 (x := .ref (Ts i)) (hit i hi) fun h' hit' hs' => ?_
    have tup : ∀ k, k < items.size → h'.IsTuple (Ts k) (vals k) := fun k hk' => (st.2.2 k hk').extBut hs'.extBut (hTI k hk')
    exact hQ (Ts i) (vals i) h' s.toks rfl (tup i hi) ⟨⟨hi, rfl⟩, hit', st.2.1.at fun o e => hs'.extBut _ o hne e, tup⟩ fun b o hb e => hs'.extBut b o (fun h => hb (by simp [h])) e
  go := fun _ _ _ _ _ s Q _ hm hQ => wpAny_letOwnedTupleGo_listiter hm.2.1 (hQ s.heap hm.2 fun _ _ _ e => e)
  apart := fun j T _ hm hmem => by
    rcases List.mem_cons.mp hmem with e | e
    · exact hTI j hm.1.1 (hm.1.2 ▸ e)
    · cases e
  done := fun s Q E st hQ => nextSeq_end hh st.1 st.2.1 (by simp) fun h' he' => hQ h' s.toks fun b o hb e => he' b o (fun h => hb (by simp [h])) e
  self := fun _ _ _ _ st hQ => wpAny_pyIter_listiter st.1 hQ
section
variable {w : World} {A : Around} {E : Value → Shared → Prop} {s : Shared} {x d : Addr} {ps : Array Value} {n : Nat}
theorem k_iter : findIn (hd.heap_1 w.params) (.ref 178) "__iter__" = some (some (.builtin "list.__iter__")) := by kernel_rfl
theorem ac_ifBound {name : Str} {i : String} {refuse : Sem Value} {Q : Option Value → Shared → Prop} (X : (hd.heap_1 w.params).In s.heap) (hx : s.heap.get? x = some (acObj d ps n))
    (hf : findIn (hd.heap_1 w.params) (.ref 178) name = some (some (.builtin i))) (hb : bindSpecial (.builtin i) (.ref x) = pure (.builtin i, [.ref x]))
    (hc : wpAny (model Challenge.rw_oc0165_02.row.prog w) A (call (.builtin i) [.ref x]) (fun v => Q (some v)) E s) : wpAny (model Challenge.rw_oc0165_02.row.prog w) A (callSpecialIfBoundUnlessNone? (.ref x) name refuse) Q E s := by
  simp only [callSpecialIfBoundUnlessNone?, bindSpecialIfBound?, specialOf]
  refine wpAny_holding (wpAny_bind (wpAny_bind (wpAny_bind ((ac_type hx).here ((looks_findIn X hf).here ?_)))))
  simp only [hb]
  refine wpAny_bind (wpAny_askSetting (wpAny_ite ?_))
  have fin : wpAny (model Challenge.rw_oc0165_02.row.prog w) A (if (Value.builtin i == Value.none) = true then (refuse >>= fun v => pure (some v)) else (call (.builtin i) [.ref x] >>= fun v => pure (some v))) Q E s := by
    simp only [builtin_beq_none, Bool.false_eq_true, if_false]
    exact wpAny_bind (wpAny_mono hc (fun v s' h' => wpAny_pure h') fun _ _ h' => h')
  split
  · exact wpAny_bind (wpAny_pure (wpAny_pure fin))
  · exact wpAny_tryCatch (wpAny_bind (wpAny_pure (wpAny_pure fin)))
theorem ac_iter {Q : Value → Shared → Prop} (X : (hd.heap_1 w.params).In s.heap) (hx : s.heap.get? x = some (acObj d ps n))
    (hQ : Q (.ref s.heap.objs.size) { s with heap := s.heap.push { cls := .type "list_iterator", data := .fields #[.ref x, .int 0 0] } }) :
    wpAny (model Challenge.rw_oc0165_02.row.prog w) A (pyIter (.ref x)) Q E s := by
  unfold pyIter specialOf
  refine wpAny_bind (wpAny_bind ((ac_type hx).here ((looks_findIn X k_iter).here ?_)))
  show wpAny _ A (callSpecialIfBoundUnlessNone? (.ref x) "__iter__" _ >>= _) Q E s
  refine wpAny_bind (ac_ifBound X hx k_iter (PySem.F.slot_list_iter.bind _) (b_iter X hx ?_))
  exact wpAny_bind (wpAny_specialOf (T := "list_iterator") ⟨_, Heap.get?_push_size _ rfl, rfl⟩ slot_listiter_next.lookup (wpAny_pure hQ))
end
section
variable {prog : Program} {w : World} {A : Around} {I : Addr} {fp wr : List Addr} {G : Array GenState → Array GenState → Prop} {n : Nat} {P : Nat → Value → Prop} {St : Nat → Shared → Prop} {R : Result → Shared → Prop}
theorem sum_loopC (W : WalksS prog w A.in1 I fp wr G n P St) (val : Nat → Int) (c0 : Int) (hval : ∀ i v, P i v → ∃ t, v = .int (val i) t) (hfit : ∀ j, j < n → InLong (val j) ∧ InLong (c0 + preSum val (j + 1))) (S : Addr) (hSf : S ∉ fp) :
    ∀ (k i : Nat) (s : Shared) (tA : Tok) (c : Nat), n - i = k → i ≤ n → St i s → s.heap.get? S = some { cls := .type "list", dict := none, data := .seq #[.int (c0 + preSum val i) tA] c, slots := #[] } →
    (∀ s' t', Moved (S :: wr) G s s' → R (.ok (.ret (.int (c0 + preSum val n) t'))) s') → codeAny (model prog w) A (.builtin "sum.loop" ⟨[.ref I, .ref S, rawInt 0, rawInt 0], []⟩) R s := by
  have hSw : S ∉ wr := fun h => hSf (W.sub _ h)
  have hsub : ∀ b ∈ wr, b ∈ S :: wr := fun b hb => List.mem_cons_of_mem _ hb
  intro k
  induction k with
  | zero =>
    intro i s tA c hk hi hst hS hR
    have hin : i = n := by omega
    subst hin
    refine codeAny_builtin PySem.F.entry_sum_loop ?_
    rw [Around.under_plainId PySem.F.plain_sum_loop _]
    show wpAny _ A.in1 (seqItems? (.ref S) >>= _) _ _ s
    refine wpAny_bind (wpAny_seqItems hS rfl ?_)
    show wpAny _ A.in1 (tryCatch (pyNext (.ref I)) _ >>= _) _ _ s
    refine wpAny_bind (wpAny_tryCatch (W.done s _ _ hst fun s' hm => ?_))
    exact wpAny_pure (hR s' tA (hm.mono hsub))
  | succ k ih =>
    intro i s tA c hk hi hst hS hR
    have hlt : i < n := by omega
    refine codeAny_builtin PySem.F.entry_sum_loop ?_
    rw [Around.under_plainId PySem.F.plain_sum_loop _]
    show wpAny _ A.in1 (seqItems? (.ref S) >>= _) _ _ s
    refine wpAny_bind (wpAny_seqItems hS rfl ?_)
    show wpAny _ A.in1 (tryCatch (pyNext (.ref I)) _ >>= _) _ _ s
    refine wpAny_bind (wpAny_tryCatch (W.item i s _ _ hlt hst fun v s' hP hst' hm => ?_))
    obtain ⟨t, rfl⟩ := hval i v hP
    have hS' := hm.heap S _ hSw hS
    obtain ⟨⟨f1, f2⟩, f3, f4⟩ := hfit i hlt
    have hc : ((decide (-(2 ^ 63) ≤ val i) && decide (val i < 2 ^ 63)) && (decide (-(2 ^ 63) ≤ c0 + preSum val i + val i) && decide (c0 + preSum val i + val i < 2 ^ 63))) = true := by
      simp only [preSum] at f3 f4
      simp only [Bool.and_eq_true, decide_eq_true_eq]
      refine ⟨⟨f1, f2⟩, ?_, ?_⟩ <;> omega
    show wpAny _ A.in1 (if (_ : Bool) = true then (mkInt (c0 + preSum val i + val i) >>= _) else _) _ _ _
    split
    · refine wpAny_bind (wpAny_mkInt ?_)
      show wpAny _ A.in1 (updateSeq S (fun _ => #[.int (c0 + preSum val i + val i) s'.toks]) >>= _) _ _ _
      refine wpAny_bind ?_
      refine wpAny_updateSeq hS' rfl (wpAny_pure ⟨plainId_quiet PySem.F.plain_sum_loop _, ih (i + 1) _ s'.toks _ (by omega) hlt (W.frame _ s' _ _ hst' (by first | exact Nat.le_refl _ | exact Nat.le_succ _ | omega) fun b hb o e => ?_) ((Heap.get?_update_self _ hS' rfl).trans (by simp only [preSum, Int.add_assoc]; rfl)) fun s'' t'' hm'' => ?_⟩)
      · exact (Heap.get?_update_other _ _ (fun h : S = b => hSf (by rw [h]; exact hb))).trans e
      · refine hR s'' t'' (Moved.trans W.gtrans ((hm.mono hsub).then_heap (by first | exact Nat.le_refl _ | exact Nat.le_succ _ | omega) fun b o hb e => ?_) hm'')
        exact (Heap.get?_update_other _ _ (fun h : S = b => hb (by rw [h]; exact List.mem_cons_self))).trans e
    · rename_i hneg
      exact absurd hc hneg
theorem args_sum2 (a b : Value) : argsOk "sum" ⟨[a, b], []⟩ := by unfold argsOk; kernel_rfl
theorem sum_startC {E : Value → Shared → Prop} {s : Shared} {x : Value} {c0 : Int} {t0 : Tok} {Q : Value → Shared → Prop} (hc0 : InLong c0)
    (h : wpAny (model prog w) A.in1 (pyIter x) (fun it s₂ => ∃ I fp wr G n P St val, it = .ref I ∧ WalksS prog w A.in1 I fp wr G n P St ∧ St 0 s₂ ∧ (∀ b ∈ fp, b < s₂.heap.objs.size) ∧
      (∀ i v, P i v → ∃ t, v = .int (val i) t) ∧ (∀ j, j < n → InLong (val j) ∧ InLong (c0 + preSum val (j + 1))) ∧
      ∀ s' t', Moved wr G s₂ s' → Q (.int (c0 + preSum val n) t') s') E s) :
    wpAny (model prog w) A (call (.builtin "sum") [x, .int c0 t0]) Q E s := by
  refine call_function_tree PySem.F.kind_sum PySem.F.plain_sum PySem.F.entry_sum (args_sum2 _ _) ?_
  unfold Builtin.«sum»
  simp only [List.length_cons, List.length_nil]
  rw [if_neg (by decide)]
  refine wpAny_bind (wpAny_of_eq (show Builtin.Builtins.bindParams "sum" ["start"] 0 ⟨[.int c0 t0], []⟩ = pure [some (.int c0 t0)] from rfl) ?_)
  refine wpAny_bind (wpAny_mono h (fun it s₂ h₂ => ?_) fun _ _ e => e)
  obtain ⟨I, fp, wr, G, n, P, St, val, rfl, W, hst, hfp, hval, hfit, hQ⟩ := h₂
  have hfl : (decide (-(2 ^ 63) ≤ c0) && decide (c0 < 2 ^ 63)) = true := by
    obtain ⟨h1, h2⟩ := hc0
    simp only [Bool.and_eq_true, decide_eq_true_eq]
    exact ⟨h1, h2⟩
  dsimp only
  split
  rotate_left
  · rename_i hneg
    exact absurd hfl hneg
  refine wpAny_bind (wpAny_rule (wpAny_bind (wpAny_mkInt ?_)))
  refine wpAny_bind (wpAny_pure ?_)
  simp only [List.forIn_cons, List.forIn_nil]
  refine wpAny_bind (wpAny_bind (wpAny_bind (wpAny_isInstance (T := "int") (b := false) (typeIs_int _ _ _) PySem.sub_int_str ?_)))
  simp only [Bool.false_eq_true, if_false]
  refine wpAny_pure (wpAny_bind (wpAny_bind (wpAny_isInstance (T := "int") (b := false) (typeIs_int _ _ _) sub_int_bytes ?_)))
  simp only [Bool.false_eq_true, if_false]
  refine wpAny_pure (wpAny_bind (wpAny_bind (wpAny_isInstance (T := "int") (b := false) (typeIs_int _ _ _) sub_int_bytearray ?_)))
  simp only [Bool.false_eq_true, if_false]
  refine wpAny_pure (wpAny_pure ?_)
  refine wpAny_bind (wpAny_newObj_type ?_)
  have hSf : s₂.heap.objs.size ∉ fp := fun hm => Nat.lt_irrefl _ (hfp _ hm)
  refine wpAny_pure ⟨plainId_quiet PySem.F.plain_sum_loop _, sum_loopC W val c0 hval hfit s₂.heap.objs.size hSf n 0 _ s₂.toks 0 rfl (Nat.zero_le _)
    (W.frame 0 s₂ _ _ hst (by first | exact Nat.le_refl _ | exact Nat.le_succ _ | omega) fun b _ o e => Heap.get?_push_of_some _ e) ((Heap.get?_push_size _ rfl).trans (by simp only [preSum, Int.add_zero])) fun s' t' hm => ?_⟩
  exact hQ s' t' (hm.drop_new (by first | exact Nat.le_refl _ | exact Nat.le_succ _ | omega))
end
end Mine
end

section
-- Gen2B
example : True := by w_top off; trivial
open PySem PySem.W PyProof.Rows PySem.Calls PySem.Spec
set_option maxRecDepth 100000
namespace Mine
noncomputable def Each (n : Nat) (F : Nat → Value → Prop) : Nat → Value → Prop := fun j y => ∃ i, (List.range n)[j]? = some i ∧ F i y
theorem Each.get {n : Nat} {F : Nat → Value → Prop} {j : Nat} {y : Value} (h : Each n F j y) : F j y := by
  obtain ⟨i, e, h⟩ := h
  obtain ⟨h1, h2⟩ := List.getElem?_eq_some_iff.mp e
  simp at h2
  exact h2 ▸ h
theorem passing_from (n : Nat) : ∀ k i, n - i = k → i ≤ n → passing (fun _ => true) n i = List.range' i k
  | 0, i, e, h => by
    have : i = n := by omega
    subst this
    rw [passing_end]; rfl
  | k + 1, i, e, h => by
    rw [passing_true (by omega) rfl, passing_from n k (i + 1) (by omega) (by omega)]
    rfl
theorem passing_all (n : Nat) : passing (fun _ => true) n 0 = List.range n := by rw [passing_from n n 0 (by omega) (by omega), List.range_eq_range']
section
variable {w : World} {p : Program} {loose : List Str} {mean : ExcName → Option Value} {mg mb : Str → Option Value} {G : Heap} {A : Around} {E : Value → Shared → Prop} {s : Shared} {x d : Addr} {ps : Array Value} {n : Nat}
/-- a generator over the pairs of an accumulator is made; the table of its code may grow -/
theorem gen_acc {env : Env} {elt iter : Expr} {xa xb : Str} {pa pb pt : Pos} {kt : Nat} {scope : Scope} {cl : List (Str × Addr)} {pos : Pos} {Q : Value → Shared → Prop} {c P : Addr} {tb : Array Value} {Ts : Nat → Addr} {va vb : Nat → Value} {F : Nat → Value → Prop}
    (T : Top p loose mean mg mb G) (S : G.StaysIn s.heap) (hglob : env.globals = mainGlobals) (hcode : env.code = .ref c) (hcd : CodeHd s.heap c P) (hP : s.heap.get? P = some (tabObj tb)) (htr : TriplesOk tb.toList) (hPG : G.get? P = none) (hbare : AllBare s.gens)
    (X : (hd.heap_1 w.params).In s.heap) (hx : s.heap.get? x = some (acObj d ps n)) (hself : ∀ (Q : Value → Shared → Prop), Q (.ref x) s → wpAny (model Challenge.rw_oc0165_02.row.prog w) A (eval iter env) Q E s)
    (hit : ∀ j, j < ps.size → ps[j]? = some (.ref (Ts j))) (htup : ∀ j, j < ps.size → s.heap.IsTuple (Ts j) #[va j, vb j])
    (hh : A.handled = none) (hco : scope.isCoroutine = false) (hclos : closureFor scope env = pure cl) (hcell : ∀ y ∈ scope.names, y.2 ≠ .cell) (h0 : scope.names.lookup (".0" : Str) = some NameKind.local)
    (hxa : scope.names.lookup xa = some .local) (hxb : scope.names.lookup xb = some .local) (hab : xa ≠ xb) (hkind : scope.kind = .function) (hroom : A.depth < recursionLimit)
    (hq : ∀ (code : Value) (h₃ href : Heap), (∀ b o, b ≠ P → s.heap.get? b = some o → h₃.get? b = some o) → s.heap.objs.size < h₃.objs.size → (∀ b o, h₃.get? b = some o → href.get? b = some o) →
      QuietGenT Challenge.rw_oc0165_02.row.prog w (genEnv scope cl h₃.objs.size code builtinsNs env) xa xb [] elt (List.range h₃.objs.size) [s.heap.objs.size] (fun i v => v = #[va i, vb i]) (fun _ => true) F href)
    (hQ : ∀ a tb' s₅ fp wr g St, TriplesOk tb'.toList → s₅.heap.get? P = some (tabObj tb') → (∀ b o, b ≠ P → s.heap.get? b = some o → s₅.heap.get? b = some o) → AllBare s₅.gens → s₅.drawn = s.drawn → s₅.os = s.os →
      WalksS Challenge.rw_oc0165_02.row.prog w A.in4 a fp wr (GenOnlyQ g) ps.size (Each ps.size F) St → St 0 s₅ → (∀ i s', St i s' → s'.TypeIs (.ref a) "generator") → a ∈ fp → (∀ b ∈ fp, b < s₅.heap.objs.size) → (∀ b ∈ wr, s.heap.objs.size ≤ b) → Q (.ref a) s₅)
    (hs : ∀ x, genFold iter env x = pure x) :
    wpAny (model Challenge.rw_oc0165_02.row.prog w) A (eval (.GeneratorExp elt [⟨.Tuple [.Name xa pa, .Name xb pb] kt pt, iter, [], 0⟩] scope pos) env) Q E s := by
  obtain ⟨hp, gs, dr, tk, os⟩ := s
  have hxlt := Heap.lt_size hx
  have hPlt := Heap.lt_size hP
  have k1 : ∀ b o, hp.get? b = some o → (hp.push { cls := .type "list_iterator", data := .fields #[.ref x, .int 0 0] }).get? b = some o := fun b o e => Heap.get?_push_of_some _ e
  obtain ⟨bm, ob, hbm, hne0, hbo, hcls, hdict, hdata⟩ := T.bmain
  refine wpAny_GeneratorExp_walksQT hh hco hclos hcell h0 hxa hxb hab hkind hroom (hself _ (ac_iter X hx ⟨(T.nolimit.keeps S).push _, ?_⟩)) hs
  -- what follows, with the code at hand
  have fin : ∀ (code : Value) (h₃ : Heap) (tk₃ : Nat) (tb' : Array Value), TriplesOk tb'.toList → h₃.get? P = some (tabObj tb') → (∀ b o, b ≠ P → (hp.push { cls := .type "list_iterator", data := .fields #[.ref x, .int 0 0] }).get? b = some o → h₃.get? b = some o) → hp.objs.size < h₃.objs.size →
      wpAny (model Challenge.rw_oc0165_02.row.prog w) A (builtinsFor env.globals env.builtins) (fun bi s₄ =>
        ∃ I fp wr n₀ Pt St₀ Mid pz F, Value.ref hp.objs.size = .ref I ∧ (∀ A' : Around, A'.handled = none → WalksU Challenge.rw_oc0165_02.row.prog w A' I fp wr n₀ Pt St₀ Mid) ∧ (∀ i vals, Pt i vals → ∃ va vb, vals = #[va, vb]) ∧ St₀ 0 s₄.heap ∧ (∀ b ∈ fp, b < s₄.heap.objs.size) ∧ s₄.heap.NoLimit ∧ cStatics ∉ wr ∧
          (∀ href : Heap, (∀ b o, s₄.heap.get? b = some o → href.get? b = some o) →
            QuietGenT Challenge.rw_oc0165_02.row.prog w (genEnv scope cl s₄.heap.objs.size code bi env) xa xb [] elt (List.range s₄.heap.objs.size) wr Pt pz F href) ∧
          (∀ a h₅ tk gs, gs.bare = true → s₄.heap.objs.size < a → h₅.objs.size = a + 1 → (∀ b o, s₄.heap.get? b = some o → h₅.get? b = some o) →
            WalksS Challenge.rw_oc0165_02.row.prog w A.in4 a (a :: s₄.heap.objs.size :: List.range s₄.heap.objs.size) (s₄.heap.objs.size :: wr) (GenOnlyQ s₄.gens.size) (passing pz n₀ 0).length
              (fun j y => ∃ i, (passing pz n₀ 0)[j]? = some i ∧ F i y) (GenAt Challenge.rw_oc0165_02.row.prog w A.in4 a s₄.gens.size s₄.heap.objs.size (List.range s₄.heap.objs.size) wr pz n₀ F) →
            GenAt Challenge.rw_oc0165_02.row.prog w A.in4 a s₄.gens.size s₄.heap.objs.size (List.range s₄.heap.objs.size) wr pz n₀ F 0 { s₄ with gens := s₄.gens.push gs, toks := tk, heap := h₅ } →
            Q (.ref a) { s₄ with gens := s₄.gens.push gs, toks := tk, heap := h₅ })) E ⟨h₃, gs, dr, tk₃, os⟩ := by
    intro code h₃ tk₃ tb' htr' hP₃ hk₃ hlt₃
    have hk0 : ∀ b o, b ≠ P → hp.get? b = some o → h₃.get? b = some o := fun b o hb e => hk₃ b o hb (k1 b o e)
    have hGP : ∀ b o, G.get? b = some o → b ≠ P := fun b o e h => by rw [h, hPG] at e; cases e
    have S₃ : G.StaysIn h₃ := fun b o e => hk0 b o (hGP b o e) (S b o e)
    have hl₃ : h₃.NoLimit := T.nolimit.keeps S₃
    rw [hglob]
    refine wpAny_builtinsFor (T.g.keeps S₃) hbm hne0 (S₃ _ _ hbo) hcls hdict hdata ?_
    have hxP : x ≠ P := by rintro rfl; rw [hx] at hP; cases hP
    have hTP : ∀ j, j < ps.size → Ts j ≠ P := fun j hj e => by
      obtain ⟨o, ho, hc, _⟩ := htup j hj
      rw [e, hP] at ho; cases ho; cases hc
    have hTlt : ∀ j, j < ps.size → Ts j < hp.objs.size := fun j hj => by
      obtain ⟨o, ho, _⟩ := htup j hj
      exact Heap.lt_size ho
    have hIP : hp.objs.size ≠ P := Nat.ne_of_gt hPlt
    have hcs : cStatics < hp.objs.size := by
      obtain ⟨_, hn, _⟩ := T.nolimit.keeps S
      exact hn.lt
    refine ⟨hp.objs.size, _, _, ps.size, (fun j v => v = #[va j, vb j]), _, _, (fun _ => true), F, rfl, fun A' hA => walksU_seq hA hp.objs.size x (Nat.ne_of_lt hxlt) ps Ts (fun j => #[va j, vb j]) hit (fun j hj => Nat.ne_of_lt (hTlt j hj)), (fun i vals h => ⟨_, _, h⟩),
      ⟨⟨_, hk₃ _ _ hIP (Heap.get?_push_size _ rfl), rfl, rfl⟩, ⟨_, hk0 _ _ hxP hx, _, rfl⟩, fun j hj => (htup j hj).at fun o e => hk0 _ _ (hTP j hj) e⟩, ?_, hl₃, ?_, fun href hr => hq code h₃ href hk0 hlt₃ hr, fun a h₅ tk gs' hgb hag hsz₅ hk₅ W hat => ?_⟩
    · intro b hb
      show b < h₃.objs.size
      rcases List.mem_cons.mp hb with rfl | hb
      · exact hlt₃
      · rcases List.mem_cons.mp hb with rfl | hb
        · exact Nat.lt_trans hxlt hlt₃
        · obtain ⟨j, hj, rfl⟩ := List.mem_map.mp hb
          exact Nat.lt_trans (hTlt j (List.mem_range.mp hj)) hlt₃
    · intro hm
      rcases List.mem_cons.mp hm with e | hm
      · exact absurd hcs (by rw [e]; exact Nat.lt_irrefl _)
      · cases hm
    · have hW : WalksS Challenge.rw_oc0165_02.row.prog w A.in4 a (a :: h₃.objs.size :: List.range h₃.objs.size) (h₃.objs.size :: [hp.objs.size]) (GenOnlyQ gs.size) ps.size (Each ps.size F) (GenAt Challenge.rw_oc0165_02.row.prog w A.in4 a gs.size h₃.objs.size (List.range h₃.objs.size) [hp.objs.size] (fun _ => true) ps.size F) := by
        have := W
        rw [passing_all, List.length_range] at this
        exact this
      refine hQ a tb' _ _ _ _ _ htr' (hk₅ _ _ hP₃) (fun b o hb e => hk₅ _ _ (hk0 b o hb e)) (hbare.push hgb) rfl rfl hW hat (fun i s' st => st.1.typeIs) List.mem_cons_self ?_ ?_
      · intro b hb
        show b < h₅.objs.size
        rw [hsz₅]
        rcases List.mem_cons.mp hb with rfl | hb
        · exact Nat.lt_succ_self _
        · rcases List.mem_cons.mp hb with rfl | hb
          · exact Nat.lt_succ_of_lt hag
          · exact Nat.lt_succ_of_lt (Nat.lt_trans (List.mem_range.mp hb) hag)
      · intro b hb
        rcases List.mem_cons.mp hb with rfl | hb
        · exact Nat.le_of_lt hlt₃
        · rcases List.mem_cons.mp hb with rfl | hb
          · exact Nat.le_refl _
          · cases hb
  have hcd1 := (hcd.code hP htr).push { cls := .type "list_iterator", data := .fields #[.ref x, .int 0 0] }
  have htab1 := (hcd.tab hP).push { cls := .type "list_iterator", data := .fields #[.ref x, .int 0 0] }
  have hsz1 : hp.objs.size < (hp.push { cls := .type "list_iterator", data := .fields #[.ref x, .int 0 0] }).objs.size := by rw [Heap.size_push]; exact Nat.lt_succ_self _
  cases hf : codeAmong pos tb.toList with
  | none =>
    refine wpAny_genexprCodeX hcode hcd1 htab1 hf fun c' h₃ tk₃ hx₃ hge hlt hcode₃ _ htab₃ _ => ?_
    obtain ⟨_, _, _, _, _, _, _, _, _, _, _, _, _, _, _, _, _, e1, e2, htr', _⟩ := hcode₃
    refine fin (.ref c') h₃ tk₃ _ htr' htab₃.2 (fun b o hb e => hx₃ b o hb e) ?_
    exact Nat.lt_of_lt_of_le hsz1 (Nat.le_trans hge (Nat.le_of_lt hlt))
  | some c' =>
    exact wpAny_genexprCode_hit hcode hcd1 hf (fin c' _ _ tb htr (k1 _ _ hP) (fun b o _ e => e) hsz1)
end
end Mine
end

section
-- EltB
example : True := by w_top off; trivial
open PySem PySem.W PyProof.Rows PySem.Calls PySem.Spec
set_option maxRecDepth 100000
namespace Mine
section
variable {prog : Program} {w : World} {A : Around} {E : Value → Shared → Prop} {s : Shared} {env : Env} {mg mb m : Str → Option Value}
theorem eval_local {x : Str} {pos : Pos} {v : Value} {Q : Value → Shared → Prop} (hk : env.scope.kind = .function) (hl : env.kindOf x = some .local) (hn : s.heap.Ns env.locals m) (hv : m x = some v) (hd : (x == ("__debug__" : Str)) = false) (h : Q v s) :
    wpAny (model prog w) A (eval (.Name x pos) env) Q E s := wpAny_Name (wpAny_loadName_local hk hl hn hv h) hd
theorem eval_len {xa : Str} {p0 p1 pos : Pos} {a : Str} {ta : Tok} {Q : Value → Shared → Prop} (hk : env.scope.kind = .function) (hx : env.kindOf "len" = some .globalImplicit) (hg : s.heap.Ns env.globals mg) (hmiss : mg "len" = none) (hb : s.heap.Ns env.builtins mb) (hv : mb "len" = some (.builtin "len"))
    (hl : env.kindOf xa = some .local) (hn : s.heap.Ns env.locals m) (hm : m xa = some (.str a ta)) (hd : (xa == ("__debug__" : Str)) = false) (hz : a.length ≤ 1000) (h : ∀ t tk, Q (.int (a.length : Nat) t) { s with toks := tk }) :
    wpAny (model prog w) A (eval (.Call (.Name "len" p0) [.Name xa p1] [] pos) env) Q E s := by
  show wpAny _ A (do callWith pos (← eval (.Name "len" p0) env) [] (backTo pos (starEach [.Name xa p1] env)) (backToKw pos (keywordEach [] env))) Q E s
  refine wpAny_bind (Calls.Name_function_global hk hx (Calls.loadGlobal_builtin hg hmiss hb hv ?_) (by decide))
  rw [show backTo pos (starEach [.Name xa p1] env) = [(false, eval (.Name xa p1) env)] from rfl]
  refine Calls.callWith_builtin rfl (Calls.evalArgs_plain (Calls.spliced_cons (eval_local hk hl hn hm hd (Calls.spliced_nil ?_))))
  exact PyProof.Rows.len_str (by (first | lia | omega)) (h _ _)
theorem elt_len {xa xb : Str} {p0 p1 p2 p3 p4 p5 pos : Pos} {a b : Str} {ta tb : Tok} (hk : env.scope.kind = .function) (hx : env.kindOf "len" = some .globalImplicit) (hg : s.heap.Ns env.globals mg) (hmiss : mg "len" = none) (hb : s.heap.Ns env.builtins mb) (hv : mb "len" = some (.builtin "len"))
    (hla : env.kindOf xa = some .local) (hlb : env.kindOf xb = some .local) (hn : s.heap.Ns env.locals m) (hma : m xa = some (.str a ta)) (hmb : m xb = some (.str b tb)) (hda : (xa == ("__debug__" : Str)) = false) (hdb : (xb == ("__debug__" : Str)) = false) (hza : a.length ≤ 1000) (hzb : b.length ≤ 1000) :
    wpAny (model prog w) A (eval (.BinOp (.Call (.Name "len" p0) [.Name xa p1] [] p2) .Add (.Call (.Name "len" p3) [.Name xb p4] [] p5) pos) env) (fun y s₃ => (∃ t, y = .int ((a.length : Nat) + (b.length : Nat)) t) ∧ Keeps s s₃) E s := by
  refine wpAny_BinOp (eval_len hk hx hg hmiss hb hv hla hn hma hda hza fun t1 k1 => eval_len (s := { s with toks := k1 }) hk hx hg hmiss hb hv hlb hn hmb hdb hzb fun t2 k2 => PyProof.Rows.add_int ?_)
  exact ⟨⟨_, rfl⟩, _, _, rfl, fun _ _ e => e⟩
theorem elt_join {p0 p2 p3 p4 pos : Pos} {pl : Sem Bool} {k : Nat} {a b e : Str} {ta tb te : Tok} (hk : env.scope.kind = .function) (hx : env.kindOf "EMPTYSTRING" = some .globalImplicit) (hg : s.heap.Ns env.globals mg) (hhit : mg "EMPTYSTRING" = some (.str e te))
    (hla : env.kindOf "fws" = some .local) (hlb : env.kindOf "part" = some .local) (hn : s.heap.Ns env.locals m) (hma : m "fws" = some (.str a ta)) (hmb : m "part" = some (.str b tb)) (hza : a.length ≤ 1000) (hzb : b.length ≤ 1000) (hze : e.length ≤ 1000) :
    wpAny (model prog w) A (eval (.Name "EMPTYSTRING" p0) env) (fun ov s₁ => wpAny (model prog w) A (getMethod ov "join" pl) (fun fx s₂ => wpAny (model prog w) A (callWith pos fx.1 fx.2 (backTo pos (starEach [.Tuple [.Name "fws" p2, .Name "part" p3] k p4] env)) []) (fun y s₃ => (∃ t, y = .str (Txt.join e [a, b]) t) ∧ Keeps s s₃) E s₂) E s₁) E s := by
  refine Calls.Name_function_global hk hx (Calls.loadGlobal_global hg hhit ?_) (by decide)
  refine PySem.GM.join ?_
  show wpAny _ A (callWith pos (.builtin "str.join") [.str e te] [(false, eval (.Tuple [.Name "fws" p2, .Name "part" p3] k p4) env)] []) _ _ _
  refine Calls.callWith_builtin rfl (Calls.evalArgs_plain (Calls.spliced_cons (wpAny_Tuple ?_)))
  show wpAny _ A (spliced [(false, eval (.Name "fws" p2) env), (false, eval (.Name "part" p3) env)]) _ _ _
  refine Calls.spliced_cons (eval_local hk hla hn hma (by decide) (Calls.spliced_cons (eval_local hk hlb hn hmb (by decide) (Calls.spliced_nil ⟨by size_fits, Calls.spliced_nil ?_⟩))))
  refine PyProof.Rows.join_tuple (ys := [a, b]) (items := #[.str a ta, .str b tb]) ⟨_, Heap.get?_push_size _ rfl, rfl, _, rfl⟩ (.cons _ _ (.cons _ _ .nil)) (by simp; (first | lia | omega)) fun t' k' => ?_
  exact ⟨⟨_, rfl⟩, _, _, rfl, fun b o e => Heap.get?_push_of_some _ e⟩
end
end Mine
end

section
-- LenB
example : True := by w_top off; trivial
open PySem PySem.W PyProof.Rows PySem.Calls PySem.Spec
set_option maxRecDepth 100000
namespace Mine
theorem preSum_small {fa fb : Nat → Str} (h : ∀ j, (fa j).length ≤ 1000 ∧ (fb j).length ≤ 1000) : ∀ k : Nat, 0 ≤ preSum (fun j => ((fa j).length : Nat) + ((fb j).length : Nat)) k ∧ preSum (fun j => ((fa j).length : Nat) + ((fb j).length : Nat)) k ≤ 2000 * k
  | 0 => by simp [preSum]
  | k + 1 => by
    have i := preSum_small h k
    have j := h k
    simp only [preSum]
    (first | lia | omega)
noncomputable def chkCode (P : Addr) (o : Obj) : Bool := match o.cls, o.data with
  | .type T, .fields vs => T == "code" && (match (vs[11]? : Option Value), vs.getD 11 .none, vs.getD 18 .none, vs.getD 7 .none, vs.getD 9 .none, vs.getD 10 .none with | some (.ref a), .ref b, .str _ _, .int _ _, .bool _, .int _ _ => a == P && b == P | _, _, _, _, _, _ => false)
  | _, _ => false
theorem codeHd_in {K : Frag} {h : Heap} {c P : Addr} (X : K.In h) (e : (K.lookup c).any (chkCode P) = true) (hne : c ≠ P) : CodeHd h c P := by
  cases q : K.lookup c with
  | none => rw [q] at e; cases e
  | some o =>
    rw [q] at e
    replace e : chkCode P o = true := e
    have ho := X _ _ q
    obtain ⟨cl, dd, dat, sl⟩ := o
    unfold chkCode at e
    split at e
    · rename_i T vs h1 h2
      dsimp only at h1 h2
      subst h1 h2
      obtain ⟨e1, e2⟩ := Bool.and_eq_true_iff.mp e
      have e1' : T = "code" := by simpa using e1
      subst e1'
      split at e2
      · rename_i a b f tf fl tg inF tx tt q1 q2 q3 q4 q5 q6
        obtain ⟨e3, e4⟩ := Bool.and_eq_true_iff.mp e2
        have e3' : a = P := by simpa using e3
        have e4' : b = P := by simpa using e4
        subst e3' e4'
        exact ⟨_, vs, _, _, _, _, _, _, _, ho, rfl, rfl, q1, q2, q3, q4, q5, q6, hne⟩
      · cases e2
    · cases e
section
variable {w : World} {A : Around} {E : Value → Shared → Prop} {s : Shared} {g : Heap} {L x d : Addr} {m : Str → Option Value} {nw nw' : List (Addr × Obj)} {ps : Array Value} {n : Nat}
theorem m_getattr {hs0 : Int} {t0 : Tok} {v0 : Value} {n0 : Nat} {expr : Bool} {Q : Value → Shared → Prop} (F : Fr g L s.heap m) (N : News g L s.heap nw) (X : (hd.heap_1 w.params).In g) (hx : (x, acObj d ps n) ∈ nw ∨ g.get? x = some (acObj d ps n)) (hd' : (d, acDict hs0 t0 v0 n0) ∈ nw ∨ g.get? d = some (acDict hs0 t0 v0 n0)) (hh : handedIn v0 = true)
    (h : Q v0 { s with toks := s.toks + 1 }) : wpAny (model Challenge.rw_oc0165_02.row.prog w) A (getAttr (.ref x) "_initial_size" expr) Q E s :=
  ac_getattr (X.keeps F.keep) (at_of F N hx) (at_of F N hd') (by kernel_rfl) hh h
end
section
variable {w : World} {p : Program} {loose : List Str} {mean : ExcName → Option Value} {mg mb : Str → Option Value} {G : Heap} {s : Shared} {Q E : Value → Shared → Prop}
set_option maxHeartbeats 1000000
theorem c_len {x d : Addr} {ps : Array Value} {n : Nat} {hs0 : Int} {t0 : Tok} {i0 : Int} {ti : Tok} {n0 : Nat} {tb : Array Value} {Ts : Nat → Addr} {fa fb : Nat → Str} {ta tb2 : Nat → Tok}
    (D : Gd w p loose mean mg mb G) (St : G.StaysIn s.heap) (hx : s.heap.get? x = some (acObj d ps n)) (hd' : s.heap.get? d = some (acDict hs0 t0 (.int i0 ti) n0))
    (hP : s.heap.get? 140 = some (tabObj tb)) (htr : TriplesOk tb.toList) (hPG : G.get? 140 = none) (hbare : AllBare s.gens)
    (hit : ∀ j, j < ps.size → ps[j]? = some (.ref (Ts j))) (htup : ∀ j, j < ps.size → s.heap.IsTuple (Ts j) #[.str (fa j) (ta j), .str (fb j) (tb2 j)])
    (hz : ps.size ≤ 1000) (hi0 : -1000 ≤ i0) (hi1 : i0 ≤ 1000) (hfl : ∀ j, (fa j).length ≤ 1000 ∧ (fb j).length ≤ 1000)
    (hret : ∀ s' t' tb', (∀ b o, s.heap.get? b = some o → b ≠ 140 → s'.heap.get? b = some o) → s'.heap.get? 140 = some (tabObj tb') → TriplesOk tb'.toList → AllBare s'.gens → s'.drawn = s.drawn → s'.os = s.os → Q (.int (i0 + preSum (fun j => ((fa j).length : Nat) + ((fb j).length : Nat)) ps.size) t') s') :
    wpAny (model Challenge.rw_oc0165_02.row.prog w) (Am 800 600) (call (.ref 145) [.ref x]) Q E s := by
  have fill : (hd.heap_1 w.params).In G := D.X
  revert fill
  k_fill
  intro _
  refine wpAny_call ?_
  refine' enterP (binds := [("self", .ref x)]) [(140, tabObj tb)] D St ?k3 ?k4 ?k6 ?k7 ?k8 ?k9 ?kB ?c5 ?c2 ?c3 ?c4 ?_
  case k3 => exact all_cons (hP) all_nil
  case k4 => exact all_cons (hPG) all_nil
  (((case k6 => k_is); (case k7 => k_is); (case k8 => decide)))
  case k9 => exact BindsTo.of_eq rfl
  (((case kB => exact locs rfl); (case c5 => decide); (case c2 => exact rfl); (case c3 => exact rfl); (case c4 => exact rfl)))
  intro g L h hg hL F N X T l1 hkeep hst
  replace hkeep : ∀ b o, s.heap.get? b = some o → b ≠ 140 → g.get? b = some o := fun b o e hb => hkeep b o e (by exact all_cons (hb.symm) all_nil)
  have hxP : x ≠ 140 := by rintro rfl; rw [hx] at hP; cases hP
  have hdP : d ≠ 140 := by rintro rfl; rw [hd'] at hP; simp at hP
  have hxg := hkeep _ _ hx hxP
  have hdg := hkeep _ _ hd' hdP
  dsimp only
  try k_fold
  (repeat' (first | (fail_if_success (with_reducible show wpAny _ _ (exec (Stmt.For _ _ _ _ _) _) _ _ _)); (first | (k_unfold; (try dsimp only)) | (first | ((with_reducible show wpAny _ _ (getAttr (Value.ref _) _ _) _ _ _); (k_here; k_dflt (refine' m_getattr ?k1 ?k2 ?k3 ?k4 ?k5 ?k6 ?_; (case k1 => k_asm); (case k2 => k_asm); (case k3 => k_asm); (case k4 => (first | exact .inr (by assumption) | exact .inl (by k_mem))); (case k5 => (first | exact .inr (by assumption) | exact .inl (by k_mem))); (case k6 => rfl)))) | walk1) | (dsimp only; (first | ((with_reducible show wpAny _ _ (getAttr (Value.ref _) _ _) _ _ _); (k_here; k_dflt (refine' m_getattr ?k1 ?k2 ?k3 ?k4 ?k5 ?k6 ?_; (case k1 => k_asm); (case k2 => k_asm); (case k3 => k_asm); (case k4 => (first | exact .inr (by assumption) | exact .inl (by k_mem))); (case k5 => (first | exact .inr (by assumption) | exact .inl (by k_mem))); (case k6 => rfl)))) | walk1)))))
  have hcd : CodeHd g 144 140 := codeHd_in X (by kernel_rfl) (by decide)
  have htupg : ∀ j, j < ps.size → g.IsTuple (Ts j) #[.str (fa j) (ta j), .str (fb j) (tb2 j)] := fun j hj => isTuple_at (htup j hj) fun o e => hkeep _ _ e (fun e2 => by
    obtain ⟨o', ho', hc', _⟩ := htup j hj
    rw [e2, hP] at ho'; cases ho'; cases hc')
  refine gen_acc (p := p) (loose := loose) (mean := mean) (mg := mg) (mb := mb) (G := G) (x := x) (d := d) (ps := ps) (n := n) (c := 144) (P := 140) (tb := tb) (Ts := Ts) (va := fun j => .str (fa j) (ta j)) (vb := fun j => .str (fb j) (tb2 j)) (cl := [])
    (F := fun j v => ∃ t, v = .int (((fa j).length : Nat) + ((fb j).length : Nat)) t) D.T (stays_fr F hst) rfl rfl (hcd.keeps F.keep) (N _ (.head _)).1 htr hPG hbare (X.keeps F.keep) (F.keep _ _ hxg) ?_ hit (fun j hj => isTuple_at (htupg j hj) fun o e => F.keep _ _ e) rfl rfl rfl (by decide) rfl rfl rfl (by decide) rfl (by decide) ?_ ?_ (fun _ => rfl)
  · intro Q' q
    walk1
    exact q
  · intro code h₃ href hk₃ hlt₃ hk₄
    refine ⟨fun A' E' i va vb s₂ m₂ _ _ _ _ _ _ => wpAny_pure ⟨rfl, _, _, rfl, fun _ _ e => e⟩, fun A' E' i va vb s₂ m₂ hA hv _ hn hm1 hm2 hk5 => ?_⟩
    replace hk5 : ∀ b o, g.get? b = some o → s₂.heap.get? b = some o := by
      intro b o e
      have e1 := F.keep b o e
      have hb : b ≠ 140 := by rintro rfl; rw [(N _ (.head _)).2.2] at e; cases e
      have e2 := hk₃ b o hb e1
      refine hk5 b (List.mem_range.mpr (Heap.lt_size e2)) (fun hm => ?_) o (hk₄ _ _ e2)
      rcases List.mem_cons.mp hm with e3 | hm
      · exact absurd (Heap.lt_size e1) (by rw [e3]; exact Nat.lt_irrefl _)
      · cases hm
    have hvv := hv
    simp only [Array.mk.injEq, List.cons.injEq, and_true] at hvv
    obtain ⟨rfl, rfl⟩ := hvv
    exact elt_len rfl rfl (T.g.keeps hk5) (mg_none_of X T.g (by k_is)) (T.b.keeps hk5) ((T.builtins _ (by decide +kernel)).trans (by first | boot_by_name | rfl | kernel_rfl)) rfl rfl hn hm1 hm2 (by decide) (by decide) (hfl i).1 (hfl i).2
  · intro a tb' s₅ fp wr g' St' htr' hP' hk' hb' hdr hos hW hst0 hty ha hfp hwr
    have hLP : L ≠ 140 := by rw [hL]; exact Nat.ne_of_gt (Heap.lt_size hP)
    have F5 : Fr g L s₅.heap _ := ⟨F.ns.at' fun o e => hk' _ _ hLP e, fun b o e => hk' b o (by rintro rfl; rw [(N _ (.head _)).2.2] at e; cases e) (F.keep b o e), F.above⟩
    have N5 : News g L s₅.heap [(140, tabObj tb')] := by
      refine all_cons ?_ all_nil
      · exact ⟨hP', (N _ (.head _)).2⟩
    have hsub : s.heap.objs.size ≤ h.objs.size := by
      rw [← hL]; exact Nat.le_of_lt F.ns.lt
    have hkk : ∀ b o, s.heap.get? b = some o → b ≠ 140 → h.get? b = some o := fun b o e hb => F.keep _ _ (hkeep _ _ e hb)
    clear F N
    (repeat' (first | (fail_if_success (with_reducible show wpAny _ _ (exec (Stmt.For _ _ _ _ _) _) _ _ _)); (first | (k_unfold; (try dsimp only)) | (first | ((with_reducible show wpAny _ _ (getAttr (Value.ref _) _ _) _ _ _); (k_here; k_dflt (refine' m_getattr ?k1 ?k2 ?k3 ?k4 ?k5 ?k6 ?_; (case k1 => k_asm); (case k2 => k_asm); (case k3 => k_asm); (case k4 => (first | exact .inr (by assumption) | exact .inl (by k_mem))); (case k5 => (first | exact .inr (by assumption) | exact .inl (by k_mem))); (case k6 => rfl)))) | walk1) | (dsimp only; (first | ((with_reducible show wpAny _ _ (getAttr (Value.ref _) _ _) _ _ _); (k_here; k_dflt (refine' m_getattr ?k1 ?k2 ?k3 ?k4 ?k5 ?k6 ?_; (case k1 => k_asm); (case k2 => k_asm); (case k3 => k_asm); (case k4 => (first | exact .inr (by assumption) | exact .inl (by k_mem))); (case k5 => (first | exact .inr (by assumption) | exact .inl (by k_mem))); (case k6 => rfl)))) | walk1)))))
    have W1 := hW.in4_1
    have st1 := hW.frame 0 s₅ s₅.heap (s₅.toks + 1) hst0 (Nat.le_succ _) (fun _ _ _ e => e)
    have hwn : ∀ b o, h.get? b = some o → b ∉ wr := fun b o e hm => absurd (Heap.lt_size e) (Nat.not_lt.mpr (hwr b hm))
    refine sum_startC ⟨by (first | lia | omega), by (first | lia | omega)⟩ (W1.self 0 _ _ _ st1 ⟨a, _, _, _, _, _, _, fun j => ((fa j).length : Nat) + ((fb j).length : Nat), rfl, W1, st1, hfp, fun i v hv => hv.get, ?_, fun s' t' hm => ?_⟩)
    · intro j hj
      have hs := preSum_small (fun i => ⟨(hfl i).1, (hfl i).2⟩) (j + 1)
      have h1 := hfl j
      refine ⟨⟨by show _ ≤ ((fa j).length : Int) + ((fb j).length : Int); (first | lia | omega), by show ((fa j).length : Int) + ((fb j).length : Int) < _; (first | lia | omega)⟩, by (first | lia | omega), by (first | lia | omega)⟩
    · refine hret s' t' tb' (fun b o e hb => hm.heap b o (hwn _ _ (hkk b o e hb)) (hk' _ _ hb (hkk b o e hb))) (hm.heap 140 _ ?_ hP') htr' (AllBare.movedS (s := { s₅ with toks := s₅.toks + 1 }) hb' hm) (hm.drawn.trans hdr) (hm.os.trans hos)
      intro h2
      exact absurd (Nat.lt_of_lt_of_le (Heap.lt_size hP) hsub) (Nat.not_lt.mpr (hwr _ h2))
end
end Mine
end

section
-- Str2B
example : True := by w_top off; trivial
open PySem PySem.W PyProof.Rows PySem.Calls PySem.Spec
set_option maxRecDepth 100000
namespace Mine
section
variable {w : World} {p : Program} {loose : List Str} {mean : ExcName → Option Value} {mg mb : Str → Option Value} {G : Heap} {s : Shared} {Q E : Value → Shared → Prop}
set_option maxHeartbeats 1000000
theorem c_str {x d : Addr} {ps : Array Value} {n : Nat} {hs0 : Int} {t0 : Tok} {v0 : Value} {n0 : Nat} {tb : Array Value} {Ts : Nat → Addr} {fa fb : Nat → Str} {ta tb2 : Nat → Tok}
    (D : Gd w p loose mean mg mb G) (St : G.StaysIn s.heap) (hx : s.heap.get? x = some (acObj d ps n)) (hd' : s.heap.get? d = some (acDict hs0 t0 v0 n0))
    (hP : s.heap.get? 147 = some (tabObj tb)) (htr : TriplesOk tb.toList) (hPG : G.get? 147 = none) (hbare : AllBare s.gens)
    (hit : ∀ j, j < ps.size → ps[j]? = some (.ref (Ts j))) (htup : ∀ j, j < ps.size → s.heap.IsTuple (Ts j) #[.str (fa j) (ta j), .str (fb j) (tb2 j)])
    (hz : ps.size ≤ 1000) (hfl : ∀ j, (fa j).length ≤ 1000 ∧ (fb j).length ≤ 1000)
    (hret : ∀ s' t' tb', (∀ b o, s.heap.get? b = some o → b ≠ 147 → s'.heap.get? b = some o) → s'.heap.get? 147 = some (tabObj tb') → TriplesOk tb'.toList → AllBare s'.gens → s'.drawn = s.drawn → s'.os = s.os → Q (.str (Txt.join (Str.ofString "") ((List.range ps.size).map fun j => Txt.join (Str.ofString "") [fa j, fb j])) t') s') :
    wpAny (model Challenge.rw_oc0165_02.row.prog w) (Am 800 600) (call (.ref 152) [.ref x]) Q E s := by
  have fill : (hd.heap_1 w.params).In G := D.X
  revert fill
  k_fill
  intro _
  refine wpAny_call ?_
  refine' enterP (binds := [("self", .ref x)]) [(147, tabObj tb)] D St ?k3 ?k4 ?k6 ?k7 ?k8 ?k9 ?kB ?c5 ?c2 ?c3 ?c4 ?_
  case k3 => exact all_cons (hP) all_nil
  case k4 => exact all_cons (hPG) all_nil
  (((case k6 => k_is); (case k7 => k_is); (case k8 => decide)))
  case k9 => exact BindsTo.of_eq rfl
  (((case kB => exact locs rfl); (case c5 => decide); (case c2 => exact rfl); (case c3 => exact rfl); (case c4 => exact rfl)))
  intro g L h hg hL F N X T l1 hkeep hst
  replace hkeep : ∀ b o, s.heap.get? b = some o → b ≠ 147 → g.get? b = some o := fun b o e hb => hkeep b o e (by exact all_cons (hb.symm) all_nil)
  have hxP : x ≠ 147 := by rintro rfl; rw [hx] at hP; cases hP
  have hdP : d ≠ 147 := by rintro rfl; rw [hd'] at hP; simp at hP
  have hxg := hkeep _ _ hx hxP
  have hdg := hkeep _ _ hd' hdP
  dsimp only
  try k_fold
  (repeat' (first | (fail_if_success (with_reducible show wpAny _ _ (exec (Stmt.For _ _ _ _ _) _) _ _ _)); (first | (k_unfold; (try dsimp only)) | (first | ((with_reducible show wpAny _ _ (getAttr (Value.ref _) _ _) _ _ _); (k_here; k_dflt (refine' m_getattr ?k1 ?k2 ?k3 ?k4 ?k5 ?k6 ?_; (case k1 => k_asm); (case k2 => k_asm); (case k3 => k_asm); (case k4 => (first | exact .inr (by assumption) | exact .inl (by k_mem))); (case k5 => (first | exact .inr (by assumption) | exact .inl (by k_mem))); (case k6 => rfl)))) | walk1) | (dsimp only; (first | ((with_reducible show wpAny _ _ (getAttr (Value.ref _) _ _) _ _ _); (k_here; k_dflt (refine' m_getattr ?k1 ?k2 ?k3 ?k4 ?k5 ?k6 ?_; (case k1 => k_asm); (case k2 => k_asm); (case k3 => k_asm); (case k4 => (first | exact .inr (by assumption) | exact .inl (by k_mem))); (case k5 => (first | exact .inr (by assumption) | exact .inl (by k_mem))); (case k6 => rfl)))) | walk1)))))
  have hcd : CodeHd g 151 147 := codeHd_in X (by kernel_rfl) (by decide)
  have htupg : ∀ j, j < ps.size → g.IsTuple (Ts j) #[.str (fa j) (ta j), .str (fb j) (tb2 j)] := fun j hj => isTuple_at (htup j hj) fun o e => hkeep _ _ e (fun e2 => by
    obtain ⟨o', ho', hc', _⟩ := htup j hj
    rw [e2, hP] at ho'; cases ho'; cases hc')
  refine gen_acc (p := p) (loose := loose) (mean := mean) (mg := mg) (mb := mb) (G := G) (x := x) (d := d) (ps := ps) (n := n) (c := 151) (P := 147) (tb := tb) (Ts := Ts) (va := fun j => .str (fa j) (ta j)) (vb := fun j => .str (fb j) (tb2 j)) (cl := [])
    (F := fun j v => ∃ t, v = .str (Txt.join (Str.ofString "") [fa j, fb j]) t) D.T (stays_fr F hst) rfl rfl (hcd.keeps F.keep) (N _ (.head _)).1 htr hPG hbare (X.keeps F.keep) (F.keep _ _ hxg) ?_ hit (fun j hj => isTuple_at (htupg j hj) fun o e => F.keep _ _ e) rfl rfl rfl (by decide) rfl rfl rfl (by decide) rfl (by decide) ?_ ?_ (fun _ => rfl)
  · intro Q' q
    walk1
    exact q
  · intro code h₃ href hk₃ hlt₃ hk₄
    refine ⟨fun A' E' i va vb s₂ m₂ _ _ _ _ _ _ => wpAny_pure ⟨rfl, _, _, rfl, fun _ _ e => e⟩, fun A' E' i va vb s₂ m₂ hA hv _ hn hm1 hm2 hk5 => ?_⟩
    replace hk5 : ∀ b o, g.get? b = some o → s₂.heap.get? b = some o := by
      intro b o e
      have e1 := F.keep b o e
      have hb : b ≠ 147 := by rintro rfl; rw [(N _ (.head _)).2.2] at e; cases e
      have e2 := hk₃ b o hb e1
      refine hk5 b (List.mem_range.mpr (Heap.lt_size e2)) (fun hm => ?_) o (hk₄ _ _ e2)
      rcases List.mem_cons.mp hm with e3 | hm
      · exact absurd (Heap.lt_size e1) (by rw [e3]; exact Nat.lt_irrefl _)
      · cases hm
    have hvv := hv
    simp only [Array.mk.injEq, List.cons.injEq, and_true] at hvv
    obtain ⟨rfl, rfl⟩ := hvv
    refine MethodCall_ ?_
    exact elt_join rfl rfl (T.g.keeps hk5) (mg_of X T.g (by k_is)) rfl rfl hn hm1 hm2 (hfl i).1 (hfl i).2 (by decide)
  · intro a tb' s₅ fp wr g' St' htr' hP' hk' hb' hdr hos hW hst0 hty ha hfp hwr
    have hLP : L ≠ 147 := by rw [hL]; exact Nat.ne_of_gt (Heap.lt_size hP)
    have F5 : Fr g L s₅.heap _ := ⟨F.ns.at' fun o e => hk' _ _ hLP e, fun b o e => hk' b o (by rintro rfl; rw [(N _ (.head _)).2.2] at e; cases e) (F.keep b o e), F.above⟩
    have N5 : News g L s₅.heap [(147, tabObj tb')] := by
      refine all_cons ?_ all_nil
      · exact ⟨hP', (N _ (.head _)).2⟩
    have hsub : s.heap.objs.size ≤ h.objs.size := by
      rw [← hL]; exact Nat.le_of_lt F.ns.lt
    have hkk : ∀ b o, s.heap.get? b = some o → b ≠ 147 → h.get? b = some o := fun b o e hb => F.keep _ _ (hkeep _ _ e hb)
    clear F N
    (repeat' (first | (fail_if_success (with_reducible show wpAny _ _ (exec (Stmt.For _ _ _ _ _) _) _ _ _)); (first | (k_unfold; (try dsimp only)) | (first | ((with_reducible show wpAny _ _ (getAttr (Value.ref _) _ _) _ _ _); (k_here; k_dflt (refine' m_getattr ?k1 ?k2 ?k3 ?k4 ?k5 ?k6 ?_; (case k1 => k_asm); (case k2 => k_asm); (case k3 => k_asm); (case k4 => (first | exact .inr (by assumption) | exact .inl (by k_mem))); (case k5 => (first | exact .inr (by assumption) | exact .inl (by k_mem))); (case k6 => rfl)))) | walk1) | (dsimp only; (first | ((with_reducible show wpAny _ _ (getAttr (Value.ref _) _ _) _ _ _); (k_here; k_dflt (refine' m_getattr ?k1 ?k2 ?k3 ?k4 ?k5 ?k6 ?_; (case k1 => k_asm); (case k2 => k_asm); (case k3 => k_asm); (case k4 => (first | exact .inr (by assumption) | exact .inl (by k_mem))); (case k5 => (first | exact .inr (by assumption) | exact .inl (by k_mem))); (case k6 => rfl)))) | walk1)))))
    have W2 := hW.in4_2
    have hwn : ∀ b o, h.get? b = some o → b ∉ wr := fun b o e hm => absurd (Heap.lt_size e) (Nat.not_lt.mpr (hwr b hm))
    refine SC.joinGen W2 hty hst0 hfp ha (fun j v hv => let ⟨u, e⟩ := hv.get; ⟨_, u, e⟩) (fun s' lt hm hacc => ?_) (by rw [sizeLine_eq]; (first | lia | omega))
    have hl : lt.map (·.1) = (List.range ps.size).map fun j => Txt.join (Str.ofString "") [fa j, fb j] := by
      apply List.ext_getElem?
      intro j
      have hsz : lt.length = ps.size := by simpa [strValues] using hacc.1
      by_cases hj : j < ps.size
      · have hj' : j < lt.length := hsz ▸ hj
        obtain ⟨u, hv⟩ := (hacc.2 j (.str lt[j].1 lt[j].2) (by simp [strValues, List.getElem?_eq_getElem hj'])).get
        injection hv with h1 _
        simp [List.getElem?_eq_getElem hj', hj, h1]
      · rw [List.getElem?_eq_none (by simpa [hsz] using Nat.le_of_not_lt hj), List.getElem?_eq_none (by simpa using Nat.le_of_not_lt hj)]
    rw [hl]
    have g1 := hb'.movedS hm
    refine ⟨?_, fun t' k => hret { s' with toks := k } t' tb' (fun b o e hb => hm.heap b o (hwn _ _ (hkk b o e hb)) (hk' _ _ hb (hkk b o e hb))) (hm.heap 147 _ ?_ hP') htr' g1 (hm.drawn.trans hdr) (hm.os.trans hos)⟩
    · refine joinOk_of ?_
      have hle : ∀ k : Nat, (((List.range k).map fun j => Txt.join (Str.ofString "") [fa j, fb j]).map (·.length)).sum ≤ 2000 * k := by
        intro k
        induction k with
        | zero => simp
        | succ k ih =>
          rw [List.range_succ, List.map_append, List.map_append, List.sum_append]
          have h1 := hfl k
          have h2 := StrLaws.join_length_le (Str.ofString "") [fa k, fb k]
          have h3 : (Txt.join (Str.ofString "") [fa k, fb k]).length ≤ (fa k).length + (fb k).length := by
            refine Nat.le_trans h2 ?_
            simp [show (Str.ofString "").length = 0 from by decide +kernel]
          simp only [List.map_cons, List.map_nil, List.sum_cons, List.sum_nil]
          (first | lia | omega)
      have h4 := hle ps.size
      rw [show (Str.ofString "").length = 0 from by decide +kernel, Nat.mul_zero]
      (first | lia | omega)
    · intro h2
      exact absurd (Nat.lt_of_lt_of_le (Heap.lt_size hP) hsub) (Nat.not_lt.mpr (hwr _ h2))
end
end Mine
end

section
-- UseB
example : True := by w_top off; trivial
open PySem PySem.W PyProof.Rows PySem.Calls PySem.Spec
set_option maxRecDepth 100000
namespace Mine
/-- the parts that an accumulator holds -/
noncomputable def Parts (h : Heap) (ps : Array Value) (l : List (Str × Str)) : Prop :=
  ps.size = l.length ∧ ∃ Ts : Nat → Addr, ∃ ta tb : Nat → Tok, ∀ j, j < l.length → ps[j]? = some (.ref (Ts j)) ∧ h.IsTuple (Ts j) #[.str (l.getD j (Str.empty, Str.empty)).1 (ta j), .str (l.getD j (Str.empty, Str.empty)).2 (tb j)]
theorem Parts.at {h h' : Heap} {ps : Array Value} {l : List (Str × Str)} (x : Parts h ps l) (k : ∀ b o, h.get? b = some o → o.cls = .type "tuple" → h'.get? b = some o) : Parts h' ps l := by
  obtain ⟨e, Ts, ta, tb, f⟩ := x
  refine ⟨e, Ts, ta, tb, fun j hj => ⟨(f j hj).1, ?_⟩⟩
  obtain ⟨o, ho, hc, r⟩ := (f j hj).2
  exact ⟨o, k _ _ ho hc, hc, r⟩
theorem Parts.keeps {h h' : Heap} {ps : Array Value} {l : List (Str × Str)} (x : Parts h ps l) (k : ∀ b o, h.get? b = some o → h'.get? b = some o) : Parts h' ps l := x.at fun b o e _ => k b o e
theorem Parts.nil {h : Heap} : Parts h #[] [] := ⟨rfl, fun _ => 0, fun _ => 0, fun _ => 0, fun j hj => absurd hj (Nat.not_lt_zero _)⟩
theorem Parts.push {h : Heap} {ps : Array Value} {l : List (Str × Str)} {T : Addr} {a b : Str} {t1 t2 : Tok} (x : Parts h ps l) (hT : h.get? T = some { cls := .type "tuple", data := .seq #[.str a t1, .str b t2] }) : Parts h (ps.push (.ref T)) (l ++ [(a, b)]) := by
  obtain ⟨e, Ts, ta, tb, f⟩ := x
  refine ⟨by simp [e], fun j => if j < l.length then Ts j else T, fun j => if j < l.length then ta j else t1, fun j => if j < l.length then tb j else t2, fun j hj => ?_⟩
  by_cases h1 : j < l.length
  · obtain ⟨f1, f2⟩ := f j h1
    have e1 : (l ++ [(a, b)]).getD j (Str.empty, Str.empty) = l.getD j (Str.empty, Str.empty) := by simp [List.getD, List.getElem?_append_left h1]
    rw [e1]
    simp only [h1, if_true]
    refine ⟨?_, f2⟩
    rw [Array.getElem?_push_lt (by omega), ← f1, Array.getElem?_eq_getElem (by omega)]
  · have h2 : j = l.length := by simp at hj; omega
    subst h2
    have e1 : (l ++ [(a, b)]).getD l.length (Str.empty, Str.empty) = (a, b) := by simp [List.getD]
    rw [e1]
    simp only [Nat.lt_irrefl, if_false]
    exact ⟨by rw [← e]; simp, ⟨_, hT, rfl, _, rfl⟩⟩
theorem Parts.take {h : Heap} {ps : Array Value} {l : List (Str × Str)} (x : Parts h ps l) (k : Nat) : Parts h (ps.toList.take k).toArray (l.take k) := by
  obtain ⟨e, Ts, ta, tb, f⟩ := x
  refine ⟨by simp [e], Ts, ta, tb, fun j hj => ?_⟩
  have h1 : j < k ∧ j < l.length := by simp at hj; omega
  obtain ⟨f1, f2⟩ := f j h1.2
  refine ⟨by simp [h1.1, f1], ?_⟩
  have e1 : (l.take k).getD j (Str.empty, Str.empty) = l.getD j (Str.empty, Str.empty) := by simp [List.getD, h1.1]
  rw [e1]; exact f2
theorem Parts.drop {h : Heap} {ps : Array Value} {l : List (Str × Str)} (x : Parts h ps l) (k : Nat) : Parts h (ps.toList.drop k).toArray (l.drop k) := by
  obtain ⟨e, Ts, ta, tb, f⟩ := x
  refine ⟨by simp [e], fun j => Ts (k + j), fun j => ta (k + j), fun j => tb (k + j), fun j hj => ?_⟩
  have h1 : k + j < l.length := by simp at hj; omega
  obtain ⟨f1, f2⟩ := f (k + j) h1
  refine ⟨by simp [f1], ?_⟩
  have e1 : (l.drop k).getD j (Str.empty, Str.empty) = l.getD (k + j) (Str.empty, Str.empty) := by simp [List.getD]
  rw [e1]; exact f2
noncomputable def lenOf (l : List (Str × Str)) : Nat := (l.map fun q => q.1.length + q.2.length).sum
noncomputable def strOf (l : List (Str × Str)) : Str := Txt.join (Str.ofString "") (l.map fun q => Txt.join (Str.ofString "") [q.1, q.2])
theorem preSum_len (l : List (Str × Str)) : ∀ k, k ≤ l.length → preSum (fun j => ((l.getD j (Str.empty, Str.empty)).1.length : Nat) + ((l.getD j (Str.empty, Str.empty)).2.length : Nat)) k = (lenOf (l.take k) : Nat)
  | 0, _ => by simp [preSum, lenOf]
  | k + 1, h => by
    rw [preSum, preSum_len l k (by omega)]
    have e : l.take (k + 1) = l.take k ++ [l.getD k (Str.empty, Str.empty)] := by
      rw [List.take_add_one]
      simp [List.getD, List.getElem?_eq_getElem (show k < l.length by omega)]
    rw [e]
    simp [lenOf]
theorem strOf_range (l : List (Str × Str)) : ((List.range l.length).map fun j => Txt.join (Str.ofString "") [(l.getD j (Str.empty, Str.empty)).1, (l.getD j (Str.empty, Str.empty)).2]) = l.map fun q => Txt.join (Str.ofString "") [q.1, q.2] := by
  apply List.ext_getElem?
  intro j
  by_cases h : j < l.length
  · simp [h, List.getD, List.getElem?_eq_getElem h]
  · simp [h]
end Mine
end

section
-- Use2B
example : True := by w_top off; trivial
open PySem PySem.W PyProof.Rows PySem.Calls PySem.Spec
set_option maxRecDepth 100000
namespace Mine
/-- all parts are short -/
noncomputable def Short (l : List (Str × Str)) : Prop := l.length ≤ 100 ∧ ∀ q ∈ l, q.1.length ≤ 1000 ∧ q.2.length ≤ 1000
theorem Short.at {l : List (Str × Str)} (h : Short l) (j : Nat) : (l.getD j (Str.empty, Str.empty)).1.length ≤ 1000 ∧ (l.getD j (Str.empty, Str.empty)).2.length ≤ 1000 := by
  by_cases hj : j < l.length
  · have e : l.getD j (Str.empty, Str.empty) = l[j] := by simp [List.getD, List.getElem?_eq_getElem hj]
    rw [e]; exact h.2 _ (List.getElem_mem hj)
  · have e : l.getD j (Str.empty, Str.empty) = (Str.empty, Str.empty) := by simp [List.getD, List.getElem?_eq_none (Nat.le_of_not_lt hj)]
    rw [e]; decide
theorem lenOf_small {l : List (Str × Str)} (h : Short l) : lenOf l ≤ 200000 := by
  obtain ⟨h1, h2⟩ := h
  have : ∀ l : List (Str × Str), (∀ q ∈ l, q.1.length ≤ 1000 ∧ q.2.length ≤ 1000) → lenOf l ≤ 2000 * l.length := by
    intro l
    induction l with
    | nil => intro _; simp [lenOf]
    | cons q r ih =>
      intro hq
      have a := hq q (.head _)
      have b := ih fun x hx => hq x (.tail _ hx)
      simp only [lenOf, List.map_cons, List.sum_cons, List.length_cons] at *
      (first | lia | omega)
  have := this l h2
  (first | lia | omega)
section
variable {w : World} {p : Program} {loose : List Str} {mean : ExcName → Option Value} {mg mb : Str → Option Value} {G g : Heap} {L x d : Addr} {m : Str → Option Value} {nw : List (Addr × Obj)} {nw' : Array Value → List (Addr × Obj)} {A : Around} {s : Shared} {Q E : Value → Shared → Prop} {ps : Array Value} {n : Nat}
theorem k_len : findIn (hd.heap_1 w.params) (.ref 178) "__len__" = some (some (.ref 145)) := by kernel_rfl
theorem k_len_fn : isFn (hd.heap_1 w.params) (.ref 145) = true := by kernel_rfl
theorem k_str : findIn (hd.heap_1 w.params) (.ref 178) "__str__" = some (some (.ref 152)) := by kernel_rfl
theorem k_str_fn : isFn (hd.heap_1 w.params) (.ref 152) = true := by kernel_rfl
theorem tab_mem {b : Addr} {o o' : Obj} {h : Heap} {l l' : List (Addr × Obj)} (U : Upd b o o' l l') (N : News g L h l) : h.get? b = some o := by
  obtain ⟨pre, post, e1, _⟩ := U.split
  exact (N (b, o) (by rw [e1]; exact List.mem_append.mpr (.inr (.head _)))).1
/-- len(accumulator) -/
theorem u_len {l : List (Str × Str)} {hs0 : Int} {t0 : Tok} {i0 : Int} {ti : Tok} {n0 : Nat} {tb : Array Value} (F : Fr g L s.heap m) (N : News g L s.heap nw) (X : (hd.heap_1 w.params).In g) (D : Gd w p loose mean mg mb G) (hs : G.StaysIn g)
    (hh : A.in1.handled = none) (hdp : A.in1.depth ≤ 800) (hu : A.in1.units ≤ 600) (hx : (x, acObj d ps n) ∈ nw ∨ g.get? x = some (acObj d ps n)) (hd' : (d, acDict hs0 t0 (.int i0 ti) n0) ∈ nw ∨ g.get? d = some (acDict hs0 t0 (.int i0 ti) n0))
    (U : ∀ tb', Upd 140 (tabObj tb) (tabObj tb') nw (nw' tb')) (htr : TriplesOk tb.toList) (hPG : G.get? 140 = none) (hbare : AllBare s.gens) (hp : Parts s.heap ps l) (hsh : Short l) (hi0 : 0 ≤ i0) (hi1 : i0 ≤ 1000)
    (k : ∀ h' gs' tk' t' tb', Fr g L h' m → News g L h' (nw' tb') → TriplesOk tb'.toList → AllBare gs' → (∀ b o, s.heap.get? b = some o → o.cls = .type "tuple" → h'.get? b = some o) → Q (.int (i0 + (lenOf l : Nat)) t') ⟨h', gs', s.drawn, tk', s.os⟩) :
    wpAny (model Challenge.rw_oc0165_02.row.prog w) A (call (.builtin "len") [.ref x]) Q E s := by
  have hx' := at_of F N hx
  have hd2 := at_of F N hd'
  have hP := tab_mem (U tb) N
  obtain ⟨hsz, Ts, ta, tb2, f⟩ := hp
  refine len_K F X (ac_at hx' hd2) k_len k_len_fn (wp_up hh hdp hu ?_)
  refine c_len (fa := fun j => (l.getD j (Str.empty, Str.empty)).1) (fb := fun j => (l.getD j (Str.empty, Str.empty)).2) D (stays_fr F hs) hx' hd2 hP htr hPG hbare (fun j hj => (f j (hsz ▸ hj)).1) (fun j hj => (f j (hsz ▸ hj)).2) (by have := hsh.1; (first | lia | omega)) (by (first | lia | omega)) hi1 hsh.at ?_
  intro s' t' tb' hk hP' htr' hb' hdr hos
  obtain ⟨h', gs', dr', tk', os'⟩ := s'
  dsimp only at hk hP' hb' hdr hos
  subst hdr hos
  have hsm := lenOf_small hsh
  rw [hsz, preSum_len l l.length (Nat.le_refl _), List.take_length]
  obtain ⟨F', N'⟩ := upd_news F N (U tb') hk hP'
  exact ⟨⟨by (first | lia | omega), by (first | lia | omega)⟩, k h' gs' _ _ tb' F' N' htr' hb' fun b o e hc => hk b o e (by rintro rfl; rw [hP] at e; cases e; cases hc)⟩
/-- str(accumulator) -/
theorem u_str {l : List (Str × Str)} {hs0 : Int} {t0 : Tok} {v0 : Value} {n0 : Nat} {tb : Array Value} (F : Fr g L s.heap m) (N : News g L s.heap nw) (X : (hd.heap_1 w.params).In g) (D : Gd w p loose mean mg mb G) (hs : G.StaysIn g)
    (hcu : A.in1.in1.units < cLine) (hh : A.in1.in1.handled = none) (hdp : A.in1.in1.depth ≤ 800) (hu : A.in1.in1.units ≤ 600) (hx : (x, acObj d ps n) ∈ nw ∨ g.get? x = some (acObj d ps n)) (hd' : (d, acDict hs0 t0 v0 n0) ∈ nw ∨ g.get? d = some (acDict hs0 t0 v0 n0))
    (U : ∀ tb', Upd 147 (tabObj tb) (tabObj tb') nw (nw' tb')) (htr : TriplesOk tb.toList) (hPG : G.get? 147 = none) (hbare : AllBare s.gens) (hp : Parts s.heap ps l) (hsh : Short l)
    (k : ∀ h' gs' tk' t' tb', Fr g L h' m → News g L h' (nw' tb') → TriplesOk tb'.toList → AllBare gs' → (∀ b o, s.heap.get? b = some o → o.cls = .type "tuple" → h'.get? b = some o) → Q (.str (strOf l) t') ⟨h', gs', s.drawn, tk', s.os⟩) :
    wpAny (model Challenge.rw_oc0165_02.row.prog w) A (call (.type "str") [.ref x]) Q E s := by
  have hx' := at_of F N hx
  have hd2 := at_of F N hd'
  have hP := tab_mem (U tb) N
  obtain ⟨hsz, Ts, ta, tb2, f⟩ := hp
  refine kso_call hcu (X.keeps F.keep) (ac_at hx' hd2) k_str k_str_fn (wp_up hh hdp hu ?_)
  refine c_str (fa := fun j => (l.getD j (Str.empty, Str.empty)).1) (fb := fun j => (l.getD j (Str.empty, Str.empty)).2) D (stays_fr F hs) hx' hd2 hP htr hPG hbare (fun j hj => (f j (hsz ▸ hj)).1) (fun j hj => (f j (hsz ▸ hj)).2) (by have := hsh.1; (first | lia | omega)) hsh.at ?_
  intro s' t' tb' hk hP' htr' hb' hdr hos
  obtain ⟨h', gs', dr', tk', os'⟩ := s'
  dsimp only at hk hP' hb' hdr hos
  subst hdr hos
  rw [hsz, strOf_range]
  obtain ⟨F', N'⟩ := upd_news F N (U tb') hk hP'
  exact k h' gs' _ _ tb' F' N' htr' hb' fun b o e hc => hk b o e (by rintro rfl; rw [hP] at e; cases e; cases hc)
end
section
variable {w : World} {p : Program} {loose : List Str} {mean : ExcName → Option Value} {mg mb : Str → Option Value} {G g : Heap} {L x d : Addr} {m : Str → Option Value} {nw : List (Addr × Obj)} {A : Around} {s : Shared} {Q E : Value → Shared → Prop} {ps : Array Value} {n : Nat}
theorem u_push {nw' : Addr → Nat → List (Addr × Obj)} {a b : Str} {ta tb : Tok} {hs0 : Int} {t0 : Tok} {v0 : Value} {n0 : Nat} (F : Fr g L s.heap m) (N : News g L s.heap nw) (D : Gd w p loose mean mg mb G) (hs : G.StaysIn g) (hh : A.handled = none) (hdp : A.depth ≤ 800) (hu : A.units ≤ 600)
    (U : ∀ T n', Upd x (acObj d ps n) (acObj d (ps.push (.ref T)) n') nw (nw' T n')) (hd' : (d, acDict hs0 t0 v0 n0) ∈ nw ∨ g.get? d = some (acDict hs0 t0 v0 n0)) (hxG : G.get? x = none) (hz : ps.size ≤ 1000)
    (k : ∀ h' tk' n' T t1 t2, Fr g L h' m → News g L h' ((T, { cls := .type "tuple", data := .seq #[.str a t1, .str b t2] }) :: nw' T n') → (∀ q ∈ nw, q.1 ≠ T) → Q .none { s with heap := h', toks := tk' }) :
    wpAny (model Challenge.rw_oc0165_02.row.prog w) A (call (.ref 122) [.ref x, .str a ta, .str b tb]) Q E s := by
  have hx' := tab_mem (U 0 0) N
  refine wp_up hh hdp hu (c_push D (stays_fr F hs) hx' (at_of F N hd') hxG hz fun h' tk' n' T t1 t2 hk hT hT' hx2 => ?_)
  obtain ⟨F', N'⟩ := upd_news F N (U T n') hk hx2
  refine k h' tk' n' T t1 t2 F' (news_more N' F hT hT') fun q hq e => ?_
  rw [← e, (N q hq).1] at hT; cases hT
theorem u_pop {nw' : Nat → List (Addr × Obj)} {y : Value} {hs0 : Int} {t0 : Tok} {v0 : Value} {n0 : Nat} (F : Fr g L s.heap m) (N : News g L s.heap nw) (D : Gd w p loose mean mg mb G) (hs : G.StaysIn g) (hh : A.handled = none) (hdp : A.depth ≤ 800) (hu : A.units ≤ 600)
    (U : ∀ n', Upd x (acObj d ps n) (acObj d ps.pop n') nw (nw' n')) (hd' : (d, acDict hs0 t0 v0 n0) ∈ nw ∨ g.get? d = some (acDict hs0 t0 v0 n0)) (hxG : G.get? x = none) (hz : ps.size ≤ 1000) (hy : ps[ps.size - 1]? = some y)
    (k : ∀ h' tk' n', Fr g L h' m → News g L h' (nw' n') → Q y { s with heap := h', toks := tk' }) :
    wpAny (model Challenge.rw_oc0165_02.row.prog w) A (call (.ref 138) [.ref x]) Q E s := by
  have hx' := tab_mem (U 0) N
  refine wp_up hh hdp hu (c_pop D (stays_fr F hs) hx' (at_of F N hd') hxG hz hy fun h' tk' n' hk hx2 => ?_)
  obtain ⟨F', N'⟩ := upd_news F N (U n') hk hx2
  exact k h' tk' n' F' N'
theorem u_popfrom {nw' : Nat → List (Addr × Obj)} {i : Int} {ti : Tok} {hs0 : Int} {t0 : Tok} {v0 : Value} {n0 : Nat} (F : Fr g L s.heap m) (N : News g L s.heap nw) (D : Gd w p loose mean mg mb G) (hs : G.StaysIn g) (hh : A.handled = none) (hdp : A.depth ≤ 800) (hu : A.units ≤ 600)
    (U : ∀ n', Upd x (acObj d ps n) (acObj d (ps.toList.take i.toNat).toArray n') nw (nw' n')) (hd' : (d, acDict hs0 t0 v0 n0) ∈ nw ∨ g.get? d = some (acDict hs0 t0 v0 n0)) (hxG : G.get? x = none) (hz : ps.size ≤ 1000) (h0 : 0 ≤ i) (h1 : i ≤ ps.size)
    (k : ∀ h' tk' n' R, Fr g L h' m → News g L h' ((R, listOf (ps.toList.drop i.toNat).toArray 0) :: nw' n') → (∀ q ∈ nw, q.1 ≠ R) → Q (.ref R) { s with heap := h', toks := tk' }) :
    wpAny (model Challenge.rw_oc0165_02.row.prog w) A (call (.ref 130) [.ref x, .int i ti]) Q E s := by
  have hx' := tab_mem (U 0) N
  refine wp_up hh hdp hu (c_popfrom D (stays_fr F hs) hx' (at_of F N hd') hxG hz h0 h1 fun h' tk' n' R hk hR hR' hx2 => ?_)
  obtain ⟨F', N'⟩ := upd_news F N (U n') hk hx2
  refine k h' tk' n' R F' (news_more N' F hR hR') fun q hq e => ?_
  rw [← e, (N q hq).1] at hR; cases hR
theorem upd_cases {b : Addr} {o o' : Obj} {l l' : List (Addr × Obj)} (U : Upd b o o' l l') : ∀ q ∈ l', q = (b, o') ∨ (q ∈ l ∧ q.1 ≠ b) := by
  obtain ⟨pre, post, rfl, rfl, h1, h2⟩ := U.split
  intro q hq
  rcases List.mem_append.mp hq with hq | hq
  · exact .inr ⟨List.mem_append_left _ hq, h1 q hq⟩
  · rcases List.mem_cons.mp hq with rfl | hq
    · exact .inl rfl
    · exact .inr ⟨List.mem_append_right _ (.tail _ hq), h2 q hq⟩
theorem upd_mem {b : Addr} {o o' : Obj} {l l' : List (Addr × Obj)} (U : Upd b o o' l l') : (b, o) ∈ l := by
  obtain ⟨pre, post, rfl, _⟩ := U.split
  exact List.mem_append.mpr (.inr (.head _))
theorem upd_news2 {h h' : Heap} {a b : Addr} {oa oa' ob ob' : Obj} {nw1 nw2 : List (Addr × Obj)} (F : Fr g L h m) (N : News g L h nw) (U1 : Upd a oa oa' nw nw1) (U2 : Upd b ob ob' nw1 nw2) (hab : a ≠ b)
    (hk : ∀ c o, h.get? c = some o → c ≠ a → c ≠ b → h'.get? c = some o) (ha : h'.get? a = some oa') (hb : h'.get? b = some ob') : Fr g L h' m ∧ News g L h' nw2 := by
  have za := N _ (upd_mem U1)
  have zb : ((b, ob) : Addr × Obj) ∈ nw := by
    rcases upd_cases U1 _ (upd_mem U2) with e | e
    · cases e; exact absurd rfl hab
    · exact e.1
  have zb := N _ zb
  obtain ⟨oL, es, ep, hL, r⟩ := F.ns
  refine ⟨⟨⟨oL, es, ep, hk _ _ hL (Ne.symm za.2.1) (Ne.symm zb.2.1), r⟩, fun c o e => hk c o (F.keep c o e) ?_ ?_, F.above⟩, fun q hq => ?_⟩
  · rintro rfl; rw [za.2.2] at e; cases e
  · rintro rfl; rw [zb.2.2] at e; cases e
  · rcases upd_cases U2 q hq with rfl | ⟨hq, hqb⟩
    · exact ⟨hb, zb.2⟩
    · rcases upd_cases U1 q hq with rfl | ⟨hq, hqa⟩
      · exact ⟨ha, za.2⟩
      · exact ⟨hk _ _ (N q hq).1 hqa hqb, (N q hq).2⟩
theorem u_reset {nw1 : Nat → List (Addr × Obj)} {nw2 : Nat → Tok → List (Addr × Obj)} {R : Addr} {items : Array Value} {c : Nat} {hs0 : Int} {t0 : Tok} {v0 : Value} {n0 : Nat} (F : Fr g L s.heap m) (N : News g L s.heap nw) (D : Gd w p loose mean mg mb G) (hs : G.StaysIn g) (hh : A.handled = none) (hdp : A.depth ≤ 800) (hu : A.units ≤ 600)
    (U1 : ∀ n', Upd x (acObj d ps n) (acObj d items n') nw (nw1 n')) (U2 : ∀ n' t', Upd d (acDict hs0 t0 v0 n0) (acDict hs0 t0 (.int 0 t') n0) (nw1 n') (nw2 n' t')) (hxd : x ≠ d) (hxG : G.get? x = none) (hdG : G.get? d = none) (hz : ps.size ≤ 1000)
    (hR : (R, listOf items c) ∈ nw ∨ g.get? R = some (listOf items c)) (hz2 : items.size ≤ 1000)
    (k : ∀ h' tk' n' t', Fr g L h' m → News g L h' (nw2 n' t') → Q .none { s with heap := h', toks := tk' }) :
    wpAny (model Challenge.rw_oc0165_02.row.prog w) A (call (.ref 160) [.ref x, .ref R]) Q E s := by
  have hx' := tab_mem (U1 0) N
  have hdm : ((d, acDict hs0 t0 v0 n0) : Addr × Obj) ∈ nw := by
    rcases upd_cases (U1 0) _ (upd_mem (U2 0 0)) with e | e
    · exact absurd (congrArg Prod.fst e).symm hxd
    · exact e.1
  refine wp_up hh hdp hu (c_reset D (stays_fr F hs) hx' (N _ hdm).1 hxG hdG hz (at_of F N hR) hz2 fun h' tk' n' t' hk hx2 hd2 => ?_)
  obtain ⟨F', N'⟩ := upd_news2 F N (U1 n') (U2 n' t') hxd hk hx2 hd2
  exact k h' tk' n' t' F' N'
theorem u_reset0 {nw1 : Nat → List (Addr × Obj)} {nw2 : Nat → Tok → List (Addr × Obj)} {hs0 : Int} {t0 : Tok} {v0 : Value} {n0 : Nat} (F : Fr g L s.heap m) (N : News g L s.heap nw) (D : Gd w p loose mean mg mb G) (hs : G.StaysIn g) (hh : A.handled = none) (hdp : A.depth ≤ 800) (hu : A.units ≤ 600)
    (U1 : ∀ n', Upd x (acObj d ps n) (acObj d #[] n') nw (nw1 n')) (U2 : ∀ n' t', Upd d (acDict hs0 t0 v0 n0) (acDict hs0 t0 (.int 0 t') n0) (nw1 n') (nw2 n' t')) (hxd : x ≠ d) (hxG : G.get? x = none) (hdG : G.get? d = none) (hz : ps.size ≤ 1000)
    (k : ∀ h' tk' n' t', Fr g L h' m → News g L h' (nw2 n' t') → Q .none { s with heap := h', toks := tk' }) :
    wpAny (model Challenge.rw_oc0165_02.row.prog w) A (call (.ref 160) [.ref x]) Q E s := by
  have hx' := tab_mem (U1 0) N
  have hdm : ((d, acDict hs0 t0 v0 n0) : Addr × Obj) ∈ nw := by
    rcases upd_cases (U1 0) _ (upd_mem (U2 0 0)) with e | e
    · exact absurd (congrArg Prod.fst e).symm hxd
    · exact e.1
  refine wp_up hh hdp hu (c_reset0 D (stays_fr F hs) hx' (N _ hdm).1 hxG hdG hz fun h' tk' n' t' hk hx2 hd2 => ?_)
  obtain ⟨F', N'⟩ := upd_news2 F N (U1 n') (U2 n' t') hxd hk hx2 hd2
  exact k h' tk' n' t' F' N'
end
end Mine
end

section
-- MakeB
example : True := by w_top off; trivial
open PySem PySem.W PyProof.Rows PySem.Calls PySem.Spec
set_option maxRecDepth 100000
namespace Mine
theorem nl_kind : builtinKind "list.__new__" = some .builtinFn := by decide +kernel
theorem nl_split : splitId "list.__new__" = some ("list", "__new__") := by decide +kernel
theorem nl_args (a b : Value) : argsOk "list.__new__" ⟨[a, b], []⟩ := by unfold argsOk; kernel_rfl
noncomputable def makesInL (K : Frag) (C : Addr) : Bool := match K.lookup C with
  | some ⟨_, _, .cls cd, sl⟩ => !cd.abstract && !cd.hasDel && (sl.toList[4]?).join == some (.builtin "list.__new__") && !cd.mro.isEmpty && cd.mro.contains (.ref C) && cd.mro.contains (.type "list") &&
      specialIn K (.ref C) "__call__" == some (some (.builtin "type.__call__")) && instIn K (.ref C) (.type "type") == some true
  | _ => false
structure MakesL (M : Model) (h : Heap) (C : Addr) : Prop where
  obj : ∃ oc od cd sl, h.get? C = some ⟨oc, od, .cls cd, sl⟩ ∧ cd.abstract = false ∧ cd.hasDel = false ∧ cd.mro.isEmpty = false
  made : Looks M h (Bind.madeBy (.ref C)) (some "list.__new__")
  base : Looks M h (Bind.staticBase (.ref C)) (.ref C)
  self : Looks M h (isSubtype (.ref C) (.ref C)) true
  top : Looks M h (isSubtype (.ref C) (.type "list")) true
  call : Looks M h (specialOf (.ref C) "__call__") (some (.builtin "type.__call__"))
  typ : Looks M h (isInstance (.ref C) (.type "type")) true
theorem makesL_of {K : Frag} {M : Model} {h : Heap} (X : K.In h) {C : Addr} (e : makesInL K C = true) : MakesL M h C := by
  unfold makesInL at e
  split at e
  · rename_i oc od cd sl ho
    simp only [Bool.and_eq_true, Bool.not_eq_true', beq_iff_eq] at e
    obtain ⟨⟨⟨⟨⟨⟨⟨e1, e2⟩, e3⟩, e4⟩, e5⟩, e6⟩, e7⟩, e8⟩ := e
    have hc : clsIn K C = some cd := by unfold clsIn; rw [ho]
    have hm : Looks M h (mroOf (.ref C)) cd.mro := (looks_clsIn X hc).andThen .now
    obtain ⟨c, l, hl⟩ : ∃ c l, cd.mro = c :: l := by cases q : cd.mro with | nil => rw [q] at e4; cases e4 | cons c l => exact ⟨c, l, rfl⟩
    have made : Looks M h (Bind.madeBy (.ref C)) (some "list.__new__") := by
      intro A Q E s k q
      unfold Bind.madeBy
      refine wpAny_bind (hm A _ E s k ?_)
      rw [hl, List.forIn_cons]
      refine wpAny_bind (wpAny_bind (wpAny_bind (wpAny_bind (wpAny_loadPart (k _ _ (X _ _ ho)) (wpAny_pure ?_)))))
      dsimp only
      rw [← Array.getElem?_toList, e3]
      exact wpAny_pure (wpAny_pure (wpAny_pure q))
    refine ⟨⟨oc, od, cd, sl, X _ _ ho, e1, e2, e4⟩, made, ?_, looks_mroIn X ?_, looks_mroIn X ?_, looks_specialIn X e7, looks_instIn X e8⟩
    · intro A Q E s k q
      unfold Bind.staticBase
      refine wpAny_bind (hm A _ E s k ?_)
      rw [hl, List.forIn_cons]
      exact wpAny_bind (wpAny_bind (wpAny_bind (made A _ E s k (wpAny_pure (wpAny_pure (wpAny_pure q))))))
    · unfold mroIn; rw [hc, Option.bind_some, if_neg (by rw [e4]; decide), e5]
    · unfold mroIn; rw [hc, Option.bind_some, if_neg (by rw [e4]; decide), e6]
  · cases e
theorem k_makes {w : World} : makesInL (hd.heap_1 w.params) 178 = true := by kernel_rfl
noncomputable abbrev instL (C dx : Addr) : Obj := { cls := .ref C, dict := some dx, data := .seq #[] }
section
variable {prog : Program} {w : World} {A : Around} {K : Frag} {C : Addr} {R : Result → Shared → Prop} {h : Heap} {g : Array GenState} {d : Drawn} {t : Nat} {os : OsState}
theorem new_L {vs : List Value} (ha : argsOk "list.__new__" ⟨.ref C :: vs, []⟩) (Y : MakesL (model prog w) h C)
    (hq : R (.ok (.ret (.ref (h.objs.size + 1)))) ⟨(h.push emptyDict).push (instL C h.objs.size), g, d, t, os⟩) :
    codeAny (model prog w) A (.call (.builtin "list.__new__") ⟨.ref C :: vs, []⟩) R ⟨h, g, d, t, os⟩ := by
  obtain ⟨⟨oc, od, cd, sl, hC, e1, e2, e4⟩, made, base, self, top, call, typ⟩ := Y
  refine codeAny_of_tree ?_
  show wpAny _ A.in1 (do checkBuiltinCall "list.__new__" ⟨.ref C :: vs, []⟩; again (.builtin "list.__new__" ⟨.ref C :: vs, []⟩)) _ _ _
  refine wpAny_bind ?_
  unfold argsOk at ha
  simp only [checkBuiltinCall, nl_kind, nl_split]
  rw [if_pos (by decide)]
  refine wpAny_bind (ks_wpAny_isType_cls hC rfl ?_)
  rw [if_neg (by decide)]
  refine wpAny_bind (top.at ?_)
  rw [if_neg (by decide)]
  refine wpAny_bind (base.at ?_)
  refine wpAny_bind (made.at ?_)
  dsimp only
  rw [if_neg (by decide +kernel)]
  have fin : wpAny (model prog w) A.in1 (again (.builtin "list.__new__" ⟨.ref C :: vs, []⟩)) (fun fin s' => match fin with | .done f => R (.ok f) s' | .again c' => c'.quiet = true ∧ codeAny (model prog w) A c' R s') (fun e s' => R (.error e) s') ⟨h, g, d, t, os⟩ := by
    refine wpAny_pure ⟨plainId_quiet PySem.F.plain_list_new _, codeAny_builtin_stack PySem.F.entry_list_new rfl fun p st => ?_⟩
    rw [Around.under_plainId PySem.F.plain_list_new _]
    simp only [owner_list_new]
    refine wpAny_bind (ks_wpAny_isType_cls hC rfl ?_)
    rw [if_neg (by decide)]
    refine wpAny_bind (top.at ?_)
    rw [if_neg (by decide)]
    refine wpAny_bind (wpAny_pure ?_)
    rw [show (!typeHasDict (Value.ref C)) = false from rfl, if_neg (by decide)]
    refine wpAny_bind (wpAny_newObj_type ?_)
    refine wpAny_bind ?_
    unfold newObj
    dsimp only
    rw [if_neg (by rw [sizeLine_eq]; decide)]
    unfold newObjAsIs classHasDel
    refine wpAny_bind (wpAny_alloc (wpAny_bind (wpAny_bind (wpAny_load (Heap.get?_push_of_some _ (Heap.get?_push_of_some _ hC)) (wpAny_pure ?_)))))
    rw [e2]
    refine wpAny_pure (wpAny_pure ?_)
    show R _ _
    rw [Heap.size_push]
    exact hq
  cases e : Manifest.signature? "list.__new__" with
  | none => exact wpAny_pure fin
  | some sig =>
    rw [e] at ha
    exact wpAny_of_eq ha fin
theorem make_coreL {vs : List Value} {init : Value} (ha : argsOk "list.__new__" ⟨.ref C :: vs, []⟩) (Y : MakesL (model prog w) h C) (hi : Looks (model prog w) h (typeLookup (.ref C) "__init__") (some init))
    (hb : ∀ self, Looks (model prog w) h (bindSpecial init self) (init, [self]))
    (hq : codeAny (model prog w) (A.under (.builtin "type.__call__" ⟨.ref C :: vs, []⟩)) (.call init ⟨.ref (h.objs.size + 1) :: vs, []⟩) (InitBack (h.objs.size + 1) R) ⟨(h.push emptyDict).push (instL C h.objs.size), g, d, t, os⟩) :
    codeAny (model prog w) A (.call (.ref C) ⟨vs, []⟩) R ⟨h, g, d, t, os⟩ := by
  have Y' := Y
  obtain ⟨⟨oc, od, cd, sl, hC, e1, e2, e4⟩, made, base, self, top, call, typ⟩ := Y
  refine codeAny_of_tree ?_
  show wpAny _ _ (callAny (.ref C) _) _ _ _
  refine nd_load hC ?_
  show wpAny _ _ (callAny.viaDunder (.ref C) _) _ _ _
  unfold callAny.viaDunder
  refine wpAny_bind (call.at ?_)
  dsimp only
  rw [tc_bind]
  refine wpAny_bind (wpAny_pure (wpAny_bind (wpAny_pure ?_)))
  refine wpAny_pure (a := Fin.again (.call (.builtin "type.__call__") ⟨.ref C :: vs, []⟩)) (And.intro rfl ?_)
  refine codeAny_call_builtin_at (Code.quiet_builtin _ (by decide +kernel)) entry_typeCall (check_slot tc_kind tc_split typ (tc_args _ _ _) ?_)
  unfold Builtin.«type.__call__»
  have hm : Looks (model prog w) h (mroOf (.ref C)) cd.mro := ((Looks.ld (part := none) hC).andThen .now).andThen .now
  repeat (first | simp only [e4, Bool.false_eq_true, if_false] | with_reducible refine wpAny_call ?_ | lk)
  refine new_L ha Y' ?_
  have k : ∀ b o, h.get? b = some o → ((h.push emptyDict).push (instL C h.objs.size)).get? b = some o := fun b o e => Heap.get?_push_of_some _ (Heap.get?_push_of_some _ e)
  have hx : ((h.push emptyDict).push (instL C h.objs.size)).get? (h.objs.size + 1) = some (instL C h.objs.size) := by heap_get
  have t1 : Looks (model prog w) ((h.push emptyDict).push (instL C h.objs.size)) (typeOf (.ref (h.objs.size + 1))) (.ref C) := (Looks.ld hx).andThen .now
  have s1 := self.keeps k
  have i1 := hi.keeps k
  have b1 := (hb (.ref (h.objs.size + 1))).keeps k
  unfold isInstance callSpecial? specialOf
  repeat (first | with_reducible refine wpAny_call ?_ | lk)
  refine codeAny_mono hq fun r s' z => ?_
  rcases r with e | (v | _ | _ | _) <;> first | exact z | exact z.elim | skip
  obtain ⟨rfl, z⟩ := z
  exact wpAny_pure (wpAny_pure z)
end
end Mine
end

section
-- AccInitB
example : True := by w_top off; trivial
open PySem PySem.W PyProof.Rows PySem.Calls PySem.Spec
set_option maxRecDepth 100000
namespace Mine
section
variable {w : World} {p : Program} {loose : List Str} {mean : ExcName → Option Value} {mg mb : Str → Option Value} {G : Heap} {s : Shared} {Q E : Value → Shared → Prop} {R : Result → Shared → Prop}
theorem bb_init {A : Around} {x d : Addr} {n : Nat} {Q : Value → Shared → Prop} (hx : s.heap.get? x = some (acObj d #[] n)) (h : Q .none { s with heap := s.heap.update x (Obj.mapSeq fun _ => #[]) }) :
    wpAny (model Challenge.rw_oc0165_02.row.prog w) A (Builtin.«list.__init__» ⟨[.ref x], []⟩) (fun fin s' => ∃ v, fin = .done (.ret v) ∧ Q v s') E s := by
  obtain ⟨hp, g, dr, tk, os⟩ := s
  have hs1 : (#[] : Array Value).size ≤ sizeLine := by rw [sizeLine_eq]; simp
  have hz' : (#[] : Array Value).size ≤ sizeLine + 1 := by rw [sizeLine_eq]; simp
  wp_walk using (wpAny_updateSeq hx rfl (hz := hs1) (_hz' := hz')), wpAny_loadPart' hx
  exact ⟨_, rfl, h⟩
set_option maxHeartbeats 1000000
theorem c_initG {rest : List Value} {fd : FuncData} {x d : Addr} {n : Nat} {i : Int} {ti : Tok} (hfd : FdIs (hd.heap_1 w.params) 115 fd) (hb : BindsTo s fd ⟨.ref x :: rest, []⟩ [("self", .ref x), ("initial_size", .int i ti)]) (D : Gd w p loose mean mg mb G) (St : G.StaysIn s.heap) (hx : s.heap.get? x = some (acObj d #[] n)) (hd' : s.heap.get? d = some (dictOf [] 0)) (hxG : G.get? x = none) (hdG : G.get? d = none)
    (hret : ∀ h' tk' n' hs0 t0, (∀ b o, s.heap.get? b = some o → b ≠ x → b ≠ d → h'.get? b = some o) → h'.get? x = some (acObj d #[] n') → h'.get? d = some (acDict hs0 t0 (.int i ti) 1) → R (.ok (.ret .none)) { s with heap := h', toks := tk' }) :
    codeAny (model Challenge.rw_oc0165_02.row.prog w) (Am 800 600) (.call (.ref 115) ⟨.ref x :: rest, []⟩) R s := by
  have fill : (hd.heap_1 w.params).In G ∧ wpAny (model Challenge.rw_oc0165_02.row.prog w) (Am 0 0) (pure ()) (fun _ _ => True) (fun _ _ => True) s := ⟨D.X, wpAny_pure trivial⟩
  revert fill
  k_fill
  intro _
  refine' enterS (binds := [("self", .ref x), ("initial_size", .int i ti)]) [(x, acObj d #[] n), (d, dictOf [] 0)] D St ?k3 ?k4 ?k6 ?k7 ?k8 ?k9 ?kB ?c5 ?c2 ?c3 ?c4 ?_
  case k3 => exact all_cons (hx) (all_cons (hd') all_nil)
  case k4 => exact all_cons (hxG) (all_cons (hdG) all_nil)
  (((case k6 => k_is); (case k7 => k_is); (case k8 => decide)))
  case k9 => exact hfd.binds hb (by k_is)
  (((case kB => exact locs rfl); (case c5 => decide); (case c2 => exact rfl); (case c3 => exact rfl); (case c4 => exact rfl)))
  intro g L h hg hL F N X T l1 hkeep hst
  have hdx : d ≠ x := by rintro rfl; rw [hx] at hd'; cases hd'
  replace hkeep : ∀ b o, s.heap.get? b = some o → b ≠ x → b ≠ d → g.get? b = some o := fun b o e hb hb2 => hkeep b o e (by exact all_cons (hb.symm) (all_cons (hb2.symm) all_nil))
  try dsimp only
  try k_fold
  refine ks_wpAt_execs_cons ?_
  refine wpAt_of_wpAny ?_
  (repeat' (first | (fail_if_success (show _root_.PySem.wpAt _ _ _ _ _ _ _)); (first | (k_unfold; (try dsimp only)) | walk1 | (dsimp only; walk1))))
  rename Fr _ _ _ _ => F0
  rename News _ _ _ _ => N0
  refine set_dictL F0 X N0 (ac_at (N0 _ (.head _)).1 (N0 _ (.tail _ (.head _))).1) k_taker rfl rfl (.tail (Ne.symm hdx) (.head fun _ q => nomatch q)) (Nat.le_of_ble_eq_true rfl) ?_
  intro h2 F2 N2
  dsimp only
  refine ks_wpAt_execs_cons ?_
  refine ks_wpAt_Expr_any ?_
  refine ks_wpAt_MethodCall ?_
  refine ks_node F2 X N2 T (by k_is) (by rfl) (by rfl) (ac_at (N2 _ (.head _)).1 (N2 _ (.tail _ (.head _))).1) (by k_is) (by rfl) (by first | rfl | decide +kernel) (by k_is) (by k_is) (by k_is) (by k_is) (by decide) (by rfl) (by rfl) (by rfl) (by rfl) (by decide +kernel) (by first | boot_by_name | rfl | kernel_rfl) ?_
  intro so h1 F1 N1 l2
  have hx1 := (N1 _ (.tail _ (.head _))).1
  have X1 := X.keeps F1.keep
  refine sup_method X1 hx1 (N1 _ (.head _)).1 s_init t_init slot_wget entry_wget args_wget (by decide) (fun A E s Q X hx q => wget_run X hx (.inr rfl) q) ?_
  have hk1 : ∀ b o, h1.get? b = some o → (h1.push (bndObj "method-wrapper" "list.__init__" x)).get? b = some o := fun b o e => Heap.get?_push_of_some _ e
  have hq1 : (h1.push (bndObj "method-wrapper" "list.__init__" x)).get? h1.objs.size = some (bndObj "method-wrapper" "list.__init__" x) := Heap.get?_push_size _ rfl
  have hxq := hk1 _ _ hx1
  refine bnd_callWith hq1 (.inr rfl) (bnd_call hq1 (.inr rfl) PySem.F.slot_list_init.plain PySem.F.entry_list_init (fun Q q => ck_slot (by decide +kernel) (PySem.F.args_list_init_1 _) q) ?_)
  refine bb_init hxq ?_
  refine wpAt_of_wpAny (wpAny_execs_nil ?_)
  dsimp only
  refine hret _ _ _ _ _ (fun b o e hb hb2 => ?_) (ac_upd hxq _) ((Heap.get?_update_other _ _ (Ne.symm hdx)).trans (hk1 _ _ (N1 _ (.tail _ (.tail _ (.head _)))).1))
  exact (Heap.get?_update_other _ _ hb.symm).trans (hk1 _ _ (F1.keep _ _ (hkeep _ _ e hb hb2)))
theorem c_init {x d : Addr} {n : Nat} {i : Int} {ti : Tok} (D : Gd w p loose mean mg mb G) (St : G.StaysIn s.heap) (hx : s.heap.get? x = some (acObj d #[] n)) (hd' : s.heap.get? d = some (dictOf [] 0)) (hxG : G.get? x = none) (hdG : G.get? d = none)
    (hret : ∀ h' tk' n' hs0 t0, (∀ b o, s.heap.get? b = some o → b ≠ x → b ≠ d → h'.get? b = some o) → h'.get? x = some (acObj d #[] n') → h'.get? d = some (acDict hs0 t0 (.int i ti) 1) → R (.ok (.ret .none)) { s with heap := h', toks := tk' }) :
    codeAny (model Challenge.rw_oc0165_02.row.prog w) (Am 800 600) (.call (.ref 115) ⟨[.ref x, .int i ti], []⟩) R s := by
  have fill : (hd.heap_1 w.params).In G ∧ wpAny (model Challenge.rw_oc0165_02.row.prog w) (Am 0 0) (pure ()) (fun _ _ => True) (fun _ _ => True) s := ⟨D.X, wpAny_pure trivial⟩
  revert fill
  k_fill
  intro _
  refine' c_initG (rest := [.int i ti]) (ti := ti) (FdIs.of ?h) ?e D St hx hd' hxG hdG hret
  case h => k_is
  case e => first | exact BindsTo.of_eq rfl | (refine' binds_K (D.X.keeps St) ?b1 ?b2 ?b3 ?b4 ?b5; (case b1 => exact rfl); (case b2 => k_is); (case b3 => exact rfl); (case b4 => exact rfl); (case b5 => exact rfl))
end
section
variable {w : World} {p : Program} {loose : List Str} {mean : ExcName → Option Value} {mg mb : Str → Option Value} {G g : Heap} {L : Addr} {m : Str → Option Value} {nw : List (Addr × Obj)} {A : Around} {s : Shared} {Q E : Value → Shared → Prop}
theorem k_init : findIn (hd.heap_1 w.params) (.ref 178) "__init__" = some (some (.ref 115)) := by kernel_rfl
theorem k_init_fn : typeIn (hd.heap_1 w.params) (.ref 115) = some (.type "function") := by kernel_rfl
/-- an accumulator is made -/
theorem u_make {i : Int} {ti : Tok} (F : Fr g L s.heap m) (N : News g L s.heap nw) (X : (hd.heap_1 w.params).In g) (D : Gd w p loose mean mg mb G) (hs : G.StaysIn g) (hh : A.handled = none) (hdp : A.depth ≤ 700) (hu : A.units ≤ 500)
    (k : ∀ h' tk' x d n' hs0 t0, Fr g L h' m → News g L h' ((x, acObj d #[] n') :: (d, acDict hs0 t0 (.int i ti) 1) :: nw) → (∀ q ∈ nw, q.1 < d) → d < x → Q (.ref x) { s with heap := h', toks := tk' }) :
    wpAny (model Challenge.rw_oc0165_02.row.prog w) A (call (.ref 178) [.int i ti]) Q E s := by
  obtain ⟨hp, gs, dr, tk, os⟩ := s
  refine wpAny_call (make_coreL (nl_args _ _) (makesL_of (X.keeps F.keep) k_makes) (looks_findIn (X.keeps F.keep) k_init) (fun self => bind_fn (X.keeps F.keep) self k_init_fn) ?_)
  have kk : ∀ b o, hp.get? b = some o → ((hp.push emptyDict).push (instL 178 hp.objs.size)).get? b = some o := fun b o e => Heap.get?_push_of_some _ (Heap.get?_push_of_some _ e)
  have hx : ((hp.push emptyDict).push (instL 178 hp.objs.size)).get? (hp.objs.size + 1) = some (instL 178 hp.objs.size) := by heap_get
  have hd0 : ((hp.push emptyDict).push (instL 178 hp.objs.size)).get? hp.objs.size = some emptyDict := by heap_get
  have hG : ∀ b, hp.objs.size ≤ b → G.get? b = none := fun b hb => by
    cases e : G.get? b with
    | none => rfl
    | some o => exact absurd (Heap.lt_size (F.keep _ _ (hs b o e))) (Nat.not_lt.mpr hb)
  refine code_up (D := 800) (U := 600) ?_ ?_ ?_ (c_init (n := 0) D (fun b o e => kk _ _ (F.keep _ _ (hs b o e))) hx hd0 (hG _ (Nat.le_succ _)) (hG _ (Nat.le_refl _)) ?_)
  · exact hh
  · show A.depth + (Code.builtin "type.__call__" ⟨[.ref 178, .int i ti], []⟩).weight ≤ 800
    have : (Code.builtin "type.__call__" ⟨[.ref 178, .int i ti], []⟩).weight ≤ 50 := Nat.le_of_ble_eq_true (by kernel_rfl)
    (first | lia | omega)
  · show A.units + (Code.builtin "type.__call__" ⟨[.ref 178, .int i ti], []⟩).cUnits ≤ 600
    have : (Code.builtin "type.__call__" ⟨[.ref 178, .int i ti], []⟩).cUnits ≤ 50 := Nat.le_of_ble_eq_true (by kernel_rfl)
    (first | lia | omega)
  · intro h' tk' n' hs0 t0 hk hx' hd'
    refine ⟨rfl, ?_⟩
    have up : ∀ b o, hp.get? b = some o → h'.get? b = some o := fun b o e => hk b o (kk b o e) (Nat.ne_of_lt (Nat.lt_succ_of_lt (Heap.lt_size e))) (Nat.ne_of_lt (Heap.lt_size e))
    have hn1 : hp.get? (hp.objs.size + 1) = none := by
      cases e : hp.get? (hp.objs.size + 1) with
      | none => rfl
      | some o => exact absurd (Heap.lt_size e) (Nat.not_lt.mpr (Nat.le_succ _))
    have hn0 : hp.get? hp.objs.size = none := by
      cases e : hp.get? hp.objs.size with
      | none => rfl
      | some o => exact absurd (Heap.lt_size e) (Nat.lt_irrefl _)
    exact k h' tk' (hp.objs.size + 1) hp.objs.size n' hs0 t0 (frK F up) (news_more (news_more (newsK N up) F hn0 hd') F hn1 hx') (fun q hq => Heap.lt_size (N q hq).1) (Nat.lt_succ_self _)
end
end Mine
end

section
-- OnlyB
example : True := by w_top off; trivial
open PySem PySem.W PyProof.Rows PySem.Calls PySem.Spec
set_option maxRecDepth 100000
namespace Mine
section
variable {w : World} {p : Program} {loose : List Str} {mean : ExcName → Option Value} {mg mb : Str → Option Value} {G g : Heap} {L x d : Addr} {m : Str → Option Value} {nw : List (Addr × Obj)} {nw' : Array Value → List (Addr × Obj)} {A : Around} {s : Shared} {E : Value → Shared → Prop} {ps : Array Value} {n : Nat}
theorem k_bool : findIn (hd.heap_1 w.params) (.ref 178) "__bool__" = some none := by kernel_rfl
theorem len_body {Q : Value → Shared → Prop} {K : Frag} {ox : Obj} {C f : Addr} {od : Option Obj} (X : K.In s.heap) (I : InstAt s.heap x ox C od) (hs : findIn K (.ref C) "__len__" = some (some (.ref f))) (hf : isFn K (.ref f) = true)
    (h : wpAny (model Challenge.rw_oc0165_02.row.prog w) A (call (.ref f) [.ref x]) (PySem.W.LenBack Q) E s) : wpAny (model Challenge.rw_oc0165_02.row.prog w) A (Builtin.«len» ⟨[.ref x], []⟩) (fun fin s' => ∃ v, fin = .done (.ret v) ∧ Q v s') E s := by
  unfold Builtin.«len»
  refine wpAny_bind (m := oneArg "len" _) (wpAny_pure ?_)
  refine wpAny_bind (m := callSpecial? (.ref x) (Str.ofString "__len__")) (special_fn X I hs (beq_iff_eq.mp hf) (wpAny_mono h (fun r s' hr => ?_) fun _ _ y => y))
  cases r <;> first | exact hr.elim | skip
  rename_i n u
  obtain ⟨⟨h0, h1⟩, hq⟩ := hr
  refine wpAny_bind (wpAny_holding (wpAny_pure ?_))
  refine wpAny_bind (wpAny_letGo ?_)
  show wpAny _ _ (if n < 0 then _ else _) _ _ _
  rw [if_neg (by omega)]
  show wpAny _ _ (if n ≥ 2 ^ 63 then _ else _) _ _ _
  rw [if_neg (by omega)]
  exact wpAny_bind (wpAny_mkInt (wpAny_pure ⟨_, rfl, hq⟩))
/-- the truth of an accumulator is whether its signs are none -/
theorem u_truthy {Q : Bool → Shared → Prop} {l : List (Str × Str)} {hs0 : Int} {t0 : Tok} {i0 : Int} {ti : Tok} {n0 : Nat} {tb : Array Value} (F : Fr g L s.heap m) (N : News g L s.heap nw) (X : (hd.heap_1 w.params).In g) (D : Gd w p loose mean mg mb G) (hs : G.StaysIn g)
    (hh : A.in1.handled = none) (hdp : A.in1.depth ≤ 800) (hu : A.in1.units ≤ 600) (hx : (x, acObj d ps n) ∈ nw ∨ g.get? x = some (acObj d ps n)) (hd' : (d, acDict hs0 t0 (.int i0 ti) n0) ∈ nw ∨ g.get? d = some (acDict hs0 t0 (.int i0 ti) n0))
    (U : ∀ tb', Upd 140 (tabObj tb) (tabObj tb') nw (nw' tb')) (htr : TriplesOk tb.toList) (hPG : G.get? 140 = none) (hbare : AllBare s.gens) (hp : Parts s.heap ps l) (hsh : Short l) (hi0 : 0 ≤ i0) (hi1 : i0 ≤ 1000)
    (k : ∀ h' gs' tk' tb', Fr g L h' m → News g L h' (nw' tb') → TriplesOk tb'.toList → AllBare gs' → (∀ b o, s.heap.get? b = some o → o.cls = .type "tuple" → h'.get? b = some o) → Q (i0 + (lenOf l : Nat) != 0) ⟨h', gs', s.drawn, tk', s.os⟩) :
    wpAny (model Challenge.rw_oc0165_02.row.prog w) A (truthy (.ref x)) Q E s := by
  have hx' := at_of F N hx
  have hd2 := at_of F N hd'
  have hP := tab_mem (U tb) N
  have I := ac_at hx' hd2
  have Xs := X.keeps F.keep
  unfold truthy
  refine wpAny_bind (m := callSpecial? (.ref x) (Str.ofString "__bool__")) (wpAny_bind (wpAny_bind (I.type.here ((looks_findIn Xs k_bool).here (wpAny_pure ?_)))))
  refine wpAny_bind (wpAny_bind (I.type.here ((looks_findIn Xs k_len).here ?_)))
  show wpAny _ _ (if (some (Value.ref 145)).isNone = true then _ else _) _ _ _
  rw [if_neg (by simp)]
  obtain ⟨hsz, Ts, ta, tb2, f⟩ := hp
  have key : wpAny (model Challenge.rw_oc0165_02.row.prog w) A (runValue (.builtin "len" ⟨[.ref x], []⟩)) (fun v s' => ∃ t', v = .int (i0 + (lenOf l : Nat)) t' ∧ Q (i0 + (lenOf l : Nat) != 0) s') E s := by
    refine wpAny_runValue (codeAny_builtin entry_len ?_)
    rw [Around.under_plainId plain_len _]
    refine wpAny_mono (len_body (Q := fun v s' => ∃ t', v = .int (i0 + (lenOf l : Nat)) t' ∧ Q (i0 + (lenOf l : Nat) != 0) s') Xs I k_len k_len_fn (wp_up hh hdp hu ?_)) (fun fin s' h' => by obtain ⟨r, rfl, hq⟩ := h'; exact hq) fun _ _ e => e
    refine c_len (fa := fun j => (l.getD j (Str.empty, Str.empty)).1) (fb := fun j => (l.getD j (Str.empty, Str.empty)).2) D (stays_fr F hs) hx' hd2 hP htr hPG hbare (fun j hj => (f j (hsz ▸ hj)).1) (fun j hj => (f j (hsz ▸ hj)).2) (by have := hsh.1; omega) (by omega) hi1 hsh.at ?_
    intro s' t' tb' hk hP' htr' hb' hdr hos
    obtain ⟨h', gs', dr', tk', os'⟩ := s'
    dsimp only at hk hP' hb' hdr hos
    subst hdr hos
    have hsm := lenOf_small hsh
    rw [hsz, preSum_len l l.length (Nat.le_refl _), List.take_length]
    obtain ⟨F', N'⟩ := upd_news F N (U tb') hk hP'
    exact ⟨⟨by omega, by omega⟩, _, rfl, k h' gs' _ tb' F' N' htr' hb' fun b o e hc => hk b o e (by rintro rfl; rw [hP] at e; cases e; cases hc)⟩
  exact wpAny_bind (wpAny_mono key (fun r s' h' => by obtain ⟨t', rfl, hq⟩ := h'; exact wpAny_pure hq) fun _ _ e => e)
end
end Mine
end

section
-- Only2B
example : True := by w_top off; trivial
open PySem PySem.W PyProof.Rows PySem.Calls PySem.Spec
set_option maxRecDepth 100000
namespace Mine
section
variable {w : World} {p : Program} {loose : List Str} {mean : ExcName → Option Value} {mg mb : Str → Option Value} {G : Heap} {s : Shared} {Q E : Value → Shared → Prop}
set_option maxHeartbeats 1000000
theorem c_onlyws {x d : Addr} {ps : Array Value} {n : Nat} {hs0 : Int} {t0 : Tok} {ti : Tok} {n0 : Nat} {tb tc : Array Value} {l : List (Str × Str)}
    (D : Gd w p loose mean mg mb G) (St : G.StaysIn s.heap) (hx : s.heap.get? x = some (acObj d ps n)) (hd' : s.heap.get? d = some (acDict hs0 t0 (.int 0 ti) n0))
    (hP : s.heap.get? 140 = some (tabObj tb)) (htr : TriplesOk tb.toList) (hPG : G.get? 140 = none) (hP2 : s.heap.get? 147 = some (tabObj tc)) (htr2 : TriplesOk tc.toList) (hPG2 : G.get? 147 = none) (hbare : AllBare s.gens)
    (hp : Parts s.heap ps l) (hsh : Short l) (hpos : 0 < lenOf l)
    (hret : ∀ s' tb' tc', (∀ b o, s.heap.get? b = some o → b ≠ 140 → b ≠ 147 → s'.heap.get? b = some o) → s'.heap.get? 140 = some (tabObj tb') → TriplesOk tb'.toList → s'.heap.get? 147 = some (tabObj tc') → TriplesOk tc'.toList → AllBare s'.gens → s'.drawn = s.drawn → s'.os = s.os → Q (.bool (Txt.isspace (strOf l))) s') :
    wpAny (model Challenge.rw_oc0165_02.row.prog w) (Am 700 500) (call (.ref 167) [.ref x]) Q E s := by
  have fill : (hd.heap_1 w.params).In G := D.X
  revert fill
  k_fill
  intro _
  refine wpAny_call ?_
  refine' enterP (binds := [("self", .ref x)]) [(140, tabObj tb), (147, tabObj tc)] D St ?k3 ?k4 ?k6 ?k7 ?k8 ?k9 ?kB ?c5 ?c2 ?c3 ?c4 ?_
  case k3 => exact all_cons (hP) (all_cons (hP2) all_nil)
  case k4 => exact all_cons (hPG) (all_cons (hPG2) all_nil)
  (((case k6 => k_is); (case k7 => k_is); (case k8 => decide)))
  case k9 => exact BindsTo.of_eq rfl
  (((case kB => exact locs rfl); (case c5 => decide); (case c2 => exact rfl); (case c3 => exact rfl); (case c4 => exact rfl)))
  intro g L h hg hL F N X T l1 hkeep hst
  replace hkeep : ∀ b o, s.heap.get? b = some o → b ≠ 140 → b ≠ 147 → g.get? b = some o := fun b o e hb hb2 => hkeep b o e (by exact all_cons (hb.symm) (all_cons (hb2.symm) all_nil))
  have hxP : x ≠ 140 := by rintro rfl; rw [hx] at hP; cases hP
  have hdP : d ≠ 140 := by rintro rfl; rw [hd'] at hP; simp at hP
  have hxP2 : x ≠ 147 := by rintro rfl; rw [hx] at hP2; cases hP2
  have hdP2 : d ≠ 147 := by rintro rfl; rw [hd'] at hP2; simp at hP2
  have hxg := hkeep _ _ hx hxP hxP2
  have hdg := hkeep _ _ hd' hdP hdP2
  dsimp only
  try k_fold
  (repeat' (first | (fail_if_success (with_reducible show wpAny _ _ (exec (Stmt.For _ _ _ _ _) _) _ _ _)); (first | (k_unfold; (try dsimp only)) | (first | ((with_reducible show wpAny _ _ (getAttr (Value.ref _) _ _) _ _ _); (k_here; k_dflt (refine' m_getattr ?k1 ?k2 ?k3 ?k4 ?k5 ?k6 ?_; (case k1 => k_asm); (case k2 => k_asm); (case k3 => k_asm); (case k4 => (first | exact .inr (by assumption) | exact .inl (by k_mem))); (case k5 => (first | exact .inr (by assumption) | exact .inl (by k_mem))); (case k6 => rfl)))) | walk1) | (dsimp only; (first | ((with_reducible show wpAny _ _ (getAttr (Value.ref _) _ _) _ _ _); (k_here; k_dflt (refine' m_getattr ?k1 ?k2 ?k3 ?k4 ?k5 ?k6 ?_; (case k1 => k_asm); (case k2 => k_asm); (case k3 => k_asm); (case k4 => (first | exact .inr (by assumption) | exact .inl (by k_mem))); (case k5 => (first | exact .inr (by assumption) | exact .inl (by k_mem))); (case k6 => rfl)))) | walk1)))))
  have tup : ∀ b o, s.heap.get? b = some o → o.cls = .type "tuple" → b ≠ 140 ∧ b ≠ 147 := fun b o e hc => ⟨by rintro rfl; rw [hP] at e; (cases e; cases hc), by rintro rfl; rw [hP2] at e; (cases e; cases hc)⟩
  have hpg : Parts g ps l := hp.at fun b o e hc => hkeep b o e (tup b o e hc).1 (tup b o e hc).2
  have kf := F.keep
  refine u_truthy (nw' := fun tb' => [(140, tabObj tb'), (147, tabObj tc)]) F N X D hst rfl (by decide) (by decide) (.inr hxg) (.inr hdg) (fun tb' => .head (by rintro q (_ | ⟨_, hq⟩); (· exact (show (147 : Nat) ≠ 140 by decide)); cases hq)) htr hPG hbare (hpg.keeps F.keep) hsh (by decide) (by decide) ?_
  intro h1 gs1 tk1 tb1 F1 N1 htr1 hb1 hk1
  clear F N
  dsimp only at F1 N1 ⊢
  have hne : (0 + (lenOf l : Nat) != (0 : Int)) = true := by simp; omega
  rw [hne]
  (repeat' (first | (fail_if_success (with_reducible show wpAny _ _ (exec (Stmt.For _ _ _ _ _) _) _ _ _)); (first | (k_unfold; (try dsimp only)) | (first | ((with_reducible show wpAny _ _ (getAttr (Value.ref _) _ _) _ _ _); (k_here; k_dflt (refine' m_getattr ?k1 ?k2 ?k3 ?k4 ?k5 ?k6 ?_; (case k1 => k_asm); (case k2 => k_asm); (case k3 => k_asm); (case k4 => (first | exact .inr (by assumption) | exact .inl (by k_mem))); (case k5 => (first | exact .inr (by assumption) | exact .inl (by k_mem))); (case k6 => rfl)))) | walk1) | (dsimp only; (first | ((with_reducible show wpAny _ _ (getAttr (Value.ref _) _ _) _ _ _); (k_here; k_dflt (refine' m_getattr ?k1 ?k2 ?k3 ?k4 ?k5 ?k6 ?_; (case k1 => k_asm); (case k2 => k_asm); (case k3 => k_asm); (case k4 => (first | exact .inr (by assumption) | exact .inl (by k_mem))); (case k5 => (first | exact .inr (by assumption) | exact .inl (by k_mem))); (case k6 => rfl)))) | walk1)))))
  refine u_str (nw' := fun tc' => [(140, tabObj tb1), (147, tabObj tc')]) F1 N1 X D hst (by decide) rfl (by decide) (by decide) (.inr hxg) (.inr hdg) (fun tb' => .tail (show (140 : Nat) ≠ 147 by decide) (.head fun _ q => nomatch q)) htr2 hPG2 hb1 (hpg.keeps F1.keep) hsh ?_
  intro h2 gs2 tk2 t2 tc2 F2 N2 htr2' hb2 hk2
  clear F1 N1
  dsimp only at F2 N2 ⊢
  (repeat' (first | (fail_if_success (with_reducible show wpAny _ _ (exec (Stmt.For _ _ _ _ _) _) _ _ _)); (first | (k_unfold; (try dsimp only)) | (first | ((with_reducible show wpAny _ _ (getAttr (Value.ref _) _ _) _ _ _); (k_here; k_dflt (refine' m_getattr ?k1 ?k2 ?k3 ?k4 ?k5 ?k6 ?_; (case k1 => k_asm); (case k2 => k_asm); (case k3 => k_asm); (case k4 => (first | exact .inr (by assumption) | exact .inl (by k_mem))); (case k5 => (first | exact .inr (by assumption) | exact .inl (by k_mem))); (case k6 => rfl)))) | walk1) | (dsimp only; (first | ((with_reducible show wpAny _ _ (getAttr (Value.ref _) _ _) _ _ _); (k_here; k_dflt (refine' m_getattr ?k1 ?k2 ?k3 ?k4 ?k5 ?k6 ?_; (case k1 => k_asm); (case k2 => k_asm); (case k3 => k_asm); (case k4 => (first | exact .inr (by assumption) | exact .inl (by k_mem))); (case k5 => (first | exact .inr (by assumption) | exact .inl (by k_mem))); (case k6 => rfl)))) | walk1)))))
  exact hret _ _ _ (fun b o e hb hb2 => F2.keep _ _ (hkeep b o e hb hb2)) (N2 _ (.head _)).1 htr1 (N2 _ (.tail _ (.head _))).1 htr2' hb2 rfl rfl
end
section
variable {w : World} {p : Program} {loose : List Str} {mean : ExcName → Option Value} {mg mb : Str → Option Value} {G g : Heap} {L x d : Addr} {m : Str → Option Value} {nw : List (Addr × Obj)} {nw1 : Array Value → List (Addr × Obj)} {nw2 : Array Value → Array Value → List (Addr × Obj)} {A : Around} {s : Shared} {Q E : Value → Shared → Prop} {ps : Array Value} {n : Nat}
theorem u_onlyws {l : List (Str × Str)} {hs0 : Int} {t0 : Tok} {ti : Tok} {n0 : Nat} {tb tc : Array Value} (F : Fr g L s.heap m) (N : News g L s.heap nw) (D : Gd w p loose mean mg mb G) (hs : G.StaysIn g)
    (hh : A.handled = none) (hdp : A.depth ≤ 700) (hu : A.units ≤ 500) (hx : (x, acObj d ps n) ∈ nw ∨ g.get? x = some (acObj d ps n)) (hd' : (d, acDict hs0 t0 (.int 0 ti) n0) ∈ nw ∨ g.get? d = some (acDict hs0 t0 (.int 0 ti) n0))
    (U : ∀ tb', Upd 140 (tabObj tb) (tabObj tb') nw (nw1 tb')) (htr : TriplesOk tb.toList) (hPG : G.get? 140 = none) (U2 : ∀ tb' tc', Upd 147 (tabObj tc) (tabObj tc') (nw1 tb') (nw2 tb' tc')) (htr2 : TriplesOk tc.toList) (hPG2 : G.get? 147 = none) (hbare : AllBare s.gens) (hp : Parts s.heap ps l) (hsh : Short l) (hpos : 0 < lenOf l)
    (k : ∀ h' gs' tk' tb' tc', Fr g L h' m → News g L h' (nw2 tb' tc') → TriplesOk tb'.toList → TriplesOk tc'.toList → AllBare gs' → (∀ b o, s.heap.get? b = some o → o.cls = .type "tuple" → h'.get? b = some o) → Q (.bool (Txt.isspace (strOf l))) ⟨h', gs', s.drawn, tk', s.os⟩) :
    wpAny (model Challenge.rw_oc0165_02.row.prog w) A (call (.ref 167) [.ref x]) Q E s := by
  have hx' := at_of F N hx
  have hd2 := at_of F N hd'
  have hP := tab_mem (U tb) N
  have hP2 : s.heap.get? 147 = some (tabObj tc) := by
    rcases upd_cases (U tb) _ (upd_mem (U2 tb tc)) with e | e
    · exact absurd (congrArg Prod.fst e) (show (147 : Nat) ≠ 140 by decide)
    · exact (N _ e.1).1
  refine wp_up hh hdp hu (c_onlyws D (stays_fr F hs) hx' hd2 hP htr hPG hP2 htr2 hPG2 hbare hp hsh hpos ?_)
  intro s' tb' tc' hk h1 ht1 h2 ht2 hb hdr hos
  obtain ⟨h', gs', dr', tk', os'⟩ := s'
  dsimp only at hk h1 h2 hb hdr hos
  subst hdr hos
  obtain ⟨F', N'⟩ := upd_news2 F N (U tb') (U2 tb' tc') (by decide) hk h1 h2
  refine k h' gs' tk' tb' tc' F' N' ht1 ht2 hb fun b o e hc => hk b o e ?_ ?_
  · rintro rfl; rw [hP] at e; (cases e; cases hc)
  · rintro rfl; rw [hP2] at e; (cases e; cases hc)
end
end Mine
end

section
-- Vf0B
example : True := by w_top off; trivial
open PySem PySem.W PyProof.Rows PySem.Calls PySem.Spec
set_option maxRecDepth 100000
namespace Mine
/-- a formatter's cells: itself, its dict, its lines, its accumulator and the dict of this, the two tables; and what else there is -/
noncomputable abbrev led7 (V : Addr) (o1 : Obj) (dv : Addr) (o2 : Obj) (Ln : Addr) (o3 : Obj) (x : Addr) (o4 : Obj) (d : Addr) (o5 o6 o7 : Obj) (rest : List (Addr × Obj)) : List (Addr × Obj) := (V, o1) :: (dv, o2) :: (Ln, o3) :: (x, o4) :: (d, o5) :: (140, o6) :: (147, o7) :: rest
/-- a formatter's dict -/
noncomputable abbrev vfDict (hh : Nat → Int) (tt : Nat → Tok) (vm vc vl : Value) (sg : Value) (Ln x : Addr) (n : Nat) : Obj :=
  dictOf [⟨hh 0, .str "_maxlen" (tt 0), vm⟩, ⟨hh 1, .str "_continuation_ws" (tt 1), vc⟩, ⟨hh 2, .str "_continuation_ws_len" (tt 2), vl⟩, ⟨hh 3, .str "_splitchars" (tt 3), sg⟩, ⟨hh 4, .str "_lines" (tt 4), .ref Ln⟩, ⟨hh 5, .str "_current_line" (tt 5), .ref x⟩] n
structure Apart (V dv Ln x d : Addr) : Prop where
  n1 : Ln ≠ x
  n2 : Ln ≠ d
  n3 : Ln ≠ 140
  n4 : Ln ≠ 147
  n5 : x ≠ d
  n6 : x ≠ 140
  n7 : x ≠ 147
  n8 : d ≠ 140
  n9 : d ≠ 147
  n10 : V ≠ dv
  n11 : V ≠ Ln
  n12 : V ≠ x
  n13 : V ≠ d
  n14 : V ≠ 140
  n15 : V ≠ 147
  n16 : dv ≠ Ln
  n17 : dv ≠ x
  n18 : dv ≠ d
  n19 : dv ≠ 140
  n20 : dv ≠ 147
noncomputable def Off7 (V dv Ln x d : Addr) (rest : List (Addr × Obj)) : Prop := ∀ q ∈ rest, q.1 ≠ V ∧ q.1 ≠ dv ∧ q.1 ≠ Ln ∧ q.1 ≠ x ∧ q.1 ≠ d ∧ q.1 ≠ 140 ∧ q.1 ≠ 147
section
variable {V dv Ln x d : Addr} {o1 o2 o3 o4 o5 o6 o7 o' : Obj} {rest : List (Addr × Obj)}
theorem Off7.nil : Off7 V dv Ln x d [] := fun _ q => nomatch q
theorem Off7.cons {T : Addr} {o : Obj} (hT : ∀ q ∈ led7 V o1 dv o2 Ln o3 x o4 d o5 o6 o7 rest, q.1 ≠ T) (R : Off7 V dv Ln x d rest) : Off7 V dv Ln x d ((T, o) :: rest) := by
  intro q hq
  rcases List.mem_cons.mp hq with rfl | hq
  · exact ⟨(hT _ (.head _)).symm, (hT _ (.tail _ (.head _))).symm, (hT _ (.tail _ (.tail _ (.head _)))).symm, (hT _ (.tail _ (.tail _ (.tail _ (.head _))))).symm, (hT _ (.tail _ (.tail _ (.tail _ (.tail _ (.head _)))))).symm, (hT _ (.tail _ (.tail _ (.tail _ (.tail _ (.tail _ (.head _))))))).symm, (hT _ (.tail _ (.tail _ (.tail _ (.tail _ (.tail _ (.tail _ (.head _)))))))).symm⟩
  · exact R q hq
theorem Apart.L (H : Apart V dv Ln x d) (R : Off7 V dv Ln x d rest) : Upd Ln o3 o' (led7 V o1 dv o2 Ln o3 x o4 d o5 o6 o7 rest) (led7 V o1 dv o2 Ln o' x o4 d o5 o6 o7 rest) :=
  .tail H.n11 (.tail H.n16 (.head (by
    refine all_cons ?_ (all_cons ?_ (all_cons ?_ (all_cons ?_ (fun q hq => ?_))))
    · exact H.n1.symm
    · exact H.n2.symm
    · exact H.n3.symm
    · exact H.n4.symm
    · exact (R q hq).2.2.1)))
theorem Apart.X (H : Apart V dv Ln x d) (R : Off7 V dv Ln x d rest) : Upd x o4 o' (led7 V o1 dv o2 Ln o3 x o4 d o5 o6 o7 rest) (led7 V o1 dv o2 Ln o3 x o' d o5 o6 o7 rest) :=
  .tail H.n12 (.tail H.n17 (.tail H.n1 (.head (by
    refine all_cons ?_ (all_cons ?_ (all_cons ?_ (fun q hq => ?_)))
    · exact H.n5.symm
    · exact H.n6.symm
    · exact H.n7.symm
    · exact (R q hq).2.2.2.1))))
theorem Apart.D (H : Apart V dv Ln x d) (R : Off7 V dv Ln x d rest) : Upd d o5 o' (led7 V o1 dv o2 Ln o3 x o4 d o5 o6 o7 rest) (led7 V o1 dv o2 Ln o3 x o4 d o' o6 o7 rest) :=
  .tail H.n13 (.tail H.n18 (.tail H.n2 (.tail H.n5 (.head (by
    refine all_cons ?_ (all_cons ?_ (fun q hq => ?_))
    · exact H.n8.symm
    · exact H.n9.symm
    · exact (R q hq).2.2.2.2.1)))))
theorem Apart.T (H : Apart V dv Ln x d) (R : Off7 V dv Ln x d rest) : Upd 140 o6 o' (led7 V o1 dv o2 Ln o3 x o4 d o5 o6 o7 rest) (led7 V o1 dv o2 Ln o3 x o4 d o5 o' o7 rest) :=
  .tail H.n14 (.tail H.n19 (.tail H.n3 (.tail H.n6 (.tail H.n8 (.head (by
    refine all_cons ?_ (fun q hq => ?_)
    · exact (show (147 : Nat) ≠ 140 by decide)
    · exact (R q hq).2.2.2.2.2.1))))))
theorem Apart.S (H : Apart V dv Ln x d) (R : Off7 V dv Ln x d rest) : Upd 147 o7 o' (led7 V o1 dv o2 Ln o3 x o4 d o5 o6 o7 rest) (led7 V o1 dv o2 Ln o3 x o4 d o5 o6 o' rest) :=
  .tail H.n15 (.tail H.n20 (.tail H.n4 (.tail H.n7 (.tail H.n9 (.tail (show (140 : Nat) ≠ 147 by decide) (.head fun q hq => (R q hq).2.2.2.2.2.2))))))
end
/-- a new object goes behind the cells -/
theorem news_behind {g h : Heap} {L V dv Ln x d T : Addr} {o o1 o2 o3 o4 o5 o6 o7 : Obj} {rest : List (Addr × Obj)} (N : News g L h ((T, o) :: led7 V o1 dv o2 Ln o3 x o4 d o5 o6 o7 rest)) : News g L h (led7 V o1 dv o2 Ln o3 x o4 d o5 o6 o7 ((T, o) :: rest)) := by
  intro q hq
  refine N q ?_
  simp only [led7, List.mem_cons] at hq ⊢
  rcases hq with h | h | h | h | h | h | h | h | h <;> simp [h]
theorem ne_cls {h : Heap} {b c : Addr} {o o' : Obj} (e : h.get? b = some o) (e' : h.get? c = some o') (hc : o.cls ≠ o'.cls) : b ≠ c := fun q => hc (by subst q; rw [e] at e'; cases e'; rfl)
/-- a formatter lies in the heap -/
structure VFAt (h : Heap) (V dv Ln x d : Addr) (mx : Int) (sg : Str) (lines : List Str) (l : List (Str × Str)) (i0 : Int) (hh : Nat → Int) (tt : Nat → Tok) (tm : Tok) (vc vl : Value) (tsg : Tok) (nd : Nat) (lns : List Value) (nl : Nat) (ps : Array Value) (n : Nat) (hs0 : Int) (t0 ti : Tok) (n0 : Nat) (tb tc : Array Value) : Prop where
  hV : h.get? V = some (instObj 94 dv)
  hdv : h.get? dv = some (vfDict hh tt (.int mx tm) vc vl (.str sg tsg) Ln x nd)
  hLn : h.get? Ln = some (listOf lns.toArray nl)
  hls : StrsAre lns lines
  hx : h.get? x = some (acObj d ps n)
  hd : h.get? d = some (acDict hs0 t0 (.int i0 ti) n0)
  hP : h.get? 140 = some (tabObj tb)
  htr : TriplesOk tb.toList
  hP2 : h.get? 147 = some (tabObj tc)
  htr2 : TriplesOk tc.toList
  hp : Parts h ps l
structure OffG (G : Heap) (V dv Ln x d : Addr) : Prop where
  hV : G.get? V = none
  hdv : G.get? dv = none
  hLn : G.get? Ln = none
  hx : G.get? x = none
  hd : G.get? d = none
  hP : G.get? 140 = none
  hP2 : G.get? 147 = none
section
variable {h : Heap} {V dv Ln x d : Addr} {mx : Int} {sg : Str} {lines : List Str} {l : List (Str × Str)} {i0 : Int} {hh : Nat → Int} {tt : Nat → Tok} {tm : Tok} {vc vl : Value} {tsg : Tok} {nd : Nat} {lns : List Value} {nl : Nat} {ps : Array Value} {n : Nat} {hs0 : Int} {t0 ti : Tok} {n0 : Nat} {tb tc : Array Value}
theorem VFAt.apart (H : VFAt h V dv Ln x d mx sg lines l i0 hh tt tm vc vl tsg nd lns nl ps n hs0 t0 ti n0 tb tc) : Apart V dv Ln x d where
  n1 := ne_cls H.hLn H.hx (by simp)
  n2 := ne_cls H.hLn H.hd (by simp)
  n3 := ne_cls H.hLn H.hP (by simp)
  n4 := ne_cls H.hLn H.hP2 (by simp)
  n5 := ne_cls H.hx H.hd (by simp)
  n6 := ne_cls H.hx H.hP (by simp)
  n7 := ne_cls H.hx H.hP2 (by simp)
  n8 := ne_cls H.hd H.hP (by simp)
  n9 := ne_cls H.hd H.hP2 (by simp)
  n10 := ne_cls H.hV H.hdv (by simp)
  n11 := ne_cls H.hV H.hLn (by simp)
  n12 := ne_cls H.hV H.hx (by simp)
  n13 := ne_cls H.hV H.hd (by simp)
  n14 := ne_cls H.hV H.hP (by simp)
  n15 := ne_cls H.hV H.hP2 (by simp)
  n16 := ne_cls H.hdv H.hLn (by simp)
  n17 := ne_cls H.hdv H.hx (by simp)
  n18 := by rintro rfl; have := H.hdv; rw [H.hd] at this; simp at this
  n19 := ne_cls H.hdv H.hP (by simp)
  n20 := ne_cls H.hdv H.hP2 (by simp)
theorem VFAt.off {o : Obj} {b : Addr} (H : VFAt h V dv Ln x d mx sg lines l i0 hh tt tm vc vl tsg nd lns nl ps n hs0 t0 ti n0 tb tc) (e : h.get? b = some o) (hc : o.cls = .type "tuple") : b ≠ V ∧ b ≠ dv ∧ b ≠ Ln ∧ b ≠ x ∧ b ≠ d ∧ b ≠ 140 ∧ b ≠ 147 :=
  ⟨ne_cls e H.hV (by simp [hc]), ne_cls e H.hdv (by simp [hc]), ne_cls e H.hLn (by simp [hc]), ne_cls e H.hx (by simp [hc]), ne_cls e H.hd (by simp [hc]), ne_cls e H.hP (by simp [hc]), ne_cls e H.hP2 (by simp [hc])⟩
end
section
variable {w : World} {p : Program} {loose : List Str} {mean : ExcName → Option Value} {mg mb : Str → Option Value} {G : Heap} {s : Shared}
  {R : Result → Shared → Prop} {name qual : Str} {params : Arguments} {body : List Stmt} {scope : Scope} {cl : List (Str × Addr)} {dV kV doc pm cdv ct oc : Value} {an od : Option Addr} {osl : Array (Option Value)} {f : Addr} {args : Args} {binds : List (Str × Value)} {dp un : Nat}
  {V dv Ln x d : Addr} {mx : Int} {sg : Str} {lines : List Str} {l : List (Str × Str)} {i0 : Int} {hh : Nat → Int} {tt : Nat → Tok} {tm : Tok} {vc vl : Value} {tsg : Tok} {nd : Nat} {lns : List Value} {nl : Nat} {ps : Array Value} {n : Nat} {hs0 : Int} {t0 ti : Tok} {n0 : Nat} {tb tc : Array Value}
/-- a method of a formatter is entered -/
theorem enterV (H : VFAt s.heap V dv Ln x d mx sg lines l i0 hh tt tm vc vl tsg nd lns nl ps n hs0 t0 ti n0 tb tc) (O : OffG G V dv Ln x d) (D : Gd w p loose mean mg mb G) (S : G.StaysIn s.heap)
    (ho : (hd.heap_1 w.params).lookup f = some ⟨oc, od, .func (fnX name qual params body scope cl dV kV doc pm an cdv ct), osl⟩) (hcd : codeIn (hd.heap_1 w.params) cdv qual = true) (hroom : dp < recursionLimit)
    (hbind : BindsTo s (fnX name qual params body scope cl dV kV doc pm an cdv ct) args binds) (hloc : ∀ y ∈ binds, scope.names.lookup y.1 = some .local)
    (hcell : ∀ x ∈ scope.names, x.2 ≠ .cell) (hco : scope.isCoroutine = false) (hgen : scope.isGenerator = false) (hk : scope.kind = .function)
    (h : ∀ g L' h₁, L' = s.heap.objs.size → Fr g L' h₁ (fun y => binds.reverse.lookup y) → News g L' h₁ (led7 V (instObj 94 dv) dv (vfDict hh tt (.int mx tm) vc vl (.str sg tsg) Ln x nd) Ln (listOf lns.toArray nl) x (acObj d ps n) d (acDict hs0 t0 (.int i0 ti) n0) (tabObj tb) (tabObj tc) []) → (hd.heap_1 w.params).In g → Top p loose mean mg mb g →
      (∀ b o, s.heap.get? b = some o → b ≠ V → b ≠ dv → b ≠ Ln → b ≠ x → b ≠ d → b ≠ 140 → b ≠ 147 → g.get? b = some o) → G.StaysIn g → Parts g ps l →
      wpAny (model Challenge.rw_oc0165_02.row.prog w) (Am (dp + 1) (un + 3)) (execs body (envX qual scope L' f cdv cl)) (fun fl s' => R (.ok (.ret (match fl with | .ret v => v | _ => .none))) s') (fun _ _ => False)
        { s with heap := h₁, toks := s.toks + binds.length }) : codeAny (model Challenge.rw_oc0165_02.row.prog w) (Am dp un) (.call (.ref f) args) R s := by
  refine enterP (led7 V (instObj 94 dv) dv (vfDict hh tt (.int mx tm) vc vl (.str sg tsg) Ln x nd) Ln (listOf lns.toArray nl) x (acObj d ps n) d (acDict hs0 t0 (.int i0 ti) n0) (tabObj tb) (tabObj tc) []) D S ?_ ?_ ho hcd hroom hbind hloc hcell hco hgen hk ?_
  · refine all_cons ?_ (all_cons ?_ (all_cons ?_ (all_cons ?_ (all_cons ?_ (all_cons ?_ (all_cons ?_ all_nil))))))
    · exact H.hV
    · exact H.hdv
    · exact H.hLn
    · exact H.hx
    · exact H.hd
    · exact H.hP
    · exact H.hP2
  · refine all_cons ?_ (all_cons ?_ (all_cons ?_ (all_cons ?_ (all_cons ?_ (all_cons ?_ (all_cons ?_ all_nil))))))
    · exact O.hV
    · exact O.hdv
    · exact O.hLn
    · exact O.hx
    · exact O.hd
    · exact O.hP
    · exact O.hP2
  · intro g L h₁ hg hL F N X T l1 hkeep hst
    replace hkeep : ∀ b o, s.heap.get? b = some o → b ≠ V → b ≠ dv → b ≠ Ln → b ≠ x → b ≠ d → b ≠ 140 → b ≠ 147 → g.get? b = some o := fun b o e hb6 hb7 hb1 hb2 hb3 hb4 hb5 => hkeep b o e (by
      refine all_cons ?_ (all_cons ?_ (all_cons ?_ (all_cons ?_ (all_cons ?_ (all_cons ?_ (all_cons ?_ (fun q hq => ?_)))))))
      · exact hb6.symm
      · exact hb7.symm
      · exact hb1.symm
      · exact hb2.symm
      · exact hb3.symm
      · exact hb4.symm
      · exact hb5.symm
      · cases hq)
    exact h g L h₁ hL F N X T hkeep hst (H.hp.at fun b o e hc => have ⟨a1, a2, a3, a4, a5, a6, a7⟩ := H.off e hc; hkeep b o e a1 a2 a3 a4 a5 a6 a7)
end
end Mine
end

section
-- Vf1aB
example : True := by w_top off; trivial
open PySem PySem.W PyProof.Rows PySem.Calls PySem.Spec
set_option maxRecDepth 100000
namespace Mine
section
variable {w : World} {A : Around} {E : Value → Shared → Prop} {s : Shared} {g : Heap} {L x d : Addr} {m : Str → Option Value} {nw nw' : List (Addr × Obj)} {ps : Array Value} {n : Nat}
theorem m_item {value slice : Expr} {k : Int} {u : Tok} {y : Value} {Q : Value → Shared → Prop} (F : Fr g L s.heap m) (N : News g L s.heap nw) (X : (hd.heap_1 w.params).In g) (hx : (x, acObj d ps n) ∈ nw ∨ g.get? x = some (acObj d ps n)) (hz : ps.size ≤ 1000) (h0 : 0 ≤ k) (hy : ps[k.toNat]? = some y) (h : Q y s)
    (hs : subscripted slice false (.ref x) (.int k u) = operate [.ref x, .int k u] (getItem (.ref x) (.int k u))) :
    wpAny (model Challenge.rw_oc0165_02.row.prog w) A (subscriptTail value slice (.ref x) (.int k u)) Q E s :=
  ac_tail (X.keeps F.keep) (at_of F N hx) (ac_item (X.keeps F.keep) (at_of F N hx) hz h0 hy h) hs
end
theorem news_rest {g h : Heap} {L V dv Ln x d : Addr} {q : Addr × Obj} {o1 o2 o3 o4 o5 o6 o7 : Obj} {rest : List (Addr × Obj)} (N : News g L h (led7 V o1 dv o2 Ln o3 x o4 d o5 o6 o7 rest)) (hq : q ∈ rest) : h.get? q.1 = some q.2 :=
  (N _ (.tail _ (.tail _ (.tail _ (.tail _ (.tail _ (.tail _ (.tail _ hq)))))))).1
theorem VFAt.of_news {g h : Heap} {L V dv Ln x d : Addr} {mx : Int} {sg : Str} {lines : List Str} {l : List (Str × Str)} {i0 : Int} {hh : Nat → Int} {tt : Nat → Tok} {tm : Tok} {vc vl : Value} {tsg : Tok} {nd : Nat} {lns : List Value} {nl : Nat} {ps : Array Value} {n : Nat} {hs0 : Int} {t0 ti : Tok} {n0 : Nat} {tb tc : Array Value} {rest : List (Addr × Obj)}
    (N : News g L h (led7 V (instObj 94 dv) dv (vfDict hh tt (.int mx tm) vc vl (.str sg tsg) Ln x nd) Ln (listOf lns.toArray nl) x (acObj d ps n) d (acDict hs0 t0 (.int i0 ti) n0) (tabObj tb) (tabObj tc) rest)) (hls : StrsAre lns lines) (htr : TriplesOk tb.toList) (htr2 : TriplesOk tc.toList) (hp : Parts h ps l) :
    VFAt h V dv Ln x d mx sg lines l i0 hh tt tm vc vl tsg nd lns nl ps n hs0 t0 ti n0 tb tc :=
  ⟨(N _ (.head _)).1, (N _ (.tail _ (.head _))).1, (N _ (.tail _ (.tail _ (.head _)))).1, hls, (N _ (.tail _ (.tail _ (.tail _ (.head _))))).1, (N _ (.tail _ (.tail _ (.tail _ (.tail _ (.head _)))))).1, (N _ (.tail _ (.tail _ (.tail _ (.tail _ (.tail _ (.head _))))))).1, htr, (N _ (.tail _ (.tail _ (.tail _ (.tail _ (.tail _ (.tail _ (.head _)))))))).1, htr2, hp⟩
noncomputable def hitAt (c : Nat) (l : List (Str × Str)) (i : Nat) : Bool := (l.getD (i - 1) (Str.empty, Str.empty)).2.cps.back? == some c
theorem item_last {x : Str} {c : Nat} (h : 1 ≤ x.length) : (Txt.item x (-1) == ⟨#[c]⟩) = (x.cps.back? == some c) := by
  have e : Txt.item x (-1) = ⟨#[x.cps.getD (x.length - 1) 0]⟩ := by
    have := PyProof.Rows.item_closes_neg (x := x) (i := -1) (j := -1 + x.length) (by decide) (by omega) rfl
    have e2 : (-1 + (x.length : Int)).toNat = x.length - 1 := by omega
    rw [e2] at this
    exact eq_of_beq this
  have hsz : x.cps.size - 1 < x.cps.size := by have : x.length = x.cps.size := rfl; omega
  have e3 : x.cps.back? = some (x.cps.getD (x.length - 1) 0) := by
    rw [Array.back?_eq_getElem?]
    show x.cps[x.cps.size - 1]? = some (x.cps.getD (x.cps.size - 1) 0)
    simp [Array.getD, hsz]
  rw [e, e3]
  generalize x.cps.getD (x.length - 1) 0 = k
  by_cases hk : k = c
  · subst hk; simp
  · have h1 : ((⟨#[k]⟩ : Str) == ⟨#[c]⟩) = false := by
      rw [beq_eq_false_iff_ne]; intro h; apply hk; injection h with h; simpa using h
    rw [h1]; simp [hk]
theorem news_drop {g h : Heap} {L V dv Ln x d : Addr} {o1 o2 o3 o4 o5 o6 o7 : Obj} {a : Addr × Obj} {r : List (Addr × Obj)} (N : News g L h (led7 V o1 dv o2 Ln o3 x o4 d o5 o6 o7 (a :: r))) : News g L h (led7 V o1 dv o2 Ln o3 x o4 d o5 o6 o7 [a]) := by
  intro q hq
  refine N q ?_
  simp only [led7, List.mem_cons, List.not_mem_nil, or_false] at hq ⊢
  rcases hq with h | h | h | h | h | h | h | h <;> simp [h]
/-- the last place, from i down to 1, behind a part that ends with the sign -/
noncomputable def findI (c : Nat) (l : List (Str × Str)) : Nat → Option Nat
  | 0 => none
  | i + 1 => if hitAt c l (i + 1) then some (i + 1) else findI c l i
theorem findI_miss {c : Nat} {l : List (Str × Str)} : ∀ k, (∀ j, j < k → hitAt c l (k - j) = false) → findI c l k = none
  | 0, _ => rfl
  | k + 1, h => by
    have h0 := h 0 (Nat.succ_pos _)
    simp only [Nat.sub_zero] at h0
    simp only [findI, h0]
    exact findI_miss k fun j hj => by
      have := h (j + 1) (by omega)
      rwa [Nat.add_sub_add_right] at this
theorem findI_hit {c : Nat} {l : List (Str × Str)} : ∀ k i, (∀ j, j < i → hitAt c l (k - j) = false) → i < k → hitAt c l (k - i) = true → findI c l k = some (k - i)
  | 0, i, _, hi, _ => absurd hi (Nat.not_lt_zero _)
  | k + 1, 0, h, hi, ht => by simp only [Nat.sub_zero] at ht; simp [findI, ht]
  | k + 1, i + 1, h, hi, ht => by
    have h0 := h 0 (Nat.succ_pos _)
    simp only [Nat.sub_zero] at h0
    simp only [findI, h0]
    rw [Nat.add_sub_add_right] at ht ⊢
    exact findI_hit k i (fun j hj => by
      have := h (j + 1) (by omega)
      rwa [Nat.add_sub_add_right] at this) (by omega) ht
noncomputable def findS (sg : List Nat) (l : List (Str × Str)) : Option Nat := sg.findSome? fun c => findI c l (l.length - 1)
/-- what appending a part does to the lines, the parts of the current line and its first size -/
noncomputable def chunkF (mx : Int) (sg : List Nat) (st : List Str × List (Str × Str) × Int) (q : Str × Str) : List Str × List (Str × Str) × Int :=
  if st.2.2 + (lenOf (st.2.1 ++ [q]) : Nat) ≤ mx then (st.1, st.2.1 ++ [q], st.2.2) else
    match findS sg (st.2.1 ++ [q]) with
    | some i => (st.1 ++ [strOf ((st.2.1 ++ [q]).take i)], (st.2.1 ++ [q]).drop i, 0)
    | none => (st.1, st.2.1 ++ [q], st.2.2)
end Mine
end

section
-- Vf1B
example : True := by w_top off; trivial
open PySem PySem.W PyProof.Rows PySem.Calls PySem.Spec
set_option maxRecDepth 100000
namespace Mine
theorem ej_of {n i : Nat} (hi : i < n) : ((n + 1 : Nat) : Int) - 1 + (i : Int) * -1 - 1 = ((n - i - 1 : Nat) : Int) := by omega
theorem ei_of {n i : Nat} (hi : i < n) : ((n + 1 : Nat) : Int) - 1 + (i : Int) * -1 = ((n - i : Nat) : Int) := by omega
theorem findS_some {sg : Str} {l : List (Str × Str)} {k c r : Nat} (hc : sg.cps[k]? = some c) (hno : ∀ j c', j < k → sg.cps[j]? = some c' → findI c' l (l.length - 1) = none) (h1 : findI c l (l.length - 1) = some r) : findS sg.cps.toList l = some r := by
  have hk : k < sg.cps.size := (Array.getElem?_eq_some_iff.mp hc).1
  have e : sg.cps.toList = sg.cps.toList.take k ++ c :: sg.cps.toList.drop (k + 1) := by
    have hk' : k < sg.cps.toList.length := by simpa using hk
    have := List.getElem_cons_drop hk'
    have hc' : sg.cps.toList[k] = c := by
      have := (Array.getElem?_eq_some_iff.mp hc).2
      simpa using this
    rw [hc'] at this
    rw [this, List.take_append_drop]
  rw [findS, e, List.findSome?_append]
  have h2 : (sg.cps.toList.take k).findSome? (fun c => findI c l (l.length - 1)) = none := by
    rw [List.findSome?_eq_none_iff]
    intro c' hc'
    obtain ⟨j, hj, ej⟩ := List.getElem_of_mem hc'
    have hjk : j < k := by have h := hj; rw [List.length_take] at h; (first | lia | omega)
    exact hno j c' hjk (by rw [← ej]; simp)
  rw [h2]
  simp [h1]
theorem post_brk {h₀ : Heap} {L : Addr} {own : List (Addr × Obj)} {J : (Str → Option Value) → List (Addr × Obj) → Array GenState → Prop} {d : Drawn} {os : OsState} {Q : Flow → Shared → Prop} {s : Shared} (h : Q .next s) : LoopPost h₀ L own J d os Q .brk s := h
/-- what holds between the turns of the loop over the splitting signs, and of the one over the parts -/
inductive VfI (g0 : Array GenState) (nw0 : List (Addr × Obj)) (sg : Str) (l' : List (Str × Str)) (V : Addr) (va vb : Value) (k : Nat) (m : Str → Option Value) (nw : List (Addr × Obj)) (gs : Array GenState) : Prop
  | mk (eg : gs = g0) (en : nw = nw0) (m1 : m "self" = some (.ref V)) (m2 : m "fws" = some va) (m3 : m "string" = some vb) (hno : ∀ j c, j < k → sg.cps[j]? = some c → findI c l' (l'.length - 1) = none)
inductive VfJ (g0 : Array GenState) (nw0 : List (Addr × Obj)) (c : Nat) (uc : Tok) (ln : Nat) (l' : List (Str × Str)) (V : Addr) (va vb : Value) (k : Nat) (m : Str → Option Value) (nw : List (Addr × Obj)) (gs : Array GenState) : Prop
  | mk (eg : gs = g0) (en : nw = nw0) (m0 : m "ch" = some (.str ⟨#[c]⟩ uc)) (m1 : m "self" = some (.ref V)) (m2 : m "fws" = some va) (m3 : m "string" = some vb) (hmiss : ∀ j, j < k → hitAt c l' (ln - j) = false)
section
variable {w : World} {p : Program} {loose : List Str} {mean : ExcName → Option Value} {mg mb : Str → Option Value} {G : Heap} {s : Shared} {Q E : Value → Shared → Prop}
  {V dv Ln x d : Addr} {mx : Int} {sg : Str} {lines : List Str} {l : List (Str × Str)} {i0 : Int} {hh : Nat → Int} {tt : Nat → Tok} {tm : Tok} {vc vl : Value} {tsg : Tok} {nd : Nat} {lns : List Value} {nl : Nat} {ps : Array Value} {n : Nat} {hs0 : Int} {t0 ti : Tok} {n0 : Nat} {tb tc : Array Value}
set_option maxHeartbeats 1000000
theorem c_chunk {a b : Str} {ta1 tb1 : Tok} (D : Gd w p loose mean mg mb G) (St : G.StaysIn s.heap) (H : VFAt s.heap V dv Ln x d mx sg lines l i0 hh tt tm vc vl tsg nd lns nl ps n hs0 t0 ti n0 tb tc) (O : OffG G V dv Ln x d)
    (hbare : AllBare s.gens) (hsh : Short (l ++ [(a, b)])) (hi0 : 0 ≤ i0) (hi1 : i0 ≤ 1000) (hlc : lines.length ≤ 1000) (hsg : ∀ c ∈ sg.cps.toList, Txt.isspace ⟨#[c]⟩ = false) (hzero : mx < i0 + (lenOf (l ++ [(a, b)]) : Nat) → findS sg.cps.toList (l ++ [(a, b)]) = none → i0 = 0)
    (hret : ∀ s' lines' l' i0' lns' nl' ps' n' ti' tb' tc', VFAt s'.heap V dv Ln x d mx sg lines' l' i0' hh tt tm vc vl tsg nd lns' nl' ps' n' hs0 t0 ti' n0 tb' tc' → (∀ b o, s.heap.get? b = some o → b ≠ V → b ≠ dv → b ≠ Ln → b ≠ x → b ≠ d → b ≠ 140 → b ≠ 147 → s'.heap.get? b = some o) →
      (∀ T, Value.ref T ∈ ps'.toList → Value.ref T ∈ ps.toList ∨ s.heap.get? T = none) → AllBare s'.gens → s'.drawn = s.drawn → s'.os = s.os → (lines', l', i0') = chunkF mx sg.cps.toList (lines, l, i0) (a, b) → Q .none s') :
    wpAny (model Challenge.rw_oc0165_02.row.prog w) (Am 600 400) (call (.ref 91) [.ref V, .str a ta1, .str b tb1]) Q E s := by
  have fill : (hd.heap_1 w.params).In G := D.X
  revert fill
  k_fill
  intro _
  refine wpAny_call ?_
  refine' enterV (binds := [("self", .ref V), ("fws", .str a ta1), ("string", .str b tb1)]) H O D St ?k6 ?k7 ?k8 ?k9 ?kB ?c5 ?c2 ?c3 ?c4 ?_
  (((case k6 => k_is); (case k7 => k_is); (case k8 => decide)))
  case k9 => exact BindsTo.of_eq rfl
  (((case kB => exact locs rfl); (case c5 => decide); (case c2 => exact rfl); (case c3 => exact rfl); (case c4 => exact rfl)))
  intro g L h hL F N X T hkeep hst hpg
  have HA := H.apart
  dsimp only
  try k_fold
  (repeat' (first | (fail_if_success (with_reducible show wpAny _ _ (exec (Stmt.For _ _ _ _ _) _) _ _ _)); (first | (k_unfold; (try dsimp only)) | (first | ((with_reducible show wpAny _ _ (getMethod (Value.ref _) _ _) _ _ _); (k_here; k_dflt (refine' m_method ?k1 ?k2 ?k3 ?k4 ?k5 ?k6 ?k7 ?k8 ?k9 ?_; (case k1 => k_asm); (case k2 => k_asm); (case k3 => k_asm); (case k4 => (first | exact .inr (by assumption) | exact .inl (by k_mem))); (case k5 => (first | exact .inr (by assumption) | exact .inl (by k_mem))); (case k6 => k_is); (case k7 => k_is); (case k8 => decide +kernel); (case k9 => rfl)))) | ((with_reducible show wpAny _ _ (getAttr (Value.ref _) _ _) _ _ _); (k_here; (with_reducible show wpAny _ _ (getAttr (Value.ref _) "_initial_size" _) _ _ _); k_dflt (refine' m_getattr ?k1 ?k2 ?k3 ?k4 ?k5 ?k6 ?_; (case k1 => k_asm); (case k2 => k_asm); (case k3 => k_asm); (case k4 => (first | exact .inr (by assumption) | exact .inl (by k_mem))); (case k5 => (first | exact .inr (by assumption) | exact .inl (by k_mem))); (case k6 => rfl)))) | walk1) | (dsimp only; (first | ((with_reducible show wpAny _ _ (getMethod (Value.ref _) _ _) _ _ _); (k_here; k_dflt (refine' m_method ?k1 ?k2 ?k3 ?k4 ?k5 ?k6 ?k7 ?k8 ?k9 ?_; (case k1 => k_asm); (case k2 => k_asm); (case k3 => k_asm); (case k4 => (first | exact .inr (by assumption) | exact .inl (by k_mem))); (case k5 => (first | exact .inr (by assumption) | exact .inl (by k_mem))); (case k6 => k_is); (case k7 => k_is); (case k8 => decide +kernel); (case k9 => rfl)))) | ((with_reducible show wpAny _ _ (getAttr (Value.ref _) _ _) _ _ _); (k_here; (with_reducible show wpAny _ _ (getAttr (Value.ref _) "_initial_size" _) _ _ _); k_dflt (refine' m_getattr ?k1 ?k2 ?k3 ?k4 ?k5 ?k6 ?_; (case k1 => k_asm); (case k2 => k_asm); (case k3 => k_asm); (case k4 => (first | exact .inr (by assumption) | exact .inl (by k_mem))); (case k5 => (first | exact .inr (by assumption) | exact .inl (by k_mem))); (case k6 => rfl)))) | walk1)))))
  have hsz := hpg.1
  have hl100 : l.length + 1 ≤ 100 := by have := hsh.1; simpa using this
  rename Fr _ _ _ _ => F1
  rename News _ _ _ _ => N1
  refine u_push (d := d) (ps := ps) (n := n) F1 N1 D hst rfl (by decide) (by decide) (fun T n' => HA.X .nil) (.inl (by k_mem)) O.hx (by omega) ?_
  intro h2 tk2 n2' Tn u1 u2 F2 N2 hT
  clear F1 N1
  have R2 : Off7 V dv Ln x d [(Tn, { cls := .type "tuple", data := .seq #[.str a u1, .str b u2] })] := Off7.cons hT .nil
  replace N2 := news_behind N2
  have hTn : s.heap.get? Tn = none := by
    cases e : s.heap.get? Tn with
    | none => rfl
    | some o =>
      obtain ⟨a1, a2, a3, a4, a5, a6, a7⟩ := R2 _ (.head _)
      have e2 := hkeep _ _ e a1 a2 a3 a4 a5 a6 a7
      rw [(N2 _ (.tail _ (.tail _ (.tail _ (.tail _ (.tail _ (.tail _ (.tail _ (.head _)))))))) ).2.2] at e2; cases e2
  have hnew : ∀ T, Value.ref T ∈ (ps.push (.ref Tn)).toList → Value.ref T ∈ ps.toList ∨ s.heap.get? T = none := fun T hT => by
    rw [Array.toList_push] at hT
    rcases List.mem_append.mp hT with h | h
    · exact .inl h
    · cases List.mem_singleton.mp h; exact .inr hTn
  have hpp : ∀ {h' : Heap} {m'}, Fr g L h' m' → h'.get? Tn = some { cls := .type "tuple", data := .seq #[.str a u1, .str b u2] } → Parts h' (ps.push (.ref Tn)) (l ++ [(a, b)]) := fun F' e => (hpg.keeps F'.keep).push e
  (repeat' (first | (fail_if_success (with_reducible show wpAny _ _ (exec (Stmt.For _ _ _ _ _) _) _ _ _)); (first | (k_unfold; (try dsimp only)) | (first | ((with_reducible show wpAny _ _ (getMethod (Value.ref _) _ _) _ _ _); (k_here; k_dflt (refine' m_method ?k1 ?k2 ?k3 ?k4 ?k5 ?k6 ?k7 ?k8 ?k9 ?_; (case k1 => k_asm); (case k2 => k_asm); (case k3 => k_asm); (case k4 => (first | exact .inr (by assumption) | exact .inl (by k_mem))); (case k5 => (first | exact .inr (by assumption) | exact .inl (by k_mem))); (case k6 => k_is); (case k7 => k_is); (case k8 => decide +kernel); (case k9 => rfl)))) | ((with_reducible show wpAny _ _ (getAttr (Value.ref _) _ _) _ _ _); (k_here; (with_reducible show wpAny _ _ (getAttr (Value.ref _) "_initial_size" _) _ _ _); k_dflt (refine' m_getattr ?k1 ?k2 ?k3 ?k4 ?k5 ?k6 ?_; (case k1 => k_asm); (case k2 => k_asm); (case k3 => k_asm); (case k4 => (first | exact .inr (by assumption) | exact .inl (by k_mem))); (case k5 => (first | exact .inr (by assumption) | exact .inl (by k_mem))); (case k6 => rfl)))) | walk1) | (dsimp only; (first | ((with_reducible show wpAny _ _ (getMethod (Value.ref _) _ _) _ _ _); (k_here; k_dflt (refine' m_method ?k1 ?k2 ?k3 ?k4 ?k5 ?k6 ?k7 ?k8 ?k9 ?_; (case k1 => k_asm); (case k2 => k_asm); (case k3 => k_asm); (case k4 => (first | exact .inr (by assumption) | exact .inl (by k_mem))); (case k5 => (first | exact .inr (by assumption) | exact .inl (by k_mem))); (case k6 => k_is); (case k7 => k_is); (case k8 => decide +kernel); (case k9 => rfl)))) | ((with_reducible show wpAny _ _ (getAttr (Value.ref _) _ _) _ _ _); (k_here; (with_reducible show wpAny _ _ (getAttr (Value.ref _) "_initial_size" _) _ _ _); k_dflt (refine' m_getattr ?k1 ?k2 ?k3 ?k4 ?k5 ?k6 ?_; (case k1 => k_asm); (case k2 => k_asm); (case k3 => k_asm); (case k4 => (first | exact .inr (by assumption) | exact .inl (by k_mem))); (case k5 => (first | exact .inr (by assumption) | exact .inl (by k_mem))); (case k6 => rfl)))) | walk1)))))
  rename Fr _ _ _ _ => F3
  rename News _ _ _ _ => N3
  refine u_len F3 N3 X D hst rfl (by decide) (by decide) (.inl (by k_mem)) (.inl (by k_mem)) (fun tb' => HA.T R2) H.htr O.hP hbare (hpp F3 (news_rest N3 (.head _))) hsh hi0 hi1 ?_
  intro h4 gs4 tk4 t4 tb4 F4 N4 htr4 hb4 hk4
  clear F3 N3
  (repeat' (first | (fail_if_success (with_reducible show wpAny _ _ (exec (Stmt.For _ _ _ _ _) _) _ _ _)); (first | (k_unfold; (try dsimp only)) | (first | ((with_reducible show wpAny _ _ (getMethod (Value.ref _) _ _) _ _ _); (k_here; k_dflt (refine' m_method ?k1 ?k2 ?k3 ?k4 ?k5 ?k6 ?k7 ?k8 ?k9 ?_; (case k1 => k_asm); (case k2 => k_asm); (case k3 => k_asm); (case k4 => (first | exact .inr (by assumption) | exact .inl (by k_mem))); (case k5 => (first | exact .inr (by assumption) | exact .inl (by k_mem))); (case k6 => k_is); (case k7 => k_is); (case k8 => decide +kernel); (case k9 => rfl)))) | ((with_reducible show wpAny _ _ (getAttr (Value.ref _) _ _) _ _ _); (k_here; (with_reducible show wpAny _ _ (getAttr (Value.ref _) "_initial_size" _) _ _ _); k_dflt (refine' m_getattr ?k1 ?k2 ?k3 ?k4 ?k5 ?k6 ?_; (case k1 => k_asm); (case k2 => k_asm); (case k3 => k_asm); (case k4 => (first | exact .inr (by assumption) | exact .inl (by k_mem))); (case k5 => (first | exact .inr (by assumption) | exact .inl (by k_mem))); (case k6 => rfl)))) | walk1) | (dsimp only; (first | ((with_reducible show wpAny _ _ (getMethod (Value.ref _) _ _) _ _ _); (k_here; k_dflt (refine' m_method ?k1 ?k2 ?k3 ?k4 ?k5 ?k6 ?k7 ?k8 ?k9 ?_; (case k1 => k_asm); (case k2 => k_asm); (case k3 => k_asm); (case k4 => (first | exact .inr (by assumption) | exact .inl (by k_mem))); (case k5 => (first | exact .inr (by assumption) | exact .inl (by k_mem))); (case k6 => k_is); (case k7 => k_is); (case k8 => decide +kernel); (case k9 => rfl)))) | ((with_reducible show wpAny _ _ (getAttr (Value.ref _) _ _) _ _ _); (k_here; (with_reducible show wpAny _ _ (getAttr (Value.ref _) "_initial_size" _) _ _ _); k_dflt (refine' m_getattr ?k1 ?k2 ?k3 ?k4 ?k5 ?k6 ?_; (case k1 => k_asm); (case k2 => k_asm); (case k3 => k_asm); (case k4 => (first | exact .inr (by assumption) | exact .inl (by k_mem))); (case k5 => (first | exact .inr (by assumption) | exact .inl (by k_mem))); (case k6 => rfl)))) | walk1)))))
  case refine_2 =>
    rename ¬ _ < _ => hle
    refine hret _ lines (l ++ [(a, b)]) i0 _ _ _ _ _ _ _ (VFAt.of_news N4 H.hls htr4 H.htr2 (hpp F4 (news_rest N4 (.head _)))) (fun b o e h1 h2 h3 h4 h5 h6 h7 => F4.keep _ _ (hkeep b o e h1 h2 h3 h4 h5 h6 h7)) hnew hb4 rfl rfl ?_
    unfold chunkF
    rw [if_pos (by show i0 + ((lenOf (l ++ [(a, b)]) : Nat) : Int) ≤ mx; (first | lia | omega))]
  refine wpAny_For ?_ (fun _ => rfl)
  (repeat' (first | (fail_if_success (with_reducible show wpAny _ _ (exec (Stmt.For _ _ _ _ _) _) _ _ _)); (first | (k_unfold; (try dsimp only)) | (first | ((with_reducible show wpAny _ _ (getMethod (Value.ref _) _ _) _ _ _); (k_here; k_dflt (refine' m_method ?k1 ?k2 ?k3 ?k4 ?k5 ?k6 ?k7 ?k8 ?k9 ?_; (case k1 => k_asm); (case k2 => k_asm); (case k3 => k_asm); (case k4 => (first | exact .inr (by assumption) | exact .inl (by k_mem))); (case k5 => (first | exact .inr (by assumption) | exact .inl (by k_mem))); (case k6 => k_is); (case k7 => k_is); (case k8 => decide +kernel); (case k9 => rfl)))) | ((with_reducible show wpAny _ _ (getAttr (Value.ref _) _ _) _ _ _); (k_here; (with_reducible show wpAny _ _ (getAttr (Value.ref _) "_initial_size" _) _ _ _); k_dflt (refine' m_getattr ?k1 ?k2 ?k3 ?k4 ?k5 ?k6 ?_; (case k1 => k_asm); (case k2 => k_asm); (case k3 => k_asm); (case k4 => (first | exact .inr (by assumption) | exact .inl (by k_mem))); (case k5 => (first | exact .inr (by assumption) | exact .inl (by k_mem))); (case k6 => rfl)))) | walk1) | (dsimp only; (first | ((with_reducible show wpAny _ _ (getMethod (Value.ref _) _ _) _ _ _); (k_here; k_dflt (refine' m_method ?k1 ?k2 ?k3 ?k4 ?k5 ?k6 ?k7 ?k8 ?k9 ?_; (case k1 => k_asm); (case k2 => k_asm); (case k3 => k_asm); (case k4 => (first | exact .inr (by assumption) | exact .inl (by k_mem))); (case k5 => (first | exact .inr (by assumption) | exact .inl (by k_mem))); (case k6 => k_is); (case k7 => k_is); (case k8 => decide +kernel); (case k9 => rfl)))) | ((with_reducible show wpAny _ _ (getAttr (Value.ref _) _ _) _ _ _); (k_here; (with_reducible show wpAny _ _ (getAttr (Value.ref _) "_initial_size" _) _ _ _); k_dflt (refine' m_getattr ?k1 ?k2 ?k3 ?k4 ?k5 ?k6 ?_; (case k1 => k_asm); (case k2 => k_asm); (case k3 => k_asm); (case k4 => (first | exact .inr (by assumption) | exact .inl (by k_mem))); (case k5 => (first | exact .inr (by assumption) | exact .inl (by k_mem))); (case k6 => rfl)))) | walk1)))))
  rename Fr _ _ _ _ => F5
  rename News _ _ _ _ => N5
  rename _ < _ => hgt
  refine for_str (VfI gs4 (led7 V (instObj 94 dv) dv (vfDict hh tt (.int mx tm) vc vl (.str sg tsg) Ln x nd) Ln (listOf lns.toArray nl) x (acObj d (ps.push (.ref Tn)) n2') d (acDict hs0 t0 (.int i0 ti) n0) (tabObj tb4) (tabObj tc) [(Tn, { cls := .type "tuple", data := .seq #[.str a u1, .str b u2] })]) sg (l ++ [(a, b)]) V (.str a ta1) (.str b tb1)) rfl F5 N5 ⟨rfl, rfl, rfl, rfl, rfl, fun j c hj => absurd hj (Nat.not_lt_zero _)⟩ rfl rfl ?_ ?_
  · rintro k c uc m nw h6 tk6 gs6 own E6 hc ⟨rfl, rfl, hm1, hm2, hm3, hno⟩ hoff F6 N6
    clear F5 N5
    obtain ⟨m2, rfl⟩ := as_if3 hm1 hm2 hm3
    dsimp only at F6
    clear hm1 hm2 hm3
    replace N6 : News g L h6 (led7 V (instObj 94 dv) dv (vfDict hh tt (.int mx tm) vc vl (.str sg tsg) Ln x nd) Ln (listOf lns.toArray nl) x (acObj d (ps.push (.ref Tn)) n2') d (acDict hs0 t0 (.int i0 ti) n0) (tabObj tb4) (tabObj tc) ((Tn, { cls := .type "tuple", data := .seq #[.str a u1, .str b u2] }) :: own)) := N6
    refine wpAny_execs_cons ?_
    refine wpAny_For ?_ (fun _ => rfl)
    (repeat' (first | (fail_if_success (with_reducible show wpAny _ _ (exec (Stmt.For _ _ _ _ _) _) _ _ _)); (first | (k_unfold; (try dsimp only)) | (first | ((with_reducible show wpAny _ _ (getMethod (Value.ref _) _ _) _ _ _); (k_here; k_dflt (refine' m_method ?k1 ?k2 ?k3 ?k4 ?k5 ?k6 ?k7 ?k8 ?k9 ?_; (case k1 => k_asm); (case k2 => k_asm); (case k3 => k_asm); (case k4 => (first | exact .inr (by assumption) | exact .inl (by k_mem))); (case k5 => (first | exact .inr (by assumption) | exact .inl (by k_mem))); (case k6 => k_is); (case k7 => k_is); (case k8 => decide +kernel); (case k9 => rfl)))) | ((with_reducible show wpAny _ _ (getAttr (Value.ref _) _ _) _ _ _); (k_here; (with_reducible show wpAny _ _ (getAttr (Value.ref _) "_initial_size" _) _ _ _); k_dflt (refine' m_getattr ?k1 ?k2 ?k3 ?k4 ?k5 ?k6 ?_; (case k1 => k_asm); (case k2 => k_asm); (case k3 => k_asm); (case k4 => (first | exact .inr (by assumption) | exact .inl (by k_mem))); (case k5 => (first | exact .inr (by assumption) | exact .inl (by k_mem))); (case k6 => rfl)))) | walk1) | (dsimp only; (first | ((with_reducible show wpAny _ _ (getMethod (Value.ref _) _ _) _ _ _); (k_here; k_dflt (refine' m_method ?k1 ?k2 ?k3 ?k4 ?k5 ?k6 ?k7 ?k8 ?k9 ?_; (case k1 => k_asm); (case k2 => k_asm); (case k3 => k_asm); (case k4 => (first | exact .inr (by assumption) | exact .inl (by k_mem))); (case k5 => (first | exact .inr (by assumption) | exact .inl (by k_mem))); (case k6 => k_is); (case k7 => k_is); (case k8 => decide +kernel); (case k9 => rfl)))) | ((with_reducible show wpAny _ _ (getAttr (Value.ref _) _ _) _ _ _); (k_here; (with_reducible show wpAny _ _ (getAttr (Value.ref _) "_initial_size" _) _ _ _); k_dflt (refine' m_getattr ?k1 ?k2 ?k3 ?k4 ?k5 ?k6 ?_; (case k1 => k_asm); (case k2 => k_asm); (case k3 => k_asm); (case k4 => (first | exact .inr (by assumption) | exact .inl (by k_mem))); (case k5 => (first | exact .inr (by assumption) | exact .inl (by k_mem))); (case k6 => rfl)))) | walk1)))))
    rename Fr _ _ _ _ => F7
    rename News _ _ _ _ => N7
    show wpAny _ _ (call (.ref 175) [.ref x]) _ _ _
    refine u_partcount (d := d) (ps := ps.push (.ref Tn)) (n := n2') F7 N7 D hst rfl (by decide) (by decide) (.inl (by k_mem)) (.inl (by k_mem)) ?_
    intro t8 h8 tk8 F8 N8
    clear F7 N7
    have hps : (ps.push (.ref Tn)).size = l.length + 1 := by simp [hsz]
    rw [hps]
    have hll : (l ++ [(a, b)]).length - 1 = l.length := by simp
    (repeat' (first | (fail_if_success (with_reducible show wpAny _ _ (exec (Stmt.For _ _ _ _ _) _) _ _ _)); (first | (k_unfold; (try dsimp only)) | (first | ((with_reducible show wpAny _ _ (getMethod (Value.ref _) _ _) _ _ _); (k_here; k_dflt (refine' m_method ?k1 ?k2 ?k3 ?k4 ?k5 ?k6 ?k7 ?k8 ?k9 ?_; (case k1 => k_asm); (case k2 => k_asm); (case k3 => k_asm); (case k4 => (first | exact .inr (by assumption) | exact .inl (by k_mem))); (case k5 => (first | exact .inr (by assumption) | exact .inl (by k_mem))); (case k6 => k_is); (case k7 => k_is); (case k8 => decide +kernel); (case k9 => rfl)))) | ((with_reducible show wpAny _ _ (getAttr (Value.ref _) _ _) _ _ _); (k_here; (with_reducible show wpAny _ _ (getAttr (Value.ref _) "_initial_size" _) _ _ _); k_dflt (refine' m_getattr ?k1 ?k2 ?k3 ?k4 ?k5 ?k6 ?_; (case k1 => k_asm); (case k2 => k_asm); (case k3 => k_asm); (case k4 => (first | exact .inr (by assumption) | exact .inl (by k_mem))); (case k5 => (first | exact .inr (by assumption) | exact .inl (by k_mem))); (case k6 => rfl)))) | walk1) | (dsimp only; (first | ((with_reducible show wpAny _ _ (getMethod (Value.ref _) _ _) _ _ _); (k_here; k_dflt (refine' m_method ?k1 ?k2 ?k3 ?k4 ?k5 ?k6 ?k7 ?k8 ?k9 ?_; (case k1 => k_asm); (case k2 => k_asm); (case k3 => k_asm); (case k4 => (first | exact .inr (by assumption) | exact .inl (by k_mem))); (case k5 => (first | exact .inr (by assumption) | exact .inl (by k_mem))); (case k6 => k_is); (case k7 => k_is); (case k8 => decide +kernel); (case k9 => rfl)))) | ((with_reducible show wpAny _ _ (getAttr (Value.ref _) _ _) _ _ _); (k_here; (with_reducible show wpAny _ _ (getAttr (Value.ref _) "_initial_size" _) _ _ _); k_dflt (refine' m_getattr ?k1 ?k2 ?k3 ?k4 ?k5 ?k6 ?_; (case k1 => k_asm); (case k2 => k_asm); (case k3 => k_asm); (case k4 => (first | exact .inr (by assumption) | exact .inl (by k_mem))); (case k5 => (first | exact .inr (by assumption) | exact .inl (by k_mem))); (case k6 => rfl)))) | walk1)))))
    rename Fr _ _ _ _ => F9
    rename News _ _ _ _ => N9
    rename IsRange _ _ _ _ _ _ _ _ => hr9
    refine for_range (n := l.length) (VfJ gs6 (led7 V (instObj 94 dv) dv (vfDict hh tt (.int mx tm) vc vl (.str sg tsg) Ln x nd) Ln (listOf lns.toArray nl) x (acObj d (ps.push (.ref Tn)) n2') d (acDict hs0 t0 (.int i0 ti) n0) (tabObj tb4) (tabObj tc) ((Tn, { cls := .type "tuple", data := .seq #[.str a u1, .str b u2] }) :: own)) c uc l.length (l ++ [(a, b)]) V (.str a ta1) (.str b tb1)) rfl hr9 ?_ ?_ F9 N9 ⟨rfl, rfl, rfl, rfl, rfl, rfl, fun j hj => absurd hj (Nat.not_lt_zero _)⟩ rfl rfl ?_ ?_
    · exact small_down (by omega) (by omega) (by decide) (by decide)
    · rw [rangeSize_downNat]; (first | lia | omega)
    · rintro i ti1 m nw h10 tk10 gs10 own2 E10 hi ⟨rfl, rfl, hm1, hm2, hm3, hm4, hmiss⟩ hoff2 F10 N10
      clear F9 N9 hr9
      obtain ⟨m3, rfl⟩ := as_if4 hm1 hm2 hm3 hm4
      clear hm1 hm2 hm3 hm4
      dsimp only at F10
      replace N10 : News g L h10 (led7 V (instObj 94 dv) dv (vfDict hh tt (.int mx tm) vc vl (.str sg tsg) Ln x nd) Ln (listOf lns.toArray nl) x (acObj d (ps.push (.ref Tn)) n2') d (acDict hs0 t0 (.int i0 ti) n0) (tabObj tb4) (tabObj tc) ((Tn, { cls := .type "tuple", data := .seq #[.str a u1, .str b u2] }) :: (own ++ own2))) := by simpa using N10
      have hcs : Txt.isspace ⟨#[c]⟩ = false := hsg c (List.mem_of_getElem? (by simpa using hc))
      obtain ⟨_, Ts, ta, tb2, f⟩ := hpp F10 (news_rest N10 (.head _))
      have hj : l.length - i - 1 < (l ++ [(a, b)]).length := by rw [List.length_append]; exact Nat.lt_of_le_of_lt (Nat.le_trans (Nat.sub_le _ _) (Nat.sub_le _ _)) (Nat.lt_succ_self _)
      obtain ⟨f1, f2⟩ := f _ hj
      have hlen := (hsh.at (l.length - i - 1)).2
      have hitE : hitAt c (l ++ [(a, b)]) (l.length - i) = ((List.getD (l ++ [(a, b)]) (l.length - i - 1) (Str.empty, Str.empty)).2.cps.back? == some c) := rfl
      generalize List.getD (l ++ [(a, b)]) (l.length - i - 1) (Str.empty, Str.empty) = PP at f2 hlen hitE
      obtain ⟨P1, P2⟩ := PP
      dsimp only at f2 hlen hitE
      have ej : ((l.length + 1 : Nat) : Int) - 1 + (i : Int) * -1 - 1 = ((l.length - i - 1 : Nat) : Int) := ej_of hi
      (repeat' (first | (fail_if_success (with_reducible show wpAny _ _ (exec (Stmt.For _ _ _ _ _) _) _ _ _)); (first | (k_unfold; (try dsimp only)) | (first | ((with_reducible show wpAny _ _ (getMethod (Value.ref _) _ _) _ _ _); (k_here; k_dflt (refine' m_method ?k1 ?k2 ?k3 ?k4 ?k5 ?k6 ?k7 ?k8 ?k9 ?_; (case k1 => k_asm); (case k2 => k_asm); (case k3 => k_asm); (case k4 => (first | exact .inr (by assumption) | exact .inl (by k_mem))); (case k5 => (first | exact .inr (by assumption) | exact .inl (by k_mem))); (case k6 => k_is); (case k7 => k_is); (case k8 => decide +kernel); (case k9 => rfl)))) | ((with_reducible show wpAny _ _ (getAttr (Value.ref _) _ _) _ _ _); (k_here; (with_reducible show wpAny _ _ (getAttr (Value.ref _) "_initial_size" _) _ _ _); k_dflt (refine' m_getattr ?k1 ?k2 ?k3 ?k4 ?k5 ?k6 ?_; (case k1 => k_asm); (case k2 => k_asm); (case k3 => k_asm); (case k4 => (first | exact .inr (by assumption) | exact .inl (by k_mem))); (case k5 => (first | exact .inr (by assumption) | exact .inl (by k_mem))); (case k6 => rfl)))) | walk1) | (dsimp only; (first | ((with_reducible show wpAny _ _ (getMethod (Value.ref _) _ _) _ _ _); (k_here; k_dflt (refine' m_method ?k1 ?k2 ?k3 ?k4 ?k5 ?k6 ?k7 ?k8 ?k9 ?_; (case k1 => k_asm); (case k2 => k_asm); (case k3 => k_asm); (case k4 => (first | exact .inr (by assumption) | exact .inl (by k_mem))); (case k5 => (first | exact .inr (by assumption) | exact .inl (by k_mem))); (case k6 => k_is); (case k7 => k_is); (case k8 => decide +kernel); (case k9 => rfl)))) | ((with_reducible show wpAny _ _ (getAttr (Value.ref _) _ _) _ _ _); (k_here; (with_reducible show wpAny _ _ (getAttr (Value.ref _) "_initial_size" _) _ _ _); k_dflt (refine' m_getattr ?k1 ?k2 ?k3 ?k4 ?k5 ?k6 ?_; (case k1 => k_asm); (case k2 => k_asm); (case k3 => k_asm); (case k4 => (first | exact .inr (by assumption) | exact .inl (by k_mem))); (case k5 => (first | exact .inr (by assumption) | exact .inl (by k_mem))); (case k6 => rfl)))) | walk1)))))
      rename Fr _ _ _ _ => F11
      rename News _ _ _ _ => N11
      refine m_item (d := d) (ps := ps.push (.ref Tn)) (n := n2') F11 N11 X (.inl (by k_mem)) (by omega) (by rw [ej]; exact Int.natCast_nonneg _) (by rw [ej]; exact f1) ?_ (by with_unfolding_all rfl)
      (repeat' (first | (fail_if_success (with_reducible show wpAny _ _ (exec (Stmt.For _ _ _ _ _) _) _ _ _)); (first | (k_unfold; (try dsimp only)) | (first | ((with_reducible show wpAny _ _ (getMethod (Value.ref _) _ _) _ _ _); (k_here; k_dflt (refine' m_method ?k1 ?k2 ?k3 ?k4 ?k5 ?k6 ?k7 ?k8 ?k9 ?_; (case k1 => k_asm); (case k2 => k_asm); (case k3 => k_asm); (case k4 => (first | exact .inr (by assumption) | exact .inl (by k_mem))); (case k5 => (first | exact .inr (by assumption) | exact .inl (by k_mem))); (case k6 => k_is); (case k7 => k_is); (case k8 => decide +kernel); (case k9 => rfl)))) | ((with_reducible show wpAny _ _ (getAttr (Value.ref _) _ _) _ _ _); (k_here; (with_reducible show wpAny _ _ (getAttr (Value.ref _) "_initial_size" _) _ _ _); k_dflt (refine' m_getattr ?k1 ?k2 ?k3 ?k4 ?k5 ?k6 ?_; (case k1 => k_asm); (case k2 => k_asm); (case k3 => k_asm); (case k4 => (first | exact .inr (by assumption) | exact .inl (by k_mem))); (case k5 => (first | exact .inr (by assumption) | exact .inl (by k_mem))); (case k6 => rfl)))) | walk1) | (dsimp only; (first | ((with_reducible show wpAny _ _ (getMethod (Value.ref _) _ _) _ _ _); (k_here; k_dflt (refine' m_method ?k1 ?k2 ?k3 ?k4 ?k5 ?k6 ?k7 ?k8 ?k9 ?_; (case k1 => k_asm); (case k2 => k_asm); (case k3 => k_asm); (case k4 => (first | exact .inr (by assumption) | exact .inl (by k_mem))); (case k5 => (first | exact .inr (by assumption) | exact .inl (by k_mem))); (case k6 => k_is); (case k7 => k_is); (case k8 => decide +kernel); (case k9 => rfl)))) | ((with_reducible show wpAny _ _ (getAttr (Value.ref _) _ _) _ _ _); (k_here; (with_reducible show wpAny _ _ (getAttr (Value.ref _) "_initial_size" _) _ _ _); k_dflt (refine' m_getattr ?k1 ?k2 ?k3 ?k4 ?k5 ?k6 ?_; (case k1 => k_asm); (case k2 => k_asm); (case k3 => k_asm); (case k4 => (first | exact .inr (by assumption) | exact .inl (by k_mem))); (case k5 => (first | exact .inr (by assumption) | exact .inl (by k_mem))); (case k6 => rfl)))) | walk1)))))
      · have hhit : hitAt c (l ++ [(a, b)]) (l.length - i) = true := by
          rw [hitE, ← item_last (by omega)]; assumption
        rename Fr _ _ _ _ => F12
        rename News _ _ _ _ => N12
        replace N12 := news_drop N12
        refine post_brk (L := L) ?_
        (repeat' (first | (fail_if_success (with_reducible show wpAny _ _ (exec (Stmt.For _ _ _ _ _) _) _ _ _)); (first | (k_unfold; (try dsimp only)) | (first | ((with_reducible show wpAny _ _ (getMethod (Value.ref _) _ _) _ _ _); (k_here; k_dflt (refine' m_method ?k1 ?k2 ?k3 ?k4 ?k5 ?k6 ?k7 ?k8 ?k9 ?_; (case k1 => k_asm); (case k2 => k_asm); (case k3 => k_asm); (case k4 => (first | exact .inr (by assumption) | exact .inl (by k_mem))); (case k5 => (first | exact .inr (by assumption) | exact .inl (by k_mem))); (case k6 => k_is); (case k7 => k_is); (case k8 => decide +kernel); (case k9 => rfl)))) | ((with_reducible show wpAny _ _ (getAttr (Value.ref _) _ _) _ _ _); (k_here; (with_reducible show wpAny _ _ (getAttr (Value.ref _) "_initial_size" _) _ _ _); k_dflt (refine' m_getattr ?k1 ?k2 ?k3 ?k4 ?k5 ?k6 ?_; (case k1 => k_asm); (case k2 => k_asm); (case k3 => k_asm); (case k4 => (first | exact .inr (by assumption) | exact .inl (by k_mem))); (case k5 => (first | exact .inr (by assumption) | exact .inl (by k_mem))); (case k6 => rfl)))) | walk1) | (dsimp only; (first | ((with_reducible show wpAny _ _ (getMethod (Value.ref _) _ _) _ _ _); (k_here; k_dflt (refine' m_method ?k1 ?k2 ?k3 ?k4 ?k5 ?k6 ?k7 ?k8 ?k9 ?_; (case k1 => k_asm); (case k2 => k_asm); (case k3 => k_asm); (case k4 => (first | exact .inr (by assumption) | exact .inl (by k_mem))); (case k5 => (first | exact .inr (by assumption) | exact .inl (by k_mem))); (case k6 => k_is); (case k7 => k_is); (case k8 => decide +kernel); (case k9 => rfl)))) | ((with_reducible show wpAny _ _ (getAttr (Value.ref _) _ _) _ _ _); (k_here; (with_reducible show wpAny _ _ (getAttr (Value.ref _) "_initial_size" _) _ _ _); k_dflt (refine' m_getattr ?k1 ?k2 ?k3 ?k4 ?k5 ?k6 ?_; (case k1 => k_asm); (case k2 => k_asm); (case k3 => k_asm); (case k4 => (first | exact .inr (by assumption) | exact .inl (by k_mem))); (case k5 => (first | exact .inr (by assumption) | exact .inl (by k_mem))); (case k6 => rfl)))) | walk1)))))
        refine post_brk (L := L) ?_
        (repeat' (first | (fail_if_success (with_reducible show wpAny _ _ (exec (Stmt.For _ _ _ _ _) _) _ _ _)); (first | (k_unfold; (try dsimp only)) | (first | ((with_reducible show wpAny _ _ (getMethod (Value.ref _) _ _) _ _ _); (k_here; k_dflt (refine' m_method ?k1 ?k2 ?k3 ?k4 ?k5 ?k6 ?k7 ?k8 ?k9 ?_; (case k1 => k_asm); (case k2 => k_asm); (case k3 => k_asm); (case k4 => (first | exact .inr (by assumption) | exact .inl (by k_mem))); (case k5 => (first | exact .inr (by assumption) | exact .inl (by k_mem))); (case k6 => k_is); (case k7 => k_is); (case k8 => decide +kernel); (case k9 => rfl)))) | ((with_reducible show wpAny _ _ (getAttr (Value.ref _) _ _) _ _ _); (k_here; (with_reducible show wpAny _ _ (getAttr (Value.ref _) "_initial_size" _) _ _ _); k_dflt (refine' m_getattr ?k1 ?k2 ?k3 ?k4 ?k5 ?k6 ?_; (case k1 => k_asm); (case k2 => k_asm); (case k3 => k_asm); (case k4 => (first | exact .inr (by assumption) | exact .inl (by k_mem))); (case k5 => (first | exact .inr (by assumption) | exact .inl (by k_mem))); (case k6 => rfl)))) | walk1) | (dsimp only; (first | ((with_reducible show wpAny _ _ (getMethod (Value.ref _) _ _) _ _ _); (k_here; k_dflt (refine' m_method ?k1 ?k2 ?k3 ?k4 ?k5 ?k6 ?k7 ?k8 ?k9 ?_; (case k1 => k_asm); (case k2 => k_asm); (case k3 => k_asm); (case k4 => (first | exact .inr (by assumption) | exact .inl (by k_mem))); (case k5 => (first | exact .inr (by assumption) | exact .inl (by k_mem))); (case k6 => k_is); (case k7 => k_is); (case k8 => decide +kernel); (case k9 => rfl)))) | ((with_reducible show wpAny _ _ (getAttr (Value.ref _) _ _) _ _ _); (k_here; (with_reducible show wpAny _ _ (getAttr (Value.ref _) "_initial_size" _) _ _ _); k_dflt (refine' m_getattr ?k1 ?k2 ?k3 ?k4 ?k5 ?k6 ?_; (case k1 => k_asm); (case k2 => k_asm); (case k3 => k_asm); (case k4 => (first | exact .inr (by assumption) | exact .inl (by k_mem))); (case k5 => (first | exact .inr (by assumption) | exact .inl (by k_mem))); (case k6 => rfl)))) | walk1)))))
        have ei : ((l.length + 1 : Nat) : Int) - 1 + (i : Int) * -1 = ((l.length - i : Nat) : Int) := ei_of hi
        rw [ei]
        have hfi : findS sg.cps.toList (l ++ [(a, b)]) = some (l.length - i) := by
          have h1 : findI c (l ++ [(a, b)]) ((l ++ [(a, b)]).length - 1) = some (l.length - i) := by rw [hll]; exact findI_hit _ _ hmiss hi hhit
          exact findS_some hc (fun j c' hj hc' => hno j c' hj hc') h1
        clear f f1 f2
        rename Fr _ _ _ _ => F13
        refine u_popfrom (d := d) (ps := ps.push (.ref Tn)) (n := n2') F13 N12 D hst rfl (by decide) (by decide) (fun n' => HA.X R2) (.inl (by k_mem)) O.hx (by omega) (Int.natCast_nonneg _) (by rw [hps]; exact Int.ofNat_le.mpr (Nat.le_trans (Nat.sub_le _ _) (Nat.le_succ _))) ?_
        intro h14 tk14 n14 Rr F14 N14 hRr
        have R14 : Off7 V dv Ln x d _ := Off7.cons (o := listOf ((ps.push (.ref Tn)).toList.drop ((l.length - i : Nat) : Int).toNat).toArray 0) hRr R2
        replace N14 := news_behind N14
        clear F13 N12
        rw [Int.toNat_natCast] at N14 R14
        (repeat' (first | (fail_if_success (with_reducible show wpAny _ _ (exec (Stmt.For _ _ _ _ _) _) _ _ _)); (first | (k_unfold; (try dsimp only)) | (first | ((with_reducible show wpAny _ _ (getMethod (Value.ref _) _ _) _ _ _); (k_here; k_dflt (refine' m_method ?k1 ?k2 ?k3 ?k4 ?k5 ?k6 ?k7 ?k8 ?k9 ?_; (case k1 => k_asm); (case k2 => k_asm); (case k3 => k_asm); (case k4 => (first | exact .inr (by assumption) | exact .inl (by k_mem))); (case k5 => (first | exact .inr (by assumption) | exact .inl (by k_mem))); (case k6 => k_is); (case k7 => k_is); (case k8 => decide +kernel); (case k9 => rfl)))) | ((with_reducible show wpAny _ _ (getAttr (Value.ref _) _ _) _ _ _); (k_here; (with_reducible show wpAny _ _ (getAttr (Value.ref _) "_initial_size" _) _ _ _); k_dflt (refine' m_getattr ?k1 ?k2 ?k3 ?k4 ?k5 ?k6 ?_; (case k1 => k_asm); (case k2 => k_asm); (case k3 => k_asm); (case k4 => (first | exact .inr (by assumption) | exact .inl (by k_mem))); (case k5 => (first | exact .inr (by assumption) | exact .inl (by k_mem))); (case k6 => rfl)))) | walk1) | (dsimp only; (first | ((with_reducible show wpAny _ _ (getMethod (Value.ref _) _ _) _ _ _); (k_here; k_dflt (refine' m_method ?k1 ?k2 ?k3 ?k4 ?k5 ?k6 ?k7 ?k8 ?k9 ?_; (case k1 => k_asm); (case k2 => k_asm); (case k3 => k_asm); (case k4 => (first | exact .inr (by assumption) | exact .inl (by k_mem))); (case k5 => (first | exact .inr (by assumption) | exact .inl (by k_mem))); (case k6 => k_is); (case k7 => k_is); (case k8 => decide +kernel); (case k9 => rfl)))) | ((with_reducible show wpAny _ _ (getAttr (Value.ref _) _ _) _ _ _); (k_here; (with_reducible show wpAny _ _ (getAttr (Value.ref _) "_initial_size" _) _ _ _); k_dflt (refine' m_getattr ?k1 ?k2 ?k3 ?k4 ?k5 ?k6 ?_; (case k1 => k_asm); (case k2 => k_asm); (case k3 => k_asm); (case k4 => (first | exact .inr (by assumption) | exact .inl (by k_mem))); (case k5 => (first | exact .inr (by assumption) | exact .inl (by k_mem))); (case k6 => rfl)))) | walk1)))))
        rename Fr _ _ _ _ => F15
        rename News _ _ _ _ => N15
        have hshT : Short ((l ++ [(a, b)]).take (l.length - i)) := ⟨by have := hsh.1; rw [List.length_take]; (first | lia | omega), fun q hq => hsh.2 q (List.mem_of_mem_take hq)⟩
        refine u_str (d := d) (ps := (List.take (l.length - i) (ps.push (Value.ref Tn)).toList).toArray) (n := n14) F15 N15 X D hst (by decide) rfl (by decide) (by decide) (.inl (by k_mem)) (.inl (by k_mem)) (fun tc' => HA.S R14) H.htr2 O.hP2 hb4 ((hpp F15 (news_rest N15 (.tail _ (.head _)))).take _) hshT ?_
        intro h16 gs16 tk16 t16 tc16 F16 N16 htr16 hb16 hk16
        clear F15 N15
        (repeat' (first | (fail_if_success (with_reducible show wpAny _ _ (exec (Stmt.For _ _ _ _ _) _) _ _ _)); (first | (k_unfold; (try dsimp only)) | (first | ((with_reducible show wpAny _ _ (getMethod (Value.ref _) _ _) _ _ _); (k_here; k_dflt (refine' m_method ?k1 ?k2 ?k3 ?k4 ?k5 ?k6 ?k7 ?k8 ?k9 ?_; (case k1 => k_asm); (case k2 => k_asm); (case k3 => k_asm); (case k4 => (first | exact .inr (by assumption) | exact .inl (by k_mem))); (case k5 => (first | exact .inr (by assumption) | exact .inl (by k_mem))); (case k6 => k_is); (case k7 => k_is); (case k8 => decide +kernel); (case k9 => rfl)))) | ((with_reducible show wpAny _ _ (getAttr (Value.ref _) _ _) _ _ _); (k_here; (with_reducible show wpAny _ _ (getAttr (Value.ref _) "_initial_size" _) _ _ _); k_dflt (refine' m_getattr ?k1 ?k2 ?k3 ?k4 ?k5 ?k6 ?_; (case k1 => k_asm); (case k2 => k_asm); (case k3 => k_asm); (case k4 => (first | exact .inr (by assumption) | exact .inl (by k_mem))); (case k5 => (first | exact .inr (by assumption) | exact .inl (by k_mem))); (case k6 => rfl)))) | walk1) | (dsimp only; (first | ((with_reducible show wpAny _ _ (getMethod (Value.ref _) _ _) _ _ _); (k_here; k_dflt (refine' m_method ?k1 ?k2 ?k3 ?k4 ?k5 ?k6 ?k7 ?k8 ?k9 ?_; (case k1 => k_asm); (case k2 => k_asm); (case k3 => k_asm); (case k4 => (first | exact .inr (by assumption) | exact .inl (by k_mem))); (case k5 => (first | exact .inr (by assumption) | exact .inl (by k_mem))); (case k6 => k_is); (case k7 => k_is); (case k8 => decide +kernel); (case k9 => rfl)))) | ((with_reducible show wpAny _ _ (getAttr (Value.ref _) _ _) _ _ _); (k_here; (with_reducible show wpAny _ _ (getAttr (Value.ref _) "_initial_size" _) _ _ _); k_dflt (refine' m_getattr ?k1 ?k2 ?k3 ?k4 ?k5 ?k6 ?_; (case k1 => k_asm); (case k2 => k_asm); (case k3 => k_asm); (case k4 => (first | exact .inr (by assumption) | exact .inl (by k_mem))); (case k5 => (first | exact .inr (by assumption) | exact .inl (by k_mem))); (case k6 => rfl)))) | walk1)))))
        refine append_K (its := lns.toArray) (n := nl) F16 N16 (HA.L R14) ?_ (by have := H.hls.length; simp; rw [sizeLine_eq]; (first | lia | omega))
        intro h17 F17 N17
        clear F16 N16
        have hl17 : lns.toArray.push (Value.str (strOf (List.take (l.length - i) (l ++ [(a, b)]))) t16) = (lns ++ [Value.str (strOf (List.take (l.length - i) (l ++ [(a, b)]))) t16]).toArray := by simp
        rw [hl17] at N17
        (repeat' (first | (fail_if_success (with_reducible show wpAny _ _ (exec (Stmt.For _ _ _ _ _) _) _ _ _)); (first | (k_unfold; (try dsimp only)) | (first | ((with_reducible show wpAny _ _ (getMethod (Value.ref _) _ _) _ _ _); (k_here; k_dflt (refine' m_method ?k1 ?k2 ?k3 ?k4 ?k5 ?k6 ?k7 ?k8 ?k9 ?_; (case k1 => k_asm); (case k2 => k_asm); (case k3 => k_asm); (case k4 => (first | exact .inr (by assumption) | exact .inl (by k_mem))); (case k5 => (first | exact .inr (by assumption) | exact .inl (by k_mem))); (case k6 => k_is); (case k7 => k_is); (case k8 => decide +kernel); (case k9 => rfl)))) | ((with_reducible show wpAny _ _ (getAttr (Value.ref _) _ _) _ _ _); (k_here; (with_reducible show wpAny _ _ (getAttr (Value.ref _) "_initial_size" _) _ _ _); k_dflt (refine' m_getattr ?k1 ?k2 ?k3 ?k4 ?k5 ?k6 ?_; (case k1 => k_asm); (case k2 => k_asm); (case k3 => k_asm); (case k4 => (first | exact .inr (by assumption) | exact .inl (by k_mem))); (case k5 => (first | exact .inr (by assumption) | exact .inl (by k_mem))); (case k6 => rfl)))) | walk1) | (dsimp only; (first | ((with_reducible show wpAny _ _ (getMethod (Value.ref _) _ _) _ _ _); (k_here; k_dflt (refine' m_method ?k1 ?k2 ?k3 ?k4 ?k5 ?k6 ?k7 ?k8 ?k9 ?_; (case k1 => k_asm); (case k2 => k_asm); (case k3 => k_asm); (case k4 => (first | exact .inr (by assumption) | exact .inl (by k_mem))); (case k5 => (first | exact .inr (by assumption) | exact .inl (by k_mem))); (case k6 => k_is); (case k7 => k_is); (case k8 => decide +kernel); (case k9 => rfl)))) | ((with_reducible show wpAny _ _ (getAttr (Value.ref _) _ _) _ _ _); (k_here; (with_reducible show wpAny _ _ (getAttr (Value.ref _) "_initial_size" _) _ _ _); k_dflt (refine' m_getattr ?k1 ?k2 ?k3 ?k4 ?k5 ?k6 ?_; (case k1 => k_asm); (case k2 => k_asm); (case k3 => k_asm); (case k4 => (first | exact .inr (by assumption) | exact .inl (by k_mem))); (case k5 => (first | exact .inr (by assumption) | exact .inl (by k_mem))); (case k6 => rfl)))) | walk1)))))
        rename Fr _ _ _ _ => F18
        rename News _ _ _ _ => N18
        refine u_reset (d := d) (ps := (List.take (l.length - i) (ps.push (Value.ref Tn)).toList).toArray) (n := n14) (items := (List.drop (l.length - i) (ps.push (Value.ref Tn)).toList).toArray) (c := 0) F18 N18 D hst rfl (by decide) (by decide) (fun n' => HA.X R14) (fun n' t' => HA.D R14) HA.n5 O.hx O.hd (by simp; (first | lia | omega)) (.inl (by k_mem)) (by simp; (first | lia | omega)) ?_
        intro h19 tk19 n19 t19 F19 N19
        clear F18 N18
        (repeat' (first | (fail_if_success (with_reducible show wpAny _ _ (exec (Stmt.For _ _ _ _ _) _) _ _ _)); (first | (k_unfold; (try dsimp only)) | (first | ((with_reducible show wpAny _ _ (getMethod (Value.ref _) _ _) _ _ _); (k_here; k_dflt (refine' m_method ?k1 ?k2 ?k3 ?k4 ?k5 ?k6 ?k7 ?k8 ?k9 ?_; (case k1 => k_asm); (case k2 => k_asm); (case k3 => k_asm); (case k4 => (first | exact .inr (by assumption) | exact .inl (by k_mem))); (case k5 => (first | exact .inr (by assumption) | exact .inl (by k_mem))); (case k6 => k_is); (case k7 => k_is); (case k8 => decide +kernel); (case k9 => rfl)))) | ((with_reducible show wpAny _ _ (getAttr (Value.ref _) _ _) _ _ _); (k_here; (with_reducible show wpAny _ _ (getAttr (Value.ref _) "_initial_size" _) _ _ _); k_dflt (refine' m_getattr ?k1 ?k2 ?k3 ?k4 ?k5 ?k6 ?_; (case k1 => k_asm); (case k2 => k_asm); (case k3 => k_asm); (case k4 => (first | exact .inr (by assumption) | exact .inl (by k_mem))); (case k5 => (first | exact .inr (by assumption) | exact .inl (by k_mem))); (case k6 => rfl)))) | walk1) | (dsimp only; (first | ((with_reducible show wpAny _ _ (getMethod (Value.ref _) _ _) _ _ _); (k_here; k_dflt (refine' m_method ?k1 ?k2 ?k3 ?k4 ?k5 ?k6 ?k7 ?k8 ?k9 ?_; (case k1 => k_asm); (case k2 => k_asm); (case k3 => k_asm); (case k4 => (first | exact .inr (by assumption) | exact .inl (by k_mem))); (case k5 => (first | exact .inr (by assumption) | exact .inl (by k_mem))); (case k6 => k_is); (case k7 => k_is); (case k8 => decide +kernel); (case k9 => rfl)))) | ((with_reducible show wpAny _ _ (getAttr (Value.ref _) _ _) _ _ _); (k_here; (with_reducible show wpAny _ _ (getAttr (Value.ref _) "_initial_size" _) _ _ _); k_dflt (refine' m_getattr ?k1 ?k2 ?k3 ?k4 ?k5 ?k6 ?_; (case k1 => k_asm); (case k2 => k_asm); (case k3 => k_asm); (case k4 => (first | exact .inr (by assumption) | exact .inl (by k_mem))); (case k5 => (first | exact .inr (by assumption) | exact .inl (by k_mem))); (case k6 => rfl)))) | walk1)))))
        refine hret _ (lines ++ [strOf (List.take (l.length - i) (l ++ [(a, b)]))]) ((l ++ [(a, b)]).drop (l.length - i)) 0 _ _ _ _ _ _ _ (VFAt.of_news N19 (strs_push H.hls) htr4 htr16 ((hpp F19 (news_rest N19 (.tail _ (.head _)))).drop _)) (fun b o e h1 h2 h3 h4 h5 h6 h7 => F19.keep _ _ (hkeep b o e h1 h2 h3 h4 h5 h6 h7)) (fun T hT => hnew T (List.mem_of_mem_drop (by simpa using hT))) hb16 rfl rfl ?_
        unfold chunkF
        rw [if_neg (by show ¬ i0 + ((lenOf (l ++ [(a, b)]) : Nat) : Int) ≤ mx; (first | lia | omega))]
        show _ = match findS sg.cps.toList (l ++ [(a, b)]) with | some i => _ | none => _
        rw [hfi]
      · have hmis : hitAt c (l ++ [(a, b)]) (l.length - i) = false := by
          rw [hitE, ← item_last (by omega)]; assumption
        rename Fr _ _ _ _ => F12
        rename News _ _ _ _ => N12
        refine ⟨_, _, _, _, _, rfl, F12, by simpa using N12, hoff2, rfl, rfl, rfl, rfl, rfl, rfl, fun j hj => ?_⟩
        rcases Nat.lt_succ_iff_lt_or_eq.mp hj with hj | rfl
        · exact hmiss j hj
        · exact hmis
      · have hmis : hitAt c (l ++ [(a, b)]) (l.length - i) = false := by
          rw [hitE]
          have h0 : P2.cps.size = 0 := by have : P2.length = P2.cps.size := rfl; (first | lia | omega)
          simp [Array.back?_eq_getElem?, h0]
        rename Fr _ _ _ _ => F12
        rename News _ _ _ _ => N12
        refine ⟨_, _, _, _, _, rfl, F12, by simpa using N12, hoff2, rfl, rfl, rfl, rfl, rfl, rfl, fun j hj => ?_⟩
        rcases Nat.lt_succ_iff_lt_or_eq.mp hj with hj | rfl
        · exact hmiss j hj
        · exact hmis
    · rintro m nw h10 tk10 gs10 E10 ⟨rfl, rfl, hm1, hm2, hm3, hm4, hmiss⟩ F10 N10
      clear F9 N9 hr9
      (repeat' (first | (fail_if_success (with_reducible show wpAny _ _ (exec (Stmt.For _ _ _ _ _) _) _ _ _)); (first | (k_unfold; (try dsimp only)) | (first | ((with_reducible show wpAny _ _ (getMethod (Value.ref _) _ _) _ _ _); (k_here; k_dflt (refine' m_method ?k1 ?k2 ?k3 ?k4 ?k5 ?k6 ?k7 ?k8 ?k9 ?_; (case k1 => k_asm); (case k2 => k_asm); (case k3 => k_asm); (case k4 => (first | exact .inr (by assumption) | exact .inl (by k_mem))); (case k5 => (first | exact .inr (by assumption) | exact .inl (by k_mem))); (case k6 => k_is); (case k7 => k_is); (case k8 => decide +kernel); (case k9 => rfl)))) | ((with_reducible show wpAny _ _ (getAttr (Value.ref _) _ _) _ _ _); (k_here; (with_reducible show wpAny _ _ (getAttr (Value.ref _) "_initial_size" _) _ _ _); k_dflt (refine' m_getattr ?k1 ?k2 ?k3 ?k4 ?k5 ?k6 ?_; (case k1 => k_asm); (case k2 => k_asm); (case k3 => k_asm); (case k4 => (first | exact .inr (by assumption) | exact .inl (by k_mem))); (case k5 => (first | exact .inr (by assumption) | exact .inl (by k_mem))); (case k6 => rfl)))) | walk1) | (dsimp only; (first | ((with_reducible show wpAny _ _ (getMethod (Value.ref _) _ _) _ _ _); (k_here; k_dflt (refine' m_method ?k1 ?k2 ?k3 ?k4 ?k5 ?k6 ?k7 ?k8 ?k9 ?_; (case k1 => k_asm); (case k2 => k_asm); (case k3 => k_asm); (case k4 => (first | exact .inr (by assumption) | exact .inl (by k_mem))); (case k5 => (first | exact .inr (by assumption) | exact .inl (by k_mem))); (case k6 => k_is); (case k7 => k_is); (case k8 => decide +kernel); (case k9 => rfl)))) | ((with_reducible show wpAny _ _ (getAttr (Value.ref _) _ _) _ _ _); (k_here; (with_reducible show wpAny _ _ (getAttr (Value.ref _) "_initial_size" _) _ _ _); k_dflt (refine' m_getattr ?k1 ?k2 ?k3 ?k4 ?k5 ?k6 ?_; (case k1 => k_asm); (case k2 => k_asm); (case k3 => k_asm); (case k4 => (first | exact .inr (by assumption) | exact .inl (by k_mem))); (case k5 => (first | exact .inr (by assumption) | exact .inl (by k_mem))); (case k6 => rfl)))) | walk1)))))
      refine ⟨_, _, _, _, _, rfl, F10, by simpa using N10, hoff, rfl, rfl, hm2, hm3, hm4, fun j c' hj hc' => ?_⟩
      rcases Nat.lt_succ_iff_lt_or_eq.mp hj with hj | rfl
      · exact hno j c' hj hc'
      · rw [hc] at hc'
        cases hc'
        rw [hll]
        exact findI_miss _ hmiss
  · rintro m nw h6 tk6 gs6 E6 ⟨rfl, rfl, hm1, hm2, hm3, hno⟩ F6 N6
    clear F5 N5
    obtain ⟨m2, rfl⟩ := as_if3 hm1 hm2 hm3
    clear hm1 hm2 hm3
    (repeat' (first | (fail_if_success (with_reducible show wpAny _ _ (exec (Stmt.For _ _ _ _ _) _) _ _ _)); (first | (k_unfold; (try dsimp only)) | (first | ((with_reducible show wpAny _ _ (getMethod (Value.ref _) _ _) _ _ _); (k_here; k_dflt (refine' m_method ?k1 ?k2 ?k3 ?k4 ?k5 ?k6 ?k7 ?k8 ?k9 ?_; (case k1 => k_asm); (case k2 => k_asm); (case k3 => k_asm); (case k4 => (first | exact .inr (by assumption) | exact .inl (by k_mem))); (case k5 => (first | exact .inr (by assumption) | exact .inl (by k_mem))); (case k6 => k_is); (case k7 => k_is); (case k8 => decide +kernel); (case k9 => rfl)))) | ((with_reducible show wpAny _ _ (getAttr (Value.ref _) _ _) _ _ _); (k_here; (with_reducible show wpAny _ _ (getAttr (Value.ref _) "_initial_size" _) _ _ _); k_dflt (refine' m_getattr ?k1 ?k2 ?k3 ?k4 ?k5 ?k6 ?_; (case k1 => k_asm); (case k2 => k_asm); (case k3 => k_asm); (case k4 => (first | exact .inr (by assumption) | exact .inl (by k_mem))); (case k5 => (first | exact .inr (by assumption) | exact .inl (by k_mem))); (case k6 => rfl)))) | walk1) | (dsimp only; (first | ((with_reducible show wpAny _ _ (getMethod (Value.ref _) _ _) _ _ _); (k_here; k_dflt (refine' m_method ?k1 ?k2 ?k3 ?k4 ?k5 ?k6 ?k7 ?k8 ?k9 ?_; (case k1 => k_asm); (case k2 => k_asm); (case k3 => k_asm); (case k4 => (first | exact .inr (by assumption) | exact .inl (by k_mem))); (case k5 => (first | exact .inr (by assumption) | exact .inl (by k_mem))); (case k6 => k_is); (case k7 => k_is); (case k8 => decide +kernel); (case k9 => rfl)))) | ((with_reducible show wpAny _ _ (getAttr (Value.ref _) _ _) _ _ _); (k_here; (with_reducible show wpAny _ _ (getAttr (Value.ref _) "_initial_size" _) _ _ _); k_dflt (refine' m_getattr ?k1 ?k2 ?k3 ?k4 ?k5 ?k6 ?_; (case k1 => k_asm); (case k2 => k_asm); (case k3 => k_asm); (case k4 => (first | exact .inr (by assumption) | exact .inl (by k_mem))); (case k5 => (first | exact .inr (by assumption) | exact .inl (by k_mem))); (case k6 => rfl)))) | walk1)))))
    rename Fr _ _ _ _ => F7
    rename News _ _ _ _ => N7
    show wpAny _ _ (call (.ref 138) [.ref x]) _ _ _
    have hfn : findS sg.cps.toList (l ++ [(a, b)]) = none := by
      rw [findS, List.findSome?_eq_none_iff]
      intro c hc
      obtain ⟨j, hj, e⟩ := List.getElem_of_mem hc
      exact hno j c (by simpa using hj) (by rw [← e]; simp)
    obtain rfl := hzero hgt hfn
    have hpp7 := hpp F7 (news_rest N7 (.head _))
    refine u_pop (d := d) (y := .ref Tn) (ps := ps.push (.ref Tn)) (n := n2') F7 N7 D hst rfl (by decide) (by decide) (fun n' => HA.X R2) (.inl (by k_mem)) O.hx (by simp; (first | lia | omega)) (by simp) ?_
    intro h8 tk8 n8 F8 N8
    clear F7 N7
    rw [Array.pop_push] at N8
    have hT8 : h8.IsTuple Tn #[.str a u1, .str b u2] := ⟨_, news_rest N8 (.head _), rfl, _, rfl⟩
    (repeat' (first | (fail_if_success (with_reducible show wpAny _ _ (exec (Stmt.For _ _ _ _ _) _) _ _ _)); (first | (k_unfold; (try dsimp only)) | (first | ((with_reducible show wpAny _ _ (getMethod (Value.ref _) _ _) _ _ _); (k_here; k_dflt (refine' m_method ?k1 ?k2 ?k3 ?k4 ?k5 ?k6 ?k7 ?k8 ?k9 ?_; (case k1 => k_asm); (case k2 => k_asm); (case k3 => k_asm); (case k4 => (first | exact .inr (by assumption) | exact .inl (by k_mem))); (case k5 => (first | exact .inr (by assumption) | exact .inl (by k_mem))); (case k6 => k_is); (case k7 => k_is); (case k8 => decide +kernel); (case k9 => rfl)))) | ((with_reducible show wpAny _ _ (getAttr (Value.ref _) _ _) _ _ _); (k_here; (with_reducible show wpAny _ _ (getAttr (Value.ref _) "_initial_size" _) _ _ _); k_dflt (refine' m_getattr ?k1 ?k2 ?k3 ?k4 ?k5 ?k6 ?_; (case k1 => k_asm); (case k2 => k_asm); (case k3 => k_asm); (case k4 => (first | exact .inr (by assumption) | exact .inl (by k_mem))); (case k5 => (first | exact .inr (by assumption) | exact .inl (by k_mem))); (case k6 => rfl)))) | walk1) | (dsimp only; (first | ((with_reducible show wpAny _ _ (getMethod (Value.ref _) _ _) _ _ _); (k_here; k_dflt (refine' m_method ?k1 ?k2 ?k3 ?k4 ?k5 ?k6 ?k7 ?k8 ?k9 ?_; (case k1 => k_asm); (case k2 => k_asm); (case k3 => k_asm); (case k4 => (first | exact .inr (by assumption) | exact .inl (by k_mem))); (case k5 => (first | exact .inr (by assumption) | exact .inl (by k_mem))); (case k6 => k_is); (case k7 => k_is); (case k8 => decide +kernel); (case k9 => rfl)))) | ((with_reducible show wpAny _ _ (getAttr (Value.ref _) _ _) _ _ _); (k_here; (with_reducible show wpAny _ _ (getAttr (Value.ref _) "_initial_size" _) _ _ _); k_dflt (refine' m_getattr ?k1 ?k2 ?k3 ?k4 ?k5 ?k6 ?_; (case k1 => k_asm); (case k2 => k_asm); (case k3 => k_asm); (case k4 => (first | exact .inr (by assumption) | exact .inl (by k_mem))); (case k5 => (first | exact .inr (by assumption) | exact .inl (by k_mem))); (case k6 => rfl)))) | walk1)))))
    rename Fr _ _ _ _ => F9
    rename News _ _ _ _ => N9
    refine u_push (d := d) (ps := ps) (n := n8) F9 N9 D hst rfl (by decide) (by decide) (fun T n' => HA.X R2) (.inl (by k_mem)) O.hx (by omega) ?_
    intro h10 tk10 n10 Tm u3 u4 F10 N10 hT10
    clear F9 N9
    have R10 : Off7 V dv Ln x d _ := Off7.cons (o := { cls := .type "tuple", data := .seq #[.str a u3, .str b u4] }) hT10 R2
    replace N10 := news_behind N10
    have hTm : s.heap.get? Tm = none := by
      cases e : s.heap.get? Tm with
      | none => rfl
      | some o =>
        obtain ⟨a1, a2, a3, a4, a5, a6, a7⟩ := R10 _ (.head _)
        have e2 := hkeep _ _ e a1 a2 a3 a4 a5 a6 a7
        rw [(N10 _ (.tail _ (.tail _ (.tail _ (.tail _ (.tail _ (.tail _ (.tail _ (.head _)))))))) ).2.2] at e2; cases e2
    (repeat' (first | (fail_if_success (with_reducible show wpAny _ _ (exec (Stmt.For _ _ _ _ _) _) _ _ _)); (first | (k_unfold; (try dsimp only)) | (first | ((with_reducible show wpAny _ _ (getMethod (Value.ref _) _ _) _ _ _); (k_here; k_dflt (refine' m_method ?k1 ?k2 ?k3 ?k4 ?k5 ?k6 ?k7 ?k8 ?k9 ?_; (case k1 => k_asm); (case k2 => k_asm); (case k3 => k_asm); (case k4 => (first | exact .inr (by assumption) | exact .inl (by k_mem))); (case k5 => (first | exact .inr (by assumption) | exact .inl (by k_mem))); (case k6 => k_is); (case k7 => k_is); (case k8 => decide +kernel); (case k9 => rfl)))) | ((with_reducible show wpAny _ _ (getAttr (Value.ref _) _ _) _ _ _); (k_here; (with_reducible show wpAny _ _ (getAttr (Value.ref _) "_initial_size" _) _ _ _); k_dflt (refine' m_getattr ?k1 ?k2 ?k3 ?k4 ?k5 ?k6 ?_; (case k1 => k_asm); (case k2 => k_asm); (case k3 => k_asm); (case k4 => (first | exact .inr (by assumption) | exact .inl (by k_mem))); (case k5 => (first | exact .inr (by assumption) | exact .inl (by k_mem))); (case k6 => rfl)))) | walk1) | (dsimp only; (first | ((with_reducible show wpAny _ _ (getMethod (Value.ref _) _ _) _ _ _); (k_here; k_dflt (refine' m_method ?k1 ?k2 ?k3 ?k4 ?k5 ?k6 ?k7 ?k8 ?k9 ?_; (case k1 => k_asm); (case k2 => k_asm); (case k3 => k_asm); (case k4 => (first | exact .inr (by assumption) | exact .inl (by k_mem))); (case k5 => (first | exact .inr (by assumption) | exact .inl (by k_mem))); (case k6 => k_is); (case k7 => k_is); (case k8 => decide +kernel); (case k9 => rfl)))) | ((with_reducible show wpAny _ _ (getAttr (Value.ref _) _ _) _ _ _); (k_here; (with_reducible show wpAny _ _ (getAttr (Value.ref _) "_initial_size" _) _ _ _); k_dflt (refine' m_getattr ?k1 ?k2 ?k3 ?k4 ?k5 ?k6 ?_; (case k1 => k_asm); (case k2 => k_asm); (case k3 => k_asm); (case k4 => (first | exact .inr (by assumption) | exact .inl (by k_mem))); (case k5 => (first | exact .inr (by assumption) | exact .inl (by k_mem))); (case k6 => rfl)))) | walk1)))))
    rename Fr _ _ _ _ => F11
    rename News _ _ _ _ => N11
    refine hret _ lines (l ++ [(a, b)]) 0 _ _ _ _ _ _ _ (VFAt.of_news N11 H.hls htr4 H.htr2 ((hpg.keeps F11.keep).push (news_rest N11 (.head _)))) (fun b o e h1 h2 h3 h4 h5 h6 h7 => F11.keep _ _ (hkeep b o e h1 h2 h3 h4 h5 h6 h7)) (fun T hT => ?_) hb4 rfl rfl ?_
    · rw [Array.toList_push] at hT
      rcases List.mem_append.mp hT with h | h
      · exact .inl h
      · cases List.mem_singleton.mp h; exact .inr hTm
    · unfold chunkF
      rw [if_neg (by show ¬ (0 : Int) + ((lenOf (l ++ [(a, b)]) : Nat) : Int) ≤ mx; (first | lia | omega))]
      show _ = match findS sg.cps.toList (l ++ [(a, b)]) with | some i => _ | none => _
      rw [hfn]
end
end Mine
end

section
-- StarB
example : True := by w_top off; trivial
open PySem PySem.W PyProof.Rows PySem.Calls PySem.Spec
set_option maxRecDepth 100000
namespace Mine
theorem ne_pairs {prog : Program} {w : World} {A : Around} {E : Value → Shared → Prop} {s : Shared} {Q : Value → Shared → Prop} {T1 T2 : Addr} {a b c d : Str} {t1 t2 u1 u2 : Tok} (h1 : s.heap.IsTuple T1 #[.str a t1, .str b t2]) (h2 : s.heap.IsTuple T2 #[.str c u1, .str d u2]) (hu : A.units < cLine) (h : Q (.bool (!(a == c && b == d))) s) :
    wpAny (model prog w) A (compareOp .NotEq (.ref T1) (.ref T2)) Q E s := by
  refine PySem.EqBoolInt.of_rcne (SeqAt.RcNeAt.tuples (e := fun j => if j = 0 then a == c else b == d) h1 h2 hu ?_) ?_
  · intro j hj1 hj2
    have hj : j < 2 := hj1
    rcases j with _ | _ | j
    · exact SeqAt.EqAt.str_str _ _ _ _
    · exact SeqAt.EqAt.str_str _ _ _ _
    · omega
  · have e : (!((List.range (min (#[Value.str a t1, Value.str b t2] : Array Value).size (#[Value.str c u1, Value.str d u2] : Array Value).size)).all (fun j => if j = 0 then a == c else b == d) && (#[Value.str a t1, Value.str b t2] : Array Value).size == (#[Value.str c u1, Value.str d u2] : Array Value).size)) = !(a == c && b == d) := by
      simp [show List.range 2 = [0, 1] from rfl]
    rw [e]; exact h
theorem star_base {prog : Program} {w : World} {A : Around} {E : Value → Shared → Prop} {s : Shared} {a : Addr} {its : Array Value} {ws : List Value} {Q : List Value → Shared → Prop} {g : Heap} {L : Addr} {m : Str → Option Value} {news : List (Addr × Obj)} (F : Fr g L s.heap m) (N : News g L s.heap news) (ht : s.heap.IsTuple a its) (e : its.toList = ws)
    (hz : its.size ≤ sizeLine) (h : ∀ h', Fr g L h' m → News g L h' news → Q ws { s with heap := h' }) : StarOf (model prog w) A E (.ref a) Q s := by
  obtain ⟨o, D, hc, n, hd⟩ := ht
  have hT' : s.TypeIs (.ref a) "tuple" := ⟨o, D, hc⟩
  subst e
  have z : wpAny (model prog w) A (collect (.ref a)) Q E s := wpAny_collect_seq a (.inr rfl) D hc hd (fun h' hk => h h' (frK F hk) (newsK N hk)) hz
  unfold StarOf notIterableAtAll
  exact wpAny_bind (wpAny_specialOf hT' PySem.F.slot_tuple_iter.lookup (wpAny_pure ⟨rfl, z⟩))
section
variable {M : Model} {A : Around} {E : Value → Shared → Prop} {s : Shared}
theorem starCall_ {env : Env} {o e : Expr} {name : Str} {apos pos p : Pos} {Q : Value → Shared → Prop}
    (h : wpAny M A (eval o env) (fun ov s₁ => wpAny M A (getAttr ov name true) (fun f s₂ => wpAny M A (callWith pos f [] (backTo pos (starEach [.Starred e p] env)) []) Q E s₂) E s₁) E s)
    (he : eval (.Call (.Attribute o name apos) [.Starred e p] [] pos) env = (do
      let ov ← eval o env
      standAt apos.atName
      let (f, first) ← holding [ov] (do pure (← getAttr ov name true, []))
      callWith pos f first (backTo pos (starEach [.Starred e p] env)) []) := by rfl) :
    wpAny M A (eval (.Call (.Attribute o name apos) [.Starred e p] [] pos) env) Q E s := by
  rw [he]
  exact wpAny_bind (wpAny_mono h (fun ov s₁ h₁ => wpAny_bind (wpAny_standAt (wpAny_bind (wpAny_holding (wpAny_bind (wpAny_mono h₁ (fun f s₂ h₂ => wpAny_pure h₂) fun _ _ x => x)))))) fun _ _ x => x)
theorem callWith_SM {K : Frag} {env : Env} {e : Expr} {p pos : Pos} {q f : Addr} {self : Value} {Q : Value → Shared → Prop} (hf : fnIn K f = true)
    (h : wpAny M A (eval e env) (fun v s₁ => StarOf M A E v (fun vs s₂ => MethP K q f self s₂.heap ∧ wpAny M A (call (.ref q) ([] ++ vs)) Q E s₂) s₁) E s)
    (he : starEach [.Starred e p] env = [(true, eval e env)] := by rfl) : wpAny M A (callWith pos (.ref q) [] (backTo pos (starEach [.Starred e p] env)) []) Q E s := by
  rw [he]
  exact ks_call rfl (keeps_M hf) (ks_lone h)
end
section
variable {w : World} {A : Around} {E : Value → Shared → Prop} {s : Shared} {x d : Addr} {ps : Array Value} {n : Nat} {od : Obj}
/-- a method of an accumulator as a value -/
theorem ac_getbind {name : Str} {f : Addr} {expr : Bool} {Q : Value → Shared → Prop} (X : (hd.heap_1 w.params).In s.heap) (hx : s.heap.get? x = some (acObj d ps n)) (hd' : s.heap.get? d = some od)
    (hf : findObj (hd.heap_1 w.params) 178 (some od) name = some (.bind (.builtin "function.__get__") (.ref f))) (hfn : typeIn (hd.heap_1 w.params) (.ref f) = some (.type "function"))
    (h : Q (.ref s.heap.objs.size) { s with heap := s.heap.push (methodObj (.ref f) (.ref x)), toks := s.toks + 1 }) :
    wpAny (model Challenge.rw_oc0165_02.row.prog w) A (getAttr (.ref x) name expr) Q E s := by
  obtain ⟨hp, g, dr, t, os⟩ := s
  have I := ac_at hx hd'
  have L0 := I.type (M := model Challenge.rw_oc0165_02.row.prog w)
  have L1 := looks_findIn (M := model Challenge.rw_oc0165_02.row.prog w) X k_ga
  have L2 := looks_findIn (M := model Challenge.rw_oc0165_02.row.prog w) X k_hook
  have L3 := looks_find (M := model Challenge.rw_oc0165_02.row.prog w) X I hf
  unfold getAttr getAttrBy
  refine wpAny_bind (wpAny_mkText (wpAny_holding (wpAny_bind (L0.at (wpAny_bind (L1.at ?_))))))
  show wpAny _ _ (getAttrByItsOwn (.ref x) (.str name t) (.ref 178) (.builtin "list.__getattribute__") true expr) _ _ _
  unfold getAttrByItsOwn hookBefore callGetattribute boundAndCalled
  refine wpAny_bind (L2.at ?_)
  rw [if_neg (by cases expr <;> decide)]
  refine wpAny_bind (wpAny_attempt (wpAny_holding ?_))
  show wpAny _ _ (bindSpecial (.builtin "list.__getattribute__") (.ref x) >>= _) _ _ _
  refine wpAny_bind (wpAny_of_eq (PySem.F.slot_list_getattribute.bind _) ?_)
  refine wpAny_mono (Q := fun v' s' => v' = .ref hp.objs.size ∧ s' = ⟨hp.push (methodObj (.ref f) (.ref x)), g, dr, t + 1, os⟩) (E := fun _ _ => False)
    (ac_call X hx (.inl (by decide +kernel)) (nm := "__getattribute__") (by decide +kernel) PySem.F.slot_list_getattribute.plain PySem.F.entry_list_ga (PySem.F.args_list_getattribute_2 _ _) ?_) (fun v' s' hv => ?_) fun _ _ z => z.elim
  · unfold Builtin.«object.__getattribute__»
    refine wpAny_bind (wpAny_pure (wpAny_bind (wpAny_pure (wpAny_bind (L0.at (wpAny_bind (L3.at ?_)))))))
    show wpAny _ _ (holding [.ref f] (call (.builtin "function.__get__") [.ref f, .ref x, .ref 178]) >>= _) _ _ _
    refine wpAny_bind (wpAny_holding (wpAny_call (fn_get X hfn ?_)))
    exact wpAny_pure ⟨_, rfl, rfl, rfl⟩
  · obtain ⟨rfl, rfl⟩ := hv
    show wpAny _ _ (handedOut _) _ _ _
    exact handed_on rfl h
end
section
variable {w : World} {A : Around} {E : Value → Shared → Prop} {s : Shared} {x d : Addr} {ps : Array Value} {n : Nat} {od : Obj} {g : Heap} {L : Addr} {m : Str → Option Value} {nw : List (Addr × Obj)}
theorem m_getbind {name : Str} {f : Addr} {expr : Bool} {Q : Value → Shared → Prop} (F : Fr g L s.heap m) (N : News g L s.heap nw) (X : (hd.heap_1 w.params).In g) (hx : (x, acObj d ps n) ∈ nw ∨ g.get? x = some (acObj d ps n)) (hd' : (d, od) ∈ nw ∨ g.get? d = some od)
    (hf : findObj (hd.heap_1 w.params) 178 (some od) name = some (.bind (.builtin "function.__get__") (.ref f))) (hfn : typeIn (hd.heap_1 w.params) (.ref f) = some (.type "function"))
    (h : ∀ q h', Fr g L h' m → News g L h' ((q, methodObj (.ref f) (.ref x)) :: nw) → (∀ p ∈ nw, p.1 < q) → Q (.ref q) { s with heap := h', toks := s.toks + 1 }) :
    wpAny (model Challenge.rw_oc0165_02.row.prog w) A (getAttr (.ref x) name expr) Q E s :=
  ac_getbind (X.keeps F.keep) (at_of F N hx) (at_of F N hd') hf hfn (h _ _ (F.push _) (N.push F _) fun p hp => Heap.lt_size (N p hp).1)
end
section
variable {w : World} {p : Program} {loose : List Str} {mean : ExcName → Option Value} {mg mb : Str → Option Value} {G : Heap} {s : Shared} {R : Result → Shared → Prop}
set_option maxHeartbeats 8000000
theorem c_pushC {x d : Addr} {ps : Array Value} {n : Nat} {hs0 : Int} {t0 : Tok} {v0 : Value} {n0 : Nat} {a b : Str} {ta tb : Tok} (D : Gd w p loose mean mg mb G) (St : G.StaysIn s.heap) (hx : s.heap.get? x = some (acObj d ps n)) (hd' : s.heap.get? d = some (acDict hs0 t0 v0 n0)) (hxG : G.get? x = none)
    (hz : ps.size ≤ 1000)
    (hret : ∀ h' tk' n' T t1 t2, (∀ b o, s.heap.get? b = some o → b ≠ x → h'.get? b = some o) → s.heap.get? T = none → h'.get? T = some { cls := .type "tuple", data := .seq #[.str a t1, .str b t2] } → h'.get? x = some (acObj d (ps.push (.ref T)) n') → R (.ok (.ret .none)) { s with heap := h', toks := tk' }) :
    codeAny (model Challenge.rw_oc0165_02.row.prog w) (Am 800 600) (.call (.ref 122) ⟨[.ref x, .str a ta, .str b tb], []⟩) R s := by
  have fill : (hd.heap_1 w.params).In G ∧ wpAny (model Challenge.rw_oc0165_02.row.prog w) (Am 0 0) (pure ()) (fun _ _ => True) (fun _ _ => True) s := ⟨D.X, wpAny_pure trivial⟩
  revert fill
  k_fill
  intro _
  refine' enterP (binds := [("self", .ref x), ("fws", .str a ta), ("string", .str b tb)]) [(x, acObj d ps n)] D St ?k3 ?k4 ?k6 ?k7 ?k8 ?k9 ?kB ?c5 ?c2 ?c3 ?c4 ?_
  case k3 => exact all_cons (hx) all_nil
  case k4 => exact all_cons (hxG) all_nil
  (((case k6 => k_is); (case k7 => k_is); (case k8 => decide)))
  case k9 => first | exact BindsTo.of_eq rfl | (refine' binds_K (D.X.keeps St) ?b1 ?b2 ?b3 ?b4 ?b5; (case b1 => exact rfl); (case b2 => k_is); (case b3 => exact rfl); (case b4 => exact rfl); (case b5 => exact rfl))
  (((case kB => exact locs rfl); (case c5 => decide); (case c2 => exact rfl); (case c3 => exact rfl); (case c4 => exact rfl)))
  intro g L h hg hL F N X T l1 hkeep hst
  have hdx : d ≠ x := by rintro rfl; rw [hx] at hd'; cases hd'
  replace hkeep : ∀ b o, s.heap.get? b = some o → b ≠ x → g.get? b = some o := fun b o e hb => hkeep b o e (by exact all_cons (hb.symm) all_nil)
  have hdg := hkeep _ _ hd' hdx
  try dsimp only
  try k_fold
  (repeat' (first | (fail_if_success (with_reducible show wpAny _ _ (exec (Stmt.For _ _ _ _ _) _) _ _ _)); (first | (k_unfold; (try dsimp only)) | (first | ((with_reducible show wpAny _ _ (call (Value.builtin "list.append") _) _ _ _); (k_here; k_dflt (refine' m_append ?k1 ?k2 ?k3 ?k4 ?k5 ?_; (case k1 => k_asm); (case k2 => k_asm); (case k3 => k_asm); (case k4 => k_upd); (case k5 => omega)); intro h' F' N'; (try k_sweep))) | ((with_reducible show wpAny _ _ (getMethod (Value.ref _) _ _) _ _ _); (k_here; k_dflt (refine' m_method ?k1 ?k2 ?k3 ?k4 ?k5 ?k6 ?k7 ?k8 ?k9 ?_; (case k1 => k_asm); (case k2 => k_asm); (case k3 => k_asm); (case k4 => (first | exact .inr (by assumption) | exact .inl (by k_mem))); (case k5 => (first | exact .inr (by assumption) | exact .inl (by k_mem))); (case k6 => k_is); (case k7 => k_is); (case k8 => decide +kernel); (case k9 => rfl)))) | walk1) | (dsimp only; (first | ((with_reducible show wpAny _ _ (call (Value.builtin "list.append") _) _ _ _); (k_here; k_dflt (refine' m_append ?k1 ?k2 ?k3 ?k4 ?k5 ?_; (case k1 => k_asm); (case k2 => k_asm); (case k3 => k_asm); (case k4 => k_upd); (case k5 => omega)); intro h' F' N'; (try k_sweep))) | ((with_reducible show wpAny _ _ (getMethod (Value.ref _) _ _) _ _ _); (k_here; k_dflt (refine' m_method ?k1 ?k2 ?k3 ?k4 ?k5 ?k6 ?k7 ?k8 ?k9 ?_; (case k1 => k_asm); (case k2 => k_asm); (case k3 => k_asm); (case k4 => (first | exact .inr (by assumption) | exact .inl (by k_mem))); (case k5 => (first | exact .inr (by assumption) | exact .inl (by k_mem))); (case k6 => k_is); (case k7 => k_is); (case k8 => decide +kernel); (case k9 => rfl)))) | walk1)))))
  rename Fr _ _ _ _ => F1
  rename News _ _ _ _ => N1
  try dsimp only
  have z := N1 _ (.head _)
  exact hret _ _ _ _ _ _ (fun b o e hb => F1.keep _ _ (hkeep _ _ e hb)) (none_of hkeep (Nat.ne_of_gt (by assumption)) z.2.2) z.1 (N1 _ (.tail _ (.head _))).1
end
end Mine
end

section
-- Vf2B
example : True := by w_top off; trivial
open PySem PySem.W PyProof.Rows PySem.Calls PySem.Spec
set_option maxRecDepth 100000
namespace Mine
section
variable {w : World} {p : Program} {loose : List Str} {mean : ExcName → Option Value} {mg mb : Str → Option Value} {G : Heap} {s : Shared} {Q E : Value → Shared → Prop}
  {V dv Ln x d : Addr} {mx : Int} {sg : Str} {lines : List Str} {l : List (Str × Str)} {i0 : Int} {hh : Nat → Int} {tt : Nat → Tok} {tm : Tok} {vc vl : Value} {tsg : Tok} {nd : Nat} {lns : List Value} {nl : Nat} {ps : Array Value} {n : Nat} {hs0 : Int} {t0 ti : Tok} {n0 : Nat} {tb tc : Array Value}
set_option maxHeartbeats 1000000
theorem c_newline {a b : Str} (D : Gd w p loose mean mg mb G) (St : G.StaysIn s.heap) (H : VFAt s.heap V dv Ln x d mx sg lines (l ++ [(a, b)]) 0 hh tt tm vc vl tsg nd lns nl ps n hs0 t0 ti n0 tb tc) (O : OffG G V dv Ln x d)
    (hbare : AllBare s.gens) (hsh : Short (l ++ [(a, b)])) (hab : b.length ≠ 0) (hns : Txt.isspace (strOf (l ++ [(a, b)])) = false) (hlc : lines.length ≤ 1000)
    (hret : ∀ s' lns' nl' n' ti' tb' tc', VFAt s'.heap V dv Ln x d mx sg (lines ++ [strOf (l ++ [(a, b)])]) [] 0 hh tt tm vc vl tsg nd lns' nl' #[] n' hs0 t0 ti' n0 tb' tc' → (∀ b o, s.heap.get? b = some o → b ≠ V → b ≠ dv → b ≠ Ln → b ≠ x → b ≠ d → b ≠ 140 → b ≠ 147 → s'.heap.get? b = some o) →
      AllBare s'.gens → s'.drawn = s.drawn → s'.os = s.os → Q .none s') :
    wpAny (model Challenge.rw_oc0165_02.row.prog w) (Am 600 400) (call (.ref 56) [.ref V]) Q E s := by
  have fill : (hd.heap_1 w.params).In G := D.X
  revert fill
  k_fill
  intro _
  refine wpAny_call ?_
  refine' enterV (binds := [("self", .ref V)]) H O D St ?k6 ?k7 ?k8 ?k9 ?kB ?c5 ?c2 ?c3 ?c4 ?_
  (((case k6 => k_is); (case k7 => k_is); (case k8 => decide)))
  case k9 => exact BindsTo.of_eq rfl
  (((case kB => exact locs rfl); (case c5 => decide); (case c2 => exact rfl); (case c3 => exact rfl); (case c4 => exact rfl)))
  intro g L h hL F N X T hkeep hst hpg
  have HA := H.apart
  have hsz := hpg.1
  have hl100 : l.length + 1 ≤ 100 := by have := hsh.1; simpa using this
  have hszl : ps.size = l.length + 1 := by simpa using hsz
  obtain ⟨_, Ts, ta, tb2, f⟩ := hpg
  obtain ⟨f1, f2⟩ := f l.length (by simp)
  have eg : (l ++ [(a, b)]).getD l.length (Str.empty, Str.empty) = (a, b) := by simp [List.getD]
  rw [eg] at f2
  dsimp only at f2
  have hpg : Parts g ps (l ++ [(a, b)]) := ⟨hsz, Ts, ta, tb2, f⟩
  clear f
  dsimp only
  try k_fold
  (repeat' (first | (fail_if_success (with_reducible show wpAny _ _ (exec (Stmt.For _ _ _ _ _) _) _ _ _)); (first | (k_unfold; (try dsimp only)) | (first | ((with_reducible show wpAny _ _ (getMethod (Value.ref _) _ _) _ _ _); (k_here; k_dflt (refine' m_method ?k1 ?k2 ?k3 ?k4 ?k5 ?k6 ?k7 ?k8 ?k9 ?_; (case k1 => k_asm); (case k2 => k_asm); (case k3 => k_asm); (case k4 => (first | exact .inr (by assumption) | exact .inl (by k_mem))); (case k5 => (first | exact .inr (by assumption) | exact .inl (by k_mem))); (case k6 => k_is); (case k7 => k_is); (case k8 => decide +kernel); (case k9 => rfl)))) | ((with_reducible show wpAny _ _ (getAttr (Value.ref _) _ _) _ _ _); (k_here; (with_reducible show wpAny _ _ (getAttr (Value.ref _) "_initial_size" _) _ _ _); k_dflt (refine' m_getattr ?k1 ?k2 ?k3 ?k4 ?k5 ?k6 ?_; (case k1 => k_asm); (case k2 => k_asm); (case k3 => k_asm); (case k4 => (first | exact .inr (by assumption) | exact .inl (by k_mem))); (case k5 => (first | exact .inr (by assumption) | exact .inl (by k_mem))); (case k6 => rfl)))) | walk1) | (dsimp only; (first | ((with_reducible show wpAny _ _ (getMethod (Value.ref _) _ _) _ _ _); (k_here; k_dflt (refine' m_method ?k1 ?k2 ?k3 ?k4 ?k5 ?k6 ?k7 ?k8 ?k9 ?_; (case k1 => k_asm); (case k2 => k_asm); (case k3 => k_asm); (case k4 => (first | exact .inr (by assumption) | exact .inl (by k_mem))); (case k5 => (first | exact .inr (by assumption) | exact .inl (by k_mem))); (case k6 => k_is); (case k7 => k_is); (case k8 => decide +kernel); (case k9 => rfl)))) | ((with_reducible show wpAny _ _ (getAttr (Value.ref _) _ _) _ _ _); (k_here; (with_reducible show wpAny _ _ (getAttr (Value.ref _) "_initial_size" _) _ _ _); k_dflt (refine' m_getattr ?k1 ?k2 ?k3 ?k4 ?k5 ?k6 ?_; (case k1 => k_asm); (case k2 => k_asm); (case k3 => k_asm); (case k4 => (first | exact .inr (by assumption) | exact .inl (by k_mem))); (case k5 => (first | exact .inr (by assumption) | exact .inl (by k_mem))); (case k6 => rfl)))) | walk1)))))
  rename Fr _ _ _ _ => F1
  rename News _ _ _ _ => N1
  show wpAny _ _ (call (.ref 138) [.ref x]) _ _ _
  refine u_pop (d := d) (y := .ref (Ts l.length)) (ps := ps) (n := n) F1 N1 D hst rfl (by decide) (by decide) (fun n' => HA.X .nil) (.inl (by k_mem)) O.hx (by (first | lia | omega)) (by rw [hszl]; exact f1) ?_
  intro h2 tk2 n2 F2 N2
  clear F1 N1
  have f3 : h2.IsTuple (Ts l.length) #[.str a (ta l.length), .str b (tb2 l.length)] := isTuple_at f2 fun o e => F2.keep _ _ e
  (repeat' (first | (fail_if_success (with_reducible show wpAny _ _ (exec (Stmt.For _ _ _ _ _) _) _ _ _)); (first | (k_unfold; (try dsimp only)) | (first | ((with_reducible show wpAny _ _ (getMethod (Value.ref _) _ _) _ _ _); (k_here; k_dflt (refine' m_method ?k1 ?k2 ?k3 ?k4 ?k5 ?k6 ?k7 ?k8 ?k9 ?_; (case k1 => k_asm); (case k2 => k_asm); (case k3 => k_asm); (case k4 => (first | exact .inr (by assumption) | exact .inl (by k_mem))); (case k5 => (first | exact .inr (by assumption) | exact .inl (by k_mem))); (case k6 => k_is); (case k7 => k_is); (case k8 => decide +kernel); (case k9 => rfl)))) | ((with_reducible show wpAny _ _ (getAttr (Value.ref _) _ _) _ _ _); (k_here; (with_reducible show wpAny _ _ (getAttr (Value.ref _) "_initial_size" _) _ _ _); k_dflt (refine' m_getattr ?k1 ?k2 ?k3 ?k4 ?k5 ?k6 ?_; (case k1 => k_asm); (case k2 => k_asm); (case k3 => k_asm); (case k4 => (first | exact .inr (by assumption) | exact .inl (by k_mem))); (case k5 => (first | exact .inr (by assumption) | exact .inl (by k_mem))); (case k6 => rfl)))) | walk1) | (dsimp only; (first | ((with_reducible show wpAny _ _ (getMethod (Value.ref _) _ _) _ _ _); (k_here; k_dflt (refine' m_method ?k1 ?k2 ?k3 ?k4 ?k5 ?k6 ?k7 ?k8 ?k9 ?_; (case k1 => k_asm); (case k2 => k_asm); (case k3 => k_asm); (case k4 => (first | exact .inr (by assumption) | exact .inl (by k_mem))); (case k5 => (first | exact .inr (by assumption) | exact .inl (by k_mem))); (case k6 => k_is); (case k7 => k_is); (case k8 => decide +kernel); (case k9 => rfl)))) | ((with_reducible show wpAny _ _ (getAttr (Value.ref _) _ _) _ _ _); (k_here; (with_reducible show wpAny _ _ (getAttr (Value.ref _) "_initial_size" _) _ _ _); k_dflt (refine' m_getattr ?k1 ?k2 ?k3 ?k4 ?k5 ?k6 ?_; (case k1 => k_asm); (case k2 => k_asm); (case k3 => k_asm); (case k4 => (first | exact .inr (by assumption) | exact .inl (by k_mem))); (case k5 => (first | exact .inr (by assumption) | exact .inl (by k_mem))); (case k6 => rfl)))) | walk1)))))
  rename Fr _ _ _ _ => F3
  rename News _ _ _ _ => N3
  have hT3 := N3 _ (.head _)
  refine ne_pairs (isTuple_at f2 fun o e => F3.keep _ _ e) ⟨_, hT3.1, rfl, _, rfl⟩ (by decide) ?_
  have hbe : (a == Str.ofString " " && b == Str.ofString "") = false := by
    have : (b == Str.ofString "") = false := by
      rw [beq_eq_false_iff_ne]; rintro rfl; exact hab rfl
    rw [this]; simp
  rw [hbe]
  replace N3 : News g L _ (led7 V (instObj 94 dv) dv (vfDict hh tt (.int mx tm) vc vl (.str sg tsg) Ln x nd) Ln (listOf lns.toArray nl) x (acObj d ps.pop n2) d (acDict hs0 t0 (.int 0 ti) n0) (tabObj tb) (tabObj tc) []) := fun q hq => N3 q (.tail _ hq)
  have f4 : _root_.PySem.Heap.IsTuple _ (Ts l.length) #[.str a (ta l.length), .str b (tb2 l.length)] := isTuple_at f2 fun o e => F3.keep _ _ e
  (repeat' (first | (fail_if_success (with_reducible show wpAny _ _ (exec (Stmt.For _ _ _ _ _) _) _ _ _)); (first | (k_unfold; (try dsimp only)) | (first | ((with_reducible show wpAny _ _ (getMethod (Value.ref _) _ _) _ _ _); (k_here; k_dflt (refine' m_method ?k1 ?k2 ?k3 ?k4 ?k5 ?k6 ?k7 ?k8 ?k9 ?_; (case k1 => k_asm); (case k2 => k_asm); (case k3 => k_asm); (case k4 => (first | exact .inr (by assumption) | exact .inl (by k_mem))); (case k5 => (first | exact .inr (by assumption) | exact .inl (by k_mem))); (case k6 => k_is); (case k7 => k_is); (case k8 => decide +kernel); (case k9 => rfl)))) | ((with_reducible show wpAny _ _ (getAttr (Value.ref _) _ _) _ _ _); (k_here; (with_reducible show wpAny _ _ (getAttr (Value.ref _) "_initial_size" _) _ _ _); k_dflt (refine' m_getattr ?k1 ?k2 ?k3 ?k4 ?k5 ?k6 ?_; (case k1 => k_asm); (case k2 => k_asm); (case k3 => k_asm); (case k4 => (first | exact .inr (by assumption) | exact .inl (by k_mem))); (case k5 => (first | exact .inr (by assumption) | exact .inl (by k_mem))); (case k6 => rfl)))) | walk1) | (dsimp only; (first | ((with_reducible show wpAny _ _ (getMethod (Value.ref _) _ _) _ _ _); (k_here; k_dflt (refine' m_method ?k1 ?k2 ?k3 ?k4 ?k5 ?k6 ?k7 ?k8 ?k9 ?_; (case k1 => k_asm); (case k2 => k_asm); (case k3 => k_asm); (case k4 => (first | exact .inr (by assumption) | exact .inl (by k_mem))); (case k5 => (first | exact .inr (by assumption) | exact .inl (by k_mem))); (case k6 => k_is); (case k7 => k_is); (case k8 => decide +kernel); (case k9 => rfl)))) | ((with_reducible show wpAny _ _ (getAttr (Value.ref _) _ _) _ _ _); (k_here; (with_reducible show wpAny _ _ (getAttr (Value.ref _) "_initial_size" _) _ _ _); k_dflt (refine' m_getattr ?k1 ?k2 ?k3 ?k4 ?k5 ?k6 ?_; (case k1 => k_asm); (case k2 => k_asm); (case k3 => k_asm); (case k4 => (first | exact .inr (by assumption) | exact .inl (by k_mem))); (case k5 => (first | exact .inr (by assumption) | exact .inl (by k_mem))); (case k6 => rfl)))) | walk1)))))
  refine starCall_ ?_
  (repeat' (first | (fail_if_success (with_reducible show wpAny _ _ (exec (Stmt.For _ _ _ _ _) _) _ _ _)); (first | (k_unfold; (try dsimp only)) | (first | ((with_reducible show wpAny _ _ (getMethod (Value.ref _) _ _) _ _ _); (k_here; k_dflt (refine' m_method ?k1 ?k2 ?k3 ?k4 ?k5 ?k6 ?k7 ?k8 ?k9 ?_; (case k1 => k_asm); (case k2 => k_asm); (case k3 => k_asm); (case k4 => (first | exact .inr (by assumption) | exact .inl (by k_mem))); (case k5 => (first | exact .inr (by assumption) | exact .inl (by k_mem))); (case k6 => k_is); (case k7 => k_is); (case k8 => decide +kernel); (case k9 => rfl)))) | ((with_reducible show wpAny _ _ (getAttr (Value.ref _) _ _) _ _ _); (k_here; (with_reducible show wpAny _ _ (getAttr (Value.ref _) "_initial_size" _) _ _ _); k_dflt (refine' m_getattr ?k1 ?k2 ?k3 ?k4 ?k5 ?k6 ?_; (case k1 => k_asm); (case k2 => k_asm); (case k3 => k_asm); (case k4 => (first | exact .inr (by assumption) | exact .inl (by k_mem))); (case k5 => (first | exact .inr (by assumption) | exact .inl (by k_mem))); (case k6 => rfl)))) | walk1) | (dsimp only; (first | ((with_reducible show wpAny _ _ (getMethod (Value.ref _) _ _) _ _ _); (k_here; k_dflt (refine' m_method ?k1 ?k2 ?k3 ?k4 ?k5 ?k6 ?k7 ?k8 ?k9 ?_; (case k1 => k_asm); (case k2 => k_asm); (case k3 => k_asm); (case k4 => (first | exact .inr (by assumption) | exact .inl (by k_mem))); (case k5 => (first | exact .inr (by assumption) | exact .inl (by k_mem))); (case k6 => k_is); (case k7 => k_is); (case k8 => decide +kernel); (case k9 => rfl)))) | ((with_reducible show wpAny _ _ (getAttr (Value.ref _) _ _) _ _ _); (k_here; (with_reducible show wpAny _ _ (getAttr (Value.ref _) "_initial_size" _) _ _ _); k_dflt (refine' m_getattr ?k1 ?k2 ?k3 ?k4 ?k5 ?k6 ?_; (case k1 => k_asm); (case k2 => k_asm); (case k3 => k_asm); (case k4 => (first | exact .inr (by assumption) | exact .inl (by k_mem))); (case k5 => (first | exact .inr (by assumption) | exact .inl (by k_mem))); (case k6 => rfl)))) | walk1)))))
  rename Fr _ _ _ _ => F4
  refine m_getbind (f := 122) (d := d) (ps := ps.pop) (n := n2) (od := acDict hs0 t0 (.int 0 ti) n0) F4 N3 X (.inl (by k_mem)) (.inl (by k_mem)) (by kernel_rfl) (by kernel_rfl) ?_
  intro q5 h5 F5 N5 hq5
  clear F4 N3 f4
  dsimp only
  refine callWith_SM (K := hd.heap_1 w.params) (f := 122) (self := .ref x) (by kernel_rfl) ?_
  (repeat' (first | (fail_if_success (with_reducible show wpAny _ _ (exec (Stmt.For _ _ _ _ _) _) _ _ _)); (first | (k_unfold; (try dsimp only)) | (first | ((with_reducible show wpAny _ _ (getMethod (Value.ref _) _ _) _ _ _); (k_here; k_dflt (refine' m_method ?k1 ?k2 ?k3 ?k4 ?k5 ?k6 ?k7 ?k8 ?k9 ?_; (case k1 => k_asm); (case k2 => k_asm); (case k3 => k_asm); (case k4 => (first | exact .inr (by assumption) | exact .inl (by k_mem))); (case k5 => (first | exact .inr (by assumption) | exact .inl (by k_mem))); (case k6 => k_is); (case k7 => k_is); (case k8 => decide +kernel); (case k9 => rfl)))) | ((with_reducible show wpAny _ _ (getAttr (Value.ref _) _ _) _ _ _); (k_here; (with_reducible show wpAny _ _ (getAttr (Value.ref _) "_initial_size" _) _ _ _); k_dflt (refine' m_getattr ?k1 ?k2 ?k3 ?k4 ?k5 ?k6 ?_; (case k1 => k_asm); (case k2 => k_asm); (case k3 => k_asm); (case k4 => (first | exact .inr (by assumption) | exact .inl (by k_mem))); (case k5 => (first | exact .inr (by assumption) | exact .inl (by k_mem))); (case k6 => rfl)))) | walk1) | (dsimp only; (first | ((with_reducible show wpAny _ _ (getMethod (Value.ref _) _ _) _ _ _); (k_here; k_dflt (refine' m_method ?k1 ?k2 ?k3 ?k4 ?k5 ?k6 ?k7 ?k8 ?k9 ?_; (case k1 => k_asm); (case k2 => k_asm); (case k3 => k_asm); (case k4 => (first | exact .inr (by assumption) | exact .inl (by k_mem))); (case k5 => (first | exact .inr (by assumption) | exact .inl (by k_mem))); (case k6 => k_is); (case k7 => k_is); (case k8 => decide +kernel); (case k9 => rfl)))) | ((with_reducible show wpAny _ _ (getAttr (Value.ref _) _ _) _ _ _); (k_here; (with_reducible show wpAny _ _ (getAttr (Value.ref _) "_initial_size" _) _ _ _); k_dflt (refine' m_getattr ?k1 ?k2 ?k3 ?k4 ?k5 ?k6 ?_; (case k1 => k_asm); (case k2 => k_asm); (case k3 => k_asm); (case k4 => (first | exact .inr (by assumption) | exact .inl (by k_mem))); (case k5 => (first | exact .inr (by assumption) | exact .inl (by k_mem))); (case k6 => rfl)))) | walk1)))))
  rename Fr _ _ _ _ => F6
  rename News _ _ _ _ => N6
  refine star_base (ws := [.str a (ta l.length), .str b (tb2 l.length)]) F6 N6 (isTuple_at f2 fun o e => F6.keep _ _ e) rfl (by rw [sizeLine_eq]; exact (show (2 : Nat) ≤ 16777216 by decide)) ?_
  intro h7 F7 N7
  refine ⟨⟨(N7 _ (.head _)).1, X.keeps F7.keep⟩, ?_⟩
  refine wpAny_call (method_call (N7 _ (.head _)).1 (code_up (D := 800) (U := 600) rfl (by decide) (by decide) (c_pushC D (stays_fr F7 hst) (N7 _ (.tail _ (.tail _ (.tail _ (.tail _ (.head _)))))).1 (N7 _ (.tail _ (.tail _ (.tail _ (.tail _ (.tail _ (.head _))))))).1 O.hx (by simp; (first | lia | omega)) ?_)))
  intro h8 tk8 n8 T8 u1 u2 hk8 hT8 hT8' hx8
  replace N7 : News g L h7 (led7 V (instObj 94 dv) dv (vfDict hh tt (.int mx tm) vc vl (.str sg tsg) Ln x nd) Ln (listOf lns.toArray nl) x (acObj d ps.pop n2) d (acDict hs0 t0 (.int 0 ti) n0) (tabObj tb) (tabObj tc) []) := fun q hq => N7 q (.tail _ hq)
  obtain ⟨F8, N8'⟩ := upd_news F7 N7 (HA.X .nil) hk8 hx8
  have hT : ∀ q ∈ led7 V (instObj 94 dv) dv (vfDict hh tt (.int mx tm) vc vl (.str sg tsg) Ln x nd) Ln (listOf lns.toArray nl) x (acObj d ps.pop n2) d (acDict hs0 t0 (.int 0 ti) n0) (tabObj tb) (tabObj tc) [], q.1 ≠ T8 := fun q hq e => by
    rw [← e] at hT8
    have e2 : h7.get? q.1 = some q.2 := (N7 q hq).1
    have hT8 : h7.get? q.1 = none := hT8
    rw [hT8] at e2; cases e2
  have R8 : Off7 V dv Ln x d _ := Off7.cons (o := { cls := .type "tuple", data := .seq #[.str a u1, .str b u2] }) hT .nil
  have N8 := news_behind (news_more N8' F7 hT8 hT8')
  clear F7 N7 N8' F6 N6 hT3
  have hpp : ∀ {h' : Heap} {m'}, Fr g L h' m' → h'.get? T8 = some { cls := .type "tuple", data := .seq #[.str a u1, .str b u2] } → Parts h' (ps.pop.push (.ref T8)) (l ++ [(a, b)]) := fun F' e => by
    have h1 := (hpg.keeps F'.keep).take l.length
    have e1 : (l ++ [(a, b)]).take l.length = l := by simp
    have e2 : (ps.toList.take l.length).toArray = ps.pop := by
      apply Array.toList_inj.mp
      rw [Array.toList_pop, List.dropLast_eq_take]
      simp [hszl]
    rw [e1, e2] at h1
    exact h1.push e
  (repeat' (first | (fail_if_success (with_reducible show wpAny _ _ (exec (Stmt.For _ _ _ _ _) _) _ _ _)); (first | (k_unfold; (try dsimp only)) | (first | ((with_reducible show wpAny _ _ (getMethod (Value.ref _) _ _) _ _ _); (k_here; k_dflt (refine' m_method ?k1 ?k2 ?k3 ?k4 ?k5 ?k6 ?k7 ?k8 ?k9 ?_; (case k1 => k_asm); (case k2 => k_asm); (case k3 => k_asm); (case k4 => (first | exact .inr (by assumption) | exact .inl (by k_mem))); (case k5 => (first | exact .inr (by assumption) | exact .inl (by k_mem))); (case k6 => k_is); (case k7 => k_is); (case k8 => decide +kernel); (case k9 => rfl)))) | ((with_reducible show wpAny _ _ (getAttr (Value.ref _) _ _) _ _ _); (k_here; (with_reducible show wpAny _ _ (getAttr (Value.ref _) "_initial_size" _) _ _ _); k_dflt (refine' m_getattr ?k1 ?k2 ?k3 ?k4 ?k5 ?k6 ?_; (case k1 => k_asm); (case k2 => k_asm); (case k3 => k_asm); (case k4 => (first | exact .inr (by assumption) | exact .inl (by k_mem))); (case k5 => (first | exact .inr (by assumption) | exact .inl (by k_mem))); (case k6 => rfl)))) | walk1) | (dsimp only; (first | ((with_reducible show wpAny _ _ (getMethod (Value.ref _) _ _) _ _ _); (k_here; k_dflt (refine' m_method ?k1 ?k2 ?k3 ?k4 ?k5 ?k6 ?k7 ?k8 ?k9 ?_; (case k1 => k_asm); (case k2 => k_asm); (case k3 => k_asm); (case k4 => (first | exact .inr (by assumption) | exact .inl (by k_mem))); (case k5 => (first | exact .inr (by assumption) | exact .inl (by k_mem))); (case k6 => k_is); (case k7 => k_is); (case k8 => decide +kernel); (case k9 => rfl)))) | ((with_reducible show wpAny _ _ (getAttr (Value.ref _) _ _) _ _ _); (k_here; (with_reducible show wpAny _ _ (getAttr (Value.ref _) "_initial_size" _) _ _ _); k_dflt (refine' m_getattr ?k1 ?k2 ?k3 ?k4 ?k5 ?k6 ?_; (case k1 => k_asm); (case k2 => k_asm); (case k3 => k_asm); (case k4 => (first | exact .inr (by assumption) | exact .inl (by k_mem))); (case k5 => (first | exact .inr (by assumption) | exact .inl (by k_mem))); (case k6 => rfl)))) | walk1)))))
  rename Fr _ _ _ _ => F9
  rename News _ _ _ _ => N9
  have hpos : 0 < lenOf (l ++ [(a, b)]) := by simp [lenOf]; (first | lia | omega)
  have hpos' : (0 : Int) < 0 + (lenOf (l ++ [(a, b)]) : Nat) := by (first | lia | omega)
  refine u_len F9 N9 X D hst rfl (by decide) (by decide) (.inl (by k_mem)) (.inl (by k_mem)) (fun tb' => HA.T R8) H.htr O.hP hbare (hpp F9 (news_rest N9 (.head _))) hsh (by decide) (by decide) ?_
  intro h10 gs10 tk10 t10 tb10 F10 N10 htr10 hb10 hk10
  clear F9 N9
  (repeat' (first | (fail_if_success (with_reducible show wpAny _ _ (exec (Stmt.For _ _ _ _ _) _) _ _ _)); (first | (k_unfold; (try dsimp only)) | (first | ((with_reducible show wpAny _ _ (getMethod (Value.ref _) _ _) _ _ _); (k_here; k_dflt (refine' m_method ?k1 ?k2 ?k3 ?k4 ?k5 ?k6 ?k7 ?k8 ?k9 ?_; (case k1 => k_asm); (case k2 => k_asm); (case k3 => k_asm); (case k4 => (first | exact .inr (by assumption) | exact .inl (by k_mem))); (case k5 => (first | exact .inr (by assumption) | exact .inl (by k_mem))); (case k6 => k_is); (case k7 => k_is); (case k8 => decide +kernel); (case k9 => rfl)))) | ((with_reducible show wpAny _ _ (getAttr (Value.ref _) _ _) _ _ _); (k_here; (with_reducible show wpAny _ _ (getAttr (Value.ref _) "_initial_size" _) _ _ _); k_dflt (refine' m_getattr ?k1 ?k2 ?k3 ?k4 ?k5 ?k6 ?_; (case k1 => k_asm); (case k2 => k_asm); (case k3 => k_asm); (case k4 => (first | exact .inr (by assumption) | exact .inl (by k_mem))); (case k5 => (first | exact .inr (by assumption) | exact .inl (by k_mem))); (case k6 => rfl)))) | walk1) | (dsimp only; (first | ((with_reducible show wpAny _ _ (getMethod (Value.ref _) _ _) _ _ _); (k_here; k_dflt (refine' m_method ?k1 ?k2 ?k3 ?k4 ?k5 ?k6 ?k7 ?k8 ?k9 ?_; (case k1 => k_asm); (case k2 => k_asm); (case k3 => k_asm); (case k4 => (first | exact .inr (by assumption) | exact .inl (by k_mem))); (case k5 => (first | exact .inr (by assumption) | exact .inl (by k_mem))); (case k6 => k_is); (case k7 => k_is); (case k8 => decide +kernel); (case k9 => rfl)))) | ((with_reducible show wpAny _ _ (getAttr (Value.ref _) _ _) _ _ _); (k_here; (with_reducible show wpAny _ _ (getAttr (Value.ref _) "_initial_size" _) _ _ _); k_dflt (refine' m_getattr ?k1 ?k2 ?k3 ?k4 ?k5 ?k6 ?_; (case k1 => k_asm); (case k2 => k_asm); (case k3 => k_asm); (case k4 => (first | exact .inr (by assumption) | exact .inl (by k_mem))); (case k5 => (first | exact .inr (by assumption) | exact .inl (by k_mem))); (case k6 => rfl)))) | walk1)))))
  rename Fr _ _ _ _ => F11
  rename News _ _ _ _ => N11
  show wpAny _ _ (call (.ref 167) [.ref x]) _ _ _
  refine u_onlyws F11 N11 D hst rfl (by decide) (by decide) (.inl (by k_mem)) (.inl (by k_mem)) (fun tb' => HA.T R8) htr10 O.hP (fun tb' tc' => HA.S R8) H.htr2 O.hP2 hb10 (hpp F11 (news_rest N11 (.head _))) hsh hpos ?_
  intro h12 gs12 tk12 tb12 tc12 F12 N12 htr12 htr12' hb12 hk12
  clear F11 N11
  rw [hns]
  (repeat' (first | (fail_if_success (with_reducible show wpAny _ _ (exec (Stmt.For _ _ _ _ _) _) _ _ _)); (first | (k_unfold; (try dsimp only)) | (first | ((with_reducible show wpAny _ _ (getMethod (Value.ref _) _ _) _ _ _); (k_here; k_dflt (refine' m_method ?k1 ?k2 ?k3 ?k4 ?k5 ?k6 ?k7 ?k8 ?k9 ?_; (case k1 => k_asm); (case k2 => k_asm); (case k3 => k_asm); (case k4 => (first | exact .inr (by assumption) | exact .inl (by k_mem))); (case k5 => (first | exact .inr (by assumption) | exact .inl (by k_mem))); (case k6 => k_is); (case k7 => k_is); (case k8 => decide +kernel); (case k9 => rfl)))) | ((with_reducible show wpAny _ _ (getAttr (Value.ref _) _ _) _ _ _); (k_here; (with_reducible show wpAny _ _ (getAttr (Value.ref _) "_initial_size" _) _ _ _); k_dflt (refine' m_getattr ?k1 ?k2 ?k3 ?k4 ?k5 ?k6 ?_; (case k1 => k_asm); (case k2 => k_asm); (case k3 => k_asm); (case k4 => (first | exact .inr (by assumption) | exact .inl (by k_mem))); (case k5 => (first | exact .inr (by assumption) | exact .inl (by k_mem))); (case k6 => rfl)))) | walk1) | (dsimp only; (first | ((with_reducible show wpAny _ _ (getMethod (Value.ref _) _ _) _ _ _); (k_here; k_dflt (refine' m_method ?k1 ?k2 ?k3 ?k4 ?k5 ?k6 ?k7 ?k8 ?k9 ?_; (case k1 => k_asm); (case k2 => k_asm); (case k3 => k_asm); (case k4 => (first | exact .inr (by assumption) | exact .inl (by k_mem))); (case k5 => (first | exact .inr (by assumption) | exact .inl (by k_mem))); (case k6 => k_is); (case k7 => k_is); (case k8 => decide +kernel); (case k9 => rfl)))) | ((with_reducible show wpAny _ _ (getAttr (Value.ref _) _ _) _ _ _); (k_here; (with_reducible show wpAny _ _ (getAttr (Value.ref _) "_initial_size" _) _ _ _); k_dflt (refine' m_getattr ?k1 ?k2 ?k3 ?k4 ?k5 ?k6 ?_; (case k1 => k_asm); (case k2 => k_asm); (case k3 => k_asm); (case k4 => (first | exact .inr (by assumption) | exact .inl (by k_mem))); (case k5 => (first | exact .inr (by assumption) | exact .inl (by k_mem))); (case k6 => rfl)))) | walk1)))))
  rename Fr _ _ _ _ => F13
  rename News _ _ _ _ => N13
  refine u_str F13 N13 X D hst (by decide) rfl (by decide) (by decide) (.inl (by k_mem)) (.inl (by k_mem)) (fun tc' => HA.S R8) htr12' O.hP2 hb12 (hpp F13 (news_rest N13 (.head _))) hsh ?_
  intro h14 gs14 tk14 t14 tc14 F14 N14 htr14 hb14 hk14
  clear F13 N13
  (repeat' (first | (fail_if_success (with_reducible show wpAny _ _ (exec (Stmt.For _ _ _ _ _) _) _ _ _)); (first | (k_unfold; (try dsimp only)) | (first | ((with_reducible show wpAny _ _ (getMethod (Value.ref _) _ _) _ _ _); (k_here; k_dflt (refine' m_method ?k1 ?k2 ?k3 ?k4 ?k5 ?k6 ?k7 ?k8 ?k9 ?_; (case k1 => k_asm); (case k2 => k_asm); (case k3 => k_asm); (case k4 => (first | exact .inr (by assumption) | exact .inl (by k_mem))); (case k5 => (first | exact .inr (by assumption) | exact .inl (by k_mem))); (case k6 => k_is); (case k7 => k_is); (case k8 => decide +kernel); (case k9 => rfl)))) | ((with_reducible show wpAny _ _ (getAttr (Value.ref _) _ _) _ _ _); (k_here; (with_reducible show wpAny _ _ (getAttr (Value.ref _) "_initial_size" _) _ _ _); k_dflt (refine' m_getattr ?k1 ?k2 ?k3 ?k4 ?k5 ?k6 ?_; (case k1 => k_asm); (case k2 => k_asm); (case k3 => k_asm); (case k4 => (first | exact .inr (by assumption) | exact .inl (by k_mem))); (case k5 => (first | exact .inr (by assumption) | exact .inl (by k_mem))); (case k6 => rfl)))) | walk1) | (dsimp only; (first | ((with_reducible show wpAny _ _ (getMethod (Value.ref _) _ _) _ _ _); (k_here; k_dflt (refine' m_method ?k1 ?k2 ?k3 ?k4 ?k5 ?k6 ?k7 ?k8 ?k9 ?_; (case k1 => k_asm); (case k2 => k_asm); (case k3 => k_asm); (case k4 => (first | exact .inr (by assumption) | exact .inl (by k_mem))); (case k5 => (first | exact .inr (by assumption) | exact .inl (by k_mem))); (case k6 => k_is); (case k7 => k_is); (case k8 => decide +kernel); (case k9 => rfl)))) | ((with_reducible show wpAny _ _ (getAttr (Value.ref _) _ _) _ _ _); (k_here; (with_reducible show wpAny _ _ (getAttr (Value.ref _) "_initial_size" _) _ _ _); k_dflt (refine' m_getattr ?k1 ?k2 ?k3 ?k4 ?k5 ?k6 ?_; (case k1 => k_asm); (case k2 => k_asm); (case k3 => k_asm); (case k4 => (first | exact .inr (by assumption) | exact .inl (by k_mem))); (case k5 => (first | exact .inr (by assumption) | exact .inl (by k_mem))); (case k6 => rfl)))) | walk1)))))
  rename Fr _ _ _ _ => F15
  rename News _ _ _ _ => N15
  refine append_K (its := lns.toArray) (n := nl) F15 N15 (HA.L R8) ?_ (by have := H.hls.length; simp; rw [sizeLine_eq]; (first | lia | omega))
  intro h16 F16 N16
  clear F15 N15
  have hl16 : lns.toArray.push (Value.str (strOf (l ++ [(a, b)])) t14) = (lns ++ [Value.str (strOf (l ++ [(a, b)])) t14]).toArray := by simp
  rw [hl16] at N16
  (repeat' (first | (fail_if_success (with_reducible show wpAny _ _ (exec (Stmt.For _ _ _ _ _) _) _ _ _)); (first | (k_unfold; (try dsimp only)) | (first | ((with_reducible show wpAny _ _ (getMethod (Value.ref _) _ _) _ _ _); (k_here; k_dflt (refine' m_method ?k1 ?k2 ?k3 ?k4 ?k5 ?k6 ?k7 ?k8 ?k9 ?_; (case k1 => k_asm); (case k2 => k_asm); (case k3 => k_asm); (case k4 => (first | exact .inr (by assumption) | exact .inl (by k_mem))); (case k5 => (first | exact .inr (by assumption) | exact .inl (by k_mem))); (case k6 => k_is); (case k7 => k_is); (case k8 => decide +kernel); (case k9 => rfl)))) | ((with_reducible show wpAny _ _ (getAttr (Value.ref _) _ _) _ _ _); (k_here; (with_reducible show wpAny _ _ (getAttr (Value.ref _) "_initial_size" _) _ _ _); k_dflt (refine' m_getattr ?k1 ?k2 ?k3 ?k4 ?k5 ?k6 ?_; (case k1 => k_asm); (case k2 => k_asm); (case k3 => k_asm); (case k4 => (first | exact .inr (by assumption) | exact .inl (by k_mem))); (case k5 => (first | exact .inr (by assumption) | exact .inl (by k_mem))); (case k6 => rfl)))) | walk1) | (dsimp only; (first | ((with_reducible show wpAny _ _ (getMethod (Value.ref _) _ _) _ _ _); (k_here; k_dflt (refine' m_method ?k1 ?k2 ?k3 ?k4 ?k5 ?k6 ?k7 ?k8 ?k9 ?_; (case k1 => k_asm); (case k2 => k_asm); (case k3 => k_asm); (case k4 => (first | exact .inr (by assumption) | exact .inl (by k_mem))); (case k5 => (first | exact .inr (by assumption) | exact .inl (by k_mem))); (case k6 => k_is); (case k7 => k_is); (case k8 => decide +kernel); (case k9 => rfl)))) | ((with_reducible show wpAny _ _ (getAttr (Value.ref _) _ _) _ _ _); (k_here; (with_reducible show wpAny _ _ (getAttr (Value.ref _) "_initial_size" _) _ _ _); k_dflt (refine' m_getattr ?k1 ?k2 ?k3 ?k4 ?k5 ?k6 ?_; (case k1 => k_asm); (case k2 => k_asm); (case k3 => k_asm); (case k4 => (first | exact .inr (by assumption) | exact .inl (by k_mem))); (case k5 => (first | exact .inr (by assumption) | exact .inl (by k_mem))); (case k6 => rfl)))) | walk1)))))
  rename Fr _ _ _ _ => F17
  rename News _ _ _ _ => N17
  show wpAny _ _ (call (.ref 160) [.ref x]) _ _ _
  refine u_reset0 F17 N17 D hst rfl (by decide) (by decide) (fun n' => HA.X R8) (fun n' t' => HA.D R8) HA.n5 O.hx O.hd (by simp; (first | lia | omega)) ?_
  intro h18 tk18 n18 t18 F18 N18
  clear F17 N17
  (repeat' (first | (fail_if_success (with_reducible show wpAny _ _ (exec (Stmt.For _ _ _ _ _) _) _ _ _)); (first | (k_unfold; (try dsimp only)) | (first | ((with_reducible show wpAny _ _ (getMethod (Value.ref _) _ _) _ _ _); (k_here; k_dflt (refine' m_method ?k1 ?k2 ?k3 ?k4 ?k5 ?k6 ?k7 ?k8 ?k9 ?_; (case k1 => k_asm); (case k2 => k_asm); (case k3 => k_asm); (case k4 => (first | exact .inr (by assumption) | exact .inl (by k_mem))); (case k5 => (first | exact .inr (by assumption) | exact .inl (by k_mem))); (case k6 => k_is); (case k7 => k_is); (case k8 => decide +kernel); (case k9 => rfl)))) | ((with_reducible show wpAny _ _ (getAttr (Value.ref _) _ _) _ _ _); (k_here; (with_reducible show wpAny _ _ (getAttr (Value.ref _) "_initial_size" _) _ _ _); k_dflt (refine' m_getattr ?k1 ?k2 ?k3 ?k4 ?k5 ?k6 ?_; (case k1 => k_asm); (case k2 => k_asm); (case k3 => k_asm); (case k4 => (first | exact .inr (by assumption) | exact .inl (by k_mem))); (case k5 => (first | exact .inr (by assumption) | exact .inl (by k_mem))); (case k6 => rfl)))) | walk1) | (dsimp only; (first | ((with_reducible show wpAny _ _ (getMethod (Value.ref _) _ _) _ _ _); (k_here; k_dflt (refine' m_method ?k1 ?k2 ?k3 ?k4 ?k5 ?k6 ?k7 ?k8 ?k9 ?_; (case k1 => k_asm); (case k2 => k_asm); (case k3 => k_asm); (case k4 => (first | exact .inr (by assumption) | exact .inl (by k_mem))); (case k5 => (first | exact .inr (by assumption) | exact .inl (by k_mem))); (case k6 => k_is); (case k7 => k_is); (case k8 => decide +kernel); (case k9 => rfl)))) | ((with_reducible show wpAny _ _ (getAttr (Value.ref _) _ _) _ _ _); (k_here; (with_reducible show wpAny _ _ (getAttr (Value.ref _) "_initial_size" _) _ _ _); k_dflt (refine' m_getattr ?k1 ?k2 ?k3 ?k4 ?k5 ?k6 ?_; (case k1 => k_asm); (case k2 => k_asm); (case k3 => k_asm); (case k4 => (first | exact .inr (by assumption) | exact .inl (by k_mem))); (case k5 => (first | exact .inr (by assumption) | exact .inl (by k_mem))); (case k6 => rfl)))) | walk1)))))
  exact hret _ _ _ _ _ _ _ (VFAt.of_news N18 (strs_push H.hls) htr12 htr14 .nil) (fun b o e h1 h2 h3 h4 h5 h6 h7 => F18.keep _ _ (hkeep b o e h1 h2 h3 h4 h5 h6 h7)) hb14 rfl rfl
end
/-- the ledger behind a call that changes a formatter -/
theorem vf_after {g h h' : Heap} {L V dv Ln x d : Addr} {m : Str → Option Value} {o1 o2 o3 o4 o5 o6 o7 : Obj} {mx : Int} {sg : Str} {lines : List Str} {l : List (Str × Str)} {i0 : Int} {hh : Nat → Int} {tt : Nat → Tok} {tm : Tok} {vc vl : Value} {tsg : Tok} {nd : Nat} {lns : List Value} {nl : Nat} {ps : Array Value} {n : Nat} {hs0 : Int} {t0 ti : Tok} {n0 : Nat} {tb tc : Array Value} {rest : List (Addr × Obj)}
    (F : Fr g L h m) (N : News g L h (led7 V o1 dv o2 Ln o3 x o4 d o5 o6 o7 rest)) (R : Off7 V dv Ln x d rest) (H' : VFAt h' V dv Ln x d mx sg lines l i0 hh tt tm vc vl tsg nd lns nl ps n hs0 t0 ti n0 tb tc) (hk : ∀ b o, h.get? b = some o → b ≠ V → b ≠ dv → b ≠ Ln → b ≠ x → b ≠ d → b ≠ 140 → b ≠ 147 → h'.get? b = some o) :
    Fr g L h' m ∧ News g L h' (led7 V (instObj 94 dv) dv (vfDict hh tt (.int mx tm) vc vl (.str sg tsg) Ln x nd) Ln (listOf lns.toArray nl) x (acObj d ps n) d (acDict hs0 t0 (.int i0 ti) n0) (tabObj tb) (tabObj tc) rest) := by
  have z1 := (N _ (.head _)).2
  have z2 := (N _ (.tail _ (.head _))).2
  have z3 := (N _ (.tail _ (.tail _ (.head _)))).2
  have z4 := (N _ (.tail _ (.tail _ (.tail _ (.head _))))).2
  have z5 := (N _ (.tail _ (.tail _ (.tail _ (.tail _ (.head _)))))).2
  have z6 := (N _ (.tail _ (.tail _ (.tail _ (.tail _ (.tail _ (.head _))))))).2
  have z7 := (N _ (.tail _ (.tail _ (.tail _ (.tail _ (.tail _ (.tail _ (.head _)))))))).2
  obtain ⟨oL, es, ep, hL, r⟩ := F.ns
  have nn : ∀ {b : Addr} {o : Obj} {c : Addr}, g.get? b = some o → g.get? c = none → b ≠ c := fun e1 e2 q => by rw [q, e2] at e1; cases e1
  refine ⟨⟨⟨oL, es, ep, hk _ _ hL z1.1.symm z2.1.symm z3.1.symm z4.1.symm z5.1.symm z6.1.symm z7.1.symm, r⟩, fun b o e => hk b o (F.keep b o e) (nn e z1.2) (nn e z2.2) (nn e z3.2) (nn e z4.2) (nn e z5.2) (nn e z6.2) (nn e z7.2), F.above⟩, ?_⟩
  refine all_cons ?_ (all_cons ?_ (all_cons ?_ (all_cons ?_ (all_cons ?_ (all_cons ?_ (all_cons ?_ (fun q hq => ?_)))))))
  · exact ⟨H'.hV, z1⟩
  · exact ⟨H'.hdv, z2⟩
  · exact ⟨H'.hLn, z3⟩
  · exact ⟨H'.hx, z4⟩
  · exact ⟨H'.hd, z5⟩
  · exact ⟨H'.hP, z6⟩
  · exact ⟨H'.hP2, z7⟩
  · obtain ⟨a1, a2, a3, a4, a5, a6, a7⟩ := R q hq
    have z := N q (.tail _ (.tail _ (.tail _ (.tail _ (.tail _ (.tail _ (.tail _ hq)))))))
    exact ⟨hk _ _ z.1 a1 a2 a3 a4 a5 a6 a7, z.2⟩
end Mine
end

section
-- Vf3B
example : True := by w_top off; trivial
open PySem PySem.W PyProof.Rows PySem.Calls PySem.Spec
set_option maxRecDepth 100000
namespace Mine
section
variable {w : World} {p : Program} {loose : List Str} {mean : ExcName → Option Value} {mg mb : Str → Option Value} {G : Heap} {s : Shared} {Q E : Value → Shared → Prop}
  {V dv Ln x d : Addr} {mx : Int} {sg : Str} {lines : List Str} {l : List (Str × Str)} {i0 : Int} {hh : Nat → Int} {tt : Nat → Tok} {tm : Tok} {vc vl : Value} {tsg : Tok} {nd : Nat} {lns : List Value} {nl : Nat} {ps : Array Value} {n : Nat} {hs0 : Int} {t0 ti : Tok} {n0 : Nat} {tb tc : Array Value}
set_option maxHeartbeats 1000000
theorem c_vstr {a b sep : Str} {tsep : Tok} (D : Gd w p loose mean mg mb G) (St : G.StaysIn s.heap) (H : VFAt s.heap V dv Ln x d mx sg lines (l ++ [(a, b)]) 0 hh tt tm vc vl tsg nd lns nl ps n hs0 t0 ti n0 tb tc) (O : OffG G V dv Ln x d)
    (hbare : AllBare s.gens) (hsh : Short (l ++ [(a, b)])) (hab : b.length ≠ 0) (hns : Txt.isspace (strOf (l ++ [(a, b)])) = false) (hlc : lines.length ≤ 1000) (hsep : sep.length ≤ 16) (hlen : ((lines ++ [strOf (l ++ [(a, b)])]).map (·.length)).sum + (lines ++ [strOf (l ++ [(a, b)])]).length ≤ 1048576)
    (hret : ∀ s' t', (∀ b o, s.heap.get? b = some o → b ≠ V → b ≠ dv → b ≠ Ln → b ≠ x → b ≠ d → b ≠ 140 → b ≠ 147 → s'.heap.get? b = some o) → (∃ tb', s'.heap.get? 140 = some (tabObj tb') ∧ TriplesOk tb'.toList) → (∃ tc', s'.heap.get? 147 = some (tabObj tc') ∧ TriplesOk tc'.toList) →
      AllBare s'.gens → s'.drawn = s.drawn → s'.os = s.os → Q (.str (Txt.join sep (lines ++ [strOf (l ++ [(a, b)])])) t') s') :
    wpAny (model Challenge.rw_oc0165_02.row.prog w) (Am 500 300) (call (.ref 42) [.ref V, .str sep tsep]) Q E s := by
  have fill : (hd.heap_1 w.params).In G := D.X
  revert fill
  k_fill
  intro _
  refine wpAny_call ?_
  refine' enterV (binds := [("self", .ref V), ("linesep", .str sep tsep)]) H O D St ?k6 ?k7 ?k8 ?k9 ?kB ?c5 ?c2 ?c3 ?c4 ?_
  (((case k6 => k_is); (case k7 => k_is); (case k8 => decide)))
  case k9 => exact BindsTo.of_eq rfl
  (((case kB => exact locs rfl); (case c5 => decide); (case c2 => exact rfl); (case c3 => exact rfl); (case c4 => exact rfl)))
  intro g L h hL F N X T hkeep hst hpg
  have HA := H.apart
  dsimp only
  try k_fold
  (repeat' (first | (fail_if_success (with_reducible show wpAny _ _ (exec (Stmt.For _ _ _ _ _) _) _ _ _)); (first | (k_unfold; (try dsimp only)) | walk1 | (dsimp only; walk1))))
  rename Fr _ _ _ _ => F1
  rename News _ _ _ _ => N1
  show wpAny _ _ (call (.ref 56) [.ref V]) _ _ _
  refine wp_up rfl (by decide) (by decide) (c_newline (lines := lines) (lns := lns) D (stays_fr F1 hst) (VFAt.of_news N1 H.hls H.htr H.htr2 (hpg.keeps F1.keep)) O hbare hsh hab hns hlc ?_)
  intro s2 lns2 nl2 n2 ti2 tb2 tc2 H2 hk2 hb2 hdr2 hos2
  obtain ⟨h2, gs2, dr2, tk2, os2⟩ := s2
  dsimp only at H2 hk2 hb2 hdr2 hos2
  subst hdr2 hos2
  obtain ⟨F2, N2⟩ := vf_after F1 N1 .nil H2 hk2
  clear F1 N1
  have hls2 := H2.hls
  have hln2 := H2.hls.length
  (repeat' (first | (fail_if_success (with_reducible show wpAny _ _ (exec (Stmt.For _ _ _ _ _) _) _ _ _)); (first | (k_unfold; (try dsimp only)) | walk1 | (dsimp only; walk1))))
  rename Fr _ _ _ _ => F3
  rename News _ _ _ _ => N3
  refine join_listW (ys := lines ++ [strOf (l ++ [(a, b)])]) ⟨_, (N3 _ (.tail _ (.tail _ (.head _)))).1, rfl, _, rfl⟩ hls2 hsep hlen ?_
  intro t3 tk3
  exact hret _ _ (fun b o e h1 h2 h3 h4 h5 h6 h7 => F3.keep _ _ (hkeep b o e h1 h2 h3 h4 h5 h6 h7)) ⟨_, (N3 _ (.tail _ (.tail _ (.tail _ (.tail _ (.tail _ (.head _))))))).1, H2.htr⟩ ⟨_, (N3 _ (.tail _ (.tail _ (.tail _ (.tail _ (.tail _ (.tail _ (.head _)))))))).1, H2.htr2⟩ hb2 rfl rfl
end
end Mine
end

section
-- Foata
example : True := by w_top off; trivial
namespace Mine
section
variable {α : Type}
section
variable (r : α → Int)
end
end
end Mine
end

section
-- EnterCB
example : True := by w_top off; trivial
open PySem PySem.W PyProof.Rows PySem.Calls PySem.Spec
set_option maxRecDepth 100000
namespace Mine
section
variable {w : World} {p : Program} {loose : List Str} {mean : ExcName → Option Value} {mg mb : Str → Option Value} {G : Heap} {s : Shared}
  {R : Result → Shared → Prop} {name qual : Str} {params : Arguments} {body : List Stmt} {scope : Scope} {dV kV doc pm cdv ct oc : Value} {an od : Option Addr} {osl : Array (Option Value)} {f : Addr} {args : Args} {binds : List (Str × Value)} {dp un : Nat}
/-- a def with cells is entered; the objects of led may be changed by it, all others not -/
theorem enterC (led : List (Addr × Obj)) (D : Gd w p loose mean mg mb G) (S : G.StaysIn s.heap) (hl : ∀ q ∈ led, s.heap.get? q.1 = some q.2) (hf : ∀ q ∈ led, G.get? q.1 = none)
    (ho : (hd.heap_1 w.params).lookup f = some ⟨oc, od, .func (fnX name qual params body scope [] dV kV doc pm an cdv ct), osl⟩) (hcd : codeIn (hd.heap_1 w.params) cdv qual = true) (hroom : dp < recursionLimit)
    (hbind : BindsTo s (fnX name qual params body scope [] dV kV doc pm an cdv ct) args binds) (hkind : (binds.all fun y => scope.names.lookup y.1 == some .local || scope.names.lookup y.1 == some .cell) = true)
    (hnd : ((cellsFrom 0 scope.names []).map (·.1)).Nodup) (hco : scope.isCoroutine = false) (hgen : scope.isGenerator = false) (hk : scope.kind = .function)
    (h : ∀ g L' h₁ tk cells, g = hideAll s.heap (led.map (·.1)) → L' = s.heap.objs.size → Fr g L' h₁ (bindL (envOfC qual scope L' f cdv).kindOf binds fun _ => none) → News g L' h₁ (cells ++ led) →
      CellsAre (bindC (envOfC qual scope L' f cdv).kindOf binds fun _ => none) (cellsFrom (L' + 1) scope.names []) cells → (hd.heap_1 w.params).In g → Top p loose mean mg mb g → (∀ q ∈ led, q.1 < L') →
      (∀ b o, s.heap.get? b = some o → (∀ q ∈ led, q.1 ≠ b) → g.get? b = some o) → G.StaysIn g →
      wpAny (model Challenge.rw_oc0165_02.row.prog w) (Am (dp + 1) (un + 3)) (execs body (envOfC qual scope L' f cdv)) (fun fl s' => R (.ok (.ret (match fl with | .ret v => v | _ => .none))) s') (fun _ _ => False)
        { s with heap := h₁, toks := tk }) : codeAny (model Challenge.rw_oc0165_02.row.prog w) (Am dp un) (.call (.ref f) args) R s := by
  have nm : ∀ b o, G.get? b = some o → b ∉ led.map (·.1) := fun b o e q => by
    obtain ⟨p, hp, rfl⟩ := List.mem_map.mp q
    rw [hf p hp] at e; cases e
  have st : G.StaysIn (hideAll s.heap (led.map (·.1))) := fun b o e => hideAll_get _ (S b o e) (nm b o e)
  refine codeAny_call_function hroom (S _ _ (D.X _ _ ho)) rfl hco hgen rfl (codeRec_of (D.X.keeps S) hcd) (hbind _ _ _ _ ?_)
  refine wpAny_newFunctionEnv_cells hk (kindsX hkind _) fun env' he s' x => ?_
  subst he
  refine ⟨(D.T.nolimit.keeps S).keeps x.toInCall.keep, codeAny_func ?_⟩
  obtain ⟨h₁, tk, rfl, _⟩ := x.done
  have hk₁ := x.toInCall.keep
  obtain ⟨cells, NC, Y⟩ := Cl.news (h₀ := s.heap) (Nat.le_refl _) fun n c hm => ⟨x.cell n c (lookup_of_mem_nodup (cellsFrom_names scope.names 0 (s.heap.objs.size + 1) [] [] rfl ▸ hnd) hm), x.above n c hm⟩
  refine wpAny_mono (h _ s.heap.objs.size h₁ tk cells rfl rfl ⟨x.toInCall.ns, fun b o e => hk₁ b o (of_hideAll _ e), Nat.le_of_eq (hideAll_size _ _)⟩ (fun p hp => ?_) Y (D.X.keeps st) (D.T.keeps st) (fun p hp => Heap.lt_size (hl p hp)) (fun b o e n => hideAll_get _ e fun q => ?_) st) (fun fl s' x => x) fun _ _ x => x.elim
  · rcases List.mem_append.mp hp with hp | hp
    · refine ⟨(NC p hp).1, (NC p hp).2.1, ?_⟩
      cases q : (hideAll s.heap (led.map (·.1))).get? p.1 with
      | none => rfl
      | some o => have := of_hideAll _ q; rw [(NC p hp).2.2] at this; cases this
    · exact ⟨hk₁ _ _ (hl p hp), Nat.ne_of_lt (Heap.lt_size (hl p hp)), hideAll_none _ (List.mem_map_of_mem hp)⟩
  · obtain ⟨p, hp, e'⟩ := List.mem_map.mp q
    exact n p hp e'
end
end Mine
end

section
-- VmkB
example : True := by w_top off; trivial
open PySem PySem.W PyProof.Rows PySem.Calls PySem.Spec
set_option maxRecDepth 100000
namespace Mine
noncomputable def pick6 {α : Type} (a b c d e f : α) : Nat → α
  | 0 => a
  | 1 => b
  | 2 => c
  | 3 => d
  | 4 => e
  | _ => f
section
variable {w : World} {p : Program} {loose : List Str} {mean : ExcName → Option Value} {mg mb : Str → Option Value} {G : Heap} {s : Shared} {R : Result → Shared → Prop}
set_option maxHeartbeats 1000000
theorem c_vinit {V dv : Addr} {i0 mx : Int} {ti tm tws tsg : Tok} {ws sg : Str} (D : Gd w p loose mean mg mb G) (St : G.StaysIn s.heap) (hV : s.heap.get? V = some (instObj 94 dv)) (hdv : s.heap.get? dv = some (dictOf [] 0)) (hVG : G.get? V = none) (hvG : G.get? dv = none) (hws : ws.length ≤ 100) 
    (hret : ∀ h' tk' Ln x d n' hs0 t0 hh tt vc vl nd, (∀ b o, s.heap.get? b = some o → b ≠ V → b ≠ dv → h'.get? b = some o) → s.heap.get? Ln = none → s.heap.get? x = none → s.heap.get? d = none →
      h'.get? V = some (instObj 94 dv) → h'.get? dv = some (vfDict hh tt (.int mx tm) vc vl (.str sg tsg) Ln x nd) → h'.get? Ln = some (listOf #[] 0) → h'.get? x = some (acObj d #[] n') → h'.get? d = some (acDict hs0 t0 (.int i0 ti) 1) → R (.ok (.ret .none)) { s with heap := h', toks := tk' }) :
    codeAny (model Challenge.rw_oc0165_02.row.prog w) (Am 600 400) (.call (.ref 35) ⟨[.ref V, .int i0 ti, .int mx tm, .str ws tws, .str sg tsg], []⟩) R s := by
  have fill : (hd.heap_1 w.params).In G ∧ wpAny (model Challenge.rw_oc0165_02.row.prog w) (Am 0 0) (pure ()) (fun _ _ => True) (fun _ _ => True) s := ⟨D.X, wpAny_pure trivial⟩
  revert fill
  k_fill
  intro _
  refine' enterP (binds := [("self", .ref V), ("headerlen", .int i0 ti), ("maxlen", .int mx tm), ("continuation_ws", .str ws tws), ("splitchars", .str sg tsg)]) [(V, instObj 94 dv), (dv, dictOf [] 0)] D St ?k3 ?k4 ?k6 ?k7 ?k8 ?k9 ?kB ?c5 ?c2 ?c3 ?c4 ?_
  case k3 => exact all_cons (hV) (all_cons (hdv) all_nil)
  case k4 => exact all_cons (hVG) (all_cons (hvG) all_nil)
  (((case k6 => k_is); (case k7 => k_is); (case k8 => decide)))
  case k9 => exact BindsTo.of_eq rfl
  (((case kB => exact locs rfl); (case c5 => decide); (case c2 => exact rfl); (case c3 => exact rfl); (case c4 => exact rfl)))
  intro g L h hg hL F N X T l1 hkeep hst
  have hne : V ≠ dv := ne_cls hV hdv (by simp)
  replace hkeep : ∀ b o, s.heap.get? b = some o → b ≠ V → b ≠ dv → g.get? b = some o := fun b o e hb hb2 => hkeep b o e (by exact all_cons (hb.symm) (all_cons (hb2.symm) all_nil))
  try dsimp only
  try k_fold
  (repeat' (first | (fail_if_success (with_reducible show wpAny _ _ (exec (Stmt.For _ _ _ _ _) _) _ _ _)); (first | (k_unfold; (try dsimp only)) | (first | ((k_here; (with_reducible show wpAny _ _ (call (Value.ref 178) _) _ _ _); k_dflt (refine' u_make ?k1 ?k2 ?kX ?k3 ?k4 ?k5 ?k6 ?k7 ?_; (case k1 => k_asm); (case k2 => k_asm); (case kX => k_asm); (case k3 => assumption); (case k4 => assumption); (case k5 => exact rfl); (case k6 => decide); (case k7 => decide)); intro h' tk' x' d' n' hs0' t0' F' N' l1 l2; (try k_lt l1); (try k_lt2 l2); (try k_sweep))) | walk1) | (dsimp only; (first | ((k_here; (with_reducible show wpAny _ _ (call (Value.ref 178) _) _ _ _); k_dflt (refine' u_make ?k1 ?k2 ?kX ?k3 ?k4 ?k5 ?k6 ?k7 ?_; (case k1 => k_asm); (case k2 => k_asm); (case kX => k_asm); (case k3 => assumption); (case k4 => assumption); (case k5 => exact rfl); (case k6 => decide); (case k7 => decide)); intro h' tk' x' d' n' hs0' t0' F' N' l1 l2; (try k_lt l1); (try k_lt2 l2); (try k_sweep))) | walk1)))))
  rename Fr _ _ _ _ => F1
  rename News _ _ _ _ => N1
  have fresh : ∀ {b : Addr}, g.get? b = none → b ≠ V → b ≠ dv → s.heap.get? b = none := fun {b} e h1 h2 => by
    cases e2 : s.heap.get? b with
    | none => rfl
    | some o => rw [hkeep b o e2 h1 h2] at e; cases e
  have z1 := N1 _ (.head _)
  have z2 := N1 _ (.tail _ (.head _))
  have z3 := N1 _ (.tail _ (.tail _ (.head _)))
  have z4 := N1 _ (.tail _ (.tail _ (.tail _ (.head _))))
  have z5 := N1 _ (.tail _ (.tail _ (.tail _ (.tail _ (.head _)))))
  refine hret _ _ _ _ _ _ _ _ (pick6 _ _ _ _ _ _) (pick6 _ _ _ _ _ _) _ _ _ (fun b o e h1 h2 => F1.keep _ _ (hkeep b o e h1 h2)) (fresh z3.2.2 (ne_cls z3.1 z4.1 (by simp)) (ne_cls z3.1 z5.1 (by simp))) (fresh z1.2.2 (ne_cls z1.1 z4.1 (by simp)) (ne_cls z1.1 z5.1 (by simp))) (fresh z2.2.2 (ne_cls z2.1 z4.1 (by simp)) ?_) z4.1 z5.1 z3.1 z1.1 z2.1
  intro e
  have e2 := z2.1
  dsimp only at e e2 z5
  rw [e, z5.1] at e2
  simp at e2
end
section
variable {w : World} {p : Program} {loose : List Str} {mean : ExcName → Option Value} {mg mb : Str → Option Value} {G g : Heap} {L : Addr} {m : Str → Option Value} {nw : List (Addr × Obj)} {A : Around} {s : Shared} {Q E : Value → Shared → Prop}
theorem k_vmakes : makesIn (hd.heap_1 w.params) 94 = true := by kernel_rfl
theorem k_vinit : findIn (hd.heap_1 w.params) (.ref 94) "__init__" = some (some (.ref 35)) := by kernel_rfl
theorem k_vinit_fn : isFn (hd.heap_1 w.params) (.ref 35) = true := by kernel_rfl
/-- a formatter is made -/
theorem u_vmake {i0 mx : Int} {ti tm tws tsg : Tok} {ws sg : Str} (F : Fr g L s.heap m) (N : News g L s.heap nw) (X : (hd.heap_1 w.params).In g) (D : Gd w p loose mean mg mb G) (hs : G.StaysIn g) (hh : A.handled = none) (hdp : A.depth ≤ 500) (hu : A.units ≤ 300) (hws : ws.length ≤ 100)
    (k : ∀ h' tk' V dv Ln x d n' hs0 t0 hh tt vc vl nd, Fr g L h' m → News g L h' ((V, instObj 94 dv) :: (dv, vfDict hh tt (.int mx tm) vc vl (.str sg tsg) Ln x nd) :: (Ln, listOf #[] 0) :: (x, acObj d #[] n') :: (d, acDict hs0 t0 (.int i0 ti) 1) :: nw) →
      (∀ q ∈ nw, q.1 ≠ V ∧ q.1 ≠ dv ∧ q.1 ≠ Ln ∧ q.1 ≠ x ∧ q.1 ≠ d) → Q (.ref V) { s with heap := h', toks := tk' }) :
    wpAny (model Challenge.rw_oc0165_02.row.prog w) A (call (.ref 94) [.int i0 ti, .int mx tm, .str ws tws, .str sg tsg]) Q E s := by
  refine call_cls F X N k_vmakes k_vinit k_vinit_fn ?_
  intro V dv h1 F1 N1 hlt1 hlt2
  have zV := N1 _ (.head _)
  have zd := N1 _ (.tail _ (.head _))
  have hG : ∀ b, g.get? b = none → G.get? b = none := fun b e => by
    cases e2 : G.get? b with
    | none => rfl
    | some o => rw [hs b o e2] at e; cases e
  refine code_up (D := 600) (U := 400) hh ?_ ?_ (c_vinit D (stays_fr F1 hs) zV.1 zd.1 (hG _ zV.2.2) (hG _ zd.2.2) hws ?_)
  · show A.depth + (Code.builtin "type.__call__" ⟨[.ref 94, .int i0 ti, .int mx tm, .str ws tws, .str sg tsg], []⟩).weight ≤ 600
    have : (Code.builtin "type.__call__" ⟨[.ref 94, .int i0 ti, .int mx tm, .str ws tws, .str sg tsg], []⟩).weight ≤ 50 := Nat.le_of_ble_eq_true (by kernel_rfl)
    (first | lia | omega)
  · show A.units + (Code.builtin "type.__call__" ⟨[.ref 94, .int i0 ti, .int mx tm, .str ws tws, .str sg tsg], []⟩).cUnits ≤ 400
    have : (Code.builtin "type.__call__" ⟨[.ref 94, .int i0 ti, .int mx tm, .str ws tws, .str sg tsg], []⟩).cUnits ≤ 50 := Nat.le_of_ble_eq_true (by kernel_rfl)
    (first | lia | omega)
  · intro h' tk' Ln x d n' hs0 t0 hh' tt vc vl nd hk hLn hx hd' hV2 hdv2 hLn2 hx2 hd2
    refine ⟨rfl, ?_⟩
    dsimp only at hk hLn hx hd'
    have nL := fresh_loc F (Nat.le_refl _)
    obtain ⟨oL, es, ep, hoL, r⟩ := F1.ns
    have F' : Fr g L h' m := ⟨⟨oL, es, ep, hk _ _ hoL (Ne.symm zV.2.1) (Ne.symm zd.2.1), r⟩, fun b o e => hk b o (F1.keep b o e) (fun q => by subst q; rw [zV.2.2] at e; cases e) (fun q => by subst q; rw [zd.2.2] at e; cases e), F1.above⟩
    have fz : ∀ b, h1.get? b = none → b ≠ L ∧ g.get? b = none := by
      intro b e
      constructor
      · rintro rfl; rw [hoL] at e; cases e
      · cases e2 : g.get? b with
        | none => rfl
        | some o => rw [F1.keep b o e2] at e; cases e
    have fq : ∀ q ∈ nw, ∀ b, h1.get? b = none → q.1 ≠ b := fun q hq b e e2 => by
      have := (N1 q (.tail _ (.tail _ hq))).1
      rw [e2, e] at this; cases this
    refine k h' tk' V dv Ln x d n' hs0 t0 hh' tt vc vl nd F' ?_ fun q hq => ⟨Nat.ne_of_lt (Nat.lt_trans (hlt1 q hq) hlt2), Nat.ne_of_lt (hlt1 q hq), fq q hq _ hLn, fq q hq _ hx, fq q hq _ hd'⟩
    refine all_cons ?_ (all_cons ?_ (all_cons ?_ (all_cons ?_ (all_cons ?_ (fun q hq => ?_)))))
    · exact ⟨hV2, zV.2⟩
    · exact ⟨hdv2, zd.2⟩
    · exact ⟨hLn2, fz _ hLn⟩
    · exact ⟨hx2, fz _ hx⟩
    · exact ⟨hd2, fz _ hd'⟩
    · have z := N1 q (.tail _ (.tail _ hq))
      exact ⟨hk _ _ z.1 (Nat.ne_of_lt (Nat.lt_trans (hlt1 q hq) hlt2)) (Nat.ne_of_lt (hlt1 q hq)), z.2⟩
end
end Mine
end

section
-- Vf4B
example : True := by w_top off; trivial
open PySem PySem.W PyProof.Rows PySem.Calls PySem.Spec
set_option maxRecDepth 100000
namespace Mine
/-- the parts of an accumulator lie in the ledger -/
noncomputable def PartsIn (nw : List (Addr × Obj)) (ps : Array Value) (l : List (Str × Str)) : Prop :=
  ps.size = l.length ∧ ∃ Ts : Nat → Addr, ∃ ta tb : Nat → Tok, ∀ j, j < l.length → ps[j]? = some (.ref (Ts j)) ∧ ∃ o, (Ts j, o) ∈ nw ∧ o.cls = .type "tuple" ∧ ∃ n, o.data = .seq #[.str (l.getD j (Str.empty, Str.empty)).1 (ta j), .str (l.getD j (Str.empty, Str.empty)).2 (tb j)] n
theorem PartsIn.nil {nw : List (Addr × Obj)} : PartsIn nw #[] [] := ⟨rfl, fun _ => 0, fun _ => 0, fun _ => 0, fun j hj => absurd hj (Nat.not_lt_zero _)⟩
theorem PartsIn.parts {nw nw' : List (Addr × Obj)} {ps : Array Value} {l : List (Str × Str)} {g h : Heap} {L : Addr} (x : PartsIn nw ps l) (N : News g L h nw') (hs : ∀ q ∈ nw, q ∈ nw') : Parts h ps l := by
  obtain ⟨e, Ts, ta, tb, f⟩ := x
  refine ⟨e, Ts, ta, tb, fun j hj => ⟨(f j hj).1, ?_⟩⟩
  obtain ⟨o, ho, hc, hd⟩ := (f j hj).2
  exact ⟨o, (N _ (hs _ ho)).1, hc, hd⟩
theorem parts_led {h : Heap} {ps : Array Value} {l : List (Str × Str)} (x : Parts h ps l) : ∃ tl, PartsIn tl ps l ∧ ∀ q ∈ tl, h.get? q.1 = some q.2 ∧ Value.ref q.1 ∈ ps.toList := by
  obtain ⟨e, Ts, ta, tb, f⟩ := x
  refine ⟨(List.range l.length).map fun j => (Ts j, (h.get? (Ts j)).getD { cls := .none, data := .plain }), ⟨e, Ts, ta, tb, fun j hj => ⟨(f j hj).1, ?_⟩⟩, fun q hq => ?_⟩
  · obtain ⟨o, ho, hc, hd⟩ := (f j hj).2
    exact ⟨o, List.mem_map.mpr ⟨j, List.mem_range.mpr hj, by rw [ho]; rfl⟩, hc, hd⟩
  · obtain ⟨j, hj, rfl⟩ := List.mem_map.mp hq
    have hj := List.mem_range.mp hj
    obtain ⟨o, ho, _⟩ := (f j hj).2
    refine ⟨by dsimp only; rw [ho]; rfl, ?_⟩
    have := (f j hj).1
    exact List.mem_of_getElem? (by simpa using this)
theorem PartsIn.mem {nw : List (Addr × Obj)} {ps : Array Value} {l : List (Str × Str)} (x : PartsIn nw ps l) {T : Addr} (h : Value.ref T ∈ ps.toList) : ∃ o, (T, o) ∈ nw := by
  obtain ⟨e, Ts, ta, tb, f⟩ := x
  obtain ⟨j, hj, ej⟩ := List.getElem_of_mem h
  have hj' : j < l.length := by rw [← e]; simpa using hj
  obtain ⟨f1, o, ho, _⟩ := f j hj'
  have : ps[j]? = some (.ref T) := by rw [← ej]; simp
  rw [f1] at this
  have := Option.some.inj this
  have e2 : Ts j = T := by injection this
  exact ⟨o, e2 ▸ ho⟩
section
variable {w : World} {p : Program} {loose : List Str} {mean : ExcName → Option Value} {mg mb : Str → Option Value} {G g : Heap} {L : Addr} {m : Str → Option Value} {A : Around} {s : Shared} {Q E : Value → Shared → Prop}
  {V dv Ln x d : Addr} {mx : Int} {sg : Str} {lines : List Str} {l : List (Str × Str)} {i0 : Int} {hh : Nat → Int} {tt : Nat → Tok} {tm : Tok} {vc vl : Value} {tsg : Tok} {nd : Nat} {lns : List Value} {nl : Nat} {ps : Array Value} {n : Nat} {hs0 : Int} {t0 ti : Tok} {n0 : Nat} {tb tc : Array Value} {tl rest : List (Addr × Obj)}
theorem offG_of (N : News g L s.heap (led7 V (instObj 94 dv) dv (vfDict hh tt (.int mx tm) vc vl (.str sg tsg) Ln x nd) Ln (listOf lns.toArray nl) x (acObj d ps n) d (acDict hs0 t0 (.int i0 ti) n0) (tabObj tb) (tabObj tc) rest)) (hs : G.StaysIn g) : OffG G V dv Ln x d := by
  have hG : ∀ b, g.get? b = none → G.get? b = none := fun b e => by
    cases e2 : G.get? b with
    | none => rfl
    | some o => rw [hs b o e2] at e; cases e
  exact ⟨hG _ (N _ (.head _)).2.2, hG _ (N _ (.tail _ (.head _))).2.2, hG _ (N _ (.tail _ (.tail _ (.head _)))).2.2, hG _ (N _ (.tail _ (.tail _ (.tail _ (.head _))))).2.2, hG _ (N _ (.tail _ (.tail _ (.tail _ (.tail _ (.head _)))))).2.2, hG _ (N _ (.tail _ (.tail _ (.tail _ (.tail _ (.tail _ (.head _))))))).2.2, hG _ (N _ (.tail _ (.tail _ (.tail _ (.tail _ (.tail _ (.tail _ (.head _)))))))).2.2⟩
theorem u_chunk {a b : Str} {ta1 tb1 : Tok} (F : Fr g L s.heap m) (N : News g L s.heap (led7 V (instObj 94 dv) dv (vfDict hh tt (.int mx tm) vc vl (.str sg tsg) Ln x nd) Ln (listOf lns.toArray nl) x (acObj d ps n) d (acDict hs0 t0 (.int i0 ti) n0) (tabObj tb) (tabObj tc) (tl ++ rest)))
    (R : Off7 V dv Ln x d (tl ++ rest)) (hpi : PartsIn tl ps l) (hls : StrsAre lns lines) (htr : TriplesOk tb.toList) (htr2 : TriplesOk tc.toList) (D : Gd w p loose mean mg mb G) (hs : G.StaysIn g) (hh' : A.handled = none) (hdp : A.depth ≤ 600) (hu : A.units ≤ 400)
    (hbare : AllBare s.gens) (hsh : Short (l ++ [(a, b)])) (hi0 : 0 ≤ i0) (hi1 : i0 ≤ 1000) (hlc : lines.length ≤ 1000) (hsg : ∀ c ∈ sg.cps.toList, Txt.isspace ⟨#[c]⟩ = false) (hzero : mx < i0 + (lenOf (l ++ [(a, b)]) : Nat) → findS sg.cps.toList (l ++ [(a, b)]) = none → i0 = 0)
    (k : ∀ h' gs' tk' lines' l' i0' lns' nl' ps' n' ti' tb' tc' tl', Fr g L h' m → News g L h' (led7 V (instObj 94 dv) dv (vfDict hh tt (.int mx tm) vc vl (.str sg tsg) Ln x nd) Ln (listOf lns'.toArray nl') x (acObj d ps' n') d (acDict hs0 t0 (.int i0' ti') n0) (tabObj tb') (tabObj tc') (tl' ++ rest)) → PartsIn tl' ps' l' → Off7 V dv Ln x d tl' →
      (∀ q ∈ tl', q ∈ tl ∨ s.heap.get? q.1 = none) → StrsAre lns' lines' → TriplesOk tb'.toList → TriplesOk tc'.toList → AllBare gs' → (lines', l', i0') = chunkF mx sg.cps.toList (lines, l, i0) (a, b) → Q .none ⟨h', gs', s.drawn, tk', s.os⟩) :
    wpAny (model Challenge.rw_oc0165_02.row.prog w) A (call (.ref 91) [.ref V, .str a ta1, .str b tb1]) Q E s := by
  have H : VFAt s.heap V dv Ln x d mx sg lines l i0 hh tt tm vc vl tsg nd lns nl ps n hs0 t0 ti n0 tb tc := VFAt.of_news N hls htr htr2 (hpi.parts N fun q hq => .tail _ (.tail _ (.tail _ (.tail _ (.tail _ (.tail _ (.tail _ (List.mem_append_left _ hq))))))))
  refine wp_up hh' hdp hu (c_chunk D (stays_fr F hs) H (offG_of N hs) hbare hsh hi0 hi1 hlc hsg hzero ?_)
  intro s' lines' l' i0' lns' nl' ps' n' ti' tb' tc' H' hk hnew hb hdr hos hch
  obtain ⟨h', gs', dr', tk', os'⟩ := s'
  dsimp only at H' hk hb hdr hos
  subst hdr hos
  obtain ⟨F', N'⟩ := vf_after F N R H' hk
  obtain ⟨tl', hpi', htl⟩ := parts_led H'.hp
  obtain ⟨oL, _, _, hoL, _⟩ := F.ns
  have fz : ∀ b, s.heap.get? b = none → b ≠ L ∧ g.get? b = none := by
    intro b e
    constructor
    · rintro rfl; rw [hoL] at e; cases e
    · cases e2 : g.get? b with
      | none => rfl
      | some o => rw [F.keep b o e2] at e; cases e
  have old : ∀ q ∈ tl', q ∈ tl ∨ s.heap.get? q.1 = none := fun q hq => by
    rcases hnew q.1 (htl q hq).2 with h1 | h1
    · left
      obtain ⟨o, ho⟩ := hpi.mem h1
      have e := (N' (q.1, o) (.tail _ (.tail _ (.tail _ (.tail _ (.tail _ (.tail _ (.tail _ (List.mem_append_left _ ho))))))))).1
      rw [(htl q hq).1] at e
      have e2 : q.2 = o := Option.some.inj e
      have : q = (q.1, o) := by rw [← e2]
      rw [this]; exact ho
    · exact .inr h1
  have off : Off7 V dv Ln x d tl' := fun q hq => by
    rcases old q hq with h1 | h1
    · exact R q (List.mem_append_left _ h1)
    · have ne : ∀ {b : Addr} {o : Obj}, s.heap.get? b = some o → q.1 ≠ b := fun e e2 => by rw [e2, e] at h1; cases h1
      exact ⟨ne H.hV, ne H.hdv, ne H.hLn, ne H.hx, ne H.hd, ne H.hP, ne H.hP2⟩
  refine k h' gs' tk' lines' l' i0' lns' nl' ps' n' ti' tb' tc' tl' F' ?_ hpi' off old H'.hls H'.htr H'.htr2 hb hch
  refine all_cons ?_ (all_cons ?_ (all_cons ?_ (all_cons ?_ (all_cons ?_ (all_cons ?_ (all_cons ?_ (fun q hq => ?_)))))))
  · exact N' _ (.head _)
  · exact N' _ (.tail _ (.head _))
  · exact N' _ (.tail _ (.tail _ (.head _)))
  · exact N' _ (.tail _ (.tail _ (.tail _ (.head _))))
  · exact N' _ (.tail _ (.tail _ (.tail _ (.tail _ (.head _)))))
  · exact N' _ (.tail _ (.tail _ (.tail _ (.tail _ (.tail _ (.head _))))))
  · exact N' _ (.tail _ (.tail _ (.tail _ (.tail _ (.tail _ (.tail _ (.head _)))))))
  · rcases List.mem_append.mp hq with hq | hq
    · rcases old q hq with h1 | h1
      · exact N' q (.tail _ (.tail _ (.tail _ (.tail _ (.tail _ (.tail _ (.tail _ (List.mem_append_left _ h1))))))))
      · exact ⟨(htl q hq).1, fz _ h1⟩
    · exact N' q (.tail _ (.tail _ (.tail _ (.tail _ (.tail _ (.tail _ (.tail _ (List.mem_append_right _ hq))))))))
end
end Mine
end

section
-- WordsB
example : True := by w_top off; trivial
open PySem PySem.W PyProof.Rows PySem.Calls PySem.Spec
namespace Mine
/-- the cells of a line: each row behind a space -/
noncomputable def lineCps (b : List Str) : List Nat := b.flatMap fun y => 32 :: y.cps.toList
theorem getD_toList (x : Str) (i : Nat) : x.cps.getD i 0 = x.cps.toList.getD i 0 := by simp [Array.getD_eq_getD_getElem?, List.getD]
end Mine
end

section
-- BlkB
example : True := by w_top off; trivial
open PySem PySem.W PyProof.Rows PySem.Calls PySem.Spec
namespace Mine
theorem cut_eq {c : Nat} : ∀ {a b X Y : List Nat}, c ∉ a → c ∉ b → a ++ c :: X = b ++ c :: Y → a = b ∧ X = Y
  | [], [], X, Y, _, _, h => ⟨rfl, by simpa using h⟩
  | [], y :: b, X, Y, _, hb, h => by simp at h; exact absurd (by rw [h.1]; exact .head _) hb
  | x :: a, [], X, Y, ha, _, h => by simp at h; exact absurd (by rw [h.1]; exact .head _) ha
  | x :: a, y :: b, X, Y, ha, hb, h => by
    simp at h
    obtain ⟨e1, e2⟩ := cut_eq (fun q => ha (.tail _ q)) (fun q => hb (.tail _ q)) h.2
    exact ⟨by rw [h.1, e1], e2⟩
theorem str_ext {a b : Str} (h : a.cps.toList = b.cps.toList) : a = b := by
  obtain ⟨a⟩ := a; obtain ⟨b⟩ := b
  congr 1
  exact Array.toList_inj.mp h
theorem app_cps (a b : Str) : (a ++ b).cps.toList = a.cps.toList ++ b.cps.toList := by
  show (a.cps ++ b.cps).toList = _
  simp
theorem join_two (sep a b : Str) (r : List Str) : (Str.join sep (a :: b :: r)).cps.toList = a.cps.toList ++ (sep.cps.toList ++ (Str.join sep (b :: r)).cps.toList) := by
  show ((a ++ sep) ++ Str.join sep (b :: r)).cps.toList = _
  rw [app_cps, app_cps, List.append_assoc]
theorem join_unique {c : Nat} : ∀ {A B : List Str}, A ≠ [] → B ≠ [] → (∀ a ∈ A, c ∉ a.cps.toList) → (∀ b ∈ B, c ∉ b.cps.toList) → (Str.join ⟨#[c]⟩ A).cps.toList = (Str.join ⟨#[c]⟩ B).cps.toList → A = B
  | [], _, h, _, _, _, _ => absurd rfl h
  | _ :: _, [], _, h, _, _, _ => absurd rfl h
  | [a], [b], _, _, _, _, h => by rw [str_ext (a := a) (b := b) h]
  | [a], b :: b2 :: r, _, _, ha, _, h => by
    rw [join_two] at h
    have h' : a.cps.toList = b.cps.toList ++ (([c] : List Nat) ++ (Str.join ⟨#[c]⟩ (b2 :: r)).cps.toList) := h
    exact absurd (by rw [h']; simp) (ha a (.head _))
  | a :: a2 :: r, [b], _, _, _, hb, h => by
    rw [join_two] at h
    have h' : a.cps.toList ++ (([c] : List Nat) ++ (Str.join ⟨#[c]⟩ (a2 :: r)).cps.toList) = b.cps.toList := h
    exact absurd (by rw [← h']; simp) (hb b (.head _))
  | a :: a2 :: r, b :: b2 :: r', _, _, ha, hb, h => by
    rw [join_two, join_two] at h
    obtain ⟨e1, e2⟩ := cut_eq (ha a (.head _)) (hb b (.head _)) h
    rw [str_ext e1, join_unique (A := a2 :: r) (B := b2 :: r') (by simp) (by simp) (fun x hx => ha x (.tail _ hx)) (fun x hx => hb x (.tail _ hx)) e2]
/-- what is joined by a sign that it does not hold is split again -/
theorem split_join {c : Nat} {A : List Str} (hne : A ≠ []) (ha : ∀ a ∈ A, c ∉ a.cps.toList) : Txt.split (Txt.join ⟨#[c]⟩ A) ⟨#[c]⟩ = A := by
  refine join_unique (c := c) ?_ hne (StrLaws.split_free _ c) ha ?_
  · intro e
    have := split_pos (Txt.join ⟨#[c]⟩ A) ⟨#[c]⟩
    rw [e] at this
    simp at this
  · rw [StrLaws.join_split]
    show (Builtin.Str.glued ⟨#[c]⟩ A).cps.toList = _
    rw [StrLaws.glued_eq_join]
noncomputable def spS : Str := Str.ofString " "
noncomputable def pr (b : List Str) : List (Str × Str) := b.map fun y => (spS, y)
noncomputable def lineOf (b : List Str) : Str := strOf (pr b)
theorem join_e (l : List Str) : (Txt.join (Str.ofString "") l).cps.toList = l.flatMap fun y => y.cps.toList := by
  show (Builtin.Str.glued _ l).cps.toList = _
  rw [StrLaws.glued_eq_join]
  induction l with
  | nil => rfl
  | cons a t ih =>
    cases t with
    | nil => show a.cps.toList = _; simp
    | cons b r =>
      rw [join_two, ih]
      have : (Str.ofString "").cps.toList = [] := rfl
      rw [this]
      simp
theorem line_cps (b : List Str) : (lineOf b).cps.toList = lineCps b := by
  unfold lineOf strOf pr lineCps
  rw [join_e, List.map_map, List.flatMap_map]
  congr 1
  funext y
  show (Txt.join (Str.ofString "") [spS, y]).cps.toList = _
  rw [join_e]
  show (Str.ofString " ").cps.toList ++ (y.cps.toList ++ []) = _
  have : (Str.ofString " ").cps.toList = [32] := by decide
  rw [this]
  simp
theorem lenOf_pr {b : List Str} (h : ∀ y ∈ b, y.length = 11) : lenOf (pr b) = 12 * b.length := by
  induction b with
  | nil => rfl
  | cons y t ih =>
    have := ih fun z hz => h z (.tail _ hz)
    have hy := h y (.head _)
    simp only [lenOf, pr, List.map_cons, List.sum_cons, List.length_cons] at *
    have hs : spS.length = 1 := by decide
    omega
theorem pr_snoc (b : List Str) (y : Str) : pr b ++ [(spS, y)] = pr (b ++ [y]) := by simp [pr]
end Mine
end

section
-- Plain1B
example : True := by w_top off; trivial
open PySem PySem.W PyProof.Rows PySem.Calls PySem.Spec
namespace Mine
/-- a row: eleven signs, no space, no semicolon -/
structure RowOk (y : Str) : Prop where
  len : y.length = 11
  ns : ∀ c ∈ y.cps.toList, Unicode.isSpace c = false
  nc : 59 ∉ y.cps.toList
noncomputable def lastN (y : Str) : Nat := y.cps.back?.getD 0
noncomputable def lastZ (y : Str) : Int := (lastN y : Nat)
noncomputable def cmpZ (x y : Str) : Int := b2i (decide (y.cps.toList < x.cps.toList)) - b2i (decide (x.cps.toList < y.cps.toList))
/-- what three_way_cmp(x, y) > 0 tells of two texts -/
noncomputable def cmpB (x y : Str) : Bool := decide (0 < cmpZ x y)
theorem back_last {y : Str} (h : 1 ≤ y.length) : y.cps.back? = some (lastN y) := by
  unfold lastN
  have hsz : y.cps.size - 1 < y.cps.size := by have : y.length = y.cps.size := rfl; omega
  rw [Array.back?_eq_getElem?, Array.getElem?_eq_getElem hsz]
  rfl
theorem item_lastN {y : Str} (h : 1 ≤ y.length) : Txt.item y (-1) = ⟨#[lastN y]⟩ := by
  have := item_last (c := lastN y) h
  rw [back_last h] at this
  simp at this
  exact this
theorem one_lt (a b : Nat) : (([b] : List Nat) < [a]) ↔ b < a := by
  constructor
  · intro h
    cases h with
    | rel h => exact h
    | cons h => exact absurd h (List.not_lt_nil _)
  · intro h; exact List.Lex.rel h
theorem cmpB_one (a b : Nat) : cmpB ⟨#[a]⟩ ⟨#[b]⟩ = decide (b < a) := by
  unfold cmpB cmpZ
  have e1 : (decide (([b] : List Nat) < [a])) = decide (b < a) := by
    rw [decide_eq_decide]; exact one_lt a b
  have e2 : (decide (([a] : List Nat) < [b])) = decide (a < b) := by
    rw [decide_eq_decide]; exact one_lt b a
  show decide (0 < b2i (decide (([b] : List Nat) < [a])) - b2i (decide (([a] : List Nat) < [b]))) = _
  rw [e1, e2]
  by_cases h : b < a
  · have h2 : ¬ a < b := by omega
    simp [h, h2, b2i]
  · by_cases h2 : a < b <;> simp [h, h2, b2i]
theorem cmpB_item {y row : Str} (h1 : 1 ≤ y.length) (h2 : 1 ≤ row.length) : cmpB (Txt.item y (-1)) (Txt.item row (-1)) = decide (lastZ row < lastZ y) := by
  rw [item_lastN h1, item_lastN h2, cmpB_one]
  simp [lastZ]
end Mine
end

section
-- Kas
example : True := by w_top off; trivial
open PySem PySem.W PyProof.Rows PySem.Calls PySem.Spec
set_option maxRecDepth 100000
namespace Mine
/-- the tree of questions, answered by a function; none where it asks beyond n -/
noncomputable def runO {α : Type} (n : Nat) (lt : Nat → Nat → Bool) : KasT α → Option α
  | .ret a => some a
  | .ask i j k => if decide (i < n) && decide (j < n) then runO n lt (k (lt i j)) else none
theorem runO_wp {α : Type} {n : Nat} {lt : Nat → Nat → Bool} {cmp : Nat → Nat → (Bool → Shared → Prop) → Shared → Prop} {G : α → Shared → Prop} {s : Shared} (hc : ∀ i j C, i < n → j < n → C (lt i j) s → cmp i j C s) : ∀ {t : KasT α} {a : α}, runO n lt t = some a → G a s → t.kasWp cmp G s
  | .ret _, _, h, g => by cases h; exact g
  | .ask i j k, a, h, g => by
    simp only [runO] at h
    by_cases hij : (decide (i < n) && decide (j < n)) = true
    · rw [if_pos hij] at h
      simp only [Bool.and_eq_true, decide_eq_true_eq] at hij
      exact hc i j _ hij.1 hij.2 (runO_wp hc h g)
    · rw [if_neg hij] at h; cases h
theorem runO_congr {α : Type} {n : Nat} {lt lt' : Nat → Nat → Bool} (hc : ∀ i j, i < n → j < n → lt i j = lt' i j) : ∀ (t : KasT α), runO n lt t = runO n lt' t
  | .ret _ => rfl
  | .ask i j k => by
    simp only [runO]
    by_cases hij : (decide (i < n) && decide (j < n)) = true
    · rw [if_pos hij, if_pos hij]
      simp only [Bool.and_eq_true, decide_eq_true_eq] at hij
      rw [hc i j hij.1 hij.2]
      exact runO_congr hc _
    · rw [if_neg hij, if_neg hij]
noncomputable def insAll (x : Nat) : List Nat → List (List Nat)
  | [] => [[x]]
  | y :: t => (x :: y :: t) :: (insAll x t).map (y :: ·)
noncomputable def permsOf : List Nat → List (List Nat)
  | [] => [[]]
  | x :: t => (permsOf t).flatMap (insAll x)
theorem mem_insAll (x : Nat) : ∀ (u v : List Nat), u ++ x :: v ∈ insAll x (u ++ v)
  | [], [] => .head _
  | [], _ :: _ => .head _
  | y :: u, v => by
    show y :: (u ++ x :: v) ∈ (x :: y :: (u ++ v)) :: (insAll x (u ++ v)).map (y :: ·)
    exact .tail _ (List.mem_map.mpr ⟨_, mem_insAll x u v, rfl⟩)
theorem mem_permsOf : ∀ (t : List Nat) {l : List Nat}, l.Perm t → l ∈ permsOf t
  | [], l, h => by rw [List.perm_nil] at h; subst h; exact .head _
  | x :: t, l, h => by
    have hx : x ∈ l := h.mem_iff.mpr (.head _)
    obtain ⟨u, v, rfl⟩ := List.append_of_mem hx
    have h2 : (u ++ v).Perm t := (List.perm_cons x).mp (List.perm_middle.symm.trans h)
    exact List.mem_flatMap.mpr ⟨_, mem_permsOf t h2, mem_insAll x u v⟩
noncomputable def okPerm (n : Nat) (q : List Nat) : Bool := match runO n (fun i j => decide (q.idxOf i < q.idxOf j)) (kas_sort n) with | some a => a.toList == q | none => false
theorem ok2 : (permsOf (List.range 2)).all (okPerm 2) = true := by decide +kernel
theorem ok3 : (permsOf (List.range 3)).all (okPerm 3) = true := by decide +kernel
theorem ok4 : (permsOf (List.range 4)).all (okPerm 4) = true := by decide +kernel
theorem ok5 : (permsOf (List.range 5)).all (okPerm 5) = true := by decide +kernel
theorem ok6 : (permsOf (List.range 6)).all (okPerm 6) = true := by decide +kernel
theorem ok_le {n : Nat} (h2 : 2 ≤ n) (h6 : n ≤ 6) {q : List Nat} (hq : q.Perm (List.range n)) : okPerm n q = true := by
  have hm := mem_permsOf _ hq
  have : n = 2 ∨ n = 3 ∨ n = 4 ∨ n = 5 ∨ n = 6 := by (first | lia | omega)
  rcases this with rfl | rfl | rfl | rfl | rfl
  · exact List.all_eq_true.mp ok2 _ hm
  · exact List.all_eq_true.mp ok3 _ hm
  · exact List.all_eq_true.mp ok4 _ hm
  · exact List.all_eq_true.mp ok5 _ hm
  · exact List.all_eq_true.mp ok6 _ hm
section
variable {n : Nat} {lt : Nat → Nat → Bool}
theorem ins_sorted (htr : ∀ i j k, i < n → j < n → k < n → lt i j = true → lt j k = true → lt i k = true) (hto : ∀ i j, i < n → j < n → i ≠ j → lt i j = true ∨ lt j i = true) {x : Nat} (hx : x < n) :
    ∀ (q : List Nat), (∀ y ∈ q, y < n) → x ∉ q → q.Pairwise (fun i j => lt i j = true) → ∃ u v, q = u ++ v ∧ (u ++ x :: v).Pairwise (fun i j => lt i j = true)
  | [], _, _, _ => ⟨[], [], rfl, by simp⟩
  | y :: t, hq, hxq, hp => by
    have hyn := hq y (.head _)
    have hne : x ≠ y := fun e => hxq (e ▸ .head _)
    rw [List.pairwise_cons] at hp
    by_cases hl : lt x y = true
    · refine ⟨[], y :: t, rfl, ?_⟩
      show (x :: y :: t).Pairwise _
      rw [List.pairwise_cons]
      refine ⟨fun z hz => ?_, List.pairwise_cons.mpr hp⟩
      rcases List.mem_cons.mp hz with rfl | hz
      · exact hl
      · exact htr x y z hx hyn (hq z (.tail _ hz)) hl (hp.1 z hz)
    · have hl' : lt y x = true := (hto x y hx hyn hne).resolve_left hl
      obtain ⟨u, v, e, hs⟩ := ins_sorted htr hto hx t (fun z hz => hq z (.tail _ hz)) (fun h => hxq (.tail _ h)) hp.2
      refine ⟨y :: u, v, by rw [e]; rfl, ?_⟩
      show (y :: (u ++ x :: v)).Pairwise _
      rw [List.pairwise_cons]
      refine ⟨fun z hz => ?_, hs⟩
      rcases List.mem_append.mp hz with hz | hz
      · exact hp.1 z (e ▸ List.mem_append_left _ hz)
      · rcases List.mem_cons.mp hz with rfl | hz
        · exact hl'
        · exact hp.1 z (e ▸ List.mem_append_right _ hz)
theorem ex_sorted (htr : ∀ i j k, i < n → j < n → k < n → lt i j = true → lt j k = true → lt i k = true) (hto : ∀ i j, i < n → j < n → i ≠ j → lt i j = true ∨ lt j i = true) :
    ∀ (l : List Nat), l.Nodup → (∀ y ∈ l, y < n) → ∃ q : List Nat, q.Perm l ∧ q.Pairwise (fun i j => lt i j = true)
  | [], _, _ => ⟨[], .refl _, .nil⟩
  | x :: t, hd, hl => by
    rw [List.nodup_cons] at hd
    obtain ⟨q, hp, hs⟩ := ex_sorted htr hto t hd.2 fun y hy => hl y (.tail _ hy)
    obtain ⟨u, v, rfl, h2⟩ := ins_sorted htr hto (hl x (.head _)) q (fun y hy => hl y (.tail _ (hp.mem_iff.mp hy))) (fun h => hd.1 (hp.mem_iff.mp h)) hs
    exact ⟨_, List.perm_middle.trans (.cons x hp), h2⟩
theorem idx_pair {q : List Nat} (hs : q.Pairwise (fun i j => lt i j = true)) (hir : ∀ i, i < n → lt i i = false) (htr : ∀ i j k, i < n → j < n → k < n → lt i j = true → lt j k = true → lt i k = true) (hq : ∀ y ∈ q, y < n) {i j : Nat} (hi : i ∈ q) (hj : j ∈ q) : lt i j = decide (q.idxOf i < q.idxOf j) := by
  have li := List.idxOf_lt_length_of_mem hi
  have lj := List.idxOf_lt_length_of_mem hj
  have ei : q[q.idxOf i] = i := List.getElem_idxOf li
  have ej : q[q.idxOf j] = j := List.getElem_idxOf lj
  rw [List.pairwise_iff_getElem] at hs
  rcases Nat.lt_trichotomy (q.idxOf i) (q.idxOf j) with h | h | h
  · have := hs _ _ li lj h
    rw [ei, ej] at this
    rw [this]; simp [h]
  · have e : i = j := by
      have : q[q.idxOf i] = q[q.idxOf j] := by simp only [h]
      rw [ei, ej] at this; exact this
    subst e
    rw [hir i (hq i hi)]; simp
  · have := hs _ _ lj li h
    rw [ei, ej] at this
    cases e : lt i j with
    | true =>
      have := htr i j i (hq i hi) (hq j hj) (hq i hi) e this
      rw [hir i (hq i hi)] at this; cases this
    | false => symm; rw [decide_eq_false_iff_not]; (first | lia | omega)
/-- the sort of up to six things by a strict total order -/
theorem kas_total (h2 : 2 ≤ n) (h6 : n ≤ 6) (htr : ∀ i j k, i < n → j < n → k < n → lt i j = true → lt j k = true → lt i k = true) (hir : ∀ i, i < n → lt i i = false) (hto : ∀ i j, i < n → j < n → i ≠ j → lt i j = true ∨ lt j i = true) :
    ∃ q : List Nat, runO n lt (kas_sort n) = some q.toArray ∧ q.Perm (List.range n) ∧ q.Pairwise (fun i j => lt i j = true) := by
  obtain ⟨q, hp, hs⟩ := ex_sorted htr hto (List.range n) List.nodup_range fun y hy => List.mem_range.mp hy
  have hq : ∀ y, y ∈ q ↔ y < n := fun y => hp.mem_iff.trans List.mem_range
  have e : runO n lt (kas_sort n) = runO n (fun i j => decide (q.idxOf i < q.idxOf j)) (kas_sort n) :=
    runO_congr (fun i j hi hj => idx_pair hs hir htr (fun y hy => (hq y).mp hy) ((hq i).mpr hi) ((hq j).mpr hj)) _
  have ok := ok_le h2 h6 hp
  unfold okPerm at ok
  refine ⟨q, ?_, hp, hs⟩
  rw [e]
  revert ok
  generalize runO n (fun i j => decide (q.idxOf i < q.idxOf j)) (kas_sort n) = r
  cases r with
  | none => intro h; cases h
  | some a =>
    intro h
    have : a.toList = q := by simpa using h
    rw [← this]
end
end Mine
end

section
-- Srt
example : True := by w_top off; trivial
open PySem PySem.W PyProof.Rows PySem.Calls PySem.Spec
set_option maxRecDepth 100000
namespace Mine
section
variable {prog : Program} {w : World} {A : Around} {E : Value → Shared → Prop} {s : Shared} {h₀ : Heap} {L : Addr} {m : Str → Option Value} {news : List (Addr × Obj)}
theorem ints_of_items {n : Nat} {acc : Array Value} (h : ItemsOf (fun i v => ∃ t, v = Value.int (0 + i * 1) t) acc n) : IntsAre acc.toList ((List.range n).map fun i : Nat => (i : Int)) := by
  obtain ⟨hs, hi⟩ := h
  have key : ∀ (l : List Value) (k : Nat), (∀ j v, l[j]? = some v → ∃ t, v = Value.int (k + j : Nat) t) → IntsAre l ((List.range' k l.length).map fun i : Nat => (i : Int)) := by
    intro l
    induction l with
    | nil => intro k _; exact .nil
    | cons a l ih =>
      intro k hl
      obtain ⟨t, rfl⟩ := hl 0 a rfl
      have e : (List.range' k (Value.int (k + 0 : Nat) t :: l).length).map (fun i : Nat => (i : Int)) = ((k + 0 : Nat) : Int) :: (List.range' (k + 1) l.length).map (fun i : Nat => (i : Int)) := by
        simp [List.range'_succ]
      rw [e]
      exact .cons _ t (ih (k + 1) fun j v hv => by
        obtain ⟨t', e'⟩ := hl (j + 1) v hv
        exact ⟨t', by rw [e']; congr 1; (first | lia | omega)⟩)
  have := key acc.toList 0 fun j v hv => by
    obtain ⟨t, e⟩ := hi j v (by simpa using hv)
    exact ⟨t, by rw [e]; congr 1; (first | lia | omega)⟩
  rw [List.range_eq_range', ← hs]
  simpa using this
theorem collect_range {r : Addr} {n : Nat} {t u v : Tok} {Q : List Value → Shared → Prop} (hh : A.handled = none) (hr : IsRange s.heap r 0 n 1 t u v) (hn : n ≤ 100)
    (h : ∀ h' tk vs, (∀ b o, s.heap.get? b = some o → h'.get? b = some o) → IntsAre vs ((List.range n).map fun i : Nat => (i : Int)) → Q vs { s with heap := h', toks := tk }) :
    wpAny (model prog w) A (collect (.ref r)) Q E s := by
  unfold collect
  refine wpAny_bind (wpAny_runValue (codeAny_builtin entry_proto_collect' ?_))
  show wpAny _ _ (do again (.builtin "list.__iadd__" ⟨[← newList [], .ref r], []⟩)) _ _ s
  refine wpAny_bind (wpAny_newList (wpAny_pure ⟨Code.quiet_builtin _ (by decide +kernel), codeAny_builtin entry_list_iadd' ?_⟩))
  show wpAny _ _ (Builtin.List.listExtendWith (.ref s.heap.objs.size) (.ref r) (.ref s.heap.objs.size)) _ _ { s with heap := s.heap.push (seqObj "list" #[] 0) }
  refine wpAny_extend_range (A := A) (R := fun r s' => match r with | .ok (.ret v) => wpAny (model prog w) A (match v with | .ref a => (do let o ← load a; match o.data with | .seq xs _ => pure xs.toList | _ => unsupported "internal:collect") | _ => unsupported "internal:collect") Q E s' | .ok _ => False | .error e => E e s') (s := { s with heap := s.heap.push (seqObj "list" #[] 0) }) hh (Heap.get?_push_of_some _ hr) (small_one (by decide) (by decide) (by (first | lia | omega)) (by (first | lia | omega))) (n := n) (by rw [rangeSize_nat]; (first | lia | omega)) (by (first | lia | omega)) _ _ 0 (Heap.get?_push_size _ rfl) ?_
  intro h' tk acc' c' hk hS hi
  dsimp only
  refine wpAny_bind (wpAny_load hS ?_)
  refine wpAny_pure (h h' tk _ (fun b o e => hk b o (Nat.ne_of_lt (Heap.lt_size e)) (Heap.get?_push_of_some _ e)) (ints_of_items hi))
inductive KtEnd (h₀ : Heap) (L : Addr) (m : Str → Option Value) (need : List (Addr × Obj)) (r i : Int) (s₁ : Shared) (v : Value) (s₂ : Shared) : Prop
  | mk (a : Addr) (o : Obj) (h' : Heap) (tk : Nat) (e : s₂ = { s₁ with heap := h', toks := tk }) (ev : v = Value.ref a) (hc : o.cls = Value.type "tuple") (hd : ∃ t1 t2 k, o.data = Data.seq #[Value.int r t1, Value.int i t2] k) (F : Fr h₀ L h' m) (N : News h₀ L h' ((a, o) :: need))
noncomputable def TupsOk (rk : Nat → Int) (tups : List (Addr × Obj)) : Prop := ∀ j p, tups[j]? = some p → p.2.cls = Value.type "tuple" ∧ ∃ t1 t2 k, p.2.data = Data.seq #[Value.int (rk j) t1, Value.int (j : Nat) t2] k
theorem TupsOk.snoc {rk : Nat → Int} {tups : List (Addr × Obj)} {a : Addr} {o : Obj} (h : TupsOk rk tups) (hc : o.cls = Value.type "tuple") (hd : ∃ t1 t2 k, o.data = Data.seq #[Value.int (rk tups.length) t1, Value.int (tups.length : Nat) t2] k) : TupsOk rk (tups ++ [(a, o)]) := by
  intro j p hj
  by_cases hl : j < tups.length
  · rw [List.getElem?_append_left hl] at hj; exact h j p hj
  · rw [List.getElem?_append_right (by (first | lia | omega))] at hj
    have e0 : j - tups.length = 0 := by
      cases e : j - tups.length with
      | zero => rfl
      | succ k => rw [e] at hj; simp at hj
    rw [e0] at hj
    have ej : j = tups.length := by (first | lia | omega)
    subst ej
    simp at hj
    subst hj
    exact ⟨hc, hd⟩
theorem upd_kS {h₀ h : Heap} {kS D : Addr} {lo : Obj} {e : Nat} {ks : Array Value} {tups : List (Addr × Obj)} (N : News h₀ L h ((kS, seqObj "list" ks e) :: (D, lo) :: (tups ++ news))) (hD : D < kS) (hn : ∀ q ∈ news, q.1 < D) (ht : ∀ p ∈ tups, p.2.cls = Value.type "tuple") :
    UpdF kS (seqObj "list" ks e) ((kS, seqObj "list" ks e) :: (D, lo) :: (tups ++ news)) (fun o' => (kS, o') :: (D, lo) :: (tups ++ news)) := by
  refine .head fun p hp => ?_
  rcases List.mem_cons.mp hp with rfl | hp
  · exact Nat.ne_of_lt hD
  rcases List.mem_append.mp hp with hp | hp
  · intro e
    have z1 := (N _ (.head _)).1
    have z2 := (N p (.tail _ (.tail _ (List.mem_append_left _ hp)))).1
    rw [e, z1] at z2
    have := congrArg Obj.cls (Option.some.inj z2)
    rw [ht p hp] at this
    exact absurd (show Value.type "list" = Value.type "tuple" from this) (by decide)
  · exact Nat.ne_of_lt (Nat.lt_trans (hn p hp) hD)
theorem TupsOk.cls {rk : Nat → Int} {tups : List (Addr × Obj)} (h : TupsOk rk tups) : ∀ p ∈ tups, p.2.cls = Value.type "tuple" := fun p hp => by
  obtain ⟨j, hj, rfl⟩ := List.getElem_of_mem hp
  exact (h j _ (List.getElem?_eq_getElem hj)).1
theorem keysT {q D kS : Addr} {e1 n : Nat} {rk : Nat → Int} {Fin : List Value → Nat → Shared → Prop} (hD : D < kS) (hn : ∀ q ∈ news, q.1 < D)
    (turn : ∀ (i : Nat) t h tk own, i < n → Fr h₀ L h m → News h₀ L h (news ++ own) → wpAny (model prog w) A (call (.ref q) [.int (i : Nat) t]) (KtEnd h₀ L m (news ++ own) (rk i) i { s with heap := h, toks := tk }) (fun _ _ => False) { s with heap := h, toks := tk })
    (fin : ∀ tups e h tk, tups.length = n → TupsOk rk tups → Fr h₀ L h m → News h₀ L h ((kS, seqObj "list" (tups.map fun p => Value.ref p.1).toArray e) :: (D, seqObj "list" #[] e1) :: (tups ++ news)) → Fin (tups.map fun p => Value.ref p.1) e { s with heap := h, toks := tk }) :
    ∀ (rest : List Value) (tups : List (Addr × Obj)) (e : Nat) (h : Heap) (tk : Nat), tups.length + rest.length = n → TupsOk rk tups → IntsAre rest ((List.range' tups.length rest.length).map fun i : Nat => (i : Int)) → Fr h₀ L h m →
      News h₀ L h ((kS, seqObj "list" (tups.map fun p => Value.ref p.1).toArray e) :: (D, seqObj "list" #[] e1) :: (tups ++ news)) →
      KatKeys prog w A h₀ L m kS (.ref q) Fin rest (tups.map fun p => Value.ref p.1) e { s with heap := h, toks := tk }
  | [], tups, e, h, tk, hl, ho, hi, F, N => KatKeys.nil (fin tups e h tk (by simpa using hl) ho F N)
  | v :: rest, tups, e, h, tk, hl, ho, hi, F, N => by
    have e0 : (List.range' tups.length (v :: rest).length).map (fun i : Nat => (i : Int)) = (tups.length : Int) :: (List.range' (tups.length + 1) rest.length).map (fun i : Nat => (i : Int)) := by simp [List.range'_succ]
    rw [e0] at hi
    rcases hi with _ | ⟨_, t, hi⟩
    refine KatKeys.cons (wpAny_mono (turn tups.length t h tk ((kS, seqObj "list" (tups.map fun p => Value.ref p.1).toArray e) :: (D, seqObj "list" #[] e1) :: tups) (by simp at hl; (first | lia | omega)) F ?_) ?_ fun _ _ x => x)
    · intro p hp
      refine N p ?_
      simp only [List.mem_append, List.mem_cons] at hp ⊢
      rcases hp with h | h | h | h <;> simp [h]
    · rintro v' s' ⟨a, o, h', tk', rfl, rfl, hc, hd, F', N'⟩
      have N2 : News h₀ L h' ((kS, seqObj "list" (tups.map fun p => Value.ref p.1).toArray e) :: (D, seqObj "list" #[] e1) :: ((tups ++ [(a, o)]) ++ news)) := fun p hp => N' p (by
        simp only [List.mem_append, List.mem_cons, List.not_mem_nil, or_false] at hp ⊢
        rcases hp with h | h | (h | h) | h <;> simp [h])
      have ho2 := ho.snoc (a := a) hc hd
      refine KatBack.intro F' N2 (upd_kS N2 hD hn ho2.cls) fun h2 c F2 N3 => ?_
      have em : (tups.map fun p => Value.ref p.1) ++ [Value.ref a] = (tups ++ [(a, o)]).map fun p => Value.ref p.1 := by simp
      rw [em] at N3 ⊢
      refine keysT hD hn turn fin rest (tups ++ [(a, o)]) c h2 tk' (by simp at hl ⊢; (first | lia | omega)) ho2 ?_ F2 N3
      rw [show (tups ++ [(a, o)]).length = tups.length + 1 by simp]
      exact hi
/-- the order of two keys -/
noncomputable def keyLtB (rk : Nat → Int) (i j : Nat) : Bool := decide (rk i < rk j ∨ rk i = rk j ∧ i < j)
theorem askT {n : Nat} {rk : Nat → Int} {h : Heap} {tups : List (Addr × Obj)} {i j : Nat} {C : Bool → Shared → Prop} (hl : tups.length = n) (ho : TupsOk rk tups) (hh : s.heap = h) (N : News h₀ L h tups) (hi : i < n) (hj : j < n) (hC : C (keyLtB rk i j) s) :
    kas_ask prog w A (tuples' true) (tups.map fun p => Value.ref p.1) i j C s := by
  subst hh
  have li : i < tups.length := by (first | lia | omega)
  have lj : j < tups.length := by (first | lia | omega)
  obtain ⟨ci, t1, t2, k1, di⟩ := ho i _ (List.getElem?_eq_getElem li)
  obtain ⟨cj, t3, t4, k2, dj⟩ := ho j _ (List.getElem?_eq_getElem lj)
  unfold kas_ask
  have ei : (tups.map fun p => Value.ref p.1).getD i Value.none = .ref tups[i].1 := by simp [li]
  have ej : (tups.map fun p => Value.ref p.1).getD j Value.none = .ref tups[j].1 := by simp [lj]
  rw [ei, ej]
  refine kat_lt (N _ (List.getElem_mem li)).1 di (N _ (List.getElem_mem lj)).1 dj ?_
  show KatLex prog w A true _ C [(Value.int (rk i) t1, Value.int (rk j) t3), (Value.int (i : Nat) t2, Value.int (j : Nat) t4)] 0 s
  refine kat_cons (wpAny_eqBool_int (kat_go (fun he => ?_) fun he => ?_))
  · have he' : rk i = rk j := by simpa using he
    refine kat_yes (kat_cons (wpAny_eqBool_int (kat_go (fun he2 => ?_) fun he2 => ?_)))
    · have e2 : i = j := by have := eq_of_beq he2; (first | lia | omega)
      refine kat_yes (kat_nil ?_)
      have : keyLtB rk i j = false := by unfold keyLtB; rw [decide_eq_false_iff_not]; (first | lia | omega)
      rw [this] at hC
      exact hC
    · refine kat_no (kat_one _ _ ?_)
      refine PyProof.Rows.lt_int ?_
      have : keyLtB rk i j = decide (((i : Nat) : Int) < ((j : Nat) : Int)) := by unfold keyLtB; rw [decide_eq_decide]; (first | lia | omega)
      rw [this] at hC
      exact hC
  · have he' : rk i ≠ rk j := by simpa using he
    refine kat_no (oneLt_int ?_)
    have : keyLtB rk i j = decide (rk i < rk j) := by unfold keyLtB; rw [decide_eq_decide]; (first | lia | omega)
    rw [this] at hC
    exact hC
theorem katTups_of {h : Heap} : ∀ (tups : List (Addr × Obj)) (fs : List Value), News h₀ L h tups → tups.length = fs.length → (∀ (j : Nat) (p : Addr × Obj), tups[j]? = some p → p.2.cls = Value.type "tuple" ∧ ∃ xs k f, p.2.data = Data.seq xs k ∧ xs[0]? = some f ∧ fs[j]? = some f) → KatTups h (tups.map fun p => Value.ref p.1) fs
  | [], [], _, _, _ => KatTups.nil
  | [], _ :: _, _, h, _ => by simp at h
  | _ :: _, [], _, h, _ => by simp at h
  | p :: r, f :: fs, N, hl, ho => by
    obtain ⟨hc, xs, k, f', hd, hx, hf⟩ := ho 0 p rfl
    simp at hf
    subst hf
    exact KatTups.cons (N p (.head _)).1 hc hd hx (katTups_of r fs (fun q hq => N q (.tail _ hq)) (by simpa using hl) fun j q hq => ho (j + 1) q hq)
theorem ints_at : ∀ {vs : List Value} {ns : List Int} {i : Nat} {v : Value}, IntsAre vs ns → vs[i]? = some v → ∃ x, ns[i]? = some x ∧ ∃ t, v = Value.int x t
  | _, _, 0, v, .cons x t _, h => ⟨x, rfl, t, by simpa using h.symm⟩
  | _, _, i + 1, v, .cons _ _ r, h => by simpa using ints_at (i := i) r (by simpa using h)
  | _, _, _, _, .nil, h => by simp at h
theorem ints_pick {vs : List Value} {n : Nat} (hi : IntsAre vs ((List.range n).map fun i : Nat => (i : Int))) : ∀ (q : List Nat), (∀ i ∈ q, i < n) → IntsAre (q.map fun i => vs.getD i Value.none) (q.map fun i : Nat => (i : Int))
  | [], _ => .nil
  | i :: q, h => by
    have hi' := h i (.head _)
    have hv : i < vs.length := by rw [hi.length]; simpa using hi'
    have : ∃ t, vs.getD i Value.none = .int (i : Nat) t := by
      obtain ⟨x, e2, t, e1⟩ := ints_at hi (List.getElem?_eq_getElem hv)
      refine ⟨t, ?_⟩
      rw [List.getD, List.getElem?_eq_getElem hv, Option.getD_some, e1]
      simp [hi'] at e2
      rw [← e2]
    obtain ⟨t, e⟩ := this
    rw [List.map_cons, e]
    exact .cons _ t (ints_pick hi q fun j hj => h j (.tail _ hj))
theorem sortedT {r q : Addr} {n : Nat} {t u v : Tok} {rk : Nat → Int} {Q : Value → Shared → Prop} (hh : A.handled = none) (F : Fr h₀ L s.heap m) (N : News h₀ L s.heap news) (hr : IsRange s.heap r 0 n 1 t u v) (h2 : 2 ≤ n) (h6 : n ≤ 6)
    (turn : ∀ (i : Nat) t h tk own, i < n → Fr h₀ L h m → News h₀ L h (news ++ own) → wpAny (model prog w) A.in1.in1 (call (.ref q) [.int (i : Nat) t]) (KtEnd h₀ L m (news ++ own) (rk i) i { s with heap := h, toks := tk }) (fun _ _ => False) { s with heap := h, toks := tk })
    (k : ∀ D vs' c h' tk (ord : List Nat), Fr h₀ L h' m → News h₀ L h' ((D, PySem.W.listOf (List.toArray vs') c) :: news) → (∀ q ∈ news, q.1 < D) → IntsAre vs' (ord.map fun i : Nat => (i : Int)) → ord.Perm (List.range n) → ord.Pairwise (fun i j => rk i < rk j ∨ rk i = rk j ∧ i < j) → Q (.ref D) { s with heap := h', toks := tk }) :
    wpAny (model prog w) A (call (.builtin "sorted") [.ref r] [(Str.ofString "key", .ref q)]) Q E s := by
  refine call_function_entry_kw kind_sorted plain_sorted entry_sorted (ksk_s1 _ _) ?_
  unfold Builtin.«sorted»
  refine wpAny_bind (m := checkCount "sorted" 1 1 _) (wpAny_pure ?_)
  refine wpAny_bind (collect_range hh hr (by (first | lia | omega)) fun h1 tk1 vs hk1 hi => ?_)
  have hlen : vs.length = n := by rw [hi.length]; simp
  refine wpAny_bind (wpAny_newList ?_ (by rw [sizeLine_eq]; (first | lia | omega)))
  have F1 := F.kept hk1
  have N1 := N.grown hk1
  have hoL : (h1.push (seqObj "list" vs.toArray 0)).get? h1.objs.size = some (seqObj "list" vs.toArray 0) := Heap.get?_push_size _ rfl
  have keep : ∀ b o, h1.get? b = some o → (h1.push (seqObj "list" vs.toArray 0)).get? b = some o := fun b o e => Heap.get?_push_of_some _ e
  have hL : L < h1.objs.size := F1.ns.lt
  show wpAny _ _ _ _ _ { s with heap := h1.push (seqObj "list" vs.toArray 0), toks := tk1 }
  refine wpAny_bind (wpAny_holding (wpAny_call_entry_kw slot_list_sort ⟨_, hoL, rfl⟩ entry_list_sort ?body (ksk_l1 _ _)))
  case body =>
    show wpAny (model prog w) A.in1.in1 (Builtin.«list.sort» ⟨[.ref h1.objs.size], [(Str.ofString "key", .ref q)]⟩) _ _ _
    rw [ksk_t1]
    refine kat_keyed (s := { s with heap := h1.push (seqObj "list" vs.toArray 0), toks := tk1 }) (F1.kept keep) (N1.grown keep) hoL (Nat.ne_of_gt hL) (Heap.get?_none_of_le (Nat.le_trans F1.above (Nat.le_of_lt hL)))
      (fun p hp => Nat.ne_of_lt (Heap.lt_size (N1 p hp).1)) (by (first | lia | omega)) (by (first | lia | omega)) fun kS e1 h' F' N' l0 l1 => ?_
    have hDn : ∀ q ∈ news, q.1 < h1.objs.size := fun p hp => Heap.lt_size (N1 p hp).1
    refine keysT (s := { s with heap := h1.push (seqObj "list" vs.toArray 0), toks := tk1 }) (rk := rk) (n := n) l0 hDn turn (fun tups e h3 tk3 hl3 ho3 F3 N3 => ?_) vs [] 0 h' tk1 (by simpa using hlen) (fun j p hp => by simp at hp) (by rw [List.length_nil, hlen, ← List.range_eq_range']; exact hi) F' N'
    have Nt : News h₀ L h3 tups := fun p hp => N3 p (.tail _ (.tail _ (List.mem_append_left _ hp)))
    have hfs : ∃ fs : List Value, fs.length = n ∧ (∀ v ∈ fs, ∃ z t, v = Value.int z t) ∧ KatTups h3 (tups.map fun p => Value.ref p.1) fs := by
      have hex : ∀ p ∈ tups, ∃ xs k z t, p.2.data = Data.seq xs k ∧ xs[0]? = some (Value.int z t) := fun p hp => by
        obtain ⟨j, hj, rfl⟩ := List.getElem_of_mem hp
        obtain ⟨_, t1, t2, k, hd⟩ := ho3 j _ (List.getElem?_eq_getElem hj)
        exact ⟨_, _, _, _, hd, rfl⟩
      have hfo : ∀ l : List (Addr × Obj), (∀ p ∈ l, ∃ xs k z t, p.2.data = Data.seq xs k ∧ xs[0]? = some (Value.int z t)) → ∃ fs : List Value, fs.length = l.length ∧ (∀ v ∈ fs, ∃ z t, v = Value.int z t) ∧ ∀ (j : Nat) (p : Addr × Obj), l[j]? = some p → ∃ xs k f, p.2.data = Data.seq xs k ∧ xs[0]? = some f ∧ fs[j]? = some f := by
        intro l
        induction l with
        | nil => intro _; exact ⟨[], rfl, (fun _ h => nomatch h), fun j p h => by simp at h⟩
        | cons p l ih =>
          intro hl
          obtain ⟨fs, a1, a2, a3⟩ := ih fun q hq => hl q (.tail _ hq)
          obtain ⟨xs, k, z, t, b1, b2⟩ := hl p (.head _)
          refine ⟨Value.int z t :: fs, by simp [a1], fun v hv => ?_, fun j q hq => ?_⟩
          · rcases List.mem_cons.mp hv with rfl | hv
            · exact ⟨z, t, rfl⟩
            · exact a2 v hv
          · cases j with
            | zero => simp at hq; subst hq; exact ⟨xs, k, _, b1, b2, rfl⟩
            | succ j => simpa using a3 j q (by simpa using hq)
      obtain ⟨fs, a1, a2, a3⟩ := hfo tups hex
      exact ⟨fs, by (first | lia | omega), a2, katTups_of tups fs Nt a1.symm fun j p hp => ⟨(ho3 j p hp).1, a3 j p hp⟩⟩
    obtain ⟨fs, hfl, hfi, hft⟩ := hfs
    refine kat_kind (T := .type "int") hft (by (first | lia | omega)) (fun v hv => ?_) rfl ?_
    · obtain ⟨z, t, rfl⟩ := hfi v hv
      exact Looks.of_pure rfl
    have htot := kas_total (n := n) (lt := keyLtB rk) h2 h6 (fun i j k _ _ _ a b => by simp [keyLtB] at a b ⊢; (first | lia | omega)) (fun i _ => by simp [keyLtB]) (fun i j _ _ hne => by simp [keyLtB]; (first | lia | omega))
    obtain ⟨ord, hrun, hperm, hpw⟩ := htot
    have hlv : vs.toArray.toList.length = n := by simpa using hlen
    show (kas_sort vs.length).kasWp (kas_ask prog w A.in1.in1 (tuples' true) (tups.map fun p => Value.ref p.1)) _ _
    rw [hlen]
    refine runO_wp (fun i j C hi hj hC => askT hl3 ho3 rfl Nt hi hj hC) hrun ?_
    refine KatFin.intro F3 N3 (upd_kS N3 l0 hDn ho3.cls) fun h4 c4 F4 N4 => ?_
    have U4 : UpdF h1.objs.size (seqObj "list" #[] e1) ((kS, seqObj "list" #[] c4) :: (h1.objs.size, seqObj "list" #[] e1) :: (tups ++ news)) (fun o' => (kS, seqObj "list" #[] c4) :: (h1.objs.size, o') :: (tups ++ news)) := by
      refine .tail (Nat.ne_of_gt l0) (.head fun p hp => ?_)
      rcases List.mem_append.mp hp with hp | hp
      · intro e
        have z1 := (N4 _ (.tail _ (.head _))).1
        have z2 := (N4 p (.tail _ (.tail _ (List.mem_append_left _ hp)))).1
        rw [e, z1] at z2
        have := congrArg Obj.cls (Option.some.inj z2)
        rw [ho3.cls p hp] at this
        exact absurd (show Value.type "list" = Value.type "tuple" from this) (by decide)
      · exact Nat.ne_of_lt (hDn p hp)
    refine KasFin.intro F4 N4 U4 fun h5 c5 F5 N5 => ?_
    · refine ⟨_, rfl, wpAny_pure ⟨_, rfl, ?_⟩⟩
      refine k _ _ c5 h5 tk3 ord F5 (fun p hp => N5 p ?_) hDn (ints_pick hi ord fun i hm => List.mem_range.mp (hperm.mem_iff.mp hm)) hperm (hpw.imp fun h => by simpa [keyLtB] using h)
      rcases List.mem_cons.mp hp with rfl | hp
      · exact .tail _ (.head _)
      · exact .tail _ (.tail _ (List.mem_append_right _ hp))
end
end Mine
end

section
-- LamB
example : True := by w_top off; trivial
open PySem PySem.W PyProof.Rows PySem.Calls PySem.Spec
set_option maxRecDepth 100000
namespace Mine
section
variable {w : World} {p : Program} {loose : List Str} {mean : ExcName → Option Value} {mg mb : Str → Option Value} {G : Heap} {s : Shared}
  {R : Result → Shared → Prop} {name qual : Str} {params : Arguments} {body : PySem.Expr} {scope : Scope} {cl : List (Str × Addr)} {pm ctv : Value} {c' f : Addr} {args : Args} {binds : List (Str × Value)} {dp un : Nat}
/-- a lambda is entered; the objects of led may be changed by it, all others not -/
theorem enterL (led : List (Addr × Obj)) (D : Gd w p loose mean mg mb G) (S : G.StaysIn s.heap) (hl : ∀ q ∈ led, s.heap.get? q.1 = some q.2) (hf : ∀ q ∈ led, G.get? q.1 = none)
    (ho : s.heap.get? f = some (kla_obj name qual params body scope cl pm c' ctv)) (hcd : s.heap.CodeRec (.ref c') qual) (hroom : dp < recursionLimit)
    (hbind : bindArgs (kla_fn name qual params body scope cl pm (.ref c') ctv) args = pure binds) (hloc : ∀ y ∈ binds, scope.names.lookup y.1 = some .local)
    (hcell : ∀ x ∈ scope.names, x.2 ≠ .cell) (hco : scope.isCoroutine = false) (hgen : scope.isGenerator = false) (hk : scope.kind = .function)
    (h : ∀ g L' h₁, g = hideAll s.heap (led.map (·.1)) → L' = s.heap.objs.size → Fr g L' h₁ (fun y => binds.reverse.lookup y) → News g L' h₁ led → (hd.heap_1 w.params).In g → Top p loose mean mg mb g → (∀ q ∈ led, q.1 < L') →
      (∀ b o, s.heap.get? b = some o → (∀ q ∈ led, q.1 ≠ b) → g.get? b = some o) → G.StaysIn g →
      wpAny (model Challenge.rw_oc0165_02.row.prog w) (Am (dp + 1) (un + 3)) (eval body (envX qual scope L' f (.ref c') cl)) (fun v s' => R (.ok (.ret v)) s') (fun _ _ => False)
        { s with heap := h₁, toks := s.toks + binds.length }) : codeAny (model Challenge.rw_oc0165_02.row.prog w) (Am dp un) (.call (.ref f) args) R s := by
  have nm : ∀ b o, G.get? b = some o → b ∉ led.map (·.1) := fun b o e q => by
    obtain ⟨p, hp, rfl⟩ := List.mem_map.mp q
    rw [hf p hp] at e; cases e
  have st : G.StaysIn (hideAll s.heap (led.map (·.1))) := fun b o e => hideAll_get _ (S b o e) (nm b o e)
  refine kla_callFunE hroom ho rfl hco hgen rfl hcd ?_
  rw [hbind]
  refine wpAny_pure (wpAny_newFunctionEnv hcell hloc (fun h₁ hns hsb => ?_) hk)
  have hk₁ : ∀ b o, s.heap.get? b = some o → h₁.get? b = some o := fun b o e => hsb.extBut b o (Nat.ne_of_lt (Heap.lt_size e)) (Heap.get?_push_of_some _ e)
  refine ⟨(D.T.nolimit.keeps S).keeps hk₁, ?_⟩
  show codeAny _ _ (.expr body (envX qual scope s.heap.objs.size f (.ref c') cl)) _ _
  refine kla_codeExpr (wpAny_mono (h _ s.heap.objs.size h₁ rfl rfl ⟨hns, fun b o e => hk₁ b o (of_hideAll _ e), Nat.le_of_eq (hideAll_size _ _)⟩
    (fun p hp => ⟨hk₁ _ _ (hl p hp), Nat.ne_of_lt (Heap.lt_size (hl p hp)), hideAll_none _ (List.mem_map_of_mem hp)⟩) (D.X.keeps st) (D.T.keeps st) (fun p hp => Heap.lt_size (hl p hp))
    (fun b o e n => hideAll_get _ e fun q => ?_) st) (fun v s' x => x) fun _ _ x => x.elim)
  obtain ⟨p, hp, e'⟩ := List.mem_map.mp q
  exact n p hp e'
end
theorem kt_end {g h g2 h' : Heap} {L L2 D' : Addr} {m m2 : Str → Option Value} {led nw : List (Addr × Obj)} {o : Obj} {r i : Int} {gs : Array GenState} {d : Drawn} {os : OsState} {tk tk' : Nat} (F : Fr g L h m) (N : News g L h nw) (hl : ∀ q ∈ led, h.get? q.1 = some q.2)
    (hk2 : ∀ b o, h.get? b = some o → (∀ q ∈ led, q.1 ≠ b) → g2.get? b = some o) (F2 : Fr g2 L2 h' m2) (N2 : News g2 L2 h' ((D', o) :: led)) (hc : o.cls = Value.type "tuple") (hd : ∃ t1 t2 k, o.data = Data.seq #[Value.int r t1, Value.int i t2] k) (hne : ∀ q ∈ led, q.2 ≠ o) :
    KtEnd g L m nw r i ⟨h, gs, d, tk, os⟩ (.ref D') ⟨h', gs, d, tk', os⟩ := by
  have keep : ∀ b o, h.get? b = some o → h'.get? b = some o := fun b o' e => by
    by_cases hx : ∃ q ∈ led, q.1 = b
    · obtain ⟨q, hq, rfl⟩ := hx
      rw [hl q hq] at e
      cases e
      exact (N2 q (.tail _ hq)).1
    · exact F2.keep _ _ (hk2 b o' e fun q hq h => hx ⟨q, hq, h⟩)
  have hD : h.get? D' = none := by
    cases e : h.get? D' with
    | none => rfl
    | some o' =>
      exfalso
      by_cases hx : ∃ q ∈ led, q.1 = D'
      · obtain ⟨q, hq, rfl⟩ := hx
        have z1 := (N2 _ (.head _)).1
        have z2 := (N2 q (.tail _ hq)).1
        rw [z1] at z2
        exact hne q hq (Option.some.inj z2).symm
      · have z := (N2 _ (.head _)).2.2
        have := hk2 _ _ e fun q hq h => hx ⟨q, hq, h⟩
        rw [z] at this; cases this
  exact ⟨D', o, h', tk', rfl, rfl, hc, hd, frK F keep, news_more (newsK N keep) F hD (N2 _ (.head _)).1⟩
end Mine
end

section
-- Cp2
example : True := by w_top off; trivial
open PySem PySem.W PyProof.Rows PySem.Calls PySem.Spec
set_option maxRecDepth 100000
namespace Mine
section
variable {prog : Program} {w : World} {A : Around} {R : Result → Shared → Prop} {s : Shared} {elt t1 i1 t2 i2 : Expr} {if1 ifs : List Expr} {scope : Scope} {pos : Pos} {it acc : Value} {env : Env}
end
end Mine
end

section
-- ZipD
example : True := by w_top off; trivial
open PySem PySem.W PyProof.Rows PySem.Calls PySem.Spec
set_option maxRecDepth 100000
namespace Mine
structure ZipAp (z TI TO i1 i2 : Addr) (fp1 fp2 : List Addr) : Prop where
  TIz : TI ≠ z
  TOz : TO ≠ z
  i1z : i1 ≠ z
  i2z : i2 ≠ z
  TITO : TI ≠ TO
  TIi1 : TI ≠ i1
  TIi2 : TI ≠ i2
  TOi1 : TO ≠ i1
  TOi2 : TO ≠ i2
  i12 : i1 ≠ i2
  f1 : ∀ b ∈ fp1, b ≠ z ∧ b ≠ TO ∧ b ≠ i2
  f2 : ∀ b ∈ fp2, b ≠ z ∧ b ≠ TO ∧ b ≠ i1
section
variable {prog : Program} {w : World} {A : Around} {E : Value → Shared → Prop} {s : Shared} {z TI TO i1 i2 : Addr} {fp1 fp2 : List Addr} {n1 n2 : Nat} {P1 P2 : Nat → Value → Prop} {St1 St2 : Nat → Heap → Prop} {k : Nat} {a b : Value}
theorem zipD_item {Q : Value → Shared → Prop} (D1 : Draws prog w A i1 fp1 n1 P1 St1) (D2 : Draws prog w A i2 fp2 n2 P2 St2) (D : ZipAp z TI TO i1 i2 fp1 fp2)
    (hz : IsZip s.heap z TI TO .none) (hTI : IsPair s.heap TI (.ref i1) (.ref i2)) (hTO : IsPair s.heap TO a b) (h1 : St1 k s.heap) (h2 : St2 k s.heap) (hk1 : k < n1) (hk2 : k < n2)
    (hQ : ∀ x y h' tk', P1 k x → P2 k y → IsZip h' z TI TO (rawInt s.heap.objs.size) → IsPair h' TO x y → St1 (k + 1) h' → St2 (k + 1) h' → IsPair h' s.heap.objs.size x y →
      (∀ c o, c ≠ z → c ≠ TO → c ≠ i1 → c ≠ i2 → s.heap.get? c = some o → h'.get? c = some o) → Q (.ref s.heap.objs.size) { s with heap := h', toks := tk' }) :
    wpAny (model prog w) A (Builtin.«zip.__next__» ⟨[.ref z], []⟩) (fun fin s' => ∃ v, fin = .done (.ret v) ∧ Q v s') E s := by
  show wpAny _ _ (field (.ref z) 2 >>= _) _ _ _
  refine wpAny_bind (wpAny_field hz rfl (x := .bool false) rfl ?_)
  show wpAny _ _ (field (.ref z) 3 >>= _) _ _ _
  refine wpAny_bind (wpAny_field hz rfl (x := .ref TI) rfl ?_)
  refine wpAny_bind (wpAny_seqItems hTI rfl ?_)
  show wpAny _ _ (Builtin.SmallTypes.ownedTupleIsFree (.ref z) >>= _) _ _ _
  refine wpAny_bind ?_
  unfold Builtin.SmallTypes.ownedTupleIsFree
  refine wpAny_bind (wpAny_field hz rfl (x := .none) rfl (wpAny_pure ?_))
  simp only [if_true]
  refine wpAny_bind (wpAny_rule ?_)
  refine wpAny_bind (wpAny_field hz rfl (x := .ref TO) rfl ?_)
  refine wpAny_bind (wpAny_setField_rec hz (by simp) fun h₁ hz₁ hs₁ => ?_)
  replace hz₁ : IsZip h₁ z TI TO .ellipsis := hz₁
  refine wpAny_bind ?_
  simp only [List.zipIdx_cons, List.zipIdx_nil, List.forIn_cons, List.forIn_nil]
  refine wpAny_bind (wpAny_bind (wpAny_onRaise ?_))
  show wpAny _ _ (Builtin.SmallTypes.nextOf (.ref i1) >>= _) _ _ _
  have s11 : St1 k h₁ := D1.frame _ _ _ h1 fun b hb o e => hs₁.extBut _ _ (D.f1 b hb).1 e
  have s21 : St2 k h₁ := D2.frame _ _ _ h2 fun b hb o e => hs₁.extBut _ _ (D.f2 b hb).1 e
  refine wpAny_bind (D1.item k _ _ _ hk1 s11 fun x h₂ tk₂ hPx s12 hs₂ => wpAny_pure ?_)
  have s22 : St2 k h₂ := D2.frame _ _ _ s21 fun b hb o e => hs₂.extBut _ _ (D.f2 b hb).2.2 e
  have hTO₂ : IsPair h₂ TO a b := hs₂.extBut _ _ D.TOi1 (hs₁.extBut _ _ D.TOz hTO)
  refine wpAny_bind (wpAny_seqItems hTO₂ rfl ?_)
  refine wpAny_bind (wpAny_updateSeq_pair hTO₂ fun h₃ hTO₃ hs₃ => ?_)
  replace hTO₃ : IsPair h₃ TO x b := hTO₃
  refine wpAny_bind (wpAny_letGo (wpAny_pure ?_))
  refine wpAny_bind (wpAny_bind (wpAny_onRaise ?_))
  show wpAny _ _ (Builtin.SmallTypes.nextOf (.ref i2) >>= _) _ _ _
  have s23 : St2 k h₃ := D2.frame _ _ _ s22 fun b hb o e => hs₃.extBut _ _ (D.f2 b hb).2.1 e
  have s13 : St1 (k + 1) h₃ := D1.frame _ _ _ s12 fun b hb o e => hs₃.extBut _ _ (D.f1 b hb).2.1 e
  refine wpAny_bind (D2.item k _ _ _ hk2 s23 fun y h₄ tk₄ hPy s24 hs₄ => wpAny_pure ?_)
  have s14 : St1 (k + 1) h₄ := D1.frame _ _ _ s13 fun b hb o e => hs₄.extBut _ _ (D.f1 b hb).2.2 e
  have hTO₄ : IsPair h₄ TO x b := hs₄.extBut _ _ D.TOi2 hTO₃
  refine wpAny_bind (wpAny_seqItems hTO₄ rfl ?_)
  refine wpAny_bind (wpAny_updateSeq_pair hTO₄ fun h₅ hTO₅ hs₅ => ?_)
  replace hTO₅ : IsPair h₅ TO x y := hTO₅
  refine wpAny_bind (wpAny_letGo (wpAny_pure (wpAny_pure ?_)))
  refine wpAny_bind (wpAny_seqItems hTO₅ rfl ?_)
  refine wpAny_bind (wpAny_newTuple ?_)
  have hsz : h₅.objs.size = s.heap.objs.size := by rw [hs₅.1, hs₄.1, hs₃.1, hs₂.1, hs₁.1]
  have hz₅ : IsZip h₅ z TI TO .ellipsis := hs₅.extBut _ _ D.TOz.symm (hs₄.extBut _ _ D.i2z.symm (hs₃.extBut _ _ D.TOz.symm (hs₂.extBut _ _ D.i1z.symm hz₁)))
  have hk₅ : ∀ c o, c ≠ z → c ≠ TO → c ≠ i1 → c ≠ i2 → s.heap.get? c = some o → h₅.get? c = some o := fun c o c1 c2 c3 c4 e =>
    hs₅.extBut _ _ c2 (hs₄.extBut _ _ c4 (hs₃.extBut _ _ c2 (hs₂.extBut _ _ c3 (hs₁.extBut _ _ c1 e))))
  have s15 : St1 (k + 1) h₅ := D1.frame _ _ _ s14 fun b hb o e => hs₅.extBut _ _ (D.f1 b hb).2.1 e
  have s25 : St2 (k + 1) h₅ := D2.frame _ _ _ s24 fun b hb o e => hs₅.extBut _ _ (D.f2 b hb).2.1 e
  have hzlt : z < h₅.objs.size := Heap.lt_size hz₅
  show wpAny _ _ (Builtin.SmallTypes.ownedTupleHandOut (.ref z) (.ref h₅.objs.size) >>= _) _ _ _
  refine wpAny_bind ?_
  unfold Builtin.SmallTypes.ownedTupleHandOut
  have hz₆ : IsZip (h₅.push { cls := .type "tuple", data := .seq #[x, y] }) z TI TO .ellipsis := Heap.get?_push_of_some _ hz₅
  refine wpAny_bind (wpAny_setField_rec hz₆ (by simp) fun h₇ hz₇ hs₇ => ?_)
  replace hz₇ : IsZip h₇ z TI TO (rawInt h₅.objs.size) := hz₇
  refine wpAny_setField_rec hz₇ (by simp) fun h₈ hz₈ hs₈ => ?_
  replace hz₈ : IsZip h₈ z TI TO (rawInt h₅.objs.size) := hz₈
  have up : ∀ c o, c ≠ z → h₅.get? c = some o → h₈.get? c = some o := fun c o c1 e => hs₈.extBut _ _ c1 (hs₇.extBut _ _ c1 (Heap.get?_push_of_some _ e))
  have hT₈ : IsPair h₈ h₅.objs.size x y := hs₈.extBut _ _ (Nat.ne_of_gt hzlt) (hs₇.extBut _ _ (Nat.ne_of_gt hzlt) (Heap.get?_push_size _ rfl))
  rw [hsz] at hz₈ hT₈
  refine wpAny_pure ⟨_, rfl, ?_⟩
  show Q (.ref h₅.objs.size) _
  rw [hsz]
  exact hQ x y h₈ _ hPx hPy hz₈ (up _ _ D.TOz hTO₅) (D1.frame _ _ _ s15 fun b hb o e => up _ _ (D.f1 b hb).1 e) (D2.frame _ _ _ s25 fun b hb o e => up _ _ (D.f2 b hb).1 e) hT₈ fun c o c1 c2 c3 c4 e => up c o c1 (hk₅ c o c1 c2 c3 c4 e)
theorem zipD_end {Q : Fin → Shared → Prop} (D1 : Draws prog w A i1 fp1 n1 P1 St1) (D2 : Draws prog w A i2 fp2 n2 P2 St2) (D : ZipAp z TI TO i1 i2 fp1 fp2)
    (hz : IsZip s.heap z TI TO .none) (hTI : IsPair s.heap TI (.ref i1) (.ref i2)) (hTO : IsPair s.heap TO a b) (h1 : St1 (min n1 n2) s.heap) (h2 : St2 (min n1 n2) s.heap)
    (hE : ∀ h' e tk', (∀ c o, c ≠ z → c ≠ TO → c ≠ i1 → c ≠ i2 → s.heap.get? c = some o → h'.get? c = some o) → (∃ o, h'.get? e = some o ∧ o.cls = .type "StopIteration") → E (.ref e) { s with heap := h', toks := tk' }) :
    wpAny (model prog w) A (Builtin.«zip.__next__» ⟨[.ref z], []⟩) Q E s := by
  show wpAny _ _ (field (.ref z) 2 >>= _) _ _ _
  refine wpAny_bind (wpAny_field hz rfl (x := .bool false) rfl ?_)
  show wpAny _ _ (field (.ref z) 3 >>= _) _ _ _
  refine wpAny_bind (wpAny_field hz rfl (x := .ref TI) rfl ?_)
  refine wpAny_bind (wpAny_seqItems hTI rfl ?_)
  show wpAny _ _ (Builtin.SmallTypes.ownedTupleIsFree (.ref z) >>= _) _ _ _
  refine wpAny_bind ?_
  unfold Builtin.SmallTypes.ownedTupleIsFree
  refine wpAny_bind (wpAny_field hz rfl (x := .none) rfl (wpAny_pure ?_))
  simp only [if_true]
  refine wpAny_bind (wpAny_rule ?_)
  refine wpAny_bind (wpAny_field hz rfl (x := .ref TO) rfl ?_)
  refine wpAny_bind (wpAny_setField_rec hz (by simp) fun h₁ hz₁ hs₁ => ?_)
  replace hz₁ : IsZip h₁ z TI TO .ellipsis := hz₁
  refine wpAny_bind ?_
  simp only [List.zipIdx_cons, List.zipIdx_nil, List.forIn_cons, List.forIn_nil]
  refine wpAny_bind (wpAny_bind (wpAny_onRaise ?_))
  show wpAny _ _ (Builtin.SmallTypes.nextOf (.ref i1) >>= _) _ _ _
  have s11 : St1 (min n1 n2) h₁ := D1.frame _ _ _ h1 fun b hb o e => hs₁.extBut _ _ (D.f1 b hb).1 e
  have s21 : St2 (min n1 n2) h₁ := D2.frame _ _ _ h2 fun b hb o e => hs₁.extBut _ _ (D.f2 b hb).1 e
  by_cases hle : n1 ≤ n2
  · rw [Nat.min_eq_left hle] at s11
    refine wpAny_bind (D1.done _ _ _ s11 fun h₂ e hs₂ he => ?_)
    obtain ⟨oe, hoe, hce⟩ := he
    have hz₂ : IsZip h₂ z TI TO .ellipsis := hs₂ _ _ D.i1z.symm hz₁
    have hez : e ≠ z := fun x => by subst x; rw [hz₂] at hoe; cases hoe; simp at hce
    refine wpAny_setField_rec hz₂ (by simp) fun h₃ _ hs₃ => hE h₃ e _ (fun c o c1 _ c3 _ x => hs₃.extBut _ _ c1 (hs₂ _ _ c3 (hs₁.extBut _ _ c1 x))) ⟨oe, hs₃.extBut _ _ hez hoe, hce⟩
  · have hm : min n1 n2 = n2 := Nat.min_eq_right (by omega)
    rw [hm] at s11 s21
    refine wpAny_bind (D1.item n2 _ _ _ (by omega) s11 fun x h₂ tk₂ hPx s12 hs₂ => wpAny_pure ?_)
    have s22 : St2 n2 h₂ := D2.frame _ _ _ s21 fun b hb o e => hs₂.extBut _ _ (D.f2 b hb).2.2 e
    have hTO₂ : IsPair h₂ TO a b := hs₂.extBut _ _ D.TOi1 (hs₁.extBut _ _ D.TOz hTO)
    refine wpAny_bind (wpAny_seqItems hTO₂ rfl ?_)
    refine wpAny_bind (wpAny_updateSeq_pair hTO₂ fun h₃ hTO₃ hs₃ => ?_)
    refine wpAny_bind (wpAny_letGo (wpAny_pure ?_))
    refine wpAny_bind (wpAny_bind (wpAny_onRaise ?_))
    show wpAny _ _ (Builtin.SmallTypes.nextOf (.ref i2) >>= _) _ _ _
    have s23 : St2 n2 h₃ := D2.frame _ _ _ s22 fun b hb o e => hs₃.extBut _ _ (D.f2 b hb).2.1 e
    refine wpAny_bind (D2.done _ _ _ s23 fun h₄ e hs₄ he => ?_)
    obtain ⟨oe, hoe, hce⟩ := he
    have hz₄ : IsZip h₄ z TI TO .ellipsis := hs₄ _ _ D.i2z.symm (hs₃.extBut _ _ D.TOz.symm (hs₂.extBut _ _ D.i1z.symm hz₁))
    have hez : e ≠ z := fun x => by subst x; rw [hz₄] at hoe; cases hoe; simp at hce
    refine wpAny_setField_rec hz₄ (by simp) fun h₅ _ hs₅ => hE h₅ e _ (fun c o c1 c2 c3 c4 x => hs₅.extBut _ _ c1 (hs₄ _ _ c4 (hs₃.extBut _ _ c2 (hs₂.extBut _ _ c3 (hs₁.extBut _ _ c1 x))))) ⟨oe, hs₅.extBut _ _ hez hoe, hce⟩
end
section
variable {prog : Program} {w : World} {A : Around} {E : Value → Shared → Prop} {s : Shared} {z TI TO i1 i2 : Addr} {fp1 fp2 : List Addr} {n1 n2 : Nat} {P1 P2 : Nat → Value → Prop} {St1 St2 : Nat → Heap → Prop} {k : Nat} {a b : Value}
theorem walksT_zipD (D1 : Draws prog w A.in1 i1 fp1 n1 P1 St1) (D2 : Draws prog w A.in1 i2 fp2 n2 P2 St2) (D : ZipAp z TI TO i1 i2 fp1 fp2) :
    WalksT prog w A z (z :: TI :: TO :: i1 :: i2 :: (fp1 ++ fp2)) [z, TO, i1, i2] (min n1 n2)
      (fun i vals => ∃ x y, P1 i x ∧ P2 i y ∧ vals = #[x, y])
      (fun i h => IsZip h z TI TO .none ∧ IsPair h TI (.ref i1) (.ref i2) ∧ (∃ a b, IsPair h TO a b) ∧ St1 i h ∧ St2 i h)
      (fun i T h => IsZip h z TI TO (rawInt T) ∧ IsPair h TI (.ref i1) (.ref i2) ∧ (∃ a b, IsPair h TO a b) ∧ St1 (i + 1) h ∧ St2 (i + 1) h ∧ T ≠ z ∧ T ≠ TO ∧ T ≠ i1 ∧ T ≠ i2) where
  sub := fun c hc => by simp at hc ⊢; rcases hc with rfl | rfl | rfl | rfl <;> simp
  frame := fun i h h' hst hk => by
    obtain ⟨hz, hTI, ⟨a, b, hTO⟩, h1, h2⟩ := hst
    exact ⟨hk z (by simp) _ hz, hk TI (by simp) _ hTI, ⟨a, b, hk TO (by simp) _ hTO⟩, D1.frame _ _ _ h1 fun b hb o e => hk b (by simp [hb]) o e, D2.frame _ _ _ h2 fun b hb o e => hk b (by simp [hb]) o e⟩
  item := fun i s Q E hi hst hQ => by
    obtain ⟨hz, hTI, ⟨a, b, hTO⟩, h1, h2⟩ := hst
    have hT : s.TypeIs (.ref z) "zip" := ⟨_, hz, rfl⟩
    have lt : ∀ {c o}, s.heap.get? c = some o → s.heap.objs.size ≠ c := fun e => Nat.ne_of_gt (Heap.lt_size e)
    unfold pyNext
    refine wpAny_bind (wpAny_attempt (wpAny_callSpecial?_slot (name := Str.ofString "__next__") hT F.slot_zip_next
      (wpAny_call_entry F.slot_zip_next hT F.entry_zip_next (zipD_item D1 D2 D hz hTI hTO h1 h2 (Nat.lt_of_lt_of_le hi (Nat.min_le_left ..)) (Nat.lt_of_lt_of_le hi (Nat.min_le_right ..)) fun x y h' tk' hx hy a1 a2 a3 a4 a5 hk => wpAny_pure ?_) (F.args_zip_next_1 _))))
    exact hQ s.heap.objs.size #[x, y] h' tk' ⟨x, y, hx, hy, rfl⟩ (Nat.le_refl _) ⟨_, a5, rfl, _, rfl⟩
      ⟨a1, hk _ _ D.TIz D.TITO D.TIi1 D.TIi2 hTI, ⟨_, _, a2⟩, a3, a4, lt hz, lt hTO, (by obtain ⟨o, e⟩ := D1.live _ _ h1; exact lt e), (by obtain ⟨o, e⟩ := D2.live _ _ h2; exact lt e)⟩
      fun c o hc e => hk c o (fun x => hc (by simp [x])) (fun x => hc (by simp [x])) (fun x => hc (by simp [x])) (fun x => hc (by simp [x])) e
  go := fun elts k pos i T s Q E hm hQ => by
    obtain ⟨hz, hTI, ⟨a, b, hTO⟩, h1, h2, _⟩ := hm
    refine wpAny_letOwnedTupleGo_zip hz fun h' hz' hs' => hQ h' ⟨hz', hs'.extBut _ _ D.TIz hTI, ⟨a, b, hs'.extBut _ _ D.TOz hTO⟩, D1.frame _ _ _ h1 fun b hb o e => hs'.extBut _ _ (D.f1 b hb).1 e, D2.frame _ _ _ h2 fun b hb o e => hs'.extBut _ _ (D.f2 b hb).1 e⟩
      fun c o hc e => hs'.extBut _ _ (fun x => hc (by simp [x])) e
  apart := fun i T h hm hT => by
    obtain ⟨_, _, _, _, _, t1, t2, t3, t4⟩ := hm
    simp at hT
    rcases hT with rfl | rfl | rfl | rfl
    · exact t1 rfl
    · exact t2 rfl
    · exact t3 rfl
    · exact t4 rfl
  done := fun s Q E hst hQ => by
    obtain ⟨hz, hTI, ⟨a, b, hTO⟩, h1, h2⟩ := hst
    have hT : s.TypeIs (.ref z) "zip" := ⟨_, hz, rfl⟩
    unfold pyNext
    refine wpAny_bind (wpAny_attempt (wpAny_callSpecial?_slot (name := Str.ofString "__next__") hT F.slot_zip_next
      (wpAny_call_entry F.slot_zip_next hT F.entry_zip_next (zipD_end D1 D2 D hz hTI hTO h1 h2 fun h' e tk' hk he => ?_) (F.args_zip_next_1 _))))
    obtain ⟨o, ho, hc⟩ := he
    refine wpAny_bind (wpAny_isInstance (T := "StopIteration") (b := true) ⟨o, ho, hc⟩ isSubtype_stop ?_)
    exact wpAny_pure (hQ _ _ fun c o hc e => hk c o (fun x => hc (by simp [x])) (fun x => hc (by simp [x])) (fun x => hc (by simp [x])) (fun x => hc (by simp [x])) e)
  self := fun i s Q E hst hQ => wpAny_pyIter_zip hst.1 hQ
end
noncomputable abbrev zsH1 (h : Heap) (x : Str) (t : Tok) : Heap := h.push { cls := .type "str_ascii_iterator", data := .fields #[.str x t, .int 0 0] }
noncomputable abbrev zsH2 (h : Heap) (x : Str) (t : Tok) (l2 : Addr) : Heap := (zsH1 h x t).push { cls := .type "list_iterator", data := .fields #[.ref l2, .int 0 0] }
noncomputable abbrev zsH3 (h : Heap) (x : Str) (t : Tok) (l2 : Addr) : Heap := (zsH2 h x t l2).push { cls := .type "tuple", data := .seq #[.ref h.objs.size, .ref (zsH1 h x t).objs.size] }
noncomputable abbrev zsH4 (h : Heap) (x : Str) (t : Tok) (l2 : Addr) : Heap := (zsH3 h x t l2).push { cls := .type "tuple", data := .seq #[.none, .none] }
noncomputable abbrev zsH5 (h : Heap) (x : Str) (t : Tok) (l2 : Addr) : Heap := (zsH4 h x t l2).push { cls := .type "zip", data := .fields #[.none, .bool false, .bool false, .ref (zsH2 h x t l2).objs.size, .ref (zsH3 h x t l2).objs.size] }
set_option maxHeartbeats 1000000 in
theorem meets_zip_sl (x : Str) (t : Tok) (l2 : Addr) (ys : Array Value) (ha : x.cps.all (· < 128) = true) :
    Meets (Builtin.«zip.__new__» ⟨[.type "zip", .str x t, .ref l2], []⟩) (fun _ R s => s.heap.IsList l2 ys ∧
      R (.ok (.ret (.ref (zsH4 s.heap x t l2).objs.size))) { s with heap := zsH5 s.heap x t l2 }) :=
  .of_wp fun prog w A R s h => by
    obtain ⟨hp, g, d, tk, os⟩ := s; obtain ⟨hl2, h⟩ := h
    have hsub := sub_zip
    have hL2 : Heap.IsList (Shared.heap ⟨hp.push { cls := .type "str_ascii_iterator", data := .fields #[.str x t, .int 0 0] }, g, d, tk, os⟩) l2 ys := Heap.IsList.push hl2 _
    wp_walk using wpAny_pyIter_ascii ha, wpAny_pyIter_list hL2
    exact ⟨_, rfl, h⟩
end Mine
end

section
-- ZipC
example : True := by w_top off; trivial
open PySem PySem.W PyProof.Rows PySem.Calls PySem.Spec
set_option maxRecDepth 100000
namespace Mine
section
variable {prog : Program} {w : World} {A : Around} {E : Value → Shared → Prop} {s : Shared}
theorem call_zip_sl {x : Str} {t : Tok} {l2 : Addr} {ys : Array Value} {Q : Value → Shared → Prop} (ha : x.cps.all (· < 128) = true) (hl2 : s.heap.IsList l2 ys)
    (h : ∀ h', IsZip h' (s.heap.objs.size + 4) (s.heap.objs.size + 2) (s.heap.objs.size + 3) .none → IsPair h' (s.heap.objs.size + 2) (.ref s.heap.objs.size) (.ref (s.heap.objs.size + 1)) →
      IsPair h' (s.heap.objs.size + 3) .none .none → h'.IsStrIter s.heap.objs.size "str_ascii_iterator" x t 0 → h'.IsListIter (s.heap.objs.size + 1) l2 0 → h'.objs.size = s.heap.objs.size + 5 →
      (∀ c o, s.heap.get? c = some o → h'.get? c = some o) → Q (.ref (s.heap.objs.size + 4)) { s with heap := h' }) :
    wpAny (model prog w) A (call (.type "zip") [.str x t, .ref l2]) Q E s := by
  refine callType_new F.called_zip (by decide) (F.typeCall_zip_2 _ _) (F.newCall_zip_2 _ _) (fun obj => F.args_object_init_3 obj _ _) F.entry_zip_new
    (meets_zip_sl x t l2 ys ha) ⟨hl2, ?_⟩
  have z1 : (zsH1 s.heap x t).objs.size = s.heap.objs.size + 1 := Heap.size_push ..
  have z2 : (zsH2 s.heap x t l2).objs.size = s.heap.objs.size + 2 := by rw [Heap.size_push, z1]
  have z3 : (zsH3 s.heap x t l2).objs.size = s.heap.objs.size + 3 := by rw [Heap.size_push, z2]
  have z4 : (zsH4 s.heap x t l2).objs.size = s.heap.objs.size + 4 := by rw [Heap.size_push, z3]
  have z5 : (zsH5 s.heap x t l2).objs.size = s.heap.objs.size + 5 := by rw [Heap.size_push, z4]
  have g5 : (zsH5 s.heap x t l2).get? (zsH4 s.heap x t l2).objs.size = some _ := Heap.get?_push_size _ rfl
  have g4 : (zsH5 s.heap x t l2).get? (zsH3 s.heap x t l2).objs.size = some _ := Heap.get?_push_of_some _ (Heap.get?_push_size _ rfl)
  have g3 : (zsH5 s.heap x t l2).get? (zsH2 s.heap x t l2).objs.size = some _ := Heap.get?_push_of_some _ (Heap.get?_push_of_some _ (Heap.get?_push_size _ rfl))
  have g2 : (zsH5 s.heap x t l2).get? (zsH1 s.heap x t).objs.size = some _ := Heap.get?_push_of_some _ (Heap.get?_push_of_some _ (Heap.get?_push_of_some _ (Heap.get?_push_size _ rfl)))
  have g1 : (zsH5 s.heap x t l2).get? s.heap.objs.size = some _ := Heap.get?_push_of_some _ (Heap.get?_push_of_some _ (Heap.get?_push_of_some _ (Heap.get?_push_of_some _ (Heap.get?_push_size _ rfl))))
  show _ ∧ _
  rw [z2, z3, z4] at g5
  rw [z1, z2] at g3
  rw [z3] at g4
  rw [z1] at g2
  rw [z4]
  exact ⟨⟨_, g5, rfl⟩, h _ g5 g3 g4 ⟨_, g1, rfl, rfl⟩ ⟨_, g2, rfl, rfl⟩ z5 fun c o x =>
    Heap.get?_push_of_some _ (Heap.get?_push_of_some _ (Heap.get?_push_of_some _ (Heap.get?_push_of_some _ (Heap.get?_push_of_some _ x))))⟩
end
section
variable {prog : Program} {w : World} {A : Around} {R : Result → Shared → Prop} {s : Shared}
theorem loopP {elt target iter : Expr} {scope : Scope} {pos : Pos} {it acc : Value} {env : Env} (I : Nat → Shared → Prop)
    (turn : ∀ n s, I n s → wpAny (model prog w) A (pyNext it) (fun r s₁ => match r with
      | none => R (.ok .next) s₁
      | some v => wpAny (model prog w) A (letOwnedTupleGo target it v) (fun _ s₂ => wpAny (model prog w) A (assign target env v) (fun _ s₃ =>
          wpAny (model prog w) A (eval elt env) (fun x s₄ => wpAny (model prog w) A (call (.builtin "list.append") [acc, x]) (fun _ s₅ => ∃ m, m < n ∧ I m s₅) (notedBy (model prog w) A env fun e s' => R (.error e) s') s₄)
            (notedBy (model prog w) A env fun e s' => R (.error e) s') s₃) (notedBy (model prog w) A env fun e s' => R (.error e) s') s₂) (notedBy (model prog w) A env fun e s' => R (.error e) s') s₁) (notedBy (model prog w) A env fun e s' => R (.error e) s') s)
    (n : Nat) (h : I n s) : codeAny (model prog w) A (.compLoop (.ListComp elt [⟨target, iter, [], 0⟩] scope pos) 0 it acc env) R s := by
  refine codeAny_loop rfl I (fun n s hI => ?_) n h
  show wpAny _ A ((compTurn (.ListComp elt [⟨target, iter, [], 0⟩] scope pos) 0 it acc env).onRaise (fun x => do noteFrame x env; theTreesLotGoes x)) _ _ s
  refine wpAny_noted ?_
  rw [compTurn_list]
  refine wpAny_bind (wpAny_standAt (wpAny_bind (wpAny_mono (turn n s hI) (fun r s₁ h₁ => ?_) fun _ _ h' => h')))
  cases r with
  | none => exact wpAny_pure h₁
  | some v =>
    refine wpAny_bind (wpAny_mono h₁ (fun _ s₂ h₂ => ?_) fun _ _ h' => h')
    refine wpAny_bind (wpAny_mono h₂ (fun _ s₃ h₃ => wpAny_bind (wpAny_tests_nil ?_)) fun _ _ h' => h')
    exact wpAny_bind (wpAny_bind (wpAny_mono h₃ (fun x s₄ h₄ => wpAny_bind (wpAny_mono h₄ (fun _ s₅ h₅ => wpAny_pure (wpAny_pure ⟨rfl, h₅⟩)) fun _ _ h' => h')) fun _ _ h' => h'))
end
end Mine
end

section
-- Cpu
example : True := by w_top off; trivial
open PySem PySem.W PyProof.Rows PySem.Calls PySem.Spec
set_option maxRecDepth 100000
namespace Mine
/-- what is asked of a comprehension over pairs -/
inductive CpPack (prog : Program) (w : World) (A : Around) (env : Env) (elt : Expr) (xa xb : Str) (scope : Scope) (cl : List (Str × Addr)) (Fv : Nat → Value → Prop) (Q : Value → Shared → Prop) (it : Value) (s₂ : Shared) : Prop
  | mk (I : Addr) (fp wr : List Addr) (n : Nat) (Pt : Nat → Array Value → Prop) (St : Nat → Heap → Prop) (Mid : Nat → Addr → Heap → Prop) (e : it = .ref I) (W : WalksU prog w A I fp wr n Pt St Mid) (hn : n ≤ 1000) (hst : St 0 s₂.heap) (hfp : ∀ b ∈ fp, b < s₂.heap.objs.size)
      (hpair : ∀ i vals, i < n → Pt i vals → ∃ va vb, vals = #[va, vb])
      (leaf : ∀ C i va vb s₃ m₃ E', s₂.heap.objs.size ≤ C → i < n → Pt i #[va, vb] → s₃.heap.Ns C m₃ → m₃ xa = some va → m₃ xb = some vb → (∀ b o, b ∉ wr → s₂.heap.get? b = some o → s₃.heap.get? b = some o) →
        wpAny (model prog w) A (eval elt (compEnvC scope cl C env)) (fun y s₄ => Fv i y ∧ Keeps s₃ s₄) E' s₃)
      (hQ : ∀ D (ys : List Value) h' tk, s₂.heap.get? D = none → h'.IsList D ys.toArray → h'.PlainList D ys.toArray → ys.length = n → (∀ j y, ys[j]? = some y → Fv j y) → (∀ b o, b ∉ wr → s₂.heap.get? b = some o → h'.get? b = some o) → Q (.ref D) { s₂ with heap := h', toks := tk })
/-- what holds between its turns -/
inductive CpInv (s₂ : Shared) (wr : List Addr) (n : Nat) (St : Nat → Heap → Prop) (D C : Addr) (Fv : Nat → Value → Prop) (k : Nat) (s' : Shared) : Prop
  | mk (h : Heap) (tk : Nat) (m : Str → Option Value) (ys : List Value) (e : s' = { s₂ with heap := h, toks := tk }) (ek : k = n + 1 - ys.length) (hj : ys.length ≤ n) (hst : St ys.length h) (hpl : h.PlainList D ys.toArray) (hns : h.Ns C m) (hys : ∀ j y, ys[j]? = some y → Fv j y) (hk : ∀ b o, b ∉ wr → s₂.heap.get? b = some o → h.get? b = some o)
section
variable {prog : Program} {w : World} {A : Around} {E : Value → Shared → Prop} {env : Env}
theorem comp_pairsU {s : Shared} {elt iter : Expr} {xa xb : Str} {pa pb tp : Pos} {kt : Nat} {scope : Scope} {cl : List (Str × Addr)} {pos : Pos} {Q : Value → Shared → Prop} (Fv : Nat → Value → Prop)
    (hh : A.handled = none) (hclos : closureFor scope env = pure cl) (hcell : ∀ z ∈ scope.names, z.2 ≠ .cell) (hkind : scope.kind = .function)
    (hnames : ∀ z ∈ scope.names, z.2 = .local → scope.names.lookup z.1 = some .local) (hxa : scope.names.lookup xa = some .local) (hxb : scope.names.lookup xb = some .local) (hab : xa ≠ xb)
    (h : wpAny (model prog w) A (eval iter env) (fun xv s₁ => wpAny (model prog w) A (pyIter xv) (CpPack prog w A env elt xa xb scope cl Fv Q) E s₁) E s)
    (hs1 : ∀ x, foldedSetIterable iter env x = pure x) (hp0 : ∀ C, ((compEnvC scope cl C env).scope.kind == .class || ((compEnvC scope cl C env).scope.kind == .module && (compEnvC scope cl C env).locals != (compEnvC scope cl C env).globals)) = false) :
    wpAny (model prog w) A (eval (.ListComp elt [⟨.Tuple [.Name xa pa, .Name xb pb] kt tp, iter, [], 0⟩] scope pos) env) Q E s := by
  rw [eval_ListComp]
  refine wpAny_comprehension_free (use := none) rfl hs1 hclos hkind hnames (wpAny_mono h (fun xv s₁ h₁ => wpAny_mono h₁ (fun it s₂ h₂ => ?_) fun _ _ e => e) fun _ _ e => e)
  obtain ⟨I, fp, wr, n, Pt, St, Mid, rfl, W, hn, hst, hfp, hpair, leaf, hQ⟩ := h₂
  refine wpAny_newObj_type (wpAny_newFunctionEnv hcell (by intro y hy; simp at hy) (fun h₁ hns₁ hsb₁ => ?_) hkind)
  dsimp only at hns₁ hsb₁ ⊢
  generalize hH2 : s₂.heap.push { cls := .type "list", dict := none, data := .seq ([] : List Value).toArray } = H2 at hns₁ hsb₁ ⊢
  have hC0 : H2.objs.size = s₂.heap.objs.size + 1 := by rw [← hH2, Heap.size_push]
  generalize hDe : s₂.heap.objs.size = D at hC0 ⊢
  generalize hCe : H2.objs.size = C at hC0 hns₁ hsb₁ ⊢
  have hDC : D ≠ C := by (first | lia | omega)
  have hDle : s₂.heap.objs.size ≤ C := by (first | lia | omega)
  have below : ∀ b, b < s₂.heap.objs.size → b ≠ D ∧ b ≠ C := fun b hb => by
    rw [hDe] at hb
    exact ⟨Nat.ne_of_lt hb, Nat.ne_of_lt (by rw [hC0]; exact Nat.lt_succ_of_lt hb)⟩
  have hDf : D ∉ fp := fun hm => (below _ (hfp _ hm)).1 rfl
  have hCf : C ∉ fp := fun hm => (below _ (hfp _ hm)).2 rfl
  have hCw : C ∉ wr := fun hm => hCf (W.sub _ hm)
  have hDw : D ∉ wr := fun hm => hDf (W.sub _ hm)
  have up1 : ∀ b o, s₂.heap.get? b = some o → h₁.get? b = some o := fun b o e => hsb₁.extBut b o (below b (Heap.lt_size e)).2 (Heap.get?_push_of_some _ (by rw [← hH2]; exact Heap.get?_push_of_some _ e))
  have hacc : h₁.PlainList D #[] := ⟨_, hsb₁.extBut _ _ hDC (Heap.get?_push_of_some _ (by rw [← hH2, ← hDe]; exact Heap.get?_push_size _ rfl))⟩
  have hst₁ : St 0 h₁ := W.frame _ _ _ hst fun b _ o e => up1 b o e
  have hka : (compEnvC scope cl C env).kindOf xa = some .local := lookup_relabel_local hxa
  have hkb : (compEnvC scope cl C env).kindOf xb = some .local := lookup_relabel_local hxb
  have loop : ∀ s₃ : Shared, s₃ = { s₂ with heap := h₁, toks := s₂.toks + ([] : List (Str × Value)).length } →
      codeAny (model prog w) A (.compLoop (.ListComp elt [⟨.Tuple [.Name xa pa, .Name xb pb] kt tp, iter, [], 0⟩] scope pos) 0 (.ref I) (.ref D) (compEnvC scope cl C env)) (compPost (model prog w) A E none Q (.ref D) C) s₃ := by
    rintro s₃ rfl
    refine loopP (CpInv s₂ wr n St D C Fv) ?_ (n + 1)
      ⟨h₁, _, _, [], rfl, rfl, Nat.zero_le _, hst₁, hacc, hns₁, fun j y e => by simp at e, fun b o _ e => up1 b o e⟩
    rintro k s' ⟨h2, tk2, m2, ys, rfl, rfl, hj, hst2, hpl, hns, hys, hk⟩
    by_cases hlt : ys.length < n
    · refine W.item ys.length _ _ _ hlt hst2 fun T vals ha tka hPt hT hmid hka' => ?_
      replace hka' : ∀ b o, b ∉ wr → h2.get? b = some o → ha.get? b = some o := hka'
      refine W.go _ _ _ ys.length T _ _ _ hmid fun hb hstb hkb' => ?_
      replace hkb' : ∀ b o, b ∉ wr → ha.get? b = some o → hb.get? b = some o := hkb'
      obtain ⟨va, vb, rfl⟩ := hpair ys.length _ hlt hPt
      have hTb : hb.IsTuple T #[va, vb] := by
        obtain ⟨o, ho, r⟩ := hT
        exact ⟨o, hkb' T o (W.apart _ _ _ hmid) ho, r⟩
      refine wpAny_assign_Tuple hh hTb rfl rfl fun h3 hx3 => ?_
      replace hx3 : Heap.ExtBut hb.objs.size hb h3 := hx3
      have oldb : ∀ b o, hb.get? b = some o → h3.get? b = some o := fun b o e => hx3 b o (Nat.ne_of_lt (Heap.lt_size e)) e
      have k23 : ∀ b o, b ∉ wr → h2.get? b = some o → h3.get? b = some o := fun b o hw e => oldb b o (hkb' b o hw (hka' b o hw e))
      have hst3 : St (ys.length + 1) h3 := W.frame _ _ _ hstb fun b _ o e => oldb b o e
      show wpAny _ A (do holding [vb] (assign (.Name xa pa) (compEnvC scope cl C env) va); do holding [] (assign (.Name xb pb) (compEnvC scope cl C env) vb); pure ()) _ _ _
      refine wpAny_bind (wpAny_holding (wpAny_assign_Name (wpAny_storeName_local hka (hns.at' fun o e => k23 _ o hCw e) (fun h4 hn4 hs4 => ?_) (hp0 C))))
      refine wpAny_bind (wpAny_holding (wpAny_assign_Name (wpAny_storeName_local hkb hn4 (fun h5 hn5 hs5 => wpAny_pure ?_) (hp0 C))))
      have k35 : ∀ b o, b ≠ C → h3.get? b = some o → h5.get? b = some o := fun b o hb e => hs5.extBut b o hb (hs4.extBut b o hb e)
      have hst5 : St (ys.length + 1) h5 := W.frame _ _ _ hst3 fun b hb o e => k35 b o (fun q => hCf (q ▸ hb)) e
      have k5 : ∀ b o, b ∉ wr → s₂.heap.get? b = some o → h5.get? b = some o := fun b o hw e => k35 b o (below b (Heap.lt_size e)).2 (k23 b o hw (hk b o hw e))
      refine wpAny_mono (leaf C ys.length va vb _ _ _ hDle hlt hPt hn5 (by simp [hab]) (by simp) k5) (fun y s6 h6 => ?_) fun _ _ e => e
      obtain ⟨hF, H6, tk6, rfl, hk6⟩ := h6
      have pl6 : H6.PlainList D ys.toArray := hpl.at fun o e => hk6 _ _ (k35 _ _ hDC (k23 _ _ hDw e))
      refine wpAny_list_append_plain (hsz := by rw [List.size_toArray, sizeLine_eq]; (first | lia | omega)) pl6 fun H7 hl7 hs7 => ?_
      refine ⟨n + 1 - (ys.length + 1), by (first | lia | omega), H7, tk6, _, ys ++ [y], rfl, by simp, by simp; (first | lia | omega), ?_, by simpa using hl7, (hn5.keeps hk6).sameBut hs7 (Ne.symm hDC), ?_, fun b o hw e => hs7.extBut b o (below b (Heap.lt_size e)).1 (hk6 b o (k5 b o hw e))⟩
      · have := W.frame _ _ H7 hst5 fun b hb o e => hs7.extBut b o (fun q => hDf (q ▸ hb)) (hk6 b o e)
        simpa using this
      · intro j u hj'
        rcases Nat.lt_trichotomy j ys.length with h | h | h
        · exact hys j u (by rwa [List.getElem?_append_left h] at hj')
        · subst h; simp at hj'; subst hj'; exact hF
        · have hnone : (ys ++ [y])[j]? = none := List.getElem?_eq_none (by rw [List.length_append, List.length_singleton]; (first | lia | omega))
          rw [hnone] at hj'; cases hj'
    · have hin : ys.length = n := by (first | lia | omega)
      refine W.done _ _ _ (hin ▸ hst2) fun h3 tk3 hk3 => ?_
      replace hk3 : ∀ b o, b ∉ wr → h2.get? b = some o → h3.get? b = some o := hk3
      have pl3 : h3.PlainList D ys.toArray := hpl.at fun o e => hk3 _ _ hDw e
      refine ⟨m2, hns.at' fun o e => hk3 _ _ hCw e, fun h' hs' => hQ D ys h' tk3 ?_ (pl3.isList.extBut hs'.extBut hDC) (pl3.extBut hs'.extBut hDC) hin hys fun b o hw e => hs'.extBut b o (below b (Heap.lt_size e)).2 (hk3 b o hw (hk b o hw e))⟩
      cases e : s₂.heap.get? D with
      | none => rfl
      | some o => exact absurd rfl (below _ (Heap.lt_size e)).1
  exact codeAny_compStart_list (loop _ rfl) (W.self 0 _ _ _ hst₁ (loop _ rfl))
theorem pairs_pack {s : Shared} {elt : Expr} {xa xb : Str} {scope : Scope} {cl : List (Str × Addr)} {Q : Value → Shared → Prop} {Fv : Nat → Value → Prop} {l : Addr} {items : Array Value} (Ts : Nat → Addr) (va vb : Nat → Value)
    (hh : A.handled = none) (hl : s.heap.IsList l items) (hit : ∀ j, j < items.size → items[j]? = some (.ref (Ts j))) (htup : ∀ j, j < items.size → s.heap.IsTuple (Ts j) #[va j, vb j]) (hn : items.size ≤ 1000)
    (leaf : ∀ C i s₃ m₃ E', i < items.size → s₃.heap.Ns C m₃ → m₃ xa = some (va i) → m₃ xb = some (vb i) → wpAny (model prog w) A (eval elt (compEnvC scope cl C env)) (fun y s₄ => Fv i y ∧ Keeps s₃ s₄) E' s₃)
    (hQ : ∀ D (ys : List Value) h' tk, s.heap.get? D = none → h'.PlainList D ys.toArray → ys.length = items.size → (∀ j y, ys[j]? = some y → Fv j y) → (∀ b o, s.heap.get? b = some o → h'.get? b = some o) → Q (.ref D) { s with heap := h', toks := tk }) :
    wpAny (model prog w) A (pyIter (.ref l)) (CpPack prog w A env elt xa xb scope cl Fv Q) E s := by
  refine wpAny_pyIter_list hl ?_
  have hk : ∀ b o, s.heap.get? b = some o → (s.heap.push { cls := .type "list_iterator", data := .fields #[.ref l, .int 0 0] }).get? b = some o := fun b o e => Heap.get?_push_of_some _ e
  have hsz : (s.heap.push { cls := .type "list_iterator", data := .fields #[.ref l, .int 0 0] }).objs.size = s.heap.objs.size + 1 := Heap.size_push ..
  obtain ⟨ol, hol, hcl⟩ := hl
  have hll : l < s.heap.objs.size := Heap.lt_size hol
  have hTl : ∀ j, j < items.size → Ts j < s.heap.objs.size := fun j hj => by
    obtain ⟨o, ho, _⟩ := htup j hj
    exact Heap.lt_size ho
  have nw : ∀ b o, s.heap.get? b = some o → b ∉ [s.heap.objs.size] := fun b o e hm => by
    rw [List.mem_singleton.mp hm] at e
    exact absurd (Heap.lt_size e) (Nat.lt_irrefl _)
  refine ⟨s.heap.objs.size, _, _, items.size, _, _, _, rfl, WalksU.listOfTuples hh _ l (Nat.ne_of_lt hll) items Ts (fun j => #[va j, vb j]) hit fun j hj => Nat.ne_of_lt (hTl j hj), hn, ⟨⟨_, Heap.get?_push_size _ rfl, rfl, rfl⟩, ⟨ol, hk _ _ hol, hcl⟩, fun j hj => (htup j hj).at fun o e => hk _ _ e⟩, ?_, fun i vals _ e => ⟨_, _, e⟩, ?_, ?_⟩
  · intro b hb
    show b < (s.heap.push _).objs.size
    rw [hsz]
    rcases List.mem_cons.mp hb with rfl | hb
    · exact Nat.lt_succ_self _
    · rcases List.mem_cons.mp hb with rfl | hb
      · exact Nat.lt_succ_of_lt hll
      · obtain ⟨j, hj, rfl⟩ := List.mem_map.mp hb
        exact Nat.lt_succ_of_lt (hTl j (List.mem_range.mp hj))
  · intro C i a b s₃ m₃ E' _ hi e hns ha hb _
    simp only [Array.mk.injEq, List.cons.injEq, and_true] at e
    obtain ⟨rfl, rfl⟩ := e
    exact leaf C i s₃ m₃ E' hi hns ha hb
  · intro D ys h' tk hD _ hpl hlen hys hkk
    refine hQ D ys h' tk ?_ hpl hlen hys fun b o e => hkk b o (nw b o e) (hk b o e)
    cases e : s.heap.get? D with
    | none => rfl
    | some o => exact absurd (hD.symm.trans (hk _ _ e)) (fun q => nomatch q)
end
end Mine
end

section
-- West
example : True := by w_top off; trivial
set_option maxRecDepth 100000
namespace Mine
section
variable {α β : Type}
/-- what comes off a pile (its top first) when rows come: each row takes off all on top that are not greater, and is laid on it -/
noncomputable def passA (le : α → α → Bool) : List α → List α → List α
  | P, [] => P
  | P, x :: xs => P.takeWhile (fun t => le t x) ++ passA le (x :: P.dropWhile (fun t => le t x)) xs
noncomputable abbrev passed (le : α → α → Bool) (l : List α) : List α := passA le [] l
theorem passA_perm (le : α → α → Bool) : ∀ (l P : List α), (passA le P l).Perm (P ++ l)
  | [], P => by simp [passA]
  | x :: xs, P => by
    rw [passA]
    refine ((passA_perm le xs _).append_left _).trans ?_
    have e : P = P.takeWhile (fun t => le t x) ++ P.dropWhile (fun t => le t x) := (List.takeWhile_append_dropWhile).symm
    conv => rhs; rw [e]
    rw [List.append_assoc]
    refine List.Perm.append_left _ ?_
    exact List.perm_middle.symm
theorem passed_perm (le : α → α → Bool) (l : List α) : (passed le l).Perm l := passA_perm le l []
theorem passA_map {le : α → α → Bool} {le' : β → β → Bool} {f : α → β} : ∀ (l P : List α), (∀ t ∈ P, ∀ x ∈ l, le' (f t) (f x) = le t x) → l.Pairwise (fun t x => le' (f t) (f x) = le t x) → passA le' (P.map f) (l.map f) = (passA le P l).map f
  | [], P, _, _ => by simp [passA]
  | x :: xs, P, h1, h2 => by
    rw [List.map_cons, passA, passA, List.map_append]
    have hx : ∀ t ∈ P, le' (f t) (f x) = le t x := fun t ht => h1 t ht x (.head _)
    have e1 : ∀ P : List α, (∀ t ∈ P, le' (f t) (f x) = le t x) → (P.map f).takeWhile (fun t => le' t (f x)) = (P.takeWhile fun t => le t x).map f ∧ (P.map f).dropWhile (fun t => le' t (f x)) = (P.dropWhile fun t => le t x).map f := by
      intro P
      induction P with
      | nil => intro _; exact ⟨rfl, rfl⟩
      | cons a P ih =>
        intro h
        have ha := h a (.head _)
        have ⟨i1, i2⟩ := ih fun t ht => h t (.tail _ ht)
        cases hb : le a x with
        | true => simp [List.takeWhile_cons, List.dropWhile_cons, ha, hb, i1, i2]
        | false => simp [List.takeWhile_cons, List.dropWhile_cons, ha, hb]
    obtain ⟨e1, e2⟩ := e1 P hx
    rw [e1, e2]
    congr 1
    rw [← List.map_cons]
    have ⟨p1, p2⟩ := List.pairwise_cons.mp h2
    refine passA_map xs _ ?_ p2
    intro t ht y hy
    rcases List.mem_cons.mp ht with rfl | ht
    · exact p1 y hy
    · exact h1 t ((List.dropWhile_sublist _).subset ht) y (.tail _ hy)
theorem passA_congr {le le' : α → α → Bool} {l P : List α} (h1 : ∀ t ∈ P, ∀ x ∈ l, le' t x = le t x) (h2 : l.Pairwise (fun t x => le' t x = le t x)) : passA le' P l = passA le P l := by
  have := passA_map (f := fun x : α => x) (le := le) (le' := le') l P h1 h2
  simpa using this
theorem passA_ahead {le : α → α → Bool} {x : α} {R : List α} : ∀ (L P : List α), (∀ t ∈ P, le t x = true) → (∀ t ∈ L, le t x = true) → passA le P (L ++ x :: R) = passA le P L ++ passA le [x] R
  | [], P, hP, _ => by
    rw [List.nil_append, passA, passA]
    have e1 : P.takeWhile (fun t => le t x) = P := by
      induction P with
      | nil => rfl
      | cons a P ih => rw [List.takeWhile_cons, hP a (.head _), if_pos rfl, ih fun t ht => hP t (.tail _ ht)]
    have e2 : P.dropWhile (fun t => le t x) = [] := by
      have := List.takeWhile_append_dropWhile (p := fun t => le t x) (l := P)
      rw [e1] at this
      simpa using this
    rw [e1, e2]
  | y :: L, P, hP, hL => by
    rw [List.cons_append, passA, passA, List.append_assoc]
    congr 1
    refine passA_ahead L _ ?_ fun t ht => hL t (.tail _ ht)
    intro t ht
    rcases List.mem_cons.mp ht with rfl | ht
    · exact hL _ (.head _)
    · exact hP t ((List.dropWhile_sublist _).subset ht)
theorem passA_behind {le : α → α → Bool} {x : α} : ∀ (R P : List α), (∀ t ∈ R, le x t = false) → passA le (P ++ [x]) R = passA le P R ++ [x]
  | [], P, _ => by simp [passA]
  | y :: R, P, h => by
    have hy := h y (.head _)
    have e : ∀ P : List α, (P ++ [x]).takeWhile (fun t => le t y) = P.takeWhile (fun t => le t y) ∧ (P ++ [x]).dropWhile (fun t => le t y) = P.dropWhile (fun t => le t y) ++ [x] := by
      intro P
      induction P with
      | nil => simp [List.takeWhile_cons, List.dropWhile_cons, hy]
      | cons a P ih =>
        cases hb : le a y with
        | true => simp [List.takeWhile_cons, List.dropWhile_cons, hb, ih]
        | false => simp [List.takeWhile_cons, List.dropWhile_cons, hb]
    obtain ⟨e1, e2⟩ := e P
    rw [passA, passA, e1, e2, List.append_assoc, ← List.cons_append]
    congr 1
    exact passA_behind R _ fun t ht => h t (.tail _ ht)
/-- the pile tells the tree of the greatest ones from below -/
theorem passed_split {le : α → α → Bool} {x : α} {L R : List α} (hL : ∀ t ∈ L, le t x = true) (hR : ∀ t ∈ R, le x t = false) : passed le (L ++ x :: R) = passed le L ++ (passed le R ++ [x]) := by
  unfold passed
  rw [passA_ahead L [] (fun _ h => nomatch h) hL]
  congr 1
  exact passA_behind R [] hR
/-- like ones keep their order in a pass -/
theorem passA_like {r : α → Int} {lt : α → α → Prop} : ∀ (l P : List α), P.Pairwise (fun a b => r a < r b) → (∀ t ∈ P, ∀ x ∈ l, r t = r x → lt t x) → l.Pairwise (fun t x => r t = r x → lt t x) → (passA (fun t x => decide (r t ≤ r x)) P l).Pairwise (fun t x => r t = r x → lt t x)
  | [], P, h1, _, _ => by
    rw [passA]
    exact h1.imp fun h e => by (first | lia | omega)
  | x :: xs, P, h1, h2, h3 => by
    rw [passA]
    have ⟨p1, p2⟩ := List.pairwise_cons.mp h3
    have big : ∀ P : List α, P.Pairwise (fun a b => r a < r b) → ∀ z ∈ P.dropWhile (fun t => decide (r t ≤ r x)), r x < r z := by
      intro P
      induction P with
      | nil => intro _ z hz; cases hz
      | cons a P ih =>
        intro hp z hz
        have ⟨q1, q2⟩ := List.pairwise_cons.mp hp
        by_cases hb : r a ≤ r x
        · rw [List.dropWhile_cons, if_pos (by simpa using hb)] at hz
          exact ih q2 z hz
        · rw [List.dropWhile_cons, if_neg (by simpa using hb)] at hz
          rcases List.mem_cons.mp hz with rfl | hz
          · (first | lia | omega)
          · have := q1 z hz
            (first | lia | omega)
    have hbig := big P h1
    have small : ∀ t ∈ P.takeWhile (fun t => decide (r t ≤ r x)), r t ≤ r x ∧ t ∈ P := fun t ht => ⟨by simpa using List.all_eq_true.mp (List.all_takeWhile (p := fun t => decide (r t ≤ r x))) t ht, (List.takeWhile_sublist _).subset ht⟩
    refine List.pairwise_append.mpr ⟨(h1.sublist (List.takeWhile_sublist _)).imp fun h e => by (first | lia | omega), ?_, ?_⟩
    · refine passA_like xs _ (List.pairwise_cons.mpr ⟨hbig, h1.sublist (List.dropWhile_sublist _)⟩) ?_ p2
      intro t ht y hy
      rcases List.mem_cons.mp ht with rfl | ht
      · exact p1 y hy
      · exact h2 t ((List.dropWhile_sublist _).subset ht) y (.tail _ hy)
    · intro t ht z hz e
      obtain ⟨s1, s2⟩ := small t ht
      rcases List.mem_append.mp ((passA_perm _ _ _).mem_iff.mp hz) with hz | hz
      · rcases List.mem_cons.mp hz with rfl | hz
        · exact h2 t s2 z (.head _) e
        · have := hbig z hz
          (first | lia | omega)
      · exact h2 t s2 z (.tail _ hz) e
end
/-- three of which the last is the least and the middle one the greatest -/
noncomputable def Three (k : Nat → Int) (n : Nat) : Prop := ∃ c, c < n ∧ ∃ b, b < c ∧ ∃ a, a < b ∧ k c < k a ∧ k a < k b
noncomputable def Four (k : Nat → Int) (n : Nat) : Prop := ∃ d, d < n ∧ ∃ c, c < d ∧ ∃ b, b < c ∧ ∃ a, a < b ∧ (k d < k a ∧ k d < k b) ∧ (k a < k c ∧ k b < k c) ∧ (k a < k b ∨ ∀ i, a ≤ i → i < b → k i < k c)
noncomputable def lessB (kl : List Nat) (a b : Nat) : Bool := Nat.blt (kl.getD a 0) (kl.getD b 0)
noncomputable def threeB (kl : List Nat) (n : Nat) : Bool := (List.range n).any fun c => (List.range c).any fun b => (List.range b).any fun a => lessB kl c a && lessB kl a b
noncomputable def fourB (kl : List Nat) (n : Nat) : Bool := (List.range n).any fun d => (List.range d).any fun c => (List.range c).any fun b => (List.range b).any fun a =>
  lessB kl d a && lessB kl d b && (lessB kl a c && lessB kl b c) && (lessB kl a b || (List.range b).all fun i => Nat.blt i a || lessB kl i c)
theorem lessB_iff {kl : List Nat} {k : Nat → Int} (hk : ∀ i, k i = (kl.getD i 0 : Nat)) {a b : Nat} : lessB kl a b = true ↔ k a < k b := by
  unfold lessB
  rw [Nat.blt_eq, hk, hk]; (first | lia | omega)
theorem threeB_iff {kl : List Nat} {k : Nat → Int} (hk : ∀ i, k i = (kl.getD i 0 : Nat)) {n : Nat} : threeB kl n = true ↔ Three k n := by
  unfold threeB Three
  simp only [List.any_eq_true, List.mem_range, Bool.and_eq_true, lessB_iff hk]
theorem fourB_iff {kl : List Nat} {k : Nat → Int} (hk : ∀ i, k i = (kl.getD i 0 : Nat)) {n : Nat} : fourB kl n = true ↔ Four k n := by
  unfold fourB Four
  simp only [List.any_eq_true, List.all_eq_true, List.mem_range, Bool.and_eq_true, Bool.or_eq_true, Nat.blt_eq, lessB_iff hk]
  constructor
  · rintro ⟨d, hd, c, hc, b, hb, a, ha, ⟨h1, h2⟩, h3⟩
    refine ⟨d, hd, c, hc, b, hb, a, ha, h1, h2, h3.imp id fun h i h1 h2 => ?_⟩
    rcases h i h2 with h | h
    · (first | lia | omega)
    · exact h
  · rintro ⟨d, hd, c, hc, b, hb, a, ha, h1, h2, h3⟩
    refine ⟨d, hd, c, hc, b, hb, a, ha, ⟨h1, h2⟩, h3.imp id fun h i hi => ?_⟩
    by_cases hx : i < a
    · exact .inl hx
    · exact .inr (h i (by (first | lia | omega)) hi)
/-- a pass by the keys -/
noncomputable def keyLe (kl : List Nat) (t x : Nat) : Bool := Nat.ble (kl.getD t 0) (kl.getD x 0)
noncomputable def okWest (n : Nat) (ord : List Nat) : Bool :=
  let kl := (List.range n).map fun j => ord.idxOf j
  let one := passed (keyLe kl) (List.range n)
  ((one == ord) == !threeB kl n) && ((passed (keyLe kl) one == ord) == !fourB kl n)
theorem west5 : (permsOf (List.range 5)).all (okWest 5) = true := by decide +kernel
theorem west6 : (permsOf (List.range 6)).all (okWest 6) = true := by decide +kernel
/-- the order: by the ranks, like ones by their places -/
theorem west_keys {n : Nat} {r : Nat → Int} {ord : List Nat} (hn : n = 5 ∨ n = 6) (hp : ord.Perm (List.range n)) (hs : ord.Pairwise (fun i j => r i < r j ∨ r i = r j ∧ i < j)) {k : Nat → Int} (hk : ∀ i, i < n → k i = (ord.idxOf i : Nat)) :
    (passed (fun t x => decide (r t ≤ r x)) (List.range n) = ord ↔ ¬ Three k n) ∧ (passed (fun t x => decide (r t ≤ r x)) (passed (fun t x => decide (r t ≤ r x)) (List.range n)) = ord ↔ ¬ Four k n) := by
  have hnd : ord.Nodup := hp.nodup_iff.mpr List.nodup_range
  have hlen : ord.length = n := by rw [hp.length_eq, List.length_range]
  have hin : ∀ i, i < n → i ∈ ord := fun i hi => hp.mem_iff.mpr (List.mem_range.mpr hi)
  have hget : ∀ i (hi : i < n), ord[ord.idxOf i]? = some i := fun i hi => by
    have h := List.idxOf_lt_length_iff.mpr (hin i hi)
    rw [List.getElem?_eq_getElem h, List.getElem_idxOf h]
  have hlt : ∀ i j, i < n → j < n → ord.idxOf i < ord.idxOf j → r i < r j ∨ r i = r j ∧ i < j := fun i j hi hj h => by
    have h1 := List.idxOf_lt_length_iff.mpr (hin i hi)
    have h2 := List.idxOf_lt_length_iff.mpr (hin j hj)
    have := List.pairwise_iff_getElem.mp hs _ _ h1 h2 h
    rwa [List.getElem_idxOf h1, List.getElem_idxOf h2] at this
  have hne : ∀ i j, i < n → j < n → ord.idxOf i = ord.idxOf j → i = j := fun i j hi hj h => by
    have h1 := hget i hi
    rw [h, hget j hj] at h1
    exact (Option.some.inj h1).symm
  have hle : ∀ i j, i < n → j < n → (r i = r j → i < j) → keyLe ((List.range n).map fun j => ord.idxOf j) i j = decide (r i ≤ r j) := fun i j hi hj h => by
    unfold keyLe
    rw [Bool.eq_iff_iff, Nat.ble_eq, decide_eq_true_eq]
    have e1 : ((List.range n).map fun j => ord.idxOf j).getD i 0 = ord.idxOf i := by simp [List.getD, hi]
    have e2 : ((List.range n).map fun j => ord.idxOf j).getD j 0 = ord.idxOf j := by simp [List.getD, hj]
    rw [e1, e2]
    rcases Nat.lt_trichotomy (ord.idxOf i) (ord.idxOf j) with q | q | q
    · have := hlt i j hi hj q
      (first | lia | omega)
    · have := hne i j hi hj q
      subst this
      (first | lia | omega)
    · have := hlt j i hj hi q
      (first | lia | omega)
  have hk' : ∀ i, (if i < n then k i else 0) = (((List.range n).map fun j => ord.idxOf j).getD i 0 : Nat) := fun i => by
    by_cases hi : i < n
    · rw [if_pos hi, hk i hi]; simp [List.getD, hi]
    · rw [if_neg hi]; simp [List.getD, hi]
  have e3 : Three k n ↔ Three (fun i => if i < n then k i else 0) n := by
    unfold Three
    constructor
    all_goals
      rintro ⟨c, hc, b, hb, a, ha, h⟩
      have h1 : b < n := by (first | lia | omega)
      have h2 : a < n := by (first | lia | omega)
      refine ⟨c, hc, b, hb, a, ha, ?_⟩
      simpa [hc, h1, h2] using h
  have e4 : Four k n ↔ Four (fun i => if i < n then k i else 0) n := by
    unfold Four
    constructor
    all_goals
      rintro ⟨d, hd, c, hc, b, hb, a, ha, h1, h2, h3⟩
      have hc' : c < n := by (first | lia | omega)
      have hb' : b < n := by (first | lia | omega)
      have ha' : a < n := by (first | lia | omega)
      refine ⟨d, hd, c, hc, b, hb, a, ha, by simpa [hd, hc', hb', ha'] using h1, by simpa [hd, hc', hb', ha'] using h2, ?_⟩
      rcases h3 with h3 | h3
      · exact .inl (by simpa [hd, hc', hb', ha'] using h3)
      · refine .inr fun i hi1 hi2 => ?_
        have hi : i < n := by (first | lia | omega)
        simpa [hi, hc'] using h3 i hi1 hi2
  have hok : okWest n ord = true := by
    have hm := mem_permsOf _ hp
    rcases hn with rfl | rfl
    · exact List.all_eq_true.mp west5 _ hm
    · exact List.all_eq_true.mp west6 _ hm
  have hone : passed (fun t x => decide (r t ≤ r x)) (List.range n) = passed (keyLe ((List.range n).map fun j => ord.idxOf j)) (List.range n) := by
    refine (passA_congr (fun _ h => absurd h List.not_mem_nil) ?_).symm
    exact (List.pairwise_lt_range).imp_of_mem fun h1 h2 h => hle _ _ (List.mem_range.mp h1) (List.mem_range.mp h2) fun _ => h
  have htwo : passed (fun t x => decide (r t ≤ r x)) (passed (fun t x => decide (r t ≤ r x)) (List.range n)) = passed (keyLe ((List.range n).map fun j => ord.idxOf j)) (passed (fun t x => decide (r t ≤ r x)) (List.range n)) := by
    refine (passA_congr (fun _ h => absurd h List.not_mem_nil) ?_).symm
    have hm : ∀ i ∈ passed (fun t x => decide (r t ≤ r x)) (List.range n), i < n := fun i hi => List.mem_range.mp ((passed_perm _ _).mem_iff.mp hi)
    refine (passA_like (r := r) (lt := fun a b : Nat => a < b) (List.range n) [] .nil (fun _ h => absurd h List.not_mem_nil) ((List.pairwise_lt_range (n := n)).imp (S := fun t x => r t = r x → t < x) fun h _ => h)).imp_of_mem fun h1 h2 h => hle _ _ (hm _ h1) (hm _ h2) h
  rw [htwo, hone, e3, e4, ← threeB_iff hk', ← fourB_iff hk']
  unfold okWest at hok
  simp only [Bool.and_eq_true, beq_iff_eq] at hok
  obtain ⟨h1, h2⟩ := hok
  constructor
  · rw [← beq_iff_eq, h1]; simp
  · rw [← beq_iff_eq, h2]; simp
end Mine
end

section
-- PasI
example : True := by w_top off; trivial
open PySem PySem.W PyProof.Rows PySem.Calls PySem.Spec
set_option maxRecDepth 100000
namespace Mine
section
variable {w : World} {p : Program} {loose : List Str} {mean : ExcName → Option Value} {mg mb : Str → Option Value} {G : Heap} {s : Shared} {Q E : Value → Shared → Prop} {R : Result → Shared → Prop}
set_option maxHeartbeats 1000000
theorem c_init0 {x d : Addr} {n : Nat} (D : Gd w p loose mean mg mb G) (St : G.StaysIn s.heap) (hx : s.heap.get? x = some (acObj d #[] n)) (hd' : s.heap.get? d = some (dictOf [] 0)) (hxG : G.get? x = none) (hdG : G.get? d = none)
    (hret : ∀ h' tk' n' hs0 t0 ti, (∀ b o, s.heap.get? b = some o → b ≠ x → b ≠ d → h'.get? b = some o) → h'.get? x = some (acObj d #[] n') → h'.get? d = some (acDict hs0 t0 (.int 0 ti) 1) → R (.ok (.ret .none)) { s with heap := h', toks := tk' }) :
    codeAny (model Challenge.rw_oc0165_02.row.prog w) (Am 800 600) (.call (.ref 115) ⟨[.ref x], []⟩) R s := by
  have fill : (hd.heap_1 w.params).In G ∧ wpAny (model Challenge.rw_oc0165_02.row.prog w) (Am 0 0) (pure ()) (fun _ _ => True) (fun _ _ => True) s := ⟨D.X, wpAny_pure trivial⟩
  revert fill
  k_fill
  intro _
  refine' c_initG (rest := []) (i := 0) (FdIs.of ?h) ?e D St hx hd' hxG hdG fun h' tk' n' hs0 t0 => hret h' tk' n' hs0 t0 _
  case h => k_is
  case e => first | exact BindsTo.of_eq rfl | (refine' binds_K (D.X.keeps St) ?b1 ?b2 ?b3 ?b4 ?b5; (case b1 => exact rfl); (case b2 => k_is); (case b3 => exact rfl); (case b4 => exact rfl); (case b5 => exact rfl))
theorem c_popfrom0 {x d : Addr} {ps : Array Value} {n : Nat} {hs0 : Int} {t0 : Tok} {v0 : Value} {n0 : Nat} {Q E : Value → Shared → Prop} (D : Gd w p loose mean mg mb G) (St : G.StaysIn s.heap) (hx : s.heap.get? x = some (acObj d ps n)) (hd' : s.heap.get? d = some (acDict hs0 t0 v0 n0)) (hxG : G.get? x = none)
    (hz : ps.size ≤ 1000)
    (hret : ∀ h' tk' n' R, (∀ b o, s.heap.get? b = some o → b ≠ x → h'.get? b = some o) → s.heap.get? R = none → h'.get? R = some (listOf ps 0) → h'.get? x = some (acObj d #[] n') → Q (.ref R) { s with heap := h', toks := tk' }) :
    wpAny (model Challenge.rw_oc0165_02.row.prog w) (Am 800 600) (call (.ref 130) [.ref x]) Q E s := by
  have fill : (hd.heap_1 w.params).In G := D.X
  revert fill
  k_fill
  intro _
  refine' c_popfromG (rest := []) (i := 0) (FdIs.of ?h) ?e D St hx hd' hxG hz (Int.le_refl 0) (Int.natCast_nonneg _) fun h' tk' n' R => hret h' tk' n' R
  case h => k_is
  case e => first | exact BindsTo.of_eq rfl | (refine' binds_K (D.X.keeps St) ?b1 ?b2 ?b3 ?b4 ?b5; (case b1 => exact rfl); (case b2 => k_is); (case b3 => exact rfl); (case b4 => exact rfl); (case b5 => exact rfl))
end
section
variable {w : World} {p : Program} {loose : List Str} {mean : ExcName → Option Value} {mg mb : Str → Option Value} {G g : Heap} {L : Addr} {m : Str → Option Value} {nw : List (Addr × Obj)} {A : Around} {s : Shared} {Q E : Value → Shared → Prop}
theorem nl_args1 {a : Value} : argsOk "list.__new__" ⟨[a], []⟩ := by unfold argsOk; kernel_rfl
theorem u_make0 (F : Fr g L s.heap m) (N : News g L s.heap nw) (X : (hd.heap_1 w.params).In g) (D : Gd w p loose mean mg mb G) (hs : G.StaysIn g) (hh : A.handled = none) (hdp : A.depth ≤ 700) (hu : A.units ≤ 500)
    (k : ∀ h' tk' x d n' hs0 t0 ti, Fr g L h' m → News g L h' ((x, acObj d #[] n') :: (d, acDict hs0 t0 (.int 0 ti) 1) :: nw) → (∀ q ∈ nw, q.1 < d) → d < x → Q (.ref x) { s with heap := h', toks := tk' }) :
    wpAny (model Challenge.rw_oc0165_02.row.prog w) A (call (.ref 178) []) Q E s := by
  obtain ⟨hp, gs, dr, tk, os⟩ := s
  refine wpAny_call (make_coreL nl_args1 (makesL_of (X.keeps F.keep) k_makes) (looks_findIn (X.keeps F.keep) k_init) (fun self => bind_fn (X.keeps F.keep) self k_init_fn) ?_)
  have kk : ∀ b o, hp.get? b = some o → ((hp.push emptyDict).push (instL 178 hp.objs.size)).get? b = some o := fun b o e => Heap.get?_push_of_some _ (Heap.get?_push_of_some _ e)
  have hx : ((hp.push emptyDict).push (instL 178 hp.objs.size)).get? (hp.objs.size + 1) = some (instL 178 hp.objs.size) := by heap_get
  have hd0 : ((hp.push emptyDict).push (instL 178 hp.objs.size)).get? hp.objs.size = some emptyDict := by heap_get
  have hG : ∀ b, hp.objs.size ≤ b → G.get? b = none := fun b hb => by
    cases e : G.get? b with
    | none => rfl
    | some o => exact absurd (Heap.lt_size (F.keep _ _ (hs b o e))) (Nat.not_lt.mpr hb)
  refine code_up (D := 800) (U := 600) ?_ ?_ ?_ (c_init0 (n := 0) D (fun b o e => kk _ _ (F.keep _ _ (hs b o e))) hx hd0 (hG _ (Nat.le_succ _)) (hG _ (Nat.le_refl _)) ?_)
  · exact hh
  · show A.depth + (Code.builtin "type.__call__" ⟨[.ref 178], []⟩).weight ≤ 800
    have : (Code.builtin "type.__call__" ⟨[.ref 178], []⟩).weight ≤ 50 := Nat.le_of_ble_eq_true (by kernel_rfl)
    (first | lia | omega)
  · show A.units + (Code.builtin "type.__call__" ⟨[.ref 178], []⟩).cUnits ≤ 600
    have : (Code.builtin "type.__call__" ⟨[.ref 178], []⟩).cUnits ≤ 50 := Nat.le_of_ble_eq_true (by kernel_rfl)
    (first | lia | omega)
  · intro h' tk' n' hs0 t0 ti hk hx' hd'
    refine ⟨rfl, ?_⟩
    have up : ∀ b o, hp.get? b = some o → h'.get? b = some o := fun b o e => hk b o (kk b o e) (Nat.ne_of_lt (Nat.lt_succ_of_lt (Heap.lt_size e))) (Nat.ne_of_lt (Heap.lt_size e))
    have hn1 : hp.get? (hp.objs.size + 1) = none := by
      cases e : hp.get? (hp.objs.size + 1) with
      | none => rfl
      | some o => exact absurd (Heap.lt_size e) (Nat.not_lt.mpr (Nat.le_succ _))
    have hn0 : hp.get? hp.objs.size = none := by
      cases e : hp.get? hp.objs.size with
      | none => rfl
      | some o => exact absurd (Heap.lt_size e) (Nat.lt_irrefl _)
    exact k h' tk' (hp.objs.size + 1) hp.objs.size n' hs0 t0 ti (frK F up) (news_more (news_more (newsK N up) F hn0 hd') F hn1 hx') (fun q hq => Heap.lt_size (N q hq).1) (Nat.lt_succ_self _)
end
section
variable {w : World} {p : Program} {loose : List Str} {mean : ExcName → Option Value} {mg mb : Str → Option Value} {G : Heap} {s : Shared} {Q E : Value → Shared → Prop}
set_option maxHeartbeats 8000000
/-- pop, where nothing is there -/
theorem c_pop0 {x d : Addr} {n : Nat} {hs0 : Int} {t0 : Tok} {v0 : Value} {n0 : Nat} (D : Gd w p loose mean mg mb G) (St : G.StaysIn s.heap) (hx : s.heap.get? x = some (acObj d #[] n)) (hd' : s.heap.get? d = some (acDict hs0 t0 v0 n0))
    (hret : ∀ h' tk' T t1 t2, (∀ b o, s.heap.get? b = some o → h'.get? b = some o) → s.heap.get? T = none → h'.get? T = some { cls := .type "tuple", data := .seq #[.str (Str.ofString "") t1, .str (Str.ofString "") t2] } → Q (.ref T) { s with heap := h', toks := tk' }) :
    wpAny (model Challenge.rw_oc0165_02.row.prog w) (Am 800 600) (call (.ref 138) [.ref x]) Q E s := by
  have fill : (hd.heap_1 w.params).In G := D.X
  revert fill
  k_fill
  intro _
  refine wpAny_call ?_
  refine' enterS (binds := [("self", .ref x)]) [] D St ?k3 ?k4 ?k6 ?k7 ?k8 ?k9 ?kB ?c5 ?c2 ?c3 ?c4 ?_
  case k3 => exact fun _ q => nomatch q
  case k4 => exact fun _ q => nomatch q
  (case k6 => k_is); (case k7 => k_is); (case k8 => decide); (case k9 => exact BindsTo.of_eq rfl); (case kB => exact locs rfl); (case c5 => decide); (case c2 => exact rfl); (case c3 => exact rfl); (case c4 => exact rfl)
  intro g L h hg hL F N X T l1 hkeep hst
  have hxg := hkeep _ _ hx fun _ q => nomatch q
  have hdg := hkeep _ _ hd' fun _ q => nomatch q
  have hf : ∀ b, g.get? b = none → s.heap.get? b = none := fun b e => by
    cases e2 : s.heap.get? b with
    | none => rfl
    | some o => rw [hkeep b o e2 (fun _ q => nomatch q)] at e; cases e
  dsimp only
  try k_fold
  refine ks_wpAt_execs_cons ?_
  refine ks_wpAt_If ?_
  refine wpAt_of_wpAny ?_
  (repeat' (first | (fail_if_success (show _root_.PySem.wpAt _ _ _ _ _ _ _)); (first | (k_unfold; (try dsimp only)) | (first | ((k_here; (with_reducible show wpAny _ _ (call (Value.ref 175) _) _ _ _); k_dflt (refine' u_partcount ?k1 ?k2 ?k3 ?k4 ?k5 ?k6 ?k7 ?k8 ?k9 ?_; (case k1 => k_asm); (case k2 => k_asm); (case k3 => assumption); (case k4 => assumption); (case k5 => exact rfl); (case k6 => decide); (case k7 => decide); (case k8 => (first | exact .inr (by assumption) | exact .inl (by k_mem))); (case k9 => (first | exact .inr (by assumption) | exact .inl (by k_mem)))); intro t' h' tk' F' N'; (try k_sweep))) | ((with_reducible show wpAny _ _ (getMethod (Value.ref _) _ _) _ _ _); (k_here; k_dflt (refine' m_method ?k1 ?k2 ?k3 ?k4 ?k5 ?k6 ?k7 ?k8 ?k9 ?_; (case k1 => k_asm); (case k2 => k_asm); (case k3 => k_asm); (case k4 => (first | exact .inr (by assumption) | exact .inl (by k_mem))); (case k5 => (first | exact .inr (by assumption) | exact .inl (by k_mem))); (case k6 => k_is); (case k7 => k_is); (case k8 => decide +kernel); (case k9 => rfl)))) | walk1) | (dsimp only; (first | ((k_here; (with_reducible show wpAny _ _ (call (Value.ref 175) _) _ _ _); k_dflt (refine' u_partcount ?k1 ?k2 ?k3 ?k4 ?k5 ?k6 ?k7 ?k8 ?k9 ?_; (case k1 => k_asm); (case k2 => k_asm); (case k3 => assumption); (case k4 => assumption); (case k5 => exact rfl); (case k6 => decide); (case k7 => decide); (case k8 => (first | exact .inr (by assumption) | exact .inl (by k_mem))); (case k9 => (first | exact .inr (by assumption) | exact .inl (by k_mem)))); intro t' h' tk' F' N'; (try k_sweep))) | ((with_reducible show wpAny _ _ (getMethod (Value.ref _) _ _) _ _ _); (k_here; k_dflt (refine' m_method ?k1 ?k2 ?k3 ?k4 ?k5 ?k6 ?k7 ?k8 ?k9 ?_; (case k1 => k_asm); (case k2 => k_asm); (case k3 => k_asm); (case k4 => (first | exact .inr (by assumption) | exact .inl (by k_mem))); (case k5 => (first | exact .inr (by assumption) | exact .inl (by k_mem))); (case k6 => k_is); (case k7 => k_is); (case k8 => decide +kernel); (case k9 => rfl)))) | walk1)))))
  · refine wpAt_of_wpAny ?_
    dsimp only
    (repeat' (first | (fail_if_success (show _root_.PySem.wpAt _ _ _ _ _ _ _)); (first | (k_unfold; (try dsimp only)) | (first | ((k_here; (with_reducible show wpAny _ _ (call (Value.ref 175) _) _ _ _); k_dflt (refine' u_partcount ?k1 ?k2 ?k3 ?k4 ?k5 ?k6 ?k7 ?k8 ?k9 ?_; (case k1 => k_asm); (case k2 => k_asm); (case k3 => assumption); (case k4 => assumption); (case k5 => exact rfl); (case k6 => decide); (case k7 => decide); (case k8 => (first | exact .inr (by assumption) | exact .inl (by k_mem))); (case k9 => (first | exact .inr (by assumption) | exact .inl (by k_mem)))); intro t' h' tk' F' N'; (try k_sweep))) | ((with_reducible show wpAny _ _ (getMethod (Value.ref _) _ _) _ _ _); (k_here; k_dflt (refine' m_method ?k1 ?k2 ?k3 ?k4 ?k5 ?k6 ?k7 ?k8 ?k9 ?_; (case k1 => k_asm); (case k2 => k_asm); (case k3 => k_asm); (case k4 => (first | exact .inr (by assumption) | exact .inl (by k_mem))); (case k5 => (first | exact .inr (by assumption) | exact .inl (by k_mem))); (case k6 => k_is); (case k7 => k_is); (case k8 => decide +kernel); (case k9 => rfl)))) | walk1) | (dsimp only; (first | ((k_here; (with_reducible show wpAny _ _ (call (Value.ref 175) _) _ _ _); k_dflt (refine' u_partcount ?k1 ?k2 ?k3 ?k4 ?k5 ?k6 ?k7 ?k8 ?k9 ?_; (case k1 => k_asm); (case k2 => k_asm); (case k3 => assumption); (case k4 => assumption); (case k5 => exact rfl); (case k6 => decide); (case k7 => decide); (case k8 => (first | exact .inr (by assumption) | exact .inl (by k_mem))); (case k9 => (first | exact .inr (by assumption) | exact .inl (by k_mem)))); intro t' h' tk' F' N'; (try k_sweep))) | ((with_reducible show wpAny _ _ (getMethod (Value.ref _) _ _) _ _ _); (k_here; k_dflt (refine' m_method ?k1 ?k2 ?k3 ?k4 ?k5 ?k6 ?k7 ?k8 ?k9 ?_; (case k1 => k_asm); (case k2 => k_asm); (case k3 => k_asm); (case k4 => (first | exact .inr (by assumption) | exact .inl (by k_mem))); (case k5 => (first | exact .inr (by assumption) | exact .inl (by k_mem))); (case k6 => k_is); (case k7 => k_is); (case k8 => decide +kernel); (case k9 => rfl)))) | walk1)))))
    rename Fr _ _ _ _ => F1
    rename News _ _ _ _ => N1
    have z := N1 _ (.head _)
    exact hret _ _ _ _ _ (fun b o e => F1.keep _ _ (hkeep _ _ e fun _ q => nomatch q)) (hf _ z.2.2) z.1
end
end Mine
end

section
-- PasU
example : True := by w_top off; trivial
open PySem PySem.W PyProof.Rows PySem.Calls PySem.Spec
set_option maxRecDepth 100000
namespace Mine
noncomputable abbrev e0 : Str := Str.ofString ""
/-- the parts of a pile, the lowest first -/
noncomputable def pileOf (P : List Str) : List (Str × Str) := P.reverse.map fun r => (e0, r)
theorem pileOf_cons (y : Str) (P : List Str) : pileOf (y :: P) = pileOf P ++ [(e0, y)] := by simp [pileOf]
/-- an object is what has been taken off a pile -/
inductive TopIs (top : Option Str) (o : Obj) : Prop
  | mk (hc : o.cls = .type "tuple") (n : Nat) (t1 t2 : Tok) (hd : o.data = .seq #[.str e0 t1, .str (top.getD e0) t2] n)
theorem PartsIn.sub {nw nw' : List (Addr × Obj)} {ps : Array Value} {l : List (Str × Str)} (x : PartsIn nw ps l) (h : ∀ q ∈ nw, q ∈ nw') : PartsIn nw' ps l := by
  obtain ⟨e, Ts, ta, tb, f⟩ := x
  exact ⟨e, Ts, ta, tb, fun j hj => ⟨(f j hj).1, let ⟨o, ho, r⟩ := (f j hj).2; ⟨o, h _ ho, r⟩⟩⟩
theorem PartsIn.push {nw : List (Addr × Obj)} {ps : Array Value} {l : List (Str × Str)} {T : Addr} {a b : Str} {t1 t2 : Tok} (x : PartsIn nw ps l) (hT : (T, { cls := .type "tuple", data := .seq #[.str a t1, .str b t2] }) ∈ nw) : PartsIn nw (ps.push (.ref T)) (l ++ [(a, b)]) := by
  obtain ⟨e, Ts, ta, tb, f⟩ := x
  refine ⟨by simp [e], fun j => if j < l.length then Ts j else T, fun j => if j < l.length then ta j else t1, fun j => if j < l.length then tb j else t2, fun j hj => ?_⟩
  by_cases h1 : j < l.length
  · obtain ⟨f1, f2⟩ := f j h1
    have e1 : (l ++ [(a, b)]).getD j (Str.empty, Str.empty) = l.getD j (Str.empty, Str.empty) := by simp [List.getD, List.getElem?_append_left h1]
    rw [e1]
    simp only [h1, if_true]
    refine ⟨?_, f2⟩
    rw [Array.getElem?_push_lt (by (first | lia | omega)), ← f1, Array.getElem?_eq_getElem (by (first | lia | omega))]
  · have h2 : j = l.length := by simp at hj; (first | lia | omega)
    subst h2
    have e1 : (l ++ [(a, b)]).getD l.length (Str.empty, Str.empty) = (a, b) := by simp [List.getD]
    rw [e1]
    simp only [Nat.lt_irrefl, if_false]
    exact ⟨by rw [← e]; simp, _, hT, rfl, _, rfl⟩
theorem PartsIn.pop {nw : List (Addr × Obj)} {ps : Array Value} {l : List (Str × Str)} {b : Str} (x : PartsIn nw ps (l ++ [(e0, b)])) : PartsIn nw ps.pop l ∧ ∃ T o, ps[ps.size - 1]? = some (.ref T) ∧ (T, o) ∈ nw ∧ TopIs (some b) o := by
  obtain ⟨e, Ts, ta, tb, f⟩ := x
  have hsz : ps.size = l.length + 1 := by simpa using e
  refine ⟨⟨by simp [hsz], Ts, ta, tb, fun j hj => ?_⟩, ?_⟩
  · obtain ⟨f1, f2⟩ := f j (by simp; (first | lia | omega))
    have e1 : (l ++ [(e0, b)]).getD j (Str.empty, Str.empty) = l.getD j (Str.empty, Str.empty) := by simp [List.getD, List.getElem?_append_left hj]
    rw [e1] at f2
    refine ⟨?_, f2⟩
    rw [← f1, Array.getElem?_pop, if_pos (by (first | lia | omega))]
  · obtain ⟨f1, o, ho, hc, n, hd⟩ := f l.length (by simp)
    have e1 : (l ++ [(e0, b)]).getD l.length (Str.empty, Str.empty) = (e0, b) := by simp [List.getD]
    rw [e1] at hd
    exact ⟨_, o, by rw [hsz]; exact f1, ho, ⟨hc, _, _, _, hd⟩⟩
theorem tail_list {prog : Program} {w : World} {A : Around} {E : Value → Shared → Prop} {s : Shared} {value slice : Expr} {o i : Value} {T id : String} {ops : List Value} {Q : Value → Shared → Prop} (hT : s.TypeIs o T)
    (hl : typeLookup (.type T) "__getitem__" = pure (some (.builtin id))) (h : wpAny (model prog w) A (getItem o i) Q E s)
    (hs : subscripted slice false o i = operate ops (getItem o i)) : wpAny (model prog w) A (subscriptTail value slice o i) Q E s := by
  unfold subscriptTail
  refine wpAny_bind ?_
  rw [getitemInPython_of_ne hT.not_modules]
  refine wpAny_bind (wpAny_specialOf hT hl ?_)
  have fin : wpAny (model prog w) A (subscripted slice false o i) (fun r s₃ => wpAny (model prog w) A (letTemporaryGo value o r >>= fun _ => pure r) Q E s₃) E s := by
    rw [hs]
    exact wpAny_operating (wpAny_mono h (fun r s₃ h₃ => wpAny_bind (wpAny_letTemporaryGo (wpAny_pure h₃))) fun _ _ x => x)
  first
    | exact wpAny_pure (wpAny_bind fin)
    | exact wpAny_bind (wpAny_pure (wpAny_bind fin))
    | exact wpAny_bind fin
/-- a slice of a list, whatever expression gives the list -/
theorem slice_any {prog : Program} {w : World} {A : Around} {E : Value → Shared → Prop} {s : Shared} {g : Heap} {L l : Addr} {m : Str → Option Value} {news : List (Addr × Obj)} {value slice : PySem.Expr} {its : Array Value} {zs : List Value} {vl vu vk : Value} {lo hi st : Option Int} {ops : List Value} {Q : Value → Shared → Prop}
    (F : Fr g L s.heap m) (N : News g L s.heap news) (hl : s.heap.IsList l its) (pl : IsPart vl lo) (pu : IsPart vu hi) (pk : IsPart vk st) (h0 : st ≠ some 0) (e : (slicePick its lo hi st).toList = zs)
    (h : ∀ D h', Fr g L h' m → News g L h' ((D, listOf zs.toArray 0) :: news) → (∀ p ∈ news, p.1 < D) → Q (.ref D) { s with heap := h' })
    (hs : subscripted slice false (.ref l) (.ref s.heap.objs.size) = operate ops (getItem (.ref l) (.ref s.heap.objs.size))) (hsz : its.size ≤ sizeLine) :
    wpAny (model prog w) A (subscriptTail value slice (.ref l) (.ref s.heap.objs.size)) Q E { s with heap := s.heap.push { cls := .type "slice", data := .fields #[vl, vu, vk] } } := by
  refine tail_list (Heap.IsList.typeIs (s := { s with heap := s.heap.push { cls := .type "slice", data := .fields #[vl, vu, vk] } }) (hl.push _)) list_getitem_lookup
    (wpAny_getItem_list_slice (hl.push _) (Heap.IsSliceOf.new ..) pl pu pk h0 ?_ hsz) hs
  have N1 := News.push (F.push { cls := .type "slice", data := .fields #[vl, vu, vk] }) (N.grown fun _ _ e => Heap.get?_push_of_some _ e) { cls := .type "list", data := .seq (slicePick its lo hi st) }
  have F1 := (F.push { cls := .type "slice", data := .fields #[vl, vu, vk] }).push { cls := .type "list", data := .seq (slicePick its lo hi st) }
  have e2 : slicePick its lo hi st = zs.toArray := by rw [← e]
  refine h _ _ F1 (by rw [← e2]; exact N1) fun p hp => ?_
  rw [Heap.size_push]
  exact Nat.lt_succ_of_lt (Heap.lt_size (N p hp).1)
section
variable {w : World} {p : Program} {loose : List Str} {mean : ExcName → Option Value} {mg mb : Str → Option Value} {G g : Heap} {L x d Gn : Addr} {m : Str → Option Value} {A : Around} {s : Shared} {Q E : Value → Shared → Prop} {og : Obj} {tl own : List (Addr × Obj)} {ps : Array Value} {n : Nat} {hs0 : Int} {t0 : Tok} {v0 : Value} {n0 : Nat} {P : List Str}
/-- what is new is apart from what there was -/
noncomputable def Fresh (tl' tl all : List (Addr × Obj)) : Prop := ∀ q ∈ tl', q ∈ tl ∨ ∀ r ∈ all, r.1 ≠ q.1
theorem u_popO (F : Fr g L s.heap m) (N : News g L s.heap ((x, acObj d ps n) :: (d, acDict hs0 t0 v0 n0) :: (Gn, og) :: (tl ++ own))) (D : Gd w p loose mean mg mb G) (hs : G.StaysIn g) (hh : A.handled = none) (hdp : A.depth ≤ 800) (hu : A.units ≤ 600)
    (hoff : ∀ q ∈ (d, acDict hs0 t0 v0 n0) :: (Gn, og) :: (tl ++ own), q.1 ≠ x) (hp : PartsIn tl ps (pileOf P)) (hP : P.length ≤ 100)
    (k : ∀ h' tk' n' ps' T o tl' top P', P = top.toList ++ P' → (top = none → P' = []) → Fr g L h' m → News g L h' ((x, acObj d ps' n') :: (d, acDict hs0 t0 v0 n0) :: (Gn, og) :: (tl' ++ own)) → PartsIn tl' ps' (pileOf P') → (T, o) ∈ tl' → TopIs top o → (∀ q ∈ tl, q ∈ tl') →
      Fresh tl' tl ((x, acObj d ps n) :: (d, acDict hs0 t0 v0 n0) :: (Gn, og) :: (tl ++ own)) → Q (.ref T) { s with heap := h', toks := tk' }) :
    wpAny (model Challenge.rw_oc0165_02.row.prog w) A (call (.ref 138) [.ref x]) Q E s := by
  have hxG : G.get? x = none := by
    cases e2 : G.get? x with
    | none => rfl
    | some o => have z := (N _ (.head _)).2.2; rw [hs x o e2] at z; cases z
  have hsz : ps.size = P.length := by rw [hp.1]; simp [pileOf]
  cases P with
  | nil =>
    obtain rfl : ps = #[] := Array.eq_empty_of_size_eq_zero hsz
    refine wp_up hh hdp hu (c_pop0 D (stays_fr F hs) (N _ (.head _)).1 (N _ (.tail _ (.head _))).1 fun h' tk' T t1 t2 hk hT hT' => ?_)
    have N' := news_more (newsK N hk) F hT hT'
    refine k h' tk' n #[] T _ ((T, { cls := .type "tuple", data := .seq #[.str e0 t1, .str e0 t2] }) :: tl) none [] rfl (fun _ => rfl) (frK F hk) ?_ (hp.sub fun q hq => .tail _ hq) (.head _) ⟨rfl, _, _, _, rfl⟩ (fun q hq => .tail _ hq) ?_
    · refine all_cons ?_ (all_cons ?_ (all_cons ?_ (all_cons ?_ (fun q hq => ?_))))
      · exact N' _ (.tail _ (.head _))
      · exact N' _ (.tail _ (.tail _ (.head _)))
      · exact N' _ (.tail _ (.tail _ (.tail _ (.head _))))
      · exact N' _ (.head _)
      · exact N' _ (.tail _ (.tail _ (.tail _ (.tail _ hq))))
    · intro q hq
      rcases List.mem_cons.mp hq with rfl | hq
      · refine .inr fun r hr e => ?_
        have := (N r hr).1
        rw [e, hT] at this; cases this
      · exact .inl hq
  | cons y P =>
    rw [pileOf_cons] at hp
    obtain ⟨hp', T, o, hT, ho, ht⟩ := hp.pop
    refine u_pop (d := d) (ps := ps) (n := n) (nw' := fun n' => (x, acObj d ps.pop n') :: (d, acDict hs0 t0 v0 n0) :: (Gn, og) :: (tl ++ own)) F N D hs hh hdp hu (fun n' => .head hoff) (.inl (.tail _ (.head _))) hxG (by rw [hsz]; simp at hP ⊢; (first | lia | omega)) hT ?_
    intro h' tk' n' F' N'
    exact k h' tk' n' ps.pop T o tl (some y) P rfl (fun e => nomatch e) F' N' hp' ho ht (fun _ h => h) fun q hq => .inl hq
theorem u_pushO {y : Str} {ta tb : Tok} (F : Fr g L s.heap m) (N : News g L s.heap ((x, acObj d ps n) :: (d, acDict hs0 t0 v0 n0) :: (Gn, og) :: (tl ++ own))) (D : Gd w p loose mean mg mb G) (hs : G.StaysIn g) (hh : A.handled = none) (hdp : A.depth ≤ 800) (hu : A.units ≤ 600)
    (hoff : ∀ q ∈ (d, acDict hs0 t0 v0 n0) :: (Gn, og) :: (tl ++ own), q.1 ≠ x) (hp : PartsIn tl ps (pileOf P)) (hP : P.length ≤ 100)
    (k : ∀ h' tk' n' ps' tl', Fr g L h' m → News g L h' ((x, acObj d ps' n') :: (d, acDict hs0 t0 v0 n0) :: (Gn, og) :: (tl' ++ own)) → PartsIn tl' ps' (pileOf (y :: P)) → (∀ q ∈ tl, q ∈ tl') →
      Fresh tl' tl ((x, acObj d ps n) :: (d, acDict hs0 t0 v0 n0) :: (Gn, og) :: (tl ++ own)) → Q .none { s with heap := h', toks := tk' }) :
    wpAny (model Challenge.rw_oc0165_02.row.prog w) A (call (.ref 122) [.ref x, .str e0 ta, .str y tb]) Q E s := by
  have hxG : G.get? x = none := by
    cases e2 : G.get? x with
    | none => rfl
    | some o => have z := (N _ (.head _)).2.2; rw [hs x o e2] at z; cases z
  have hsz : ps.size = P.length := by rw [hp.1]; simp [pileOf]
  refine u_push (d := d) (ps := ps) (n := n) (nw' := fun T n' => (x, acObj d (ps.push (.ref T)) n') :: (d, acDict hs0 t0 v0 n0) :: (Gn, og) :: (tl ++ own)) F N D hs hh hdp hu (fun T n' => .head hoff) (.inl (.tail _ (.head _))) hxG (by rw [hsz]; (first | lia | omega)) ?_
  intro h' tk' n' T t1 t2 F' N' hT
  refine k h' tk' n' _ ((T, { cls := .type "tuple", data := .seq #[.str e0 t1, .str y t2] }) :: tl) F' ?_ (by rw [pileOf_cons]; exact (hp.sub fun q hq => .tail _ hq).push (.head _)) (fun q hq => .tail _ hq) ?_
  · refine all_cons ?_ (all_cons ?_ (all_cons ?_ (all_cons ?_ (fun q hq => ?_))))
    · exact N' _ (.tail _ (.head _))
    · exact N' _ (.tail _ (.tail _ (.head _)))
    · exact N' _ (.tail _ (.tail _ (.tail _ (.head _))))
    · exact N' _ (.head _)
    · exact N' _ (.tail _ (.tail _ (.tail _ (.tail _ hq))))
  · intro q hq
    rcases List.mem_cons.mp hq with rfl | hq
    · exact .inr fun r hr => hT r hr
    · exact .inl hq
end
end Mine
end

section
-- Pas
example : True := by w_top off; trivial
open PySem PySem.W PyProof.Rows PySem.Calls PySem.Spec
set_option maxRecDepth 100000
namespace Mine
/-- which of two rows is not the greater -/
noncomputable def leZ (t x : Str) : Bool := decide (lastZ t ≤ lastZ x)
theorem passA_pop {α : Type} {le : α → α → Bool} {t x : α} {P xs : List α} (h : le t x = true) : passA le (t :: P) (x :: xs) = t :: passA le P (x :: xs) := by
  rw [passA, passA, List.takeWhile_cons, if_pos h, List.dropWhile_cons, if_pos h]
  rfl
theorem passA_lay {α : Type} {le : α → α → Bool} {x : α} {P xs : List α} (h : ∀ t, P.head? = some t → le t x = false) : passA le P (x :: xs) = passA le (x :: P) xs := by
  rw [passA]
  cases P with
  | nil => rfl
  | cons t P =>
    have := h t rfl
    rw [List.takeWhile_cons, if_neg (by rw [this]; decide), List.dropWhile_cons, if_neg (by rw [this]; decide)]
    rfl
theorem strs_item : ∀ {vs : List Value} {ns : List Str}, StrsAre vs ns → ∀ {i : Nat} {v : Value}, vs[i]? = some v → ∃ x t, v = .str x t ∧ ns[i]? = some x
  | _, _, .nil, i, v, e => by simp at e
  | _, _, .cons x t r, 0, v, e => by simp at e; exact ⟨x, t, e.symm, rfl⟩
  | _, _, .cons x t r, i + 1, v, e => by simpa using strs_item r (by simpa using e)
theorem cmp_leZ {t y : Str} (h1 : 1 ≤ t.length) (h2 : 1 ≤ y.length) : leZ t y = decide (cmpZ (Txt.item t (-1)) (Txt.item y (-1)) < 1) := by
  have := cmpB_item h1 h2
  unfold cmpB at this
  unfold leZ
  rw [decide_eq_decide] at this ⊢
  (first | lia | omega)
section
variable {w : World} {p : Program} {loose : List Str} {mean : ExcName → Option Value} {mg mb : Str → Option Value} {G g : Heap} {L : Addr} {m : Str → Option Value} {nw : List (Addr × Obj)} {A : Around} {s : Shared} {Q E : Value → Shared → Prop}
theorem u_cmpK {x y : Str} {t1 t2 : Tok} (F : Fr g L s.heap m) (N : News g L s.heap nw) (D : Gd w p loose mean mg mb G) (hs : G.StaysIn g) (hh : A.handled = none) (hd : A.depth ≤ 800) (hu : A.units ≤ 600)
    (k : ∀ t h' tk', (∀ b o, s.heap.get? b = some o → h'.get? b = some o) → Fr g L h' m → News g L h' nw → Q (.int (cmpZ x y) t) { s with heap := h', toks := tk' }) :
    wpAny (model Challenge.rw_oc0165_02.row.prog w) A (call (.ref 236) [.str x t1, .str y t2]) Q E s :=
  wp_up hh hd hu (c_cmp D (stays_fr F hs) fun t h' tk' hk => k t h' tk' hk (frK F hk) (newsK N hk))
end
noncomputable def Down (I : Nat → Shared → Prop) (n : Nat) (s : Shared) : Prop := ∃ m, m < n ∧ I m s
theorem whileD {prog : Program} {w : World} {A : Around} {R : Result → Shared → Prop} {s : Shared} {test body orelse env} (I : Nat → Shared → Prop)
    (turn : ∀ n s, I n s →
      wpAny (model prog w) A (isTrue test env (eval test env)) (fun b s₂ =>
        if b then wpAny (model prog w) A (execs body env) (fun f s₃ => match f with
            | .next => Down I n s₃
            | .cont => Down I n s₃
            | .brk => R (.ok .next) s₃
            | .ret v => R (.ok (.ret v)) s₃) (notedBy (model prog w) A env fun e s' => R (.error e) s') s₂
        else wpAny (model prog w) A (execs orelse env) (fun f s₃ => R (.ok f) s₃) (notedBy (model prog w) A env fun e s' => R (.error e) s') s₂)
        (notedBy (model prog w) A env fun e s' => R (.error e) s') s)
    (n : Nat) (h : I n s) : codeAny (model prog w) A (.whileLoop test body orelse env) R s := by
  refine codeAny_whileLoop I (fun n s hI => wpAny_mono (turn n s hI) (fun b s₂ hb => ?_) fun _ _ x => x) n h
  cases b with
  | false => exact hb
  | true =>
    refine wpAny_mono hb (fun f s₃ hf => ?_) fun _ _ x => x
    cases f <;> exact hf
theorem pile_lt {j n : Nat} (hj : j < n) : n - 1 - j < n := Nat.lt_of_le_of_lt (Nat.sub_le _ _) (Nat.sub_lt (Nat.zero_lt_of_lt hj) Nat.one_pos)
theorem pile_at {P : List Str} {j : Nat} (hj : j < P.length) : (pileOf P).getD (P.length - 1 - j) (Str.empty, Str.empty) = (e0, P.getD j e0) := by
  unfold pileOf
  rw [List.getD, List.getElem?_map, List.getElem?_reverse (Nat.lt_of_le_of_lt (Nat.sub_le _ _) (Nat.sub_lt (Nat.zero_lt_of_lt hj) Nat.one_pos)), Nat.sub_sub_self (Nat.le_sub_one_of_lt hj), List.getD, List.getElem?_eq_getElem hj]
  rfl
theorem strs_of : ∀ {ys : List Value} {P : List Str}, ys.length = P.length → (∀ j v, ys[j]? = some v → ∃ t, v = Value.str (P.getD j e0) t) → StrsAre ys P
  | [], [], _, _ => .nil
  | y :: ys, r :: P, hl, h => by
    obtain ⟨t, e⟩ := h 0 y rfl
    cases e
    exact .cons _ _ (strs_of (Nat.succ.inj hl) fun j v hv => by simpa using h (j + 1) v (by simpa using hv))
/-- what holds between the rows -/
inductive PsInv (g0 : Array GenState) (rs : List Str) (x d Gn : Addr) (hs0 : Int) (t0 ti : Tok) (k : Nat) (m : Str → Option Value) (nw : List (Addr × Obj)) (gs : Array GenState) : Prop
  | mk (eg : gs = g0) (tl : List (Addr × Obj)) (ps : Array Value) (n : Nat) (vsg : List Value) (ng : Nat) (P gone : List Str) (en : nw = (x, acObj d ps n) :: (d, acDict hs0 t0 (.int 0 ti) 1) :: (Gn, listOf (List.toArray vsg) ng) :: tl) (off : ∀ q ∈ tl, q.1 ≠ x ∧ q.1 ≠ Gn)
    (hp : PartsIn tl ps (pileOf P)) (hg : StrsAre vsg gone) (hlaw : gone ++ passA leZ P (rs.drop k) = passed leZ rs) (hok : ∀ y ∈ P, RowOk y) (hlen : P.length + gone.length ≤ k) (m1 : m "pile" = some (.ref x)) (m2 : m "gone" = some (.ref Gn))
/-- what holds while rows come off -/
inductive PwInv (s : Shared) (g : Heap) (L : Addr) (rs : List Str) (x d Gn : Addr) (hs0 : Int) (t0 ti : Tok) (own : List (Addr × Obj)) (y : Str) (ty : Tok) (i kk : Nat) (s' : Shared) : Prop
  | mk (h : Heap) (tk : Nat) (m : Str → Option Value) (tl : List (Addr × Obj)) (ps : Array Value) (n : Nat) (vsg : List Value) (ng : Nat) (P gone : List Str) (T : Addr) (o : Obj) (top : Option Str) (e : s' = ⟨h, s.gens, s.drawn, tk, s.os⟩) (F : Fr g L h m)
    (N : News g L h ((x, acObj d ps n) :: (d, acDict hs0 t0 (.int 0 ti) 1) :: (Gn, listOf (List.toArray vsg) ng) :: (tl ++ own))) (off : ∀ q ∈ tl, q.1 ≠ x ∧ q.1 ≠ Gn) (offO : ∀ q ∈ own, ∀ r ∈ tl, q.1 ≠ r.1)
    (hp : PartsIn tl ps (pileOf P)) (hT : (T, o) ∈ tl) (ht : TopIs top o) (hn : top = none → P = []) (hg : StrsAre vsg gone) (hlaw : gone ++ passA leZ (top.toList ++ P) (y :: rs.drop (i + 1)) = passed leZ rs) (hok : ∀ y ∈ top.toList ++ P, RowOk y) (hlen : (top.toList ++ P).length + gone.length ≤ i) (hk : kk = (top.toList ++ P).length)
    (m1 : m "pile" = some (.ref x)) (m2 : m "gone" = some (.ref Gn)) (m3 : m "row" = some (.str y ty)) (m4 : m "top" = some (.ref T))
section
variable {w : World} {p : Program} {loose : List Str} {mean : ExcName → Option Value} {mg mb : Str → Option Value} {G : Heap} {s : Shared} {Q E : Value → Shared → Prop}
set_option maxHeartbeats 2000000
theorem c_passed {lr : Addr} {vs : List Value} {rs : List Str} (D : Gd w p loose mean mg mb G) (St : G.StaysIn s.heap) (hl : s.heap.IsList lr vs.toArray) (hi : StrsAre vs rs) (hn : rs.length ≤ 10) (hrl : ∀ y ∈ rs, RowOk y)
    (hret : ∀ h' tk' R vs' n', (∀ b o, s.heap.get? b = some o → h'.get? b = some o) → s.heap.get? R = none → h'.get? R = some (listOf (List.toArray vs') n') → StrsAre vs' (passed leZ rs) → Q (.ref R) { s with heap := h', toks := tk' }) :
    wpAny (model Challenge.rw_oc0165_02.row.prog w) (Am 350 100) (call (.ref 260) [.ref lr]) Q E s := by
  have fill : (hd.heap_1 w.params).In G := D.X
  revert fill
  k_fill
  intro _
  refine wpAny_call ?_
  refine' enterP (binds := [("rows", .ref lr)]) [] D St ?k3 ?k4 ?k6 ?k7 ?k8 ?k9 ?kB ?c5 ?c2 ?c3 ?c4 ?_
  case k3 => exact fun _ q => nomatch q
  case k4 => exact fun _ q => nomatch q
  (((case k6 => k_is); (case k7 => k_is); (case k8 => decide)))
  case k9 => exact BindsTo.of_eq rfl
  (((case kB => exact locs rfl); (case c5 => decide); (case c2 => exact rfl); (case c3 => exact rfl); (case c4 => exact rfl)))
  intro g L h hg hL F N X T l1 hkeep hst
  have hlg : g.IsList lr vs.toArray := hl.at fun o e => hkeep _ _ e fun _ q => nomatch q
  dsimp only
  try k_fold
  (repeat' (first | (fail_if_success (first | (with_reducible show wpAny _ _ (exec (Stmt.For _ _ _ _ _) _) _ _ _) | (with_reducible show wpAny _ _ (exec (Stmt.While _ _ _ _) _) _ _ _) | (with_reducible show wpAny _ _ (eval (PySem.Expr.ListComp _ _ _ _) _) _ _ _) | (with_reducible show CompPack _) | (with_reducible show LoopPost _ _ _ _ _ _ _ _ _) | (with_reducible show wpAny _ _ (subscriptTail _ (PySem.Expr.Slice _ _ _ _) _ _) _ _ _) | (with_reducible show wpAny _ _ (binaryOp _ (Value.ref _) (Value.ref _)) _ _ _) | (with_reducible show wpAny _ _ (call (Value.builtin "list.append") _) _ _ _) | (with_reducible show wpAny _ _ (compareOp _ (Value.ref _) (Value.ref _)) _ _ _))); (first | (k_unfold; (try dsimp only)) | (first | ((k_here; (with_reducible show wpAny _ _ (call (Value.ref 236) _) _ _ _); k_dflt (refine' u_cmpK ?k1 ?k2 ?k3 ?k4 ?k5 ?k6 ?k7 ?_; (case k1 => k_asm); (case k2 => k_asm); (case k3 => assumption); (case k4 => assumption); (case k5 => exact rfl); (case k6 => decide); (case k7 => decide)); intro t' h' tk' hk' F' N'; (try k_sweep))) | ((with_reducible show wpAny _ _ (getMethod (Value.ref _) _ _) _ _ _); (k_here; k_dflt (refine' m_method ?k1 ?k2 ?k3 ?k4 ?k5 ?k6 ?k7 ?k8 ?k9 ?_; (case k1 => k_asm); (case k2 => k_asm); (case k3 => k_asm); (case k4 => (first | exact .inr (by assumption) | exact .inl (by k_mem))); (case k5 => (first | exact .inr (by assumption) | exact .inl (by k_mem))); (case k6 => k_is); (case k7 => k_is); (case k8 => decide +kernel); (case k9 => rfl)))) | walk1) | (dsimp only; (first | ((k_here; (with_reducible show wpAny _ _ (call (Value.ref 236) _) _ _ _); k_dflt (refine' u_cmpK ?k1 ?k2 ?k3 ?k4 ?k5 ?k6 ?k7 ?_; (case k1 => k_asm); (case k2 => k_asm); (case k3 => assumption); (case k4 => assumption); (case k5 => exact rfl); (case k6 => decide); (case k7 => decide)); intro t' h' tk' hk' F' N'; (try k_sweep))) | ((with_reducible show wpAny _ _ (getMethod (Value.ref _) _ _) _ _ _); (k_here; k_dflt (refine' m_method ?k1 ?k2 ?k3 ?k4 ?k5 ?k6 ?k7 ?k8 ?k9 ?_; (case k1 => k_asm); (case k2 => k_asm); (case k3 => k_asm); (case k4 => (first | exact .inr (by assumption) | exact .inl (by k_mem))); (case k5 => (first | exact .inr (by assumption) | exact .inl (by k_mem))); (case k6 => k_is); (case k7 => k_is); (case k8 => decide +kernel); (case k9 => rfl)))) | walk1)))))
  rename Fr _ _ _ _ => F1
  rename News _ _ _ _ => N1
  refine u_make0 F1 N1 X D hst rfl (by decide) (by decide) ?_
  intro h2 tk2 x d n2 hs0 t0 ti F2 N2 _ hdx
  clear F1 N1
  (repeat' (first | (fail_if_success (first | (with_reducible show wpAny _ _ (exec (Stmt.For _ _ _ _ _) _) _ _ _) | (with_reducible show wpAny _ _ (exec (Stmt.While _ _ _ _) _) _ _ _) | (with_reducible show wpAny _ _ (eval (PySem.Expr.ListComp _ _ _ _) _) _ _ _) | (with_reducible show CompPack _) | (with_reducible show LoopPost _ _ _ _ _ _ _ _ _) | (with_reducible show wpAny _ _ (subscriptTail _ (PySem.Expr.Slice _ _ _ _) _ _) _ _ _) | (with_reducible show wpAny _ _ (binaryOp _ (Value.ref _) (Value.ref _)) _ _ _) | (with_reducible show wpAny _ _ (call (Value.builtin "list.append") _) _ _ _) | (with_reducible show wpAny _ _ (compareOp _ (Value.ref _) (Value.ref _)) _ _ _))); (first | (k_unfold; (try dsimp only)) | (first | ((k_here; (with_reducible show wpAny _ _ (call (Value.ref 236) _) _ _ _); k_dflt (refine' u_cmpK ?k1 ?k2 ?k3 ?k4 ?k5 ?k6 ?k7 ?_; (case k1 => k_asm); (case k2 => k_asm); (case k3 => assumption); (case k4 => assumption); (case k5 => exact rfl); (case k6 => decide); (case k7 => decide)); intro t' h' tk' hk' F' N'; (try k_sweep))) | ((with_reducible show wpAny _ _ (getMethod (Value.ref _) _ _) _ _ _); (k_here; k_dflt (refine' m_method ?k1 ?k2 ?k3 ?k4 ?k5 ?k6 ?k7 ?k8 ?k9 ?_; (case k1 => k_asm); (case k2 => k_asm); (case k3 => k_asm); (case k4 => (first | exact .inr (by assumption) | exact .inl (by k_mem))); (case k5 => (first | exact .inr (by assumption) | exact .inl (by k_mem))); (case k6 => k_is); (case k7 => k_is); (case k8 => decide +kernel); (case k9 => rfl)))) | walk1) | (dsimp only; (first | ((k_here; (with_reducible show wpAny _ _ (call (Value.ref 236) _) _ _ _); k_dflt (refine' u_cmpK ?k1 ?k2 ?k3 ?k4 ?k5 ?k6 ?k7 ?_; (case k1 => k_asm); (case k2 => k_asm); (case k3 => assumption); (case k4 => assumption); (case k5 => exact rfl); (case k6 => decide); (case k7 => decide)); intro t' h' tk' hk' F' N'; (try k_sweep))) | ((with_reducible show wpAny _ _ (getMethod (Value.ref _) _ _) _ _ _); (k_here; k_dflt (refine' m_method ?k1 ?k2 ?k3 ?k4 ?k5 ?k6 ?k7 ?k8 ?k9 ?_; (case k1 => k_asm); (case k2 => k_asm); (case k3 => k_asm); (case k4 => (first | exact .inr (by assumption) | exact .inl (by k_mem))); (case k5 => (first | exact .inr (by assumption) | exact .inl (by k_mem))); (case k6 => k_is); (case k7 => k_is); (case k8 => decide +kernel); (case k9 => rfl)))) | walk1)))))
  refine wpAny_For ?_ (fun _ => rfl)
  (repeat' (first | (fail_if_success (first | (with_reducible show wpAny _ _ (exec (Stmt.For _ _ _ _ _) _) _ _ _) | (with_reducible show wpAny _ _ (exec (Stmt.While _ _ _ _) _) _ _ _) | (with_reducible show wpAny _ _ (eval (PySem.Expr.ListComp _ _ _ _) _) _ _ _) | (with_reducible show CompPack _) | (with_reducible show LoopPost _ _ _ _ _ _ _ _ _) | (with_reducible show wpAny _ _ (subscriptTail _ (PySem.Expr.Slice _ _ _ _) _ _) _ _ _) | (with_reducible show wpAny _ _ (binaryOp _ (Value.ref _) (Value.ref _)) _ _ _) | (with_reducible show wpAny _ _ (call (Value.builtin "list.append") _) _ _ _) | (with_reducible show wpAny _ _ (compareOp _ (Value.ref _) (Value.ref _)) _ _ _))); (first | (k_unfold; (try dsimp only)) | (first | ((k_here; (with_reducible show wpAny _ _ (call (Value.ref 236) _) _ _ _); k_dflt (refine' u_cmpK ?k1 ?k2 ?k3 ?k4 ?k5 ?k6 ?k7 ?_; (case k1 => k_asm); (case k2 => k_asm); (case k3 => assumption); (case k4 => assumption); (case k5 => exact rfl); (case k6 => decide); (case k7 => decide)); intro t' h' tk' hk' F' N'; (try k_sweep))) | ((with_reducible show wpAny _ _ (getMethod (Value.ref _) _ _) _ _ _); (k_here; k_dflt (refine' m_method ?k1 ?k2 ?k3 ?k4 ?k5 ?k6 ?k7 ?k8 ?k9 ?_; (case k1 => k_asm); (case k2 => k_asm); (case k3 => k_asm); (case k4 => (first | exact .inr (by assumption) | exact .inl (by k_mem))); (case k5 => (first | exact .inr (by assumption) | exact .inl (by k_mem))); (case k6 => k_is); (case k7 => k_is); (case k8 => decide +kernel); (case k9 => rfl)))) | walk1) | (dsimp only; (first | ((k_here; (with_reducible show wpAny _ _ (call (Value.ref 236) _) _ _ _); k_dflt (refine' u_cmpK ?k1 ?k2 ?k3 ?k4 ?k5 ?k6 ?k7 ?_; (case k1 => k_asm); (case k2 => k_asm); (case k3 => assumption); (case k4 => assumption); (case k5 => exact rfl); (case k6 => decide); (case k7 => decide)); intro t' h' tk' hk' F' N'; (try k_sweep))) | ((with_reducible show wpAny _ _ (getMethod (Value.ref _) _ _) _ _ _); (k_here; k_dflt (refine' m_method ?k1 ?k2 ?k3 ?k4 ?k5 ?k6 ?k7 ?k8 ?k9 ?_; (case k1 => k_asm); (case k2 => k_asm); (case k3 => k_asm); (case k4 => (first | exact .inr (by assumption) | exact .inl (by k_mem))); (case k5 => (first | exact .inr (by assumption) | exact .inl (by k_mem))); (case k6 => k_is); (case k7 => k_is); (case k8 => decide +kernel); (case k9 => rfl)))) | walk1)))))
  rename Fr _ _ _ _ => F3
  rename News _ _ _ _ => N3
  rename _ < _ ∧ _ => hlt
  rename_i Gn _ _
  have hGx : Gn ≠ x := Nat.ne_of_gt hlt.1
  have hGd : Gn ≠ d := Nat.ne_of_gt hlt.2
  have hdx : d ≠ x := Nat.ne_of_lt hdx
  have N3' : News g L _ ((x, acObj d #[] n2) :: (d, acDict hs0 t0 (.int 0 ti) 1) :: (Gn, listOf (List.toArray ([] : List Value)) 0) :: []) := news_sub N3 (all_cons (.tail _ (.head _)) (all_cons (.tail _ (.tail _ (.head _))) (all_cons (.head _) all_nil)))
  refine for_listB (items := vs.toArray) (PsInv s.gens rs x d Gn hs0 t0 ti) rfl hlg F3 N3' ⟨rfl, [], #[], n2, [], 0, [], [], rfl, (fun _ q => nomatch q), .nil, .nil, rfl, (fun _ q => nomatch q), Nat.le_refl _, rfl, rfl⟩ rfl rfl ?_ ?_
  · rintro i v m nw h4 tk4 gs own E4 hv ⟨rfl, tl, ps, n, vsg, ng, P, gone, rfl, off, hp, hg, hlaw, hok, hlen, hm1, hm2⟩ hoff F4 N4
    clear F3 N3 N3'
    obtain ⟨m4, rfl⟩ := as_if2 hm1 hm2
    clear hm1 hm2
    dsimp only at F4
    obtain ⟨y, ty, rfl, hy⟩ := strs_item hi (show vs[i]? = some v by simpa using hv)
    have hir : i < rs.length := (List.getElem?_eq_some_iff.mp hy).1
    have hdr : rs.drop i = y :: rs.drop (i + 1) := by rw [List.drop_eq_getElem_cons hir]; congr 1; rw [List.getElem?_eq_getElem hir] at hy; exact Option.some.inj hy
    rw [hdr] at hlaw
    have hyr : RowOk y := hrl y (List.mem_of_getElem? hy)
    have o1 : ∀ q ∈ own, q.1 ≠ x := fun q hq => hoff q hq x (.head _)
    have o2 : ∀ q ∈ own, q.1 ≠ Gn := fun q hq => hoff q hq Gn (.tail _ (.tail _ (.head _)))
    have o3 : ∀ q ∈ own, ∀ r ∈ tl, q.1 ≠ r.1 := fun q hq r hr => hoff q hq r.1 (.tail _ (.tail _ (.tail _ (List.mem_map_of_mem hr))))
    have offx : ∀ {vg : List Value} {k : Nat} {tl : List (Addr × Obj)}, (∀ q ∈ tl, q.1 ≠ x ∧ q.1 ≠ Gn) → ∀ q ∈ (d, acDict hs0 t0 (.int 0 ti) 1) :: (Gn, listOf (List.toArray vg) k) :: (tl ++ own), q.1 ≠ x := fun off => by
      refine all_cons ?_ (all_cons ?_ (fun q hq => ?_))
      · exact hdx
      · exact hGx
      · rcases List.mem_append.mp hq with hq | hq
        · exact (off q hq).1
        · exact o1 q hq
    replace N4 : News g L h4 ((x, acObj d ps n) :: (d, acDict hs0 t0 (.int 0 ti) 1) :: (Gn, listOf vsg.toArray ng) :: (tl ++ own)) := N4
    (repeat' (first | (fail_if_success (first | (with_reducible show wpAny _ _ (exec (Stmt.For _ _ _ _ _) _) _ _ _) | (with_reducible show wpAny _ _ (exec (Stmt.While _ _ _ _) _) _ _ _) | (with_reducible show wpAny _ _ (eval (PySem.Expr.ListComp _ _ _ _) _) _ _ _) | (with_reducible show CompPack _) | (with_reducible show LoopPost _ _ _ _ _ _ _ _ _) | (with_reducible show wpAny _ _ (subscriptTail _ (PySem.Expr.Slice _ _ _ _) _ _) _ _ _) | (with_reducible show wpAny _ _ (binaryOp _ (Value.ref _) (Value.ref _)) _ _ _) | (with_reducible show wpAny _ _ (call (Value.builtin "list.append") _) _ _ _) | (with_reducible show wpAny _ _ (compareOp _ (Value.ref _) (Value.ref _)) _ _ _))); (first | (k_unfold; (try dsimp only)) | (first | ((k_here; (with_reducible show wpAny _ _ (call (Value.ref 236) _) _ _ _); k_dflt (refine' u_cmpK ?k1 ?k2 ?k3 ?k4 ?k5 ?k6 ?k7 ?_; (case k1 => k_asm); (case k2 => k_asm); (case k3 => assumption); (case k4 => assumption); (case k5 => exact rfl); (case k6 => decide); (case k7 => decide)); intro t' h' tk' hk' F' N'; (try k_sweep))) | ((with_reducible show wpAny _ _ (getMethod (Value.ref _) _ _) _ _ _); (k_here; k_dflt (refine' m_method ?k1 ?k2 ?k3 ?k4 ?k5 ?k6 ?k7 ?k8 ?k9 ?_; (case k1 => k_asm); (case k2 => k_asm); (case k3 => k_asm); (case k4 => (first | exact .inr (by assumption) | exact .inl (by k_mem))); (case k5 => (first | exact .inr (by assumption) | exact .inl (by k_mem))); (case k6 => k_is); (case k7 => k_is); (case k8 => decide +kernel); (case k9 => rfl)))) | walk1) | (dsimp only; (first | ((k_here; (with_reducible show wpAny _ _ (call (Value.ref 236) _) _ _ _); k_dflt (refine' u_cmpK ?k1 ?k2 ?k3 ?k4 ?k5 ?k6 ?k7 ?_; (case k1 => k_asm); (case k2 => k_asm); (case k3 => assumption); (case k4 => assumption); (case k5 => exact rfl); (case k6 => decide); (case k7 => decide)); intro t' h' tk' hk' F' N'; (try k_sweep))) | ((with_reducible show wpAny _ _ (getMethod (Value.ref _) _ _) _ _ _); (k_here; k_dflt (refine' m_method ?k1 ?k2 ?k3 ?k4 ?k5 ?k6 ?k7 ?k8 ?k9 ?_; (case k1 => k_asm); (case k2 => k_asm); (case k3 => k_asm); (case k4 => (first | exact .inr (by assumption) | exact .inl (by k_mem))); (case k5 => (first | exact .inr (by assumption) | exact .inl (by k_mem))); (case k6 => k_is); (case k7 => k_is); (case k8 => decide +kernel); (case k9 => rfl)))) | walk1)))))
    rename Fr _ _ _ _ => F5
    show wpAny _ _ (call (.ref 138) [.ref x]) _ _ _
    refine u_popO F5 N4 D hst rfl (by decide) (by decide) (offx off) hp (by (first | lia | omega)) ?_
    intro h6 tk6 n6 ps6 T o tl6 top P6 hP6 hn6 F6 N6 hp6 hT6 ht6 hsub6 hfr6
    clear F5 N4
    have fr_off : ∀ {tl tl' all : List (Addr × Obj)}, Fresh tl' tl all → (∀ q ∈ tl, q.1 ≠ x ∧ q.1 ≠ Gn) → (∃ ox, (x, ox) ∈ all) → (∃ oG, (Gn, oG) ∈ all) → ∀ q ∈ tl', q.1 ≠ x ∧ q.1 ≠ Gn := fun hf off ⟨ox, hx⟩ ⟨oG, hG⟩ q hq => by
      rcases hf q hq with h | h
      · exact off q h
      · exact ⟨(h _ hx).symm, (h _ hG).symm⟩
    have fr_own : ∀ {tl tl' all : List (Addr × Obj)}, Fresh tl' tl all → (∀ q ∈ own, ∀ r ∈ tl, q.1 ≠ r.1) → (∀ q ∈ own, q ∈ all) → ∀ q ∈ own, ∀ r ∈ tl', q.1 ≠ r.1 := fun hf off ha q hq r hr => by
      rcases hf r hr with h | h
      · exact off q hq r h
      · exact h q (ha q hq)
    have o4 : ∀ q ∈ own, q.1 ≠ d := fun q hq => hoff q hq d (.tail _ (.head _))
    have ownoff : ∀ {a b c : Obj} {tl : List (Addr × Obj)}, (∀ q ∈ own, ∀ r ∈ tl, q.1 ≠ r.1) → OwnOff own (((x, a) :: (d, b) :: (Gn, c) :: tl).map (·.1)) := fun h q hq b hb => by
      rcases hb with _ | ⟨_, _ | ⟨_, _ | ⟨_, hb⟩⟩⟩
      · exact o1 q hq
      · exact o4 q hq
      · exact o2 q hq
      · obtain ⟨r, hr, rfl⟩ := List.mem_map.mp hb
        exact h q hq r hr
    (repeat' (first | (fail_if_success (first | (with_reducible show wpAny _ _ (exec (Stmt.For _ _ _ _ _) _) _ _ _) | (with_reducible show wpAny _ _ (exec (Stmt.While _ _ _ _) _) _ _ _) | (with_reducible show wpAny _ _ (eval (PySem.Expr.ListComp _ _ _ _) _) _ _ _) | (with_reducible show CompPack _) | (with_reducible show LoopPost _ _ _ _ _ _ _ _ _) | (with_reducible show wpAny _ _ (subscriptTail _ (PySem.Expr.Slice _ _ _ _) _ _) _ _ _) | (with_reducible show wpAny _ _ (binaryOp _ (Value.ref _) (Value.ref _)) _ _ _) | (with_reducible show wpAny _ _ (call (Value.builtin "list.append") _) _ _ _) | (with_reducible show wpAny _ _ (compareOp _ (Value.ref _) (Value.ref _)) _ _ _))); (first | (k_unfold; (try dsimp only)) | (first | ((k_here; (with_reducible show wpAny _ _ (call (Value.ref 236) _) _ _ _); k_dflt (refine' u_cmpK ?k1 ?k2 ?k3 ?k4 ?k5 ?k6 ?k7 ?_; (case k1 => k_asm); (case k2 => k_asm); (case k3 => assumption); (case k4 => assumption); (case k5 => exact rfl); (case k6 => decide); (case k7 => decide)); intro t' h' tk' hk' F' N'; (try k_sweep))) | ((with_reducible show wpAny _ _ (getMethod (Value.ref _) _ _) _ _ _); (k_here; k_dflt (refine' m_method ?k1 ?k2 ?k3 ?k4 ?k5 ?k6 ?k7 ?k8 ?k9 ?_; (case k1 => k_asm); (case k2 => k_asm); (case k3 => k_asm); (case k4 => (first | exact .inr (by assumption) | exact .inl (by k_mem))); (case k5 => (first | exact .inr (by assumption) | exact .inl (by k_mem))); (case k6 => k_is); (case k7 => k_is); (case k8 => decide +kernel); (case k9 => rfl)))) | walk1) | (dsimp only; (first | ((k_here; (with_reducible show wpAny _ _ (call (Value.ref 236) _) _ _ _); k_dflt (refine' u_cmpK ?k1 ?k2 ?k3 ?k4 ?k5 ?k6 ?k7 ?_; (case k1 => k_asm); (case k2 => k_asm); (case k3 => assumption); (case k4 => assumption); (case k5 => exact rfl); (case k6 => decide); (case k7 => decide)); intro t' h' tk' hk' F' N'; (try k_sweep))) | ((with_reducible show wpAny _ _ (getMethod (Value.ref _) _ _) _ _ _); (k_here; k_dflt (refine' m_method ?k1 ?k2 ?k3 ?k4 ?k5 ?k6 ?k7 ?k8 ?k9 ?_; (case k1 => k_asm); (case k2 => k_asm); (case k3 => k_asm); (case k4 => (first | exact .inr (by assumption) | exact .inl (by k_mem))); (case k5 => (first | exact .inr (by assumption) | exact .inl (by k_mem))); (case k6 => k_is); (case k7 => k_is); (case k8 => decide +kernel); (case k9 => rfl)))) | walk1)))))
    rename Fr _ _ _ _ => F7
    rename News _ _ _ _ => N7
    refine wpAny_While ?_
    refine whileD (PwInv s g L rs x d Gn hs0 t0 ti own y ty i) ?_ (top.toList ++ P6).length ?_
    · rintro kk s8 ⟨h8, tk8, m8, tl8, ps8, n8, vsg8, ng8, P8, gone8, T8, o8, top8, rfl, F8, N8, off8, offO8, hp8, hT8, ht8, hn8, hg8, hlaw8, hok8, hlen8, rfl, hm1, hm2, hm3, hm4⟩
      clear F7 N7
      obtain ⟨m8, rfl⟩ := as_if4 hm1 hm2 hm3 hm4
      clear hm1 hm2 hm3 hm4
      have offx8 := offx (vg := vsg8) (k := ng8) off8
      obtain ⟨hc8, nd8, ta8, tb8, hd8⟩ := ht8
      have hlT : ∀ {h : Heap}, News g L h ((x, acObj d ps8 n8) :: (d, acDict hs0 t0 (.int 0 ti) 1) :: (Gn, listOf vsg8.toArray ng8) :: (tl8 ++ own)) → h.IsTuple T8 #[.str e0 ta8, .str (top8.getD e0) tb8] := fun N => ⟨o8, (N _ (.tail _ (.tail _ (.tail _ (List.mem_append_left _ hT8))))).1, hc8, _, hd8⟩
      (repeat' (first | (fail_if_success (first | (with_reducible show wpAny _ _ (exec (Stmt.For _ _ _ _ _) _) _ _ _) | (with_reducible show wpAny _ _ (exec (Stmt.While _ _ _ _) _) _ _ _) | (with_reducible show wpAny _ _ (eval (PySem.Expr.ListComp _ _ _ _) _) _ _ _) | (with_reducible show CompPack _) | (with_reducible show LoopPost _ _ _ _ _ _ _ _ _) | (with_reducible show wpAny _ _ (subscriptTail _ (PySem.Expr.Slice _ _ _ _) _ _) _ _ _) | (with_reducible show wpAny _ _ (binaryOp _ (Value.ref _) (Value.ref _)) _ _ _) | (with_reducible show wpAny _ _ (call (Value.builtin "list.append") _) _ _ _) | (with_reducible show wpAny _ _ (compareOp _ (Value.ref _) (Value.ref _)) _ _ _))); (first | (k_unfold; (try dsimp only)) | (first | ((k_here; (with_reducible show wpAny _ _ (call (Value.ref 236) _) _ _ _); k_dflt (refine' u_cmpK ?k1 ?k2 ?k3 ?k4 ?k5 ?k6 ?k7 ?_; (case k1 => k_asm); (case k2 => k_asm); (case k3 => assumption); (case k4 => assumption); (case k5 => exact rfl); (case k6 => decide); (case k7 => decide)); intro t' h' tk' hk' F' N'; (try k_sweep))) | ((with_reducible show wpAny _ _ (getMethod (Value.ref _) _ _) _ _ _); (k_here; k_dflt (refine' m_method ?k1 ?k2 ?k3 ?k4 ?k5 ?k6 ?k7 ?k8 ?k9 ?_; (case k1 => k_asm); (case k2 => k_asm); (case k3 => k_asm); (case k4 => (first | exact .inr (by assumption) | exact .inl (by k_mem))); (case k5 => (first | exact .inr (by assumption) | exact .inl (by k_mem))); (case k6 => k_is); (case k7 => k_is); (case k8 => decide +kernel); (case k9 => rfl)))) | walk1) | (dsimp only; (first | ((k_here; (with_reducible show wpAny _ _ (call (Value.ref 236) _) _ _ _); k_dflt (refine' u_cmpK ?k1 ?k2 ?k3 ?k4 ?k5 ?k6 ?k7 ?_; (case k1 => k_asm); (case k2 => k_asm); (case k3 => assumption); (case k4 => assumption); (case k5 => exact rfl); (case k6 => decide); (case k7 => decide)); intro t' h' tk' hk' F' N'; (try k_sweep))) | ((with_reducible show wpAny _ _ (getMethod (Value.ref _) _ _) _ _ _); (k_here; k_dflt (refine' m_method ?k1 ?k2 ?k3 ?k4 ?k5 ?k6 ?k7 ?k8 ?k9 ?_; (case k1 => k_asm); (case k2 => k_asm); (case k3 => k_asm); (case k4 => (first | exact .inr (by assumption) | exact .inl (by k_mem))); (case k5 => (first | exact .inr (by assumption) | exact .inl (by k_mem))); (case k6 => k_is); (case k7 => k_is); (case k8 => decide +kernel); (case k9 => rfl)))) | walk1)))))
      rename Fr _ _ _ _ => F9
      rename News _ _ _ _ => N9
      have N9' : News g L _ ((x, acObj d ps8 n8) :: (d, acDict hs0 t0 (.int 0 ti) 1) :: (Gn, listOf vsg8.toArray ng8) :: (tl8 ++ own)) := fun q hq => N9 q (.tail _ hq)
      refine ne_pairs (hlT N9') ⟨_, (N9 _ (.head _)).1, rfl, _, rfl⟩ (by decide) ?_
      clear N9
      cases top8 with
      | none =>
        rw [show (!(e0 == Str.ofString "" && Option.getD none e0 == Str.ofString "")) = false by decide +kernel]
        (repeat' (first | (fail_if_success (first | (with_reducible show wpAny _ _ (exec (Stmt.For _ _ _ _ _) _) _ _ _) | (with_reducible show wpAny _ _ (exec (Stmt.While _ _ _ _) _) _ _ _) | (with_reducible show wpAny _ _ (eval (PySem.Expr.ListComp _ _ _ _) _) _ _ _) | (with_reducible show CompPack _) | (with_reducible show LoopPost _ _ _ _ _ _ _ _ _) | (with_reducible show wpAny _ _ (subscriptTail _ (PySem.Expr.Slice _ _ _ _) _ _) _ _ _) | (with_reducible show wpAny _ _ (binaryOp _ (Value.ref _) (Value.ref _)) _ _ _) | (with_reducible show wpAny _ _ (call (Value.builtin "list.append") _) _ _ _) | (with_reducible show wpAny _ _ (compareOp _ (Value.ref _) (Value.ref _)) _ _ _))); (first | (k_unfold; (try dsimp only)) | (first | ((k_here; (with_reducible show wpAny _ _ (call (Value.ref 236) _) _ _ _); k_dflt (refine' u_cmpK ?k1 ?k2 ?k3 ?k4 ?k5 ?k6 ?k7 ?_; (case k1 => k_asm); (case k2 => k_asm); (case k3 => assumption); (case k4 => assumption); (case k5 => exact rfl); (case k6 => decide); (case k7 => decide)); intro t' h' tk' hk' F' N'; (try k_sweep))) | ((with_reducible show wpAny _ _ (getMethod (Value.ref _) _ _) _ _ _); (k_here; k_dflt (refine' m_method ?k1 ?k2 ?k3 ?k4 ?k5 ?k6 ?k7 ?k8 ?k9 ?_; (case k1 => k_asm); (case k2 => k_asm); (case k3 => k_asm); (case k4 => (first | exact .inr (by assumption) | exact .inl (by k_mem))); (case k5 => (first | exact .inr (by assumption) | exact .inl (by k_mem))); (case k6 => k_is); (case k7 => k_is); (case k8 => decide +kernel); (case k9 => rfl)))) | walk1) | (dsimp only; (first | ((k_here; (with_reducible show wpAny _ _ (call (Value.ref 236) _) _ _ _); k_dflt (refine' u_cmpK ?k1 ?k2 ?k3 ?k4 ?k5 ?k6 ?k7 ?_; (case k1 => k_asm); (case k2 => k_asm); (case k3 => assumption); (case k4 => assumption); (case k5 => exact rfl); (case k6 => decide); (case k7 => decide)); intro t' h' tk' hk' F' N'; (try k_sweep))) | ((with_reducible show wpAny _ _ (getMethod (Value.ref _) _ _) _ _ _); (k_here; k_dflt (refine' m_method ?k1 ?k2 ?k3 ?k4 ?k5 ?k6 ?k7 ?k8 ?k9 ?_; (case k1 => k_asm); (case k2 => k_asm); (case k3 => k_asm); (case k4 => (first | exact .inr (by assumption) | exact .inl (by k_mem))); (case k5 => (first | exact .inr (by assumption) | exact .inl (by k_mem))); (case k6 => k_is); (case k7 => k_is); (case k8 => decide +kernel); (case k9 => rfl)))) | walk1)))))
        rename Fr _ _ _ _ => FA
        rename News _ _ _ _ => NA
        have NA' : News g L _ ((x, acObj d ps8 n8) :: (d, acDict hs0 t0 (.int 0 ti) 1) :: (Gn, listOf vsg8.toArray ng8) :: (tl8 ++ own)) := fun q hq => NA q (.tail _ hq)
        refine ne_pairs (hlT NA') ⟨_, (NA _ (.head _)).1, rfl, _, rfl⟩ (by decide) ?_
        clear NA
        rw [show (!(e0 == Str.ofString "" && Option.getD none e0 == Str.ofString "")) = false by decide +kernel]
        (repeat' (first | (fail_if_success (first | (with_reducible show wpAny _ _ (exec (Stmt.For _ _ _ _ _) _) _ _ _) | (with_reducible show wpAny _ _ (exec (Stmt.While _ _ _ _) _) _ _ _) | (with_reducible show wpAny _ _ (eval (PySem.Expr.ListComp _ _ _ _) _) _ _ _) | (with_reducible show CompPack _) | (with_reducible show LoopPost _ _ _ _ _ _ _ _ _) | (with_reducible show wpAny _ _ (subscriptTail _ (PySem.Expr.Slice _ _ _ _) _ _) _ _ _) | (with_reducible show wpAny _ _ (binaryOp _ (Value.ref _) (Value.ref _)) _ _ _) | (with_reducible show wpAny _ _ (call (Value.builtin "list.append") _) _ _ _) | (with_reducible show wpAny _ _ (compareOp _ (Value.ref _) (Value.ref _)) _ _ _))); (first | (k_unfold; (try dsimp only)) | (first | ((k_here; (with_reducible show wpAny _ _ (call (Value.ref 236) _) _ _ _); k_dflt (refine' u_cmpK ?k1 ?k2 ?k3 ?k4 ?k5 ?k6 ?k7 ?_; (case k1 => k_asm); (case k2 => k_asm); (case k3 => assumption); (case k4 => assumption); (case k5 => exact rfl); (case k6 => decide); (case k7 => decide)); intro t' h' tk' hk' F' N'; (try k_sweep))) | ((with_reducible show wpAny _ _ (getMethod (Value.ref _) _ _) _ _ _); (k_here; k_dflt (refine' m_method ?k1 ?k2 ?k3 ?k4 ?k5 ?k6 ?k7 ?k8 ?k9 ?_; (case k1 => k_asm); (case k2 => k_asm); (case k3 => k_asm); (case k4 => (first | exact .inr (by assumption) | exact .inl (by k_mem))); (case k5 => (first | exact .inr (by assumption) | exact .inl (by k_mem))); (case k6 => k_is); (case k7 => k_is); (case k8 => decide +kernel); (case k9 => rfl)))) | walk1) | (dsimp only; (first | ((k_here; (with_reducible show wpAny _ _ (call (Value.ref 236) _) _ _ _); k_dflt (refine' u_cmpK ?k1 ?k2 ?k3 ?k4 ?k5 ?k6 ?k7 ?_; (case k1 => k_asm); (case k2 => k_asm); (case k3 => assumption); (case k4 => assumption); (case k5 => exact rfl); (case k6 => decide); (case k7 => decide)); intro t' h' tk' hk' F' N'; (try k_sweep))) | ((with_reducible show wpAny _ _ (getMethod (Value.ref _) _ _) _ _ _); (k_here; k_dflt (refine' m_method ?k1 ?k2 ?k3 ?k4 ?k5 ?k6 ?k7 ?k8 ?k9 ?_; (case k1 => k_asm); (case k2 => k_asm); (case k3 => k_asm); (case k4 => (first | exact .inr (by assumption) | exact .inl (by k_mem))); (case k5 => (first | exact .inr (by assumption) | exact .inl (by k_mem))); (case k6 => k_is); (case k7 => k_is); (case k8 => decide +kernel); (case k9 => rfl)))) | walk1)))))
        rename Fr _ _ _ _ => FB
        rename News _ _ _ _ => NB
        show wpAny _ _ (call (.ref 122) [.ref x, .str e0 _, .str y ty]) _ _ _
        refine u_pushO FB NB D hst rfl (by decide) (by decide) offx8 hp8 (by simp at hlen8; (first | lia | omega)) ?_
        intro hC tkC nC psC tlC FC NC hpC hsubC hfrC
        clear FB NB
        (repeat' (first | (fail_if_success (first | (with_reducible show wpAny _ _ (exec (Stmt.For _ _ _ _ _) _) _ _ _) | (with_reducible show wpAny _ _ (exec (Stmt.While _ _ _ _) _) _ _ _) | (with_reducible show wpAny _ _ (eval (PySem.Expr.ListComp _ _ _ _) _) _ _ _) | (with_reducible show CompPack _) | (with_reducible show LoopPost _ _ _ _ _ _ _ _ _) | (with_reducible show wpAny _ _ (subscriptTail _ (PySem.Expr.Slice _ _ _ _) _ _) _ _ _) | (with_reducible show wpAny _ _ (binaryOp _ (Value.ref _) (Value.ref _)) _ _ _) | (with_reducible show wpAny _ _ (call (Value.builtin "list.append") _) _ _ _) | (with_reducible show wpAny _ _ (compareOp _ (Value.ref _) (Value.ref _)) _ _ _))); (first | (k_unfold; (try dsimp only)) | (first | ((k_here; (with_reducible show wpAny _ _ (call (Value.ref 236) _) _ _ _); k_dflt (refine' u_cmpK ?k1 ?k2 ?k3 ?k4 ?k5 ?k6 ?k7 ?_; (case k1 => k_asm); (case k2 => k_asm); (case k3 => assumption); (case k4 => assumption); (case k5 => exact rfl); (case k6 => decide); (case k7 => decide)); intro t' h' tk' hk' F' N'; (try k_sweep))) | ((with_reducible show wpAny _ _ (getMethod (Value.ref _) _ _) _ _ _); (k_here; k_dflt (refine' m_method ?k1 ?k2 ?k3 ?k4 ?k5 ?k6 ?k7 ?k8 ?k9 ?_; (case k1 => k_asm); (case k2 => k_asm); (case k3 => k_asm); (case k4 => (first | exact .inr (by assumption) | exact .inl (by k_mem))); (case k5 => (first | exact .inr (by assumption) | exact .inl (by k_mem))); (case k6 => k_is); (case k7 => k_is); (case k8 => decide +kernel); (case k9 => rfl)))) | walk1) | (dsimp only; (first | ((k_here; (with_reducible show wpAny _ _ (call (Value.ref 236) _) _ _ _); k_dflt (refine' u_cmpK ?k1 ?k2 ?k3 ?k4 ?k5 ?k6 ?k7 ?_; (case k1 => k_asm); (case k2 => k_asm); (case k3 => assumption); (case k4 => assumption); (case k5 => exact rfl); (case k6 => decide); (case k7 => decide)); intro t' h' tk' hk' F' N'; (try k_sweep))) | ((with_reducible show wpAny _ _ (getMethod (Value.ref _) _ _) _ _ _); (k_here; k_dflt (refine' m_method ?k1 ?k2 ?k3 ?k4 ?k5 ?k6 ?k7 ?k8 ?k9 ?_; (case k1 => k_asm); (case k2 => k_asm); (case k3 => k_asm); (case k4 => (first | exact .inr (by assumption) | exact .inl (by k_mem))); (case k5 => (first | exact .inr (by assumption) | exact .inl (by k_mem))); (case k6 => k_is); (case k7 => k_is); (case k8 => decide +kernel); (case k9 => rfl)))) | walk1)))))
        rename Fr _ _ _ _ => FD
        rename News _ _ _ _ => ND
        obtain rfl := hn8 rfl
        refine ⟨_, _, _, (x, acObj d psC nC) :: (d, acDict hs0 t0 (.int 0 ti) 1) :: (Gn, listOf vsg8.toArray ng8) :: tlC, _, rfl, FD, ND, ownoff (fr_own hfrC offO8 fun q hq => .tail _ (.tail _ (.tail _ (List.mem_append_right _ hq)))), rfl, tlC, psC, nC, vsg8, ng8, [y], gone8, rfl, fr_off hfrC off8 ⟨_, .head _⟩ ⟨_, .tail _ (.tail _ (.head _))⟩, hpC, hg8, ?_, ?_, ?_, rfl, rfl⟩
        · rw [← hlaw8]; exact congrArg _ (passA_lay fun _ h => absurd h (by simp)).symm
        · intro z hz; rw [List.mem_singleton.mp hz]; exact hyr
        · simp at hlen8 ⊢; (first | lia | omega)
      | some z =>
        have hzr : RowOk z := hok8 z (.head _)
        have hze : (z == Str.ofString "") = false := beq_eq_false_iff_ne.mpr (by rintro rfl; exact absurd hzr.len (by decide))
        have hbt : (!(e0 == Str.ofString "" && Option.getD (some z) e0 == Str.ofString "")) = true := by
          show (!(e0 == Str.ofString "" && z == Str.ofString "")) = true
          rw [hze]; simp
        rw [hbt]
        have fz : _root_.PySem.Heap.IsTuple _ T8 #[.str e0 ta8, .str z tb8] := hlT N9'
        have hzl := hzr.len
        have hyl := hyr.len
        have hz1 : -((z.length : Nat) : Int) ≤ -1 := by rw [hzl]; decide
        have hz2 : (-1 : Int) < ((z.length : Nat) : Int) := by rw [hzl]; decide
        have hy1 : -((y.length : Nat) : Int) ≤ -1 := by rw [hyl]; decide
        have hy2 : (-1 : Int) < ((y.length : Nat) : Int) := by rw [hyl]; decide
        (repeat' (first | (fail_if_success (first | (with_reducible show wpAny _ _ (exec (Stmt.For _ _ _ _ _) _) _ _ _) | (with_reducible show wpAny _ _ (exec (Stmt.While _ _ _ _) _) _ _ _) | (with_reducible show wpAny _ _ (eval (PySem.Expr.ListComp _ _ _ _) _) _ _ _) | (with_reducible show CompPack _) | (with_reducible show LoopPost _ _ _ _ _ _ _ _ _) | (with_reducible show wpAny _ _ (subscriptTail _ (PySem.Expr.Slice _ _ _ _) _ _) _ _ _) | (with_reducible show wpAny _ _ (binaryOp _ (Value.ref _) (Value.ref _)) _ _ _) | (with_reducible show wpAny _ _ (call (Value.builtin "list.append") _) _ _ _) | (with_reducible show wpAny _ _ (compareOp _ (Value.ref _) (Value.ref _)) _ _ _))); (first | (k_unfold; (try dsimp only)) | (first | ((k_here; (with_reducible show wpAny _ _ (call (Value.ref 236) _) _ _ _); k_dflt (refine' u_cmpK ?k1 ?k2 ?k3 ?k4 ?k5 ?k6 ?k7 ?_; (case k1 => k_asm); (case k2 => k_asm); (case k3 => assumption); (case k4 => assumption); (case k5 => exact rfl); (case k6 => decide); (case k7 => decide)); intro t' h' tk' hk' F' N'; (try k_sweep))) | ((with_reducible show wpAny _ _ (getMethod (Value.ref _) _ _) _ _ _); (k_here; k_dflt (refine' m_method ?k1 ?k2 ?k3 ?k4 ?k5 ?k6 ?k7 ?k8 ?k9 ?_; (case k1 => k_asm); (case k2 => k_asm); (case k3 => k_asm); (case k4 => (first | exact .inr (by assumption) | exact .inl (by k_mem))); (case k5 => (first | exact .inr (by assumption) | exact .inl (by k_mem))); (case k6 => k_is); (case k7 => k_is); (case k8 => decide +kernel); (case k9 => rfl)))) | walk1) | (dsimp only; (first | ((k_here; (with_reducible show wpAny _ _ (call (Value.ref 236) _) _ _ _); k_dflt (refine' u_cmpK ?k1 ?k2 ?k3 ?k4 ?k5 ?k6 ?k7 ?_; (case k1 => k_asm); (case k2 => k_asm); (case k3 => assumption); (case k4 => assumption); (case k5 => exact rfl); (case k6 => decide); (case k7 => decide)); intro t' h' tk' hk' F' N'; (try k_sweep))) | ((with_reducible show wpAny _ _ (getMethod (Value.ref _) _ _) _ _ _); (k_here; k_dflt (refine' m_method ?k1 ?k2 ?k3 ?k4 ?k5 ?k6 ?k7 ?k8 ?k9 ?_; (case k1 => k_asm); (case k2 => k_asm); (case k3 => k_asm); (case k4 => (first | exact .inr (by assumption) | exact .inl (by k_mem))); (case k5 => (first | exact .inr (by assumption) | exact .inl (by k_mem))); (case k6 => k_is); (case k7 => k_is); (case k8 => decide +kernel); (case k9 => rfl)))) | walk1)))))
        · rename Fr _ _ _ _ => FE
          rename News _ _ _ _ => NE
          rename cmpZ _ _ < 1 => hcm
          have fz2 : _root_.PySem.Heap.IsTuple _ T8 #[.str e0 ta8, .str z tb8] := hlT NE
          (repeat' (first | (fail_if_success (first | (with_reducible show wpAny _ _ (exec (Stmt.For _ _ _ _ _) _) _ _ _) | (with_reducible show wpAny _ _ (exec (Stmt.While _ _ _ _) _) _ _ _) | (with_reducible show wpAny _ _ (eval (PySem.Expr.ListComp _ _ _ _) _) _ _ _) | (with_reducible show CompPack _) | (with_reducible show LoopPost _ _ _ _ _ _ _ _ _) | (with_reducible show wpAny _ _ (subscriptTail _ (PySem.Expr.Slice _ _ _ _) _ _) _ _ _) | (with_reducible show wpAny _ _ (binaryOp _ (Value.ref _) (Value.ref _)) _ _ _) | (with_reducible show wpAny _ _ (call (Value.builtin "list.append") _) _ _ _) | (with_reducible show wpAny _ _ (compareOp _ (Value.ref _) (Value.ref _)) _ _ _))); (first | (k_unfold; (try dsimp only)) | (first | ((k_here; (with_reducible show wpAny _ _ (call (Value.ref 236) _) _ _ _); k_dflt (refine' u_cmpK ?k1 ?k2 ?k3 ?k4 ?k5 ?k6 ?k7 ?_; (case k1 => k_asm); (case k2 => k_asm); (case k3 => assumption); (case k4 => assumption); (case k5 => exact rfl); (case k6 => decide); (case k7 => decide)); intro t' h' tk' hk' F' N'; (try k_sweep))) | ((with_reducible show wpAny _ _ (getMethod (Value.ref _) _ _) _ _ _); (k_here; k_dflt (refine' m_method ?k1 ?k2 ?k3 ?k4 ?k5 ?k6 ?k7 ?k8 ?k9 ?_; (case k1 => k_asm); (case k2 => k_asm); (case k3 => k_asm); (case k4 => (first | exact .inr (by assumption) | exact .inl (by k_mem))); (case k5 => (first | exact .inr (by assumption) | exact .inl (by k_mem))); (case k6 => k_is); (case k7 => k_is); (case k8 => decide +kernel); (case k9 => rfl)))) | walk1) | (dsimp only; (first | ((k_here; (with_reducible show wpAny _ _ (call (Value.ref 236) _) _ _ _); k_dflt (refine' u_cmpK ?k1 ?k2 ?k3 ?k4 ?k5 ?k6 ?k7 ?_; (case k1 => k_asm); (case k2 => k_asm); (case k3 => assumption); (case k4 => assumption); (case k5 => exact rfl); (case k6 => decide); (case k7 => decide)); intro t' h' tk' hk' F' N'; (try k_sweep))) | ((with_reducible show wpAny _ _ (getMethod (Value.ref _) _ _) _ _ _); (k_here; k_dflt (refine' m_method ?k1 ?k2 ?k3 ?k4 ?k5 ?k6 ?k7 ?k8 ?k9 ?_; (case k1 => k_asm); (case k2 => k_asm); (case k3 => k_asm); (case k4 => (first | exact .inr (by assumption) | exact .inl (by k_mem))); (case k5 => (first | exact .inr (by assumption) | exact .inl (by k_mem))); (case k6 => k_is); (case k7 => k_is); (case k8 => decide +kernel); (case k9 => rfl)))) | walk1)))))
          rename Fr _ _ _ _ => FF
          rename News _ _ _ _ => NF
          have hgl := hg8.length
          refine append_K (its := vsg8.toArray) (n := ng8) FF NF (.tail (Ne.symm hGx) (.tail (Ne.symm hGd) (.head fun q hq => by rcases List.mem_append.mp hq with hq | hq; (· exact (off8 q hq).2); exact o2 q hq))) ?_ (by rw [List.size_toArray, hgl, sizeLine_eq]; (first | lia | omega))
          intro hG FG NG
          rw [show vsg8.toArray.push (Value.str z tb8) = (vsg8 ++ [Value.str z tb8]).toArray by simp] at NG
          clear FF NF
          (repeat' (first | (fail_if_success (first | (with_reducible show wpAny _ _ (exec (Stmt.For _ _ _ _ _) _) _ _ _) | (with_reducible show wpAny _ _ (exec (Stmt.While _ _ _ _) _) _ _ _) | (with_reducible show wpAny _ _ (eval (PySem.Expr.ListComp _ _ _ _) _) _ _ _) | (with_reducible show CompPack _) | (with_reducible show LoopPost _ _ _ _ _ _ _ _ _) | (with_reducible show wpAny _ _ (subscriptTail _ (PySem.Expr.Slice _ _ _ _) _ _) _ _ _) | (with_reducible show wpAny _ _ (binaryOp _ (Value.ref _) (Value.ref _)) _ _ _) | (with_reducible show wpAny _ _ (call (Value.builtin "list.append") _) _ _ _) | (with_reducible show wpAny _ _ (compareOp _ (Value.ref _) (Value.ref _)) _ _ _))); (first | (k_unfold; (try dsimp only)) | (first | ((k_here; (with_reducible show wpAny _ _ (call (Value.ref 236) _) _ _ _); k_dflt (refine' u_cmpK ?k1 ?k2 ?k3 ?k4 ?k5 ?k6 ?k7 ?_; (case k1 => k_asm); (case k2 => k_asm); (case k3 => assumption); (case k4 => assumption); (case k5 => exact rfl); (case k6 => decide); (case k7 => decide)); intro t' h' tk' hk' F' N'; (try k_sweep))) | ((with_reducible show wpAny _ _ (getMethod (Value.ref _) _ _) _ _ _); (k_here; k_dflt (refine' m_method ?k1 ?k2 ?k3 ?k4 ?k5 ?k6 ?k7 ?k8 ?k9 ?_; (case k1 => k_asm); (case k2 => k_asm); (case k3 => k_asm); (case k4 => (first | exact .inr (by assumption) | exact .inl (by k_mem))); (case k5 => (first | exact .inr (by assumption) | exact .inl (by k_mem))); (case k6 => k_is); (case k7 => k_is); (case k8 => decide +kernel); (case k9 => rfl)))) | walk1) | (dsimp only; (first | ((k_here; (with_reducible show wpAny _ _ (call (Value.ref 236) _) _ _ _); k_dflt (refine' u_cmpK ?k1 ?k2 ?k3 ?k4 ?k5 ?k6 ?k7 ?_; (case k1 => k_asm); (case k2 => k_asm); (case k3 => assumption); (case k4 => assumption); (case k5 => exact rfl); (case k6 => decide); (case k7 => decide)); intro t' h' tk' hk' F' N'; (try k_sweep))) | ((with_reducible show wpAny _ _ (getMethod (Value.ref _) _ _) _ _ _); (k_here; k_dflt (refine' m_method ?k1 ?k2 ?k3 ?k4 ?k5 ?k6 ?k7 ?k8 ?k9 ?_; (case k1 => k_asm); (case k2 => k_asm); (case k3 => k_asm); (case k4 => (first | exact .inr (by assumption) | exact .inl (by k_mem))); (case k5 => (first | exact .inr (by assumption) | exact .inl (by k_mem))); (case k6 => k_is); (case k7 => k_is); (case k8 => decide +kernel); (case k9 => rfl)))) | walk1)))))
          rename Fr _ _ _ _ => FH
          rename News _ _ _ _ => NH
          show wpAny _ _ (call (.ref 138) [.ref x]) _ _ _
          refine u_popO FH NH D hst rfl (by decide) (by decide) (offx off8) hp8 (by simp at hlen8; (first | lia | omega)) ?_
          intro hI tkI nI psI TI oI tlI topI PI hPI hnI FI NI hpI hTI htI hsubI hfrI
          clear FH NH
          (repeat' (first | (fail_if_success (first | (with_reducible show wpAny _ _ (exec (Stmt.For _ _ _ _ _) _) _ _ _) | (with_reducible show wpAny _ _ (exec (Stmt.While _ _ _ _) _) _ _ _) | (with_reducible show wpAny _ _ (eval (PySem.Expr.ListComp _ _ _ _) _) _ _ _) | (with_reducible show CompPack _) | (with_reducible show LoopPost _ _ _ _ _ _ _ _ _) | (with_reducible show wpAny _ _ (subscriptTail _ (PySem.Expr.Slice _ _ _ _) _ _) _ _ _) | (with_reducible show wpAny _ _ (binaryOp _ (Value.ref _) (Value.ref _)) _ _ _) | (with_reducible show wpAny _ _ (call (Value.builtin "list.append") _) _ _ _) | (with_reducible show wpAny _ _ (compareOp _ (Value.ref _) (Value.ref _)) _ _ _))); (first | (k_unfold; (try dsimp only)) | (first | ((k_here; (with_reducible show wpAny _ _ (call (Value.ref 236) _) _ _ _); k_dflt (refine' u_cmpK ?k1 ?k2 ?k3 ?k4 ?k5 ?k6 ?k7 ?_; (case k1 => k_asm); (case k2 => k_asm); (case k3 => assumption); (case k4 => assumption); (case k5 => exact rfl); (case k6 => decide); (case k7 => decide)); intro t' h' tk' hk' F' N'; (try k_sweep))) | ((with_reducible show wpAny _ _ (getMethod (Value.ref _) _ _) _ _ _); (k_here; k_dflt (refine' m_method ?k1 ?k2 ?k3 ?k4 ?k5 ?k6 ?k7 ?k8 ?k9 ?_; (case k1 => k_asm); (case k2 => k_asm); (case k3 => k_asm); (case k4 => (first | exact .inr (by assumption) | exact .inl (by k_mem))); (case k5 => (first | exact .inr (by assumption) | exact .inl (by k_mem))); (case k6 => k_is); (case k7 => k_is); (case k8 => decide +kernel); (case k9 => rfl)))) | walk1) | (dsimp only; (first | ((k_here; (with_reducible show wpAny _ _ (call (Value.ref 236) _) _ _ _); k_dflt (refine' u_cmpK ?k1 ?k2 ?k3 ?k4 ?k5 ?k6 ?k7 ?_; (case k1 => k_asm); (case k2 => k_asm); (case k3 => assumption); (case k4 => assumption); (case k5 => exact rfl); (case k6 => decide); (case k7 => decide)); intro t' h' tk' hk' F' N'; (try k_sweep))) | ((with_reducible show wpAny _ _ (getMethod (Value.ref _) _ _) _ _ _); (k_here; k_dflt (refine' m_method ?k1 ?k2 ?k3 ?k4 ?k5 ?k6 ?k7 ?k8 ?k9 ?_; (case k1 => k_asm); (case k2 => k_asm); (case k3 => k_asm); (case k4 => (first | exact .inr (by assumption) | exact .inl (by k_mem))); (case k5 => (first | exact .inr (by assumption) | exact .inl (by k_mem))); (case k6 => k_is); (case k7 => k_is); (case k8 => decide +kernel); (case k9 => rfl)))) | walk1)))))
          rename Fr _ _ _ _ => FJ
          rename News _ _ _ _ => NJ
          subst hPI
          have hle : leZ z y = true := by rw [cmp_leZ (by (first | lia | omega)) (by (first | lia | omega))]; exact decide_eq_true hcm
          refine ⟨(topI.toList ++ PI).length, by simp, _, _, _, tlI, psI, nI, vsg8 ++ [Value.str z tb8], ng8 + 1, PI, gone8 ++ [z], TI, oI, topI, rfl, FJ, NJ, fr_off hfrI off8 ⟨_, .head _⟩ ⟨_, .tail _ (.tail _ (.head _))⟩, fr_own hfrI offO8 fun q hq => .tail _ (.tail _ (.tail _ (List.mem_append_right _ hq))), hpI, hTI, htI, hnI, strs_push hg8, ?_, ?_, ?_, rfl, rfl, rfl, rfl, rfl⟩
          · rw [← hlaw8, List.append_assoc]
            exact congrArg _ (passA_pop hle).symm
          · exact fun q hq => hok8 q (.tail _ hq)
          · simp at hlen8 ⊢; (first | lia | omega)
        · rename Fr _ _ _ _ => FE
          rename News _ _ _ _ => NE
          rename ¬ cmpZ _ _ < 1 => hcm
          have NE' : News g L _ ((x, acObj d ps8 n8) :: (d, acDict hs0 t0 (.int 0 ti) 1) :: (Gn, listOf vsg8.toArray ng8) :: (tl8 ++ own)) := fun q hq => NE q (.tail _ hq)
          refine ne_pairs (hlT NE') ⟨_, (NE _ (.head _)).1, rfl, _, rfl⟩ (by decide) ?_
          clear NE
          rw [hbt]
          have fz2 : _root_.PySem.Heap.IsTuple _ T8 #[.str e0 ta8, .str z tb8] := hlT NE'
          (repeat' (first | (fail_if_success (first | (with_reducible show wpAny _ _ (exec (Stmt.For _ _ _ _ _) _) _ _ _) | (with_reducible show wpAny _ _ (exec (Stmt.While _ _ _ _) _) _ _ _) | (with_reducible show wpAny _ _ (eval (PySem.Expr.ListComp _ _ _ _) _) _ _ _) | (with_reducible show CompPack _) | (with_reducible show LoopPost _ _ _ _ _ _ _ _ _) | (with_reducible show wpAny _ _ (subscriptTail _ (PySem.Expr.Slice _ _ _ _) _ _) _ _ _) | (with_reducible show wpAny _ _ (binaryOp _ (Value.ref _) (Value.ref _)) _ _ _) | (with_reducible show wpAny _ _ (call (Value.builtin "list.append") _) _ _ _) | (with_reducible show wpAny _ _ (compareOp _ (Value.ref _) (Value.ref _)) _ _ _))); (first | (k_unfold; (try dsimp only)) | (first | ((k_here; (with_reducible show wpAny _ _ (call (Value.ref 236) _) _ _ _); k_dflt (refine' u_cmpK ?k1 ?k2 ?k3 ?k4 ?k5 ?k6 ?k7 ?_; (case k1 => k_asm); (case k2 => k_asm); (case k3 => assumption); (case k4 => assumption); (case k5 => exact rfl); (case k6 => decide); (case k7 => decide)); intro t' h' tk' hk' F' N'; (try k_sweep))) | ((with_reducible show wpAny _ _ (getMethod (Value.ref _) _ _) _ _ _); (k_here; k_dflt (refine' m_method ?k1 ?k2 ?k3 ?k4 ?k5 ?k6 ?k7 ?k8 ?k9 ?_; (case k1 => k_asm); (case k2 => k_asm); (case k3 => k_asm); (case k4 => (first | exact .inr (by assumption) | exact .inl (by k_mem))); (case k5 => (first | exact .inr (by assumption) | exact .inl (by k_mem))); (case k6 => k_is); (case k7 => k_is); (case k8 => decide +kernel); (case k9 => rfl)))) | walk1) | (dsimp only; (first | ((k_here; (with_reducible show wpAny _ _ (call (Value.ref 236) _) _ _ _); k_dflt (refine' u_cmpK ?k1 ?k2 ?k3 ?k4 ?k5 ?k6 ?k7 ?_; (case k1 => k_asm); (case k2 => k_asm); (case k3 => assumption); (case k4 => assumption); (case k5 => exact rfl); (case k6 => decide); (case k7 => decide)); intro t' h' tk' hk' F' N'; (try k_sweep))) | ((with_reducible show wpAny _ _ (getMethod (Value.ref _) _ _) _ _ _); (k_here; k_dflt (refine' m_method ?k1 ?k2 ?k3 ?k4 ?k5 ?k6 ?k7 ?k8 ?k9 ?_; (case k1 => k_asm); (case k2 => k_asm); (case k3 => k_asm); (case k4 => (first | exact .inr (by assumption) | exact .inl (by k_mem))); (case k5 => (first | exact .inr (by assumption) | exact .inl (by k_mem))); (case k6 => k_is); (case k7 => k_is); (case k8 => decide +kernel); (case k9 => rfl)))) | walk1)))))
          rename Fr _ _ _ _ => FF
          rename News _ _ _ _ => NF
          show wpAny _ _ (call (.ref 122) [.ref x, .str e0 _, .str z tb8]) _ _ _
          refine u_pushO FF NF D hst rfl (by decide) (by decide) offx8 hp8 (by simp at hlen8; (first | lia | omega)) ?_
          intro hC tkC nC psC tlC FC NC hpC hsubC hfrC
          clear FF NF
          have offC := fr_off hfrC off8 ⟨_, .head _⟩ ⟨_, .tail _ (.tail _ (.head _))⟩
          have ownC := fr_own hfrC offO8 fun q hq => .tail _ (.tail _ (.tail _ (List.mem_append_right _ hq)))
          (repeat' (first | (fail_if_success (first | (with_reducible show wpAny _ _ (exec (Stmt.For _ _ _ _ _) _) _ _ _) | (with_reducible show wpAny _ _ (exec (Stmt.While _ _ _ _) _) _ _ _) | (with_reducible show wpAny _ _ (eval (PySem.Expr.ListComp _ _ _ _) _) _ _ _) | (with_reducible show CompPack _) | (with_reducible show LoopPost _ _ _ _ _ _ _ _ _) | (with_reducible show wpAny _ _ (subscriptTail _ (PySem.Expr.Slice _ _ _ _) _ _) _ _ _) | (with_reducible show wpAny _ _ (binaryOp _ (Value.ref _) (Value.ref _)) _ _ _) | (with_reducible show wpAny _ _ (call (Value.builtin "list.append") _) _ _ _) | (with_reducible show wpAny _ _ (compareOp _ (Value.ref _) (Value.ref _)) _ _ _))); (first | (k_unfold; (try dsimp only)) | (first | ((k_here; (with_reducible show wpAny _ _ (call (Value.ref 236) _) _ _ _); k_dflt (refine' u_cmpK ?k1 ?k2 ?k3 ?k4 ?k5 ?k6 ?k7 ?_; (case k1 => k_asm); (case k2 => k_asm); (case k3 => assumption); (case k4 => assumption); (case k5 => exact rfl); (case k6 => decide); (case k7 => decide)); intro t' h' tk' hk' F' N'; (try k_sweep))) | ((with_reducible show wpAny _ _ (getMethod (Value.ref _) _ _) _ _ _); (k_here; k_dflt (refine' m_method ?k1 ?k2 ?k3 ?k4 ?k5 ?k6 ?k7 ?k8 ?k9 ?_; (case k1 => k_asm); (case k2 => k_asm); (case k3 => k_asm); (case k4 => (first | exact .inr (by assumption) | exact .inl (by k_mem))); (case k5 => (first | exact .inr (by assumption) | exact .inl (by k_mem))); (case k6 => k_is); (case k7 => k_is); (case k8 => decide +kernel); (case k9 => rfl)))) | walk1) | (dsimp only; (first | ((k_here; (with_reducible show wpAny _ _ (call (Value.ref 236) _) _ _ _); k_dflt (refine' u_cmpK ?k1 ?k2 ?k3 ?k4 ?k5 ?k6 ?k7 ?_; (case k1 => k_asm); (case k2 => k_asm); (case k3 => assumption); (case k4 => assumption); (case k5 => exact rfl); (case k6 => decide); (case k7 => decide)); intro t' h' tk' hk' F' N'; (try k_sweep))) | ((with_reducible show wpAny _ _ (getMethod (Value.ref _) _ _) _ _ _); (k_here; k_dflt (refine' m_method ?k1 ?k2 ?k3 ?k4 ?k5 ?k6 ?k7 ?k8 ?k9 ?_; (case k1 => k_asm); (case k2 => k_asm); (case k3 => k_asm); (case k4 => (first | exact .inr (by assumption) | exact .inl (by k_mem))); (case k5 => (first | exact .inr (by assumption) | exact .inl (by k_mem))); (case k6 => k_is); (case k7 => k_is); (case k8 => decide +kernel); (case k9 => rfl)))) | walk1)))))
          rename Fr _ _ _ _ => FG
          rename News _ _ _ _ => NG
          show wpAny _ _ (call (.ref 122) [.ref x, .str e0 _, .str y ty]) _ _ _
          refine u_pushO FG NG D hst rfl (by decide) (by decide) (offx offC) hpC (by simp at hlen8 ⊢; (first | lia | omega)) ?_
          intro hH tkH nH psH tlH FH NH hpH hsubH hfrH
          clear FG NG
          (repeat' (first | (fail_if_success (first | (with_reducible show wpAny _ _ (exec (Stmt.For _ _ _ _ _) _) _ _ _) | (with_reducible show wpAny _ _ (exec (Stmt.While _ _ _ _) _) _ _ _) | (with_reducible show wpAny _ _ (eval (PySem.Expr.ListComp _ _ _ _) _) _ _ _) | (with_reducible show CompPack _) | (with_reducible show LoopPost _ _ _ _ _ _ _ _ _) | (with_reducible show wpAny _ _ (subscriptTail _ (PySem.Expr.Slice _ _ _ _) _ _) _ _ _) | (with_reducible show wpAny _ _ (binaryOp _ (Value.ref _) (Value.ref _)) _ _ _) | (with_reducible show wpAny _ _ (call (Value.builtin "list.append") _) _ _ _) | (with_reducible show wpAny _ _ (compareOp _ (Value.ref _) (Value.ref _)) _ _ _))); (first | (k_unfold; (try dsimp only)) | (first | ((k_here; (with_reducible show wpAny _ _ (call (Value.ref 236) _) _ _ _); k_dflt (refine' u_cmpK ?k1 ?k2 ?k3 ?k4 ?k5 ?k6 ?k7 ?_; (case k1 => k_asm); (case k2 => k_asm); (case k3 => assumption); (case k4 => assumption); (case k5 => exact rfl); (case k6 => decide); (case k7 => decide)); intro t' h' tk' hk' F' N'; (try k_sweep))) | ((with_reducible show wpAny _ _ (getMethod (Value.ref _) _ _) _ _ _); (k_here; k_dflt (refine' m_method ?k1 ?k2 ?k3 ?k4 ?k5 ?k6 ?k7 ?k8 ?k9 ?_; (case k1 => k_asm); (case k2 => k_asm); (case k3 => k_asm); (case k4 => (first | exact .inr (by assumption) | exact .inl (by k_mem))); (case k5 => (first | exact .inr (by assumption) | exact .inl (by k_mem))); (case k6 => k_is); (case k7 => k_is); (case k8 => decide +kernel); (case k9 => rfl)))) | walk1) | (dsimp only; (first | ((k_here; (with_reducible show wpAny _ _ (call (Value.ref 236) _) _ _ _); k_dflt (refine' u_cmpK ?k1 ?k2 ?k3 ?k4 ?k5 ?k6 ?k7 ?_; (case k1 => k_asm); (case k2 => k_asm); (case k3 => assumption); (case k4 => assumption); (case k5 => exact rfl); (case k6 => decide); (case k7 => decide)); intro t' h' tk' hk' F' N'; (try k_sweep))) | ((with_reducible show wpAny _ _ (getMethod (Value.ref _) _ _) _ _ _); (k_here; k_dflt (refine' m_method ?k1 ?k2 ?k3 ?k4 ?k5 ?k6 ?k7 ?k8 ?k9 ?_; (case k1 => k_asm); (case k2 => k_asm); (case k3 => k_asm); (case k4 => (first | exact .inr (by assumption) | exact .inl (by k_mem))); (case k5 => (first | exact .inr (by assumption) | exact .inl (by k_mem))); (case k6 => k_is); (case k7 => k_is); (case k8 => decide +kernel); (case k9 => rfl)))) | walk1)))))
          rename Fr _ _ _ _ => FD
          rename News _ _ _ _ => ND
          have hle : leZ z y = false := by rw [cmp_leZ (by (first | lia | omega)) (by (first | lia | omega))]; exact decide_eq_false hcm
          refine ⟨_, _, _, (x, acObj d psH nH) :: (d, acDict hs0 t0 (.int 0 ti) 1) :: (Gn, listOf vsg8.toArray ng8) :: tlH, _, rfl, FD, ND, ownoff (fr_own hfrH ownC fun q hq => .tail _ (.tail _ (.tail _ (List.mem_append_right _ hq)))), rfl, tlH, psH, nH, vsg8, ng8, y :: z :: P8, gone8, rfl, fr_off hfrH offC ⟨_, .head _⟩ ⟨_, .tail _ (.tail _ (.head _))⟩, hpH, hg8, ?_, ?_, ?_, rfl, rfl⟩
          · rw [← hlaw8]
            exact congrArg _ (passA_lay fun t ht => by cases ht; exact hle).symm
          · intro q hq
            rcases List.mem_cons.mp hq with rfl | hq
            · exact hyr
            · exact hok8 q hq
          · simp at hlen8 ⊢; (first | lia | omega)
    · subst hP6
      exact ⟨_, _, _, tl6, ps6, n6, vsg, ng, P6, gone, T, o, top, rfl, F7, N7, fr_off hfr6 off ⟨_, .head _⟩ ⟨_, .tail _ (.tail _ (.head _))⟩, fr_own hfr6 o3 fun q hq => .tail _ (.tail _ (.tail _ (List.mem_append_right _ hq))), hp6, hT6, ht6, hn6, hg, hlaw, hok, hlen, rfl, rfl, rfl, rfl, rfl⟩
  · rintro m nw h4 tk4 gs E4 ⟨rfl, tl, ps, n, vsg, ng, P, gone, rfl, off, hp, hg, hlaw, hok, hlen, hm1, hm2⟩ F4 N4
    clear F3 N3 N3'
    obtain ⟨m4, rfl⟩ := as_if2 hm1 hm2
    clear hm1 hm2
    dsimp only at F4
    rw [show vs.toArray.size = rs.length by have := hi.length; simp; (first | lia | omega), List.drop_length] at hlaw
    have hxG : G.get? x = none := by
      cases e2 : G.get? x with
      | none => rfl
      | some o => have z := (N4 _ (.head _)).2.2; rw [hst x o e2] at z; cases z
    have hPn : P.length ≤ 10 := by
      have e1 := (passed_perm leZ rs).length_eq
      rw [← hlaw, passA, List.length_append] at e1
      (first | lia | omega)
    have hgn : gone.length ≤ 10 := by
      have e1 := (passed_perm leZ rs).length_eq
      rw [← hlaw, passA, List.length_append] at e1
      (first | lia | omega)
    (repeat' (first | (fail_if_success (first | (with_reducible show wpAny _ _ (exec (Stmt.For _ _ _ _ _) _) _ _ _) | (with_reducible show wpAny _ _ (exec (Stmt.While _ _ _ _) _) _ _ _) | (with_reducible show wpAny _ _ (eval (PySem.Expr.ListComp _ _ _ _) _) _ _ _) | (with_reducible show CompPack _) | (with_reducible show LoopPost _ _ _ _ _ _ _ _ _) | (with_reducible show wpAny _ _ (subscriptTail _ (PySem.Expr.Slice _ _ _ _) _ _) _ _ _) | (with_reducible show wpAny _ _ (binaryOp _ (Value.ref _) (Value.ref _)) _ _ _) | (with_reducible show wpAny _ _ (call (Value.builtin "list.append") _) _ _ _) | (with_reducible show wpAny _ _ (compareOp _ (Value.ref _) (Value.ref _)) _ _ _))); (first | (k_unfold; (try dsimp only)) | (first | ((k_here; (with_reducible show wpAny _ _ (call (Value.ref 236) _) _ _ _); k_dflt (refine' u_cmpK ?k1 ?k2 ?k3 ?k4 ?k5 ?k6 ?k7 ?_; (case k1 => k_asm); (case k2 => k_asm); (case k3 => assumption); (case k4 => assumption); (case k5 => exact rfl); (case k6 => decide); (case k7 => decide)); intro t' h' tk' hk' F' N'; (try k_sweep))) | ((with_reducible show wpAny _ _ (getMethod (Value.ref _) _ _) _ _ _); (k_here; k_dflt (refine' m_method ?k1 ?k2 ?k3 ?k4 ?k5 ?k6 ?k7 ?k8 ?k9 ?_; (case k1 => k_asm); (case k2 => k_asm); (case k3 => k_asm); (case k4 => (first | exact .inr (by assumption) | exact .inl (by k_mem))); (case k5 => (first | exact .inr (by assumption) | exact .inl (by k_mem))); (case k6 => k_is); (case k7 => k_is); (case k8 => decide +kernel); (case k9 => rfl)))) | walk1) | (dsimp only; (first | ((k_here; (with_reducible show wpAny _ _ (call (Value.ref 236) _) _ _ _); k_dflt (refine' u_cmpK ?k1 ?k2 ?k3 ?k4 ?k5 ?k6 ?k7 ?_; (case k1 => k_asm); (case k2 => k_asm); (case k3 => assumption); (case k4 => assumption); (case k5 => exact rfl); (case k6 => decide); (case k7 => decide)); intro t' h' tk' hk' F' N'; (try k_sweep))) | ((with_reducible show wpAny _ _ (getMethod (Value.ref _) _ _) _ _ _); (k_here; k_dflt (refine' m_method ?k1 ?k2 ?k3 ?k4 ?k5 ?k6 ?k7 ?k8 ?k9 ?_; (case k1 => k_asm); (case k2 => k_asm); (case k3 => k_asm); (case k4 => (first | exact .inr (by assumption) | exact .inl (by k_mem))); (case k5 => (first | exact .inr (by assumption) | exact .inl (by k_mem))); (case k6 => k_is); (case k7 => k_is); (case k8 => decide +kernel); (case k9 => rfl)))) | walk1)))))
    apply comp_pairsU (fun j v => ∃ t, v = Value.str (P.getD j e0) t)
    case hh => with_unfolding_all rfl
    case hclos => with_unfolding_all rfl
    case hcell => decide
    case hkind => with_unfolding_all rfl
    case hnames => decide
    case hxa => with_unfolding_all rfl
    case hxb => with_unfolding_all rfl
    case hab => decide
    case hs1 => intro _; with_unfolding_all rfl
    case hp0 => intro _; with_unfolding_all rfl
    (repeat' (first | (fail_if_success (first | (with_reducible show wpAny _ _ (exec (Stmt.For _ _ _ _ _) _) _ _ _) | (with_reducible show wpAny _ _ (exec (Stmt.While _ _ _ _) _) _ _ _) | (with_reducible show wpAny _ _ (eval (PySem.Expr.ListComp _ _ _ _) _) _ _ _) | (with_reducible show CompPack _) | (with_reducible show LoopPost _ _ _ _ _ _ _ _ _) | (with_reducible show wpAny _ _ (subscriptTail _ (PySem.Expr.Slice _ _ _ _) _ _) _ _ _) | (with_reducible show wpAny _ _ (binaryOp _ (Value.ref _) (Value.ref _)) _ _ _) | (with_reducible show wpAny _ _ (call (Value.builtin "list.append") _) _ _ _) | (with_reducible show wpAny _ _ (compareOp _ (Value.ref _) (Value.ref _)) _ _ _))); (first | (k_unfold; (try dsimp only)) | (first | ((k_here; (with_reducible show wpAny _ _ (call (Value.ref 236) _) _ _ _); k_dflt (refine' u_cmpK ?k1 ?k2 ?k3 ?k4 ?k5 ?k6 ?k7 ?_; (case k1 => k_asm); (case k2 => k_asm); (case k3 => assumption); (case k4 => assumption); (case k5 => exact rfl); (case k6 => decide); (case k7 => decide)); intro t' h' tk' hk' F' N'; (try k_sweep))) | ((with_reducible show wpAny _ _ (getMethod (Value.ref _) _ _) _ _ _); (k_here; k_dflt (refine' m_method ?k1 ?k2 ?k3 ?k4 ?k5 ?k6 ?k7 ?k8 ?k9 ?_; (case k1 => k_asm); (case k2 => k_asm); (case k3 => k_asm); (case k4 => (first | exact .inr (by assumption) | exact .inl (by k_mem))); (case k5 => (first | exact .inr (by assumption) | exact .inl (by k_mem))); (case k6 => k_is); (case k7 => k_is); (case k8 => decide +kernel); (case k9 => rfl)))) | walk1) | (dsimp only; (first | ((k_here; (with_reducible show wpAny _ _ (call (Value.ref 236) _) _ _ _); k_dflt (refine' u_cmpK ?k1 ?k2 ?k3 ?k4 ?k5 ?k6 ?k7 ?_; (case k1 => k_asm); (case k2 => k_asm); (case k3 => assumption); (case k4 => assumption); (case k5 => exact rfl); (case k6 => decide); (case k7 => decide)); intro t' h' tk' hk' F' N'; (try k_sweep))) | ((with_reducible show wpAny _ _ (getMethod (Value.ref _) _ _) _ _ _); (k_here; k_dflt (refine' m_method ?k1 ?k2 ?k3 ?k4 ?k5 ?k6 ?k7 ?k8 ?k9 ?_; (case k1 => k_asm); (case k2 => k_asm); (case k3 => k_asm); (case k4 => (first | exact .inr (by assumption) | exact .inl (by k_mem))); (case k5 => (first | exact .inr (by assumption) | exact .inl (by k_mem))); (case k6 => k_is); (case k7 => k_is); (case k8 => decide +kernel); (case k9 => rfl)))) | walk1)))))
    rename Fr _ _ _ _ => F5
    rename News _ _ _ _ => N5
    refine wp_up rfl (by decide) (by decide) (c_popfrom0 D (stays_fr F5 hst) (N5 _ (.head _)).1 (N5 _ (.tail _ (.head _))).1 hxG (by rw [hp.1]; simp [pileOf]; (first | lia | omega)) ?_)
    intro h6 tk6 n6 R6 hk6 hR6 hR6' hx6
    dsimp only at hk6 hR6
    obtain ⟨F6, N6⟩ := upd_news F5 N5 (.head <| by
      refine all_cons ?_ (all_cons ?_ (fun q hq => ?_))
      · exact hdx
      · exact hGx
      · exact (off q hq).1) hk6 hx6
    have N7 := news_more N6 F5 hR6 hR6'
    clear N6
    (repeat' (first | (fail_if_success (first | (with_reducible show wpAny _ _ (exec (Stmt.For _ _ _ _ _) _) _ _ _) | (with_reducible show wpAny _ _ (exec (Stmt.While _ _ _ _) _) _ _ _) | (with_reducible show wpAny _ _ (eval (PySem.Expr.ListComp _ _ _ _) _) _ _ _) | (with_reducible show CompPack _) | (with_reducible show LoopPost _ _ _ _ _ _ _ _ _) | (with_reducible show wpAny _ _ (subscriptTail _ (PySem.Expr.Slice _ _ _ _) _ _) _ _ _) | (with_reducible show wpAny _ _ (binaryOp _ (Value.ref _) (Value.ref _)) _ _ _) | (with_reducible show wpAny _ _ (call (Value.builtin "list.append") _) _ _ _) | (with_reducible show wpAny _ _ (compareOp _ (Value.ref _) (Value.ref _)) _ _ _))); (first | (k_unfold; (try dsimp only)) | (first | ((k_here; (with_reducible show wpAny _ _ (call (Value.ref 236) _) _ _ _); k_dflt (refine' u_cmpK ?k1 ?k2 ?k3 ?k4 ?k5 ?k6 ?k7 ?_; (case k1 => k_asm); (case k2 => k_asm); (case k3 => assumption); (case k4 => assumption); (case k5 => exact rfl); (case k6 => decide); (case k7 => decide)); intro t' h' tk' hk' F' N'; (try k_sweep))) | ((with_reducible show wpAny _ _ (getMethod (Value.ref _) _ _) _ _ _); (k_here; k_dflt (refine' m_method ?k1 ?k2 ?k3 ?k4 ?k5 ?k6 ?k7 ?k8 ?k9 ?_; (case k1 => k_asm); (case k2 => k_asm); (case k3 => k_asm); (case k4 => (first | exact .inr (by assumption) | exact .inl (by k_mem))); (case k5 => (first | exact .inr (by assumption) | exact .inl (by k_mem))); (case k6 => k_is); (case k7 => k_is); (case k8 => decide +kernel); (case k9 => rfl)))) | walk1) | (dsimp only; (first | ((k_here; (with_reducible show wpAny _ _ (call (Value.ref 236) _) _ _ _); k_dflt (refine' u_cmpK ?k1 ?k2 ?k3 ?k4 ?k5 ?k6 ?k7 ?_; (case k1 => k_asm); (case k2 => k_asm); (case k3 => assumption); (case k4 => assumption); (case k5 => exact rfl); (case k6 => decide); (case k7 => decide)); intro t' h' tk' hk' F' N'; (try k_sweep))) | ((with_reducible show wpAny _ _ (getMethod (Value.ref _) _ _) _ _ _); (k_here; k_dflt (refine' m_method ?k1 ?k2 ?k3 ?k4 ?k5 ?k6 ?k7 ?k8 ?k9 ?_; (case k1 => k_asm); (case k2 => k_asm); (case k3 => k_asm); (case k4 => (first | exact .inr (by assumption) | exact .inl (by k_mem))); (case k5 => (first | exact .inr (by assumption) | exact .inl (by k_mem))); (case k6 => k_is); (case k7 => k_is); (case k8 => decide +kernel); (case k9 => rfl)))) | walk1)))))
    rename Fr _ _ _ _ => F7
    rename News _ _ _ _ => N8
    obtain ⟨hpsz, Ts, ta, tb, f⟩ := hp
    have hpl : (pileOf P).length = P.length := by simp [pileOf]
    rw [hpl] at hpsz f
    k_dflt (refine' slice_any (zs := ps.toList.reverse) F7 N8 (News.isList N8 (.head _)) .none .none (.int (-1) _) ?s0 ?se ?_ ?s1 ?s3)
    case s0 => decide
    case se => exact (congrArg Array.toList (krv_pick _)).trans (by simp)
    case s1 => with_unfolding_all rfl
    case s3 => rw [hpsz, sizeLine_eq]; (first | lia | omega)
    intro D8 h8 F8 N9 l8
    clear F7 N8
    have hsz : ps.toList.reverse.toArray.size = P.length := by simp [hpsz]
    refine pairs_pack (fun j => Ts (P.length - 1 - j)) (fun j => .str e0 (ta (P.length - 1 - j))) (fun j => .str (P.getD j e0) (tb (P.length - 1 - j))) rfl (N9.isList (.head _)) ?_ ?_ ?_ ?_ ?_
    · intro j hj
      rw [hsz] at hj
      rw [← (f (P.length - 1 - j) (pile_lt (by assumption))).1]
      simp only [List.getElem?_toArray]
      rw [List.getElem?_reverse (by rw [Array.length_toList, hpsz]; exact hj), Array.length_toList, hpsz]
      simp
    · intro j hj
      rw [hsz] at hj
      obtain ⟨o, ho, hc, n', hd⟩ := (f (P.length - 1 - j) (pile_lt (by assumption))).2
      rw [pile_at hj] at hd
      exact ⟨o, (N9 _ (.tail _ (.tail _ (.tail _ (.tail _ (.tail _ ho)))))).1, hc, _, hd⟩
    · rw [hsz]; (first | lia | omega)
    · intro C i s₃ m₃ E' _ hns _ hb
      exact wpAny_Name (wpAny_loadName_local rfl rfl hns hb ⟨⟨_, rfl⟩, _, _, rfl, fun _ _ e => e⟩)
    intro D9 ys9 h9 tk9 hD9 hpl9 hlen9 hys9 hk9
    dsimp only at hD9 hk9
    obtain ⟨k9, e9⟩ := hpl9
    have FA := frK F8 hk9
    have NA := news_more (newsK N9 hk9) F8 hD9 e9
    clear F8 N9
    have hs9 : StrsAre ys9 P := strs_of (by rw [hlen9, hsz]) hys9
    have hgl := hg.length
    refine add_lists FA NA (vs := vsg) (ws := ys9) (News.isList NA (.tail _ (.tail _ (.tail _ (.tail _ (.tail _ (.head _))))))) (News.isList NA (.head _)) ?_ (by rw [hlen9, hsz, hgl, sizeLine_eq]; (first | lia | omega))
    intro hB FB NB
    clear FA NA
    (repeat' (first | (fail_if_success (first | (with_reducible show wpAny _ _ (exec (Stmt.For _ _ _ _ _) _) _ _ _) | (with_reducible show wpAny _ _ (exec (Stmt.While _ _ _ _) _) _ _ _) | (with_reducible show wpAny _ _ (eval (PySem.Expr.ListComp _ _ _ _) _) _ _ _) | (with_reducible show CompPack _) | (with_reducible show LoopPost _ _ _ _ _ _ _ _ _) | (with_reducible show wpAny _ _ (subscriptTail _ (PySem.Expr.Slice _ _ _ _) _ _) _ _ _) | (with_reducible show wpAny _ _ (binaryOp _ (Value.ref _) (Value.ref _)) _ _ _) | (with_reducible show wpAny _ _ (call (Value.builtin "list.append") _) _ _ _) | (with_reducible show wpAny _ _ (compareOp _ (Value.ref _) (Value.ref _)) _ _ _))); (first | (k_unfold; (try dsimp only)) | (first | ((k_here; (with_reducible show wpAny _ _ (call (Value.ref 236) _) _ _ _); k_dflt (refine' u_cmpK ?k1 ?k2 ?k3 ?k4 ?k5 ?k6 ?k7 ?_; (case k1 => k_asm); (case k2 => k_asm); (case k3 => assumption); (case k4 => assumption); (case k5 => exact rfl); (case k6 => decide); (case k7 => decide)); intro t' h' tk' hk' F' N'; (try k_sweep))) | ((with_reducible show wpAny _ _ (getMethod (Value.ref _) _ _) _ _ _); (k_here; k_dflt (refine' m_method ?k1 ?k2 ?k3 ?k4 ?k5 ?k6 ?k7 ?k8 ?k9 ?_; (case k1 => k_asm); (case k2 => k_asm); (case k3 => k_asm); (case k4 => (first | exact .inr (by assumption) | exact .inl (by k_mem))); (case k5 => (first | exact .inr (by assumption) | exact .inl (by k_mem))); (case k6 => k_is); (case k7 => k_is); (case k8 => decide +kernel); (case k9 => rfl)))) | walk1) | (dsimp only; (first | ((k_here; (with_reducible show wpAny _ _ (call (Value.ref 236) _) _ _ _); k_dflt (refine' u_cmpK ?k1 ?k2 ?k3 ?k4 ?k5 ?k6 ?k7 ?_; (case k1 => k_asm); (case k2 => k_asm); (case k3 => assumption); (case k4 => assumption); (case k5 => exact rfl); (case k6 => decide); (case k7 => decide)); intro t' h' tk' hk' F' N'; (try k_sweep))) | ((with_reducible show wpAny _ _ (getMethod (Value.ref _) _ _) _ _ _); (k_here; k_dflt (refine' m_method ?k1 ?k2 ?k3 ?k4 ?k5 ?k6 ?k7 ?k8 ?k9 ?_; (case k1 => k_asm); (case k2 => k_asm); (case k3 => k_asm); (case k4 => (first | exact .inr (by assumption) | exact .inl (by k_mem))); (case k5 => (first | exact .inr (by assumption) | exact .inl (by k_mem))); (case k6 => k_is); (case k7 => k_is); (case k8 => decide +kernel); (case k9 => rfl)))) | walk1)))))
    have z := NB _ (.head _)
    refine hret _ _ _ _ _ (fun b o e => FB.keep _ _ (hkeep b o e fun _ q => nomatch q)) ?_ z.1 ?_
    · cases e2 : s.heap.get? _ with
      | none => rfl
      | some o => have := hkeep _ _ e2 fun _ q => nomatch q; rw [z.2.2] at this; cases this
    · rw [← hlaw, passA]
      exact hg.append' hs9
end
end Mine
end

section
-- Words2
example : True := by w_top off; trivial
open PySem PySem.W PyProof.Rows PySem.Calls PySem.Spec
namespace Mine
noncomputable def spansOf : Nat → List Str → List (Nat × Nat)
  | _, [] => []
  | cur, y :: t => (cur + 1, cur + (y.length + 1)) :: spansOf (cur + (y.length + 1)) t
open PySem.StrLaws PySem.Builtin PySem.Builtin.Str in
theorem sw_rowK (s : Str) (limit cur m k : Nat) (words : Array (Nat × Nat)) (b : Nat) (h0 : Unicode.isSpace (s.cps.getD cur 0) = true) (h1 : ∀ i, cur < i → i < cur + (k + 2) → Unicode.isSpace (s.cps.getD i 0) = false) (hw : words.size + 1 < limit) :
    (forIn (List.range' cur (k + 2 + m)) ((none, words, some b) : SwSt) (swBody s limit)).run = (forIn (List.range' (cur + (k + 2)) m) ((none, words.push (b, cur), some (cur + 1)) : SwSt) (swBody s limit)).run := by
  have er : List.range' cur (k + 2 + m) = cur :: (cur + 1) :: (List.range' (cur + 2) k ++ List.range' (cur + (k + 2)) m) := by
    rw [show k + 2 + m = (k + m) + 1 + 1 by (first | lia | omega), List.range'_succ, List.range'_succ, show cur + (k + 2) = cur + 2 + k by (first | lia | omega), List.range'_append_1]
  have hw1 : ¬ ((words.size == limit) = true) := by simp; (first | lia | omega)
  have hw2 : ¬ (((words.push (b, cur)).size == limit) = true) := by simp; (first | lia | omega)
  rw [er, List.forIn_cons]
  have e1 : swBody s limit cur ((none, words, some b) : SwSt) = pure (ForInStep.yield (none, words.push (b, cur), none)) := by
    unfold swBody
    simp only [hw1, h0]
    rfl
  rw [e1]
  show ((forIn ((cur + 1) :: (List.range' (cur + 2) k ++ List.range' (cur + (k + 2)) m)) ((none, words.push (b, cur), none) : SwSt) (swBody s limit))).run = _
  rw [List.forIn_cons]
  have e2 : swBody s limit (cur + 1) ((none, words.push (b, cur), none) : SwSt) = pure (ForInStep.yield (none, words.push (b, cur), some (cur + 1))) := by
    unfold swBody
    simp only [hw2, h1 (cur + 1) (by (first | lia | omega)) (by (first | lia | omega))]
    rfl
  rw [e2]
  show ((forIn (List.range' (cur + 2) k ++ List.range' (cur + (k + 2)) m) ((none, words.push (b, cur), some (cur + 1)) : SwSt) (swBody s limit))).run = _
  have seg2 : ∀ (n cur' : Nat) (words' : Array (Nat × Nat)) (b' : Nat), (∀ i, cur' ≤ i → i < cur' + n → Unicode.isSpace (s.cps.getD i 0) = false) → words'.size ≠ limit → ∀ l2 : List Nat,
      (forIn (List.range' cur' n ++ l2) ((none, words', some b') : SwSt) (swBody s limit)).run = (forIn l2 ((none, words', some b') : SwSt) (swBody s limit)).run := by
    intro n
    induction n with
    | zero => intro cur' words' b' _ _ l2; rfl
    | succ n ih =>
      intro cur' words' b' h hw l2
      rw [List.range'_succ, List.cons_append, List.forIn_cons]
      have hc := h cur' (Nat.le_refl _) (by (first | lia | omega))
      have hw' : ¬ ((words'.size == limit) = true) := by simpa using hw
      have e : swBody s limit cur' ((none, words', some b') : SwSt) = pure (ForInStep.yield (none, words', some b')) := by
        unfold swBody
        simp only [hw', hc]
        rfl
      rw [e]
      exact ih (cur' + 1) words' b' (fun i h1 h2 => h i (by (first | lia | omega)) (by (first | lia | omega))) hw l2
  exact seg2 k (cur + 2) (words.push (b, cur)) (cur + 1) (fun i a1 a2 => h1 i (by (first | lia | omega)) (by (first | lia | omega))) (by simp; (first | lia | omega)) _
open PySem.StrLaws PySem.Builtin PySem.Builtin.Str in
theorem first_word {x : Str} {pre : List Nat} {y : Str} {t : List Nat} (hx : x.cps.toList = pre ++ (32 :: y.cps.toList ++ t)) {k : Nat} (hy : y.length = k + 1) (hns : ∀ c ∈ y.cps.toList, Unicode.isSpace c = false) :
    Unicode.isSpace (x.cps.getD pre.length 0) = true ∧ (∀ i, pre.length < i → i < pre.length + (k + 2) → Unicode.isSpace (x.cps.getD i 0) = false) ∧ strSub x (pre.length + 1) (pre.length + (k + 2)) = y := by
  have hy' : y.cps.toList.length = k + 1 := by simpa [Str.length] using hy
  refine ⟨?_, fun i h1 h2 => ?_, ?_⟩
  · rw [getD_toList, hx]
    simp [List.getD]
    decide +kernel
  · rw [getD_toList, hx]
    have e : (pre ++ (32 :: y.cps.toList ++ t)).getD i 0 = y.cps.toList.getD (i - pre.length - 1) 0 := by
      simp only [List.getD]
      rw [List.getElem?_append_right (by (first | lia | omega)), List.cons_append, List.getElem?_cons, if_neg (by (first | lia | omega)), List.getElem?_append_left (by (first | lia | omega))]
    rw [e]
    have hlt : i - pre.length - 1 < y.cps.toList.length := by (first | lia | omega)
    rw [List.getD, List.getElem?_eq_getElem hlt]
    exact hns _ (List.getElem_mem hlt)
  · have e : (strSub x (pre.length + 1) (pre.length + (k + 2))).cps.toList = y.cps.toList := by
      simp only [strSub, Array.toList_extract, List.extract_eq_take_drop, hx]
      rw [show pre.length + (k + 2) - (pre.length + 1) = k + 1 by (first | lia | omega)]
      rw [← List.drop_drop, List.drop_left, List.cons_append, List.drop_succ_cons, List.drop_zero]
      rw [List.take_append_of_le_length (by (first | lia | omega)), List.take_of_length_le (by (first | lia | omega))]
    obtain ⟨a⟩ := y
    generalize strSub x (pre.length + 1) (pre.length + (k + 2)) = z at e
    obtain ⟨z⟩ := z
    congr 1
    exact Array.toList_inj.mp e
open PySem.StrLaws PySem.Builtin PySem.Builtin.Str in
theorem sw_words (x : Str) (limit : Nat) : ∀ (b : List Str) (pre : List Nat) (words : Array (Nat × Nat)) (st : Nat), x.cps.toList = pre ++ lineCps b → (∀ y ∈ b, 1 ≤ y.length) → (∀ y ∈ b, ∀ c ∈ y.cps.toList, Unicode.isSpace c = false) → words.size + 1 + b.length < limit →
    swEnd x (forIn (List.range' pre.length (lineCps b).length) ((none, words, some st) : SwSt) (swBody x limit)).run = words.toList ++ (st, pre.length) :: spansOf pre.length b ∧ (spansOf pre.length b).map (fun q => strSub x q.1 q.2) = b
  | [], pre, words, st, hx, _, _, _ => by
    refine ⟨?_, rfl⟩
    have e : x.length = pre.length := by
      have : x.cps.toList.length = pre.length := by rw [hx]; simp [lineCps]
      simpa [Str.length] using this
    show (words.push (st, x.length)).toList = _
    rw [e]; simp [spansOf]
  | y :: t, pre, words, st, hx, hl, hns, hw => by
    have hx' : x.cps.toList = pre ++ (32 :: y.cps.toList ++ lineCps t) := by rw [hx]; rfl
    obtain ⟨k, hk⟩ : ∃ k, y.length = k + 1 := ⟨y.length - 1, by have := hl y (.head _); (first | lia | omega)⟩
    obtain ⟨f1, f2, f3⟩ := first_word hx' hk (hns y (.head _))
    have hy' : y.cps.toList.length = k + 1 := by simpa [Str.length] using hk
    have hx2 : x.cps.toList = (pre ++ 32 :: y.cps.toList) ++ lineCps t := by rw [hx']; simp
    have hp : (pre ++ 32 :: y.cps.toList).length = pre.length + (k + 2) := by rw [List.length_append, List.length_cons, hy']
    have ih := sw_words x limit t (pre ++ 32 :: y.cps.toList) (words.push (st, pre.length)) (pre.length + 1) hx2 (fun z hz => hl z (.tail _ hz)) (fun z hz => hns z (.tail _ hz)) (by simp only [List.length_cons] at hw; simp; (first | lia | omega))
    rw [hp] at ih
    have em : (lineCps (y :: t)).length = k + 2 + (lineCps t).length := by
      show ((32 :: y.cps.toList) ++ lineCps t).length = _
      rw [List.length_append, List.length_cons, hy']
    have es : spansOf pre.length (y :: t) = (pre.length + 1, pre.length + (k + 2)) :: spansOf (pre.length + (k + 2)) t := by
      rw [spansOf, hk]
    rw [em, sw_rowK x limit pre.length (lineCps t).length k words st f1 f2 (by simp only [List.length_cons] at hw; (first | lia | omega)), ih.1, es]
    refine ⟨by simp, ?_⟩
    show strSub x (pre.length + 1) (pre.length + (k + 2)) :: _ = _
    rw [f3, ih.2]
open PySem.StrLaws PySem.Builtin PySem.Builtin.Str in
/-- the words of a line are its rows -/
theorem words_line2 {x : Str} {y : Str} {t : List Str} (hx : x.cps.toList = lineCps (y :: t)) (hl : ∀ z ∈ y :: t, 1 ≤ z.length) (hns : ∀ z ∈ y :: t, ∀ c ∈ z.cps.toList, Unicode.isSpace c = false) : Txt.words x = y :: t := by
  have hx' : x.cps.toList = [] ++ (32 :: y.cps.toList ++ lineCps t) := by rw [hx]; rfl
  obtain ⟨k, hk⟩ : ∃ k, y.length = k + 1 := ⟨y.length - 1, by have := hl y (.head _); (first | lia | omega)⟩
  obtain ⟨f1, f2, f3⟩ := first_word hx' hk (hns y (.head _))
  have hy' : y.cps.toList.length = k + 1 := by simpa [Str.length] using hk
  have hx2 : x.cps.toList = (32 :: y.cps.toList) ++ lineCps t := by rw [hx']; simp
  have hlen : x.length = k + 2 + (lineCps t).length := by
    have e : x.length = x.cps.toList.length := by simp [Str.length]
    rw [e, hx2, List.length_append, List.length_cons, hy']
  have hp : (32 :: y.cps.toList).length = k + 2 := by rw [List.length_cons, hy']
  have hlt : t.length ≤ (lineCps t).length := by
    clear hx hl hns hx' hx2 hlen
    induction t with
    | nil => exact Nat.le_refl _
    | cons z t ih =>
      show _ ≤ ((32 :: z.cps.toList) ++ lineCps t).length
      rw [List.length_append, List.length_cons, List.length_cons]
      (first | lia | omega)
  have key := sw_words x (x.length + 1) t (32 :: y.cps.toList) #[] 1 hx2 (fun z hz => hl z (.tail _ hz)) (fun z hz => hns z (.tail _ hz)) (by simp; (first | lia | omega))
  rw [hp] at key
  have es : spansOf 0 (y :: t) = (0 + 1, 0 + (k + 2)) :: spansOf (0 + (k + 2)) t := by rw [spansOf, hk]
  have hsp : spaceWords x (x.length + 1) = spansOf 0 (y :: t) := by
    rw [sw_eq]
    have er : List.range' 0 x.length = 0 :: 1 :: (List.range' 2 k ++ List.range' (k + 2) (lineCps t).length) := by
      rw [hlen, show k + 2 + (lineCps t).length = (k + (lineCps t).length) + 1 + 1 by (first | lia | omega), List.range'_succ, List.range'_succ, show k + 2 = 0 + 1 + 1 + k by (first | lia | omega), List.range'_append_1]
    rw [er, List.forIn_cons]
    have e1 : swBody x (x.length + 1) 0 ((none, #[], none) : SwSt) = pure (ForInStep.yield (none, #[], none)) := by
      unfold swBody
      have : ¬ (((#[] : Array (Nat × Nat)).size == x.length + 1) = true) := by simp
      simp only [this, show Unicode.isSpace (x.cps.getD 0 0) = true from f1]
      rfl
    rw [e1]
    show swEnd x ((forIn (1 :: (List.range' 2 k ++ List.range' (k + 2) (lineCps t).length)) ((none, #[], none) : SwSt) (swBody x (x.length + 1)))).run = _
    rw [List.forIn_cons]
    have e2 : swBody x (x.length + 1) 1 ((none, #[], none) : SwSt) = pure (ForInStep.yield (none, #[], some 1)) := by
      unfold swBody
      have : ¬ (((#[] : Array (Nat × Nat)).size == x.length + 1) = true) := by simp
      simp only [this, f2 1 (by simp) (by simp)]
      rfl
    rw [e2]
    have seg2 : ∀ (n cur' : Nat), (∀ i, cur' ≤ i → i < cur' + n → Unicode.isSpace (x.cps.getD i 0) = false) → ∀ l2 : List Nat,
        (forIn (List.range' cur' n ++ l2) ((none, #[], some 1) : SwSt) (swBody x (x.length + 1))).run = (forIn l2 ((none, #[], some 1) : SwSt) (swBody x (x.length + 1))).run := by
      intro n
      induction n with
      | zero => intro cur' _ l2; rfl
      | succ n ih =>
        intro cur' h l2
        rw [List.range'_succ, List.cons_append, List.forIn_cons]
        have hc := h cur' (Nat.le_refl _) (by (first | lia | omega))
        have e : swBody x (x.length + 1) cur' ((none, #[], some 1) : SwSt) = pure (ForInStep.yield (none, #[], some 1)) := by
          unfold swBody
          have : ¬ (((#[] : Array (Nat × Nat)).size == x.length + 1) = true) := by simp
          simp only [this, hc]
          rfl
        rw [e]
        exact ih (cur' + 1) (fun i h1 h2 => h i (by (first | lia | omega)) (by (first | lia | omega))) l2
    have s2 := seg2 k 2 (fun i a1 a2 => f2 i (by simp; (first | lia | omega)) (by simp; (first | lia | omega))) (List.range' (k + 2) (lineCps t).length)
    show swEnd x ((forIn (List.range' 2 k ++ List.range' (k + 2) (lineCps t).length) ((none, #[], some 1) : SwSt) (swBody x (x.length + 1)))).run = _
    rw [s2, key.1, es, Nat.zero_add, Nat.zero_add]
    rfl
  unfold Txt.words
  rw [hsp]
  rw [if_neg (by rw [es]; simp)]
  unfold PySem.wordsOf
  rw [hsp]
  rw [es]
  show strSub x (0 + 1) (0 + (k + 2)) :: (spansOf (0 + (k + 2)) t).map _ = _
  have e3 : strSub x (0 + 1) (0 + (k + 2)) = y := f3
  rw [e3, Nat.zero_add]
  exact congrArg (y :: ·) key.2
end Mine
end

section
-- CutP
example : True := by w_top off; trivial
open PySem PySem.W PyProof.Rows PySem.Calls PySem.Spec
namespace Mine
/-- the end behind a list -/
noncomputable def dot : Str := Str.ofString "."
theorem last_split {α : Type} {p : α → Prop} : ∀ {l : List α}, (∃ y ∈ l, p y) → ∃ L x R, l = L ++ x :: R ∧ p x ∧ ∀ t ∈ R, ¬ p t
  | [], ⟨_, h, _⟩ => nomatch h
  | a :: l, h => by
    by_cases h2 : ∃ y ∈ l, p y
    · obtain ⟨L, x, R, rfl, hx, hR⟩ := last_split h2
      exact ⟨a :: L, x, R, rfl, hx, hR⟩
    · obtain ⟨y, hy, hp⟩ := h
      rcases List.mem_cons.mp hy with rfl | hy
      · exact ⟨[], _, l, rfl, hp, fun t ht q => h2 ⟨t, ht, q⟩⟩
      · exact absurd ⟨y, hy, hp⟩ h2
theorem hit_pr {c i : Nat} {rs : List Str} {y : Str} (hi : rs[i]? = some y) (h : 1 ≤ y.length) : hitAt c (pr (rs ++ [dot])) (i + 1) = (lastN y == c) := by
  have hl : i < rs.length := (List.getElem?_eq_some_iff.mp hi).1
  unfold hitAt
  have e : (pr (rs ++ [dot])).getD (i + 1 - 1) (Str.empty, Str.empty) = (spS, y) := by
    rw [Nat.add_sub_cancel, List.getD, pr, List.getElem?_map, List.getElem?_append_left hl, hi]
    rfl
  rw [e, back_last h]
  rfl
theorem cut_find : ∀ {sg : List Nat} {rs : List Str}, sg.Pairwise (fun a b => b < a) → (∀ y ∈ rs, 1 ≤ y.length) → rs ≠ [] → (∀ y ∈ rs, lastN y ∈ sg) →
    ∃ L x R, rs = L ++ x :: R ∧ findS sg (pr (rs ++ [dot])) = some (L.length + 1) ∧ (∀ t ∈ L, lastN t ≤ lastN x) ∧ ∀ t ∈ R, lastN t < lastN x
  | [], rs, _, _, hne, hm => by
    cases rs with
    | nil => exact absurd rfl hne
    | cons y t => exact absurd (hm y (.head _)) (fun h => nomatch h)
  | c :: sg, rs, hp, h1, hne, hm => by
    have ⟨p1, p2⟩ := List.pairwise_cons.mp hp
    have hlen : (pr (rs ++ [dot])).length - 1 = rs.length := by simp [pr]
    by_cases hx : ∃ y ∈ rs, lastN y = c
    · obtain ⟨L, x, R, rfl, hxc, hR⟩ := last_split hx
      have hle : ∀ t ∈ L ++ x :: R, lastN t ≤ c := fun t ht => by
        rcases List.mem_cons.mp (hm t ht) with e | e
        · exact Nat.le_of_eq e
        · exact Nat.le_of_lt (p1 _ e)
      refine ⟨L, x, R, rfl, ?_, fun t ht => hxc ▸ hle t (List.mem_append_left _ ht), fun t ht => ?_⟩
      · have hk : (L ++ x :: R).length = L.length + 1 + R.length := by rw [List.length_append, List.length_cons, Nat.add_comm R.length 1, Nat.add_assoc]
        have hI : findI c (pr (L ++ x :: R ++ [dot])) (L ++ x :: R).length = some (L.length + 1) := by
          have e : (L ++ x :: R).length - R.length = L.length + 1 := by rw [hk, Nat.add_sub_cancel]
          rw [← e]
          refine findI_hit _ _ (fun j hj => ?_) (by (first | lia | omega)) ?_
          · have e2 : (L ++ x :: R).length - j = (L.length + (R.length - j)) + 1 := by rw [hk, Nat.add_sub_assoc (Nat.le_of_lt hj), Nat.add_right_comm]
            have hget : (L ++ x :: R)[L.length + (R.length - j)]? = some (R[R.length - j - 1]'(Nat.lt_of_lt_of_le (Nat.sub_lt (Nat.sub_pos_of_lt hj) Nat.one_pos) (Nat.sub_le _ _))) := by
              rw [List.getElem?_append_right (Nat.le_add_right _ _), Nat.add_sub_cancel_left]
              obtain ⟨q, hq⟩ : ∃ q, R.length - j = q + 1 := ⟨R.length - j - 1, (Nat.sub_add_cancel (Nat.sub_pos_of_lt hj)).symm⟩
              simp only [hq, List.getElem?_cons_succ, Nat.add_sub_cancel]
              rw [List.getElem?_eq_getElem]
            rw [e2, hit_pr hget (h1 _ (List.mem_of_getElem? hget)), beq_eq_false_iff_ne]
            exact hR _ (List.getElem_mem _)
          · have hget : (L ++ x :: R)[L.length]? = some x := by simp
            rw [e, hit_pr hget (h1 _ (List.mem_of_getElem? hget)), hxc]
            simp
        unfold findS
        rw [List.findSome?_cons, hlen, hI]
      · have := hle t (List.mem_append_right _ (.tail _ ht))
        exact hxc ▸ Nat.lt_of_le_of_ne this (hR t ht)
    · have hm' : ∀ y ∈ rs, lastN y ∈ sg := fun y hy => by
        rcases List.mem_cons.mp (hm y hy) with e | e
        · exact absurd ⟨y, hy, e⟩ hx
        · exact e
      obtain ⟨L, x, R, e, hf, h3, h4⟩ := cut_find p2 h1 hne hm'
      refine ⟨L, x, R, e, ?_, h3, h4⟩
      have hI : findI c (pr (rs ++ [dot])) rs.length = none := findI_miss _ fun j hj => by
        have e2 : rs.length - j = (rs.length - j - 1) + 1 := (Nat.sub_add_cancel (Nat.sub_pos_of_lt hj)).symm
        have hlt : rs.length - j - 1 < rs.length := Nat.lt_of_lt_of_le (Nat.sub_lt (Nat.sub_pos_of_lt hj) Nat.one_pos) (Nat.sub_le _ _)
        have hget : rs[rs.length - j - 1]? = some rs[rs.length - j - 1] := List.getElem?_eq_getElem hlt
        rw [e2, hit_pr hget (h1 _ (List.getElem_mem hlt)), beq_eq_false_iff_ne]
        exact fun q => hx ⟨_, List.getElem_mem hlt, q⟩
      unfold findS at hf ⊢
      rw [List.findSome?_cons, hlen, hI, ← hlen]
      exact hf
theorem lenOf_snoc {b : List Str} (h : ∀ y ∈ b, y.length = 11) (z : Str) : lenOf (pr b ++ [(spS, z)]) = 12 * b.length + (1 + z.length) := by
  have := lenOf_pr h
  unfold lenOf at this ⊢
  rw [List.map_append, List.sum_append, this]
  simp
  exact (show spS.length = 1 by decide)
/-- a row is laid behind the others -/
theorem chunk_row {mx room : Int} {sg : List Nat} {b : List Str} {y : Str} {n : Nat} (hmx : mx = room + 12 * n + 1) (hb : b.length < n) (h : ∀ z ∈ b, z.length = 11) (hy : y.length = 11) : chunkF mx sg ([], pr b, room) (spS, y) = ([], pr (b ++ [y]), room) := by
  unfold chunkF
  dsimp only
  rw [if_pos, pr_snoc]
  rw [lenOf_snoc h, hy]
  (first | lia | omega)
/-- the end parts the list behind the last row of the greatest sign -/
theorem chunk_dot {mx room : Int} {sg : List Nat} {L R : List Str} {x : Str} {n : Nat} (hn : (L ++ x :: R).length = n) (hmx : mx = room + 12 * n + 1) (h : ∀ z ∈ L ++ x :: R, z.length = 11) (hf : findS sg (pr (L ++ x :: R ++ [dot])) = some (L.length + 1)) :
    chunkF mx sg ([], pr (L ++ x :: R), room) (spS, dot) = ([lineOf (L ++ [x])], pr (R ++ [dot]), 0) := by
  unfold chunkF
  dsimp only
  rw [if_neg (by rw [lenOf_snoc h, show dot.length = 1 by decide]; (first | lia | omega)), pr_snoc, hf]
  have e1 : (pr (L ++ x :: R ++ [dot])).take (L.length + 1) = pr (L ++ [x]) := by
    unfold pr
    rw [← List.map_take, List.append_assoc, List.take_append, List.take_of_length_le (by (first | lia | omega)), Nat.add_sub_cancel_left]
    rfl
  have e2 : (pr (L ++ x :: R ++ [dot])).drop (L.length + 1) = pr (R ++ [dot]) := by
    unfold pr
    rw [← List.map_drop, List.append_assoc, List.drop_append, List.drop_of_length_le (by (first | lia | omega)), Nat.add_sub_cancel_left]
    rfl
  dsimp only
  rw [e1, e2]
  rfl
/-- how the formatter stands when so many words have been laid: the end parts the list -/
noncomputable def cutSt (rs L R : List Str) (x : Str) (room : Int) (i : Nat) : List Str × List (Str × Str) × Int :=
  if i ≤ rs.length then ([], pr (rs.take i), room) else ([lineOf (L ++ [x])], pr (R ++ [dot]), 0)
theorem cut_step {sg : List Nat} {rs L R : List Str} {x y : Str} {room mx : Int} {i : Nat} (hmx : mx = room + 12 * (rs.length : Nat) + 1) (hrs : rs = L ++ x :: R) (h : ∀ z ∈ rs, z.length = 11) (hf : findS sg (pr (rs ++ [dot])) = some (L.length + 1)) (hy : (rs ++ [dot])[i]? = some y) :
    chunkF mx sg ([], pr (rs.take i), room) (spS, y) = cutSt rs L R x room (i + 1) := by
  have hi : i < rs.length + 1 := by have := (List.getElem?_eq_some_iff.mp hy).1; simpa using this
  unfold cutSt
  by_cases hlt : i < rs.length
  · rw [if_pos (show i + 1 ≤ rs.length from hlt)]
    have hy2 : rs[i]? = some y := by rwa [List.getElem?_append_left hlt] at hy
    have e : rs.take (i + 1) = rs.take i ++ [y] := by rw [List.take_add_one, hy2]; rfl
    rw [e]
    exact chunk_row hmx (by rw [List.length_take]; (first | lia | omega)) (fun z hz => h z (List.mem_of_mem_take hz)) (h y (List.mem_of_getElem? hy2))
  · obtain rfl : i = rs.length := by (first | lia | omega)
    rw [if_neg (by (first | lia | omega)), List.take_length]
    have e : y = dot := by simpa using hy.symm
    subst e hrs
    exact chunk_dot rfl hmx h hf
theorem cut_zero {sg : List Nat} {rs L : List Str} {y : Str} {room mx : Int} {i : Nat} (hmx : mx = room + 12 * (rs.length : Nat) + 1) (h : ∀ z ∈ rs, z.length = 11) (hf : findS sg (pr (rs ++ [dot])) = some (L.length + 1)) (hy : (rs ++ [dot])[i]? = some y)
    (h1 : mx < room + (lenOf (pr (rs.take i) ++ [(spS, y)]) : Nat)) (h2 : findS sg (pr (rs.take i) ++ [(spS, y)]) = none) : room = 0 := by
  have hi : i < rs.length + 1 := by have := (List.getElem?_eq_some_iff.mp hy).1; simpa using this
  by_cases hlt : i < rs.length
  · have hy2 : rs[i]? = some y := by rwa [List.getElem?_append_left hlt] at hy
    rw [lenOf_snoc (fun z hz => h z (List.mem_of_mem_take hz)), h y (List.mem_of_getElem? hy2), List.length_take] at h1
    (first | lia | omega)
  · obtain rfl : i = rs.length := by (first | lia | omega)
    have e : y = dot := by simpa using hy.symm
    subst e
    rw [List.take_length, pr_snoc, hf] at h2
    cases h2
theorem word_len {rs : List Str} {i : Nat} {y : Str} (h : ∀ z ∈ rs, z.length = 11) (hy : (rs ++ [dot])[i]? = some y) : y.length ≤ 11 := by
  rcases List.mem_append.mp (List.mem_of_getElem? hy) with e | e
  · exact Nat.le_of_eq (h y e)
  · rw [List.mem_singleton.mp e]; decide
theorem cut_short {rs : List Str} {i : Nat} {y : Str} (hn : rs.length ≤ 10) (h : ∀ z ∈ rs, z.length = 11) (hy : (rs ++ [dot])[i]? = some y) : Short (pr (rs.take i) ++ [(spS, y)]) := by
  refine ⟨by simp [pr]; (first | lia | omega), fun q hq => ?_⟩
  rcases List.mem_append.mp hq with hq | hq
  · obtain ⟨z, hz, rfl⟩ := List.mem_map.mp hq
    exact ⟨by show spS.length ≤ 1000; decide, by show z.length ≤ 1000; rw [h z (List.mem_of_mem_take hz)]; decide⟩
  · rw [List.mem_singleton.mp hq]
    exact ⟨by show spS.length ≤ 1000; decide, by have := word_len h hy; show y.length ≤ 1000; (first | lia | omega)⟩
/-- a word: no space, no semicolon, not empty -/
structure WordOk (y : Str) : Prop where
  len : 1 ≤ y.length
  ns : ∀ c ∈ y.cps.toList, Unicode.isSpace c = false
  nc : 59 ∉ y.cps.toList
theorem RowOk.word {y : Str} (h : RowOk y) : WordOk y := ⟨by rw [h.len]; decide, h.ns, h.nc⟩
theorem dot_word : WordOk dot := ⟨by decide, by intro c hc; rw [show dot.cps.toList = [46] from rfl] at hc; rw [List.mem_singleton.mp hc]; decide +kernel, by decide⟩
theorem words_lineW {b : List Str} (hne : b ≠ []) (h : ∀ y ∈ b, WordOk y) : Txt.words (lineOf b) = b := by
  cases b with
  | nil => exact absurd rfl hne
  | cons y t => exact words_line2 (line_cps _) (fun z hz => (h z hz).len) (fun z hz => (h z hz).ns)
theorem line_ncW {b : List Str} (h : ∀ y ∈ b, WordOk y) : 59 ∉ (lineOf b).cps.toList := by
  rw [line_cps]
  intro hc
  obtain ⟨y, hy, hc⟩ := List.mem_flatMap.mp hc
  rcases List.mem_cons.mp hc with hc | hc
  · cases hc
  · exact (h y hy).nc hc
theorem line_isspaceW {b : List Str} (hne : b ≠ []) (h : ∀ y ∈ b, WordOk y) : Txt.isspace (lineOf b) = false := by
  cases b with
  | nil => exact absurd rfl hne
  | cons y t =>
    have hy := h y (.head _)
    have hpos : 0 < y.cps.toList.length := by
      have e : y.length = y.cps.toList.length := by simp [Str.length]
      have := hy.len
      (first | lia | omega)
    obtain ⟨c, hc⟩ : ∃ c, c ∈ y.cps.toList := ⟨_, List.getElem_mem hpos⟩
    have hmem : c ∈ (lineOf (y :: t)).cps.toList := by
      rw [line_cps]
      exact List.mem_flatMap.mpr ⟨y, .head _, .tail _ hc⟩
    unfold Txt.isspace
    rw [Bool.and_eq_false_iff]
    right
    rw [← Array.all_toList, List.all_eq_false]
    exact ⟨c, hmem, by rw [hy.ns c hc]; simp⟩
theorem line_lenW {b : List Str} (h : ∀ y ∈ b, y.length ≤ 11) : (lineOf b).length ≤ 12 * b.length := by
  have e : (lineOf b).length = (lineCps b).length := by rw [← line_cps]; simp [Str.length]
  rw [e]
  clear e
  induction b with
  | nil => exact Nat.le_refl _
  | cons y t ih =>
    have i1 := ih fun z hz => h z (.tail _ hz)
    have hy := h y (.head _)
    have e2 : y.cps.toList.length = y.length := by simp [Str.length]
    show ((32 :: y.cps.toList) ++ lineCps t).length ≤ _
    rw [List.length_append, List.length_cons, List.length_cons]
    (first | lia | omega)
end Mine
end

section
-- Cut
example : True := by w_top off; trivial
open PySem PySem.W PyProof.Rows PySem.Calls PySem.Spec
set_option maxRecDepth 100000
namespace Mine
theorem none_of2 {h g : Heap} {a b c : Addr} (hkeep : ∀ d o', h.get? d = some o' → d ≠ a → d ≠ b → g.get? d = some o') (h1 : c ≠ a) (h2 : c ≠ b) (hb : g.get? c = none) : h.get? c = none := by
  cases e : h.get? c with
  | none => rfl
  | some o => rw [hkeep c o e h1 h2] at hb; cases hb
theorem add_listsC {prog : Program} {w : World} {A : Around} {E : Value → Shared → Prop} {s : Shared} {g : Heap} {L : Addr} {m : Str → Option Value} {news : List (Addr × Obj)} {l b : Addr} {vs ws : List Value} {Q : Value → Shared → Prop} (F : Fr g L s.heap m) (N : News g L s.heap news) (hl : s.heap.IsList l vs.toArray) (hb : s.heap.IsList b ws.toArray)
    (hsz : vs.length + ws.length ≤ sizeLine) (h : ∀ C h', Fr g L h' m → News g L h' ((C, listOf (vs ++ ws).toArray 0) :: news) → (∀ p ∈ news, p.1 < C) → Q (.ref C) { s with heap := h' }) :
    wpAny (model prog w) A (binaryOp .Add (.ref l) (.ref b)) Q E s :=
  add_lists F N hl hb (fun h' F' N' => h _ h' F' N' fun p hp => Heap.lt_size (N p hp).1) hsz
theorem splitV {prog : Program} {w : World} {A : Around} {E : Value → Shared → Prop} {s : Shared} {g : Heap} {L : Addr} {m : Str → Option Value} {news : List (Addr × Obj)} {x : Str} {t : Tok} {Q : Value → Shared → Prop} (F : Fr g L s.heap m) (N : News g L s.heap news) (hsz : x.length + 2 ≤ sizeLine)
    (h : ∀ B (vs : List Value) h' k, StrsAre vs (Txt.words x) → Fr g L h' m → News g L h' ((B, listOf vs.toArray 0) :: news) → (∀ p ∈ news, p.1 < B) → Q (.ref B) { s with heap := h', toks := k }) : wpAny (model prog w) A (call (.builtin "str.split") [.str x t]) Q E s :=
  splitN0A F N (fun _ h' k e hs _ _ F' N' => h _ _ h' k (e ▸ hs) F' N' fun p hp => Heap.lt_size (N p hp).1) hsz
theorem splitV1 {prog : Program} {w : World} {A : Around} {E : Value → Shared → Prop} {s : Shared} {g : Heap} {L : Addr} {m : Str → Option Value} {news : List (Addr × Obj)} {x y : Str} {t u : Tok} {Q : Value → Shared → Prop} (F : Fr g L s.heap m) (N : News g L s.heap news) (hy : (y.length == 0) = false) (hsz : x.length + 2 ≤ sizeLine)
    (h : ∀ B (vs : List Value) h' k, StrsAre vs (Txt.split x y) → Fr g L h' m → News g L h' ((B, listOf vs.toArray 0) :: news) → (∀ p ∈ news, p.1 < B) → Q (.ref B) { s with heap := h', toks := k }) : wpAny (model prog w) A (call (.builtin "str.split") [.str x t, .str y u]) Q E s :=
  splitN1A F N hy (fun _ h' k e hs _ _ F' N' => h _ _ h' k (e ▸ hs) F' N' fun p hp => Heap.lt_size (N p hp).1) hsz
theorem sub_nil' {b : List (Addr × Obj)} : ∀ q ∈ ([] : List (Addr × Obj)), q ∈ b := fun _ h => nomatch h
theorem sub_cons' {x : Addr × Obj} {a b : List (Addr × Obj)} (h : x ∈ b) (t : ∀ q ∈ a, q ∈ b) : ∀ q ∈ x :: a, q ∈ b := List.forall_mem_cons.mpr ⟨h, t⟩
theorem list_off {g h : Heap} {L D P : Addr} {a t : Array Value} {k : Nat} {nw : List (Addr × Obj)} (N : News g L h nw) (h1 : (D, W.listOf a k) ∈ nw) (h2 : (P, tabObj t) ∈ nw) : D ≠ P := ne_cls (N _ h1).1 (N _ h2).1 (fun e => absurd (show Value.type "list" = (tabObj #[]).cls from e) (by decide))
/-- what holds between the words -/
inductive CutI (rs Lf Rg : List Str) (xm : Str) (room : Int) (sg : Str) (tsg tr : Tok) (V dv Ln x d : Addr) (hh : Nat → Int) (tt : Nat → Tok) (mx : Int) (tm : Tok) (vc vl : Value) (nd : Nat) (hs0 : Int) (t0 : Tok) (C : Addr) (its : List Value) (i : Nat) (m : Str → Option Value) (nw : List (Addr × Obj)) (gs : Array GenState) : Prop
  | mk (hb : AllBare gs) (tl : List (Addr × Obj)) (lns : List Value) (nl : Nat) (ps : Array Value) (n : Nat) (ti : Tok) (tb' tc' : Array Value) (e : nw = led7 V (instObj 94 dv) dv (vfDict hh tt (.int mx tm) vc vl (.str sg tsg) Ln x nd) Ln (listOf (lns : List Value).toArray nl) x (acObj d ps n) d (acDict hs0 t0 (.int (cutSt rs Lf Rg xm room i).2.2 ti) 1) (tabObj tb') (tabObj tc') (tl ++ [(C, listOf (its : List Value).toArray 0)]))
    (ho : Off7 V dv Ln x d (tl ++ [(C, listOf (its : List Value).toArray 0)])) (hp : PartsIn tl ps (cutSt rs Lf Rg xm room i).2.1) (hl : StrsAre lns (cutSt rs Lf Rg xm room i).1) (t1 : TriplesOk tb'.toList) (t2 : TriplesOk tc'.toList) (hm : m "lines" = some (.ref V)) (hm2 : m "signs" = some (.str sg tsg)) (hm3 : m "room" = some (.int room tr))
section
variable {g h h' : Heap} {L R : Addr} {m : Str → Option Value} {a b a' b' oR : Obj} {rest : List (Addr × Obj)}
theorem tabs_after (F : Fr g L h m) (N : News g L h ((140, a) :: (147, b) :: rest)) (hoff : ∀ q ∈ rest, q.1 ≠ 140 ∧ q.1 ≠ 147) (hk : ∀ b o, h.get? b = some o → b ≠ 140 → b ≠ 147 → h'.get? b = some o) (hR : h.get? R = none) (hR' : h'.get? R = some oR) (h1 : h'.get? 140 = some a') (h2 : h'.get? 147 = some b') :
    Fr g L h' m ∧ News g L h' ((R, oR) :: (140, a') :: (147, b') :: rest) ∧ ∀ q ∈ (140, a') :: (147, b') :: rest, q.1 ≠ R := by
  have z1 := N _ (.head _)
  have z2 := N _ (.tail _ (.head _))
  obtain ⟨oL, es, ep, hoL, r⟩ := F.ns
  have fz : R ≠ L ∧ g.get? R = none := by
    constructor
    · rintro rfl; rw [hoL] at hR; cases hR
    · cases e2 : g.get? R with
      | none => rfl
      | some o => rw [F.keep R o e2] at hR; cases hR
  refine ⟨⟨⟨oL, es, ep, hk _ _ hoL (Ne.symm z1.2.1) (Ne.symm z2.2.1), r⟩, fun b o e => hk b o (F.keep b o e) (fun q => by rw [q, z1.2.2] at e; cases e) (fun q => by rw [q, z2.2.2] at e; cases e), F.above⟩, ?_, fun q hq e => ?_⟩
  · refine all_cons ?_ (all_cons ?_ (all_cons ?_ (fun q hq => ?_)))
    · exact ⟨hR', fz⟩
    · exact ⟨h1, z1.2⟩
    · exact ⟨h2, z2.2⟩
    · have z := N q (.tail _ (.tail _ hq))
      exact ⟨hk _ _ z.1 (hoff q hq).1 (hoff q hq).2, z.2⟩
  · have alive : ∃ o, h.get? q.1 = some o := by
      rcases List.mem_cons.mp hq with rfl | hq
      · exact ⟨_, z1.1⟩
      · rcases List.mem_cons.mp hq with rfl | hq
        · exact ⟨_, z2.1⟩
        · exact ⟨_, (N q (.tail _ (.tail _ hq))).1⟩
    obtain ⟨o, ho⟩ := alive
    rw [e, hR] at ho; cases ho
end
theorem pick_last (vs : List Value) : (slicePick vs.toArray (some (-1)) none none).toList = vs.drop (vs.length - 1) := by
  have e : sliceBounds (some (-1)) none none vs.toArray.size = (((vs.toArray.size - 1 : Nat) : Int), ((vs.toArray.size : Nat) : Int), 1) := by
    simp only [sliceBounds, Option.getD_none, show (1 : Int) > 0 by decide, if_true, show (-1 : Int) < 0 by decide]
    congr 1
    (first | lia | omega)
  rw [kmk_pick_nat _ e]
  show (vs.drop (vs.toArray.size - 1)).take (vs.toArray.size - (vs.toArray.size - 1)) = _
  rw [List.size_toArray, List.take_of_length_le (by rw [List.length_drop]; (first | lia | omega))]
theorem pick_but (vs : List Value) : (slicePick vs.toArray none (some (-1)) none).toList = vs.take (vs.length - 1) := by
  have e : sliceBounds none (some (-1)) none vs.toArray.size = (((0 : Nat) : Int), ((vs.toArray.size - 1 : Nat) : Int), 1) := by
    simp only [sliceBounds, Option.getD_none, show (1 : Int) > 0 by decide, if_true, show (-1 : Int) < 0 by decide]
    congr 1
    congr 1
    (first | lia | omega)
  rw [kmk_pick_nat _ e]
  show (vs.drop 0).take (vs.toArray.size - 1 - 0) = _
  rw [List.drop_zero, Nat.sub_zero, List.size_toArray]
theorem offG_ofH {G g h : Heap} {L V dv Ln x d : Addr} {o1 o2 o3 o4 o5 o6 o7 : Obj} {rest : List (Addr × Obj)} (N : News g L h (led7 V o1 dv o2 Ln o3 x o4 d o5 o6 o7 rest)) (hs : G.StaysIn g) : OffG G V dv Ln x d := by
  have hG : ∀ b, g.get? b = none → G.get? b = none := fun b e => by
    cases e2 : G.get? b with
    | none => rfl
    | some o => rw [hs b o e2] at e; cases e
  exact ⟨hG _ (N _ (.head _)).2.2, hG _ (N _ (.tail _ (.head _))).2.2, hG _ (N _ (.tail _ (.tail _ (.head _)))).2.2, hG _ (N _ (.tail _ (.tail _ (.tail _ (.head _))))).2.2, hG _ (N _ (.tail _ (.tail _ (.tail _ (.tail _ (.head _)))))).2.2, hG _ (N _ (.tail _ (.tail _ (.tail _ (.tail _ (.tail _ (.head _))))))).2.2, hG _ (N _ (.tail _ (.tail _ (.tail _ (.tail _ (.tail _ (.tail _ (.head _)))))))).2.2⟩
/-- a formatter is left behind: the tables alone are kept in mind -/
theorem vf_left {g h h' : Heap} {L V dv Ln x d : Addr} {m : Str → Option Value} {o1 o2 o3 o4 o5 o6 o7 a b : Obj} {rest : List (Addr × Obj)}
    (F : Fr g L h m) (N : News g L h (led7 V o1 dv o2 Ln o3 x o4 d o5 o6 o7 rest)) (hk : ∀ b o, h.get? b = some o → b ≠ V → b ≠ dv → b ≠ Ln → b ≠ x → b ≠ d → b ≠ 140 → b ≠ 147 → h'.get? b = some o) (ha : h'.get? 140 = some a) (hb : h'.get? 147 = some b) :
    Fr g L h' m ∧ News g L h' [(140, a), (147, b)] := by
  have z1 := (N _ (.head _)).2
  have z2 := (N _ (.tail _ (.head _))).2
  have z3 := (N _ (.tail _ (.tail _ (.head _)))).2
  have z4 := (N _ (.tail _ (.tail _ (.tail _ (.head _))))).2
  have z5 := (N _ (.tail _ (.tail _ (.tail _ (.tail _ (.head _)))))).2
  have z6 := (N _ (.tail _ (.tail _ (.tail _ (.tail _ (.tail _ (.head _))))))).2
  have z7 := (N _ (.tail _ (.tail _ (.tail _ (.tail _ (.tail _ (.tail _ (.head _)))))))).2
  obtain ⟨oL, es, ep, hL, r⟩ := F.ns
  have nn : ∀ {b : Addr} {o : Obj} {c : Addr}, g.get? b = some o → g.get? c = none → b ≠ c := fun e1 e2 q => by rw [q, e2] at e1; cases e1
  refine ⟨⟨⟨oL, es, ep, hk _ _ hL z1.1.symm z2.1.symm z3.1.symm z4.1.symm z5.1.symm z6.1.symm z7.1.symm, r⟩, fun b o e => hk b o (F.keep b o e) (nn e z1.2) (nn e z2.2) (nn e z3.2) (nn e z4.2) (nn e z5.2) (nn e z6.2) (nn e z7.2), F.above⟩, ?_⟩
  refine all_cons ?_ (all_cons ?_ all_nil)
  · exact ⟨ha, z6⟩
  · exact ⟨hb, z7⟩
/-- what _law_cut does with a list of so many rows, called so deep -/
noncomputable def CutC (w : World) (G : Heap) (sg : Str) (room : Int) (k dp un : Nat) : Prop :=
  ∀ (s : Shared) (lr : Addr) (vs : List Value) (rs : List Str) (tsg tr : Tok) (tb tc : Array Value) (Q E : Value → Shared → Prop), rs.length = k → G.StaysIn s.heap → s.heap.IsList lr vs.toArray → StrsAre vs rs → (∀ y ∈ rs, RowOk y) → (∀ y ∈ rs, lastN y ∈ sg.cps.toList) →
      s.heap.get? 140 = some (tabObj tb) → TriplesOk tb.toList → s.heap.get? 147 = some (tabObj tc) → TriplesOk tc.toList → AllBare s.gens →
      (∀ s' R vs' n', (∀ b o, s.heap.get? b = some o → b ≠ 140 → b ≠ 147 → s'.heap.get? b = some o) → s.heap.get? R = none → s'.heap.get? R = some (listOf (List.toArray vs') n') → StrsAre vs' (passed leZ rs) → (∃ tb', s'.heap.get? 140 = some (tabObj tb') ∧ TriplesOk tb'.toList) → (∃ tc', s'.heap.get? 147 = some (tabObj tc') ∧ TriplesOk tc'.toList) →
        AllBare s'.gens → s'.drawn = s.drawn → s'.os = s.os → Q (.ref R) s') →
      wpAny (model Challenge.rw_oc0165_02.row.prog w) (Am dp un) (call (.ref 267) [.ref lr, .str sg tsg, .int room tr]) Q E s
section
variable {w : World} {G g : Heap} {L : Addr} {m : Str → Option Value} {rest : List (Addr × Obj)} {s : Shared} {Q E : Value → Shared → Prop}
theorem u_cut {sg : Str} {room : Int} {k dp un : Nat} {lr : Addr} {vs : List Value} {rs : List Str} {tsg tr : Tok} {tb tc : Array Value} (H : CutC w G sg room k dp un) (F : Fr g L s.heap m) (N : News g L s.heap ((140, tabObj tb) :: (147, tabObj tc) :: rest)) (hoff : ∀ q ∈ rest, q.1 ≠ 140 ∧ q.1 ≠ 147) (hs : G.StaysIn g)
    (hk : rs.length = k) (hl : s.heap.IsList lr vs.toArray) (hi : StrsAre vs rs) (hrl : ∀ y ∈ rs, RowOk y) (hls : ∀ y ∈ rs, lastN y ∈ sg.cps.toList) (htr : TriplesOk tb.toList) (htr2 : TriplesOk tc.toList) (hbare : AllBare s.gens)
    (k : ∀ h' gs' tk' R vs' n' tb' tc', Fr g L h' m → News g L h' ((R, listOf (List.toArray vs') n') :: (140, tabObj tb') :: (147, tabObj tc') :: rest) → (∀ q ∈ ((140, tabObj tb') :: (147, tabObj tc') :: rest), q.1 ≠ R) → StrsAre vs' (passed leZ rs) → TriplesOk tb'.toList → TriplesOk tc'.toList → AllBare gs' → Q (.ref R) ⟨h', gs', s.drawn, tk', s.os⟩) :
    wpAny (model Challenge.rw_oc0165_02.row.prog w) (Am dp un) (call (.ref 267) [.ref lr, .str sg tsg, .int room tr]) Q E s := by
  have z1 := N _ (.head _)
  have z2 := N _ (.tail _ (.head _))
  refine H s lr vs rs tsg tr tb tc Q E hk (stays_fr F hs) hl hi hrl hls z1.1 htr z2.1 htr2 hbare ?_
  rintro ⟨h', gs', dr', tk', os'⟩ R vs' n' hk hR hR' hvs ⟨tb', hP, ht⟩ ⟨tc', hP2, ht2⟩ hb hdr hos
  dsimp only at hk hR' hP hP2 hb hdr hos
  subst hdr hos
  obtain ⟨F', N', hne⟩ := tabs_after F N hoff hk hR hR' hP hP2
  exact k h' gs' tk' R vs' n' tb' tc' F' N' hne hvs ht ht2 hb
end
section
variable {w : World} {p : Program} {loose : List Str} {mean : ExcName → Option Value} {mg mb : Str → Option Value} {G : Heap}
set_option maxHeartbeats 2000000
theorem c_cut (D : Gd w p loose mean mg mb G) {sg : Str} {room : Int} (hsg : sg.cps.toList.Pairwise (fun a b => b < a)) (hns : ∀ c ∈ sg.cps.toList, Unicode.isSpace c = false) (hr0 : 0 ≤ room) (hr5 : room ≤ 5) (hPG : G.get? 140 = none) (hPG2 : G.get? 147 = none) :
    ∀ (k dp un : Nat), dp + 10 * k ≤ 450 → un + 10 * k ≤ 250 → k ≤ 10 → CutC w G sg room k dp un := by
  intro k
  induction k using Nat.strongRecOn with
  | ind k ih =>
  intro dp un hdp hun hk10 s lr vs rs tsg tr tb tc Q E hk St hl hi hrl hls hP htr hP2 htr2 hbare hret
  have fill : (hd.heap_1 w.params).In G := D.X
  revert fill
  k_fill
  intro _
  refine wpAny_call ?_
  refine' enterP (binds := [("rows", .ref lr), ("signs", .str sg tsg), ("room", .int room tr)]) [(140, tabObj tb), (147, tabObj tc)] D St ?k3 ?k4 ?k6 ?k7 ?k8 ?k9 ?kB ?c5 ?c2 ?c3 ?c4 ?_
  case k3 => exact all_cons (hP) (all_cons (hP2) all_nil)
  case k4 => exact all_cons (hPG) (all_cons (hPG2) all_nil)
  (((case k6 => k_is); (case k7 => k_is); (case k8 => exact Nat.lt_of_le_of_lt (by (first | lia | omega)) (by decide : 450 < recursionLimit))))
  case k9 => exact BindsTo.of_eq rfl
  (((case kB => exact locs rfl); (case c5 => decide); (case c2 => exact rfl); (case c3 => exact rfl); (case c4 => exact rfl)))
  intro g L h hg hL F N X T l1 hkeep hst
  replace hkeep : ∀ b o, s.heap.get? b = some o → b ≠ 140 → b ≠ 147 → g.get? b = some o := fun b o e hb hb2 => hkeep b o e (by exact all_cons (hb.symm) (all_cons (hb2.symm) all_nil))
  have hlg : g.IsList lr vs.toArray := by
    obtain ⟨o, ho, hc, r⟩ := hl
    exact ⟨o, hkeep _ _ ho (ne_cls ho hP (by simp [hc])) (ne_cls ho hP2 (by simp [hc])), hc, r⟩
  dsimp only
  try k_fold
  (repeat' (first | (fail_if_success (first | (with_reducible show wpAny _ _ (exec (Stmt.For _ _ _ _ _) _) _ _ _) | (with_reducible show LoopPost _ _ _ _ _ _ _ _ _) | (with_reducible show wpAny _ _ (call (Value.builtin "str.join") _) _ _ _) | (with_reducible show wpAny _ _ (call (Value.builtin "str.split") _) _ _ _) | (with_reducible show wpAny _ _ (subscriptTail _ (PySem.Expr.Slice _ _ _ _) _ _) _ _ _) | (with_reducible show wpAny _ _ (binaryOp _ (Value.ref _) (Value.ref _)) _ _ _) | (with_reducible show wpAny _ _ (compareOp _ (Value.ref _) (Value.ref _)) _ _ _) | (with_reducible show wpAny _ _ (call (Value.ref 267) _) _ _ _))); (first | (k_unfold; (try dsimp only)) | walk1 | (dsimp only; walk1))))
  rename Fr _ _ _ _ => F1
  rename News _ _ _ _ => N1
  have hvl := hi.length
  have hcu : un + 3 < cLine := Nat.lt_of_le_of_lt (by (first | lia | omega)) (by decide : 253 < cLine)
  by_cases hne : rs = []
  · subst hne
    cases hi
    refine PySem.EqBoolInt.of_rc (SeqAt.RcAt.lists (e := fun _ => true) (hlg.at fun o e => F1.keep _ _ e) (PySem.IsL.isList (n := 0) (N1 _ (.head _)).1) rfl hcu (fun j h1 => absurd h1 (Nat.not_lt_zero _))) ?_
    (repeat' (first | (fail_if_success (first | (with_reducible show wpAny _ _ (exec (Stmt.For _ _ _ _ _) _) _ _ _) | (with_reducible show LoopPost _ _ _ _ _ _ _ _ _) | (with_reducible show wpAny _ _ (call (Value.builtin "str.join") _) _ _ _) | (with_reducible show wpAny _ _ (call (Value.builtin "str.split") _) _ _ _) | (with_reducible show wpAny _ _ (subscriptTail _ (PySem.Expr.Slice _ _ _ _) _ _) _ _ _) | (with_reducible show wpAny _ _ (binaryOp _ (Value.ref _) (Value.ref _)) _ _ _) | (with_reducible show wpAny _ _ (compareOp _ (Value.ref _) (Value.ref _)) _ _ _) | (with_reducible show wpAny _ _ (call (Value.ref 267) _) _ _ _))); (first | (k_unfold; (try dsimp only)) | walk1 | (dsimp only; walk1))))
    rename Fr _ _ _ _ => F2
    rename News _ _ _ _ => N2
    rename _ < _ ∧ 140 < _ ∧ 147 < _ => hlt
    have z := N2 _ (.head _)
    exact hret _ _ [] 0 (fun b o e h1 h2 => F2.keep _ _ (hkeep b o e h1 h2)) (none_of2 hkeep (Nat.ne_of_gt hlt.2.1) (Nat.ne_of_gt hlt.2.2) z.2.2) z.1 .nil ⟨tb, (N2 _ (.tail _ (.tail _ (.head _)))).1, htr⟩ ⟨tc, (N2 _ (.tail _ (.tail _ (.tail _ (.head _))))).1, htr2⟩ hbare rfl rfl
  refine PySem.EqBoolInt.of_rc (SeqAt.RcAt.lists_lengths (hlg.at fun o e => F1.keep _ _ e) (PySem.IsL.isList (n := 0) (N1 _ (.head _)).1) (by simp; intro e; apply hne; subst e; exact List.length_eq_zero_iff.mp hvl.symm) hcu) ?_
  replace N1 : News g L _ [(140, tabObj tb), (147, tabObj tc)] := fun q hq => N1 q (.tail _ hq)
  have hlrs : rs.length ≤ 10 := by (first | lia | omega)
  (repeat' (first | (fail_if_success (first | (with_reducible show wpAny _ _ (exec (Stmt.For _ _ _ _ _) _) _ _ _) | (with_reducible show LoopPost _ _ _ _ _ _ _ _ _) | (with_reducible show wpAny _ _ (call (Value.builtin "str.join") _) _ _ _) | (with_reducible show wpAny _ _ (call (Value.builtin "str.split") _) _ _ _) | (with_reducible show wpAny _ _ (subscriptTail _ (PySem.Expr.Slice _ _ _ _) _ _) _ _ _) | (with_reducible show wpAny _ _ (binaryOp _ (Value.ref _) (Value.ref _)) _ _ _) | (with_reducible show wpAny _ _ (compareOp _ (Value.ref _) (Value.ref _)) _ _ _) | (with_reducible show wpAny _ _ (call (Value.ref 267) _) _ _ _))); (first | (k_unfold; (try dsimp only)) | walk1 | (dsimp only; walk1))))
  rename Fr _ _ _ _ => F3
  rename News _ _ _ _ => N3
  refine u_vmake F3 N3 X D hst rfl (show dp + 1 ≤ 500 by (first | lia | omega)) (show un + 3 ≤ 300 by (first | lia | omega)) (by decide) ?_
  intro h8 tk8 V dv Ln x d n8 hs0 t0 hh tt vc vl nd F8 N8 hoff8
  clear F3 N3
  replace N8 : News g L h8 (led7 V (instObj 94 dv) dv (vfDict hh tt (.int (room + 12 * (rs.length : Nat) + 1) _) vc vl (.str sg tsg) Ln x nd) Ln (listOf ([] : List Value).toArray 0) x (acObj d #[] n8) d (acDict hs0 t0 (.int room tr) 1) (tabObj tb) (tabObj tc) []) := N8
  (repeat' (first | (fail_if_success (first | (with_reducible show wpAny _ _ (exec (Stmt.For _ _ _ _ _) _) _ _ _) | (with_reducible show LoopPost _ _ _ _ _ _ _ _ _) | (with_reducible show wpAny _ _ (call (Value.builtin "str.join") _) _ _ _) | (with_reducible show wpAny _ _ (call (Value.builtin "str.split") _) _ _ _) | (with_reducible show wpAny _ _ (subscriptTail _ (PySem.Expr.Slice _ _ _ _) _ _) _ _ _) | (with_reducible show wpAny _ _ (binaryOp _ (Value.ref _) (Value.ref _)) _ _ _) | (with_reducible show wpAny _ _ (compareOp _ (Value.ref _) (Value.ref _)) _ _ _) | (with_reducible show wpAny _ _ (call (Value.ref 267) _) _ _ _))); (first | (k_unfold; (try dsimp only)) | walk1 | (dsimp only; walk1))))
  refine wpAny_For ?_ (fun _ => rfl)
  (repeat' (first | (fail_if_success (first | (with_reducible show wpAny _ _ (exec (Stmt.For _ _ _ _ _) _) _ _ _) | (with_reducible show LoopPost _ _ _ _ _ _ _ _ _) | (with_reducible show wpAny _ _ (call (Value.builtin "str.join") _) _ _ _) | (with_reducible show wpAny _ _ (call (Value.builtin "str.split") _) _ _ _) | (with_reducible show wpAny _ _ (subscriptTail _ (PySem.Expr.Slice _ _ _ _) _ _) _ _ _) | (with_reducible show wpAny _ _ (binaryOp _ (Value.ref _) (Value.ref _)) _ _ _) | (with_reducible show wpAny _ _ (compareOp _ (Value.ref _) (Value.ref _)) _ _ _) | (with_reducible show wpAny _ _ (call (Value.ref 267) _) _ _ _))); (first | (k_unfold; (try dsimp only)) | walk1 | (dsimp only; walk1))))
  rename Fr _ _ _ _ => F9
  rename News _ _ _ _ => N9
  refine add_listsC F9 N9 (vs := vs) (ws := [Value.str (Str.ofString ".") tk]) (hlg.at fun o e => F9.keep _ _ e) (News.isList N9 (.head _)) (by rw [hvl, sizeLine_eq]; simp; (first | lia | omega)) ?_
  intro C h10 F10 N10 lC
  clear F9 N9
  (repeat' (first | (fail_if_success (first | (with_reducible show wpAny _ _ (exec (Stmt.For _ _ _ _ _) _) _ _ _) | (with_reducible show LoopPost _ _ _ _ _ _ _ _ _) | (with_reducible show wpAny _ _ (call (Value.builtin "str.join") _) _ _ _) | (with_reducible show wpAny _ _ (call (Value.builtin "str.split") _) _ _ _) | (with_reducible show wpAny _ _ (subscriptTail _ (PySem.Expr.Slice _ _ _ _) _ _) _ _ _) | (with_reducible show wpAny _ _ (binaryOp _ (Value.ref _) (Value.ref _)) _ _ _) | (with_reducible show wpAny _ _ (compareOp _ (Value.ref _) (Value.ref _)) _ _ _) | (with_reducible show wpAny _ _ (call (Value.ref 267) _) _ _ _))); (first | (k_unfold; (try dsimp only)) | walk1 | (dsimp only; walk1))))
  obtain ⟨Lf, xm, Rg, hrs, hf, hLx, hRx⟩ := cut_find hsg (fun y hy => by rw [(hrl y hy).len]; decide) hne hls
  have hrl11 : ∀ y ∈ rs, y.length = 11 := fun y hy => (hrl y hy).len
  have oC : Off7 V dv Ln x d [(C, listOf (vs ++ [Value.str (Str.ofString ".") tk]).toArray 0)] := Off7.cons (fun q hq => Nat.ne_of_lt (lC q (.tail _ hq))) .nil
  have N10' : News g L h10 (led7 V (instObj 94 dv) dv (vfDict hh tt (.int (room + 12 * (rs.length : Nat) + 1) _) vc vl (.str sg tsg) Ln x nd) Ln (listOf ([] : List Value).toArray 0) x (acObj d #[] n8) d (acDict hs0 t0 (.int room tr) 1) (tabObj tb) (tabObj tc) ([] ++ [(C, listOf (vs ++ [Value.str (Str.ofString ".") tk]).toArray 0)])) := news_sub N10 (by ((repeat' (first | exact sub_nil' | refine sub_cons' ?_ ?_ | exact List.Mem.head _ | refine List.Mem.tail _ ?_))))
  clear N10
  rename StrsAre vs rs => hi
  have hits : StrsAre (vs ++ [Value.str (Str.ofString ".") tk]) (rs ++ [dot]) := strs_push hi
  generalize vs ++ [Value.str (Str.ofString ".") tk] = its at oC N10' hits
  have hcs0 : cutSt rs Lf Rg xm room 0 = ([], [], room) := by unfold cutSt; rw [if_pos (Nat.zero_le _)]; rfl
  refine for_listN (l := C) (items := its.toArray) (ep := 0) (CutI rs Lf Rg xm room sg tsg tr V dv Ln x d hh tt _ _ vc vl nd hs0 t0 C its) rfl
    (by rintro i m nw gs ⟨_, tl, _, _, _, _, _, _, _, rfl, _⟩; exact .tail _ (.tail _ (.tail _ (.tail _ (.tail _ (.tail _ (.tail _ (List.mem_append_right _ (.head _))))))))) F10 N10'
    ⟨hbare, [], [], 0, #[], n8, tr, tb, tc, by rw [hcs0], oC, by rw [hcs0]; exact .nil, by rw [hcs0]; exact .nil, htr, htr2, rfl, rfl, rfl⟩ rfl rfl ?_ ?_
  · rintro i v m nw h11 tk11 gs11 own E11 hv ⟨hb11, tl, lns, nl, ps, n, ti, tb', tc', rfl, R11, hpi, hls', ht1, ht2, hm, hm2, hm3⟩ hoff F11 N11
    clear F10 N10'
    obtain ⟨m2, rfl⟩ := as_if3 hm hm2 hm3
    clear hm hm2 hm3
    dsimp only at F11
    obtain ⟨y, ty, rfl, hy⟩ := strs_item hits (show its[i]? = some v by simpa using hv)
    have hir : i < rs.length + 1 := by have := (List.getElem?_eq_some_iff.mp hy).1; simpa using this
    have hcs : cutSt rs Lf Rg xm room i = ([], pr (rs.take i), room) := by unfold cutSt; rw [if_pos (by (first | lia | omega))]
    rw [hcs] at hpi hls' N11
    dsimp only at hpi hls'
    have R11' : Off7 V dv Ln x d (tl ++ ((C, listOf its.toArray 0) :: own)) := fun q hq => by
      rcases List.mem_append.mp hq with hq | hq
      · exact R11 q (List.mem_append_left _ hq)
      · rcases List.mem_cons.mp hq with rfl | hq
        · exact R11 _ (List.mem_append_right _ (.head _))
        · exact ⟨fun e => hoff q hq V (.head _) e, fun e => hoff q hq dv (.tail _ (.head _)) e, fun e => hoff q hq Ln (.tail _ (.tail _ (.head _))) e, fun e => hoff q hq x (.tail _ (.tail _ (.tail _ (.head _)))) e, fun e => hoff q hq d (.tail _ (.tail _ (.tail _ (.tail _ (.head _))))) e, fun e => hoff q hq 140 (.tail _ (.tail _ (.tail _ (.tail _ (.tail _ (.head _)))))) e, fun e => hoff q hq 147 (.tail _ (.tail _ (.tail _ (.tail _ (.tail _ (.tail _ (.head _))))))) e⟩
    have oC2 : ∀ q ∈ own, q.1 ≠ C := fun q hq => hoff q hq C (by
      refine .tail _ (.tail _ (.tail _ (.tail _ (.tail _ (.tail _ (.tail _ (?_)))))))
      rw [List.map_append]
      exact List.mem_append_right _ (.head _))
    have otl : ∀ q ∈ own, ∀ r ∈ tl, q.1 ≠ r.1 := fun q hq r hr => hoff q hq r.1 (by
      refine .tail _ (.tail _ (.tail _ (.tail _ (.tail _ (.tail _ (.tail _ (?_)))))))
      rw [List.map_append]
      exact List.mem_append_left _ (List.mem_map_of_mem hr))
    replace N11 : News g L h11 (led7 V (instObj 94 dv) dv (vfDict hh tt (.int (room + 12 * (rs.length : Nat) + 1) _) vc vl (.str sg tsg) Ln x nd) Ln (listOf lns.toArray nl) x (acObj d ps n) d (acDict hs0 t0 (.int room ti) 1) (tabObj tb') (tabObj tc') (tl ++ ((C, listOf its.toArray 0) :: own))) := fun q hq => N11 q (by
      show q ∈ led7 _ _ _ _ _ _ _ _ _ _ _ _ ((tl ++ [(C, listOf its.toArray 0)]) ++ own)
      rw [List.append_assoc]
      exact hq)
    (repeat' (first | (fail_if_success (first | (with_reducible show wpAny _ _ (exec (Stmt.For _ _ _ _ _) _) _ _ _) | (with_reducible show LoopPost _ _ _ _ _ _ _ _ _) | (with_reducible show wpAny _ _ (call (Value.builtin "str.join") _) _ _ _) | (with_reducible show wpAny _ _ (call (Value.builtin "str.split") _) _ _ _) | (with_reducible show wpAny _ _ (subscriptTail _ (PySem.Expr.Slice _ _ _ _) _ _) _ _ _) | (with_reducible show wpAny _ _ (binaryOp _ (Value.ref _) (Value.ref _)) _ _ _) | (with_reducible show wpAny _ _ (compareOp _ (Value.ref _) (Value.ref _)) _ _ _) | (with_reducible show wpAny _ _ (call (Value.ref 267) _) _ _ _))); (first | (k_unfold; (try dsimp only)) | walk1 | (dsimp only; walk1))))
    rename Fr _ _ _ _ => F12
    rename News _ _ _ _ => N12
    refine u_chunk (lines := []) (l := pr (rs.take i)) F12 N12 R11' hpi hls' ht1 ht2 D hst rfl (show dp + 1 ≤ 600 by (first | lia | omega)) (show un + 3 ≤ 400 by (first | lia | omega)) hb11 (cut_short hlrs hrl11 hy) hr0 (by (first | lia | omega)) (by decide) (fun c hc => by simp [Txt.isspace, hns c hc]) (fun h1 h2 => cut_zero rfl hrl11 hf hy h1 h2) ?_
    intro h13 gs13 tk13 lines' l' i0' lns' nl' ps' n' ti' tb2 tc2 tl' F13 N13 hpi' off' old' hls2 ht1' ht2' hb13 hfin
    rw [show (Str.ofString " ", y) = (spS, y) from rfl, cut_step rfl hrs hrl11 hf hy] at hfin
    have hown : ∀ q ∈ own, _root_.PySem.Heap.get? _ q.1 = some q.2 := fun q hq => (N12 q (.tail _ (.tail _ (.tail _ (.tail _ (.tail _ (.tail _ (.tail _ (List.mem_append_right _ (.tail _ hq)))))))))).1
    have hCat := (N12 (C, listOf its.toArray 0) (.tail _ (.tail _ (.tail _ (.tail _ (.tail _ (.tail _ (.tail _ (List.mem_append_right _ (.head _)))))))))).1
    clear F12 N12
    (repeat' (first | (fail_if_success (first | (with_reducible show wpAny _ _ (exec (Stmt.For _ _ _ _ _) _) _ _ _) | (with_reducible show LoopPost _ _ _ _ _ _ _ _ _) | (with_reducible show wpAny _ _ (call (Value.builtin "str.join") _) _ _ _) | (with_reducible show wpAny _ _ (call (Value.builtin "str.split") _) _ _ _) | (with_reducible show wpAny _ _ (subscriptTail _ (PySem.Expr.Slice _ _ _ _) _ _) _ _ _) | (with_reducible show wpAny _ _ (binaryOp _ (Value.ref _) (Value.ref _)) _ _ _) | (with_reducible show wpAny _ _ (compareOp _ (Value.ref _) (Value.ref _)) _ _ _) | (with_reducible show wpAny _ _ (call (Value.ref 267) _) _ _ _))); (first | (k_unfold; (try dsimp only)) | walk1 | (dsimp only; walk1))))
    have e1 : (cutSt rs Lf Rg xm room (i + 1)).1 = lines' := by rw [← hfin]
    have e2 : (cutSt rs Lf Rg xm room (i + 1)).2.1 = l' := by rw [← hfin]
    have e3 : (cutSt rs Lf Rg xm room (i + 1)).2.2 = i0' := by rw [← hfin]
    clear hfin
    refine ⟨_, _, _, led7 V (instObj 94 dv) dv (vfDict hh tt (.int (room + 12 * (rs.length : Nat) + 1) _) vc vl (.str sg tsg) Ln x nd) Ln (listOf lns'.toArray nl') x (acObj d ps' n') d (acDict hs0 t0 (.int i0' ti') 1) (tabObj tb2) (tabObj tc2) (tl' ++ [(C, listOf its.toArray 0)]), _, rfl, F13, ?_, ?_, hb13, tl', lns', nl', ps', n', ti', tb2, tc2, by rw [e3], ?_, by rw [e2]; exact hpi', by rw [e1]; exact hls2, ht1', ht2', rfl, rfl, rfl⟩
    · intro q hq
      refine N13 q ?_
      replace hq : q ∈ led7 _ _ _ _ _ _ _ _ _ _ _ _ ((tl' ++ [(C, listOf its.toArray 0)]) ++ own) := hq
      rw [List.append_assoc] at hq
      exact hq
    · intro q hq b hb e
      rcases hb with _ | ⟨_, _ | ⟨_, _ | ⟨_, _ | ⟨_, _ | ⟨_, _ | ⟨_, _ | ⟨_, hb⟩⟩⟩⟩⟩⟩⟩
      · exact (R11' q (List.mem_append_right _ (.tail _ hq))).1 e
      · exact (R11' q (List.mem_append_right _ (.tail _ hq))).2.1 e
      · exact (R11' q (List.mem_append_right _ (.tail _ hq))).2.2.1 e
      · exact (R11' q (List.mem_append_right _ (.tail _ hq))).2.2.2.1 e
      · exact (R11' q (List.mem_append_right _ (.tail _ hq))).2.2.2.2.1 e
      · exact (R11' q (List.mem_append_right _ (.tail _ hq))).2.2.2.2.2.1 e
      · exact (R11' q (List.mem_append_right _ (.tail _ hq))).2.2.2.2.2.2 e
      · obtain ⟨r, hr, rfl⟩ := List.mem_map.mp hb
        rcases List.mem_append.mp hr with hr | hr
        · rcases old' r hr with h1 | h1
          · exact otl q hq r h1 e
          · have := hown q hq
            rw [e, h1] at this; cases this
        · rw [List.mem_singleton.mp hr] at e
          exact oC2 q hq e
    · intro q hq
      rcases List.mem_append.mp hq with hq | hq
      · exact off' q hq
      · exact R11 q (List.mem_append_right _ hq)
  · rintro m nw h11 tk11 gs11 E11 ⟨hb11, tl, lns, nl, ps, n, ti, tb', tc', rfl, R11, hpi, hls', ht1, ht2, hm, hm2, hm3⟩ F11 N11
    clear F10 N10'
    obtain ⟨m2, rfl⟩ := as_if3 hm hm2 hm3
    clear hm hm2 hm3
    have hisz : its.toArray.size = rs.length + 1 := by have := hits.length; simpa using this
    have hcs : cutSt rs Lf Rg xm room its.toArray.size = ([lineOf (Lf ++ [xm])], pr (Rg ++ [dot]), 0) := by unfold cutSt; rw [hisz, if_neg (by (first | lia | omega))]
    rw [hcs] at hpi hls' N11
    dsimp only at hpi hls'
    rw [← pr_snoc] at hpi
    have hmem : ∀ y ∈ Lf ++ [xm], y ∈ rs := fun y hy => by
      rw [hrs]
      rcases List.mem_append.mp hy with hy | hy
      · exact List.mem_append_left _ hy
      · rw [List.mem_singleton.mp hy]; exact List.mem_append_right _ (.head _)
    have hmemR : ∀ y ∈ Rg, y ∈ rs := fun y hy => by rw [hrs]; exact List.mem_append_right _ (.tail _ hy)
    have hwA : ∀ y ∈ Lf ++ [xm], WordOk y := fun y hy => (hrl y (hmem y hy)).word
    have hwB : ∀ y ∈ Rg ++ [dot], WordOk y := fun y hy => by
      rcases List.mem_append.mp hy with hy | hy
      · exact (hrl y (hmemR y hy)).word
      · rw [List.mem_singleton.mp hy]; exact dot_word
    have hLR : Lf.length + 1 + Rg.length = rs.length := by rw [hrs]; simp; (first | lia | omega)
    have hlA : (lineOf (Lf ++ [xm])).length ≤ 120 := by
      have := line_lenW (b := Lf ++ [xm]) fun y hy => Nat.le_of_eq (hrl11 y (hmem y hy))
      simp at this
      (first | lia | omega)
    have hlB : (lineOf (Rg ++ [dot])).length ≤ 132 := by
      have := line_lenW (b := Rg ++ [dot]) fun y hy => by
        rcases List.mem_append.mp hy with hy | hy
        · exact Nat.le_of_eq (hrl11 y (hmemR y hy))
        · rw [List.mem_singleton.mp hy]; decide
      simp at this
      (first | lia | omega)
    (repeat' (first | (fail_if_success (first | (with_reducible show wpAny _ _ (exec (Stmt.For _ _ _ _ _) _) _ _ _) | (with_reducible show LoopPost _ _ _ _ _ _ _ _ _) | (with_reducible show wpAny _ _ (call (Value.builtin "str.join") _) _ _ _) | (with_reducible show wpAny _ _ (call (Value.builtin "str.split") _) _ _ _) | (with_reducible show wpAny _ _ (subscriptTail _ (PySem.Expr.Slice _ _ _ _) _ _) _ _ _) | (with_reducible show wpAny _ _ (binaryOp _ (Value.ref _) (Value.ref _)) _ _ _) | (with_reducible show wpAny _ _ (compareOp _ (Value.ref _) (Value.ref _)) _ _ _) | (with_reducible show wpAny _ _ (call (Value.ref 267) _) _ _ _))); (first | (k_unfold; (try dsimp only)) | walk1 | (dsimp only; walk1))))
    rename Fr _ _ _ _ => F12
    rename News _ _ _ _ => N12
    refine wp_up rfl (show dp + 1 ≤ 500 by (first | lia | omega)) (show un + 3 ≤ 300 by (first | lia | omega)) (c_vstr (l := pr Rg) (a := spS) (b := dot) (lines := [lineOf (Lf ++ [xm])]) D (stays_fr F12 hst) (VFAt.of_news N12 hls' ht1 ht2 (hpi.parts N12 fun q hq => .tail _ (.tail _ (.tail _ (.tail _ (.tail _ (.tail _ (.tail _ (List.mem_append_left _ hq))))))))) (offG_ofH N12 hst) hb11 ?sh (by decide) ?isp (by simp) (by decide) ?hlen ?_)
    case sh =>
      rw [pr_snoc]
      refine ⟨by simp [pr]; (first | lia | omega), fun q hq => ?_⟩
      obtain ⟨z, hz, rfl⟩ := List.mem_map.mp hq
      refine ⟨by show spS.length ≤ 1000; decide, ?_⟩
      show z.length ≤ 1000
      rcases List.mem_append.mp hz with hz | hz
      · rw [hrl11 z (hmemR z hz)]; decide
      · rw [List.mem_singleton.mp hz]; decide
    case isp => rw [pr_snoc]; exact line_isspaceW (by simp) hwB
    case hlen =>
      rw [pr_snoc]
      show ([lineOf (Lf ++ [xm]), lineOf (Rg ++ [dot])].map (·.length)).sum + 2 ≤ 1048576
      simp
      (first | lia | omega)
    intro s13 t13 hk13 ⟨tb3, hP13, ht13⟩ ⟨tc3, hQ13, ht13'⟩ hb13 hdr13 hos13
    obtain ⟨h13, gs13, dr13, tk13, os13⟩ := s13
    dsimp only at hk13 hP13 hQ13 hb13 hdr13 hos13
    subst hdr13 hos13
    obtain ⟨F13, N13⟩ := vf_left F12 N12 hk13 hP13 hQ13
    clear F12 N12
    rw [show [lineOf (Lf ++ [xm])] ++ [strOf (pr Rg ++ [(spS, dot)])] = [lineOf (Lf ++ [xm]), lineOf (Rg ++ [dot])] by rw [pr_snoc]; rfl]
    (repeat' (first | (fail_if_success (first | (with_reducible show wpAny _ _ (exec (Stmt.For _ _ _ _ _) _) _ _ _) | (with_reducible show LoopPost _ _ _ _ _ _ _ _ _) | (with_reducible show wpAny _ _ (call (Value.builtin "str.join") _) _ _ _) | (with_reducible show wpAny _ _ (call (Value.builtin "str.split") _) _ _ _) | (with_reducible show wpAny _ _ (subscriptTail _ (PySem.Expr.Slice _ _ _ _) _ _) _ _ _) | (with_reducible show wpAny _ _ (binaryOp _ (Value.ref _) (Value.ref _)) _ _ _) | (with_reducible show wpAny _ _ (compareOp _ (Value.ref _) (Value.ref _)) _ _ _) | (with_reducible show wpAny _ _ (call (Value.ref 267) _) _ _ _))); (first | (k_unfold; (try dsimp only)) | walk1 | (dsimp only; walk1))))
    rename Fr _ _ _ _ => F14
    rename News _ _ _ _ => N14
    have hsp : Txt.split (Txt.join (Str.ofString ";") [lineOf (Lf ++ [xm]), lineOf (Rg ++ [dot])]) (Str.ofString ";") = [lineOf (Lf ++ [xm]), lineOf (Rg ++ [dot])] := split_join (c := 59) (by simp) (fun a ha => by
      rcases ha with _ | ⟨_, _ | ⟨_, ha⟩⟩
      · exact line_ncW hwA
      · exact line_ncW hwB
      · cases ha)
    have hjl : (Txt.join (Str.ofString ";") [lineOf (Lf ++ [xm]), lineOf (Rg ++ [dot])]).length ≤ 1000 := by
      have e := size_glued (Str.ofString ";") [lineOf (Lf ++ [xm]), lineOf (Rg ++ [dot])]
      have e3 : (Str.ofString ";").length = 1 := by decide
      have e4 : (Txt.join (Str.ofString ";") [lineOf (Lf ++ [xm]), lineOf (Rg ++ [dot])]).length = _ := e
      rw [e4, e3]
      simp
      (first | lia | omega)
    refine splitV1 F14 N14 (by decide) (by rw [sizeLine_eq]; (first | lia | omega)) ?_
    intro B15 v15 h15 tk15 hs15 F15 N15 l15
    rw [hsp] at hs15
    obtain ⟨t1, t2, rfl⟩ : ∃ t1 t2, v15 = [Value.str (lineOf (Lf ++ [xm])) t1, Value.str (lineOf (Rg ++ [dot])) t2] := by
      cases hs15 with
      | cons x t1 r => cases r with
        | cons y t2 r => cases r; exact ⟨t1, t2, rfl⟩
    clear F14 N14 hs15 hsp hjl
    replace N15 : News g L h15 ((B15, listOf #[Value.str (lineOf (Lf ++ [xm])) t1, Value.str (lineOf (Rg ++ [dot])) t2] 0) :: (140, tabObj tb3) :: (147, tabObj tc3) :: []) := N15
    (repeat' (first | (fail_if_success (first | (with_reducible show wpAny _ _ (exec (Stmt.For _ _ _ _ _) _) _ _ _) | (with_reducible show LoopPost _ _ _ _ _ _ _ _ _) | (with_reducible show wpAny _ _ (call (Value.builtin "str.join") _) _ _ _) | (with_reducible show wpAny _ _ (call (Value.builtin "str.split") _) _ _ _) | (with_reducible show wpAny _ _ (subscriptTail _ (PySem.Expr.Slice _ _ _ _) _ _) _ _ _) | (with_reducible show wpAny _ _ (binaryOp _ (Value.ref _) (Value.ref _)) _ _ _) | (with_reducible show wpAny _ _ (compareOp _ (Value.ref _) (Value.ref _)) _ _ _) | (with_reducible show wpAny _ _ (call (Value.ref 267) _) _ _ _))); (first | (k_unfold; (try dsimp only)) | walk1 | (dsimp only; walk1))))
    rename Fr _ _ _ _ => F16
    rename News _ _ _ _ => N16
    show wpAny _ _ (call (.builtin "str.split") [.str (lineOf (Lf ++ [xm])) t1]) _ _ _
    refine splitV F16 N16 (by rw [sizeLine_eq]; (first | lia | omega)) ?_
    intro B17 v17 h17 tk17 hs17 F17 N17 l17
    rw [words_lineW (by simp) hwA] at hs17
    clear F16 N16
    (repeat' (first | (fail_if_success (first | (with_reducible show wpAny _ _ (exec (Stmt.For _ _ _ _ _) _) _ _ _) | (with_reducible show LoopPost _ _ _ _ _ _ _ _ _) | (with_reducible show wpAny _ _ (call (Value.builtin "str.join") _) _ _ _) | (with_reducible show wpAny _ _ (call (Value.builtin "str.split") _) _ _ _) | (with_reducible show wpAny _ _ (subscriptTail _ (PySem.Expr.Slice _ _ _ _) _ _) _ _ _) | (with_reducible show wpAny _ _ (binaryOp _ (Value.ref _) (Value.ref _)) _ _ _) | (with_reducible show wpAny _ _ (compareOp _ (Value.ref _) (Value.ref _)) _ _ _) | (with_reducible show wpAny _ _ (call (Value.ref 267) _) _ _ _))); (first | (k_unfold; (try dsimp only)) | walk1 | (dsimp only; walk1))))
    rename Fr _ _ _ _ => F18
    rename News _ _ _ _ => N18
    show wpAny _ _ (call (.builtin "str.split") [.str (lineOf (Rg ++ [dot])) t2]) _ _ _
    refine splitV F18 N18 (by rw [sizeLine_eq]; (first | lia | omega)) ?_
    intro B19 v19 h19 tk19 hs19 F19 N19 l19
    rw [words_lineW (by simp) hwB] at hs19
    clear F18 N18
    have hv17 : v17.length = Lf.length + 1 := by rw [hs17.length]; simp
    have hv19 : v19.length = Rg.length + 1 := by rw [hs19.length]; simp
    have hLfS : StrsAre (v17.take (v17.length - 1)) Lf := by
      have := hs17.take' Lf.length
      rw [List.take_left] at this
      rw [hv17]; simpa using this
    have hXS : StrsAre (v17.drop (v17.length - 1)) [xm] := by
      have := hs17.drop' Lf.length
      rw [List.drop_left] at this
      rw [hv17]; simpa using this
    have hRgS : StrsAre (v19.take (v19.length - 1)) Rg := by
      have := hs19.take' Rg.length
      rw [List.take_left] at this
      rw [hv19]; simpa using this
    (repeat' (first | (fail_if_success (first | (with_reducible show wpAny _ _ (exec (Stmt.For _ _ _ _ _) _) _ _ _) | (with_reducible show LoopPost _ _ _ _ _ _ _ _ _) | (with_reducible show wpAny _ _ (call (Value.builtin "str.join") _) _ _ _) | (with_reducible show wpAny _ _ (call (Value.builtin "str.split") _) _ _ _) | (with_reducible show wpAny _ _ (subscriptTail _ (PySem.Expr.Slice _ _ _ _) _ _) _ _ _) | (with_reducible show wpAny _ _ (binaryOp _ (Value.ref _) (Value.ref _)) _ _ _) | (with_reducible show wpAny _ _ (compareOp _ (Value.ref _) (Value.ref _)) _ _ _) | (with_reducible show wpAny _ _ (call (Value.ref 267) _) _ _ _))); (first | (k_unfold; (try dsimp only)) | walk1 | (dsimp only; walk1))))
    rename Fr _ _ _ _ => F20
    rename News _ _ _ _ => N20
    k_dflt (refine' slice_any (zs := v19.take (v19.length - 1)) F20 N20 (News.isList N20 (.head _)) .none (.int (-1) _) .none (by simp) (pick_but _) ?_ ?s1 ?s3)
    case s1 => with_unfolding_all rfl
    case s3 => rw [List.size_toArray, hv19, sizeLine_eq]; (first | lia | omega)
    intro D21 h21 F21 N21 l21
    clear F20 N20
    (repeat' (first | (fail_if_success (first | (with_reducible show wpAny _ _ (exec (Stmt.For _ _ _ _ _) _) _ _ _) | (with_reducible show LoopPost _ _ _ _ _ _ _ _ _) | (with_reducible show wpAny _ _ (call (Value.builtin "str.join") _) _ _ _) | (with_reducible show wpAny _ _ (call (Value.builtin "str.split") _) _ _ _) | (with_reducible show wpAny _ _ (subscriptTail _ (PySem.Expr.Slice _ _ _ _) _ _) _ _ _) | (with_reducible show wpAny _ _ (binaryOp _ (Value.ref _) (Value.ref _)) _ _ _) | (with_reducible show wpAny _ _ (compareOp _ (Value.ref _) (Value.ref _)) _ _ _) | (with_reducible show wpAny _ _ (call (Value.ref 267) _) _ _ _))); (first | (k_unfold; (try dsimp only)) | walk1 | (dsimp only; walk1))))
    rename Fr _ _ _ _ => F22
    rename News _ _ _ _ => N22
    have N23 := news_sub N22 (b := [(B17, listOf v17.toArray 0), (140, tabObj tb3), (147, tabObj tc3), (D21, listOf (v19.take (v19.length - 1)).toArray 0)]) (by ((repeat' (first | exact sub_nil' | refine sub_cons' ?_ ?_ | exact List.Mem.head _ | refine List.Mem.tail _ ?_))))
    clear N22
    k_dflt (refine' slice_any (zs := v17.take (v17.length - 1)) F22 N23 (News.isList N23 (.head _)) .none (.int (-1) _) .none (by simp) (pick_but _) ?_ ?s1 ?s3)
    case s1 => with_unfolding_all rfl
    case s3 => rw [List.size_toArray, hv17, sizeLine_eq]; (first | lia | omega)
    intro D24 h24 F24 N24 l24
    clear F22 N23
    (repeat' (first | (fail_if_success (first | (with_reducible show wpAny _ _ (exec (Stmt.For _ _ _ _ _) _) _ _ _) | (with_reducible show LoopPost _ _ _ _ _ _ _ _ _) | (with_reducible show wpAny _ _ (call (Value.builtin "str.join") _) _ _ _) | (with_reducible show wpAny _ _ (call (Value.builtin "str.split") _) _ _ _) | (with_reducible show wpAny _ _ (subscriptTail _ (PySem.Expr.Slice _ _ _ _) _ _) _ _ _) | (with_reducible show wpAny _ _ (binaryOp _ (Value.ref _) (Value.ref _)) _ _ _) | (with_reducible show wpAny _ _ (compareOp _ (Value.ref _) (Value.ref _)) _ _ _) | (with_reducible show wpAny _ _ (call (Value.ref 267) _) _ _ _))); (first | (k_unfold; (try dsimp only)) | walk1 | (dsimp only; walk1))))
    rename Fr _ _ _ _ => F25
    rename News _ _ _ _ => N25
    have N26 := news_sub N25 (b := [(140, tabObj tb3), (147, tabObj tc3), (D24, listOf (v17.take (v17.length - 1)).toArray 0), (B17, listOf v17.toArray 0), (D21, listOf (v19.take (v19.length - 1)).toArray 0)]) (by ((repeat' (first | exact sub_nil' | refine sub_cons' ?_ ?_ | exact List.Mem.head _ | refine List.Mem.tail _ ?_))))
    clear N25
    have off26 : ∀ q ∈ [(D24, listOf (v17.take (v17.length - 1)).toArray 0), (B17, listOf v17.toArray 0), (D21, listOf (v19.take (v19.length - 1)).toArray 0)], q.1 ≠ 140 ∧ q.1 ≠ 147 := by
      refine all_cons ?_ (all_cons ?_ (all_cons ?_ all_nil))
      · exact ⟨list_off N26 (.tail _ (.tail _ (.head _))) (.head _), list_off N26 (.tail _ (.tail _ (.head _))) (.tail _ (.head _))⟩
      · exact ⟨list_off N26 (.tail _ (.tail _ (.tail _ (.head _)))) (.head _), list_off N26 (.tail _ (.tail _ (.tail _ (.head _)))) (.tail _ (.head _))⟩
      · exact ⟨list_off N26 (.tail _ (.tail _ (.tail _ (.tail _ (.head _))))) (.head _), list_off N26 (.tail _ (.tail _ (.tail _ (.tail _ (.head _))))) (.tail _ (.head _))⟩
    refine u_cut (ih Lf.length (by (first | lia | omega)) (dp + 1) (un + 3) (by (first | lia | omega)) (by (first | lia | omega)) (by (first | lia | omega))) F25 N26 off26 hst rfl (N26.isList (.tail _ (.tail _ (.head _)))) hLfS (fun y hy => hrl y (hmem y (List.mem_append_left _ hy))) (fun y hy => hls y (hmem y (List.mem_append_left _ hy))) ht13 ht13' hb13 ?_
    intro h27 gs27 tk27 R27 v27 n27 tb27 tc27 F27 N27 hne27 hv27 ht27 ht27' hb27
    clear F25 N26
    (repeat' (first | (fail_if_success (first | (with_reducible show wpAny _ _ (exec (Stmt.For _ _ _ _ _) _) _ _ _) | (with_reducible show LoopPost _ _ _ _ _ _ _ _ _) | (with_reducible show wpAny _ _ (call (Value.builtin "str.join") _) _ _ _) | (with_reducible show wpAny _ _ (call (Value.builtin "str.split") _) _ _ _) | (with_reducible show wpAny _ _ (subscriptTail _ (PySem.Expr.Slice _ _ _ _) _ _) _ _ _) | (with_reducible show wpAny _ _ (binaryOp _ (Value.ref _) (Value.ref _)) _ _ _) | (with_reducible show wpAny _ _ (compareOp _ (Value.ref _) (Value.ref _)) _ _ _) | (with_reducible show wpAny _ _ (call (Value.ref 267) _) _ _ _))); (first | (k_unfold; (try dsimp only)) | walk1 | (dsimp only; walk1))))
    rename Fr _ _ _ _ => F28
    rename News _ _ _ _ => N28
    have N29 := news_sub N28 (b := [(140, tabObj tb27), (147, tabObj tc27), (R27, listOf v27.toArray n27), (B17, listOf v17.toArray 0), (D21, listOf (v19.take (v19.length - 1)).toArray 0)]) (by ((repeat' (first | exact sub_nil' | refine sub_cons' ?_ ?_ | exact List.Mem.head _ | refine List.Mem.tail _ ?_))))
    clear N28
    have off29 : ∀ q ∈ [(R27, listOf v27.toArray n27), (B17, listOf v17.toArray 0), (D21, listOf (v19.take (v19.length - 1)).toArray 0)], q.1 ≠ 140 ∧ q.1 ≠ 147 := by
      refine all_cons ?_ (fun q hq => ?_)
      · exact ⟨(hne27 _ (.head _)).symm, (hne27 _ (.tail _ (.head _))).symm⟩
      · exact off26 q (.tail _ hq)
    refine u_cut (ih Rg.length (by (first | lia | omega)) (dp + 1) (un + 3) (by (first | lia | omega)) (by (first | lia | omega)) (by (first | lia | omega))) F28 N29 off29 hst rfl (N29.isList (.tail _ (.tail _ (.tail _ (.tail _ (.head _)))))) hRgS (fun y hy => hrl y (hmemR y hy)) (fun y hy => hls y (hmemR y hy)) ht27 ht27' hb27 ?_
    intro h30 gs30 tk30 R30 v30 n30 tb30 tc30 F30 N30 hne30 hv30 ht30 ht30' hb30
    clear F28 N29
    have hl27 := hv27.length
    have hl30 := hv30.length
    rw [(passed_perm leZ Lf).length_eq] at hl27
    rw [(passed_perm leZ Rg).length_eq] at hl30
    (repeat' (first | (fail_if_success (first | (with_reducible show wpAny _ _ (exec (Stmt.For _ _ _ _ _) _) _ _ _) | (with_reducible show LoopPost _ _ _ _ _ _ _ _ _) | (with_reducible show wpAny _ _ (call (Value.builtin "str.join") _) _ _ _) | (with_reducible show wpAny _ _ (call (Value.builtin "str.split") _) _ _ _) | (with_reducible show wpAny _ _ (subscriptTail _ (PySem.Expr.Slice _ _ _ _) _ _) _ _ _) | (with_reducible show wpAny _ _ (binaryOp _ (Value.ref _) (Value.ref _)) _ _ _) | (with_reducible show wpAny _ _ (compareOp _ (Value.ref _) (Value.ref _)) _ _ _) | (with_reducible show wpAny _ _ (call (Value.ref 267) _) _ _ _))); (first | (k_unfold; (try dsimp only)) | walk1 | (dsimp only; walk1))))
    rename Fr _ _ _ _ => F31
    rename News _ _ _ _ => N31
    refine add_listsC F31 N31 (vs := v27) (ws := v30) (N31.isList (.tail _ (.tail _ (.tail _ (.head _))))) (N31.isList (.head _)) (by rw [hl27, hl30, sizeLine_eq]; (first | lia | omega)) ?_
    intro C32 h32 F32 N32 l32
    clear F31 N31
    (repeat' (first | (fail_if_success (first | (with_reducible show wpAny _ _ (exec (Stmt.For _ _ _ _ _) _) _ _ _) | (with_reducible show LoopPost _ _ _ _ _ _ _ _ _) | (with_reducible show wpAny _ _ (call (Value.builtin "str.join") _) _ _ _) | (with_reducible show wpAny _ _ (call (Value.builtin "str.split") _) _ _ _) | (with_reducible show wpAny _ _ (subscriptTail _ (PySem.Expr.Slice _ _ _ _) _ _) _ _ _) | (with_reducible show wpAny _ _ (binaryOp _ (Value.ref _) (Value.ref _)) _ _ _) | (with_reducible show wpAny _ _ (compareOp _ (Value.ref _) (Value.ref _)) _ _ _) | (with_reducible show wpAny _ _ (call (Value.ref 267) _) _ _ _))); (first | (k_unfold; (try dsimp only)) | walk1 | (dsimp only; walk1))))
    rename Fr _ _ _ _ => F33
    rename News _ _ _ _ => N33
    k_dflt (refine' slice_any (zs := v17.drop (v17.length - 1)) F33 N33 (N33.isList (.tail _ (.tail _ (.tail _ (.tail _ (.tail _ (.head _))))))) (.int (-1) _) .none .none (by simp) (pick_last _) ?_ ?s1 ?s3)
    case s1 => with_unfolding_all rfl
    case s3 => rw [List.size_toArray, hv17, sizeLine_eq]; (first | lia | omega)
    intro D34 h34 F34 N34 l34
    clear F33 N33
    (repeat' (first | (fail_if_success (first | (with_reducible show wpAny _ _ (exec (Stmt.For _ _ _ _ _) _) _ _ _) | (with_reducible show LoopPost _ _ _ _ _ _ _ _ _) | (with_reducible show wpAny _ _ (call (Value.builtin "str.join") _) _ _ _) | (with_reducible show wpAny _ _ (call (Value.builtin "str.split") _) _ _ _) | (with_reducible show wpAny _ _ (subscriptTail _ (PySem.Expr.Slice _ _ _ _) _ _) _ _ _) | (with_reducible show wpAny _ _ (binaryOp _ (Value.ref _) (Value.ref _)) _ _ _) | (with_reducible show wpAny _ _ (compareOp _ (Value.ref _) (Value.ref _)) _ _ _) | (with_reducible show wpAny _ _ (call (Value.ref 267) _) _ _ _))); (first | (k_unfold; (try dsimp only)) | walk1 | (dsimp only; walk1))))
    rename Fr _ _ _ _ => F35
    rename News _ _ _ _ => N35
    refine add_listsC F35 N35 (vs := v27 ++ v30) (ws := v17.drop (v17.length - 1)) (N35.isList (.tail _ (.head _))) (N35.isList (.head _)) (by rw [List.length_append, hl27, hl30, List.length_drop, hv17, sizeLine_eq]; (first | lia | omega)) ?_
    intro C36 h36 F36 N36 l36
    clear F35 N35
    (repeat' (first | (fail_if_success (first | (with_reducible show wpAny _ _ (exec (Stmt.For _ _ _ _ _) _) _ _ _) | (with_reducible show LoopPost _ _ _ _ _ _ _ _ _) | (with_reducible show wpAny _ _ (call (Value.builtin "str.join") _) _ _ _) | (with_reducible show wpAny _ _ (call (Value.builtin "str.split") _) _ _ _) | (with_reducible show wpAny _ _ (subscriptTail _ (PySem.Expr.Slice _ _ _ _) _ _) _ _ _) | (with_reducible show wpAny _ _ (binaryOp _ (Value.ref _) (Value.ref _)) _ _ _) | (with_reducible show wpAny _ _ (compareOp _ (Value.ref _) (Value.ref _)) _ _ _) | (with_reducible show wpAny _ _ (call (Value.ref 267) _) _ _ _))); (first | (k_unfold; (try dsimp only)) | walk1 | (dsimp only; walk1))))
    have z := N36 _ (.head _)
    refine hret _ _ _ _ (fun b o e h1 h2 => F36.keep _ _ (hkeep b o e h1 h2)) (none_of2 hkeep (list_off N36 (.head _) (.tail _ (.tail _ (.tail _ (.tail _ (.head _)))))) (list_off N36 (.head _) (.tail _ (.tail _ (.tail _ (.tail _ (.tail _ (.head _))))))) z.2.2) z.1 ?_ ⟨_, (N36 _ (.tail _ (.tail _ (.tail _ (.tail _ (.head _)))))).1, ht30⟩ ⟨_, (N36 _ (.tail _ (.tail _ (.tail _ (.tail _ (.tail _ (.head _))))))).1, ht30'⟩ hb30 rfl rfl
    have hL' : ∀ t ∈ Lf, leZ t xm = true := fun t ht => by
      have := hLx t ht
      unfold leZ lastZ
      exact decide_eq_true (by (first | lia | omega))
    have hR' : ∀ t ∈ Rg, leZ xm t = false := fun t ht => by
      have := hRx t ht
      unfold leZ lastZ
      exact decide_eq_false (by (first | lia | omega))
    rw [hrs, passed_split hL' hR', ← List.append_assoc]
    exact (hv27.append' hv30).append' hXS
end
end Mine
end

section
-- Thr
example : True := by w_top off; trivial
open PySem PySem.W PyProof.Rows PySem.Calls PySem.Spec
set_option maxRecDepth 100000
namespace Mine
/-- a loop that reads alone -/
inductive RdInv (g0 : Array GenState) (nw0 : List (Addr × Obj)) (P : (Str → Option Value) → Prop) (m : Str → Option Value) (nw : List (Addr × Obj)) (gs : Array GenState) : Prop
  | mk (eg : gs = g0) (en : nw = nw0) (h : P m)
theorem for_upto {prog : Program} {w : World} {A : Around} {E : Value → Shared → Prop} {s : Shared} {env : Env} {h₀ : Heap} {body orelse : List Stmt} {Q : Flow → Shared → Prop} {m₀ : Str → Option Value} {nw₀ : List (Addr × Obj)} {x : Str} {px : Pos} {r : Addr} {t u v : Tok} {n : Nat}
    (P : Nat → (Str → Option Value) → Prop) (hh : A.handled = none) (hr : IsRange s.heap r 0 n 1 t u v) (hn : n ≤ 1000)
    (F : Fr h₀ env.locals s.heap m₀) (N : News h₀ env.locals s.heap nw₀) (h0 : P 0 m₀)
    (hx : env.kindOf x = some .local) (hp : (env.scope.kind == .class || (env.scope.kind == .module && env.locals != env.globals)) = false)
    (turn : ∀ i k m h tk own E', i < n → P i m → OwnOff own (nw₀.map (·.1)) → Fr h₀ env.locals h (fun z => if z = x then some (.int (i : Nat) k) else m z) → News h₀ env.locals h (nw₀ ++ own) →
      wpAny (model prog w) A (execs body env) (LoopPost h₀ env.locals own (RdInv s.gens nw₀ (P (i + 1))) s.drawn s.os Q) E' ⟨h, s.gens, s.drawn, tk, s.os⟩)
    (done : ∀ m h tk E', P n m → Fr h₀ env.locals h m → News h₀ env.locals h nw₀ → wpAny (model prog w) A (execs orelse env) Q E' ⟨h, s.gens, s.drawn, tk, s.os⟩) :
    wpAny (model prog w) A (pyIter (.ref r)) (fun it s₂ => codeAny (model prog w) A (.forLoop (.Name x px) it body orelse env) (fun r s' => match r with | .ok f => Q f s' | .error e => cameBackBy (model prog w) A env E e s') s₂) E s := by
  refine for_range (n := n) (fun i => RdInv s.gens nw₀ (P i)) hh hr (small_one (by decide) (by decide) (by (first | lia | omega)) (by (first | lia | omega))) (by rw [rangeSize_nat]; (first | lia | omega)) F N ⟨rfl, rfl, h0⟩ hx hp ?_ ?_
  · rintro i k m nw h tk gs own E' hi ⟨rfl, rfl, hP⟩ hoff F' N'
    have e : (0 : Int) + i * 1 = (i : Nat) := by (first | lia | omega)
    rw [e] at F'
    exact turn i k m h tk own E' hi hP hoff F' N'
  · rintro m nw h tk gs E' ⟨rfl, rfl, hP⟩ F' N'
    exact done m h tk E' hP F' N'
/-- no pair of places ahead of b stands so -/
noncomputable def NoA (k : Nat → Int) (c b n : Nat) : Prop := ∀ a, a < n → ¬ (k c < k a ∧ k a < k b)
noncomputable def NoB (k : Nat → Int) (c n : Nat) : Prop := ∀ b, b < n → NoA k c b b
noncomputable def NoC (k : Nat → Int) (n : Nat) : Prop := ∀ c, c < n → NoB k c c
theorem NoA.snoc {k : Nat → Int} {c b n : Nat} (h : NoA k c b n) (h' : ¬ (k c < k n ∧ k n < k b)) : NoA k c b (n + 1) := fun a ha => by
  by_cases e : a = n
  · exact e ▸ h'
  · exact h a (by (first | lia | omega))
theorem NoB.snoc {k : Nat → Int} {c n : Nat} (h : NoB k c n) (h' : NoA k c n n) : NoB k c (n + 1) := fun a ha => by
  by_cases e : a = n
  · exact e ▸ h'
  · exact h a (by (first | lia | omega))
theorem NoC.snoc {k : Nat → Int} {n : Nat} (h : NoC k n) (h' : NoB k n n) : NoC k (n + 1) := fun a ha => by
  by_cases e : a = n
  · exact e ▸ h'
  · exact h a (by (first | lia | omega))
section
variable {w : World} {p : Program} {loose : List Str} {mean : ExcName → Option Value} {mg mb : Str → Option Value} {G : Heap} {s : Shared} {Q E : Value → Shared → Prop}
set_option maxHeartbeats 2000000
theorem c_three {lr : Addr} {vs : List Value} {ns : List Int} (D : Gd w p loose mean mg mb G) (St : G.StaysIn s.heap) (hl : s.heap.IsList lr vs.toArray) (hi : IntsAre vs ns) (hn : ns.length ≤ 10)
    (hret : ∀ b h' tk', (b = true ↔ Three (fun i => ns.getD i 0) ns.length) → (∀ b o, s.heap.get? b = some o → h'.get? b = some o) → Q (.bool b) { s with heap := h', toks := tk' }) :
    wpAny (model Challenge.rw_oc0165_02.row.prog w) (Am 350 100) (call (.ref 274) [.ref lr]) Q E s := by
  have fill : (hd.heap_1 w.params).In G := D.X
  revert fill
  k_fill
  intro _
  refine wpAny_call ?_
  refine' enterP (binds := [("keys", .ref lr)]) [] D St ?k3 ?k4 ?k6 ?k7 ?k8 ?k9 ?kB ?c5 ?c2 ?c3 ?c4 ?_
  (((case k3 => exact fun _ q => nomatch q); (case k4 => exact fun _ q => nomatch q); (case k6 => k_is); (case k7 => k_is); (case k8 => decide); (case k9 => exact BindsTo.of_eq rfl); (case kB => exact locs rfl); (case c5 => decide); (case c2 => exact rfl); (case c3 => exact rfl); (case c4 => exact rfl)))
  intro g L h hg hL F N X T l1 hkeep hst
  have hlg : g.IsList lr vs.toArray := hl.at fun o e => hkeep _ _ e fun _ q => nomatch q
  dsimp only
  try k_fold
  (repeat' (first | (fail_if_success (first | (with_reducible show wpAny _ _ (exec (Stmt.For _ _ _ _ _) _) _ _ _) | (with_reducible show LoopPost _ _ _ _ _ _ _ _ _))); (first | (k_unfold; (try dsimp only)) | walk1 | (dsimp only; walk1))))
  refine wpAny_For ?_ (fun _ => rfl)
  (repeat' (first | (fail_if_success (first | (with_reducible show wpAny _ _ (exec (Stmt.For _ _ _ _ _) _) _ _ _) | (with_reducible show LoopPost _ _ _ _ _ _ _ _ _))); (first | (k_unfold; (try dsimp only)) | walk1 | (dsimp only; walk1))))
  rename Fr _ _ _ _ => F1
  rename News _ _ _ _ => N1
  rename IsRange _ _ _ _ _ _ _ _ => hr1
  refine for_upto (fun i m => m "keys" = some (.ref lr) ∧ NoC (fun i => ns.getD i 0) i) rfl hr1 (by (first | lia | omega)) F1 N1 ⟨rfl, fun c hc => absurd hc (Nat.not_lt_zero _)⟩ rfl rfl ?_ ?_
  · rintro c kc m h2 tk2 own E2 hc ⟨hm, hC⟩ hoff F2 N2
    clear F1 N1 hr1
    obtain ⟨m2, rfl⟩ := as_if hm
    clear hm
    dsimp only at F2
    replace N2 : News g L h2 own := N2
    (repeat' (first | (fail_if_success (first | (with_reducible show wpAny _ _ (exec (Stmt.For _ _ _ _ _) _) _ _ _) | (with_reducible show LoopPost _ _ _ _ _ _ _ _ _))); (first | (k_unfold; (try dsimp only)) | walk1 | (dsimp only; walk1))))
    refine wpAny_For ?_ (fun _ => rfl)
    (repeat' (first | (fail_if_success (first | (with_reducible show wpAny _ _ (exec (Stmt.For _ _ _ _ _) _) _ _ _) | (with_reducible show LoopPost _ _ _ _ _ _ _ _ _))); (first | (k_unfold; (try dsimp only)) | walk1 | (dsimp only; walk1))))
    rename Fr _ _ _ _ => F3
    rename News _ _ _ _ => N3
    rename IsRange _ _ _ _ _ _ _ _ => hr3
    refine for_upto (fun i m => (m "keys" = some (.ref lr) ∧ m "c" = some (.int (c : Nat) kc)) ∧ NoB (fun i => ns.getD i 0) c i) rfl hr3 (by (first | lia | omega)) F3 N3 ⟨⟨rfl, rfl⟩, fun c hc => absurd hc (Nat.not_lt_zero _)⟩ rfl rfl ?_ ?_
    · rintro b kb m h4 tk4 own4 E4 hb ⟨⟨hm1, hm2⟩, hB⟩ hoff4 F4 N4
      clear F3 N3 hr3
      obtain ⟨m4, rfl⟩ := as_if2 hm1 hm2
      clear hm1 hm2
      dsimp only at F4
      (repeat' (first | (fail_if_success (first | (with_reducible show wpAny _ _ (exec (Stmt.For _ _ _ _ _) _) _ _ _) | (with_reducible show LoopPost _ _ _ _ _ _ _ _ _))); (first | (k_unfold; (try dsimp only)) | walk1 | (dsimp only; walk1))))
      refine wpAny_For ?_ (fun _ => rfl)
      (repeat' (first | (fail_if_success (first | (with_reducible show wpAny _ _ (exec (Stmt.For _ _ _ _ _) _) _ _ _) | (with_reducible show LoopPost _ _ _ _ _ _ _ _ _))); (first | (k_unfold; (try dsimp only)) | walk1 | (dsimp only; walk1))))
      rename Fr _ _ _ _ => F5
      rename News _ _ _ _ => N5
      rename IsRange _ _ _ _ _ _ _ _ => hr5
      refine for_upto (fun i m => (m "keys" = some (.ref lr) ∧ m "c" = some (.int (c : Nat) kc) ∧ m "b" = some (.int (b : Nat) kb)) ∧ NoA (fun i => ns.getD i 0) c b i) rfl hr5 (by (first | lia | omega)) F5 N5 ⟨⟨rfl, rfl, rfl⟩, fun c hc => absurd hc (Nat.not_lt_zero _)⟩ rfl rfl ?_ ?_
      · rintro a ka m h6 tk6 own6 E6 ha ⟨⟨hm1, hm2, hm3⟩, hA⟩ hoff6 F6 N6
        clear F5 N5 hr5
        obtain ⟨m6, rfl⟩ := as_if3 hm1 hm2 hm3
        clear hm1 hm2 hm3
        dsimp only at F6
        have q1 : (c : Int) < ns.length := by (first | lia | omega)
        have q2 : (b : Int) < ns.length := by (first | lia | omega)
        have q3 : (a : Int) < ns.length := by (first | lia | omega)
        (repeat' (first | (fail_if_success (first | (with_reducible show wpAny _ _ (exec (Stmt.For _ _ _ _ _) _) _ _ _) | (with_reducible show LoopPost _ _ _ _ _ _ _ _ _))); (first | (k_unfold; (try dsimp only)) | walk1 | (dsimp only; walk1))))
        · rename Fr _ _ _ _ => F7
          rename_i z1 _ z2
          show Q (.bool true) _
          exact hret true _ _ ⟨fun _ => ⟨c, hc, b, hb, a, ha, z1, z2⟩, fun _ => rfl⟩ fun b o e => F7.keep _ _ (hkeep _ _ e fun _ q => nomatch q)
        · rename Fr _ _ _ _ => F7
          rename News _ _ _ _ => N7
          rename_i z1 z2
          exact ⟨_, _, _, _, _, rfl, F7, N7, hoff6, rfl, rfl, ⟨rfl, rfl, rfl⟩, hA.snoc fun q => z2 q.2⟩
        · rename Fr _ _ _ _ => F7
          rename News _ _ _ _ => N7
          rename_i z1
          exact ⟨_, _, _, _, _, rfl, F7, N7, hoff6, rfl, rfl, ⟨rfl, rfl, rfl⟩, hA.snoc fun q => z1 q.1⟩
      · rintro m h6 tk6 E6 ⟨⟨hm1, hm2, hm3⟩, hA⟩ F6 N6
        clear F5 N5 hr5
        (repeat' (first | (fail_if_success (first | (with_reducible show wpAny _ _ (exec (Stmt.For _ _ _ _ _) _) _ _ _) | (with_reducible show LoopPost _ _ _ _ _ _ _ _ _))); (first | (k_unfold; (try dsimp only)) | walk1 | (dsimp only; walk1))))
        exact ⟨_, _, _, _, _, rfl, F6, N6, hoff4, rfl, rfl, ⟨hm1, hm2⟩, hB.snoc hA⟩
    · rintro m h4 tk4 E4 ⟨⟨hm1, hm2⟩, hB⟩ F4 N4
      clear F3 N3 hr3
      (repeat' (first | (fail_if_success (first | (with_reducible show wpAny _ _ (exec (Stmt.For _ _ _ _ _) _) _ _ _) | (with_reducible show LoopPost _ _ _ _ _ _ _ _ _))); (first | (k_unfold; (try dsimp only)) | walk1 | (dsimp only; walk1))))
      exact ⟨_, _, _, [], _, rfl, F4, N4, hoff, rfl, rfl, hm1, hC.snoc hB⟩
  · rintro m h2 tk2 E2 ⟨hm1, hC⟩ F2 N2
    clear F1 N1 hr1
    (repeat' (first | (fail_if_success (first | (with_reducible show wpAny _ _ (exec (Stmt.For _ _ _ _ _) _) _ _ _) | (with_reducible show LoopPost _ _ _ _ _ _ _ _ _))); (first | (k_unfold; (try dsimp only)) | walk1 | (dsimp only; walk1))))
    exact hret false _ _ ⟨(fun e => nomatch e), fun ⟨c, hc, b, hb, a, ha, h⟩ => absurd h (hC c hc b hb a ha)⟩ fun b o e => F2.keep _ _ (hkeep _ _ e fun _ q => nomatch q)
end
end Mine
end

section
-- Fou
example : True := by w_top off; trivial
open PySem PySem.W PyProof.Rows PySem.Calls PySem.Spec
set_option maxRecDepth 100000
namespace Mine
/-- four places that hinder the second pass -/
noncomputable def Bad4 (k : Nat → Int) (d c b a : Nat) : Prop := (k d < k a ∧ k d < k b) ∧ (k a < k c ∧ k b < k c) ∧ (k a < k b ∨ ∀ i, a ≤ i → i < b → k i < k c)
noncomputable def No1 (k : Nat → Int) (d c b n : Nat) : Prop := ∀ a, a < n → ¬ Bad4 k d c b a
noncomputable def No2 (k : Nat → Int) (d c n : Nat) : Prop := ∀ b, b < n → No1 k d c b b
noncomputable def No3 (k : Nat → Int) (d n : Nat) : Prop := ∀ c, c < n → No2 k d c c
noncomputable def No4 (k : Nat → Int) (n : Nat) : Prop := ∀ d, d < n → No3 k d d
theorem all_snoc {P : Nat → Prop} {n : Nat} (h : ∀ a, a < n → P a) (h' : P n) : ∀ a, a < n + 1 → P a := fun a ha => by
  by_cases e : a = n
  · exact e ▸ h'
  · exact h a (by (first | lia | omega))
theorem lt_min' {x y z : Int} : (z < if y < x then y else x) ↔ z < x ∧ z < y := by split <;> (first | lia | omega)
theorem max_lt' {x y z : Int} : (if y > x then y else x) < z ↔ x < z ∧ y < z := by split <;> (first | lia | omega)
theorem lt63 {i n : Nat} (h : i < n) (hn : n ≤ 10) : (i : Int) < 2 ^ 63 := by (first | lia | omega)
theorem le1000 {i n : Nat} (h : i < n) (hn : n ≤ 10) : i ≤ 1000 := Nat.le_trans (Nat.le_of_lt h) (Nat.le_trans hn (by decide))
theorem take_pos {ns : List Int} {a b : Nat} (h : a < b) (hb : b ≤ ns.length) : 0 < (List.take (min b ns.length - a) (ns.drop a)).length := by
  rw [List.length_take, List.length_drop, Nat.min_eq_left hb]
  exact Nat.lt_min.mpr ⟨Nat.sub_pos_of_lt h, Nat.sub_pos_of_lt (Nat.lt_of_lt_of_le h hb)⟩
theorem max_slice {ns : List Int} {a b : Nat} {M z : Int} (hb : b ≤ ns.length) (hm : M ∈ List.take (min b ns.length - a) (ns.drop a)) (hM : ∀ x ∈ List.take (min b ns.length - a) (ns.drop a), x ≤ M) : M < z ↔ ∀ i, a ≤ i → i < b → ns.getD i 0 < z := by
  rw [Nat.min_eq_left hb] at hm hM
  constructor
  · intro h i h1 h2
    refine Int.lt_of_le_of_lt (hM _ (List.mem_iff_getElem?.mpr ⟨i - a, ?_⟩)) h
    rw [List.getElem?_take_of_lt (Nat.sub_lt_sub_right h1 h2), List.getElem?_drop, Nat.add_sub_cancel' h1, List.getD, List.getElem?_eq_getElem (Nat.lt_of_lt_of_le h2 hb)]
    rfl
  · intro h
    obtain ⟨j, hj⟩ := List.mem_iff_getElem?.mp hm
    have h1 := (List.getElem?_eq_some_iff.mp hj).1
    rw [List.length_take] at h1
    have h2 := Nat.lt_of_lt_of_le h1 (Nat.min_le_left _ _)
    rw [List.getElem?_take_of_lt h2, List.getElem?_drop] at hj
    have := h (a + j) (Nat.le_add_right _ _) (Nat.add_lt_of_lt_sub' h2)
    rwa [List.getD, hj] at this
section
variable {w : World} {p : Program} {loose : List Str} {mean : ExcName → Option Value} {mg mb : Str → Option Value} {G : Heap} {s : Shared} {Q E : Value → Shared → Prop}
set_option maxHeartbeats 2000000
theorem c_four {lr : Addr} {vs : List Value} {ns : List Int} (D : Gd w p loose mean mg mb G) (St : G.StaysIn s.heap) (hl : s.heap.IsList lr vs.toArray) (hi : IntsAre vs ns) (hn : ns.length ≤ 10)
    (hret : ∀ b h' tk', (b = true ↔ Four (fun i => ns.getD i 0) ns.length) → (∀ b o, s.heap.get? b = some o → h'.get? b = some o) → Q (.bool b) { s with heap := h', toks := tk' }) :
    wpAny (model Challenge.rw_oc0165_02.row.prog w) (Am 350 100) (call (.ref 281) [.ref lr]) Q E s := by
  have fill : (hd.heap_1 w.params).In G := D.X
  revert fill
  k_fill
  intro _
  refine wpAny_call ?_
  refine' enterP (binds := [("keys", .ref lr)]) [] D St ?k3 ?k4 ?k6 ?k7 ?k8 ?k9 ?kB ?c5 ?c2 ?c3 ?c4 ?_
  (((case k3 => exact fun _ q => nomatch q); (case k4 => exact fun _ q => nomatch q); (case k6 => k_is); (case k7 => k_is); (case k8 => decide); (case k9 => exact BindsTo.of_eq rfl); (case kB => exact locs rfl); (case c5 => decide); (case c2 => exact rfl); (case c3 => exact rfl); (case c4 => exact rfl)))
  intro g L h hg hL F N X T l1 hkeep hst
  have hlg : g.IsList lr vs.toArray := hl.at fun o e => hkeep _ _ e fun _ q => nomatch q
  dsimp only
  try k_fold
  (repeat' (first | (fail_if_success (first | (with_reducible show wpAny _ _ (exec (Stmt.For _ _ _ _ _) _) _ _ _) | (with_reducible show LoopPost _ _ _ _ _ _ _ _ _))); (first | (k_unfold; (try dsimp only)) | walk1 | (dsimp only; walk1))))
  refine wpAny_For ?_ (fun _ => rfl)
  (repeat' (first | (fail_if_success (first | (with_reducible show wpAny _ _ (exec (Stmt.For _ _ _ _ _) _) _ _ _) | (with_reducible show LoopPost _ _ _ _ _ _ _ _ _))); (first | (k_unfold; (try dsimp only)) | walk1 | (dsimp only; walk1))))
  rename Fr _ _ _ _ => F1
  rename News _ _ _ _ => N1
  rename IsRange _ _ _ _ _ _ _ _ => hr1
  refine for_upto (fun i m => m "keys" = some (.ref lr) ∧ No4 (fun i => ns.getD i 0) i) rfl hr1 (by (first | lia | omega)) F1 N1 ⟨rfl, fun c hc => absurd hc (Nat.not_lt_zero _)⟩ rfl rfl ?_ ?_
  · rintro d kd m h2 tk2 own E2 hd' ⟨hm, hD⟩ hoff F2 N2
    clear F1 N1 hr1
    obtain ⟨m2, rfl⟩ := as_if hm
    clear hm
    dsimp only at F2
    replace N2 : News g L h2 own := N2
    (repeat' (first | (fail_if_success (first | (with_reducible show wpAny _ _ (exec (Stmt.For _ _ _ _ _) _) _ _ _) | (with_reducible show LoopPost _ _ _ _ _ _ _ _ _))); (first | (k_unfold; (try dsimp only)) | walk1 | (dsimp only; walk1))))
    refine wpAny_For ?_ (fun _ => rfl)
    (repeat' (first | (fail_if_success (first | (with_reducible show wpAny _ _ (exec (Stmt.For _ _ _ _ _) _) _ _ _) | (with_reducible show LoopPost _ _ _ _ _ _ _ _ _))); (first | (k_unfold; (try dsimp only)) | walk1 | (dsimp only; walk1))))
    rename Fr _ _ _ _ => F3
    rename News _ _ _ _ => N3
    rename IsRange _ _ _ _ _ _ _ _ => hr3
    refine for_upto (fun i m => (m "keys" = some (.ref lr) ∧ m "d" = some (.int (d : Nat) kd)) ∧ No3 (fun i => ns.getD i 0) d i) rfl hr3 (by (first | lia | omega)) F3 N3 ⟨⟨rfl, rfl⟩, fun c hc => absurd hc (Nat.not_lt_zero _)⟩ rfl rfl ?_ ?_
    · rintro c kc m h4 tk4 own4 E4 hc ⟨⟨hm1, hm2⟩, hC⟩ hoff4 F4 N4
      clear F3 N3 hr3
      obtain ⟨m4, rfl⟩ := as_if2 hm1 hm2
      clear hm1 hm2
      dsimp only at F4
      (repeat' (first | (fail_if_success (first | (with_reducible show wpAny _ _ (exec (Stmt.For _ _ _ _ _) _) _ _ _) | (with_reducible show LoopPost _ _ _ _ _ _ _ _ _))); (first | (k_unfold; (try dsimp only)) | walk1 | (dsimp only; walk1))))
      refine wpAny_For ?_ (fun _ => rfl)
      (repeat' (first | (fail_if_success (first | (with_reducible show wpAny _ _ (exec (Stmt.For _ _ _ _ _) _) _ _ _) | (with_reducible show LoopPost _ _ _ _ _ _ _ _ _))); (first | (k_unfold; (try dsimp only)) | walk1 | (dsimp only; walk1))))
      rename Fr _ _ _ _ => F5
      rename News _ _ _ _ => N5
      rename IsRange _ _ _ _ _ _ _ _ => hr5
      refine for_upto (fun i m => (m "keys" = some (.ref lr) ∧ m "d" = some (.int (d : Nat) kd) ∧ m "c" = some (.int (c : Nat) kc)) ∧ No2 (fun i => ns.getD i 0) d c i) rfl hr5 (le1000 hc (Nat.le_trans (Nat.le_of_lt hd') hn)) F5 N5 ⟨⟨rfl, rfl, rfl⟩, fun c hc => absurd hc (Nat.not_lt_zero _)⟩ rfl rfl ?_ ?_
      · rintro b kb m h6 tk6 own6 E6 hb ⟨⟨hm1, hm2, hm3⟩, hB⟩ hoff6 F6 N6
        clear F5 N5 hr5
        obtain ⟨m6, rfl⟩ := as_if3 hm1 hm2 hm3
        clear hm1 hm2 hm3
        dsimp only at F6
        (repeat' (first | (fail_if_success (first | (with_reducible show wpAny _ _ (exec (Stmt.For _ _ _ _ _) _) _ _ _) | (with_reducible show LoopPost _ _ _ _ _ _ _ _ _))); (first | (k_unfold; (try dsimp only)) | walk1 | (dsimp only; walk1))))
        refine wpAny_For ?_ (fun _ => rfl)
        (repeat' (first | (fail_if_success (first | (with_reducible show wpAny _ _ (exec (Stmt.For _ _ _ _ _) _) _ _ _) | (with_reducible show LoopPost _ _ _ _ _ _ _ _ _))); (first | (k_unfold; (try dsimp only)) | walk1 | (dsimp only; walk1))))
        rename Fr _ _ _ _ => F7
        rename News _ _ _ _ => N7
        rename IsRange _ _ _ _ _ _ _ _ => hr7
        refine for_upto (fun i m => (m "keys" = some (.ref lr) ∧ m "d" = some (.int (d : Nat) kd) ∧ m "c" = some (.int (c : Nat) kc) ∧ m "b" = some (.int (b : Nat) kb)) ∧ No1 (fun i => ns.getD i 0) d c b i) rfl hr7 (le1000 hb (Nat.le_trans (Nat.le_of_lt (Nat.lt_trans hc hd')) hn)) F7 N7 ⟨⟨rfl, rfl, rfl, rfl⟩, fun c hc => absurd hc (Nat.not_lt_zero _)⟩ rfl rfl ?_ ?_
        · rintro a ka m h8 tk8 own8 E8 ha ⟨⟨hm1, hm2, hm3, hm4⟩, hA⟩ hoff8 F8 N8
          clear F7 N7 hr7
          obtain ⟨m8, rfl⟩ := as_if4 hm1 hm2 hm3 hm4
          clear hm1 hm2 hm3 hm4
          dsimp only at F8
          have nc := Nat.lt_trans hc hd'
          have nb := Nat.lt_trans hb nc
          have na := Nat.lt_trans ha nb
          have q1 : (d : Int) < ns.length := Int.ofNat_lt.mpr hd'
          have q2 : (c : Int) < ns.length := Int.ofNat_lt.mpr nc
          have q3 : (b : Int) < ns.length := Int.ofNat_lt.mpr nb
          have q4 : (a : Int) < ns.length := Int.ofNat_lt.mpr na
          have q5 : (a : Int) < b := Int.ofNat_lt.mpr ha
          have q7 : 0 < (List.take (min ((b : Nat) : Int).toNat ns.length - ((a : Nat) : Int).toNat) (List.drop ((a : Nat) : Int).toNat ns)).length := take_pos ha (Nat.le_of_lt nb)
          have q6 := lt63 na hn
          have q8 := lt63 nb hn
          have q9 := lt63 nc hn
          have q10 := lt63 hd' hn
          have q11 := Int.natCast_nonneg a
          have q12 := Int.natCast_nonneg b
          have q13 := Int.natCast_nonneg c
          have q14 := Int.natCast_nonneg d
          have q15 : ((b : Nat) : Int).toNat ≤ ns.length := Nat.le_of_lt nb
          (repeat' (first | (fail_if_success (first | (with_reducible show wpAny _ _ (exec (Stmt.For _ _ _ _ _) _) _ _ _) | (with_reducible show LoopPost _ _ _ _ _ _ _ _ _))); (first | (k_unfold; (try dsimp only)) | walk1 | (dsimp only; walk1))))
          · rename Fr _ _ _ _ => F9
            rename _ < ite _ _ _ => z1
            rename ite _ _ _ < _ => z2
            rename List.getD _ _ _ < List.getD _ _ _ => z3
            show Q (.bool true) _
            exact hret true _ _ ⟨fun _ => ⟨d, hd', c, hc, b, hb, a, ha, lt_min'.mp z1, max_lt'.mp z2, .inl z3⟩, fun _ => rfl⟩ fun b o e => F9.keep _ _ (hkeep _ _ e fun _ q => nomatch q)
          · rename Fr _ _ _ _ => F9
            rename _ < ite _ _ _ => z1
            rename ite _ _ _ < _ => z2
            rename _ ∈ List.take _ _ => zm
            rename ∀ _, _ ∈ List.take _ _ → _ => zb
            rename _ < List.getD _ _ _ => z4
            show Q (.bool true) _
            exact hret true _ _ ⟨fun _ => ⟨d, hd', c, hc, b, hb, a, ha, lt_min'.mp z1, max_lt'.mp z2, .inr ((max_slice (Nat.le_of_lt nb) zm zb).mp z4)⟩, fun _ => rfl⟩ fun b o e => F9.keep _ _ (hkeep _ _ e fun _ q => nomatch q)
          · rename Fr _ _ _ _ => F9
            rename News _ _ _ _ => N9
            rename ¬ List.getD _ _ _ < List.getD _ _ _ => z3
            rename _ ∈ List.take _ _ => zm
            rename ∀ _, _ ∈ List.take _ _ → _ => zb
            rename ¬ _ < List.getD _ _ _ => z4
            exact ⟨_, _, _, _, _, rfl, F9, fun q hq => N9 q (.tail _ hq), hoff8, rfl, rfl, ⟨rfl, rfl, rfl, rfl⟩, all_snoc hA fun q => q.2.2.elim z3 fun q => z4 ((max_slice (Nat.le_of_lt nb) zm zb).mpr q)⟩
          · rename Fr _ _ _ _ => F9
            rename News _ _ _ _ => N9
            rename ¬ ite _ _ _ < _ => z2
            exact ⟨_, _, _, _, _, rfl, F9, N9, hoff8, rfl, rfl, ⟨rfl, rfl, rfl, rfl⟩, all_snoc hA fun q => z2 (max_lt'.mpr q.2.1)⟩
          · rename Fr _ _ _ _ => F9
            rename News _ _ _ _ => N9
            rename ¬ _ < ite _ _ _ => z1
            exact ⟨_, _, _, _, _, rfl, F9, N9, hoff8, rfl, rfl, ⟨rfl, rfl, rfl, rfl⟩, all_snoc hA fun q => z1 (lt_min'.mpr q.1)⟩
        · rintro m h8 tk8 E8 ⟨⟨hm1, hm2, hm3, hm4⟩, hA⟩ F8 N8
          clear F7 N7 hr7
          (repeat' (first | (fail_if_success (first | (with_reducible show wpAny _ _ (exec (Stmt.For _ _ _ _ _) _) _ _ _) | (with_reducible show LoopPost _ _ _ _ _ _ _ _ _))); (first | (k_unfold; (try dsimp only)) | walk1 | (dsimp only; walk1))))
          exact ⟨_, _, _, _, _, rfl, F8, N8, hoff6, rfl, rfl, ⟨hm1, hm2, hm3⟩, all_snoc hB hA⟩
      · rintro m h6 tk6 E6 ⟨⟨hm1, hm2, hm3⟩, hB⟩ F6 N6
        clear F5 N5 hr5
        (repeat' (first | (fail_if_success (first | (with_reducible show wpAny _ _ (exec (Stmt.For _ _ _ _ _) _) _ _ _) | (with_reducible show LoopPost _ _ _ _ _ _ _ _ _))); (first | (k_unfold; (try dsimp only)) | walk1 | (dsimp only; walk1))))
        exact ⟨_, _, _, _, _, rfl, F6, N6, hoff4, rfl, rfl, ⟨hm1, hm2⟩, all_snoc hC hB⟩
    · rintro m h4 tk4 E4 ⟨⟨hm1, hm2⟩, hC⟩ F4 N4
      clear F3 N3 hr3
      (repeat' (first | (fail_if_success (first | (with_reducible show wpAny _ _ (exec (Stmt.For _ _ _ _ _) _) _ _ _) | (with_reducible show LoopPost _ _ _ _ _ _ _ _ _))); (first | (k_unfold; (try dsimp only)) | walk1 | (dsimp only; walk1))))
      exact ⟨_, _, _, [], _, rfl, F4, N4, hoff, rfl, rfl, hm1, all_snoc hD hC⟩
  · rintro m h2 tk2 E2 ⟨hm1, hD⟩ F2 N2
    clear F1 N1 hr1
    (repeat' (first | (fail_if_success (first | (with_reducible show wpAny _ _ (exec (Stmt.For _ _ _ _ _) _) _ _ _) | (with_reducible show LoopPost _ _ _ _ _ _ _ _ _))); (first | (k_unfold; (try dsimp only)) | walk1 | (dsimp only; walk1))))
    exact hret false _ _ ⟨(fun e => nomatch e), fun ⟨d, hd, c, hc, b, hb, a, ha, h⟩ => absurd h (hD d hd c hc b hb a ha)⟩ fun b o e => F2.keep _ _ (hkeep _ _ e fun _ q => nomatch q)
end
end Mine
end

section
-- Cpp
example : True := by w_top off; trivial
open PySem PySem.W PyProof.Rows PySem.Calls PySem.Spec
set_option maxRecDepth 100000
namespace Mine
section
variable {prog : Program} {w : World} {A : Around} {E : Value → Shared → Prop} {env : Env}
end
end Mine
end

section
-- Cps
example : True := by w_top off; trivial
open PySem PySem.W PyProof.Rows PySem.Calls PySem.Spec
set_option maxRecDepth 100000
namespace Mine
inductive CpsInv (s₂ : Shared) (wr : List Addr) (n : Nat) (St : Nat → Heap → Prop) (Fv : Nat → Value → Prop) (D C : Addr) (k : Nat) (s' : Shared) : Prop
  | mk (h : Heap) (tk : Nat) (m : Str → Option Value) (ys : List Value) (e : s' = { s₂ with heap := h, toks := tk }) (ek : k = n + 1 - ys.length) (hj : ys.length ≤ n) (st : St ys.length h) (pl : h.PlainList D ys.toArray) (ns : h.Ns C m)
    (hys : ∀ (j : Nat) y, ys[j]? = some y → Fv j y) (hk : ∀ b o, b ∉ wr → s₂.heap.get? b = some o → h.get? b = some o)
section
variable {prog : Program} {w : World} {A : Around} {E : Value → Shared → Prop} {env : Env}
theorem assign_pairs {s : Shared} {elt iter : Expr} {xa xb yn : Str} {pa pb tp py : Pos} {kt : Nat} {scope : Scope} {cl : List (Str × Addr)} {pos spos : Pos} {Q : Flow → Shared → Prop} (Fv : Nat → Value → Prop)
    (hsw : swapsWith (.ListComp elt [⟨.Tuple [.Name xa pa, .Name xb pb] kt tp, iter, [], 0⟩] scope pos) (some (.Name yn py)) spos.line env = pure true) (hy : env.kindOf yn = some .local) (hp : (env.scope.kind == .class || (env.scope.kind == .module && env.locals != env.globals)) = false)
    (hh : A.handled = none) (hclos : closureFor scope env = pure cl) (hcell : ∀ z ∈ scope.names, z.2 ≠ .cell) (hkind : scope.kind = .function)
    (hnames : ∀ z ∈ scope.names, z.2 = .local → scope.names.lookup z.1 = some .local) (hxa : scope.names.lookup xa = some .local) (hxb : scope.names.lookup xb = some .local) (hab : xa ≠ xb)
    (h : wpAny (model prog w) A (eval iter env) (fun xv s₁ => wpAny (model prog w) A (pyIter xv) (fun it s₂ => ∃ I fp wr n Pt St Mid mL, it = .ref I ∧ s₂.heap.Ns env.locals mL ∧ env.locals ∉ wr ∧ WalksT prog w A I fp wr n Pt St Mid ∧ n ≤ 1000 ∧ St 0 s₂.heap ∧ (∀ b ∈ fp, b < s₂.heap.objs.size) ∧
      (∀ i vals, i < n → Pt i vals → ∃ va vb, vals = #[va, vb]) ∧
      (∀ C i va vb s₃ m₃ E', s₂.heap.objs.size ≤ C → i < n → Pt i #[va, vb] → s₃.heap.Ns C m₃ → m₃ xa = some va → m₃ xb = some vb → (∀ b o, b ∉ wr → s₂.heap.get? b = some o → s₃.heap.get? b = some o) →
        wpAny (model prog w) A (eval elt (compEnvC scope cl C env)) (fun y s₄ => Fv i y ∧ Keeps s₃ s₄) E' s₃) ∧
      (∀ D (ys : List Value) h' tk, s₂.heap.get? D = none → h'.IsList D ys.toArray → h'.PlainList D ys.toArray → ys.length = n → (∀ j y, ys[j]? = some y → Fv j y) → h'.Ns env.locals (fun z => if z = yn then some (.ref D) else mL z) → (∀ b o, b ≠ env.locals → b ∉ wr → s₂.heap.get? b = some o → h'.get? b = some o) → Q .next { s₂ with heap := h', toks := tk })) E s₁) E s)
    (hs1 : ∀ x, foldedSetIterable iter env x = pure x) (hp0 : ∀ C, ((compEnvC scope cl C env).scope.kind == .class || ((compEnvC scope cl C env).scope.kind == .module && (compEnvC scope cl C env).locals != (compEnvC scope cl C env).globals)) = false) :
    wpAny (model prog w) A (exec (.Assign [.Name yn py] (.ListComp elt [⟨.Tuple [.Name xa pa, .Name xb pb] kt tp, iter, [], 0⟩] scope pos) spos) env) Q E s := by
  rw [exec_Assign_Name_used _ _ _ _ hsw]
  refine wpAny_bind (wpAny_standAt (wpAny_bind ?_))
  show wpAny _ A (do let _ ← comprehension (.ListComp elt [⟨.Tuple [.Name xa pa, .Name xb pb] kt tp, iter, [], 0⟩] scope pos) scope env _ (newList []) false (eval iter env) (some (assign (.Name yn py) env))) _ _ s
  refine wpAny_bind (wpAny_mono (wpAny_comprehension_free (use := some (assign (.Name yn py) env)) (Q := fun _ s' => Q .next s') rfl hs1 hclos hkind hnames (wpAny_mono h (fun xv s₁ h₁ => wpAny_mono h₁ (fun it s₂ h₂ => ?_) fun _ _ e => e) fun _ _ e => e)) (fun _ s' hq => wpAny_pure (wpAny_pure hq)) fun _ _ e => e)
  obtain ⟨I, fp, wr, n, Pt, St, Mid, mL, rfl, hnL, hLw, W, hn, hst, hfp, hpair, leaf, hQ⟩ := h₂
  refine wpAny_newObj_type (wpAny_newFunctionEnv hcell (by intro y hy; simp at hy) (fun h₁ hns₁ hsb₁ => ?_) hkind)
  dsimp only at hns₁ hsb₁ ⊢
  generalize hH2 : s₂.heap.push { cls := .type "list", dict := none, data := .seq ([] : List Value).toArray } = H2 at hns₁ hsb₁ ⊢
  have hC0 : H2.objs.size = s₂.heap.objs.size + 1 := by rw [← hH2, Heap.size_push]
  generalize hDe : s₂.heap.objs.size = D at hC0 ⊢
  generalize hCe : H2.objs.size = C at hC0 hns₁ hsb₁ ⊢
  have hDC : D ≠ C := by (first | lia | omega)
  have hDle : s₂.heap.objs.size ≤ C := by (first | lia | omega)
  have below : ∀ b, b < s₂.heap.objs.size → b ≠ D ∧ b ≠ C := fun b hb => by
    rw [hDe] at hb
    exact ⟨Nat.ne_of_lt hb, Nat.ne_of_lt (by rw [hC0]; exact Nat.lt_succ_of_lt hb)⟩
  have hDf : D ∉ fp := fun hm => (below _ (hfp _ hm)).1 rfl
  have hCf : C ∉ fp := fun hm => (below _ (hfp _ hm)).2 rfl
  have hCw : C ∉ wr := fun hm => hCf (W.sub _ hm)
  have hDw : D ∉ wr := fun hm => hDf (W.sub _ hm)
  have up1 : ∀ b o, s₂.heap.get? b = some o → h₁.get? b = some o := fun b o e => hsb₁.extBut b o (below b (Heap.lt_size e)).2 (Heap.get?_push_of_some _ (by rw [← hH2]; exact Heap.get?_push_of_some _ e))
  have hacc : h₁.PlainList D #[] := ⟨_, hsb₁.extBut _ _ hDC (Heap.get?_push_of_some _ (by rw [← hH2, ← hDe]; exact Heap.get?_push_size _ rfl))⟩
  have hst₁ : St 0 h₁ := W.frame _ _ _ hst fun b _ o e => up1 b o e
  have hka : (compEnvC scope cl C env).kindOf xa = some .local := lookup_relabel_local hxa
  have hkb : (compEnvC scope cl C env).kindOf xb = some .local := lookup_relabel_local hxb
  have loop : ∀ s₃ : Shared, s₃ = { s₂ with heap := h₁, toks := s₂.toks + ([] : List (Str × Value)).length } →
      codeAny (model prog w) A (.compLoop (.ListComp elt [⟨.Tuple [.Name xa pa, .Name xb pb] kt tp, iter, [], 0⟩] scope pos) 0 (.ref I) (.ref D) (compEnvC scope cl C env)) (compPost (model prog w) A E (some (assign (.Name yn py) env)) (fun _ s' => Q .next s') (.ref D) C) s₃ := by
    rintro s₃ rfl
    refine loopP (CpsInv s₂ wr n St Fv D C) ?_ (n + 1)
      ⟨h₁, _, _, [], rfl, rfl, Nat.zero_le _, hst₁, hacc, hns₁, fun j y e => by simp at e, fun b o _ e => up1 b o e⟩
    rintro k s' ⟨h2, tk2, m2, ys, rfl, rfl, hj, hst2, hpl, hns, hys, hk⟩
    by_cases hlt : ys.length < n
    · refine W.item ys.length _ _ _ hlt hst2 fun T vals ha tka hPt _ hT hmid hka' => ?_
      replace hka' : ∀ b o, b ∉ wr → h2.get? b = some o → ha.get? b = some o := hka'
      refine W.go _ _ _ ys.length T _ _ _ hmid fun hb hstb hkb' => ?_
      replace hkb' : ∀ b o, b ∉ wr → ha.get? b = some o → hb.get? b = some o := hkb'
      obtain ⟨va, vb, rfl⟩ := hpair ys.length _ hlt hPt
      have hTb : hb.IsTuple T #[va, vb] := by
        obtain ⟨o, ho, r⟩ := hT
        exact ⟨o, hkb' T o (W.apart _ _ _ hmid) ho, r⟩
      refine wpAny_assign_Tuple hh hTb rfl rfl fun h3 hx3 => ?_
      replace hx3 : Heap.ExtBut hb.objs.size hb h3 := hx3
      have oldb : ∀ b o, hb.get? b = some o → h3.get? b = some o := fun b o e => hx3 b o (Nat.ne_of_lt (Heap.lt_size e)) e
      have k23 : ∀ b o, b ∉ wr → h2.get? b = some o → h3.get? b = some o := fun b o hw e => oldb b o (hkb' b o hw (hka' b o hw e))
      have hst3 : St (ys.length + 1) h3 := W.frame _ _ _ hstb fun b _ o e => oldb b o e
      show wpAny _ A (do holding [vb] (assign (.Name xa pa) (compEnvC scope cl C env) va); do holding [] (assign (.Name xb pb) (compEnvC scope cl C env) vb); pure ()) _ _ _
      refine wpAny_bind (wpAny_holding (wpAny_assign_Name (wpAny_storeName_local hka (hns.at' fun o e => k23 _ o hCw e) (fun h4 hn4 hs4 => ?_) (hp0 C))))
      refine wpAny_bind (wpAny_holding (wpAny_assign_Name (wpAny_storeName_local hkb hn4 (fun h5 hn5 hs5 => wpAny_pure ?_) (hp0 C))))
      have k35 : ∀ b o, b ≠ C → h3.get? b = some o → h5.get? b = some o := fun b o hb e => hs5.extBut b o hb (hs4.extBut b o hb e)
      have hst5 : St (ys.length + 1) h5 := W.frame _ _ _ hst3 fun b hb o e => k35 b o (fun q => hCf (q ▸ hb)) e
      have k5 : ∀ b o, b ∉ wr → s₂.heap.get? b = some o → h5.get? b = some o := fun b o hw e => k35 b o (below b (Heap.lt_size e)).2 (k23 b o hw (hk b o hw e))
      refine wpAny_mono (leaf C ys.length va vb _ _ _ hDle hlt hPt hn5 (by simp [hab]) (by simp) k5) (fun y s6 h6 => ?_) fun _ _ e => e
      obtain ⟨hF, H6, tk6, rfl, hk6⟩ := h6
      have pl6 : H6.PlainList D ys.toArray := hpl.at fun o e => hk6 _ _ (k35 _ _ hDC (k23 _ _ hDw e))
      refine wpAny_list_append_plain (hsz := by rw [List.size_toArray, sizeLine_eq]; (first | lia | omega)) pl6 fun H7 hl7 hs7 => ?_
      refine ⟨n + 1 - (ys.length + 1), by (first | lia | omega), H7, tk6, _, ys ++ [y], rfl, by simp, by simp; (first | lia | omega), ?_, by simpa using hl7, (hn5.keeps hk6).sameBut hs7 (Ne.symm hDC), ?_, fun b o hw e => hs7.extBut b o (below b (Heap.lt_size e)).1 (hk6 b o (k5 b o hw e))⟩
      · have := W.frame _ _ H7 hst5 fun b hb o e => hs7.extBut b o (fun q => hDf (q ▸ hb)) (hk6 b o e)
        simpa using this
      · intro j u hj'
        rcases Nat.lt_trichotomy j ys.length with h | h | h
        · exact hys j u (by rwa [List.getElem?_append_left h] at hj')
        · subst h; simp at hj'; subst hj'; exact hF
        · have hnone : (ys ++ [y])[j]? = none := List.getElem?_eq_none (by rw [List.length_append, List.length_singleton]; (first | lia | omega))
          rw [hnone] at hj'; cases hj'
    · have hin : ys.length = n := by (first | lia | omega)
      refine W.done _ _ _ (hin ▸ hst2) fun h3 tk3 hk3 => ?_
      replace hk3 : ∀ b o, b ∉ wr → h2.get? b = some o → h3.get? b = some o := hk3
      have pl3 : h3.PlainList D ys.toArray := hpl.at fun o e => hk3 _ _ hDw e
      have hLs : env.locals < s₂.heap.objs.size := hnL.lt
      have hLC : env.locals ≠ C := (below _ hLs).2
      have hLD : env.locals ≠ D := (below _ hLs).1
      show wpAny _ A (assign (.Name yn py) env (.ref D)) _ _ _
      refine wpAny_assign_Name (wpAny_storeName_local hy (hnL.at' fun o e => hk3 _ o hLw (hk _ o hLw e)) (fun h₂ hn₂ hs₂ => ?_) hp)
      refine ⟨m2, (hns.at' fun o e => hk3 _ _ hCw e).sameBut hs₂ (Ne.symm hLC), fun h' hs' => hQ D ys h' _ ?_ ((pl3.isList.extBut hs₂.extBut (Ne.symm hLD)).extBut hs'.extBut hDC) ((pl3.extBut hs₂.extBut (Ne.symm hLD)).extBut hs'.extBut hDC) hin hys (hn₂.sameBut hs' hLC) fun b o hbL hw e => hs'.extBut b o (below b (Heap.lt_size e)).2 (hs₂.extBut b o hbL (hk3 b o hw (hk b o hw e)))⟩
      cases e : s₂.heap.get? D with
      | none => rfl
      | some o => exact absurd rfl (below _ (Heap.lt_size e)).1
  exact codeAny_compStart_list (loop _ rfl) (W.self 0 _ _ _ hst₁ (loop _ rfl))
end
end Mine
end

section
-- Zp
example : True := by w_top off; trivial
open PySem PySem.W PyProof.Rows PySem.Calls PySem.Spec
set_option maxRecDepth 100000
namespace Mine
theorem no4 {b S : Nat} (h : b < S) : b ∉ [S + 4, S + 3, S, S + 1] := by simp; (first | lia | omega)
theorem zp_ap {S l : Nat} (h : l < S) : ZipAp (S + 4) (S + 2) (S + 3) S (S + 1) [S] [S + 1, l] := by
  have f1 : ∀ b ∈ [S], b ≠ S + 4 ∧ b ≠ S + 3 ∧ b ≠ S + 1 := by intro b hb; simp at hb; (first | lia | omega)
  have f2 : ∀ b ∈ [S + 1, l], b ≠ S + 4 ∧ b ≠ S + 3 ∧ b ≠ S := by intro b hb; simp at hb; (first | lia | omega)
  exact ⟨Nat.ne_of_lt (by (first | lia | omega)), Nat.ne_of_lt (by (first | lia | omega)), Nat.ne_of_lt (by (first | lia | omega)), Nat.ne_of_lt (by (first | lia | omega)), Nat.ne_of_lt (by (first | lia | omega)), Nat.ne_of_gt (by (first | lia | omega)), Nat.ne_of_gt (by (first | lia | omega)), Nat.ne_of_gt (by (first | lia | omega)), Nat.ne_of_gt (by (first | lia | omega)), Nat.ne_of_lt (by (first | lia | omega)), f1, f2⟩
theorem zp_fp {S l H : Nat} (h : l < S) (hH : H = S + 5) : ∀ b ∈ (S + 4) :: (S + 2) :: (S + 3) :: S :: (S + 1) :: ([S] ++ [S + 1, l]), b < H := by
  intro b hb; simp at hb; (first | lia | omega)
theorem two_at {a b c d : Value} (h : #[a, b] = #[c, d]) : a = c ∧ b = d := by simpa using h
section
variable {prog : Program} {w : World} {A : Around} {E : Value → Shared → Prop} {env : Env}
theorem zip_pack {s : Shared} {elt : Expr} {xa xb yn : Str} {scope : Scope} {cl : List (Str × Addr)} {R : Addr → Heap → Nat → Shared → Prop} {g : Heap} {L : Addr} {m : Str → Option Value} {nw : List (Addr × Obj)} {x : Str} {t : Tok} {l2 : Addr} {ys : Array Value} (Fv : Nat → Value → Prop)
    (hh : A.handled = none) (hL : env.locals = L) (F : Fr g L s.heap m) (N : News g L s.heap nw) (hl : s.heap.IsList l2 ys) (ha : x.cps.all (· < 128) = true) (hx : x.cps.size ≤ 1000)
    (leaf : ∀ C i c vb u s₃ m₃ E', s.heap.objs.size ≤ C → x.cps[i]? = some c → ys[i]? = some vb → s₃.heap.Ns (compEnvC scope cl C env).locals m₃ → m₃ xa = some (.str ⟨#[c]⟩ u) → m₃ xb = some vb → (∀ b o, s.heap.get? b = some o → s₃.heap.get? b = some o) →
        wpAny (model prog w) A (eval elt (compEnvC scope cl C env)) (fun y s₄ => Fv i y ∧ Keeps s₃ s₄) E' s₃)
    (hQ : ∀ D (zs : List Value) h' tk, Fr g L h' (fun z => if z = yn then some (.ref D) else m z) → News g L h' nw → g.get? D = none → NewPlain h' nw D zs.toArray → zs.length = min x.cps.size ys.size → (∀ j y, zs[j]? = some y → Fv j y) → ∀ h0, R D h' tk { s with heap := h0 }) :
    wpAny (model prog w) A (call (.type "zip") [.str x t, .ref l2]) (fun xv s₁ => wpAny (model prog w) A (pyIter xv) (fun it s₂ => ∃ I fp wr n Pt St Mid mL, it = .ref I ∧ s₂.heap.Ns env.locals mL ∧ env.locals ∉ wr ∧ WalksT prog w A I fp wr n Pt St Mid ∧ n ≤ 1000 ∧ St 0 s₂.heap ∧ (∀ b ∈ fp, b < s₂.heap.objs.size) ∧
      (∀ i vals, i < n → Pt i vals → ∃ va vb, vals = #[va, vb]) ∧
      (∀ C i va vb s₃ m₃ E', s₂.heap.objs.size ≤ C → i < n → Pt i #[va, vb] → s₃.heap.Ns C m₃ → m₃ xa = some va → m₃ xb = some vb → (∀ b o, b ∉ wr → s₂.heap.get? b = some o → s₃.heap.get? b = some o) →
        wpAny (model prog w) A (eval elt (compEnvC scope cl C env)) (fun y s₄ => Fv i y ∧ Keeps s₃ s₄) E' s₃) ∧
      (∀ D (ys : List Value) h' tk, s₂.heap.get? D = none → h'.IsList D ys.toArray → h'.PlainList D ys.toArray → ys.length = n → (∀ j y, ys[j]? = some y → Fv j y) → h'.Ns env.locals (fun z => if z = yn then some (.ref D) else mL z) → (∀ b o, b ≠ env.locals → b ∉ wr → s₂.heap.get? b = some o → h'.get? b = some o) → R D h' tk s₂)) E s₁) E s := by
  refine call_zip_sl ha hl ?_
  intro h' hz hTI hTO hsi hli hsz hk
  refine wpAny_pyIter_zip hz ?_
  have hl2 : l2 < s.heap.objs.size := by obtain ⟨_, e, _⟩ := hl; exact Heap.lt_size e
  have hLs : L < s.heap.objs.size := F.ns.lt
  generalize hS : s.heap.objs.size = S at hz hTI hTO hsi hli hsz hl2 hLs leaf ⊢
  have old : ∀ b o, s.heap.get? b = some o → b ∉ [S + 4, S + 3, S, S + 1] := by
    intro b o e
    exact no4 (hS ▸ Heap.lt_size e)
  refine ⟨_, _, _, _, _, _, _, m, rfl, ?_, ?_, walksT_zipD (Draws.strAscii ?_ S x t) (Draws.list ?_ (S + 1) l2 (Nat.ne_of_lt (Nat.lt_succ_of_lt hl2)) ys) (zp_ap hl2), ?_, ⟨hz, hTI, ⟨_, _, hTO⟩, hsi, hli, hl.at fun o e => hk _ _ e⟩, zp_fp hl2 hsz, ?_, ?_, ?_⟩
  · rw [hL]; exact F.ns.at' fun o e => hk _ _ e
  · rw [hL]; exact no4 hLs
  · exact hh
  · exact hh
  · (first | lia | omega)
  · rintro i vals _ ⟨p, q, _, _, rfl⟩; exact ⟨p, q, rfl⟩
  · rintro C i va vb s₃ m₃ E' hC hi ⟨p, q, ⟨c, u, hc, rfl⟩, hq, hpq⟩ hn h1 h2 hk3
    obtain ⟨rfl, rfl⟩ := two_at hpq
    refine leaf C i c vb u s₃ m₃ E' ?_ hc hq hn h1 h2 fun b o e => hk3 b o (old b o e) (hk b o e)
    have : h'.objs.size ≤ C := hC
    (first | lia | omega)
  · intro D zs h2 tk hD hil hpl hlen hF hns hk2
    have hD' : s.heap.get? D = none := by
      cases e : s.heap.get? D with
      | none => rfl
      | some o => have := hk _ _ e; rw [show h'.get? D = none from hD] at this; cases this
    rw [hL] at hns hk2
    have keep : ∀ b o, b ≠ L → s.heap.get? b = some o → h2.get? b = some o := fun b o hb e => hk2 b o hb (old b o e) (hk b o e)
    refine hQ D zs h2 tk ⟨hns, fun b o e => keep b o ?_ (F.keep b o e), F.above⟩ (fun q hq => ⟨keep _ _ (N q hq).2.1 (N q hq).1, (N q hq).2⟩) ?_ ⟨hpl, fun q hq e => ?_⟩ hlen hF _
    · rintro rfl; exact Nat.lt_irrefl _ (Nat.lt_of_lt_of_le (Heap.lt_size e) F.above)
    · cases e : g.get? D with
      | none => rfl
      | some o => rw [F.keep _ _ e] at hD'; cases hD'
    · have := (N q hq).1; rw [e, hD'] at this; cases this
end
end Mine
end

section
-- Plain2
example : True := by w_top off; trivial
namespace Mine
section
variable {α β : Type}
/-- two ways to rank, the same order -/
noncomputable def SameOrd (r : α → Int) (r' : β → Int) (f : α → β) (l : List α) : Prop := ∀ x ∈ l, ∀ y ∈ l, (r x < r y ↔ r' (f x) < r' (f y))
section
variable {r : Nat → Int}
end
end
end Mine
end

section
-- SignB
example : True := by w_top off; trivial
open PySem PySem.W PyProof.Rows PySem.Calls PySem.Spec
set_option maxRecDepth 100000
namespace Mine
theorem band (n k : Nat) : Builtin.bitAnd (n : Int) (k : Int) = ((n &&& k : Nat) : Int) := by
  simp [Builtin.bitAnd]
theorem fdm2 (n k : Nat) : ((n : Int).fdiv (2 ^ k)).fmod 2 = if n.testBit k then 1 else 0 := by
  rw [Nat.testBit_eq_decide_div_mod_eq]
  have e : (n : Int).fdiv (2 ^ k) = ((n / 2 ^ k : Nat) : Int) := by
    rw [Int.fdiv_eq_ediv_of_nonneg _ (Int.pow_nonneg (by decide))]; simp
  rw [e, Int.fmod_eq_emod_of_nonneg _ (by decide)]
  generalize n / 2 ^ k = q
  by_cases h : q % 2 = 1
  · rw [if_pos (by simpa using h)]; (first | lia | omega)
  · rw [if_neg (by simpa using h)]; (first | lia | omega)
theorem and_pow (n j : Nat) : n &&& 2 ^ j = if n.testBit j then 2 ^ j else 0 := by
  apply Nat.eq_of_testBit_eq
  intro i
  rw [Nat.testBit_and, Nat.testBit_two_pow]
  by_cases h : j = i
  · subst h
    cases e : n.testBit j <;> simp
  · cases e : n.testBit j <;> simp [h]
theorem and_two (n a b : Nat) : n &&& (2 ^ a ||| 2 ^ b) = (if n.testBit a then 2 ^ a else 0) ||| (if n.testBit b then 2 ^ b else 0) := by
  rw [Nat.and_or_distrib_left, and_pow, and_pow]
theorem hit1 (n i j : Nat) (hi : i ≠ 0) {c : Int} (hc : c = ((2 ^ j : Nat) : Int)) : hitB n i c = n.testBit j := by
  subst hc
  unfold hitB
  rw [if_neg hi, band, and_pow]
  have : (0 : Nat) < 2 ^ j := Nat.two_pow_pos j
  cases n.testBit j
  · rw [if_neg (by simp), decide_eq_false_iff_not]; (first | lia | omega)
  · simp
theorem hit2 (n i a b : Nat) (hi : i ≠ 0) {c : Int} (hc : c = ((2 ^ a ||| 2 ^ b : Nat) : Int)) (h1 : 2 ^ a ||| 2 ^ b ≠ 2 ^ a) (h2 : 2 ^ a ||| 2 ^ b ≠ 2 ^ b) : hitB n i c = (n.testBit a && n.testBit b) := by
  subst hc
  unfold hitB
  rw [if_neg hi, band, and_two]
  have h3 : 2 ^ a ||| 2 ^ b ≠ 0 := by
    intro e
    have h5 := Nat.left_le_or (n := 2 ^ a) (m := 2 ^ b)
    have : (0 : Nat) < 2 ^ a := Nat.two_pow_pos a
    (first | lia | omega)
  cases n.testBit a <;> cases n.testBit b
  · exact decide_eq_false fun e => h3 (Int.ofNat.inj (by simpa using e.symm))
  · exact decide_eq_false fun e => h2 (Int.ofNat.inj (by simpa using e.symm))
  · exact decide_eq_false fun e => h1 (Int.ofNat.inj (by simpa using e.symm))
  · simp
/-- the kind's four bits -/
theorem ifmt_eq {n : Nat} (h : n < 65536) : Builtin.bitAnd (n : Int) 61440 = ((n / 4096 * 4096 : Nat) : Int) := by
  have e : (61440 : Int) = ((2 ^ 15 ||| 2 ^ 14 ||| 2 ^ 13 ||| 2 ^ 12 : Nat) : Int) := by decide
  rw [e, band, Nat.and_or_distrib_left, Nat.and_or_distrib_left, Nat.and_or_distrib_left, and_pow, and_pow, and_pow, and_pow]
  simp only [Nat.testBit_eq_decide_div_mod_eq]
  have hk : n / 4096 < 16 := by (first | lia | omega)
  have e1 : n / 2 ^ 12 = n / 4096 := by (first | lia | omega)
  have e2 : n / 2 ^ 13 = n / 4096 / 2 := by (first | lia | omega)
  have e3 : n / 2 ^ 14 = n / 4096 / 4 := by (first | lia | omega)
  have e4 : n / 2 ^ 15 = n / 4096 / 8 := by (first | lia | omega)
  rw [e1, e2, e3, e4]
  generalize n / 4096 = k at hk
  revert hk
  revert k
  decide +kernel
/-- the sign of a rank -/
noncomputable def sgn (pl : Nat) (rk : Int) : Nat :=
  if pl = 0 then [45, 63, 98, 99, 100, 108, 112, 115].getD rk.toNat 0
  else if pl % 3 = 1 then (if rk = 0 then 45 else 114)
  else if pl % 3 = 2 then (if rk = 0 then 45 else 119)
  else [45, (if pl = 9 then 84 else 83), (if pl = 9 then 116 else 115), 120].getD rk.toNat 0
theorem sgn0 {n : Nat} (h : n < 65536) : pickC n 0 (fmRows.getD 0 (0, [])).2 = sgn 0 (rankZ n (0 : Nat)) := by
  show pickC n 0 (fmRows.getD 0 (0, [])).2 = sgn 0 (rankZ n (0 : Int))
  have e : ∀ c : Int, hitB n 0 c = decide (((n / 4096 * 4096 : Nat) : Int) = c) := by
    intro c
    unfold hitB
    rw [if_pos rfl, ifmt_eq h]
  have e2 : (n : Int).fdiv 4096 = ((n / 4096 : Nat) : Int) := by rw [Int.fdiv_eq_ediv_of_nonneg _ (by decide)]; simp
  have e3 : fmRows.getD 0 (0, []) = (197, [(190, 40960, 108), (191, 49152, 115), (192, 32768, 45), (193, 24576, 98), (194, 16384, 100), (195, 8192, 99), (196, 4096, 112)]) := rfl
  rw [e3]
  simp only [pickC, e, rankZ, if_true, e2, sgn, Int.toNat_natCast]
  have hk : n / 4096 < 16 := by (first | lia | omega)
  generalize n / 4096 = k at hk
  revert hk
  revert k
  decide +kernel
theorem sgn_one {n pl j c a : Nat} {q : Int} (h0 : pl ≠ 0) (h3 : pl % 3 ≠ 0) (hp : pl + j = 9) (hq : q = ((2 ^ j : Nat) : Int)) (hc : c = if pl % 3 = 1 then 114 else 119) : pickC n pl [(a, q, c)] = sgn pl (rankZ n pl) := by
  have e : rankZ n pl = if n.testBit j then 1 else 0 := by
    unfold rankZ
    rw [if_neg (by (first | lia | omega)), if_pos (by rw [Int.fmod_eq_emod_of_nonneg _ (by decide)]; (first | lia | omega))]
    rw [show ((9 : Int) - (pl : Int)).toNat = j by (first | lia | omega)]
    exact fdm2 n j
  rw [e]
  simp only [pickC, hit1 n pl j h0 hq, if_neg h0]
  subst hc
  unfold sgn
  rw [if_neg h0]
  have : pl % 3 = 1 ∨ pl % 3 = 2 := by (first | lia | omega)
  rcases this with h | h <;> cases n.testBit j <;> simp [h]
theorem sgn_three {n pl a b : Nat} {x1 x2 x3 c1 c2 : Nat} {q1 q2 q3 : Int} (h0 : pl ≠ 0) (h3 : pl % 3 = 0) (ha : pl + a = 9) (hb : pl / 3 + b = 12) (hq1 : q1 = ((2 ^ a ||| 2 ^ b : Nat) : Int)) (hq2 : q2 = ((2 ^ b : Nat) : Int)) (hq3 : q3 = ((2 ^ a : Nat) : Int))
    (n1 : 2 ^ a ||| 2 ^ b ≠ 2 ^ a) (n2 : 2 ^ a ||| 2 ^ b ≠ 2 ^ b) (hc1 : c1 = if pl = 9 then 116 else 115) (hc2 : c2 = if pl = 9 then 84 else 83) : pickC n pl [(x1, q1, c1), (x2, q2, c2), (x3, q3, 120)] = sgn pl (rankZ n pl) := by
  have e : rankZ n pl = if n.testBit a then 3 - (if n.testBit b then 1 else 0) else (if n.testBit b then 1 else 0) := by
    unfold rankZ
    rw [if_neg (by (first | lia | omega)), if_neg (by rw [Int.fmod_eq_emod_of_nonneg _ (by decide)]; (first | lia | omega))]
    rw [show ((9 : Int) - (pl : Int)).toNat = a by (first | lia | omega), show ((12 : Int) - (pl : Int).fdiv 3).toNat = b by rw [Int.fdiv_eq_ediv_of_nonneg _ (by decide)]; (first | lia | omega)]
    rw [fdm2 n a, fdm2 n b]
    cases n.testBit a <;> simp
  rw [e]
  simp only [pickC, hit1 n pl a h0 hq3, hit1 n pl b h0 hq2, hit2 n pl a b h0 hq1 n1 n2, if_neg h0]
  subst hc1 hc2
  unfold sgn
  rw [if_neg h0, if_neg (show ¬ pl % 3 = 1 by (first | lia | omega)), if_neg (show ¬ pl % 3 = 2 by (first | lia | omega))]
  cases n.testBit a <;> cases n.testBit b <;> rfl
theorem sgn_pick {n pl : Nat} (h : n < 65536) (hp : pl < 10) : pickC n pl (fmRows.getD pl (0, [])).2 = sgn pl (rankZ n pl) := by
  have : pl = 0 ∨ pl = 1 ∨ pl = 2 ∨ pl = 3 ∨ pl = 4 ∨ pl = 5 ∨ pl = 6 ∨ pl = 7 ∨ pl = 8 ∨ pl = 9 := by (first | lia | omega)
  rcases this with rfl | rfl | rfl | rfl | rfl | rfl | rfl | rfl | rfl | rfl
  · exact sgn0 h
  · exact sgn_one (j := 8) (by decide) (by decide) rfl rfl rfl
  · exact sgn_one (j := 7) (by decide) (by decide) rfl rfl rfl
  · exact sgn_three (a := 6) (b := 11) (by decide) (by decide) rfl rfl rfl rfl rfl (by decide) (by decide) rfl rfl
  · exact sgn_one (j := 5) (by decide) (by decide) rfl rfl rfl
  · exact sgn_one (j := 4) (by decide) (by decide) rfl rfl rfl
  · exact sgn_three (a := 3) (b := 10) (by decide) (by decide) rfl rfl rfl rfl rfl (by decide) (by decide) rfl rfl
  · exact sgn_one (j := 2) (by decide) (by decide) rfl rfl rfl
  · exact sgn_one (j := 1) (by decide) (by decide) rfl rfl rfl
  · exact sgn_three (a := 0) (b := 9) (by decide) (by decide) rfl rfl rfl rfl rfl (by decide) (by decide) rfl rfl
/-- the ranks that a place has -/
theorem rank_range {n pl : Nat} (h : n < 65536) (hp : pl < 10) : 0 ≤ rankZ n pl ∧ rankZ n pl < (if pl = 0 then 8 else if pl % 3 = 0 then 4 else 2) := by
  by_cases h0 : pl = 0
  · subst h0
    show 0 ≤ rankZ n 0 ∧ rankZ n 0 < 8
    have e2 : (n : Int).fdiv 4096 = ((n / 4096 : Nat) : Int) := by rw [Int.fdiv_eq_ediv_of_nonneg _ (by decide)]; simp
    simp only [rankZ, e2, Int.toNat_natCast, if_true]
    have hk : n / 4096 < 16 := by (first | lia | omega)
    generalize n / 4096 = k at hk
    revert hk
    revert k
    decide +kernel
  · rw [if_neg h0]
    unfold rankZ
    rw [if_neg (by (first | lia | omega)), fdm2, fdm2]
    by_cases h3 : pl % 3 = 0
    · rw [if_pos h3, if_neg (by rw [Int.fmod_eq_emod_of_nonneg _ (by decide)]; (first | lia | omega))]
      cases n.testBit (9 - (pl : Int)).toNat <;> cases n.testBit (12 - (pl : Int).fdiv 3).toNat <;> decide
    · rw [if_neg h3, if_pos (by rw [Int.fmod_eq_emod_of_nonneg _ (by decide)]; (first | lia | omega))]
      cases n.testBit (9 - (pl : Int)).toNat <;> decide
theorem sgn_mono : ∀ pl : Fin 10, ∀ a b : Fin (if pl.val = 0 then 8 else if pl.val % 3 = 0 then 4 else 2), (a.val < b.val ↔ sgn pl.val (a.val : Nat) < sgn pl.val (b.val : Nat)) := by decide +kernel
theorem sgn_lt {n k pl : Nat} (h : n < 65536) (hk : k < 65536) (hp : pl < 10) : sgn pl (rankZ n pl) < sgn pl (rankZ k pl) ↔ rankZ n pl < rankZ k pl := by
  obtain ⟨a0, a1⟩ := rank_range h hp
  obtain ⟨b0, b1⟩ := rank_range hk hp
  generalize rankZ n pl = a at a0 a1
  generalize rankZ k pl = b at b0 b1
  obtain ⟨a, rfl⟩ := Int.eq_ofNat_of_zero_le a0
  obtain ⟨b, rfl⟩ := Int.eq_ofNat_of_zero_le b0
  have hx : ((if pl = 0 then 8 else if pl % 3 = 0 then 4 else 2 : Int)) = (((if pl = 0 then 8 else if pl % 3 = 0 then 4 else 2 : Nat)) : Int) := by split <;> (try split) <;> rfl
  rw [hx] at a1 b1
  have := sgn_mono ⟨pl, hp⟩ ⟨a, by simpa using Int.ofNat_lt.mp a1⟩ ⟨b, by simpa using Int.ofNat_lt.mp b1⟩
  simp only at this
  rw [← this]
  exact Int.ofNat_lt.symm
end Mine
end

section
-- Pc
example : True := by w_top off; trivial
open PySem PySem.W PyProof.Rows PySem.Calls PySem.Spec
set_option maxRecDepth 100000
namespace Mine
section
variable {prog : Program} {w : World} {A : Around} {E : Value → Shared → Prop} {env : Env}
end
end Mine
end

section
-- Ends1B
example : True := by w_top off; trivial
open PySem PySem.W PyProof.Rows PySem.Calls PySem.Spec
set_option maxRecDepth 100000
namespace Mine
/-- the signs that filemode may tell -/
noncomputable def okSign (c : Nat) : Bool := [63, 108, 115, 45, 98, 100, 99, 112, 114, 119, 83, 120, 116, 84].contains c
theorem pick_ok {mode : Int} {i : Nat} : ∀ {l : List (Addr × Int × Nat)}, (∀ q ∈ l, okSign q.2.2 = true) → okSign (pickC mode i l) = true
  | [], _ => by unfold pickC; split <;> rfl
  | q :: r, h => by
    unfold pickC
    split
    · exact h q (.head _)
    · exact pick_ok fun q hq => h q (.tail _ hq)
theorem rows_okSign : ∀ i, ∀ q ∈ (fmRows.getD i (0, [])).2, okSign q.2.2 = true := by
  have : ∀ i : Fin 10, ∀ q ∈ (fmRows.getD i.val (0, [])).2, okSign q.2.2 = true := by decide +kernel
  intro i
  by_cases h : i < 10
  · exact this ⟨i, h⟩
  · intro q hq
    have e : fmRows.getD i (0, []) = (0, []) := by
      rw [List.getD, List.getElem?_eq_none (by simp [fmRows]; (first | lia | omega))]; rfl
    rw [e] at hq; cases hq
theorem signs_ok (mode : Int) (n : Nat) : ∀ c ∈ fmSigns mode n, okSign c = true := by
  intro c hc
  obtain ⟨i, _, rfl⟩ := List.mem_map.mp hc
  exact pick_ok (rows_okSign i)
theorem row_cps {c : Nat} {mode : Int} {pl : Nat} (hp : pl < 10) : (rowS ⟨#[c]⟩ mode pl).cps.toList = c :: ((fmSigns mode 10).drop (pl + 1) ++ (fmSigns mode 10).take (pl + 1)) := by
  unfold rowS
  have h : (fmSigns mode 10).length = 10 := by simp [fmSigns]
  generalize fmSigns mode 10 = l at h
  have hl : (Str.mk l.toArray).cps.toList.length = 10 := by simpa using h
  have e1 : Txt.slice ⟨l.toArray⟩ (some ((pl : Int) + 1)) none = ⟨(l.drop (pl + 1)).toArray⟩ := by
    have := StrLaws.sliceText_from (x := ⟨l.toArray⟩) (i := (pl : Int) + 1) (by rw [hl]; (first | lia | omega))
    rw [show Txt.slice ⟨l.toArray⟩ (some ((pl : Int) + 1)) none = StrLaws.sliceText ⟨l.toArray⟩ (some ((pl : Int) + 1)) none from rfl, this, hl]
    rw [show ((pl : Int) + 1).toNat = pl + 1 by (first | lia | omega), show (((10 : Nat) : Int) - ((pl : Int) + 1)).toNat = 10 - (pl + 1) by (first | lia | omega)]
    rw [List.take_of_length_le (by simp [h])]
  have e2 : Txt.slice ⟨l.toArray⟩ none (some ((pl : Int) + 1)) = ⟨(l.take (pl + 1)).toArray⟩ := by
    have := StrLaws.sliceText_to (x := ⟨l.toArray⟩) (j := (pl : Int) + 1) (by rw [hl]; (first | lia | omega))
    rw [show Txt.slice ⟨l.toArray⟩ none (some ((pl : Int) + 1)) = StrLaws.sliceText ⟨l.toArray⟩ none (some ((pl : Int) + 1)) from rfl, this]
    rw [show ((pl : Int) + 1 - 0).toNat = pl + 1 by (first | lia | omega)]
    rfl
  rw [e1, e2]
  show ((#[c] ++ (l.drop (pl + 1)).toArray) ++ (l.take (pl + 1)).toArray).toList = _
  simp
theorem ok_ns {c : Nat} (h : okSign c = true ∨ (97 ≤ c ∧ c < 103)) : Unicode.isSpace c = false ∧ c ≠ 59 := by
  rcases h with h | ⟨h1, h2⟩
  · have h' : c ∈ [63, 108, 115, 45, 98, 100, 99, 112, 114, 119, 83, 120, 116, 84] := by simpa [okSign] using h
    have key : ∀ c ∈ [63, 108, 115, 45, 98, 100, 99, 112, 114, 119, 83, 120, 116, 84], Unicode.isSpace c = false ∧ c ≠ 59 := by decide +kernel
    exact key c h'
  · have h' : c ∈ [97, 98, 99, 100, 101, 102] := by
      have : c = 97 ∨ c = 98 ∨ c = 99 ∨ c = 100 ∨ c = 101 ∨ c = 102 := by (first | lia | omega)
      rcases this with rfl | rfl | rfl | rfl | rfl | rfl <;> decide
    have key : ∀ c ∈ [97, 98, 99, 100, 101, 102], Unicode.isSpace c = false ∧ c ≠ 59 := by decide +kernel
    exact key c h'
theorem row_ok {c : Nat} {mode pl : Int} (h0 : 0 ≤ pl) (h1 : pl < 10) (hc : 97 ≤ c ∧ c < 103) : RowOk (rowS ⟨#[c]⟩ mode pl) := by
  obtain ⟨p, rfl⟩ := Int.eq_ofNat_of_zero_le h0
  have hp : p < 10 := by (first | lia | omega)
  have e := row_cps (c := c) (mode := mode) hp
  have hl : (fmSigns mode 10).length = 10 := by simp [fmSigns]
  have mem : ∀ x ∈ (rowS ⟨#[c]⟩ mode (p : Int)).cps.toList, okSign x = true ∨ (97 ≤ x ∧ x < 103) := by
    intro x hx
    rw [e] at hx
    rcases List.mem_cons.mp hx with rfl | hx
    · exact .inr hc
    · left
      refine signs_ok mode 10 x ?_
      rcases List.mem_append.mp hx with hx | hx
      · exact List.mem_of_mem_drop hx
      · exact List.mem_of_mem_take hx
  refine ⟨?_, fun x hx => (ok_ns (mem x hx)).1, fun hx => (ok_ns (mem 59 hx)).2 rfl⟩
  show (rowS ⟨#[c]⟩ mode (p : Int)).cps.size = 11
  rw [← Array.length_toList, e, List.length_cons, List.length_append, List.length_drop, List.length_take, hl]
  (first | lia | omega)
theorem row_last {c : Nat} {mode pl : Int} (h0 : 0 ≤ pl) (h1 : pl < 10) (m0 : 0 ≤ mode) (m1 : mode < 65536) : lastZ (rowS ⟨#[c]⟩ mode pl) = (sgn pl.toNat (rankZ mode pl) : Nat) := by
  obtain ⟨p, rfl⟩ := Int.eq_ofNat_of_zero_le h0
  obtain ⟨n, rfl⟩ := Int.eq_ofNat_of_zero_le m0
  have hp : p < 10 := by (first | lia | omega)
  have hn : n < 65536 := by (first | lia | omega)
  have e := row_cps (c := c) (mode := (n : Int)) hp
  have hl : (fmSigns (n : Int) 10).length = 10 := by simp [fmSigns]
  unfold lastZ lastN
  rw [← Array.getLast?_toList, e]
  have e2 : (c :: ((fmSigns (n : Int) 10).drop (p + 1) ++ (fmSigns (n : Int) 10).take (p + 1))).getLast? = some (pickC n p (fmRows.getD p (0, [])).2) := by
    rw [List.getLast?_eq_getElem?]
    simp only [List.length_cons, List.length_append, List.length_drop, List.length_take, hl]
    rw [show 10 - (p + 1) + min (p + 1) 10 + 1 - 1 = (10 - (p + 1) + p) + 1 by (first | lia | omega), List.getElem?_cons_succ, List.getElem?_append_right (by simp [hl]), List.length_drop, hl]
    rw [show 10 - (p + 1) + p - (10 - (p + 1)) = p by (first | lia | omega), List.getElem?_take_of_lt (by (first | lia | omega))]
    unfold fmSigns
    rw [List.getElem?_map, List.getElem?_range hp]; rfl
  rw [e2, Option.getD_some, sgn_pick hn hp]
  rfl
/-- the last signs stand in the order of the ranks -/
theorem row_lt {c d : Nat} {a b pl : Int} (h0 : 0 ≤ pl) (h1 : pl < 10) (ha : 0 ≤ a ∧ a < 65536) (hb : 0 ≤ b ∧ b < 65536) : rankZ a pl < rankZ b pl ↔ lastZ (rowS ⟨#[c]⟩ a pl) < lastZ (rowS ⟨#[d]⟩ b pl) := by
  rw [row_last h0 h1 ha.1 ha.2, row_last h0 h1 hb.1 hb.2]
  obtain ⟨p, rfl⟩ := Int.eq_ofNat_of_zero_le h0
  obtain ⟨n, rfl⟩ := Int.eq_ofNat_of_zero_le ha.1
  obtain ⟨k, rfl⟩ := Int.eq_ofNat_of_zero_le hb.1
  have := sgn_lt (n := n) (k := k) (pl := p) (by (first | lia | omega)) (by (first | lia | omega)) (by (first | lia | omega))
  rw [Int.ofNat_lt]
  exact this.symm
end Mine
end

section
-- AbcB
example : True := by w_top off; trivial
open PySem PySem.W PyProof.Rows PySem.Calls PySem.Spec PySem.Builtin.Str
set_option maxRecDepth 100000
namespace Mine
theorem occ_abc {i : Nat} (h : i < 6) : PySem.Builtin.Str.occurrences (Str.ofString "abcdef") ⟨#[97 + i]⟩ 0 (Str.ofString "abcdef").length 1 = [i] := by
  have : i = 0 ∨ i = 1 ∨ i = 2 ∨ i = 3 ∨ i = 4 ∨ i = 5 := by (first | lia | omega)
  rcases this with rfl | rfl | rfl | rfl | rfl | rfl <;> decide +kernel
theorem item_first {y : Str} {c : Nat} {l : List Nat} (h : y.cps.toList = c :: l) : Txt.item y 0 = ⟨#[c]⟩ := by
  have hs : y.cps.size = l.length + 1 := by rw [← Array.length_toList, h]; rfl
  have h0 : y.cps[0]? = some c := by rw [← Array.getElem?_toList, h]; rfl
  have e : Txt.charAt y 0 = some c := by
    unfold Txt.charAt
    simp only [Str.length, hs]
    have e0 : seqIndex? 0 (l.length + 1) = some 0 := by simp [seqIndex?]; try (first | lia | omega)
    rw [e0]
    exact h0
  unfold Txt.item
  rw [e]
  rfl
section
variable {prog : Program} {w : World} {A : Around} {E : Value → Shared → Prop} {s : Shared} {t u : Tok} {Q : Value → Shared → Prop}
theorem index_abc {i : Nat} (h : i < 6) (hQ : Q (.int (i : Nat) s.toks) { s with toks := s.toks + 1 }) : wpAny (model prog w) A (call (.builtin "str.index") [.str (Str.ofString "abcdef") t, .str ⟨#[97 + i]⟩ u]) Q E s :=
  SC.index (occ_abc h) hQ
end
end Mine
end

section
-- ForZ
example : True := by w_top off; trivial
open PySem PySem.W PyProof.Rows PySem.Calls PySem.Spec
set_option maxRecDepth 100000
namespace Mine
section
variable {prog : Program} {w : World} {A : Around} {E : Value → Shared → Prop} {s : Shared} {env : Env} {h₀ : Heap} {body orelse : List Stmt} {Q : Flow → Shared → Prop} {m₀ : Str → Option Value} {nw₀ : List (Addr × Obj)}
end
theorem idx_get : ∀ {ns : List Nat} {i m : Nat}, m < ns.idxOf i → ns[m]? ≠ some i
  | [], _, _, h => by simp at h
  | a :: t, i, 0, h => by
    intro e
    simp at e
    subst e
    simp at h
  | a :: t, i, m + 1, h => by
    rw [List.idxOf_cons] at h
    by_cases e : a = i
    · subst e; simp at h
    · have e' : (a == i) = false := by simpa using e
      rw [e', cond_false] at h
      simpa using idx_get (ns := t) (m := m) (by (first | lia | omega))
theorem ints_natAt {vs : List Value} {ns : List Nat} (hi : IntsAre vs (ns.map fun i : Nat => (i : Int))) {m : Nat} (hm : m < vs.length) : ∃ a t, ns[m]? = some a ∧ vs[m] = .int (a : Nat) t := by
  have key : ∀ {vs : List Value} {ks : List Int} {m : Nat} (hm : m < vs.length), IntsAre vs ks → ∃ x t, ks[m]? = some x ∧ vs[m] = .int x t := by
    intro vs ks m hm h
    induction h generalizing m with
    | nil => simp at hm
    | cons x t _ ih =>
      cases m with
      | zero => exact ⟨x, t, rfl, rfl⟩
      | succ m => simpa using ih (m := m) (by simpa using hm)
  obtain ⟨x, t, e1, e2⟩ := key hm hi
  rw [List.getElem?_map] at e1
  cases e3 : ns[m]? with
  | none => rw [e3] at e1; cases e1
  | some a => rw [e3] at e1; cases e1; exact ⟨a, t, rfl, e2⟩
section
variable {prog : Program} {w : World} {A : Around} {E : Value → Shared → Prop} {s : Shared}
theorem index_nats {l : Addr} {vs : List Value} {ns : List Nat} {e i : Nat} {u : Tok} {Q : Value → Shared → Prop} (hl : s.heap.get? l = some (listOf vs.toArray e)) (hi : IntsAre vs (ns.map fun i : Nat => (i : Int))) (hin : i ∈ ns) (hn : ns.length ≤ 100)
    (h : Q (.int (ns.idxOf i : Nat) s.toks) { s with toks := s.toks + 1 }) : wpAny (model prog w) A (call (.builtin "list.index") [.ref l, .int (i : Nat) u]) Q E s := by
  have hlt := List.idxOf_lt_length_of_mem hin
  have hlen : vs.length = ns.length := by rw [hi.length]; simp
  refine call_meets F.slot_list_index ⟨_, hl, rfl⟩ F.entry_list_index (F.args_list_index_2 _ _) (SeqAt.list_indexAt l vs.toArray e none #[] (.int (i : Nat) u) (fun y => match y with | .int a _ => a == (i : Int) | _ => false) (ns.idxOf i) (by simpa [hlen] using hlt) (by (first | lia | omega)) ?_ ?_) ⟨hl, ?_, h⟩
  · obtain ⟨a, t, e1, e2⟩ := ints_natAt hi (m := ns.idxOf i) (by (first | lia | omega))
    have e3 : vs.toArray[ns.idxOf i]'(by simpa [hlen] using hlt) = .int (a : Nat) t := by simpa using e2
    rw [e3]
    rw [List.getElem?_eq_getElem hlt, List.getElem_idxOf hlt] at e1
    cases e1
    simp
  · intro m hm hmj
    obtain ⟨a, t, e1, e2⟩ := ints_natAt hi (m := m) (by simpa using hm)
    have e3 : vs.toArray[m] = .int (a : Nat) t := by simpa using e2
    rw [e3]
    have := idx_get hmj
    rw [e1] at this
    have h9 : a ≠ i := fun e => this (by rw [e])
    simpa using fun e : (a : Int) = (i : Int) => h9 (by (first | lia | omega))
  · intro y hy
    obtain ⟨m, hm, rfl⟩ := List.getElem_of_mem (Array.mem_toList_iff.mpr hy)
    obtain ⟨a, t, e1, e2⟩ := ints_natAt hi (m := m) (by simpa using hm)
    have e3 : vs.toArray.toList[m] = .int (a : Nat) t := by simpa using e2
    rw [e3]
    exact SeqAt.EqAt.int_int _ _ _ _
end
end Mine
end

section
-- SetR
example : True := by w_top off; trivial
open PySem PySem.W PyProof.Rows PySem.Calls PySem.Spec
set_option maxRecDepth 100000
namespace Mine
section
variable {prog : Program} {w : World} {A : Around} {E : Value → Shared → Prop} {s : Shared}
theorem wpAny_choose {src : Source} {n : Nat} {Q : Nat → Shared → Prop} (hn : n ≠ 0) (h : ∀ i d', i < n → Q i { s with drawn := d' }) : wpAny (model prog w) A (choose src n) Q E s := fun Γ p _ => by
  show Sem.wp _ _ (.choose src n .pure) _ _ _ _
  rw [Sem.wp_choose]
  exact ⟨hn, h _ _ (Nat.mod_lt _ (Nat.pos_of_ne_zero hn))⟩
theorem erase_perm {α : Type} : ∀ {l : List α} {i : Nat} (h : i < l.length), (l[i] :: l.eraseIdx i).Perm l
  | x :: l, 0, _ => List.Perm.refl _
  | x :: l, i + 1, h => by
    simp only [List.getElem_cons_succ, List.eraseIdx_cons_succ]
    exact (List.Perm.swap _ _ _).trans ((erase_perm (Nat.lt_of_succ_lt_succ h)).cons x)
/-- an order that the world draws -/
theorem wpAny_drawOrder {α : Type} : ∀ (n : Nat) (xs : List α) (s : Shared) (Q : List α → Shared → Prop), xs.length ≤ n → (∀ l d', l.Perm xs → Q l { s with drawn := d' }) → wpAny (model prog w) A (drawOrder n xs) Q E s
  | 0, xs, s, Q, hn, h => by
    obtain rfl : xs = [] := List.length_eq_zero_iff.mp (Nat.le_zero.mp hn)
    exact wpAny_pure (h [] s.drawn .nil)
  | n + 1, [], s, Q, hn, h => wpAny_pure (h [] s.drawn .nil)
  | n + 1, x :: xs, s, Q, hn, h => by
    unfold drawOrder
    refine wpAny_bind (wpAny_choose (by simp) fun i d' hi => ?_)
    rw [List.getElem?_eq_getElem hi]
    dsimp only
    refine wpAny_bind (wpAny_drawOrder n _ _ _ (by rw [List.length_eraseIdx_of_lt hi]; simp at hn ⊢; (first | lia | omega)) fun l d'' hl => wpAny_pure (h _ d'' ?_))
    refine (hl.cons _).trans ?_
    exact (erase_perm hi)
theorem pickOrder_go {α : Type} (next : Nat → Nat) : ∀ (fuel k : Nat) (left : List α) (out : Array α), left.length ≤ fuel → (pickOrder.go next fuel k left out).toList.Perm (out.toList ++ left)
  | 0, k, left, out, h => by
    obtain rfl : left = [] := List.length_eq_zero_iff.mp (Nat.le_zero.mp h)
    simp [pickOrder.go]
  | fuel + 1, k, left, out, h => by
    unfold pickOrder.go
    cases left with
    | nil => simp
    | cons x xs =>
      have hi : next k % (x :: xs).length < (x :: xs).length := Nat.mod_lt _ (by simp)
      rw [List.getElem?_eq_getElem hi]
      dsimp only
      refine (pickOrder_go next fuel (k + 1) _ _ (by rw [List.length_eraseIdx_of_lt hi]; simp at h ⊢; (first | lia | omega))).trans ?_
      rw [Array.toList_push, List.append_assoc]
      exact List.Perm.append_left _ (erase_perm hi)
theorem pickOrder_perm {α : Type} (next : Nat → Nat) (xs : Array α) : (pickOrder next xs).toList.Perm xs.toList := by
  have := pickOrder_go next xs.size 0 xs.toList #[] (by simp)
  simpa [pickOrder] using this
theorem orStandIn_led (t : SetTable) (n : Nat) : (t.orStandIn n).led = t.led := by
  unfold SetTable.orStandIn
  split <;> rfl
theorem layNew_led (t : SetTable) (es : Array (Int × Value)) (h : Int) (x : Value) : (layNew t es h x).2.1.led = t.led := by
  unfold layNew
  split
  · exact orStandIn_led _ _
  · rfl
theorem relayAll_led (t : SetTable) (es : Array (Int × Value)) (n : Nat) : (relayAll t es n).2.1.led = t.led := by
  unfold relayAll
  split
  · rename_i t' order e
    dsimp only
    split
    · unfold SetTable.relaid SetTable.laid at e
      simp only [Option.bind_eq_bind, Option.bind_eq_some_iff] at e
      obtain ⟨_, _, e⟩ := e
      cases e
      rfl
    · rfl
  · rfl
theorem relayAll_plain (t : SetTable) (es : Array (Int × Value)) (n : Nat) (h : t.plain = false) : (relayAll t es n).2.1.plain = false := by
  unfold relayAll
  split
  · rename_i t' order e
    dsimp only
    split
    · unfold SetTable.relaid SetTable.laid at e
      simp only [Option.bind_eq_bind, Option.bind_eq_some_iff] at e
      obtain ⟨_, _, e⟩ := e
      cases e
      exact h
    · rfl
  · rfl
end
noncomputable def one (c : Nat) : Str := ⟨#[c]⟩
theorem one_inj {a b : Nat} (h : one a = one b) : a = b := by
  unfold one at h
  simpa using h
/-- a set of signs lies in the heap -/
inductive SgAt (prog : Program) (w : World) (h : Heap) (a : Addr) (l : List Nat) : Prop
  | mk (o : Obj) (es : Array (Int × Value)) (ep : Nat) (t : SetTable) (ho : h.get? a = some o) (hex : o.ExactSet) (hd : o.data = .set es ep t) (hel : ElemsOf (PySem.strKind prog w) es.toList) (hs : StrsAre (es.toList.map (·.2)) (l.map one)) (hnd : l.Nodup) (hf : t.fits es.size = true) (hled : t.led = !(w.params.followText "set-order")) (hpl : 0 < es.size → t.plain = false)
theorem strs_at : ∀ {vs : List Value} {ns : List Str}, StrsAre vs ns → ∀ {i : Nat} {v : Value}, vs[i]? = some v → ∃ x t, v = .str x t ∧ ns[i]? = some x
  | _, _, .nil, i, v, e => by simp at e
  | _, _, .cons x t r, 0, v, e => by simp at e; exact ⟨x, t, e.symm, rfl⟩
  | _, _, .cons x t r, i + 1, v, e => by simpa using strs_at r (by simpa using e)
theorem strs_mem : ∀ {vs : List Value} {ss : List Str} {v : Value}, StrsAre vs ss → v ∈ vs → ∃ x t, v = .str x t ∧ x ∈ ss
  | _, _, v, .cons x t r, h => by
    rcases List.mem_cons.mp h with rfl | h
    · exact ⟨x, t, rfl, .head _⟩
    · obtain ⟨y, u, e, hy⟩ := strs_mem r h
      exact ⟨y, u, e, .tail _ hy⟩
theorem strs_has : ∀ {vs : List Value} {ss : List Str} {x : Str}, StrsAre vs ss → x ∈ ss → ∃ t, Value.str x t ∈ vs
  | _, _, x, .cons y t r, h => by
    rcases List.mem_cons.mp h with rfl | h
    · exact ⟨t, .head _⟩
    · obtain ⟨u, hu⟩ := strs_has r h
      exact ⟨u, .tail _ hu⟩
/-- values that are told by a list of strings in another order -/
theorem strs_perm {vs vs' : List Value} {ss : List Str} (p : vs'.Perm vs) (h : StrsAre vs ss) : ∃ ss', ss'.Perm ss ∧ StrsAre vs' ss' := by
  induction p generalizing ss with
  | nil => exact ⟨ss, .refl _, h⟩
  | trans p q ih1 ih2 =>
    obtain ⟨s1, p1, h1⟩ := ih2 h
    obtain ⟨s2, p2, h2⟩ := ih1 h1
    exact ⟨s2, p2.trans p1, h2⟩
  | cons x p ih =>
    cases h with
    | cons y t r =>
      obtain ⟨s1, p1, h1⟩ := ih r
      exact ⟨y :: s1, p1.cons y, .cons y t h1⟩
  | swap x y l =>
    cases h with
    | cons a t r => cases r with
      | cons b u r => exact ⟨b :: a :: _, .swap _ _ _, .cons b u (.cons a t r)⟩
theorem ones_of {ss : List Str} {l : List Nat} (p : ss.Perm (l.map one)) : ∃ l' : List Nat, l'.Perm l ∧ ss = l'.map one := by
  refine ⟨ss.map fun x => x.cps.toList.headD 0, ?_, ?_⟩
  · have := p.map fun x => x.cps.toList.headD 0
    rw [List.map_map] at this
    refine this.trans (.of_eq ?_)
    have e : ((fun x : Str => x.cps.toList.headD 0) ∘ one) = id := by funext c; rfl
    rw [e, List.map_id]
  · rw [List.map_map]
    have : ∀ x ∈ ss, (one ∘ fun x : Str => x.cps.toList.headD 0) x = x := fun x hx => by
      obtain ⟨c, _, rfl⟩ := List.mem_map.mp (p.mem_iff.mp hx)
      rfl
    conv => lhs; rw [← List.map_id ss]
    exact (List.map_congr_left this).symm
section
variable {prog : Program} {w : World} {A : Around} {E : Value → Shared → Prop} {s : Shared}
theorem is_one (c : Nat) (t : Tok) : (PySem.strKind prog w).is (one c) (.str (one c) t) = true := by
  simp [PySem.strKind, Value.isStrOf]
theorem SgAt.typeIs {h : Heap} {g : Array GenState} {d : Drawn} {tk : Nat} {os : OsState} {a : Addr} {l : List Nat} (H : SgAt prog w h a l) : (⟨h, g, d, tk, os⟩ : Shared).TypeIs (.ref a) "set" := by
  obtain ⟨o, es, ep, t, ho, hex, _⟩ := H
  exact ⟨o, ho, hex.1⟩
theorem SgAt.keep {h h' : Heap} {a : Addr} {l : List Nat} (H : SgAt prog w h a l) (k : ∀ o, h.get? a = some o → h'.get? a = some o) : SgAt prog w h' a l := by
  obtain ⟨o, es, ep, t, ho, r1, r2, r3, r4, r5, r6, r7, r8⟩ := H
  exact ⟨o, es, ep, t, k _ ho, r1, r2, r3, r4, r5, r6, r7, r8⟩
theorem sg_store {h : Heap} {a : Addr} {o : Obj} {es : Array (Int × Value)} {ep : Nat} {t : SetTable} (ho : h.get? a = some o) (hex : o.ExactSet) (hd : o.data = .set es ep t) {es' : Array (Int × Value)} {t' : SetTable} {l : List Nat}
    (hel : ElemsOf (PySem.strKind prog w) es'.toList) (hs : StrsAre (es'.toList.map (·.2)) (l.map one)) (hnd : l.Nodup) (hf : t'.fits es'.size = true) (hled : t'.led = !(w.params.followText "set-order")) (hpl : t'.plain = false) :
    (h.update a (Obj.putSet es' t')).get? a = some { o with data := .set es' (ep + 1) t' } ∧ SgAt prog w (h.update a (Obj.putSet es' t')) a l := by
  have hg : (h.update a (Obj.putSet es' t')).get? a = some { o with data := .set es' (ep + 1) t' } := by
    have := Heap.get?_update_self (Obj.putSet es' t') ho (by rw [putSet_of es' t' hd]; rfl)
    rwa [putSet_of es' t' hd] at this
  exact ⟨hg, _, es', ep + 1, t', hg, hex, rfl, hel, hs, hnd, hf, hled, fun _ => hpl⟩
theorem sg_size {es : Array (Int × Value)} {l : List Nat} (hs : StrsAre (es.toList.map (·.2)) (l.map one)) : es.size = l.length := by
  have := hs.length
  simpa using this
theorem sg_tail {g : Bool → Sem Unit} (hg : ∀ (b : Bool) (s₁ : Shared) (Q' : Unit → Shared → Prop), Q' () s₁ → wpAny (model prog w) A (g b) Q' E s₁)
    {a : Addr} {o : Obj} {es : Array (Int × Value)} {ep : Nat} {t : SetTable} (ho : s.heap.get? a = some o) (hex : o.ExactSet) (hd : o.data = .set es ep t)
    {es1 : Array (Int × Value)} {t2 : SetTable} {l1 : List Nat} (hel1 : ElemsOf (PySem.strKind prog w) es1.toList) (hs1 : StrsAre (es1.toList.map (·.2)) (l1.map one)) (hnd1 : l1.Nodup)
    (hb1 : l1.length ≤ 100) (hf2 : t2.fits es1.size = true) (hled : t2.led = !(w.params.followText "set-order")) (hpl : t2.plain = false) {wasDummy : Bool} {R : Option Bool → Shared → Prop}
    (h : ∀ h' l', Heap.SameBut a s.heap h' → SgAt prog w h' a l' → l'.Perm l1 → R (some true) { s with heap := h' }) :
    wpAny (model prog w) A (do
        storeSet a es1 t2
        if (!wasDummy && t2.tooFull) = true then do
            g (relayAll t2 es1 (SetTable.grown es1.size)).2.2
            storeSet a (relayAll t2 es1 (SetTable.grown es1.size)).1 (relayAll t2 es1 (SetTable.grown es1.size)).2.1
            pure (some true)
          else pure (some true)) R E s := by
  have hz := sg_size hs1
  refine wpAny_bind (wpAny_storeSet_of ho hd ?_ (by rw [hz, sizeLine_eq]; (first | lia | omega)))
  obtain ⟨ho1, hS1⟩ := sg_store (prog := prog) (w := w) ho hex hd hel1 hs1 hnd1 hf2 hled hpl
  have hsb1 := Heap.SameBut.update s.heap a (Obj.putSet es1 t2)
  split
  · have hp := relayAll_perm t2 es1 (SetTable.grown es1.size)
    have hfr := relayAll_fits t2 es1 (SetTable.grown es1.size)
    have hl2 := relayAll_led t2 es1 (SetTable.grown es1.size)
    have hp3 := relayAll_plain t2 es1 (SetTable.grown es1.size) hpl
    generalize relayAll t2 es1 (SetTable.grown es1.size) = Rl at hp hfr hl2 hp3 ⊢
    obtain ⟨es2, t3, gave2⟩ := Rl
    dsimp only at hp hfr hl2 hp3 ⊢
    obtain ⟨ss2, hp2, hs2⟩ := strs_perm (hp.map (·.2)) hs1
    obtain ⟨l2, hpl2, rfl⟩ := ones_of hp2
    have hz2 := sg_size hs2
    refine wpAny_bind (hg _ _ _ ?_)
    refine wpAny_bind (wpAny_storeSet_of ho1 rfl ?_ (by rw [hz2, hpl2.length_eq, sizeLine_eq]; (first | lia | omega)))
    obtain ⟨_, hS2⟩ := sg_store (prog := prog) (w := w) ho1 hex rfl (hel1.perm hp) hs2 (hpl2.nodup_iff.mpr hnd1) hfr (hl2.trans hled) hp3
    exact wpAny_pure (h _ _ (hsb1.trans (Heap.SameBut.update _ a _)) hS2 hpl2)
  · exact wpAny_pure (h _ _ hsb1 hS1 (.refl _))
/-- a sign is put into the set -/
theorem sg_add {a : Addr} {c : Nat} {tc : Tok} {l : List Nat} {Q : Value → Shared → Prop} (H : SgAt prog w s.heap a l) (hl : l.length ≤ 50)
    (h : ∀ h' l', Heap.SameBut a s.heap h' → SgAt prog w h' a l' → (∀ x, x ∈ l' ↔ x ∈ l ∨ x = c) → l'.length ≤ l.length + 1 → Q .none { s with heap := h', toks := s.toks + 1 }) :
    wpAny (model prog w) A (call (.builtin "set.add") [.ref a, .str (one c) tc]) Q E s := by
  have hkey : (PySem.strKind prog w).is (one c) (.str (one c) tc) = true := is_one _ _
  have hsc : (Value.str (one c) tc).scannable = true := rfl
  refine wpAny_call_entry F.slot_set_add H.typeIs F.entry_set_add ?_ (F.args_set_add_2 _ _)
  unfold Builtin.«set.add» Builtin.Frozenset.oneOther
  simp only [List.isEmpty_nil, bind_assoc]
  unfold Builtin.Frozenset.addrOf setAdd
  refine wpAny_bind (wpAny_pure ?_)
  try dsimp only
  refine wpAny_bind (wpAny_pure ?_)
  try dsimp only
  refine wpAny_bind ?_
  refine wpAny_holding ?_
  refine wpAny_bind ((PySem.strKind prog w).pyHash hkey ?_)
  suffices hadd : wpAny (model prog w) A.in1 (setAddHashed a (.str (one c) tc) ((PySem.strKind prog w).hash (one c))) (fun _ s' => ∃ h' l', s' = { s with heap := h', toks := s.toks + 1 } ∧ Heap.SameBut a s.heap h' ∧ SgAt prog w h' a l' ∧ (∀ x, x ∈ l' ↔ x ∈ l ∨ x = c) ∧ l'.length ≤ l.length + 1) E { s with toks := s.toks + 1 } by
    refine wpAny_mono hadd ?_ fun _ _ e => e
    rintro _ _ ⟨h', l', rfl, h1, h2, h3, h4⟩
    exact wpAny_pure ⟨_, rfl, h h' l' h1 h2 h3 h4⟩
  obtain ⟨o, es, ep, t, ho, hex, hd, hel, hs, hnd, hf, hled, hpl0⟩ := H
  have hsz := sg_size hs
  have hb : es.size < scanBound := Nat.lt_of_le_of_lt (by (first | lia | omega)) (by decide : 50 < scanBound)
  unfold setAddHashed setAddHashedIn
  refine wpAny_holding (wpAny_bind (wpAny_setState_of ho hd hf ?_))
  dsimp only
  rw [byScan_of hsc hb hel]
  simp only [↓reduceIte]
  unfold setAddByScan
  refine wpAny_bind ?_
  refine wpAny_bind (wpAny_rule ?_)
  refine wpAny_bind (wpAny_setScan_of hkey ho hd hf hel ?_)
  cases hr : List.findIdx? (fun e => (PySem.strKind prog w).is (one c) e.2) es.toList with
  | some j =>
    dsimp only
    obtain ⟨hj, hpj, _⟩ := List.findIdx?_eq_some_iff_getElem.mp hr
    have hin : c ∈ l := by
      obtain ⟨x, t2, e, hx⟩ := strs_mem hs (List.mem_map_of_mem (List.getElem_mem hj))
      obtain ⟨c', hc', rfl⟩ := List.mem_map.mp hx
      rw [e] at hpj
      have : one c' = one c := by
        have := (PySem.strKind prog w).inj (Value.str (one c') t2) (one c') (one c) (is_one _ _) hpj
        exact this
      rw [← one_inj this]; exact hc'
    refine wpAny_pure (wpAny_pure ?_)
    exact ⟨s.heap, l, rfl, Heap.SameBut.refl a s.heap, ⟨o, es, ep, t, ho, hex, hd, hel, hs, hnd, hf, hled, hpl0⟩, fun x => ⟨.inl, fun q => q.elim id fun e => e ▸ hin⟩, Nat.le_succ _⟩
  | none =>
    dsimp only
    have hout : c ∉ l := fun hc => by
      obtain ⟨t2, ht2⟩ := strs_has hs (List.mem_map_of_mem hc)
      obtain ⟨e, he, e2⟩ := List.mem_map.mp ht2
      have := List.findIdx?_eq_none_iff.mp hr e he
      rw [e2] at this
      exact absurd ((is_one (prog := prog) (w := w) c t2).symm.trans this) (by decide)
    have hgw : ∀ (b : Bool) (s₁ : Shared) (Q' : Unit → Shared → Prop), Q' () s₁ → wpAny (model prog w) A.in1 (match b with | true => rule "set.scan.the-table-gave-way" | false => pure ()) Q' E s₁ :=
      fun b s₁ Q' hq => by cases b <;> first | exact wpAny_pure hq | exact wpAny_rule hq
    have hperm := layNew_perm t es ((PySem.strKind prog w).hash (one c)) (.str (one c) tc)
    have hfits := layNew_fits t es ((PySem.strKind prog w).hash (one c)) (.str (one c) tc)
    have hl1 := layNew_led t es ((PySem.strKind prog w).hash (one c)) (.str (one c) tc)
    generalize hL : layNew t es ((PySem.strKind prog w).hash (one c)) (.str (one c) tc) = L at hperm hfits hl1 ⊢
    obtain ⟨es1, t1, wasDummy, gave⟩ := L
    dsimp only at hperm hfits hl1 ⊢
    rw [Array.toList_push] at hperm
    have hel1 := (hel.push hkey hsc).perm hperm
    obtain ⟨ss1, hp1, hs1⟩ := strs_perm (hperm.map (·.2)) (by
      rw [List.map_append]
      exact hs.append' (.cons (one c) tc .nil))
    rw [show l.map one ++ [one c] = (l ++ [c]).map one by simp] at hp1
    obtain ⟨l1, hpl, rfl⟩ := ones_of hp1
    have hnd1 : l1.Nodup := hpl.nodup_iff.mpr (List.nodup_append.mpr ⟨hnd, (by simp), fun x hx y hy e => hout (by rw [List.mem_singleton.mp hy] at e; exact e ▸ hx)⟩)
    have hend : ∀ h' l', Heap.SameBut a s.heap h' → SgAt prog w h' a l' → l'.Perm l1 → ∃ h'' l'', ({ s with heap := h', toks := s.toks + 1 } : Shared) = { s with heap := h'', toks := s.toks + 1 } ∧ Heap.SameBut a s.heap h'' ∧ SgAt prog w h'' a l'' ∧ (∀ x, x ∈ l'' ↔ x ∈ l ∨ x = c) ∧ l''.length ≤ l.length + 1 := fun h' l' h1 h2 h3 =>
      ⟨h', l', rfl, h1, h2, fun x => by rw [(h3.trans hpl).mem_iff]; simp, by rw [(h3.trans hpl).length_eq]; simp⟩
    refine wpAny_bind (hgw _ _ _ ?_)
    split
    · rename_i hp1
      refine wpAny_bind ?_
      rw [hashByValue_scannable 8 hsc]
      refine wpAny_pure ?_
      refine sg_tail (s := { s with toks := s.toks + 1 }) ?_ ho hex hd hel1 hs1 hnd1 (by rw [hpl.length_eq]; simp; (first | lia | omega)) ?_ ?_ (by rfl) ?_
      · intro b s₁ Q' hq; cases b <;> first | exact wpAny_pure hq | exact wpAny_rule hq
      · split
        · exact hfits
        · exact SetTable.fits_plain_off hfits
      · split
        · exact hl1.trans hled
        · exact hl1.trans hled
      · intro h' l' h1 h2 h3; dsimp only; exact wpAny_pure (hend h' l' h1 h2 h3)
    · rename_i hp1
      refine wpAny_bind (wpAny_pure ?_)
      simp only [↓reduceIte]
      refine sg_tail (s := { s with toks := s.toks + 1 }) ?_ ho hex hd hel1 hs1 hnd1 (by rw [hpl.length_eq]; simp; (first | lia | omega)) hfits (hl1.trans hled) (by simpa using hp1) ?_
      · intro b s₁ Q' hq; cases b <;> first | exact wpAny_pure hq | exact wpAny_rule hq
      intro h' l' h1 h2 h3; dsimp only; exact wpAny_pure (hend h' l' h1 h2 h3)
end
end Mine
end

section
-- SetC
example : True := by w_top off; trivial
open PySem PySem.W PyProof.Rows PySem.Calls PySem.Spec
set_option maxRecDepth 100000
namespace Mine
section
variable {prog : Program} {w : World} {A : Around} {E : Value → Shared → Prop} {env : Env} {R : Result → Shared → Prop} {s : Shared}
theorem eval_SetComp (elt gens scope pos) : eval (.SetComp elt gens scope pos) env = comprehension (.SetComp elt gens scope pos) scope env (firstIterPos gens pos) (newSet (.type "set")) (firstAsync gens) (firstIter gens env) := rfl
theorem compTurn_set1 (elt target iter : Expr) (scope : Scope) (pos : Pos) (it acc : Value) (env : Env) :
    compTurn (.SetComp elt [⟨target, iter, [], 0⟩] scope pos) 0 it acc env = (standAt iter.pos >>= fun _ => pyNext it >>= fun r => match r with
      | none => pure (.done .next)
      | some v => letOwnedTupleGo target it v >>= fun _ => assign target env v >>= fun _ =>
        (eval elt env >>= fun x => standAt elt.pos >>= fun _ => call (.builtin "set.add") [acc, x] >>= fun _ => pure ()) >>= fun _ =>
          again (.compLoop (.SetComp elt [⟨target, iter, [], 0⟩] scope pos) 0 it acc env)) := by rfl
theorem loopSet {elt target iter : Expr} {scope : Scope} {pos : Pos} {it acc : Value} (I : Nat → Shared → Prop)
    (turn : ∀ n s, I n s → wpAny (model prog w) A (pyNext it) (fun r s₁ => match r with
      | none => R (.ok .next) s₁
      | some v => wpAny (model prog w) A (assign target env v) (fun _ s₂ => wpAny (model prog w) A (eval elt env) (fun x s₃ =>
          wpAny (model prog w) A (call (.builtin "set.add") [acc, x]) (fun _ s₄ => ∃ m, m < n ∧ I m s₄) (notedBy (model prog w) A env fun e s' => R (.error e) s') s₃)
          (notedBy (model prog w) A env fun e s' => R (.error e) s') s₂) (notedBy (model prog w) A env fun e s' => R (.error e) s') s₁) (notedBy (model prog w) A env fun e s' => R (.error e) s') s)
    (n : Nat) (h : I n s) (ht : ∀ v, letOwnedTupleGo target it v = pure () := by intro _; rfl) :
    codeAny (model prog w) A (.compLoop (.SetComp elt [⟨target, iter, [], 0⟩] scope pos) 0 it acc env) R s := by
  refine codeAny_loop rfl I (fun n s hI => ?_) n h
  show wpAny _ _ ((compTurn (.SetComp elt [⟨target, iter, [], 0⟩] scope pos) 0 it acc env).onRaise (fun x => do noteFrame x env; theTreesLotGoes x)) _ _ s
  refine wpAny_noted ?_
  rw [compTurn_set1]
  refine wpAny_bind (wpAny_standAt (wpAny_bind (wpAny_mono (turn n s hI) (fun r s₁ h₁ => ?_) fun _ _ h' => h')))
  cases r with
  | none => exact wpAny_pure h₁
  | some v =>
    refine wpAny_bind (wpAny_of_eq (ht v) ?_)
    exact wpAny_bind (wpAny_mono h₁ (fun _ s₂ h₂ => wpAny_bind (wpAny_bind (wpAny_mono h₂ (fun x s₃ h₃ => wpAny_bind (wpAny_standAt (wpAny_bind (wpAny_mono h₃
      (fun _ s₄ h₄ => wpAny_pure (wpAny_pure ⟨rfl, h₄⟩)) fun _ _ h' => h')))) fun _ _ h' => h'))) fun _ _ h' => h')
theorem startSet {elt target iter ifs rest scope pos it acc}
    (h0 : codeAny (model prog w) A (.compLoop (.SetComp elt (⟨target, iter, ifs, 0⟩ :: rest) scope pos) 0 it acc env) R s)
    (h : wpAny (model prog w) A (pyIter it) (fun it' s' => codeAny (model prog w) A (.compLoop (.SetComp elt (⟨target, iter, ifs, 0⟩ :: rest) scope pos) 0 it' acc env) R s')
      (notedBy (model prog w) A env fun x s' => R (.error x) s') s) :
    codeAny (model prog w) A (.compStart (.SetComp elt (⟨target, iter, ifs, 0⟩ :: rest) scope pos) 0 it acc env) R s := by
  refine codeAny_of_tree ?_
  show wpAny _ _ ((compStart (.SetComp elt (⟨target, iter, ifs, 0⟩ :: rest) scope pos) 0 it acc env).onRaise (fun x => do noteFrame x env; standAt theWindowsPlace)) _ _ s
  refine wpAny_notedAt ?_
  unfold compStart
  show wpAny _ _ (ask >>= _) _ _ s
  refine wpAny_bind (wpAny_askSetting (wpAny_ite ?_))
  split
  · first
      | exact wpAny_bind (wpAny_pure (wpAny_pure (And.intro rfl h0)))
      | exact wpAny_pure (And.intro rfl h0)
  · first
      | exact wpAny_bind (wpAny_rule (wpAny_bind (wpAny_standAt (wpAny_bind (wpAny_mono h (fun it' s' h' => wpAny_pure (And.intro rfl h')) fun _ _ x => x)))))
      | (refine wpAny_bind (wpAny_rule ?_); show wpAny _ _ (standAt iter.pos >>= _) _ _ s; exact wpAny_bind (wpAny_standAt (wpAny_bind (wpAny_mono h (fun it' s' h' => wpAny_pure (And.intro rfl h')) fun _ _ x => x))))
theorem sg_new {Q : Value → Shared → Prop} (h : ∀ t : SetTable, SgAt prog w (s.heap.push { cls := .type "set", dict := none, data := .set #[] 0 t }) s.heap.objs.size [] → Q (.ref s.heap.objs.size) { s with heap := s.heap.push { cls := .type "set", dict := none, data := .set #[] 0 t } }) :
    wpAny (model prog w) A (newSet (.type "set")) Q E s := by
  unfold newSet setsByText
  refine wpAny_bind (wpAny_bind (wpAny_askSetting (wpAny_pure ?_)))
  dsimp only
  simp only [newObj]
  exact wpAny_bind (wpAny_alloc (wpAny_pure (h _ ⟨_, #[], 0, _, Heap.get?_push_size _ rfl, ⟨rfl, rfl, rfl⟩, rfl, (fun e he => by simp at he), .nil, List.nodup_nil, by rfl, rfl, fun h => absurd h (Nat.lt_irrefl _)⟩)))
/-- what is asked of a set of signs made from rows -/
inductive ScPack (prog : Program) (w : World) (A : Around) (env : Env) (elt : Expr) (x : Str) (scope : Scope) (cl : List (Str × Addr)) (f : Str → Nat) (Q : Value → Shared → Prop) (xv : Value) (s₁ : Shared) : Prop
  | mk (l : Addr) (vs : List Value) (rs : List Str) (e : xv = .ref l) (hl : s₁.heap.IsList l vs.toArray) (hi : StrsAre vs rs) (hn : rs.length ≤ 20)
    (leaf : ∀ C y ty s₃ m₃ E', s₁.heap.objs.size ≤ C → y ∈ rs → s₃.heap.Ns C m₃ → m₃ x = some (.str y ty) → (∀ b o, s₁.heap.get? b = some o → s₃.heap.get? b = some o) → wpAny (model prog w) A (eval elt (compEnvC scope cl C env)) (fun v s₄ => (∃ t, v = .str (one (f y)) t) ∧ Keeps s₃ s₄) E' s₃)
    (hQ : ∀ S l' h' tk, s₁.heap.get? S = none → SgAt prog w h' S l' → (∀ c, c ∈ l' ↔ ∃ y ∈ rs, f y = c) → l'.length ≤ rs.length → (∀ b o, s₁.heap.get? b = some o → h'.get? b = some o) → Q (.ref S) { s₁ with heap := h', toks := tk })
/-- what holds between its turns -/
inductive ScInv (prog : Program) (w : World) (s₁ : Shared) (rs : List Str) (f : Str → Nat) (l I S C : Addr) (vs : List Value) (k : Nat) (s' : Shared) : Prop
  | mk (i : Nat) (h : Heap) (tk : Nat) (m : Str → Option Value) (l' : List Nat) (e : s' = { s₁ with heap := h, toks := tk }) (ek : k = vs.length + 1 - i) (hi : i ≤ vs.length) (st : h.IsListIter I l i ∧ h.IsList l vs.toArray) (sg : SgAt prog w h S l') (hmem : ∀ c, c ∈ l' ↔ ∃ y ∈ rs.take i, f y = c) (hlen : l'.length ≤ i) (ns : h.Ns C m) (hk : ∀ b o, s₁.heap.get? b = some o → h.get? b = some o)
theorem set_comp {elt iter : Expr} {x : Str} {px : Pos} {scope : Scope} {cl : List (Str × Addr)} {pos : Pos} {Q : Value → Shared → Prop} (f : Str → Nat)
    (hh : A.handled = none) (hclos : closureFor scope env = pure cl) (hcell : ∀ z ∈ scope.names, z.2 ≠ .cell) (hkind : scope.kind = .function)
    (hnames : ∀ z ∈ scope.names, z.2 = .local → scope.names.lookup z.1 = some .local) (hx : scope.names.lookup x = some .local)
    (h : wpAny (model prog w) A (eval iter env) (ScPack prog w A env elt x scope cl f Q) E s)
    (hs1 : ∀ x, foldedSetIterable iter env x = pure x) (hp0 : ∀ C, ((compEnvC scope cl C env).scope.kind == .class || ((compEnvC scope cl C env).scope.kind == .module && (compEnvC scope cl C env).locals != (compEnvC scope cl C env).globals)) = false) :
    wpAny (model prog w) A (eval (.SetComp elt [⟨.Name x px, iter, [], 0⟩] scope pos) env) Q E s := by
  rw [eval_SetComp]
  refine wpAny_comprehension_free (use := none) rfl hs1 hclos hkind hnames (wpAny_mono h (fun xv s₁ h₁ => ?_) fun _ _ e => e)
  obtain ⟨l, vs, rs, rfl, hl, hi, hn, leaf, hQ⟩ := h₁
  have hvl := hi.length
  refine wpAny_pyIter_list hl ?_
  refine sg_new fun t hsg => ?_
  refine (wpAny_newFunctionEnv hcell (by intro y hy; simp at hy) (fun h₁ hns₁ hsb₁ => ?_) hkind)
  dsimp only at hns₁ hsb₁ hsg ⊢
  generalize hH1 : s₁.heap.push { cls := .type "list_iterator", data := .fields #[.ref l, .int 0 0] } = H1 at hns₁ hsb₁ hsg ⊢
  have z1 : H1.objs.size = s₁.heap.objs.size + 1 := by rw [← hH1, Heap.size_push]
  generalize hH2 : H1.push { cls := .type "set", dict := none, data := .set #[] 0 t } = H2 at hns₁ hsb₁ hsg ⊢
  have z2 : H2.objs.size = s₁.heap.objs.size + 2 := by rw [← hH2, Heap.size_push, z1]
  have hgI : H2.get? s₁.heap.objs.size = some { cls := .type "list_iterator", data := .fields #[.ref l, .int 0 0] } := by
    rw [← hH2]
    refine Heap.get?_push_of_some _ ?_
    rw [← hH1]
    exact Heap.get?_push_size _ rfl
  have up2 : ∀ b o, s₁.heap.get? b = some o → H2.get? b = some o := fun b o e => by
    rw [← hH2]
    refine Heap.get?_push_of_some _ ?_
    rw [← hH1]
    exact Heap.get?_push_of_some _ e
  have hlt : ∀ b o, s₁.heap.get? b = some o → b < s₁.heap.objs.size := fun b o e => Heap.lt_size e
  have hSn : s₁.heap.get? H1.objs.size = none := by
    cases e : s₁.heap.get? H1.objs.size with
    | none => rfl
    | some o => exact absurd (hlt _ _ e) (by rw [z1]; exact Nat.not_lt.mpr (Nat.le_succ _))
  generalize hIe : s₁.heap.objs.size = I at z1 z2 hgI hlt ⊢
  generalize hSe : H1.objs.size = S at z1 hSn hsg ⊢
  generalize hCe : H2.objs.size = C at z2 hns₁ hsb₁ ⊢
  have hSC : S ≠ C := by (first | lia | omega)
  have hIC : I ≠ C := by (first | lia | omega)
  have hIS : I ≠ S := by (first | lia | omega)
  have below : ∀ b o, s₁.heap.get? b = some o → b ≠ I ∧ b ≠ S ∧ b ≠ C := fun b o e => by
    have := hlt b o e
    exact ⟨Nat.ne_of_lt this, Nat.ne_of_lt (by rw [z1]; exact Nat.lt_succ_of_lt this), Nat.ne_of_lt (by rw [z2]; exact Nat.lt_succ_of_lt (Nat.lt_succ_of_lt this))⟩
  have hkx : (compEnvC scope cl C env).kindOf x = some .local := lookup_relabel_local hx
  obtain ⟨ol, hol, hcl⟩ := id hl
  have W := Walks.list (prog := prog) (w := w) (A := A) hh I l (below _ _ hol).1 vs.toArray
  have loop : ∀ s₃ : Shared, s₃ = { s₁ with heap := h₁, toks := s₁.toks + ([] : List (Str × Value)).length } →
      codeAny (model prog w) A (.compLoop (.SetComp elt [⟨.Name x px, iter, [], 0⟩] scope pos) 0 (.ref I) (.ref S) (compEnvC scope cl C env)) (compPost (model prog w) A E none Q (.ref S) C) s₃ := by
    rintro s₃ rfl
    refine loopSet (ScInv prog w s₁ rs f l I S C vs) ?_ (vs.length + 1)
      ⟨0, h₁, _, _, [], rfl, rfl, Nat.zero_le _, ⟨⟨_, hsb₁.extBut _ _ hIC (Heap.get?_push_of_some _ hgI), rfl, rfl⟩, ⟨ol, hsb₁.extBut _ _ (below _ _ hol).2.2 (Heap.get?_push_of_some _ (up2 _ _ hol)), hcl⟩⟩, hsg.keep (fun o e => hsb₁.extBut _ _ hSC (Heap.get?_push_of_some _ e)), (fun c => by simp), Nat.le_refl _, hns₁, fun b o e => hsb₁.extBut _ _ (below _ _ e).2.2 (Heap.get?_push_of_some _ (up2 _ _ e))⟩
    rintro k s' ⟨i, h2, tk2, m2, l', rfl, rfl, hil, hst, hsg2, hmem, hlen, hns, hk⟩
    by_cases hlt2 : i < vs.length
    · refine W.item i _ _ _ (by simpa using hlt2) hst fun v h3 tk3 hP hst3 hk3 => ?_
      replace hk3 : ∀ b o, b ≠ I → h2.get? b = some o → h3.get? b = some o := fun b o hb e => hk3 b o (by simp [hb]) e
      obtain ⟨y, ty, rfl, hy⟩ : ∃ y ty, v = .str y ty ∧ rs[i]? = some y := by
        have hv : vs[i]? = some v := by simpa using hP
        clear hst hst3 hk3 hP hk hns hsg2 hmem
        exact strs_at hi hv
      refine wpAny_assign_Name (wpAny_storeName_local hkx (hns.at' fun o e => hk3 _ o (Ne.symm hIC) e) (fun h4 hn4 hs4 => ?_) (hp0 C))
      have k4 : ∀ b o, s₁.heap.get? b = some o → h4.get? b = some o := fun b o e => hs4.extBut b o (below b o e).2.2 (hk3 b o (below b o e).1 (hk b o e))
      have st4 : h4.IsListIter I l (i + 1) ∧ h4.IsList l vs.toArray := W.frame _ _ _ hst3 fun b hb o e => by
        refine hs4.extBut b o ?_ e
        rintro rfl
        rcases List.mem_cons.mp hb with q | q
        · exact hIC q.symm
        · exact (below _ _ hol).2.2 (List.mem_singleton.mp q).symm
      have sg4 : SgAt prog w h4 S l' := hsg2.keep fun o e => hs4.extBut _ _ hSC (hk3 _ _ (Ne.symm hIS) e)
      have hyr : y ∈ rs := List.mem_of_getElem? hy
      refine wpAny_mono (leaf C y ty _ _ _ (by (first | lia | omega)) hyr hn4 (by simp) k4) (fun v s5 h5 => ?_) fun _ _ e => e
      obtain ⟨⟨tv, rfl⟩, H5, tk5, rfl, hk5⟩ := h5
      refine sg_add (sg4.keep fun o e => hk5 _ _ e) (by (first | lia | omega)) fun H6 l6 hs6 hsg6 hm6 hl6 => ?_
      have htk : rs.take (i + 1) = rs.take i ++ [y] := by rw [List.take_add_one, hy]; rfl
      refine ⟨vs.length + 1 - (i + 1), by (first | lia | omega), i + 1, H6, _, _, l6, rfl, rfl, hlt2, ?_, hsg6, fun c => ?_, by (first | lia | omega), (hn4.keeps hk5).sameBut hs6 (Ne.symm hSC), fun b o e => hs6.extBut _ _ (below b o e).2.1 (hk5 _ _ (k4 b o e))⟩
      · refine W.frame _ _ _ st4 fun b hb o e => ?_
        refine hs6.extBut b o ?_ (hk5 _ _ e)
        rintro rfl
        rcases List.mem_cons.mp hb with q | q
        · exact hIS q.symm
        · exact (below _ _ hol).2.1 (List.mem_singleton.mp q).symm
      · rw [hm6, hmem, htk]
        constructor
        · rintro (⟨y', hy', e⟩ | rfl)
          · exact ⟨y', List.mem_append_left _ hy', e⟩
          · exact ⟨y, List.mem_append_right _ (.head _), rfl⟩
        · rintro ⟨y', hy', e⟩
          rcases List.mem_append.mp hy' with hy' | hy'
          · exact .inl ⟨y', hy', e⟩
          · rw [List.mem_singleton.mp hy'] at e; exact .inr e.symm
    · obtain rfl : i = vs.length := by (first | lia | omega)
      refine W.done _ _ _ (by simpa using hst) fun h3 tk3 hk3 => ?_
      replace hk3 : ∀ b o, b ≠ I → h2.get? b = some o → h3.get? b = some o := fun b o hb e => hk3 b o (by simp [hb]) e
      rw [hvl, List.take_length] at hmem
      exact ⟨m2, hns.at' fun o e => hk3 _ _ (Ne.symm hIC) e, fun h' hs' => hQ S l' h' tk3 hSn ((hsg2.keep fun o e => hk3 _ _ (Ne.symm hIS) e).keep fun o e => hs'.extBut _ _ hSC e) hmem (by (first | lia | omega)) fun b o e => hs'.extBut b o (below b o e).2.2 (hk3 b o (below b o e).1 (hk b o e))⟩
  exact startSet (loop _ rfl) (W.self 0 _ _ _ (by
    exact ⟨⟨_, hsb₁.extBut _ _ hIC (Heap.get?_push_of_some _ hgI), rfl, rfl⟩, ⟨ol, hsb₁.extBut _ _ (below _ _ hol).2.2 (Heap.get?_push_of_some _ (up2 _ _ hol)), hcl⟩⟩) (loop _ rfl))
end
end Mine
end

section
-- SetI
example : True := by w_top off; trivial
open PySem PySem.W PyProof.Rows PySem.Calls PySem.Spec
set_option maxRecDepth 100000
namespace Mine
theorem slot_setiter_next : Slot "set_iterator" "__next__" "set_iterator.__next__" :=
  .of (owner := "set_iterator") (n := "__next__") (by rw [typeLookup_type, builtinLookup_eq_fast]; kernel_rfl) (by decide +kernel) (by decide +kernel) (by decide +kernel)
    (by first | exact .inl (by decide +kernel) | exact .inr (by decide +kernel)) (by rw [isSubtype_type]; kernel_rfl)
theorem slot_setiter_iter : Slot "set_iterator" "__iter__" "set_iterator.__iter__" :=
  .of (owner := "set_iterator") (n := "__iter__") (by rw [typeLookup_type, builtinLookup_eq_fast]; kernel_rfl) (by decide +kernel) (by decide +kernel) (by decide +kernel)
    (by first | exact .inl (by decide +kernel) | exact .inr (by decide +kernel)) (by rw [isSubtype_type]; kernel_rfl)
theorem entry_setiter_next : entryFor table "set_iterator.__next__" = some Builtin.«set_iterator.__next__» := entryFor_of_fast (by kernel_rfl)
theorem entry_setiter_iter : entryFor table "set_iterator.__iter__" = some Builtin.«dict_keyiterator.__iter__» :=
  entryFor_alias (id' := "dict_keyiterator.__iter__") (by kernel_rfl) rfl (by decide +kernel) (by kernel_rfl)
theorem args_setiter_next (a : Value) : argsOk "set_iterator.__next__" ⟨[a], []⟩ := by unfold argsOk; kernel_rfl
theorem args_setiter_iter (a : Value) : argsOk "set_iterator.__iter__" ⟨[a], []⟩ := by unfold argsOk; kernel_rfl
theorem entry_set_iter : entryFor table "set.__iter__" = some Builtin.«frozenset.__iter__» :=
  entryFor_alias (id' := "frozenset.__iter__") (by kernel_rfl) rfl (by decide +kernel) (by kernel_rfl)
/-- an iterator over a set -/
noncomputable abbrev itObj (f : Value) (S : Addr) (i n ep : Nat) : Obj := { cls := .type "set_iterator", dict := none, data := .fields #[f, .int i 0, .ref S, .int n 0, .int ep 0], slots := #[] }
section
variable {prog : Program} {w : World} {A : Around} {E : Value → Shared → Prop} {s : Shared} {I S : Addr} {i n ep ep' : Nat} {o : Obj} {es : Array (Int × Value)} {t : SetTable}
theorem sn_int {slot : Int} {u : Tok} {x : Value} {nx : Nat} {Q : Option Value → Shared → Prop} (hI : s.heap.get? I = some (itObj (.int slot u) S i n ep)) (hS : s.heap.get? S = some o) (hd : o.data = .set es ep' t) (hf : t.fits es.size = true) (hn : es.size = n)
    (hnx : ∀ (A : Around) (Q : Option (Value × Nat) → Shared → Prop) (E : Value → Shared → Prop), Q (some (x, nx)) s → wpAny (model prog w) A (setNext S slot.toNat i ep) Q E s)
    (hQ : ∀ h', h'.get? I = some (itObj (rawInt nx) S (i + 1) n ep) → Heap.SameBut I s.heap h' → Q (some x) { s with heap := h' }) : wpAny (model prog w) A (pyNext (.ref I)) Q E s := by
  unfold pyNext
  refine wpAny_bind (wpAny_attempt (wpAny_callSpecial?_slot (name := Str.ofString "__next__") ⟨_, hI, rfl⟩ slot_setiter_next
    (wpAny_call_entry slot_setiter_next ⟨_, hI, rfl⟩ entry_setiter_next ?_ (args_setiter_next _))))
  show wpAny _ _ (fieldsOf (.ref I) >>= _) _ _ s
  refine wpAny_bind (wpAny_fieldsOf hI rfl ?_)
  dsimp only
  refine wpAny_bind (wpAny_setEntries_of hS hd hf ?_)
  rw [if_neg (by simp [hn])]
  rw [Int.toNat_natCast, Int.toNat_natCast]
  refine wpAny_bind (hnx _ _ _ ?_)
  dsimp only
  refine wpAny_bind (wpAny_setField_rec hI (by simp) fun h1 hI1 hs1 => ?_)
  refine wpAny_bind (wpAny_setField_rec hI1 (by simp) fun h2 hI2 hs2 => ?_)
  refine wpAny_pure ⟨x, rfl, wpAny_pure (hQ h2 ?_ (hs1.trans hs2))⟩
  rw [hI2]
  rfl
theorem sn_raise {s : Shared} {Q : Option Value → Shared → Prop} (hh : A.handled = none) (hQ : ∀ h', (∀ b o, s.heap.get? b = some o → h'.get? b = some o) → Q none { s with heap := h' }) :
    wpAny (model prog w) A.in1 (do raiseNew (← newExc (.type "StopIteration") []) : Sem Fin) (fun _ _ => False) (fun e s' => wpAny (model prog w) A (do if ← isInstance e (.type "StopIteration") then pure none else throw e) Q E s') s := by
  show wpAny _ _ (newExc (.type "StopIteration") [] >>= _) _ _ _
  refine wpAny_bind ?_
  simp only [newExc, newTuple]
  refine wpAny_bind (wpAny_newObj_type ?_ (by size_fits))
  refine wpAny_bind (m := firstArgMember _ _) (wpAny_of_eq (a := Value.none) (by first | rfl | (simp only [firstArgMember]; rfl)) ?_)
  refine wpAny_newObj_type ?_ (by size_fits)
  simp only [raiseNew]
  refine wpAny_bind (wpAny_handled ?_)
  rw [show A.in1.handled = none from hh]
  refine wpAny_bind (wpAny_pure (wpAny_throw ?_))
  refine wpAny_bind (wpAny_isInstance (T := "StopIteration") (b := true) ⟨_, Heap.get?_push_size _ rfl, rfl⟩ isSubtype_stop ?_)
  exact wpAny_pure (hQ _ fun b o e => Heap.get?_push_of_some _ (Heap.get?_push_of_some _ e))
theorem sn_int_end {slot : Int} {u : Tok} {Q : Option Value → Shared → Prop} (hh : A.handled = none) (hI : s.heap.get? I = some (itObj (.int slot u) S i n ep)) (hS : s.heap.get? S = some o) (hd : o.data = .set es ep' t) (hf : t.fits es.size = true) (hn : es.size = n)
    (hnx : ∀ (A : Around) (Q : Option (Value × Nat) → Shared → Prop) (E : Value → Shared → Prop), Q none s → wpAny (model prog w) A (setNext S slot.toNat i ep) Q E s)
    (hQ : ∀ h', Heap.ExtBut I s.heap h' → Q none { s with heap := h' }) : wpAny (model prog w) A (pyNext (.ref I)) Q E s := by
  unfold pyNext
  refine wpAny_bind (wpAny_attempt (wpAny_callSpecial?_slot (name := Str.ofString "__next__") ⟨_, hI, rfl⟩ slot_setiter_next
    (wpAny_call_entry slot_setiter_next ⟨_, hI, rfl⟩ entry_setiter_next ?_ (args_setiter_next _))))
  show wpAny _ _ (fieldsOf (.ref I) >>= _) _ _ s
  refine wpAny_bind (wpAny_fieldsOf hI rfl ?_)
  dsimp only
  refine wpAny_bind (wpAny_setEntries_of hS hd hf ?_)
  rw [if_neg (by simp [hn])]
  rw [Int.toNat_natCast, Int.toNat_natCast]
  refine wpAny_bind (hnx _ _ _ ?_)
  dsimp only
  refine wpAny_bind (wpAny_setField_rec hI (by simp) fun h1 hI1 hs1 => ?_)
  refine wpAny_mono (sn_raise (A := A) (E := E) (Q := Q) hh fun h' hk => hQ h' fun b o hb e => hk b o (hs1.extBut b o hb e)) (fun _ _ f => f.elim) fun e s' x => ?_
  exact x
theorem sn_ref {T : Addr} {places : Array Value} {place : Nat} {u : Tok} {hx : Int} {x : Value} {Q : Option Value → Shared → Prop} (hI : s.heap.get? I = some (itObj (.ref T) S i n ep)) (hS : s.heap.get? S = some o) (hd : o.data = .set es ep t) (hf : t.fits es.size = true) (hn : es.size = n)
    (hT : s.heap.IsTuple T places) (hp : places[i]? = some (.int place u)) (he : es[place]? = some (hx, x))
    (hQ : ∀ h', h'.get? I = some (itObj (.ref T) S (i + 1) n ep) → Heap.SameBut I s.heap h' → Q (some x) { s with heap := h' }) : wpAny (model prog w) A (pyNext (.ref I)) Q E s := by
  obtain ⟨oT, hoT, hcT, kT, hdT⟩ := hT
  unfold pyNext
  refine wpAny_bind (wpAny_attempt (wpAny_callSpecial?_slot (name := Str.ofString "__next__") ⟨_, hI, rfl⟩ slot_setiter_next
    (wpAny_call_entry slot_setiter_next ⟨_, hI, rfl⟩ entry_setiter_next ?_ (args_setiter_next _))))
  show wpAny _ _ (fieldsOf (.ref I) >>= _) _ _ s
  refine wpAny_bind (wpAny_fieldsOf hI rfl ?_)
  dsimp only
  refine wpAny_bind (wpAny_setEntries_of hS hd hf ?_)
  rw [if_neg (by simp [hn])]
  refine wpAny_bind (wpAny_seqItems hoT hdT ?_)
  dsimp only
  rw [Int.toNat_natCast, hp]
  dsimp only
  refine wpAny_bind ?_
  rw [Int.toNat_natCast, Int.toNat_natCast]
  unfold setNextDrawn
  refine wpAny_bind (wpAny_setState_of hS hd hf ?_)
  dsimp only
  rw [if_neg (by simp)]
  rw [he]
  dsimp only
  refine wpAny_pure ?_
  refine wpAny_bind (wpAny_setField_rec hI (by simp) fun h1 hI1 hs1 => ?_)
  refine wpAny_pure ⟨x, rfl, wpAny_pure (hQ h1 ?_ hs1)⟩
  rw [hI1]
  rfl
theorem sn_ref_end {T : Addr} {places : Array Value} {Q : Option Value → Shared → Prop} (hh : A.handled = none) (hI : s.heap.get? I = some (itObj (.ref T) S i n ep)) (hS : s.heap.get? S = some o) (hd : o.data = .set es ep' t) (hf : t.fits es.size = true) (hn : es.size = n)
    (hT : s.heap.IsTuple T places) (hp : places[i]? = none) (hQ : ∀ h', Heap.ExtBut I s.heap h' → Q none { s with heap := h' }) : wpAny (model prog w) A (pyNext (.ref I)) Q E s := by
  obtain ⟨oT, hoT, hcT, kT, hdT⟩ := hT
  unfold pyNext
  refine wpAny_bind (wpAny_attempt (wpAny_callSpecial?_slot (name := Str.ofString "__next__") ⟨_, hI, rfl⟩ slot_setiter_next
    (wpAny_call_entry slot_setiter_next ⟨_, hI, rfl⟩ entry_setiter_next ?_ (args_setiter_next _))))
  show wpAny _ _ (fieldsOf (.ref I) >>= _) _ _ s
  refine wpAny_bind (wpAny_fieldsOf hI rfl ?_)
  dsimp only
  refine wpAny_bind (wpAny_setEntries_of hS hd hf ?_)
  rw [if_neg (by simp [hn])]
  refine wpAny_bind (wpAny_seqItems hoT hdT ?_)
  dsimp only
  rw [Int.toNat_natCast, hp]
  dsimp only
  refine wpAny_bind (wpAny_setField_rec hI (by simp) fun h1 hI1 hs1 => ?_)
  refine wpAny_bind (wpAny_setField_rec hI1 (by simp) fun h2 hI2 hs2 => ?_)
  refine wpAny_mono (sn_raise (A := A) (E := E) (Q := Q) hh fun h' hk => hQ h' fun b o hb e => hk b o (hs2.extBut b o hb (hs1.extBut b o hb e))) (fun _ _ f => f.elim) fun e s' x => ?_
  exact x
end
end Mine
end

section
-- SetJ
example : True := by w_top off; trivial
open PySem PySem.W PyProof.Rows PySem.Calls PySem.Spec
set_option maxRecDepth 100000
namespace Mine
section
variable {prog : Program} {w : World} {A : Around} {E : Value → Shared → Prop} {s : Shared} {I S : Addr} {n ep : Nat} {o : Obj} {es : Array (Int × Value)} {t : SetTable}
theorem self_set {f : Value} {i : Nat} {Q : Value → Shared → Prop} (hI : s.heap.get? I = some (itObj f S i n ep)) (h : Q (.ref I) s) : wpAny (model prog w) A (pyIter (.ref I)) Q E s := by
  refine wpAny_pyIter_slot ⟨_, hI, rfl⟩ slot_setiter_iter (wpAny_call_entry slot_setiter_iter ⟨_, hI, rfl⟩ entry_setiter_iter ?_ (args_setiter_iter _))
  show wpAny _ _ (ret (.ref I)) _ _ s
  exact wpAny_pure ⟨_, rfl, "set_iterator", _, ⟨_, hI, rfl⟩, slot_setiter_next.lookup, h⟩
theorem walks_int (hh : A.handled = none) (hIS : S ≠ I) (hd : o.data = .set es ep t) (hf : t.fits es.size = true) (hn : es.size = n) (vals : List Value) (hvl : vals.length = n) (sl : Nat → Nat)
    (hnx : ∀ i x (A : Around) (s : Shared) (Q : Option (Value × Nat) → Shared → Prop) (E : Value → Shared → Prop), vals[i]? = some x → s.heap.get? S = some o → Q (some (x, sl (i + 1))) s → wpAny (model prog w) A (setNext S (sl i) i ep) Q E s)
    (hend : ∀ (A : Around) (s : Shared) (Q : Option (Value × Nat) → Shared → Prop) (E : Value → Shared → Prop), s.heap.get? S = some o → Q none s → wpAny (model prog w) A (setNext S (sl n) n ep) Q E s) :
    Walks prog w A I [I, S] [I] n (fun i v => vals[i]? = some v) (fun i h => h.get? I = some (itObj (rawInt (sl i)) S i n ep) ∧ h.get? S = some o) where
  sub := fun b hb => by rw [List.mem_singleton.mp hb]; exact .head _
  frame := fun _ _ _ st hk => ⟨hk I (.head _) _ st.1, hk S (.tail _ (.head _)) _ st.2⟩
  item := fun i s Q E hi st hQ => by
    have hx : vals[i]? = some (vals[i]'(hvl ▸ hi)) := List.getElem?_eq_getElem _
    refine sn_int (x := vals[i]'(hvl ▸ hi)) (nx := sl (i + 1)) st.1 st.2 hd hf hn (fun A Q E q => ?_) fun h' hI' hs' => ?_
    · exact hnx i _ A s Q E hx st.2 q
    · exact hQ _ h' s.toks hx ⟨hI', (hs'.extBut _ _ hIS st.2)⟩ fun b o hb e => hs'.extBut b o (fun q => hb (by rw [q]; exact .head _)) e
  done := fun s Q E st hQ => sn_int_end hh st.1 st.2 hd hf hn (fun A Q E q => hend A s Q E st.2 q) fun h' he' => hQ h' s.toks fun b o hb e => he' b o (fun q => hb (by rw [q]; exact .head _)) e
  self := fun i s Q E st hQ => self_set st.1 hQ
theorem walks_ref (hh : A.handled = none) (hIS : S ≠ I) {T : Addr} (hIT : T ≠ I) (hd : o.data = .set es ep t) (hf : t.fits es.size = true) (hn : es.size = n) (p : List Nat) (hp : p.Perm (List.range n)) :
    Walks prog w A I [I, S, T] [I] n (fun i v => (p.map fun j => (es.getD j (0, Value.none)).2)[i]? = some v) (fun i h => h.get? I = some (itObj (.ref T) S i n ep) ∧ h.get? S = some o ∧ h.IsTuple T (p.map fun i : Nat => rawInt i).toArray) where
  sub := fun b hb => by rw [List.mem_singleton.mp hb]; exact .head _
  frame := fun _ _ _ st hk => ⟨hk I (.head _) _ st.1, hk S (.tail _ (.head _)) _ st.2.1, st.2.2.at fun o e => hk T (.tail _ (.tail _ (.head _))) _ e⟩
  item := fun i s Q E hi st hQ => by
    have hpl : p.length = n := by rw [hp.length_eq, List.length_range]
    have hi' : i < p.length := hpl ▸ hi
    have hlt : p[i] < es.size := by rw [hn]; exact List.mem_range.mp (hp.mem_iff.mp (List.getElem_mem hi'))
    refine sn_ref (places := (p.map fun i : Nat => rawInt i).toArray) (place := p[i]) (u := 0) (hx := es[p[i]].1) (x := es[p[i]].2) st.1 st.2.1 hd hf hn st.2.2 (by simp [hi', rawInt]) (by rw [Array.getElem?_eq_getElem hlt]) fun h' hI' hs' => ?_
    refine hQ _ h' s.toks ?_ ⟨hI', hs'.extBut _ _ hIS st.2.1, st.2.2.extBut hs'.extBut hIT⟩ fun b o hb e => hs'.extBut b o (fun q => hb (by rw [q]; exact .head _)) e
    rw [List.getElem?_map, List.getElem?_eq_getElem hi']
    simp [Array.getD, hlt]
  done := fun s Q E st hQ => by
    have hpl : p.length = n := by rw [hp.length_eq, List.length_range]
    exact sn_ref_end hh st.1 st.2.1 hd hf hn st.2.2 (by simp [hpl]) fun h' he' => hQ h' s.toks fun b o hb e => he' b o (fun q => hb (by rw [q]; exact .head _)) e
  self := fun i s Q E st hQ => self_set st.1 hQ
theorem byText_ask {b : Bool} {Q : Bool → Shared → Prop} (hb : w.params.followText "set-order" = b) (h : Q b s) : wpAny (model prog w) A setsByText Q E s := by
  unfold setsByText
  exact wpAny_bind (wpAny_askSetting (wpAny_pure (by rw [← hb] at h; exact h)))
theorem next_by (hb : w.params.followText "set-order" = true) (hd : o.data = .set es ep t) (hf : t.fits es.size = true) {i : Nat} (hS : s.heap.get? S = some o) {Q : Option (Value × Nat) → Shared → Prop}
    (h : Q (((pickOrder (w.params.setOrder S ep) es)[i]?).map fun e => (e.2, 0)) s) : wpAny (model prog w) A (setNext S 0 i ep) Q E s := by
  unfold setNext
  refine wpAny_bind (wpAny_setState_of hS hd hf ?_)
  dsimp only
  refine wpAny_bind (byText_ask hb ?_)
  rw [if_pos rfl, if_neg (by simp)]
  refine wpAny_bind ?_
  unfold setWalk
  refine wpAny_bind (wpAny_setState_of hS hd hf ?_)
  dsimp only
  refine wpAny_bind (byText_ask hb ?_)
  rw [if_pos rfl]
  refine wpAny_bind (wpAny_askSetting (wpAny_pure (wpAny_pure h)))
theorem next_small (hb : w.params.followText "set-order" = false) (hd : o.data = .set es ep t) (hf : t.fits es.size = true) (h1 : es.size ≤ 1) (hled : t.led = true) {sl i : Nat} (hS : s.heap.get? S = some o) {Q : Option (Value × Nat) → Shared → Prop}
    (h : Q (match es[SetTable.below t.place sl]?, t.place[SetTable.below t.place sl]? with | some (_, x), some j => some (x, j + 1) | _, _ => none) s) : wpAny (model prog w) A (setNext S sl i ep) Q E s := by
  unfold setNext
  refine wpAny_bind (wpAny_setState_of hS hd hf ?_)
  dsimp only
  refine wpAny_bind (byText_ask hb ?_)
  rw [if_neg (by decide)]
  have e1 : (!t.plain && decide (es.size > 1)) = false := by rw [show decide (es.size > 1) = false by simp; (first | lia | omega)]; simp
  show wpAny _ _ (if (!t.plain && decide (es.size > 1)) = true then _ else _) _ _ _
  rw [e1, if_neg (by decide)]
  show wpAny _ _ ((if (!t.led && !es.isEmpty) = true then _ else pure ()) >>= _) _ _ _
  rw [hled]
  exact wpAny_bind (wpAny_pure (wpAny_pure h))
theorem drawn_ask {b : Bool} (hb : w.params.followText "set-order" = b) (hS : s.heap.get? S = some o) (hd : o.data = .set es ep t) (hf : t.fits es.size = true) {Q : Bool → Shared → Prop} (h : Q (!b && (!t.plain && decide (es.size > 1))) s) :
    wpAny (model prog w) A (setDrawn S) Q E s := by
  unfold setDrawn
  refine wpAny_bind (wpAny_setState_of hS hd hf ?_)
  dsimp only
  exact wpAny_bind (byText_ask hb (wpAny_pure h))
/-- what an iterator over a set of signs brings -/
inductive SgIter (prog : Program) (w : World) (s : Shared) (S : Addr) (l : List Nat) (I : Addr) (h1 : Heap) : Prop
  | mk (f : Value) (n ep : Nat) (fp : List Addr) (St : Nat → Heap → Prop) (vals : List Value) (l' : List Nat) (hk : ∀ b o, s.heap.get? b = some o → h1.get? b = some o) (W : ∀ A' : Around, A'.handled = none → Walks prog w A' I fp [I] vals.length (fun i v => vals[i]? = some v) St) (st : St 0 h1)
    (hI : h1.get? I = some (itObj f S 0 n ep)) (hfp : ∀ b ∈ fp, b = S ∨ s.heap.get? b = none) (hIf : I ∈ fp) (hp : l'.Perm l) (hv : StrsAre vals (l'.map one))
theorem fresh_none {h : Heap} {b : Addr} (hb : h.objs.size ≤ b) : h.get? b = none := by
  cases e : h.get? b with
  | none => rfl
  | some o => exact absurd (Heap.lt_size e) (Nat.not_lt.mpr hb)
theorem below_one (p j : Nat) : SetTable.below #[p] j = if p < j then 1 else 0 := by
  unfold SetTable.below
  simp [SetTable.below.go]
theorem nexts_end {w' : List Value} {l : List Nat} (h : StrsAre w' (l.map one)) {v : List Value} (p : v.Perm w') : ∃ l' : List Nat, l'.Perm l ∧ StrsAre v (l'.map one) := by
  obtain ⟨ss, hp, hs⟩ := strs_perm p h
  obtain ⟨l', hl, rfl⟩ := ones_of hp
  exact ⟨l', hl, hs⟩
theorem set_wrap {l : List Nat} {Q : Value → Shared → Prop} {h0 : Heap} {d0 : Drawn} {f : Value} (hS : h0.get? S = some o) (hd : o.data = .set es ep t) (hf : t.fits es.size = true) (hsz : es.size = n) (hb : n < 1000)
    (hk0 : ∀ b o, s.heap.get? b = some o → h0.get? b = some o)
    (hW : ∀ I h1, h1.get? I = some (itObj f S 0 n ep) → S ≠ I → s.heap.get? I = none → (∀ b o, h0.get? b = some o → h1.get? b = some o) → SgIter prog w s S l I h1)
    (hQ : ∀ I h1 d', SgIter prog w s S l I h1 → Q (.ref I) { s with heap := h1, drawn := d' }) :
    wpAny (model prog w) A (do
          let e ← setEpoch S
          let v ← newFields "set_iterator" [f, rawInt 0, Value.ref S, rawInt (es.size : Int), rawInt (e : Int)]
          ret v) (fun fin s' => ∃ v, fin = Fin.done (Flow.ret v) ∧ ∃ T' r, s'.TypeIs v T' ∧ typeLookup (Value.type T') (Str.ofString "__next__") = pure (some r) ∧ Q v s') E { s with heap := h0, drawn := d0 } := by
  refine wpAny_bind (wpAny_setEpoch_of hS hd hf ?_)
  refine wpAny_bind ?_
  unfold newFields
  have hne : S ≠ h0.objs.size := fun e => absurd (Heap.lt_size hS) (by rw [e]; exact Nat.lt_irrefl _)
  have hnone : s.heap.get? h0.objs.size = none := by
    cases e : s.heap.get? h0.objs.size with
    | none => rfl
    | some o' => exact absurd (Heap.lt_size (hk0 _ _ e)) (Nat.lt_irrefl _)
  refine wpAny_newObj_type ?_ (by size_fits)
  refine wpAny_pure ⟨_, rfl, "set_iterator", _, ⟨_, Heap.get?_push_size _ rfl, rfl⟩, slot_setiter_next.lookup, ?_⟩
  refine hQ h0.objs.size _ d0 (hW _ _ ?_ hne hnone fun b o e => Heap.get?_push_of_some _ e)
  rw [hsz]
  exact Heap.get?_push_size _ rfl
theorem set_iter {l : List Nat} {Q : Value → Shared → Prop} (H : SgAt prog w s.heap S l) (hlb : l.length ≤ 50)
    (hQ : ∀ I h1 d', SgIter prog w s S l I h1 → Q (.ref I) { s with heap := h1, drawn := d' }) : wpAny (model prog w) A (pyIter (.ref S)) Q E s := by
  obtain ⟨o, es, ep, t, ho, hex, hd, hel, hs, hnd, hf, hled, hpl⟩ := H
  have hsz := sg_size hs
  refine wpAny_pyIter_slot ⟨o, ho, hex.1⟩ F.slot_set_iter (wpAny_call_entry F.slot_set_iter ⟨o, ho, hex.1⟩ entry_set_iter ?_ (F.args_set_iter_1 _))
  unfold Builtin.«frozenset.__iter__» Builtin.Frozenset.slot0 slotArgs
  simp only [List.isEmpty_nil, Bool.not_true, Bool.false_eq_true, ↓reduceIte, bind_assoc, List.length_nil, bne_self_eq_false]
  unfold Builtin.Frozenset.addrOf Builtin.Frozenset.sizeOf
  refine wpAny_bind (wpAny_pure ?_)
  try dsimp only
  refine wpAny_bind (wpAny_pure ?_)
  refine wpAny_bind (wpAny_bind (wpAny_setEntries_of ho hd hf (wpAny_pure ?_)))
  cases hb : w.params.followText "set-order" with
  | true =>
    refine wpAny_bind (drawn_ask hb ho hd hf ?_)
    rw [show (!true && (!t.plain && decide (es.size > 1))) = false from rfl, if_neg (by decide)]
    refine wpAny_bind (wpAny_pure ?_)
    refine set_wrap (n := es.size) (l := l) (d0 := s.drawn) ho hd hf rfl (by (first | lia | omega)) (fun _ _ e => e) (fun I h1 hI hSI hIn hk => ?_) hQ
    have hp := pickOrder_perm (w.params.setOrder S ep) es
    have hlen : (pickOrder (w.params.setOrder S ep) es).size = es.size := by have := hp.length_eq; simpa using this
    obtain ⟨l', hl', hv⟩ := nexts_end hs (hp.map (·.2))
    have hvl : ((pickOrder (w.params.setOrder S ep) es).toList.map (·.2)).length = es.size := by simp [hlen]
    refine ⟨rawInt 0, es.size, ep, [I, S], fun i h => h.get? I = some (itObj (rawInt ((0 : Nat) : Int)) S i es.size ep) ∧ h.get? S = some o, (pickOrder (w.params.setOrder S ep) es).toList.map (·.2), l', hk, fun A' hh => ?_, ⟨hI, hk _ _ ho⟩, hI, ?_, .head _, hl', hv⟩
    · rw [hvl]
      refine walks_int hh hSI hd hf rfl _ hvl (fun _ => 0) (fun i x A s Q E hx hS hq => ?_) (fun A s Q E hS hq => ?_)
      · refine next_by hb hd hf hS ?_
        rw [List.getElem?_map, Array.getElem?_toList] at hx
        cases he : (pickOrder (w.params.setOrder S ep) es)[i]? with
        | none => rw [he] at hx; simp at hx
        | some e => rw [he] at hx; simp at hx; rw [hx.symm] at hq; simpa using hq
      · refine next_by hb hd hf hS ?_
        rw [Array.getElem?_eq_none (by rw [hlen]; exact Nat.le_refl _)]
        exact hq
    · intro b hb'
      rcases List.mem_cons.mp hb' with rfl | hb'
      · exact .inr hIn
      · exact .inl (List.mem_singleton.mp hb')
  | false =>
    refine wpAny_bind (drawn_ask hb ho hd hf ?_)
    by_cases h1 : es.size ≤ 1
    · rw [show (!false && (!t.plain && decide (es.size > 1))) = false by rw [show decide (es.size > 1) = false by simp; (first | lia | omega)]; simp, if_neg (by decide)]
      refine wpAny_bind (wpAny_pure ?_)
      refine set_wrap (n := es.size) (l := l) (d0 := s.drawn) ho hd hf rfl (by (first | lia | omega)) (fun _ _ e => e) (fun I h1' hI hSI hIn hk => ?_) hQ
      rw [hb] at hled
      have hled' : t.led = true := hled
      have hvl : (es.toList.map (·.2)).length = es.size := by simp
      refine ⟨rawInt 0, es.size, ep, [I, S], fun i h => h.get? I = some (itObj (rawInt ((if i = 0 then 0 else t.place.getD 0 0 + 1 : Nat) : Int)) S i es.size ep) ∧ h.get? S = some o, es.toList.map (·.2), l, hk, fun A' hh => ?_, ⟨hI, hk _ _ ho⟩, hI, ?_, .head _, .refl _, hs⟩
      · rw [hvl]
        refine walks_int hh hSI hd hf rfl _ hvl (fun i => if i = 0 then 0 else t.place.getD 0 0 + 1) (fun i x A s Q E hx hS hq => ?_) (fun A s Q E hS hq => ?_)
        · refine next_small hb hd hf h1 hled' hS ?_
          have hi : i < es.size := by
            have := (List.getElem?_eq_some_iff.mp hx).1
            simpa using this
          obtain rfl : i = 0 := by (first | lia | omega)
          have hps : t.place.size = es.size := by
            simp only [SetTable.fits, Bool.and_eq_true, beq_iff_eq, decide_eq_true_eq] at hf
            exact hf.1
          obtain ⟨p, hp⟩ : ∃ p, t.place = #[p] := Array.size_eq_one_iff.mp (by (first | lia | omega))
          obtain ⟨e, he⟩ : ∃ e, es = #[e] := Array.size_eq_one_iff.mp (by (first | lia | omega))
          subst he
          rw [hp] at hq ⊢
          simp at hx
          subst hx
          simpa [below_one] using hq
        · refine next_small hb hd hf h1 hled' hS ?_
          have hps : t.place.size = es.size := by
            simp only [SetTable.fits, Bool.and_eq_true, beq_iff_eq, decide_eq_true_eq] at hf
            exact hf.1
          by_cases hz : es.size = 0
          · obtain rfl : es = #[] := Array.size_eq_zero_iff.mp hz
            simpa using hq
          · obtain ⟨p, hp⟩ : ∃ p, t.place = #[p] := Array.size_eq_one_iff.mp (by (first | lia | omega))
            obtain ⟨e, he⟩ : ∃ e, es = #[e] := Array.size_eq_one_iff.mp (by (first | lia | omega))
            subst he
            rw [hp]
            simpa [below_one] using hq
      · intro b hb'
        rcases List.mem_cons.mp hb' with rfl | hb'
        · exact .inr hIn
        · exact .inl (List.mem_singleton.mp hb')
    · have hpl' := hpl (by (first | lia | omega))
      rw [show (!false && (!t.plain && decide (es.size > 1))) = true by rw [hpl', show decide (es.size > 1) = true by simp; (first | lia | omega)]; rfl, if_pos rfl]
      refine wpAny_bind (wpAny_drawOrder _ _ _ _ (by simp) fun p d' hp => ?_)
      refine wpAny_bind (wpAny_newTuple ?_ (by rw [List.length_map, hp.length_eq, List.length_range, sizeLine_eq]; (first | lia | omega)))
      refine set_wrap (s := s) (n := es.size) (l := l) (d0 := d') (Heap.get?_push_of_some _ ho) hd hf rfl (by (first | lia | omega)) (fun _ _ e => Heap.get?_push_of_some _ e) (fun I h1' hI hSI hIn hk => ?_) hQ
      have hT : h1'.IsTuple s.heap.objs.size (p.map fun i : Nat => rawInt i).toArray := ⟨_, hk _ _ (Heap.get?_push_size _ rfl), rfl, 0, rfl⟩
      have hTn : s.heap.get? s.heap.objs.size = none := fresh_none (Nat.le_refl _)
      have hIT : s.heap.objs.size ≠ I := fun e => by
        obtain ⟨oT, hoT, hcT, _⟩ := hT
        rw [e, hI] at hoT
        cases hoT
        simp at hcT
      have hvp : (p.map fun j => (es.getD j (0, Value.none)).2).Perm (es.toList.map (·.2)) := by
        refine (hp.map _).trans (.of_eq ?_)
        refine List.ext_getElem (by simp) fun i h1 h2 => ?_
        simp at h1 h2
        simp [Array.getD, h2]
      obtain ⟨l', hl', hv⟩ := nexts_end hs hvp
      have hvl : (p.map fun j => (es.getD j (0, Value.none)).2).length = es.size := by rw [List.length_map, hp.length_eq, List.length_range]
      refine ⟨.ref s.heap.objs.size, es.size, ep, [I, S, s.heap.objs.size], fun i h => h.get? I = some (itObj (.ref s.heap.objs.size) S i es.size ep) ∧ h.get? S = some o ∧ h.IsTuple s.heap.objs.size (p.map fun i : Nat => rawInt i).toArray, p.map fun j => (es.getD j (0, Value.none)).2, l', fun b o e => hk b o (Heap.get?_push_of_some _ e), fun A' hh => ?_, ⟨hI, hk _ _ (Heap.get?_push_of_some _ ho), hT⟩, hI, ?_, .head _, hl', hv⟩
      · rw [hvl]
        exact walks_ref hh hSI hIT hd hf rfl p hp
      · intro b hb'
        rcases List.mem_cons.mp hb' with rfl | hb'
        · exact .inr hIn
        · rcases List.mem_cons.mp hb' with rfl | hb'
          · exact .inl rfl
          · rw [List.mem_singleton.mp hb']; exact .inr hTn
end
end Mine
end

section
-- SetK
example : True := by w_top off; trivial
open PySem PySem.W PyProof.Rows PySem.Calls PySem.Spec
set_option maxRecDepth 100000
namespace Mine
theorem set_len_lookup : typeLookup (.type "set") "__len__" = pure (some (.builtin "set.__len__")) := by rw [typeLookup_type, builtinLookup_eq_fast]; kernel_rfl
section
variable {prog : Program} {w : World} {A : Around} {E : Value → Shared → Prop} {s : Shared} {S : Addr}
theorem set_hint {Q : Bool → Shared → Prop} (hT : s.TypeIs (.ref S) "set") (h : Q false s) : wpAny (model prog w) A (Builtin.List.listLengthHint (.ref S)) Q E s := by
  unfold Builtin.List.listLengthHint
  refine wpAny_bind (wpAny_specialOf hT set_len_lookup ?_)
  generalize hid : ("set.__len__" : String) = id0
  wp_delta
  rw [show splitId id0 = some ("set", "__len__") from by subst hid; decide +kernel]
  subst hid
  refine wpAny_bind (wpAny_isInstance (T := "set") (b := true) hT (by rw [isSubtype_type]; kernel_rfl) ?_)
  refine wpAny_ite_split (fun hab => absurd hab (by decide)) (fun _ => ?_)
  refine wpAny_ite_split (fun _ => ?_) (fun hab => absurd (by decide +kernel) hab)
  refine wpAny_bind (wpAny_typeOf hT ?_)
  exact wpAny_pure h
theorem items_eq {vals : List Value} {acc : Array Value} (h : ItemsOf (fun i v => vals[i]? = some v) acc vals.length) : acc.toList = vals := by
  refine List.ext_getElem? fun i => ?_
  by_cases hi : i < acc.size
  · have := h.2 i acc[i] (Array.getElem?_eq_getElem hi)
    rw [this, Array.getElem?_toList]
    exact Array.getElem?_eq_getElem hi
  · rw [List.getElem?_eq_none (by simpa using hi), List.getElem?_eq_none (by rw [← h.1]; (first | lia | omega))]
theorem set_extend {R : Result → Shared → Prop} {l : List Nat} (hh : A.handled = none) (H : SgAt prog w s.heap S l) (hlb : l.length ≤ 50) (D : Addr) (hDS : D ≠ S) (res : Value) (c₀ : Nat) (hD : s.heap.get? D = some { cls := .type "list", data := .seq #[] c₀ })
    (hR : ∀ h' d' tk (vs : List Value) (acc' : Array Value) c' (l' : List Nat), (∀ b o, b ≠ D → s.heap.get? b = some o → h'.get? b = some o) → h'.get? D = some { cls := .type "list", dict := none, data := .seq acc' c', slots := #[] } → acc'.toList = vs → l'.Perm l → StrsAre vs (l'.map one) →
      R (.ok (.ret res)) { s with heap := h', drawn := d', toks := tk }) :
    wpAny (model prog w) A.in1 (Builtin.List.listExtendWith (.ref D) (.ref S) res)
      (fun fin s' => match fin with | .done f => R (.ok f) s' | .again c' => c'.quiet = true ∧ codeAny (model prog w) A c' R s') (fun e s' => R (.error e) s') s := by
  unfold Builtin.List.listExtendWith
  refine wpAny_bind (wpAny_typeOf H.typeIs ?_)
  have h1 : Builtin.List.listSameRef (.ref D) (.ref S) = false := by simp [Builtin.List.listSameRef, hDS]
  simp only [h1, show ((Value.type "set") == Value.type "list") = false by decide, show ((Value.type "set") == Value.type "tuple") = false by decide, Bool.or_false, Bool.false_eq_true, if_false]
  refine wpAny_bind (set_iter H hlb fun I h1 d' SI => ?_)
  obtain ⟨f, n, ep, fp, St, vals, l', hk, W, st, hI, hfp, hIf, hp, hv⟩ := SI
  have hD1 := hk _ _ hD
  have hnI : s.heap.get? I = none := (hfp I hIf).elim (fun e => by
    obtain ⟨o, _, _, _, ho, hex, _⟩ := H
    have hI' := hI
    rw [e, hk _ _ ho] at hI'
    have hc := hex.1
    rw [Option.some.inj hI'] at hc
    simp at hc) id
  have hDf : D ∉ fp := fun hm => (hfp D hm).elim hDS fun e => by rw [hD] at e; cases e
  have hvl : vals.length = l.length := by rw [hv.length, List.length_map, hp.length_eq]
  refine wpAny_bind (wpAny_holding (set_hint (H.keep fun o e => hk _ o e).typeIs ?_))
  rw [if_pos (by decide +kernel)]
  refine wpAny_bind (wpAny_rule ?_)
  refine wpAny_bind ?_
  show wpAny _ _ (updateSeq D (·.push .none) >>= fun _ => updateSeq D (·.pop)) _ _ _
  refine wpAny_bind (wpAny_updateSeq hD1 rfl ?_)
  have hS₂ := Heap.get?_update_self (Obj.mapSeq (·.push Value.none)) hD1 rfl
  refine wpAny_updateSeq (hz := by seq_fits) hS₂ rfl ?_
  have hS₃ := Heap.get?_update_self (Obj.mapSeq (·.pop)) hS₂ rfl
  refine wpAny_pure ⟨plainId_quiet PySem.F.plain_extend_loop _, ?_⟩
  refine codeAny_extend_loopS (W A.in1 hh).toS (by rw [hvl, sizeLine_eq]; (first | lia | omega)) D hDf res vals.length 0 _ #[] _ rfl (Nat.zero_le _) ?_ hS₃ (ItemsOf.nil _) fun s' acc' c' hm hS' hacc => ?_
  · refine (W A.in1 hh).frame 0 _ _ st fun b hb o e => ?_
    have hbS : b ≠ D := fun h => hDf (h ▸ hb)
    exact (Heap.get?_update_other _ _ (Ne.symm hbS)).trans ((Heap.get?_update_other _ _ (Ne.symm hbS)).trans e)
  · rw [Moved.eq_with hm]
    refine hR s'.heap _ s'.toks vals acc' c' l' (fun b o hb e => ?_) hS' (items_eq hacc) hp hv
    refine hm.heap b o (fun hmem => ?_) ((Heap.get?_update_other _ _ (Ne.symm hb)).trans ((Heap.get?_update_other _ _ (Ne.symm hb)).trans (hk _ _ e)))
    rcases List.mem_cons.mp hmem with e' | hmem
    · exact hb e'
    · rw [List.mem_singleton.mp hmem, hnI] at e
      cases e
theorem set_collect {R : List Value → Shared → Prop} {l : List Nat} (hh : A.handled = none) (H : SgAt prog w s.heap S l) (hlb : l.length ≤ 50)
    (h : ∀ (h' : Heap) (d' : Drawn) (tk : Nat) (vs : List Value) (l' : List Nat), (∀ b o, s.heap.get? b = some o → h'.get? b = some o) → l'.Perm l → StrsAre vs (l'.map one) → R vs { s with heap := h', drawn := d', toks := tk }) :
    wpAny (model prog w) A (collect (.ref S)) R E s := by
  have hlt : S < s.heap.objs.size := by
    obtain ⟨o, _, _, _, ho, _⟩ := H
    exact Heap.lt_size ho
  unfold collect
  refine wpAny_bind (wpAny_runValue (codeAny_builtin entry_proto_collect' ?_))
  rw [Around.under_plainId PySem.F.plain_proto_collect _]
  show wpAny _ A.in1 (newList [] >>= fun l => again (.builtin "list.__iadd__" ⟨[l, .ref S], []⟩)) _ _ s
  refine wpAny_bind (wpAny_newObj_type ?_)
  refine wpAny_pure ⟨plainId_quiet PySem.F.plain_list_iadd _, codeAny_builtin entry_list_iadd' ?_⟩
  rw [Around.under_plainId PySem.F.plain_list_iadd _]
  have hS₁ : (s.heap.push { cls := .type "list", data := .seq ([] : List Value).toArray }).get? s.heap.objs.size = some { cls := .type "list", data := .seq #[] } := Heap.get?_push_size _ rfl
  show wpAny _ A.in1 (Builtin.List.listExtendWith (.ref s.heap.objs.size) (.ref S) (.ref s.heap.objs.size)) _ _ _
  have key := set_extend (A := A) (s := { s with heap := s.heap.push { cls := .type "list", data := .seq ([] : List Value).toArray } }) (l := l)
    (R := fun (q : Result) (s' : Shared) => ∃ (h' : Heap) (d' : Drawn) (tk : Nat) (acc' : Array Value) (c' : Nat) (l' : List Nat), q = .ok (.ret (.ref s.heap.objs.size)) ∧ s' = { s with heap := h', drawn := d', toks := tk } ∧
      (∀ b o, s.heap.get? b = some o → h'.get? b = some o) ∧ h'.get? s.heap.objs.size = some { cls := .type "list", dict := none, data := .seq acc' c', slots := #[] } ∧ l'.Perm l ∧ StrsAre acc'.toList (l'.map one))
    hh (H.keep fun o e => Heap.get?_push_of_some _ e) hlb s.heap.objs.size (Nat.ne_of_gt hlt) (.ref s.heap.objs.size) 0 hS₁
    (fun h' d' tk vs acc' c' l' hk hS' hacc hp hv => ⟨h', d', tk, acc', c', l', rfl, rfl, fun b o e => hk b o (Nat.ne_of_lt (Heap.lt_size e)) (Heap.get?_push_of_some _ e), hS', hp, hacc ▸ hv⟩)
  refine wpAny_mono key (fun fin s' x => ?_) fun e s' x => ?_
  · cases fin with
    | done f =>
      obtain ⟨h', d', tk, acc', c', l', e, rfl, hk, hS', hp, hv⟩ := x
      cases e
      show wpAny _ A (load s.heap.objs.size >>= _) _ _ _
      refine wpAny_bind (wpAny_load hS' ?_)
      exact wpAny_pure (h h' d' tk acc'.toList l' hk hp hv)
    | again c₁ =>
      refine ⟨x.1, codeAny_mono x.2 fun q s₂ y => ?_⟩
      obtain ⟨h', d', tk, acc', c', l', rfl, rfl, hk, hS', hp, hv⟩ := y
      show wpAny _ A (load s.heap.objs.size >>= _) _ _ _
      refine wpAny_bind (wpAny_load hS' ?_)
      exact wpAny_pure (h h' d' tk acc'.toList l' hk hp hv)
  · obtain ⟨_, _, _, _, _, _, e', _⟩ := x
    cases e'
end
end Mine
end

section
-- SetQ
example : True := by w_top off; trivial
open PySem PySem.W PyProof.Rows PySem.Calls PySem.Spec
set_option maxRecDepth 100000
namespace Mine
theorem rising_ones : ∀ (p : Nat) (l : List Nat), risingS (one p) (l.map one) = true → (∀ x ∈ l, p ≤ x) ∧ l.Pairwise (· ≤ ·)
  | p, [], _ => ⟨fun _ h => (nomatch h), .nil⟩
  | p, x :: l, h => by
    have h' : (!ltCps [x] [p] && risingS (one x) (l.map one)) = true := h
    rw [Bool.and_eq_true] at h'
    have hpx : p ≤ x := by
      have := h'.1
      simp [ltCps] at this
      (first | lia | omega)
    obtain ⟨i1, i2⟩ := rising_ones x l h'.2
    exact ⟨fun y hy => (List.mem_cons.mp hy).elim (fun e => e ▸ hpx) fun hy => Nat.le_trans hpx (i1 y hy), .cons i1 i2⟩
theorem sorted_ones : ∀ (l : List Nat), sortedS (l.map one) = true → l.Pairwise (· ≤ ·)
  | [], _ => .nil
  | x :: l, h => have h2 := rising_ones x l h; .cons h2.1 h2.2
theorem strict_rev {l : List Nat} (h : l.Pairwise (· ≤ ·)) (hn : l.Nodup) : l.reverse.Pairwise fun a b => b < a := by
  rw [List.pairwise_reverse]
  exact (h.and hn).imp fun {a b} ⟨h1, h2⟩ => by (first | lia | omega)
theorem strs_reverse : ∀ {vs : List Value} {ss : List Str}, StrsAre vs ss → StrsAre vs.reverse ss.reverse
  | _, _, .nil => .nil
  | _, _, .cons x t h => by
    rw [List.reverse_cons, List.reverse_cons]
    exact (strs_reverse h).append' (.cons x t .nil)
section
variable {prog : Program} {w : World} {A : Around} {E : Value → Shared → Prop} {s : Shared}
theorem sort_strs_rev {a : Addr} {vs : List Value} {l : List Nat} {n : Nat} {P : Fin → Shared → Prop} (ho : s.heap.get? a = some (seqObj "list" vs.toArray n))
    (hI : StrsAre vs (l.map one)) (hnd : l.Nodup) (h64 : vs.length < 64)
    (h : ∀ (out : Array Value) (l' : List Nat), StrsAre out.toList (l'.map one) → l'.Perm l → l'.Pairwise (fun a b => b < a) → P (.done (.ret .none)) { s with heap := sortedHeap s.heap a vs out }) :
    wpAny (model prog w) A (Builtin.«list.sort» ⟨[.ref a], [(Str.ofString "reverse", .bool true)]⟩) P E s := by
  rw [list_sort_rev]
  have ha : a < s.heap.objs.size := Heap.lt_size ho
  refine wpAny_bind (listItems_at ho rfl ?_)
  refine wpAny_bind (listUpdate_at ho rfl ?_)
  obtain ⟨e1, ho1⟩ : ∃ e1, (s.heap.update a (Obj.mapSeq fun _ => #[])).get? a = some (seqObj "list" #[] e1) := ⟨_, get?_update_seq ho (fun _ => #[])⟩
  refine wpAny_bind (seqEpoch_at ho1 rfl ?_)
  refine wpAny_bind (wpAny_newTuple ?_)
  refine wpAny_bind (wpAny_newList ?_)
  refine wpAny_holding ?_
  have ho6 : (((s.heap.update a (Obj.mapSeq fun _ => #[])).push (seqObj "tuple" vs.toArray 0)).push (seqObj "list" #[] 0)).get? a = some (seqObj "list" #[] e1) := by
    rw [Heap.get?_push_ne _ _ _ (by rw [size_push', Heap.size_update]; exact Nat.ne_of_lt (Nat.lt_succ_of_lt ha)), Heap.get?_push_ne _ _ _ (by rw [Heap.size_update]; exact Nat.ne_of_lt ha)]
    exact ho1
  show wpAny (model prog w) A _ P E { s with heap := ((s.heap.update a (Obj.mapSeq fun _ => #[])).push (seqObj "tuple" vs.toArray 0)).push (seqObj "list" #[] 0) }
  have hsz : vs.toArray.size = vs.length := by simp
  have fin : ∀ st' : SortSt, (arrOf st').Perm (pairsOf vs) → SortedToK strKind (arrOf st') (pairsOf vs).size →
      P (.done (.ret .none)) { s with heap := sortedHeap s.heap a vs ((arrOf st').map (·.2)).reverse } := by
    intro st' hp hs
    obtain ⟨ss', h1, h2, h3⟩ := sorted_out_str hI hp hs
    obtain ⟨l1, hl1, rfl⟩ := ones_of h2
    refine h _ l1.reverse ?_ ((List.reverse_perm _).trans hl1) (strict_rev (sorted_ones l1 h3) (hl1.nodup_iff.mpr hnd))
    rw [Array.toList_reverse, List.map_reverse]
    exact strs_reverse h1
  have hstart : (vs.toArray.zip vs.toArray).reverse.Perm (pairsOf vs) := Array.perm_iff_toList_perm.mpr (by rw [Array.toList_reverse]; exact List.reverse_perm _)
  dsimp only
  rw [if_pos rfl]
  refine wpAny_bind (wpAny_rule ?_)
  by_cases h2 : vs.toArray.size < 2
  · rw [if_pos h2, if_pos h2]
    refine wpAny_bind (wpAny_pure ?_)
    rw [StateT.run_pure]
    refine wpAny_bind (wpAny_pure ?_)
    dsimp only
    refine wpAny_bind (seqEpoch_at ho6 rfl ?_)
    refine wpAny_bind (listUpdate_at ho6 rfl ?_ (hsz2 := by
      simp only [if_true, Array.size_reverse, Array.size_map]; show (vs.toArray.zip vs.toArray).reverse.size ≤ _; rw [Array.size_reverse, Array.size_zip, sizeLine_eq]; (first | lia | omega)))
    simp only [bne_self_eq_false, Bool.false_eq_true, if_false, if_true]
    refine wpAny_pure (fin (SortSt.mk' general' (vs.toArray.zip vs.toArray).reverse #[] 7 none) hstart ?_)
    intro i j hij hj
    have : i = j := by rw [pairsOf_size] at hj; (first | lia | omega)
    subst this; exact KeyOrd.kle_refl _
  · rw [if_neg h2, if_neg h2]
    obtain ⟨v₁, v₂, rest, rfl⟩ : ∃ v₁ v₂ rest, vs = v₁ :: v₂ :: rest := by
      match vs, hsz, h2 with
      | [], _, h2 => simp at h2
      | [_], _, h2 => simp at h2
      | v₁ :: v₂ :: rest, _, _ => exact ⟨v₁, v₂, rest, rfl⟩
    rw [keyKind_strs hI]
    refine wpAny_bind (wpAny_pure ?_)
    refine wpAny_bind (wpAny_mono (wpS_sortRunsK (κ := strKind) strKind_oneLt (a₀ := pairsOf (v₁ :: v₂ :: rest))
      (st := SortSt.mk' oneType' (if true = true then ((v₁ :: v₂ :: rest).toArray.zip (v₁ :: v₂ :: rest).toArray).reverse else (v₁ :: v₂ :: rest).toArray.zip (v₁ :: v₂ :: rest).toArray) #[] 7 none)
      (Q := fun _ st' => (arrOf st').Perm (pairsOf (v₁ :: v₂ :: rest)) ∧ failedOf st' = none ∧ SortedToK strKind (arrOf st') (pairsOf (v₁ :: v₂ :: rest)).size)
      hI.keysOf ⟨hstart, rfl, rfl, rfl⟩ (by rw [pairsOf_size]; simp) (by rw [pairsOf_size]; exact h64) fun st' a1 a2 a3 => ⟨a1, a2, a3⟩) ?_ fun _ _ e => e)
    rintro ⟨⟨⟩, st'⟩ s' ⟨rfl, hp, hf, hs⟩
    dsimp only
    refine wpAny_bind (seqEpoch_at ho6 rfl ?_)
    refine wpAny_bind (listUpdate_at ho6 rfl ?_ (hsz2 := by
      have e : (Array.map (fun x => x.snd) (arrOf st')).size ≤ sizeLine + 1 := by
        refine Nat.le_trans (Nat.le_of_eq ((Array.size_map ..).trans (hp.size_eq.trans (pairsOf_size _)))) ?_; rw [sizeLine_eq]; (first | lia | omega)
      rw [if_pos rfl, Array.size_reverse]; exact e))
    rw [hf]
    simp only [bne_self_eq_false, Bool.false_eq_true, if_false, if_true]
    exact wpAny_pure (fin st' hp hs)
/-- the signs of a set, the last first -/
theorem sorted_set {S : Addr} {l : List Nat} {Q : Value → Shared → Prop} (hh : A.handled = none) (H : SgAt prog w s.heap S l) (hlb : l.length ≤ 50)
    (h : ∀ (D : Addr) (h' : Heap) (d' : Drawn) (tk : Nat) (vs : List Value) (sg : List Nat) (e : Nat), (∀ b o, s.heap.get? b = some o → h'.get? b = some o) → s.heap.get? D = none → h'.get? D = some (seqObj "list" vs.toArray e) → StrsAre vs (sg.map one) → sg.Perm l →
      sg.Pairwise (fun a b => b < a) → Q (.ref D) { s with heap := h', drawn := d', toks := tk }) :
    wpAny (model prog w) A (call (.builtin "sorted") [.ref S] [(Str.ofString "reverse", .bool true)]) Q E s := by
  have hnd : l.Nodup := by
    obtain ⟨o, es, ep, t, ho, hex, hd, hel, hs, hnd, hf, hled, hpl⟩ := H
    exact hnd
  refine call_function_entry_kw kind_sorted plain_sorted entry_sorted (args_sorted_rev _ _) ?_
  unfold Builtin.«sorted»
  refine wpAny_bind (m := checkCount "sorted" 1 1 _) (wpAny_pure ?_)
  refine wpAny_bind (set_collect (A := A.in1) hh H hlb fun h1 d1 tk vs l1 hk hp hv => ?_)
  have hvl : vs.length = l.length := by rw [hv.length, List.length_map, hp.length_eq]
  refine wpAny_bind (wpAny_newList ?_ (by rw [hvl, sizeLine_eq]; (first | lia | omega)))
  have hoL : (h1.push { cls := .type "list", data := .seq vs.toArray }).get? h1.objs.size = some (seqObj "list" vs.toArray 0) := Heap.get?_push_size _ rfl
  have hlt : ∀ b o, s.heap.get? b = some o → b < h1.objs.size := fun b o e => Heap.lt_size (hk _ _ e)
  have hle : s.heap.get? h1.objs.size = none := by
    cases e : s.heap.get? h1.objs.size with
    | none => rfl
    | some o => exact absurd (hlt _ _ e) (Nat.lt_irrefl _)
  refine wpAny_bind (wpAny_holding (wpAny_call_entry_kw slot_list_sort ⟨_, hoL, rfl⟩ entry_list_sort (sort_strs_rev hoL hv (hp.nodup_iff.mpr hnd) (by (first | lia | omega)) fun out l' a1 a2 a3 => ⟨_, rfl, ?_⟩) (args_list_sort_rev _ _)))
  obtain ⟨e, he⟩ := sortedHeap_at (out := out) hoL
  refine wpAny_pure ⟨_, rfl, h h1.objs.size _ d1 tk out.toList l' e (fun b o e => ?_) hle (by rw [Array.toArray_toList]; exact he) a1 (a2.trans hp) a3⟩
  rw [sortedHeap_old (Nat.ne_of_lt (hlt b o e)) (by rw [size_push']; exact Nat.lt_succ_of_lt (hlt b o e))]
  exact Heap.get?_push_of_some _ (hk b o e)
end
end Mine
end

section
-- Law2
example : True := by w_top off; trivial
open PySem PySem.W PyProof.Rows PySem.Calls PySem.Spec
set_option maxRecDepth 100000
namespace Mine
theorem fr_if1 {g h : Heap} {L : Addr} {m : Str → Option Value} {x : Str} {v : Value} (F : Fr g L h m) (e : m x = some v) : ∃ m' : Str → Option Value, Fr g L h (fun y => if y = x then some v else m' y) := by
  obtain ⟨m', rfl⟩ := as_if e
  exact ⟨m', F⟩
theorem fr_law1 {g h : Heap} {L M : Addr} {m : Str → Option Value} {v : Int} {t : Tok} (F : Fr g L h m) (e1 : m "modes" = some (.ref M)) (e2 : m "room" = some (.int v t)) : ∃ (t' : Tok) (m' : Str → Option Value), Fr g L h (fun y => if y = "modes" then some (.ref M) else if y = "room" then some (.int v t') else m' y) := by
  obtain ⟨m', rfl⟩ := as_if2 e1 e2
  exact ⟨t, m', F⟩
theorem news_plain {g h : Heap} {L D : Addr} {m : Str → Option Value} {nw : List (Addr × Obj)} {ys : Array Value} (N : News g L h nw) (F : Fr g L h m) (hD : g.get? D = none) (x : NewPlain h nw D ys) : ∃ k, News g L h ((D, listOf ys k) :: nw) ∧ ∀ p ∈ nw, p.1 ≠ D := by
  have hL := x.ne_locals F
  obtain ⟨⟨k, e⟩, hne⟩ := x
  refine ⟨k, fun q hq => ?_, hne⟩
  rcases List.mem_cons.mp hq with rfl | hq
  · exact ⟨e, hL, hD⟩
  · exact N q hq
/-- the i-th row -/
noncomputable def rowAt (ms : List Int) (pl : Int) (i : Nat) : Str := rowS ⟨#[97 + i]⟩ (ms.getD i 0) pl
noncomputable def rowsOf (ms : List Int) (pl : Int) : List Str := (List.range ms.length).map (rowAt ms pl)
theorem abc_at : ∀ {i c : Nat}, ("abcdef" : Str).cps[i]? = some c → c = 97 + i ∧ i < 6
  | 0, _, h | 1, _, h | 2, _, h | 3, _, h | 4, _, h | 5, _, h => ⟨(Option.some.inj h).symm, by decide⟩
  | n + 6, _, h => nomatch (Array.getElem?_eq_none (xs := ("abcdef" : Str).cps) (Nat.le_add_left 6 n)).symm.trans h
theorem rows_strs {ms : List Int} {pl : Int} {zs : List Value} (hl : zs.length = ms.length) (h : ∀ (j : Nat) y, zs[j]? = some y → ∃ t c x, ("abcdef" : Str).cps[j]? = some c ∧ ms[j]? = some x ∧ y = Value.str (rowS ⟨#[c]⟩ x pl) t) : StrsAre zs (rowsOf ms pl) := by
  have key : ∀ (l : List Value) (k : Nat), (∀ (j : Nat) y, l[j]? = some y → ∃ t, y = Value.str (rowAt ms pl (k + j)) t) → StrsAre l ((List.range' k l.length).map (rowAt ms pl)) := by
    intro l
    induction l with
    | nil => intro k _; exact .nil
    | cons a l ih =>
      intro k hk
      obtain ⟨t, rfl⟩ := hk 0 a rfl
      rw [List.length_cons, List.range'_succ, List.map_cons]
      exact .cons _ t (ih (k + 1) fun j y hy => by
        obtain ⟨t', e⟩ := hk (j + 1) y (by simpa using hy)
        exact ⟨t', by rw [e]; congr 2; (first | lia | omega)⟩)
  have := key zs 0 fun j y hy => by
    obtain ⟨t, c, x, h1, h2, rfl⟩ := h j y hy
    refine ⟨t, ?_⟩
    rw [(abc_at h1).1, Nat.zero_add]
    simp [rowAt, List.getD, h2]
  unfold rowsOf
  rw [← hl, List.range_eq_range']
  exact this
theorem strs_ne {A : Around} {s : Shared} {l b : Addr} {u v : List Value} {rs : List Str} (hl : s.heap.IsList l u.toArray) (hb : s.heap.IsList b v.toArray) (h1 : StrsAre u rs) (h2 : StrsAre v rs) (hu : A.units < cLine) : SeqAt.RcNeAt A s (.ref l) (.ref b) false := by
  have key := SeqAt.RcNeAt.lists (e := fun _ => true) hl hb (by have e1 := h1.length; have e2 := h2.length; simp; omega) hu (fun j l1 l2 => ?_)
  · have e : (!(List.range u.toArray.size).all fun _ => true) = false := by simp
    rw [e] at key
    exact key
  · obtain ⟨x, t, e1, e2⟩ := strs_item h1 (List.getElem?_eq_getElem (by simpa using l1))
    obtain ⟨x', t', e3, e4⟩ := strs_item h2 (List.getElem?_eq_getElem (by simpa using l2))
    rw [e2] at e4
    cases e4
    have e5 : u.toArray[j] = .str x t := by simpa using e1
    have e6 : v.toArray[j] = .str x t' := by simpa using e3
    rw [e5, e6]
    have := SeqAt.EqAt.str_str (A := A.in1) (s := s) x t x t'
    rwa [show (x == x) = true by simp] at this
theorem rowsOf_ok {ms : List Int} {pl : Int} (h6 : ms.length ≤ 6) (h0 : 0 ≤ pl) (h1 : pl < 10) : ∀ y ∈ rowsOf ms pl, RowOk y := by
  intro y hy
  obtain ⟨i, hi, rfl⟩ := List.mem_map.mp hy
  have := List.mem_range.mp hi
  exact row_ok h0 h1 ⟨by omega, by omega⟩
theorem news_put {g h : Heap} {L : Addr} {a : Addr × Obj} {b : List (Addr × Obj)} (x : h.get? a.1 = some a.2 ∧ a.1 ≠ L ∧ g.get? a.1 = none) (N : News g L h b) : News g L h (a :: b) := fun q hq => by
  rcases List.mem_cons.mp hq with rfl | hq
  · exact x
  · exact N q hq
theorem rowAt_cps {ms : List Int} {pl : Int} {i : Nat} (h0 : 0 ≤ pl) (h1 : pl < 10) : ∃ l, (rowAt ms pl i).cps.toList = (97 + i) :: l := by
  obtain ⟨p, rfl⟩ := Int.eq_ofNat_of_zero_le h0
  exact ⟨_, row_cps (by (first | lia | omega))⟩
theorem item_rowAt {ms : List Int} {pl : Int} {i : Nat} (h0 : 0 ≤ pl) (h1 : pl < 10) : Txt.item (rowAt ms pl i) 0 = ⟨#[97 + i]⟩ := by
  obtain ⟨l, e⟩ := rowAt_cps (ms := ms) (i := i) h0 h1
  exact item_first e
/-- the i-th rank -/
noncomputable def rkOf (ms : List Int) (pl : Int) (i : Nat) : Int := rankZ (ms.getD i 0) pl
theorem ranks_map {ms : List Int} {pl : Int} : ms.map (fun a => rankZ a pl) = (List.range ms.length).map (rkOf ms pl) := by
  apply List.ext_getElem?
  intro i
  by_cases h : i < ms.length
  · simp [rkOf, h, List.getD]
  · rw [List.getElem?_eq_none (by simpa using h), List.getElem?_eq_none (by simpa using h)]
theorem sameOrd {ms : List Int} {pl : Int} (h0 : 0 ≤ pl) (h1 : pl < 10) (hm : ∀ x ∈ ms, 0 ≤ x ∧ x < 65536) : SameOrd (rkOf ms pl) lastZ (rowAt ms pl) (List.range ms.length) := by
  intro x hx y hy
  have b : ∀ x, x ∈ List.range ms.length → 0 ≤ ms.getD x 0 ∧ ms.getD x 0 < 65536 := fun x hx => by
    have h := List.mem_range.mp hx
    refine hm _ ?_
    simp [List.getD, h]
  exact row_lt h0 h1 (b x hx) (b y hy)
/-- the letter's number -/
noncomputable def firstZ (y : Str) : Int := ((y.cps.toList.headD 0 - 97 : Nat) : Int)
theorem first_rowAt {ms : List Int} {pl : Int} {i : Nat} (h0 : 0 ≤ pl) (h1 : pl < 10) : firstZ (rowAt ms pl i) = (i : Nat) := by
  obtain ⟨l, e⟩ := rowAt_cps (ms := ms) (i := i) h0 h1
  unfold firstZ
  rw [e, List.headD_cons, Nat.add_sub_cancel_left]
theorem ints_get {vs : List Value} {n i : Nat} {r : Nat → Int} (hi : IntsAre vs ((List.range n).map r)) (h : i < n) : ∃ t, vs[i]? = some (.int (r i) t) := by
  have hkv : i < vs.length := by rw [hi.length]; simpa using h
  obtain ⟨z, t, e1, e2⟩ := ints_item hi (List.getElem?_eq_getElem hkv)
  refine ⟨t, ?_⟩
  rw [List.getElem?_eq_getElem hkv, e1]
  simp [h] at e2
  rw [e2]
section
variable {w : World} {p : Program} {loose : List Str} {mean : ExcName → Option Value} {mg mb : Str → Option Value} {G g : Heap} {L : Addr} {m : Str → Option Value} {nw : List (Addr × Obj)} {A : Around} {s : Shared} {Q E : Value → Shared → Prop}
theorem u_passed {lr : Addr} {vs : List Value} {rs : List Str} (F : Fr g L s.heap m) (N : News g L s.heap nw) (D : Gd w p loose mean mg mb G) (hs : G.StaysIn g) (hh : A.handled = none) (hd : A.depth ≤ 350) (hu : A.units ≤ 100)
    (hl : s.heap.IsList lr vs.toArray) (hi : StrsAre vs rs) (hn : rs.length ≤ 10) (hrl : ∀ y ∈ rs, RowOk y)
    (k : ∀ h' tk' R vs' n', Fr g L h' m → News g L h' ((R, listOf (List.toArray vs') n') :: nw) → (∀ q ∈ nw, q.1 ≠ R) → StrsAre vs' (passed leZ rs) → Q (.ref R) { s with heap := h', toks := tk' }) :
    wpAny (model Challenge.rw_oc0165_02.row.prog w) A (call (.ref 260) [.ref lr]) Q E s :=
  wp_up hh hd hu (c_passed D (stays_fr F hs) hl hi hn hrl fun h' tk' R vs' n' hk hR hR' hvs => k h' tk' R vs' n' (frK F hk) (news_more (newsK N hk) F hR hR') (fun q hq e => by have := (N q hq).1; rw [e, hR] at this; cases this) hvs)
theorem u_three {lr : Addr} {vs : List Value} {ns : List Int} (F : Fr g L s.heap m) (N : News g L s.heap nw) (D : Gd w p loose mean mg mb G) (hs : G.StaysIn g) (hh : A.handled = none) (hd : A.depth ≤ 350) (hu : A.units ≤ 100)
    (hl : s.heap.IsList lr vs.toArray) (hi : IntsAre vs ns) (hn : ns.length ≤ 10)
    (k : ∀ b h' tk', (b = true ↔ Three (fun i => ns.getD i 0) ns.length) → Fr g L h' m → News g L h' nw → Q (.bool b) { s with heap := h', toks := tk' }) :
    wpAny (model Challenge.rw_oc0165_02.row.prog w) A (call (.ref 274) [.ref lr]) Q E s :=
  wp_up hh hd hu (c_three D (stays_fr F hs) hl hi hn fun b h' tk' hb hk => k b h' tk' hb (frK F hk) (newsK N hk))
theorem u_four {lr : Addr} {vs : List Value} {ns : List Int} (F : Fr g L s.heap m) (N : News g L s.heap nw) (D : Gd w p loose mean mg mb G) (hs : G.StaysIn g) (hh : A.handled = none) (hd : A.depth ≤ 350) (hu : A.units ≤ 100)
    (hl : s.heap.IsList lr vs.toArray) (hi : IntsAre vs ns) (hn : ns.length ≤ 10)
    (k : ∀ b h' tk', (b = true ↔ Four (fun i => ns.getD i 0) ns.length) → Fr g L h' m → News g L h' nw → Q (.bool b) { s with heap := h', toks := tk' }) :
    wpAny (model Challenge.rw_oc0165_02.row.prog w) A (call (.ref 281) [.ref lr]) Q E s :=
  wp_up hh hd hu (c_four D (stays_fr F hs) hl hi hn fun b h' tk' hb hk => k b h' tk' hb (frK F hk) (newsK N hk))
end
theorem last_solid {y : Str} (h : RowOk y) : Unicode.isSpace (lastN y) = false :=
  h.ns _ (Array.mem_toList_iff.mpr (Array.mem_of_back? (back_last (by rw [h.len]; decide))))
theorem ones_weight (l : List Nat) : ((l.map one).map (·.length)).sum + (l.map one).length = 2 * l.length := by
  induction l with
  | nil => rfl
  | cons a t ih =>
    simp only [List.map_cons, List.sum_cons, List.length_cons] at ih ⊢
    have : (one a).length = 1 := rfl
    (first | lia | omega)
theorem ones_flat (l : List Nat) : ((l.map one).flatMap fun a => a.cps.toList) = l := by
  induction l with
  | nil => rfl
  | cons a t ih => rw [List.map_cons, List.flatMap_cons, ih]; rfl
theorem passed_rows {ms : List Int} {pl : Int} (h0 : 0 ≤ pl) (h1 : pl < 10) (hm : ∀ x ∈ ms, 0 ≤ x ∧ x < 65536) (l : List Nat) (hl : ∀ i ∈ l, i < ms.length) : passed leZ (l.map (rowAt ms pl)) = (passed (fun t x => decide (rkOf ms pl t ≤ rkOf ms pl x)) l).map (rowAt ms pl) := by
  have key : ∀ t ∈ l, ∀ x ∈ l, leZ (rowAt ms pl t) (rowAt ms pl x) = decide (rkOf ms pl t ≤ rkOf ms pl x) := fun t ht x hx => by
    unfold leZ
    rw [decide_eq_decide]
    have := sameOrd h0 h1 hm x (List.mem_range.mpr (hl x hx)) t (List.mem_range.mpr (hl t ht))
    (first | lia | omega)
  have := passA_map (f := rowAt ms pl) (le := fun t x => decide (rkOf ms pl t ≤ rkOf ms pl x)) (le' := leZ) l [] (fun _ h => nomatch h) (List.Pairwise.imp_of_mem (fun ha hb _ => key _ ha _ hb) (List.pairwise_of_forall (R := fun _ _ => True) fun _ _ => trivial))
  exact this
theorem new_at {g h : Heap} {L : Addr} {m : Str → Option Value} (F : Fr g L h m) : h.objs.size ≠ L ∧ g.get? h.objs.size = none :=
  ⟨Nat.ne_of_gt F.ns.lt, by
    cases e : g.get? h.objs.size with
    | none => rfl
    | some o => exact absurd (Heap.lt_size (F.keep _ _ e)) (Nat.lt_irrefl _)⟩
theorem fr_lawB {g h : Heap} {L a b c : Addr} {m : Str → Option Value} (F : Fr g L h m) (e1 : m "twice" = some (.ref a)) (e2 : m "once" = some (.ref b)) (e3 : m "modes" = some (.ref c)) : ∃ (m' : Str → Option Value), Fr g L h (fun y => if y = "twice" then some (.ref a) else if y = "once" then some (.ref b) else if y = "modes" then some (.ref c) else m' y) := by
  obtain ⟨m', rfl⟩ := as_if3 e1 e2 e3
  exact ⟨m', F⟩
theorem casts_eq {a b : List Nat} : decide ((a.map fun i : Nat => (i : Int)) = b.map fun i : Nat => (i : Int)) = decide (a = b) := by
  rw [decide_eq_decide]
  constructor
  · intro h
    have := congrArg (List.map Int.toNat) h
    rw [List.map_map, List.map_map] at this
    have e : Int.toNat ∘ (fun i : Nat => (i : Int)) = id := by funext i; rfl
    rwa [e, List.map_id, List.map_id] at this
  · intro h
    rw [h]
theorem firsts_nat {ms : List Int} {pl : Int} (h0 : 0 ≤ pl) (h1 : pl < 10) (l : List Nat) : (l.map (rowAt ms pl)).map firstZ = l.map fun i : Nat => (i : Int) := by
  rw [List.map_map]
  apply List.map_congr_left
  intro i _
  exact first_rowAt h0 h1
section
variable {w : World} {p : Program} {loose : List Str} {mean : ExcName → Option Value} {mg mb : Str → Option Value} {G g : Heap} {L : Addr} {m : Str → Option Value} {nw : List (Addr × Obj)} {A : Around} {s : Shared} {Q E : Value → Shared → Prop}
theorem u_rankK {mode place : Int} {t1 t2 : Tok} (F : Fr g L s.heap m) (N : News g L s.heap nw) (D : Gd w p loose mean mg mb G) (hs : G.StaysIn g) (hh : A.handled = none) (hd : A.depth ≤ 800) (hu : A.units ≤ 600)
    (h1 : 0 ≤ mode) (h2 : mode < 65536) (h3 : 0 ≤ place) (h4 : place < 10)
    (k : ∀ t h' tk', (∀ b o, s.heap.get? b = some o → h'.get? b = some o) → Fr g L h' m → News g L h' nw → Q (.int (rankZ mode place) t) { s with heap := h', toks := tk' }) :
    wpAny (model Challenge.rw_oc0165_02.row.prog w) A (call (.ref 248) [.int mode t1, .int place t2]) Q E s :=
  wp_up hh hd hu (c_rank D (stays_fr F hs) h1 h2 h3 h4 fun t h' tk' hk => k t h' tk' hk (frK F hk) (newsK N hk))
theorem u_rowK {letter : Str} {mode place : Int} {t1 t2 t3 : Tok} (F : Fr g L s.heap m) (N : News g L s.heap nw) (D : Gd w p loose mean mg mb G) (hs : G.StaysIn g) (hh : A.handled = none) (hd : A.depth ≤ 600) (hu : A.units ≤ 400)
    (hl : letter.length = 1) (h1 : 0 ≤ mode) (h2 : mode < 65536) (h3 : 0 ≤ place) (h4 : place < 10)
    (k : ∀ t h' tk', (∀ b o, s.heap.get? b = some o → h'.get? b = some o) → Fr g L h' m → News g L h' nw → Q (.str (rowS letter mode place) t) { s with heap := h', toks := tk' }) :
    wpAny (model Challenge.rw_oc0165_02.row.prog w) A (call (.ref 255) [.str letter t1, .int mode t2, .int place t3]) Q E s :=
  wp_up hh hd hu (c_row D (stays_fr F hs) hl h1 h2 h3 h4 fun t h' tk' hk => k t h' tk' hk (frK F hk) (newsK N hk))
end
section
variable {w : World} {p : Program} {loose : List Str} {mean : ExcName → Option Value} {mg mb : Str → Option Value} {G : Heap} {s : Shared}
set_option maxHeartbeats 8000000
local macro_rules | `(tactic| walk_at "my steps") => `(tactic| (repeat' (first | (fail_if_success (first | (with_reducible show wpAny _ _ (exec (Stmt.For _ _ _ _ _) _) _ _ _) | (with_reducible show wpAny _ _ (exec (Stmt.While _ _ _ _) _) _ _ _) | (with_reducible show wpAny _ _ (eval (PySem.Expr.ListComp _ _ _ _) _) _ _ _) | (with_reducible show wpAny _ _ (eval (PySem.Expr.SetComp _ _ _ _) _) _ _ _) | (with_reducible show CompPack _) | (with_reducible show RangePack _) | (with_reducible show wpAny _ _ (call (Value.type "zip") _) _ _ _) | (with_reducible show wpAny _ _ (eval (PySem.Expr.Lambda _ _ _ _) _) _ _ _) | (with_reducible show wpAny _ _ (call (Value.builtin "sorted") _ _) _ _ _) | (with_reducible show wpAny _ _ (exec (Stmt.Assign _ (PySem.Expr.ListComp _ _ _ _) _) _) _ _ _) | (with_reducible show wpAny _ _ (call (Value.builtin "str.join") _) _ _ _) | (with_reducible show wpAny _ _ (call (Value.builtin "str.split") _) _ _ _) | (with_reducible show wpAny _ _ (call (Value.builtin "str.index") _) _ _ _) | (with_reducible show wpAny _ _ (subscriptTail _ (PySem.Expr.Slice _ _ _ _) _ _) _ _ _) | (with_reducible show wpAny _ _ (binaryOp _ (Value.ref _) (Value.ref _)) _ _ _) | (with_reducible show wpAny _ _ (call (Value.builtin "list.extend") _) _ _ _) | (with_reducible show wpAny _ _ (call (Value.builtin "list.append") _) _ _ _) | (with_reducible show wpAny _ _ (compareOp _ (Value.ref _) (Value.ref _)) _ _ _))); (first | (k_unfold; (try dsimp only)) | (first | ((k_here; (with_reducible show wpAny _ _ (call (Value.ref 255) _) _ _ _); k_dflt (refine' u_rowK ?k1 ?k2 ?k3 ?k4 ?k5 ?k6 ?k7 ?k8 ?k9 ?k10 ?k11 ?k12 ?_; (case k1 => k_asm); (case k2 => k_asm); (case k3 => assumption); (case k4 => assumption); (case k5 => exact rfl); (case k6 => decide); (case k7 => decide); (case k8 => exact rfl); (case k9 => first | assumption | omega); (case k10 => first | assumption | omega); (case k11 => first | assumption | omega); (case k12 => first | assumption | omega)); intro t' h' tk' hk' F' N'; (try k_sweep))) | ((k_here; (with_reducible show wpAny _ _ (call (Value.ref 248) _) _ _ _); k_dflt (refine' u_rankK ?k1 ?k2 ?k3 ?k4 ?k5 ?k6 ?k7 ?k8 ?k9 ?k10 ?k11 ?_; (case k1 => k_asm); (case k2 => k_asm); (case k3 => assumption); (case k4 => assumption); (case k5 => exact rfl); (case k6 => decide); (case k7 => decide); (case k8 => first | assumption | omega); (case k9 => first | assumption | omega); (case k10 => first | assumption | omega); (case k11 => first | assumption | omega)); intro t' h' tk' hk' F' N'; (try k_sweep))) | walk1) | (dsimp only; (first | ((k_here; (with_reducible show wpAny _ _ (call (Value.ref 255) _) _ _ _); k_dflt (refine' u_rowK ?k1 ?k2 ?k3 ?k4 ?k5 ?k6 ?k7 ?k8 ?k9 ?k10 ?k11 ?k12 ?_; (case k1 => k_asm); (case k2 => k_asm); (case k3 => assumption); (case k4 => assumption); (case k5 => exact rfl); (case k6 => decide); (case k7 => decide); (case k8 => exact rfl); (case k9 => first | assumption | omega); (case k10 => first | assumption | omega); (case k11 => first | assumption | omega); (case k12 => first | assumption | omega)); intro t' h' tk' hk' F' N'; (try k_sweep))) | ((k_here; (with_reducible show wpAny _ _ (call (Value.ref 248) _) _ _ _); k_dflt (refine' u_rankK ?k1 ?k2 ?k3 ?k4 ?k5 ?k6 ?k7 ?k8 ?k9 ?k10 ?k11 ?_; (case k1 => k_asm); (case k2 => k_asm); (case k3 => assumption); (case k4 => assumption); (case k5 => exact rfl); (case k6 => decide); (case k7 => decide); (case k8 => first | assumption | omega); (case k9 => first | assumption | omega); (case k10 => first | assumption | omega); (case k11 => first | assumption | omega)); intro t' h' tk' hk' F' N'; (try k_sweep))) | walk1))))))
theorem c_law {R : Result → Shared → Prop} {l : Addr} {vs : List Value} {ns : List Int} {tb tc : Array Value} (D : Gd w p loose mean mg mb G) (St : G.StaysIn s.heap) (hl : s.heap.IsList l vs.toArray) (hi : IntsAre vs ns) (hn : ns.length ≤ 63)
    (hP : s.heap.get? 140 = some (tabObj tb)) (htr : TriplesOk tb.toList) (hPG : G.get? 140 = none) (hP2 : s.heap.get? 147 = some (tabObj tc)) (htr2 : TriplesOk tc.toList) (hPG2 : G.get? 147 = none)
    (hP3 : s.heap.get? 283 = some (tabObj #[])) (hPG3 : G.get? 283 = none) (hbare : AllBare s.gens) (hret : ∀ s', (∀ b o, s.heap.get? b = some o → b ≠ 140 → b ≠ 147 → b ≠ 283 → s'.heap.get? b = some o) → (∃ t, s'.heap.get? 140 = some (tabObj t)) → (∃ t, s'.heap.get? 147 = some (tabObj t)) → (∃ t, s'.heap.get? 283 = some (tabObj t)) → AllBare s'.gens → s'.os = s.os → R (.ok (.ret (.bool true))) s') :
    codeAny (model Challenge.rw_oc0165_02.row.prog w) (Am 305 50) (.call (.ref 286) ⟨[.ref l], []⟩) R s := by
  have fill : (hd.heap_1 w.params).In G := D.X
  revert fill
  k_fill
  intro _
  refine' enterC (binds := [("script", .ref l)]) [(140, tabObj tb), (147, tabObj tc), (283, tabObj #[])] D St ?k3 ?k4 ?k6 ?k7 ?k8 ?k9 ?kB ?kD ?c2 ?c3 ?c4 ?_
  case k3 => exact all_cons (hP) (all_cons (hP2) (all_cons (hP3) all_nil))
  case k4 => exact all_cons (hPG) (all_cons (hPG2) (all_cons (hPG3) all_nil))
  (((case k6 => k_is); (case k7 => k_is); (case k8 => decide)))
  case k9 => exact BindsTo.of_eq rfl
  case kB => exact rfl
  case kD => decide +kernel
  case c2 => exact rfl
  case c3 => exact rfl
  case c4 => exact rfl
  intro g L h tk cells hg hL F N Y X T l1 hkeep hst
  obtain ⟨o1, o2, o3, hE, d1, d2, d3⟩ := CellsAre.three Y
  subst hE
  clear Y
  dsimp only [List.cons_append, List.nil_append] at N
  replace hkeep : ∀ b o, s.heap.get? b = some o → b ≠ 140 → b ≠ 147 → b ≠ 283 → g.get? b = some o := fun b o e hb hb2 hb3 => hkeep b o e (by exact all_cons (hb.symm) (all_cons (hb2.symm) (all_cons (hb3.symm) all_nil)))
  have hlg : g.IsList l vs.toArray := by
    obtain ⟨o, ho, hc, r⟩ := hl
    exact ⟨o, hkeep _ _ ho (ne_cls ho hP (by simp [hc])) (ne_cls ho hP2 (by simp [hc])) (ne_cls ho hP3 (by simp [hc])), hc, r⟩
  replace d1 : o1.data = .cell none := d1
  replace d2 : o2.data = .cell none := d2
  replace d3 : o3.data = .cell none := d3
  have l140 : (140 : Nat) < L := l1 (140, tabObj tb) (.head _)
  have l147 : (147 : Nat) < L := l1 (147, tabObj tc) (.tail _ (.head _))
  have l283 : (283 : Nat) < L := l1 (283, tabObj #[]) (.tail _ (.tail _ (.head _)))
  obtain ⟨m0, F0⟩ := fr_if1 (x := "script") (v := .ref l) F rfl
  clear F
  try dsimp only
  try k_fold
  walk_at "my steps"
  rename Fr _ _ _ _ => F1
  rename News _ _ _ _ => N1
  refine u_cells F1 N1 D hst rfl (by decide) (by decide) hlg hi hn ?_
  intro T2 M2 f2 tf2 ys ms k2 h2 tk2 F2 N2 hms hm5 hm6 hmb
  clear F1 N1
  walk_at "my steps"
  rename Fr _ _ _ _ => F3
  rename News _ _ _ _ => N3
  rename Fr _ _ _ _ => F3
  rename News _ _ _ _ => N3
  with_unfolding_all refine stCNk (own := [(T2, _), (M2, _), (L + 1 + 1 + 1, _), (L + 1 + 1, _)]) (rest := [(140, _), (147, _), (283, _)]) F3 N3 rfl d3 (by cells_apart) (by cells_apart) ?_
  clear F3 N3
  intro h3 o4 F3 N3 d4
  walk_at "my steps"
  rename Fr _ _ _ _ => F3
  rename News _ _ _ _ => N3
  obtain ⟨tw, m1, F4⟩ := fr_law1 F3 rfl rfl
  clear F3
  dsimp only [List.cons_append, List.nil_append] at N3
  refine wpAny_Assign_Name ?_
  have hm62 : ms.length < 2 ^ 62 := Nat.lt_of_le_of_lt hm6 (by decide)
  have hpl0 : 0 ≤ f2.fmod 10 := by rw [Int.fmod_eq_emod_of_nonneg _ (by decide)]; exact Int.emod_nonneg _ (by decide)
  have hpl1 : f2.fmod 10 < 10 := by rw [Int.fmod_eq_emod_of_nonneg _ (by decide)]; exact Int.emod_lt_of_pos _ (by decide)
  have hwd0 : 0 ≤ (f2.fdiv 10).fmod 6 := by rw [Int.fmod_eq_emod_of_nonneg _ (by decide)]; exact Int.emod_nonneg _ (by decide)
  have hwd1 : (f2.fdiv 10).fmod 6 ≤ 5 := by rw [Int.fmod_eq_emod_of_nonneg _ (by decide)]; exact Int.le_of_lt_add_one (Int.emod_lt_of_pos _ (by decide))
  generalize (f2.fdiv 10).fmod 6 = wd at F4 hwd0 hwd1
  generalize f2.fmod 10 = pl at d4 hpl0 hpl1
  apply ListComp_DCnk (h₀ := g) (L := L) (m := fun y => if y = "modes" then some (.ref M2) else if y = "room" then some (.int wd tw) else m1 y) (K := ItemKind.int) (pz := fun _ => true) (d := fun a => .int (rankZ a pl))
  case hany => decide
  case hh => with_unfolding_all rfl
  case hclos => with_unfolding_all rfl
  case hcell => decide
  case hkind => with_unfolding_all rfl
  case hnames => decide
  case hx => with_unfolding_all rfl
  case hs => intro _; with_unfolding_all rfl
  refine wpAny_compPack ?_
  walk_at "my steps"
  rename Fr _ _ _ _ => F5
  rename News _ _ _ _ => N5
  refine CompPack.intro ⟨_, _, ys, ms, rfl, (N5.isList (.tail _ (.head _))), hms.areOf, (by rw [sizeLine_eq]; (first | lia | omega)), F5, N5, ?_, ?_, ?_⟩
  · intro C a v s₂ m₂ E' hC ha hv hn hm hk
    obtain ⟨t, rfl⟩ := ItemKind.int_is hv
    have Fc := frInComp hn hk hC
    refine wpAny_leafK ?_
    walk_at "my steps"
  · intro C a v s₂ m₂ E' hC ha hv hpz hn hm hk
    obtain ⟨t, rfl⟩ := ItemKind.int_is hv
    obtain ⟨ha0, ha1⟩ := hmb a ha
    have Fc := frInComp hn hk hC
    refine wpAny_leafK ?_
    walk_at "my steps"
  intro D4 ys4 h4 tk4 F6 N6 hD4 hl4 hnp4 hc4
  clear F5 N5
  obtain ⟨k4, N7, hne4⟩ := news_plain N6 F6 hD4 hnp4
  replace N7 : News g L h4 [(140, tabObj tb), (147, tabObj tc), (L + 1 + 1 + 1, o1), (L + 1 + 1, o2), (L + 1, o4), (D4, listOf ys4.toArray k4), (M2, listOf ys.toArray k2), (283, tabObj #[])] := news_sub N7 (by ((repeat' (first | exact sub_nil' | refine sub_cons' ?_ ?_ | exact List.Mem.head _ | refine List.Mem.tail _ ?_))))
  have hr4 : IntsAre ys4 (ms.map (fun a => rankZ a pl)) := by
    rw [List.filter_eq_self.mpr (fun _ _ => rfl)] at hc4
    exact hc4.intsOf
  clear N6 hnp4 hc4 hne4 hl4
  with_unfolding_all refine stCNk (own := [(140, _), (147, _)]) (rest := [(L + 1 + 1, _), (L + 1, _), (D4, _), (M2, _), (283, _)]) F6 N7 rfl d1 (by cells_apart) (by cells_apart) ?_
  clear F6 N7
  intro h5 o5 F7 N7 d5
  walk_at "my steps"
  apply assign_pairs (fun i y => ∃ t c x, ("abcdef" : Str).cps[i]? = some c ∧ ms[i]? = some x ∧ y = .str (rowS ⟨#[c]⟩ x pl) t)
  case hsw => with_unfolding_all rfl
  case hy => with_unfolding_all rfl
  case hp => with_unfolding_all rfl
  case hh => with_unfolding_all rfl
  case hclos => with_unfolding_all rfl
  case hcell => decide
  case hkind => with_unfolding_all rfl
  case hnames => decide
  case hxa => with_unfolding_all rfl
  case hxb => with_unfolding_all rfl
  case hab => decide
  case hs1 => intro _; with_unfolding_all rfl
  case hp0 => intro _; with_unfolding_all rfl
  walk_at "my steps"
  rename Fr _ _ _ _ => F8
  rename News _ _ _ _ => N8
  have hlM := N8.isList (.tail _ (.tail _ (.tail _ (.tail _ (.tail _ (.tail _ (.head _)))))))
  refine' zip_pack (g := g) (L := L) (ys := ys.toArray) _ ?zh ?zL ?zF ?zN ?zl ?za ?zx ?zleaf ?zQ
  case zF => exact F8
  case zN => exact N8
  case zl => exact hlM
  case zh => exact rfl
  case zL => exact rfl
  case za => decide +kernel
  case zx => decide +kernel
  · intro C i c vb u s₃ m₃ E' hC hc hvb hn h1 h2 hk
    obtain ⟨x, hx, t, rfl⟩ := ints_at hms (by simpa using hvb)
    obtain ⟨ha0, ha1⟩ := hmb x (List.mem_of_getElem? hx)
    replace hk : ∀ b o, h5.get? b = some o → s₃.heap.get? b = some o := hk
    replace hC : h5.objs.size ≤ C := hC
    have Fc := frInComp hn hk hC
    refine wpAny_leafK ?_
    walk_at "my steps"
    rename_i hk7 _ _
    exact SeqLeaf.intro ⟨⟨_, c, x, hc, hx, rfl⟩, ⟨_, _, rfl, by assumption⟩⟩
  intro D5 zs h6 tk6 F9 N9 hD5 hnp5 hlen5 hz5
  clear F8 N8
  obtain ⟨k5, N10, hne5⟩ := news_plain N9 F9 hD5 hnp5
  have hlen6 : zs.length = ms.length := by
    have e1 := hms.length
    rw [hlen5, show (Str.ofString "abcdef").cps.size = 6 from rfl, List.size_toArray, e1]
    (first | lia | omega)
  have hrs := rows_strs hlen6 hz5
  have hrok := rowsOf_ok hm6 hpl0 hpl1
  have hrl : (rowsOf ms pl).length = ms.length := by simp [rowsOf]
  generalize hrse : rowsOf ms pl = rs at hrs hrok hrl
  clear hz5 hlen5 hlM
  replace N10 : News g L h6 [(140, tabObj tb), (147, tabObj tc), (D5, listOf zs.toArray k5), (L + 1 + 1 + 1, o5), (L + 1 + 1, o2), (L + 1, o4), (D4, listOf ys4.toArray k4), (M2, listOf ys.toArray k2), (283, tabObj #[])] := news_sub N10 (by ((repeat' (first | exact sub_nil' | refine sub_cons' ?_ ?_ | exact List.Mem.head _ | refine List.Mem.tail _ ?_))))
  clear N9 hnp5 hne5
  intro h0
  walk_at "my steps"
  rename Fr _ _ _ _ => F11
  rename News _ _ _ _ => N11
  apply set_comp lastN
  case hh => with_unfolding_all rfl
  case hclos => with_unfolding_all rfl
  case hcell => decide
  case hkind => with_unfolding_all rfl
  case hnames => decide
  case hx => with_unfolding_all rfl
  case hs1 => intro _; with_unfolding_all rfl
  case hp0 => intro _; with_unfolding_all rfl
  walk_at "my steps"
  have hrl6 : rs.length ≤ 6 := by rw [hrl]; exact hm6
  refine ScPack.mk D5 zs rs rfl (N11.isList (.tail _ (.tail _ (.head _)))) hrs (by (first | lia | omega)) ?_ ?_
  · intro C y ty s₃ m₃ E' hC hy hn hm hk
    have hly := (hrok y hy).len
    have hy1 : -((y.length : Nat) : Int) ≤ -1 := by rw [hly]; decide
    have hy2 : (-1 : Int) < ((y.length : Nat) : Int) := by rw [hly]; decide
    have Fc := frInComp hn hk hC
    refine wpAny_leafK ?_
    walk_at "my steps"
    rw [item_lastN (by rw [hly]; decide)]
    exact SeqLeaf.intro ⟨⟨_, rfl⟩, _, _, rfl, fun _ _ e => e⟩
  intro S1 sl h7 tk7 hS1 hsg hsl hsll hk7
  replace hk7 : ∀ b o, h6.get? b = some o → h7.get? b = some o := hk7
  replace hS1 : h6.get? S1 = none := hS1
  have F12 := frK F11 hk7
  have N12 := newsK N11 hk7
  clear F11 N11
  walk_at "my steps"
  refine sorted_set rfl hsg (by (first | lia | omega)) ?_
  intro D6 h8 d8 tk8 gv sg e8 hk8 hD6 hD6' hgv hsgp hsgd
  replace hk8 : ∀ b o, h7.get? b = some o → h8.get? b = some o := hk8
  have F13 := frK F12 hk8
  have N13 := newsK N12 hk8
  have hlD6 : h8.IsList D6 gv.toArray := ⟨_, hD6', rfl, _, rfl⟩
  clear F12 N12
  walk_at "my steps"
  refine join_listW hlD6 (by rw [List.toList_toArray]; exact hgv) (by decide) (by rw [ones_weight]; have := hsgp.length_eq; (first | lia | omega)) ?_
  intro ts tk9
  have hsgc : (Txt.join (Str.ofString "") (sg.map one)).cps.toList = sg := by rw [join_e, ones_flat]
  generalize Txt.join (Str.ofString "") (sg.map one) = sgs at hsgc ⊢
  subst hsgc
  walk_at "my steps"
  rename Fr _ _ _ _ => F14
  rename News _ _ _ _ => N14
  have hin : ∀ y ∈ rs, lastN y ∈ sgs.cps.toList := fun y hy => hsgp.mem_iff.mpr ((hsl _).mpr ⟨y, hy, rfl⟩)
  have hns : ∀ c ∈ sgs.cps.toList, Unicode.isSpace c = false := fun c hc => by
    obtain ⟨y, hy, rfl⟩ := (hsl _).mp (hsgp.mem_iff.mp hc)
    exact last_solid (hrok y hy)
  have HC := c_cut (w := w) D hsgd hns hwd0 hwd1 hPG hPG2
  refine u_passed F14 N14 D hst rfl (by decide) (by decide) (N14.isList (by ((repeat' (first | exact sub_nil' | refine sub_cons' ?_ ?_ | exact List.Mem.head _ | refine List.Mem.tail _ ?_))))) hrs (by (first | lia | omega)) hrok ?_
  clear F14 N14
  intro h9 tk9 R9 vs9 n9 F15 N15 hne9 hvs9
  walk_at "my steps"
  rename Fr _ _ _ _ => F16
  rename News _ _ _ _ => N16
  have hpr := passed_perm leZ rs
  have hprok : ∀ y ∈ passed leZ rs, RowOk y := fun y hy => hrok y (hpr.mem_iff.mp hy)
  refine u_passed F16 N16 D hst rfl (by decide) (by decide) (N16.isList (by ((repeat' (first | exact sub_nil' | refine sub_cons' ?_ ?_ | exact List.Mem.head _ | refine List.Mem.tail _ ?_))))) hvs9 (by rw [hpr.length_eq]; (first | lia | omega)) hprok ?_
  clear F16 N16
  intro h10 tk10 R10 vs10 n10 F17 N17 hne10 hvs10
  walk_at "my steps"
  rename Fr _ _ _ _ => F18
  rename News _ _ _ _ => N18
  replace N18 := news_sub N18 (b := [(140, tabObj tb), (147, tabObj tc), (R10, listOf vs10.toArray n10), (R9, listOf vs9.toArray n9), (D5, listOf zs.toArray k5), (L + 1 + 1 + 1, o5), (L + 1 + 1, o2), (L + 1, o4), (D4, listOf ys4.toArray k4), (M2, listOf ys.toArray k2), (283, tabObj #[])]) (by ((repeat' (first | exact sub_nil' | refine sub_cons' ?_ ?_ | exact List.Mem.head _ | refine List.Mem.tail _ ?_))))
  have off18 : ∀ q ∈ [(R10, listOf vs10.toArray n10), (R9, listOf vs9.toArray n9), (D5, listOf zs.toArray k5), (L + 1 + 1 + 1, o5), (L + 1 + 1, o2), (L + 1, o4), (D4, listOf ys4.toArray k4), (M2, listOf ys.toArray k2), (283, tabObj #[])], q.1 ≠ 140 ∧ q.1 ≠ 147 := by
    have lo : ∀ {b : Addr} {a : Array Value} {k : Nat}, (b, listOf a k) ∈ [(140, tabObj tb), (147, tabObj tc), (R10, listOf vs10.toArray n10), (R9, listOf vs9.toArray n9), (D5, listOf zs.toArray k5), (L + 1 + 1 + 1, o5), (L + 1 + 1, o2), (L + 1, o4), (D4, listOf ys4.toArray k4), (M2, listOf ys.toArray k2), (283, tabObj #[])] → b ≠ 140 ∧ b ≠ 147 :=
      fun h => ⟨list_off N18 h (.head _), list_off N18 h (.tail _ (.head _))⟩
    refine all_cons ?_ (all_cons ?_ (all_cons ?_ (all_cons ?_ (all_cons ?_ (all_cons ?_ (all_cons ?_ (all_cons ?_ (all_cons ?_ all_nil))))))))
    · exact lo (.tail _ (.tail _ (.head _)))
    · exact lo (.tail _ (.tail _ (.tail _ (.head _))))
    · exact lo (.tail _ (.tail _ (.tail _ (.tail _ (.head _)))))
    · exact ⟨show L + 1 + 1 + 1 ≠ 140 by (first | lia | omega), show L + 1 + 1 + 1 ≠ 147 by (first | lia | omega)⟩
    · exact ⟨show L + 1 + 1 ≠ 140 by (first | lia | omega), show L + 1 + 1 ≠ 147 by (first | lia | omega)⟩
    · exact ⟨show L + 1 ≠ 140 by (first | lia | omega), show L + 1 ≠ 147 by (first | lia | omega)⟩
    · exact lo (.tail _ (.tail _ (.tail _ (.tail _ (.tail _ (.tail _ (.tail _ (.tail _ (.head _)))))))))
    · exact lo (.tail _ (.tail _ (.tail _ (.tail _ (.tail _ (.tail _ (.tail _ (.tail _ (.tail _ (.head _))))))))))
    · exact ⟨show (283 : Nat) ≠ 140 by decide, show (283 : Nat) ≠ 147 by decide⟩
  refine u_cut (HC rs.length (305 + 1) (50 + 3) (by (first | lia | omega)) (by (first | lia | omega)) (by (first | lia | omega))) F18 N18 off18 hst rfl (N18.isList (.tail _ (.tail _ (.tail _ (.tail _ (.head _)))))) hrs hrok hin htr htr2 hbare ?_
  clear F18 N18
  intro h11 gs11 tk11 R11 vs11 n11 tb11 tc11 F19 N19 hne11 hvs11 htr11 htr11' hbare11
  walk_at "my steps"
  rename Fr _ _ _ _ => F20
  rename News _ _ _ _ => N20
  refine PySem.EqBoolInt.of_rcne (strs_ne (N20.isList (.head _)) (N20.isList (.tail _ (.tail _ (.tail _ (.tail _ (.head _)))))) hvs11 hvs9 (by decide)) ?_
  walk_at "my steps"
  rename Fr _ _ _ _ => F21
  rename News _ _ _ _ => N21
  replace N21 := news_sub N21 (b := [(140, tabObj tb11), (147, tabObj tc11), (R10, listOf vs10.toArray n10), (R9, listOf vs9.toArray n9), (D5, listOf zs.toArray k5), (L + 1 + 1 + 1, o5), (L + 1 + 1, o2), (L + 1, o4), (D4, listOf ys4.toArray k4), (M2, listOf ys.toArray k2), (283, tabObj #[])]) (by ((repeat' (first | exact sub_nil' | refine sub_cons' ?_ ?_ | exact List.Mem.head _ | refine List.Mem.tail _ ?_))))
  have hpl := hpr.length_eq
  refine u_cut (HC (passed leZ rs).length (305 + 1) (50 + 3) (by (first | lia | omega)) (by (first | lia | omega)) (by (first | lia | omega))) F21 N21 off18 hst rfl (N21.isList (.tail _ (.tail _ (.tail _ (.head _))))) hvs9 hprok (fun y hy => hin y (hpr.mem_iff.mp hy)) htr11 htr11' hbare11 ?_
  clear F21 N21
  intro h12 gs12 tk12 R12 vs12 n12 tb12 tc12 F22 N22 hne12 hvs12 htr12 htr12' hbare12
  walk_at "my steps"
  rename Fr _ _ _ _ => F23
  rename News _ _ _ _ => N23
  have hnew := new_at F23
  refine PySem.EqBoolInt.of_rcne (strs_ne (N23.isList (.head _)) (N23.isList (.tail _ (.tail _ (.tail _ (.head _))))) hvs12 hvs10 (by decide)) ?_
  walk_at "my steps"
  rename Fr _ _ _ _ => F24
  rename News _ _ _ _ => N24
  rename IsRange _ _ _ _ _ _ _ _ => hrg
  rw [ranks_map] at hr4
  rw [← hrse] at hvs9 hvs10
  unfold rowsOf at hvs9 hvs10
  rw [passed_rows hpl0 hpl1 hmb _ (fun i hi => List.mem_range.mp hi)] at hvs9 hvs10
  have hp1 := passed_perm (fun t x => decide (rkOf ms pl t ≤ rkOf ms pl x)) (List.range ms.length)
  rw [passed_rows hpl0 hpl1 hmb _ (fun i hi => List.mem_range.mp (hp1.mem_iff.mp hi))] at hvs10
  have hp2 := passed_perm (fun t x => decide (rkOf ms pl t ≤ rkOf ms pl x)) (passed (fun t x => decide (rkOf ms pl t ≤ rkOf ms pl x)) (List.range ms.length))
  generalize hp1e : passed (fun t x => decide (rkOf ms pl t ≤ rkOf ms pl x)) (List.range ms.length) = p1 at *
  generalize hp2e : passed (fun t x => decide (rkOf ms pl t ≤ rkOf ms pl x)) p1 = p2 at *
  generalize hre : rkOf ms pl = r at *
  generalize hnm : ms.length = n at *
  have N24b := news_put (a := (h12.objs.size, _)) ⟨hrg, hnew⟩ N24
  have N25 := news_put (N24 (283, tabObj #[]) (by ((repeat' (first | exact sub_nil' | refine sub_cons' ?_ ?_ | exact List.Mem.head _ | refine List.Mem.tail _ ?_))))) (news_put (N24b _ (.head _)) (news_sub N24 (b := [(R10, listOf vs10.toArray n10), (R9, listOf vs9.toArray n9), (L + 1 + 1 + 1, o5), (L + 1 + 1, o2), (D4, listOf ys4.toArray k4), (M2, listOf ys.toArray k2), (140, tabObj tb12), (147, tabObj tc12)]) (by ((repeat' (first | exact sub_nil' | refine sub_cons' ?_ ?_ | exact List.Mem.head _ | refine List.Mem.tail _ ?_))))))
  clear N24 N24b
  have hcd6 : CodeHd g 285 283 := codeHd_in X (by kernel_rfl) (by decide)
  refine kla_eval rfl ?_
  refine kla_nest F24 N25 T hcd6 rfl (.head (all_cons ?_ (all_cons ?_ (all_cons ?_ (all_cons ?_ (all_cons ?_ (all_cons ?_ (all_cons ?_ (all_cons ?_ (all_cons ?_ all_nil)))))))))) ?_ rfl rfl ?_
  · exact ne_cls hrg (N25 _ (.head _)).1 (fun e => absurd (show Value.type "range" = (tabObj #[]).cls from e) (by decide))
  · exact list_off N25 (.tail _ (.tail _ (.head _))) (.head _)
  · exact list_off N25 (.tail _ (.tail _ (.tail _ (.head _)))) (.head _)
  · show L + 1 + 1 + 1 ≠ 283
    (first | lia | omega)
  · show L + 1 + 1 ≠ 283
    (first | lia | omega)
  · exact list_off N25 (.tail _ (.tail _ (.tail _ (.tail _ (.tail _ (.tail _ (.head _))))))) (.head _)
  · exact list_off N25 (.tail _ (.tail _ (.tail _ (.tail _ (.tail _ (.tail _ (.tail _ (.head _)))))))) (.head _)
  · show (140 : Nat) ≠ 283
    decide
  · show (147 : Nat) ≠ 283
    decide
  · exact True.intro
  intro f c' oc vs' t ctv h15 tk15 F34 N34 hd1 hd2 lt1 lt2
  clear F24 N25
  dsimp only at N34
  obtain ⟨td2, N34⟩ : ∃ td2, News g L h15 (_ :: _ :: (283, tabObj td2) :: _) := ⟨_, N34⟩
  have hrg2 := (N34 _ (.tail _ (.tail _ (.tail _ (.head _))))).1
  walk_at "my steps"
  show wpAny _ _ (call (.builtin "sorted") [.ref _] [(Str.ofString "key", .ref f)]) _ _ _
  refine sortedT (rk := r) rfl F34 N34 hrg2 (by (first | lia | omega)) (by (first | lia | omega)) ?_ ?_
  · intro i ti h16 tk16 own hi F35 N35
    have m5 := N35 (L + 1 + 1 + 1, o5) (by ((repeat' (first | exact sub_nil' | refine sub_cons' ?_ ?_ | exact List.Mem.head _ | refine List.Mem.tail _ ?_))))
    have m4 := N35 (D4, listOf ys4.toArray k4) (by ((repeat' (first | exact sub_nil' | refine sub_cons' ?_ ?_ | exact List.Mem.head _ | refine List.Mem.tail _ ?_))))
    obtain ⟨tI, hgi⟩ := ints_get hr4 hi
    have i63 := lt63 hi (Nat.le_trans hm6 (by decide))
    have i0 := Int.natCast_nonneg i
    have iL : ((i : Nat) : Int) < (((List.range n).map r).length : Nat) := by rw [List.length_map, List.length_range]; exact Int.ofNat_lt.mpr hi
    have hGn : ∀ b, g.get? b = none → G.get? b = none := fun b e => by
      cases e2 : G.get? b with
      | none => rfl
      | some o => rw [hst b o e2] at e; cases e
    refine wp_up (D := 400) (U := 200) rfl (by decide) (by decide) (wpAny_call ?_)
    refine' enterL (binds := [("k", .int (i : Nat) ti)]) [(L + 1 + 1 + 1, o5), (D4, listOf ys4.toArray k4)] D (stays_fr F35 hst) ?k3 ?k4 (N35 _ (.head _)).1 ⟨c', oc, vs', t, rfl, (N35 (c', oc) (by ((repeat' (first | exact sub_nil' | refine sub_cons' ?_ ?_ | exact List.Mem.head _ | refine List.Mem.tail _ ?_))))).1, hd1, hd2⟩ (by decide) rfl ?kB (by decide) rfl rfl rfl ?_
    case k3 => exact all_cons (m5.1) (all_cons (m4.1) all_nil)
    case k4 => exact all_cons (hGn _ m5.2.2) (all_cons (hGn _ m4.2.2) all_nil)
    case kB => exact locs rfl
    intro g2 L2 h17 hg2 hL2 F36 N36 X2 T2 l2 hk2 st2
    dsimp only
    walk_at "my steps"
    rename Fr _ _ _ _ => F37
    rename News _ _ _ _ => N37
    have e1 : ((List.range n).map r).getD (((i : Nat) : Int)).toNat 0 = r i := by simp [List.getD, hi]
    rw [e1] at N37
    refine kt_end F35 N35 ?_ hk2 F37 N37 rfl ⟨_, _, _, rfl⟩ ?_
    · exact all_cons (m5.1) (all_cons (m4.1) all_nil)
    · refine all_cons ?_ (all_cons ?_ all_nil)
      · intro e
        have := congrArg Obj.data e
        dsimp only at this
        rw [d5] at this
        cases this
      · intro e
        exact absurd (show Value.type "list" = Value.type "tuple" from congrArg Obj.cls e) (by decide)
  intro Do os co h18 tk18 ord F38 N38 hDo hos hpo hpw
  clear F34 N34
  walk_at "my steps"
  obtain ⟨m2, F39⟩ := fr_lawB F38 rfl rfl rfl
  replace N38 := news_sub N38 (b := [(Do, listOf os.toArray co), (L + 1 + 1, o2), (R10, listOf vs10.toArray n10), (R9, listOf vs9.toArray n9), (M2, listOf ys.toArray k2), (283, tabObj td2), (140, tabObj tb12), (147, tabObj tc12)]) (by ((repeat' (first | exact sub_nil' | refine sub_cons' ?_ ?_ | exact List.Mem.head _ | refine List.Mem.tail _ ?_))))
  clear F38
  with_unfolding_all refine stCNk (own := [(Do, _)]) (rest := [(R10, _), (R9, _), (M2, _), (283, _), (140, _), (147, _)]) F39 N38 rfl d2 (by cells_apart) (by cells_apart) ?_
  clear F39 N38
  intro h19 o6 F40 N40 d6
  dsimp only [List.cons_append, List.nil_append] at N40
  clear hrg hrg2 hnew
  walk_at "my steps"
  apply Assign_ListComp_DCr (h₀ := g) (L := L) (m := fun y => if y = "twice" then some (.ref R10) else if y = "once" then some (.ref R9) else if y = "modes" then some (.ref M2) else m2 y) (pz := fun _ => true) (d := fun a => .int ((ord.idxOf a.toNat : Nat) : Int))
  case hsw => with_unfolding_all rfl
  case hL => with_unfolding_all rfl
  case hh => with_unfolding_all rfl
  case hclos => with_unfolding_all rfl
  case hcell => decide
  case hkind => with_unfolding_all rfl
  case hnames => decide
  case hx => with_unfolding_all rfl
  case hy => with_unfolding_all rfl
  case hp => with_unfolding_all rfl
  case hs => intro _; with_unfolding_all rfl
  refine wpAny_rangePack ?_
  walk_at "my steps"
  rename Fr _ _ _ _ => F41
  rename News _ _ _ _ => N41
  rename IsRange _ _ _ _ _ _ _ _ => hrg3
  rw [hnm] at hrg3
  have hc6 := N41 (L + 1 + 1, o6) (by ((repeat' (first | exact sub_nil' | refine sub_cons' ?_ ?_ | exact List.Mem.head _ | refine List.Mem.tail _ ?_))))
  have hcO := N41 (Do, listOf os.toArray co) (by ((repeat' (first | exact sub_nil' | refine sub_cons' ?_ ?_ | exact List.Mem.head _ | refine List.Mem.tail _ ?_))))
  refine RangePack.intro ⟨_, _, 0, (n : Int), 1, _, _, _, n, rfl, hrg3, small_one (by (first | lia | omega)) (by (first | lia | omega)) (by (first | lia | omega)) (by (first | lia | omega)), ?_, (by rw [sizeLine_eq]; (first | lia | omega)), F41, N41, ?_, ?_, ?_⟩
  · first | exact rangeSize_nat _ _ | simp [Builtin.Range.rangeSize]
  · intro C a v s₂ m₂ E' hC ha hv hn hm hk
    obtain ⟨t, rfl⟩ := ItemKind.int_is hv
    have Fc := frInComp hn hk hC
    refine wpAny_leafK ?_
    walk_at "my steps"
  · intro C a v s₂ m₂ E' hC ha hv hpz hn hm hk
    obtain ⟨t, rfl⟩ := ItemKind.int_is hv
    rw [rangeInts_zero_one] at ha
    obtain ⟨i, hi, rfl⟩ := List.mem_map.mp ha
    have hio := hpo.mem_iff.mpr hi
    have Fc := frInComp hn hk hC
    have hcell : s₂.heap.IsCell (L + 1 + 1) (some (.ref Do)) := ⟨o6, hk _ _ hc6.1, d6⟩
    refine wpAny_leafK ?_
    walk_at "my steps"
    refine index_nats (hk _ _ hcO.1) hos hio (by rw [hpo.length_eq, List.length_range]; (first | lia | omega)) ?_
    try k_unfold
    exact SeqLeaf.intro ⟨Carried.int _ _, _, _, rfl, fun _ _ e => e⟩
  intro D8 ks h20 tk20 F42 N42 hD8 hl8 hnp8 hc8
  clear F41 N41 hc6 hcO
  obtain ⟨k8, N43, hne8⟩ := news_plain N42 F42 hD8 hnp8
  have hr8 : IntsAre ks ((List.range n).map fun i : Nat => ((ord.idxOf i : Nat) : Int)) := by
    rw [List.filter_eq_self.mpr (fun _ _ => rfl), rangeInts_zero_one] at hc8
    have := hc8.intsOf
    rw [List.map_map] at this
    exact this
  clear N42 hnp8 hc8 hne8 hl8 hrg3
  walk_at "my steps"
  have hnl1 : p1.length = n := by rw [hp1.length_eq, List.length_range]
  have hnl2 : p2.length = n := by rw [hp2.length_eq, hnl1]
  have hi1 : ∀ i ∈ p1, i < n := fun i hi => List.mem_range.mp (hp1.mem_iff.mp hi)
  have hi2 : ∀ i ∈ p2, i < n := fun i hi => hi1 i (hp2.mem_iff.mp hi)
  have hok1 : ∀ i, i < n → RowOk (rowAt ms pl i) := fun i hi => row_ok hpl0 hpl1 ⟨by (first | lia | omega), by (first | lia | omega)⟩
  have hwk := west_keys (n := n) (r := r) (ord := ord) (k := fun i => ((List.range n).map fun i : Nat => ((ord.idxOf i : Nat) : Int)).getD i 0) (by (first | lia | omega)) hpo hpw (fun i hi => by simp [List.getD, hi])
  rw [hp1e, hp2e] at hwk
  apply ListComp_DCn (h₀ := g) (L := L) (m := fun y => if y = "keys" then some (.ref D8) else if y = "twice" then some (.ref R10) else if y = "once" then some (.ref R9) else if y = "modes" then some (.ref M2) else m2 y) (K := ItemKind.str) (pz := fun _ => true) (d := fun a => .int (firstZ a))
  case hh => with_unfolding_all rfl
  case hclos => with_unfolding_all rfl
  case hcell => decide
  case hkind => with_unfolding_all rfl
  case hnames => decide
  case hx => with_unfolding_all rfl
  case hs => intro _; with_unfolding_all rfl
  refine wpAny_compPack ?_
  walk_at "my steps"
  rename Fr _ _ _ _ => F44
  rename News _ _ _ _ => N44
  refine CompPack.intro ⟨_, _, vs9, p1.map (rowAt ms pl), rfl, N44.isList (by ((repeat' (first | exact sub_nil' | refine sub_cons' ?_ ?_ | exact List.Mem.head _ | refine List.Mem.tail _ ?_)))), hvs9.areOf, (by rw [List.length_map, hnl1, sizeLine_eq]; (first | lia | omega)), F44, N44, ?_, ?_, ?_⟩
  · intro C a v s₂ m₂ E' hC ha hv hn hm hk
    obtain ⟨t, rfl⟩ := ItemKind.str_is hv
    have Fc := frInComp hn hk hC
    refine wpAny_leafK ?_
    walk_at "my steps"
  · intro C a v s₂ m₂ E' hC ha hv hpz hn hm hk
    obtain ⟨t, rfl⟩ := ItemKind.str_is hv
    obtain ⟨i, hi, rfl⟩ := List.mem_map.mp ha
    have hi6 : i < 6 := by have := hi1 i hi; (first | lia | omega)
    have hla : (rowAt ms pl i).length = 11 := (hok1 i (hi1 i hi)).len
    have e1 : -(((rowAt ms pl i).length : Nat) : Int) ≤ 0 := by rw [hla]; decide
    have e2 : (0 : Int) < (((rowAt ms pl i).length : Nat) : Int) := by rw [hla]; decide
    have Fc := frInComp hn hk hC
    refine wpAny_leafK ?_
    walk_at "my steps"
    rw [item_rowAt hpl0 hpl1]
    refine index_abc hi6 ?_
    try k_unfold
    refine SeqLeaf.intro ⟨?_, _, _, rfl, fun _ _ e => e⟩
    rw [first_rowAt hpl0 hpl1]
    exact Carried.int _ _
  intro DD es hX tkX F45 N45 hDD hlD hnpD hcD
  clear F44 N44
  obtain ⟨kD, N46, hneD⟩ := news_plain N45 F45 hDD hnpD
  have hrD : IntsAre es (p1.map fun i : Nat => (i : Int)) := by
    rw [List.filter_eq_self.mpr (fun _ _ => rfl)] at hcD
    have := hcD.intsOf
    rw [firsts_nat hpl0 hpl1] at this
    exact this
  clear N45 hnpD hcD hneD hlD
  walk_at "my steps"
  rename Fr _ _ _ _ => F47
  rename News _ _ _ _ => N47
  refine eq_intsK (N47.isList (by ((repeat' (first | exact sub_nil' | refine sub_cons' ?_ ?_ | exact List.Mem.head _ | refine List.Mem.tail _ ?_))))) hrD (N47.isList (by ((repeat' (first | exact sub_nil' | refine sub_cons' ?_ ?_ | exact List.Mem.head _ | refine List.Mem.tail _ ?_))))) hos (by decide) ?_
  rw [casts_eq]
  walk_at "my steps"
  rename Fr _ _ _ _ => F48
  rename News _ _ _ _ => N48
  refine u_three F48 N48 D hst rfl (by decide) (by decide) (N48.isList (by ((repeat' (first | exact sub_nil' | refine sub_cons' ?_ ?_ | exact List.Mem.head _ | refine List.Mem.tail _ ?_))))) hr8 (by rw [List.length_map, List.length_range]; (first | lia | omega)) ?_
  clear F48 N48
  intro b3 h22 tk22 hb3 F49 N49
  rw [List.length_map, List.length_range] at hb3
  have hb3' : (decide (p1 = ord) == b3) = false := by
    have h1 := hwk.1
    by_cases h3 : Three (fun i => ((List.range n).map fun i : Nat => ((ord.idxOf i : Nat) : Int)).getD i 0) n
    · rw [hb3.mpr h3, show decide (p1 = ord) = false from decide_eq_false fun e => h1.mp e h3]; rfl
    · rw [show b3 = false from Bool.eq_false_iff.mpr fun e => h3 (hb3.mp e), show decide (p1 = ord) = true from decide_eq_true (h1.mpr h3)]; rfl
  walk_at "my steps"
  apply ListComp_DCn (h₀ := g) (L := L) (m := fun y => if y = "keys" then some (.ref D8) else if y = "twice" then some (.ref R10) else if y = "once" then some (.ref R9) else if y = "modes" then some (.ref M2) else m2 y) (K := ItemKind.str) (pz := fun _ => true) (d := fun a => .int (firstZ a))
  case hh => with_unfolding_all rfl
  case hclos => with_unfolding_all rfl
  case hcell => decide
  case hkind => with_unfolding_all rfl
  case hnames => decide
  case hx => with_unfolding_all rfl
  case hs => intro _; with_unfolding_all rfl
  refine wpAny_compPack ?_
  walk_at "my steps"
  rename Fr _ _ _ _ => F44
  rename News _ _ _ _ => N44
  refine CompPack.intro ⟨_, _, vs10, p2.map (rowAt ms pl), rfl, N44.isList (by ((repeat' (first | exact sub_nil' | refine sub_cons' ?_ ?_ | exact List.Mem.head _ | refine List.Mem.tail _ ?_)))), hvs10.areOf, (by rw [List.length_map, hnl2, sizeLine_eq]; (first | lia | omega)), F44, N44, ?_, ?_, ?_⟩
  · intro C a v s₂ m₂ E' hC ha hv hn hm hk
    obtain ⟨t, rfl⟩ := ItemKind.str_is hv
    have Fc := frInComp hn hk hC
    refine wpAny_leafK ?_
    walk_at "my steps"
  · intro C a v s₂ m₂ E' hC ha hv hpz hn hm hk
    obtain ⟨t, rfl⟩ := ItemKind.str_is hv
    obtain ⟨i, hi, rfl⟩ := List.mem_map.mp ha
    have hi6 : i < 6 := by have := hi2 i hi; (first | lia | omega)
    have hla : (rowAt ms pl i).length = 11 := (hok1 i (hi2 i hi)).len
    have e1 : -(((rowAt ms pl i).length : Nat) : Int) ≤ 0 := by rw [hla]; decide
    have e2 : (0 : Int) < (((rowAt ms pl i).length : Nat) : Int) := by rw [hla]; decide
    have Fc := frInComp hn hk hC
    refine wpAny_leafK ?_
    walk_at "my steps"
    rw [item_rowAt hpl0 hpl1]
    refine index_abc hi6 ?_
    try k_unfold
    refine SeqLeaf.intro ⟨?_, _, _, rfl, fun _ _ e => e⟩
    rw [first_rowAt hpl0 hpl1]
    exact Carried.int _ _
  intro DD es hX tkX F45 N45 hDD hlD hnpD hcD
  clear F44 N44
  obtain ⟨kD, N46, hneD⟩ := news_plain N45 F45 hDD hnpD
  have hrD : IntsAre es (p2.map fun i : Nat => (i : Int)) := by
    rw [List.filter_eq_self.mpr (fun _ _ => rfl)] at hcD
    have := hcD.intsOf
    rw [firsts_nat hpl0 hpl1] at this
    exact this
  clear N45 hnpD hcD hneD hlD
  walk_at "my steps"
  rename Fr _ _ _ _ => F51
  rename News _ _ _ _ => N51
  refine eq_intsK (N51.isList (by ((repeat' (first | exact sub_nil' | refine sub_cons' ?_ ?_ | exact List.Mem.head _ | refine List.Mem.tail _ ?_))))) hrD (N51.isList (by ((repeat' (first | exact sub_nil' | refine sub_cons' ?_ ?_ | exact List.Mem.head _ | refine List.Mem.tail _ ?_))))) hos (by decide) ?_
  rw [casts_eq]
  walk_at "my steps"
  rename Fr _ _ _ _ => F52
  rename News _ _ _ _ => N52
  refine u_four F52 N52 D hst rfl (by decide) (by decide) (N52.isList (by ((repeat' (first | exact sub_nil' | refine sub_cons' ?_ ?_ | exact List.Mem.head _ | refine List.Mem.tail _ ?_))))) hr8 (by rw [List.length_map, List.length_range]; (first | lia | omega)) ?_
  clear F52 N52
  intro b4 h24 tk24 hb4 F53 N53
  rw [List.length_map, List.length_range] at hb4
  have hb4' : (decide (p2 = ord) == b4) = false := by
    have h1 := hwk.2
    by_cases h3 : Four (fun i => ((List.range n).map fun i : Nat => ((ord.idxOf i : Nat) : Int)).getD i 0) n
    · rw [hb4.mpr h3, show decide (p2 = ord) = false from decide_eq_false fun e => h1.mp e h3]; rfl
    · rw [show b4 = false from Bool.eq_false_iff.mpr fun e => h3 (hb4.mp e), show decide (p2 = ord) = true from decide_eq_true (h1.mpr h3)]; rfl
  walk_at "my steps"
  rename Fr _ _ _ _ => F54
  rename News _ _ _ _ => N54
  rw [show (decide (p2 = ord) != b4) = true by rw [bne, hb4']; rfl]
  exact hret _ (fun b o e h1 h2 h3 => F54.keep _ _ (hkeep b o e h1 h2 h3)) ⟨tb12, (N54 (140, _) (by ((repeat' (first | exact sub_nil' | refine sub_cons' ?_ ?_ | exact List.Mem.head _ | refine List.Mem.tail _ ?_))))).1⟩ ⟨tc12, (N54 (147, _) (by ((repeat' (first | exact sub_nil' | refine sub_cons' ?_ ?_ | exact List.Mem.head _ | refine List.Mem.tail _ ?_))))).1⟩ ⟨td2, (N54 (283, _) (by ((repeat' (first | exact sub_nil' | refine sub_cons' ?_ ?_ | exact List.Mem.head _ | refine List.Mem.tail _ ?_))))).1⟩ hbare12 rfl
end
end Mine
end

section
-- EndTB
example : True := by w_top off; trivial
open PySem PySem.W PyProof.Rows PySem.Calls PySem.Spec
set_option maxRecDepth 100000
namespace Mine
/-- how the claim's end is met -/
theorem good_end {claim : ClaimW} {cl : Str → Option Addr} {mean : ExcName → Option Value} {args : List WData} {s s' : Shared} {P1 P2 P3 c1 c2 c3 : Addr} (hr : ∀ cls, claim.raises args cls = false) (hp : claim.post args (.bool true) args = true)
    (T1 : CodeHd s.heap c1 P1) (T2 : CodeHd s.heap c2 P2) (T3 : CodeHd s.heap c3 P3) (h1 : s.heap.get? P1 = some (tabObj #[])) (h2 : s.heap.get? P2 = some (tabObj #[])) (h3 : s.heap.get? P3 = some (tabObj #[]))
    (hk : ∀ b o, s.heap.get? b = some o → b ≠ P1 → b ≠ P2 → b ≠ P3 → s'.heap.get? b = some o) (k1 : ∃ t, s'.heap.get? P1 = some (tabObj t)) (k2 : ∃ t, s'.heap.get? P2 = some (tabObj t)) (k3 : ∃ t, s'.heap.get? P3 = some (tabObj t)) (hb : AllBare s'.gens) (ho : s'.os = s.os) :
    GoodWG claim cl mean args s (.ok (.ret (.bool true))) s' := by
  have old : ∀ P c, CodeHd s.heap c P → s.heap.get? P = some (tabObj #[]) → (∃ t, s'.heap.get? P = some (tabObj t)) → ∀ o, s.heap.get? P = some o → asItWas s.heap s'.heap P o ∧ ∃ o', s'.heap.get? P = some o' := by
    intro P c T h k o e
    obtain ⟨t, k⟩ := k
    rw [h] at e
    cases e
    exact ⟨.inr (.inl ⟨(T.tab h).isCodeTable, rfl, #[], t, rfl, by rw [Array.empty_append]; exact k⟩), _, k⟩
  have all : ∀ b o, s.heap.get? b = some o → asItWas s.heap s'.heap b o ∧ ∃ o', s'.heap.get? b = some o' := by
    intro b o e
    by_cases e1 : b = P1
    · subst e1; exact old _ _ T1 h1 k1 o e
    by_cases e2 : b = P2
    · subst e2; exact old _ _ T2 h2 k2 o e
    by_cases e3 : b = P3
    · subst e3; exact old _ _ T3 h3 k3 o e
    exact ⟨.inl (hk b o e e1 e2 e3), _, hk b o e e1 e2 e3⟩
  exact ⟨.inl ⟨.bool true, .bool true, [], rfl, hr, .bool true, hp, fun _ => ⟨.nil, fun _ h => nomatch h⟩⟩, ⟨fun b o e => (all b o e).1, fun b o e => (all b o e).2⟩, ho, hb⟩
theorem post_ok (x y : List WData) : Challenge.rw_oc0165_02.row.claim.post x (.bool true) y = true := by
  unfold RowW.claim
  dsimp only [OpenLaw.row]
  rw [Bool.and_eq_true]
  refine ⟨by decide +kernel, ?_⟩
  have e : W.same (.bool true) (.bool true) = true := by decide +kernel
  simp [WTm.holds, WTm.value, e]
end Mine
end

open PySem PySem.W PyProof.Rows PySem.Calls PySem.Spec
set_option maxRecDepth 100000
set_option maxRecDepth 100000 in
set_option maxHeartbeats 8000000 in
theorem PySem.Challenge.cw_oc0165_02_holds : PySem.Challenge.rw_oc0165_02.Holds :=
  Mine.hd (by
    k_fill
    intro w s₀ s₁ mg mb G Y fa o pm cd doc dV kV ho hd hcd hD hmg hg args vals as hpre hlay hrd hwl hlo
    have KX := km_in_of Y
    have hT8 := km_tabs_of Y
    refine Ground.open G ?_
    intro T B D TE TW
    try (refine guard_noD D (by decide +kernel) ?_; clear D)
    have hfa := mg_of (n := Str.ofString "law") (v := .ref 286) KX T.g (by kernel_rfl)
    rw [hmg] at hfa
    cases hfa
    clear hd
    wrow_args hpre hlay hrd hwl hlo
    first | refine callC_kw (enter_call ?_) | refine enter_call ?_
    w_top on
    rename Heap.IsList _ _ _ => hL
    rename IntsAre _ _ => hI
    rename ¬ _ < _ => hlen
    have C1 : CodeHd s₁.heap 144 140 := Mine.codeHd_in KX (by kernel_rfl) (by decide)
    have C2 : CodeHd s₁.heap 151 147 := Mine.codeHd_in KX (by kernel_rfl) (by decide)
    have C3 : CodeHd s₁.heap 285 283 := Mine.codeHd_in KX (by kernel_rfl) (by decide)
    have h1 := hT8 140 (by decide)
    have h2 := hT8 147 (by decide)
    have h3 := hT8 283 (by decide)
    have hT : TabsAt [(144, 140), (151, 147), (285, 283)] s₁.heap := by
      refine Mine.all_cons ?_ (Mine.all_cons ?_ (Mine.all_cons ?_ Mine.all_nil))
      · exact ⟨C1, h1⟩
      · exact ⟨C2, h2⟩
      · exact ⟨C3, h3⟩
    have GK := ghost_K hT KX (by kernel_rfl)
    have GT := ghost_top hT T
    refine Mine.code_up (D := 305) (U := 50) rfl (by decide) (by decide) (Mine.c_law ⟨GK, GT⟩ (fun b o e => of_hideAll _ e) hL hI (by omega) h1 True.intro (hideAll_none _ (by decide)) h2 True.intro (hideAll_none _ (by decide)) h3 (hideAll_none _ (by decide)) (AllBare.of_eq hg) ?_)
    intro s' hk k1 k2 k3 hb hos
    exact Mine.good_end (fun _ => rfl) (Mine.post_ok _ _) C1 C2 C3 h1 h2 h3 hk k1 k2 k3 hb hos)
