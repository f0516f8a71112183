import PyProof.Rows.All
import Wide.All
import OpenK.AllK
import Wide.FinOn
import Lean
import PySem.Challenge.RW_oc0165_01
set_option Elab.async false

section
-- Hd1
namespace Mine
open PySem PySem.W PyProof.Rows
/-- the top's run over a tree of objects -/
noncomputable def goT (so : Nat → Option Value → Thread → Bool) (st : SharedT → Thread → Option (SharedT × Thread)) (n₀ : Nat) (ann : Option Value) : Nat → SharedT → Thread → Option SharedT
  | 0, _, _ => none
  | n + 1, s, t => match through t with
    | true => some s
    | false => match so n₀ ann t with
      | false => none
      | true => match st s t with
        | some (s', t') => goT so st n₀ ann n s' t'
        | none => none
theorem goT_of {tb : String → Option Builtin} {p : Program} {w : World} {n₀ : Nat} {ann : Option Value} : ∀ {n : Nat} {s s' : SharedT} {t : Thread}, goT stepOk (stepT (denote tb) p w) n₀ ann n s t = some s' → topRun tb p w n₀ ann n s.abs t = some s'.abs
  | 0, _, _, _, h => by cases h
  | n + 1, s, s', t, h => by
    unfold goT at h
    unfold topRun
    cases ht : through t with
    | true => rw [ht] at h; cases h; rfl
    | false =>
      rw [ht] at h
      cases hk : stepOk n₀ ann t with
      | false => rw [hk] at h; cases h
      | true =>
        rw [hk] at h
        cases hs : stepT (denote tb) p w s t with
        | none => rw [hs] at h; cases h
        | some r => obtain ⟨s₂, t₂⟩ := r; rw [hs] at h; rw [stepT_spec hs]; exact goT_of h
theorem left_tree {p q : Program} {loose : List Str} {Xt : Shared → Bool} {α : Type} {Yf : Shared → α} {Ya : World → α} {N m : Nat} {g0 : Bool} {T : Params → BT} {life : Life} {ann : Option Value} (e : opening p = plainProg p.main.scope.names) (hN : Nat.ble 600 N = true) (f : ∀ s, fenceModules? p s = some s)
    (hT : ∀ P, absHeap (T P) m life = boot_heap P) (z : ∀ P, ((boot_heap P).isNs mainGlobals, (boot_heap P).nsMap mainGlobals "__annotations__") = (true, ann))
    {so : Nat → Option Value → Thread → Bool} {dn : Code → Sem Fin} {st : (Code → Sem Fin) → Program → World → SharedT → Thread → Option (SharedT × Thread)} (e1 : stepOk = so) (e2 : denote treeTable = dn) (e3 : stepT = st) {ls : Program → List Str → List Str → (Shared → Bool) → Bool → Shared → _} (e4 : openSeen = ls)
    (h : ∀ (w : World) (os : OsState), (goT so (st dn p w) m ann N ⟨T w.params, m, life, Array.mk [], boot_drawn, boot_toks, os⟩ (topStub p)).map (fun s => ((staticsOk (importedModules p.main.body) (boot_heap w.params) s.abs.heap && namesBound p s.abs.heap && gensDone s.abs && laidKept (boot_heap w.params) s.abs.heap), ls q loose (importedModules p.main.body) Xt g0 s.abs, Yf s.abs)) = some (true, openGood q loose, Ya w)) : LeftO p q loose Xt Yf Ya N g0 := fun w => by
  subst e1 e2 e3 e4
  obtain ⟨⟨hp, gs, d, k, os⟩, x, y⟩ := Option.map_eq_some_iff.mp (boot_open e hN f w)
  obtain ⟨rfl, rfl, rfl, rfl⟩ : hp = boot_heap w.params ∧ gs = Array.mk [] ∧ d = boot_drawn ∧ k = boot_toks := by simpa using y
  obtain ⟨s', a, b⟩ := Option.map_eq_some_iff.mp (h w os)
  obtain ⟨b1, b2, b3⟩ : _ ∧ _ ∧ _ := by simpa only [Prod.mk.injEq] using b
  obtain ⟨z1, z2⟩ : _ ∧ _ := by simpa only [Prod.mk.injEq] using z w.params
  have r := goT_of a
  have sz : (boot_heap w.params).objs.size = m := by rw [← hT, absHeap_size]
  have ab : SharedT.abs ⟨T w.params, m, life, Array.mk [], boot_drawn, boot_toks, os⟩ = ⟨boot_heap w.params, Array.mk [], boot_drawn, boot_toks, os⟩ := by rw [← hT]; rfl
  rw [ab] at r
  have t : topFrom treeTable p w N ⟨boot_heap w.params, Array.mk [], boot_drawn, boot_toks, os⟩ = some s'.abs := by
    unfold topFrom
    dsimp only
    rw [z1, z2, sz, r]
    show (match staticsOk (importedModules p.main.body) (boot_heap w.params) s'.abs.heap && namesBound p s'.abs.heap && gensDone s'.abs && laidKept (boot_heap w.params) s'.abs.heap with | true => _ | false => _) = _
    rw [b1]
  unfold openEnds
  rw [x]
  show ((topFrom treeTable p w N _).map _) = _
  rw [t]
  show some (_, _) = _
  rw [b2, b3]
/-- the heap of the boot as a tree -/
noncomputable def bootT (P : Params) : BT := (boot_heap P).objs.toList.zipIdx.foldl (fun t x => t.ins x.2 x.1) .nil
theorem bootT_abs : ∀ P, absHeap (bootT P) 11 { debug := 0, thresholds := [2000, 10, 10] } = boot_heap P := by intro P; kernel_rfl
theorem den_tw : denote treeTable = Fast.tw11892475500146522536 Fast.tw14364793385576792824 := by rw [Fast.te11892475500146522536, Fast.te14364793385576792824]
/-- the top's statements that the walk sees -/
noncomputable def view : Program := { Challenge.pw_oc0165_01 with main := { Challenge.pw_oc0165_01.main with body := (Challenge.pw_oc0165_01.main.body.zipIdx.filter fun x => x.2 != 1 && x.2 != 6 && x.2 != 29 && x.2 != 31).map fun x => x.1 } }
noncomputable def bitsOf (l : List (Int × Nat)) : WData := .tuple (l.map fun q => .tuple [.int q.1, .str ⟨#[q.2]⟩])
noncomputable def looseL : List Str := [Str.ofString "_Accumulator", Str.ofString "_filemode_table"]
noncomputable def seenL : List (Str × WData) := [(Str.ofString "_filemode_table", WData.tuple [bitsOf [(40960, 108), (49152, 115), (32768, 45), (24576, 98), (16384, 100), (8192, 99), (4096, 112)], bitsOf [(256, 114)], bitsOf [(128, 119)], bitsOf [(2112, 115), (2048, 83), (64, 120)],
  bitsOf [(32, 114)], bitsOf [(16, 119)], bitsOf [(1032, 115), (1024, 83), (8, 120)], bitsOf [(4, 114)], bitsOf [(2, 119)], bitsOf [(513, 116), (512, 84), (1, 120)]])]
local macro_rules | `(tactic| o_head ($f $k $a $e $ts)) => do match ts with
  | `($_ :: []) => do
    let (hw, hc) := (Lean.mkIdent `hw, Lean.mkIdent `hc)
    `(tactic| (refine holds_open (q := view) (loose := looseL) (Xt := fun s => xlAt view seenL s && recOk (RowW.records (OpenRow.toRowW (OpenLaw.row Challenge.rw_oc0165_01))) s) (XP := XL view seenL) (Yf := Hook.obs ($f $k $a $e [140, 147, 286])) (Ya := Hook.val ($f $k $a $e [140, 147, 286])) (YP := Hook.says ($f $k $a $e [140, 147, 286])) (N := 3652) ?_ (Hook.of ($f $k $a $e [140, 147, 286])) (Hook.keeps ($f $k $a $e [140, 147, 286])) (fun s e => xl_of s (Bool.and_eq_true_iff.mp e).1) XL.keeps (by rfl) (by rfl) (by rfl) (fun s e => recFacts_of (Bool.and_eq_true_iff.mp e).2) (by rfl) (by first | assumption | decide +kernel) (by decide +kernel) ⟨rfl, rfl, rfl, rfl, rfl, by decide +kernel⟩ ?$hw ?$hc; (focus (refine left_tree (T := bootT) (ann := some (.ref 6)) (by kernel_rfl) (by kernel_rfl) (fun s => by kernel_rfl) bootT_abs (fun P => by kernel_rfl) Fast.te6613529449190102663 den_tw Fast.te10156331382660048174 Fast.te4187177175401517315 fun w os => ?_; kernel_rfl))))
  | _ => Lean.Macro.throwUnsupported
set_option maxRecDepth 100000 in
theorem said0 : OpenLaw.wellSaid Challenge.rw_oc0165_01 = true := by rw [Fast.te9446332074065402090]; kernel_rfl
local macro_rules | `(tactic| o_law) => `(tactic| refine holds_law said0 fun said => ?_)
set_option maxRecDepth 100000 in
set_option maxHeartbeats 8000000 in
open_top hd for PySem.Challenge.rw_oc0165_01
theorem top_off : True := by
  w_top off
  trivial
end Mine
end

section
-- Base
example : True := by w_top off; trivial
open PySem PySem.W PyProof.Rows PySem.Calls PySem.Spec
namespace Mine
/-- what is known around a call: nothing handled, so deep, so many units -/
noncomputable abbrev Am (dp un : Nat) : Around := { handled := none, depth := dp, frames := none, guards := none, units := un }
theorem wp_up {α : Type} {M : Model} {A : Around} {D U : Nat} {t : Sem α} {Q : α → Shared → Prop} {E : Value → Shared → Prop} {s : Shared}
    (hh : A.handled = none) (hd : A.depth ≤ D) (hu : A.units ≤ U) (h : wpAny M (Am D U) t Q E s) : wpAny M A t Q E s :=
  fun Γ p hΓ => h Γ p ⟨hΓ.1.trans hh, Nat.le_trans hΓ.2.1 hd, (fun _ e => by cases e), (fun _ e => by cases e), Nat.le_trans hΓ.2.2.2.2 hu⟩
theorem code_up {M : Model} {A : Around} {D U : Nat} {c : Code} {R : Result → Shared → Prop} {s : Shared}
    (hh : A.handled = none) (hd : A.depth ≤ D) (hu : A.units ≤ U) (h : codeAny M (Am D U) c R s) : codeAny M A c R s :=
  fun Γ p hc hΓ => h Γ p hc ⟨hΓ.1.trans hh, Nat.le_trans hΓ.2.1 hd, (fun _ e => by cases e), (fun _ e => by cases e), Nat.le_trans hΓ.2.2.2.2 hu⟩

/-- the ground: the text's own objects, the top -/
structure Gd (w : World) (p : Program) (loose : List Str) (mean : ExcName → Option Value) (mg mb : Str → Option Value) (G : Heap) : Prop where
  X : (hd.heap_1 w.params).In G
  T : Top p loose mean mg mb G

section
variable {w : World} {p : Program} {loose : List Str} {mean : ExcName → Option Value} {mg mb : Str → Option Value} {G : Heap} {s : Shared}
  {R : Result → Shared → Prop} {name qual : Str} {params : Arguments} {body : List Stmt} {scope : Scope} {cl : List (Str × Addr)} {dV kV doc pm cdv ct oc : Value} {an od : Option Addr} {osl : Array (Option Value)} {f : Addr} {args : Args} {binds : List (Str × Value)} {dp un : Nat}

/-- a def is entered; the objects of led may be changed by it, all others not -/
theorem enterP (led : List (Addr × Obj)) (D : Gd w p loose mean mg mb G) (S : G.StaysIn s.heap) (hl : ∀ q ∈ led, s.heap.get? q.1 = some q.2) (hf : ∀ q ∈ led, G.get? q.1 = none)
    (ho : (hd.heap_1 w.params).lookup f = some ⟨oc, od, .func (fnX name qual params body scope cl dV kV doc pm an cdv ct), osl⟩) (hcd : codeIn (hd.heap_1 w.params) cdv qual = true) (hroom : dp < recursionLimit)
    (hbind : BindsTo s (fnX name qual params body scope cl dV kV doc pm an cdv ct) args binds) (hloc : ∀ y ∈ binds, scope.names.lookup y.1 = some .local)
    (hcell : ∀ x ∈ scope.names, x.2 ≠ .cell) (hco : scope.isCoroutine = false) (hgen : scope.isGenerator = false) (hk : scope.kind = .function)
    (h : ∀ g L' h₁, g = hideAll s.heap (led.map (·.1)) → L' = s.heap.objs.size → Fr g L' h₁ (fun y => binds.reverse.lookup y) → News g L' h₁ led → (hd.heap_1 w.params).In g → Top p loose mean mg mb g → (∀ q ∈ led, q.1 < L') →
      (∀ b o, s.heap.get? b = some o → (∀ q ∈ led, q.1 ≠ b) → g.get? b = some o) → G.StaysIn g →
      wpAny (model Challenge.rw_oc0165_01.row.prog w) (Am (dp + 1) (un + 3)) (execs body (envX qual scope L' f cdv cl)) (fun fl s' => R (.ok (.ret (match fl with | .ret v => v | _ => .none))) s') (fun _ _ => False)
        { s with heap := h₁, toks := s.toks + binds.length }) : codeAny (model Challenge.rw_oc0165_01.row.prog w) (Am dp un) (.call (.ref f) args) R s := by
  have nm : ∀ b o, G.get? b = some o → b ∉ led.map (·.1) := fun b o e q => by
    obtain ⟨p, hp, rfl⟩ := List.mem_map.mp q
    rw [hf p hp] at e; cases e
  have st : G.StaysIn (hideAll s.heap (led.map (·.1))) := fun b o e => hideAll_get _ (S b o e) (nm b o e)
  refine codeAny_call_def (fd := fnX name qual params body scope cl dV kV doc pm an cdv ct) (body := body) (binds := binds) hroom (S _ _ (D.X _ _ ho)) rfl (D.T.nolimit.keeps S) (codeRec_of (D.X.keeps S) hcd) rfl hbind hcell hloc (fun h₁ hns hk₁ => ?_) hco hgen hk
  refine wpAny_mono (h _ s.heap.objs.size h₁ rfl rfl ⟨hns, fun b o e => hk₁ b o (of_hideAll _ e), Nat.le_of_eq (hideAll_size _ _)⟩
    (fun p hp => ⟨hk₁ _ _ (hl p hp), Nat.ne_of_lt (Heap.lt_size (hl p hp)), hideAll_none _ (List.mem_map_of_mem hp)⟩) (D.X.keeps st) (D.T.keeps st) (fun p hp => Heap.lt_size (hl p hp))
    (fun b o e n => hideAll_get _ e fun q => ?_) st) (fun fl s' x => x) fun _ _ x => x.elim
  obtain ⟨p, hp, e'⟩ := List.mem_map.mp q
  exact n p hp e'
end
theorem as_if {m : Str → Option Value} {x : Str} {v : Value} (e : m x = some v) : ∃ m' : Str → Option Value, m = fun y => if y = x then some v else m' y :=
  ⟨m, by funext y; by_cases h : y = x <;> simp [h, e]⟩
theorem keeps_of {g h₁ h' : Heap} {L : Addr} {m : Str → Option Value} (hk : ∀ b o, h₁.get? b = some o → (∀ q ∈ ([] : List (Addr × Obj)), q.1 ≠ b) → g.get? b = some o) (F : Fr g L h' m) : ∀ b o, h₁.get? b = some o → h'.get? b = some o :=
  fun b o e => F.keep b o (hk b o e fun _ q => nomatch q)
theorem stays_fr {G g h : Heap} {L : Addr} {m : Str → Option Value} (F : Fr g L h m) (hs : G.StaysIn g) : G.StaysIn h := fun b o e => F.keep b o (hs b o e)
theorem frK {h₀ h : Heap} {L : Addr} {m : Str → Option Value} (F : Fr h₀ L h m) {h' : Heap} (hk : ∀ b o, h.get? b = some o → h'.get? b = some o) : Fr h₀ L h' m :=
  ⟨F.ns.at' fun o e => hk _ o e, fun b o e => hk b o (F.keep b o e), F.above⟩
theorem newsK {h₀ h : Heap} {L : Addr} {nw : List (Addr × Obj)} (N : News h₀ L h nw) {h' : Heap} (hk : ∀ b o, h.get? b = some o → h'.get? b = some o) : News h₀ L h' nw :=
  fun q hq => ⟨hk _ _ (N q hq).1, (N q hq).2⟩
theorem as_if2 {m : Str → Option Value} {x1 x2 : Str} {v1 v2 : Value} (e1 : m x1 = some v1) (e2 : m x2 = some v2) : ∃ m' : Str → Option Value, m = fun y => if y = x1 then some v1 else if y = x2 then some v2 else m' y :=
  ⟨m, by funext y; by_cases h1 : y = x1; (· subst h1; simp only [if_true]; exact e1); by_cases h2 : y = x2; (· subst h2; simp only [if_neg h1, if_true]; exact e2); simp only [if_neg h1, if_neg h2]⟩
theorem as_if3 {m : Str → Option Value} {x1 x2 x3 : Str} {v1 v2 v3 : Value} (e1 : m x1 = some v1) (e2 : m x2 = some v2) (e3 : m x3 = some v3) : ∃ m' : Str → Option Value, m = fun y => if y = x1 then some v1 else if y = x2 then some v2 else if y = x3 then some v3 else m' y :=
  ⟨m, by funext y; by_cases h1 : y = x1; (· subst h1; simp only [if_true]; exact e1); by_cases h2 : y = x2; (· subst h2; simp only [if_neg h1, if_true]; exact e2); by_cases h3 : y = x3; (· subst h3; simp only [if_neg h1, if_neg h2, if_true]; exact e3); simp only [if_neg h1, if_neg h2, if_neg h3]⟩
theorem as_if4 {m : Str → Option Value} {x1 x2 x3 x4 : Str} {v1 v2 v3 v4 : Value} (e1 : m x1 = some v1) (e2 : m x2 = some v2) (e3 : m x3 = some v3) (e4 : m x4 = some v4) : ∃ m' : Str → Option Value, m = fun y => if y = x1 then some v1 else if y = x2 then some v2 else if y = x3 then some v3 else if y = x4 then some v4 else m' y :=
  ⟨m, by funext y; by_cases h1 : y = x1; (· subst h1; simp only [if_true]; exact e1); by_cases h2 : y = x2; (· subst h2; simp only [if_neg h1, if_true]; exact e2); by_cases h3 : y = x3; (· subst h3; simp only [if_neg h1, if_neg h2, if_true]; exact e3); by_cases h4 : y = x4; (· subst h4; simp only [if_neg h1, if_neg h2, if_neg h3, if_true]; exact e4); simp only [if_neg h1, if_neg h2, if_neg h3, if_neg h4]⟩
end Mine
end

section
-- Loops
example : True := by w_top off; trivial
open PySem PySem.W PyProof.Rows PySem.Calls PySem.Spec
namespace Mine
/-- what a turn of a loop leaves -/
inductive LoopNext (h₀ : Heap) (L : Addr) (own : List (Addr × Obj)) (J : (Str → Option Value) → List (Addr × Obj) → Array GenState → Prop) (d : Drawn) (os : OsState) (s₂ : Shared) : Prop
  | mk (h' : Heap) (tk : Nat) (m' : Str → Option Value) (nw' : List (Addr × Obj)) (gs' : Array GenState) (e : s₂ = ⟨h', gs', d, tk, os⟩) (F : Fr h₀ L h' m') (N : News h₀ L h' (nw' ++ own)) (o : OwnOff own (nw'.map (·.1))) (j : J m' nw' gs')
/-- what holds between the turns -/
inductive LoopInv (h₀ : Heap) (L : Addr) (wr : List Addr) (St : Nat → Heap → Prop) (J : Nat → (Str → Option Value) → List (Addr × Obj) → Array GenState → Prop) (d : Drawn) (os : OsState) (n k : Nat) (s' : Shared) : Prop
  | mk (i : Nat) (h : Heap) (tk : Nat) (m : Str → Option Value) (nw : List (Addr × Obj)) (gs : Array GenState) (ek : k = n + 1 - i) (hi : i ≤ n) (e : s' = ⟨h, gs, d, tk, os⟩) (F : Fr h₀ L h m) (N : News h₀ L h nw) (hw : ∀ q ∈ nw, q.1 ∉ wr) (st : St i h) (j : J i m nw gs)
noncomputable def LoopPost (h₀ : Heap) (L : Addr) (own : List (Addr × Obj)) (J : (Str → Option Value) → List (Addr × Obj) → Array GenState → Prop) (d : Drawn) (os : OsState) (Q : Flow → Shared → Prop) (f : Flow) (s₂ : Shared) : Prop :=
  match f with
  | .ret v => Q (.ret v) s₂
  | .brk => Q .next s₂
  | _ => LoopNext h₀ L own J d os s₂

theorem exists_own {h : Heap} : ∀ {wr : List Addr}, (∀ b ∈ wr, ∃ o, h.get? b = some o) → ∃ own : List (Addr × Obj), own.map (·.1) = wr ∧ ∀ q ∈ own, h.get? q.1 = some q.2
  | [], _ => ⟨[], rfl, fun _ q => nomatch q⟩
  | b :: r, x => by
    obtain ⟨o, ho⟩ := x b (.head _)
    obtain ⟨own, h1, h2⟩ := exists_own (wr := r) fun b' hb => x b' (.tail _ hb)
    refine ⟨(b, o) :: own, by rw [List.map_cons, h1], fun q hq => ?_⟩
    rcases List.mem_cons.mp hq with rfl | hq
    · exact ho
    · exact h2 q hq

section
variable {prog : Program} {w : World} {A : Around} {E : Value → Shared → Prop} {s : Shared} {env : Env} {h₀ : Heap} {body orelse : List Stmt} {Q : Flow → Shared → Prop}

theorem forW {x : Str} {px : Pos} {I : Addr} {fp wr : List Addr} {n : Nat} {P : Nat → Value → Prop} {St : Nat → Heap → Prop} {m₀ : Str → Option Value} {nw₀ : List (Addr × Obj)}
    (J : Nat → (Str → Option Value) → List (Addr × Obj) → Array GenState → Prop)
    (W : Walks prog w A I fp wr n P St) (hlive : ∀ i h, St i h → ∀ b ∈ wr, ∃ o, h.get? b = some o)
    (hx : env.kindOf x = some .local) (hp : (env.scope.kind == .class || (env.scope.kind == .module && env.locals != env.globals)) = false)
    (hLf : env.locals ∉ fp) (hbw : ∀ b ∈ wr, h₀.get? b = none)
    (F : Fr h₀ env.locals s.heap m₀) (N : News h₀ env.locals s.heap nw₀) (hnw : ∀ q ∈ nw₀, q.1 ∉ wr) (hst : St 0 s.heap) (h0 : J 0 m₀ nw₀ s.gens)
    (hsrc0 : ∀ b ∈ fp, b ∉ wr → ∃ o, s.heap.get? b = some o)
    (hsrc : ∀ i m nw gs h, J i m nw gs → Fr h₀ env.locals h m → News h₀ env.locals h nw → ∀ b ∈ fp, b ∉ wr → ∀ o, s.heap.get? b = some o → h.get? b = some o)
    (turn : ∀ i v m nw h tk gs own E', i < n → P i v → J i m nw gs → OwnOff own (nw.map (·.1)) → Fr h₀ env.locals h (fun y => if y = x then some v else m y) → News h₀ env.locals h (nw ++ own) →
      wpAny (model prog w) A (execs body env) (LoopPost h₀ env.locals own (J (i + 1)) s.drawn s.os Q) E' ⟨h, gs, s.drawn, tk, s.os⟩)
    (done : ∀ m nw h tk gs E', J n m nw gs → Fr h₀ env.locals h m → News h₀ env.locals h nw → wpAny (model prog w) A (execs orelse env) Q E' ⟨h, gs, s.drawn, tk, s.os⟩) :
    codeAny (model prog w) A (.forLoop (.Name x px) (.ref I) body orelse env) (fun r s' => match r with | .ok f => Q f s' | .error e => cameBackBy (model prog w) A env E e s') s := by
  have hLw : env.locals ∉ wr := fun q => hLf (W.sub _ q)
  refine codeAny_forLoop (LoopInv h₀ env.locals wr St J s.drawn s.os n) ?_ (n + 1)
    ⟨0, s.heap, s.toks, m₀, nw₀, s.gens, rfl, Nat.zero_le _, rfl, F, N, hnw, hst, h0⟩
  rintro k s' ⟨i, h, tk, m, nw, gs, rfl, hi, rfl, F₁, N₁, hw₁, hst₁, hJ⟩
  by_cases hlt : i < n
  · refine W.item i _ _ _ hlt hst₁ fun v h₂ tk₂ hP hst₂ hk₂ => ?_
    replace hk₂ : ∀ b o, b ∉ wr → h.get? b = some o → h₂.get? b = some o := hk₂
    have F₂ : Fr h₀ env.locals h₂ m := ⟨F₁.ns.at' fun o e => hk₂ _ o hLw e, fun b o e => hk₂ b o (fun q => by rw [hbw b q] at e; cases e) (F₁.keep b o e), F₁.above⟩
    obtain ⟨own, ho1, ho2⟩ := exists_own (hlive _ _ hst₂)
    have hoff : OwnOff own (nw.map (·.1)) := fun q hq b hb e => by
      obtain ⟨r, hr, rfl⟩ := List.mem_map.mp hb
      exact hw₁ r hr (e ▸ ho1 ▸ List.mem_map_of_mem hq)
    have N₂ : News h₀ env.locals h₂ (nw ++ own) := fun q hq => by
      rcases (List.mem_append.mp hq).symm with hq | hq
      · have hm : q.1 ∈ wr := ho1 ▸ List.mem_map_of_mem hq
        exact ⟨ho2 q hq, fun e => hLw (e ▸ hm), hbw _ hm⟩
      · exact ⟨hk₂ _ _ (hw₁ q hq) (N₁ q hq).1, (N₁ q hq).2⟩
    refine wpAny_assign_Name (wpAny_storeName_local hx F₂.ns (fun h₃ hn₃ hs₃ => ?_) hp)
    have F₃ := F₂.set hn₃ hs₃
    have N₃ := N₂.set hs₃
    have hst₃ : St (i + 1) h₃ := W.frame _ _ _ hst₂ fun b hb o e => (hs₃.2 b fun q => hLf (q ▸ hb)).trans e
    refine wpAny_mono (turn i v m nw h₃ _ gs own _ hlt hP hJ hoff F₃ N₃) (fun f s₃ hf => ?_) fun _ _ e => e
    have fin : LoopNext h₀ env.locals own (J (i + 1)) s.drawn s.os s₃ →
        ∃ k', k' < n + 1 - i ∧ LoopInv h₀ env.locals wr St J s.drawn s.os n k' s₃ := by
      rintro ⟨h', tk', m', nw', gs', rfl, F', N', ho', hJ'⟩
      have hw' : ∀ q ∈ nw', q.1 ∉ wr := fun q hq hm => by
        rw [← ho1] at hm
        obtain ⟨r, hr, e⟩ := List.mem_map.mp hm
        exact ho' r hr q.1 (List.mem_map_of_mem hq) e
      have N'' : News h₀ env.locals h' nw' := fun q hq => N' q (List.mem_append_left _ hq)
      refine ⟨n + 1 - (i + 1), by omega, i + 1, h', tk', m', nw', gs', rfl, hlt, rfl, F', N'', hw', W.frame _ _ _ hst₃ fun b hb o e => ?_, hJ'⟩
      by_cases hbw' : b ∈ wr
      · rw [← ho1] at hbw'
        obtain ⟨q, hq, rfl⟩ := List.mem_map.mp hbw'
        have e1 := (N₃ q (List.mem_append_right _ hq)).1
        have e2 := (N' q (List.mem_append_right _ hq)).1
        rw [e1] at e
        exact e2.trans e
      · obtain ⟨o₀, ho₀⟩ := hsrc0 b hb hbw'
        have e1 := hsrc _ _ _ _ _ hJ F₁ N₁ b hb hbw' o₀ ho₀
        have e2 := hsrc _ _ _ _ _ hJ' F' N'' b hb hbw' o₀ ho₀
        have e3 : h₃.get? b = some o₀ := (hs₃.2 b fun q => hLf (q ▸ hb)).trans (hk₂ b o₀ hbw' e1)
        rw [e3] at e
        exact e2.trans e
    cases f with
    | ret v => exact hf
    | brk => exact hf
    | next => exact fin hf
    | cont => exact fin hf
  · obtain rfl : i = n := by omega
    refine W.done _ _ _ hst₁ fun h₂ tk₂ hk₂ => ?_
    replace hk₂ : ∀ b o, b ∉ wr → h.get? b = some o → h₂.get? b = some o := hk₂
    refine done m nw h₂ tk₂ gs _ hJ ⟨F₁.ns.at' fun o e => hk₂ _ o hLw e, fun b o e => hk₂ b o (fun q => by rw [hbw b q] at e; cases e) (F₁.keep b o e), F₁.above⟩ fun q hq => ⟨hk₂ _ _ (hw₁ q hq) (N₁ q hq).1, (N₁ q hq).2⟩
theorem forWU {xa xb : Str} {pa pb pt : Pos} {kt : Nat} {I : Addr} {fp wr : List Addr} {n : Nat} {Pt : Nat → Array Value → Prop} {St : Nat → Heap → Prop} {Mid : Nat → Addr → Heap → Prop} {m₀ : Str → Option Value} {nw₀ : List (Addr × Obj)}
    (J : Nat → (Str → Option Value) → List (Addr × Obj) → Array GenState → Prop) (hh : A.handled = none)
    (W : WalksU prog w A I fp wr n Pt St Mid) (hlive : ∀ i h, St i h → ∀ b ∈ wr, ∃ o, h.get? b = some o) (hpair : ∀ i vals, i < n → Pt i vals → ∃ va vb, vals = #[va, vb])
    (hxa : env.kindOf xa = some .local) (hxb : env.kindOf xb = some .local) (hp : (env.scope.kind == .class || (env.scope.kind == .module && env.locals != env.globals)) = false)
    (hLf : env.locals ∉ fp) (hbw : ∀ b ∈ wr, h₀.get? b = none)
    (F : Fr h₀ env.locals s.heap m₀) (N : News h₀ env.locals s.heap nw₀) (hnw : ∀ q ∈ nw₀, q.1 ∉ wr) (hst : St 0 s.heap) (h0 : J 0 m₀ nw₀ s.gens)
    (hsrc0 : ∀ b ∈ fp, b ∉ wr → ∃ o, s.heap.get? b = some o)
    (hsrc : ∀ i m nw gs h, J i m nw gs → Fr h₀ env.locals h m → News h₀ env.locals h nw → ∀ b ∈ fp, b ∉ wr → ∀ o, s.heap.get? b = some o → h.get? b = some o)
    (turn : ∀ i va vb m nw h tk gs own E', i < n → Pt i #[va, vb] → J i m nw gs → OwnOff own (nw.map (·.1)) → Fr h₀ env.locals h (fun y => if y = xb then some vb else if y = xa then some va else m y) → News h₀ env.locals h (nw ++ own) →
      wpAny (model prog w) A (execs body env) (LoopPost h₀ env.locals own (J (i + 1)) s.drawn s.os Q) E' ⟨h, gs, s.drawn, tk, s.os⟩)
    (done : ∀ m nw h tk gs E', J n m nw gs → Fr h₀ env.locals h m → News h₀ env.locals h nw → wpAny (model prog w) A (execs orelse env) Q E' ⟨h, gs, s.drawn, tk, s.os⟩) :
    codeAny (model prog w) A (.forLoop (.Tuple [.Name xa pa, .Name xb pb] kt pt) (.ref I) body orelse env) (fun r s' => match r with | .ok f => Q f s' | .error e => cameBackBy (model prog w) A env E e s') s := by
  have hLw : env.locals ∉ wr := fun q => hLf (W.sub _ q)
  refine codeAny_forLoop_any (LoopInv h₀ env.locals wr St J s.drawn s.os n) ?_ (n + 1)
    ⟨0, s.heap, s.toks, m₀, nw₀, s.gens, rfl, Nat.zero_le _, rfl, F, N, hnw, hst, h0⟩
  rintro k s' ⟨i, h, tk, m, nw, gs, rfl, hi, rfl, F₁, N₁, hw₁, hst₁, hJ⟩
  by_cases hlt : i < n
  · refine W.item i _ _ _ hlt hst₁ fun T vals ha tka hPt hT hmid hka => ?_
    replace hka : ∀ b o, b ∉ wr → h.get? b = some o → ha.get? b = some o := hka
    refine W.go _ _ _ i T _ _ _ hmid fun hb hst₂ hkb => ?_
    replace hkb : ∀ b o, b ∉ wr → ha.get? b = some o → hb.get? b = some o := hkb
    obtain ⟨va, vb, rfl⟩ := hpair i _ hlt hPt
    have hTb : hb.IsTuple T #[va, vb] := by
      obtain ⟨o, ho, r⟩ := hT
      exact ⟨o, hkb T o (W.apart _ _ _ hmid) ho, r⟩
    refine wpAny_assign_Tuple hh hTb rfl rfl fun h₂ hx₂ => ?_
    replace hx₂ : Heap.ExtBut hb.objs.size hb h₂ := hx₂
    have oldb : ∀ b o, hb.get? b = some o → h₂.get? b = some o := fun b o e => hx₂ b o (Nat.ne_of_lt (Heap.lt_size e)) e
    have hk₂ : ∀ b o, b ∉ wr → h.get? b = some o → h₂.get? b = some o := fun b o hbw' e => oldb b o (hkb b o hbw' (hka b o hbw' e))
    have hst₂' : St (i + 1) h₂ := W.frame _ _ _ hst₂ fun b _ o e => oldb b o e
    have F₂ : Fr h₀ env.locals h₂ m := ⟨F₁.ns.at' fun o e => hk₂ _ o hLw e, fun b o e => hk₂ b o (fun q => by rw [hbw b q] at e; cases e) (F₁.keep b o e), F₁.above⟩
    obtain ⟨own, ho1, ho2⟩ := exists_own (hlive _ _ hst₂')
    have hoff : OwnOff own (nw.map (·.1)) := fun q hq b hb e => by
      obtain ⟨r, hr, rfl⟩ := List.mem_map.mp hb
      exact hw₁ r hr (e ▸ ho1 ▸ List.mem_map_of_mem hq)
    have N₂ : News h₀ env.locals h₂ (nw ++ own) := fun q hq => by
      rcases (List.mem_append.mp hq).symm with hq | hq
      · have hm : q.1 ∈ wr := ho1 ▸ List.mem_map_of_mem hq
        exact ⟨ho2 q hq, fun e => hLw (e ▸ hm), hbw _ hm⟩
      · exact ⟨hk₂ _ _ (hw₁ q hq) (N₁ q hq).1, (N₁ q hq).2⟩
    show wpAny _ A (do holding [vb] (assign (.Name xa pa) env va); do holding [] (assign (.Name xb pb) env vb); pure ()) _ _ _
    refine wpAny_bind (wpAny_holding (wpAny_assign_Name (wpAny_storeName_local hxa F₂.ns (fun h₃a hn₃a hs₃a => ?_) hp)))
    have F₃a := F₂.set hn₃a hs₃a
    have N₃a := N₂.set hs₃a
    refine wpAny_bind (wpAny_holding (wpAny_assign_Name (wpAny_storeName_local hxb F₃a.ns (fun h₃ hn₃ hs₃ => wpAny_pure ?_) hp)))
    have F₃ := F₃a.set hn₃ hs₃
    have N₃ := N₃a.set hs₃
    have hsb : ∀ b, b ∈ fp → h₃.get? b = h₂.get? b := fun b hb => (hs₃.2 b fun q => hLf (q ▸ hb)).trans (hs₃a.2 b fun q => hLf (q ▸ hb))
    have hst₃ : St (i + 1) h₃ := W.frame _ _ _ hst₂' fun b hb o e => (hsb b hb).trans e
    refine wpAny_mono (turn i va vb m nw h₃ _ gs own _ hlt hPt hJ hoff F₃ N₃) (fun f s₃ hf => ?_) fun _ _ e => e
    have fin : LoopNext h₀ env.locals own (J (i + 1)) s.drawn s.os s₃ →
        ∃ k', k' < n + 1 - i ∧ LoopInv h₀ env.locals wr St J s.drawn s.os n k' s₃ := by
      rintro ⟨h', tk', m', nw', gs', rfl, F', N', ho', hJ'⟩
      have hw' : ∀ q ∈ nw', q.1 ∉ wr := fun q hq hm => by
        rw [← ho1] at hm
        obtain ⟨r, hr, e⟩ := List.mem_map.mp hm
        exact ho' r hr q.1 (List.mem_map_of_mem hq) e
      have N'' : News h₀ env.locals h' nw' := fun q hq => N' q (List.mem_append_left _ hq)
      refine ⟨n + 1 - (i + 1), by omega, i + 1, h', tk', m', nw', gs', rfl, hlt, rfl, F', N'', hw', W.frame _ _ _ hst₃ fun b hb o e => ?_, hJ'⟩
      by_cases hbw' : b ∈ wr
      · rw [← ho1] at hbw'
        obtain ⟨q, hq, rfl⟩ := List.mem_map.mp hbw'
        have e1 := (N₃ q (List.mem_append_right _ hq)).1
        have e2 := (N' q (List.mem_append_right _ hq)).1
        rw [e1] at e
        exact e2.trans e
      · obtain ⟨o₀, ho₀⟩ := hsrc0 b hb hbw'
        have e1 := hsrc _ _ _ _ _ hJ F₁ N₁ b hb hbw' o₀ ho₀
        have e2 := hsrc _ _ _ _ _ hJ' F' N'' b hb hbw' o₀ ho₀
        have e3 : h₃.get? b = some o₀ := (hsb b hb).trans (hk₂ b o₀ hbw' e1)
        rw [e3] at e
        exact e2.trans e
    cases f with
    | ret v => exact hf
    | brk => exact hf
    | next => exact fin hf
    | cont => exact fin hf
  · obtain rfl : i = n := by omega
    refine W.done _ _ _ hst₁ fun h₂ tk₂ hk₂ => ?_
    replace hk₂ : ∀ b o, b ∉ wr → h.get? b = some o → h₂.get? b = some o := hk₂
    refine done m nw h₂ tk₂ gs _ hJ ⟨F₁.ns.at' fun o e => hk₂ _ o hLw e, fun b o e => hk₂ b o (fun q => by rw [hbw b q] at e; cases e) (F₁.keep b o e), F₁.above⟩ fun q hq => ⟨hk₂ _ _ (hw₁ q hq) (N₁ q hq).1, (N₁ q hq).2⟩
end
end Mine
end

section
-- TupSrc
example : True := by w_top off; trivial
open PySem PySem.W PyProof.Rows PySem.Calls PySem.Spec
namespace Mine
open PySem.AutoSeq1 (wpAny_loadPart')
set_option maxRecDepth 100000
theorem isTuple_at {h h' : Heap} {a : Addr} {items : Array Value} (x : h.IsTuple a items) (e : ∀ o, h.get? a = some o → h'.get? a = some o) : h'.IsTuple a items := let ⟨o, ho, r⟩ := x; ⟨o, e _ ho, r⟩
theorem isTupleIter_at {h h' : Heap} {a t : Addr} {i : Nat} (x : h.IsTupleIter a t i) (e : ∀ o, h.get? a = some o → h'.get? a = some o) : h'.IsTupleIter a t i := let ⟨o, ho, r⟩ := x; ⟨o, e _ ho, r⟩
section
variable {prog : Program} {w : World} {A : Around} {E : Value → Shared → Prop} {s : Shared}
theorem nextOf_tuple_item {it l : Addr} {i : Nat} {items} {x : Value} {Q : Value → Shared → Prop} (hit : s.heap.IsTupleIter it l i)
    (hl : s.heap.IsTuple l items) (hx : items[i]? = some x)
    (hQ : ∀ h', h'.IsTupleIter it l (i + 1) → Heap.SameBut it s.heap h' → Q x { s with heap := h' }) :
    wpAny (model prog w) A (Builtin.SmallTypes.nextOf (.ref it)) Q E s := by
  obtain ⟨o, ho, hc, hd⟩ := id hit
  obtain ⟨ol, hol, _, nl, hdl⟩ := hl
  unfold Builtin.SmallTypes.nextOf
  refine wpAny_bind (wpAny_callSpecial?_slot (name := Str.ofString "__next__") hit.typeIs F.slot_tuple_iterator_next
    (wpAny_call_entry F.slot_tuple_iterator_next hit.typeIs F.entry_tuple_iterator_next ?_ (F.args_tuple_iterator_next_1 _)))
  show wpAny _ _ (field (.ref it) 0 >>= _) _ _ s
  refine wpAny_bind (wpAny_field ho hd (x := .ref l) rfl ?_)
  show wpAny _ _ (if (Value.ref l == Value.none) = true then _ else _) _ _ s
  rw [if_neg (show ¬ ((Value.ref l == Value.none) = true) from Bool.false_ne_true)]
  show wpAny _ _ (field (.ref it) 1 >>= _) _ _ s
  refine wpAny_bind (wpAny_field ho hd (x := .int i 0) rfl ?_)
  show wpAny _ _ (seqItems? (.ref l) >>= _) _ _ s
  refine wpAny_bind (wpAny_seqItems hol hdl ?_)
  simp only [Int.toNat_natCast, hx]
  refine wpAny_bind (wpAny_setField ho hd (by simp) (wpAny_pure ⟨x, rfl, wpAny_pure (hQ _ ?_ (Heap.SameBut.update ..))⟩))
  exact ⟨_, Heap.get?_update_self _ ho (Obj.isFreed_of_fields (Obj.data_mapFields hd _)), (Obj.cls_mapFields ..).trans hc, by
    rw [Obj.data_mapFields hd]; simp [rawInt]⟩

theorem nextOf_tuple_end {it l : Addr} {i : Nat} {items} {Q : Value → Shared → Prop} (hh : A.handled = none)
    (hit : s.heap.IsTupleIter it l i) (hl : s.heap.IsTuple l items) (hx : items[i]? = none)
    (hE : ∀ h' e, Heap.ExtBut it s.heap h' → (∃ o, h'.get? e = some o ∧ o.cls = .type "StopIteration") → E (.ref e) { s with heap := h' }) :
    wpAny (model prog w) A (Builtin.SmallTypes.nextOf (.ref it)) Q E s := by
  obtain ⟨o, ho, hc, hd⟩ := id hit
  obtain ⟨ol, hol, _, nl, hdl⟩ := hl
  unfold Builtin.SmallTypes.nextOf
  refine wpAny_bind (wpAny_callSpecial?_slot (name := Str.ofString "__next__") hit.typeIs F.slot_tuple_iterator_next
    (wpAny_call_entry F.slot_tuple_iterator_next hit.typeIs F.entry_tuple_iterator_next ?_ (F.args_tuple_iterator_next_1 _)))
  show wpAny _ _ (field (.ref it) 0 >>= _) _ _ s
  refine wpAny_bind (wpAny_field ho hd (x := .ref l) rfl ?_)
  show wpAny _ _ (if (Value.ref l == Value.none) = true then _ else _) _ _ s
  rw [if_neg (show ¬ ((Value.ref l == Value.none) = true) from Bool.false_ne_true)]
  show wpAny _ _ (field (.ref it) 1 >>= _) _ _ s
  refine wpAny_bind (wpAny_field ho hd (x := .int i 0) rfl ?_)
  show wpAny _ _ (seqItems? (.ref l) >>= _) _ _ s
  refine wpAny_bind (wpAny_seqItems hol hdl ?_)
  simp only [Int.toNat_natCast, hx]
  refine wpAny_bind (wpAny_rule (wpAny_bind (wpAny_setField ho hd (by simp) ?_)))
  show wpAny _ _ (newExc (.type "StopIteration") [] >>= _) _ _ _
  refine wpAny_bind ?_
  simp only [newExc, newTuple]
  refine wpAny_bind (wpAny_newObj_type ?_ (by size_fits))
  refine wpAny_bind (m := firstArgMember _ _) (wpAny_of_eq (a := Value.none) (by first | rfl | (simp only [firstArgMember]; rfl)) ?_)
  refine wpAny_newObj_type ?_ (by size_fits)
  simp only [raiseNew]
  refine wpAny_bind (wpAny_handled ?_)
  first | rw [show A.in1.handled = none from hh] | rw [hh]
  refine wpAny_bind (wpAny_pure (wpAny_throw ?_))
  exact hE _ _ (((Heap.SameBut.update ..).extBut.push _).push _) ⟨_, Heap.get?_push_size _ rfl, rfl⟩
end
theorem draws_tuple {prog : Program} {w : World} {A : Around} (hh : A.handled = none) (it l : Addr) (hne : l ≠ it) (items : Array Value) :
    Draws prog w A it [it, l] items.size (fun i v => items[i]? = some v) (fun i h => h.IsTupleIter it l i ∧ h.IsTuple l items) where
  live := fun _ _ st => let ⟨o, ho, _⟩ := st.1; ⟨o, ho⟩
  frame := fun _ _ _ st hk => ⟨isTupleIter_at st.1 fun o e => hk it (by simp) o e, isTuple_at st.2 fun o e => hk l (by simp) o e⟩
  item := fun i s Q E hi st hQ => by
    refine nextOf_tuple_item st.1 st.2 (x := items[i]) (by simp [hi]) fun h' hit' hs' => ?_
    exact hQ _ h' s.toks (by simp [hi]) ⟨hit', st.2.extBut hs'.extBut hne⟩ hs'
  done := fun s Q E st hE => nextOf_tuple_end hh st.1 st.2 (by simp) hE

theorem meets_enumerate_newT (l : Addr) (items : Array Value) (n : Nat) (dct : Option Addr) (sl : Array (Option Value)) :
    Meets (Builtin.«enumerate.__new__» ⟨[.type "enumerate", .ref l], []⟩) (fun _ R s => s.heap.get? l = some { cls := .type "tuple", dict := dct, data := .seq items n, slots := sl } ∧
      R (.ok (.ret (.ref (s.heap.push { cls := .type "tuple_iterator", data := .fields #[.ref l, .int 0 0] }).objs.size)))
        { s with heap := (s.heap.push { cls := .type "tuple_iterator", data := .fields #[.ref l, .int 0 0] }).push { cls := .type "enumerate", data := .fields #[.none, .bool false, .ref s.heap.objs.size, rawInt 0, .none, .none] } }) :=
  .of_wp fun prog w A R s h => by
    obtain ⟨hp, g, d, tk, os⟩ := s; obtain ⟨hl, h⟩ := h
    have hsub := sub_enumerate
    have hL : Heap.IsTuple (Shared.heap ⟨hp, g, d, tk, os⟩) l items := ⟨_, hl, rfl, n, rfl⟩
    wp_walk using wpAny_loadPart' hl
    refine wpAny_stack_any fun st => wpAny_pure ?_
    split
    · rename_i c _ _ _ _ _
      cases (c == Value.type "enumerate")
      · wp_walk using wpAny_loadPart' hl, wpAny_pyIter_tuple hL
        exact ⟨_, rfl, h⟩
      · wp_walk using wpAny_loadPart' hl, wpAny_pyIter_tuple hL
        exact ⟨_, rfl, h⟩
    · wp_walk using wpAny_loadPart' hl, wpAny_pyIter_tuple hL
      exact ⟨_, rfl, h⟩
section
variable {prog : Program} {w : World} {A : Around} {E : Value → Shared → Prop} {s : Shared}
theorem call_enumerate_tuple {l : Addr} {items : Array Value} {Q : Value → Shared → Prop} (hL : s.heap.IsTuple l items)
    (h : ∀ h', IsEnum h' (s.heap.objs.size + 1) s.heap.objs.size 0 .none → h'.IsTupleIter s.heap.objs.size l 0 → h'.objs.size = s.heap.objs.size + 2 →
      (∀ b o, s.heap.get? b = some o → h'.get? b = some o) → Q (.ref (s.heap.objs.size + 1)) { s with heap := h' }) :
    wpAny (model prog w) A (call (.type "enumerate") [.ref l]) Q E s := by
  obtain ⟨⟨c, dct, dt, sl⟩, hl, hc, n, hd⟩ := hL
  replace hc : c = .type "tuple" := hc
  replace hd : dt = .seq items n := hd
  subst hc hd
  refine callType_new F.called_enumerate (by decide) (F.typeCall_enumerate_1 _) (F.newCall_enumerate_1 _) (fun obj => F.args_object_init_2 obj _) F.entry_enumerate_new
    (meets_enumerate_newT l items n dct sl) ⟨hl, ?_⟩
  have hz : (s.heap.push { cls := .type "tuple_iterator", data := .fields #[.ref l, .int 0 0] }).objs.size = s.heap.objs.size + 1 := Heap.size_push ..
  show _ ∧ _
  rw [hz]
  have he : IsEnum ((s.heap.push { cls := .type "tuple_iterator", data := .fields #[.ref l, .int 0 0] }).push
      { cls := .type "enumerate", data := .fields #[.none, .bool false, .ref s.heap.objs.size, rawInt 0, .none, .none] }) (s.heap.objs.size + 1) s.heap.objs.size 0 .none := by
    have := Heap.get?_push_size (s.heap.push { cls := .type "tuple_iterator", data := .fields #[.ref l, .int 0 0] })
      (o := { cls := .type "enumerate", data := .fields #[.none, .bool false, .ref s.heap.objs.size, rawInt 0, .none, .none] }) rfl
    rw [hz] at this; exact this
  refine ⟨⟨_, he, rfl⟩, h _ he ⟨_, Heap.get?_push_of_some _ (Heap.get?_push_size _ rfl), rfl, rfl⟩ (by rw [Heap.size_push, hz]) fun b o x => Heap.get?_push_of_some _ (Heap.get?_push_of_some _ x)⟩

theorem letOwnedTupleGo_tupiter {elts : List Expr} {x1} {pos : Pos} {I l T : Addr} {i : Nat} {Q : Unit → Shared → Prop} (hit : s.heap.IsTupleIter I l i) (hQ : Q () s) :
    wpAny (model prog w) A (letOwnedTupleGo (.Tuple elts x1 pos) (.ref I) (.ref T)) Q E s := by
  obtain ⟨o, ho, hc, hd⟩ := hit
  unfold letOwnedTupleGo
  refine wpAny_bind (wpAny_load ho ?_)
  rw [hc, hd]
  show wpAny _ A (if (["enumerate", "zip", "dict_itemiterator", "dict_reverseitemiterator", "odict_iterator", "itertools.zip_longest", "itertools.pairwise"].contains "tuple_iterator" &&
      (#[.ref l, .int i 0] : Array Value)[0]? == some (rawInt T)) = true then _ else _) Q E s
  rw [if_neg (by
    intro h
    rw [show (["enumerate", "zip", "dict_itemiterator", "dict_reverseitemiterator", "odict_iterator", "itertools.zip_longest", "itertools.pairwise"].contains "tuple_iterator") = false from by decide, Bool.false_and] at h
    cases h)]
  exact wpAny_pure hQ
theorem pyIter_tupiter {I l : Addr} {i : Nat} {Q : Value → Shared → Prop} (hit : s.heap.IsTupleIter I l i) (hQ : Q (.ref I) s) : wpAny (model prog w) A (pyIter (.ref I)) Q E s := by
  refine wpAny_pyIter_slot hit.typeIs F.slot_tuple_iterator_iter (wpAny_call_entry F.slot_tuple_iterator_iter hit.typeIs F.entry_tuple_iterator_iter ?_ (F.args_tuple_iterator_iter_1 _))
  show wpAny _ _ (ret (.ref I)) _ _ s
  exact wpAny_pure ⟨_, rfl, "tuple_iterator", _, hit.typeIs, F.slot_tuple_iterator_next.lookup, hQ⟩
end
theorem walksU_tupleOfTuples {prog : Program} {w : World} {A : Around} (hh : A.handled = none) (I ax : Addr) (hne : ax ≠ I) (items : Array Value) (Ts : Nat → Addr) (vals : Nat → Array Value)
    (hit : ∀ j, j < items.size → items[j]? = some (.ref (Ts j))) (hTI : ∀ j, j < items.size → Ts j ≠ I) :
    WalksU prog w A I (I :: ax :: (List.range items.size).map Ts) [I] items.size (fun j v => v = vals j)
      (fun j h => h.IsTupleIter I ax j ∧ h.IsTuple ax items ∧ ∀ k, k < items.size → h.IsTuple (Ts k) (vals k))
      (fun j T h => (j < items.size ∧ T = Ts j) ∧ h.IsTupleIter I ax (j + 1) ∧ h.IsTuple ax items ∧ ∀ k, k < items.size → h.IsTuple (Ts k) (vals k)) where
  sub := fun b hb => by simp at hb; simp [hb]
  frame := fun _ _ _ st hk => ⟨isTupleIter_at st.1 fun o e => hk I (by simp) o e, isTuple_at st.2.1 fun o e => hk ax (by simp) o e,
    fun k hk' => isTuple_at (st.2.2 k hk') fun o e => hk (Ts k) (List.mem_cons_of_mem _ (List.mem_cons_of_mem _ (List.mem_map.mpr ⟨k, List.mem_range.mpr hk', rfl⟩))) o e⟩
  item := fun i s Q E hi st hQ => by
    refine wpAny_pyNext_tuple_item st.1 st.2.1 (x := .ref (Ts i)) (hit i hi) fun h' hit' hs' => ?_
    have tup : ∀ k, k < items.size → h'.IsTuple (Ts k) (vals k) := fun k hk' => (st.2.2 k hk').extBut hs'.extBut (hTI k hk')
    exact hQ (Ts i) (vals i) h' s.toks rfl (tup i hi) ⟨⟨hi, rfl⟩, hit', st.2.1.extBut hs'.extBut hne, tup⟩ fun b o hb e => hs'.extBut b o (fun h => hb (by simp [h])) e
  go := fun _ _ _ _ _ s Q _ hm hQ => letOwnedTupleGo_tupiter hm.2.1 (hQ s.heap hm.2 fun _ _ _ e => e)
  apart := fun j T _ hm hmem => by
    rcases List.mem_cons.mp hmem with e | e
    · exact hTI j hm.1.1 (hm.1.2 ▸ e)
    · cases e
  done := fun s Q E st hQ => wpAny_pyNext_tuple_end hh st.1 st.2.1 (by simp) fun h' he' => hQ h' s.toks fun b o hb e => he' b o (fun h => hb (by simp [h])) e
  self := fun _ _ _ _ st hQ => pyIter_tupiter st.1 hQ
end Mine
end

section
-- Leaf
example : True := by w_top off; trivial
open PySem PySem.W PyProof.Rows PySem.Calls PySem.Spec
namespace Mine
/-- which sign is greater, by the bits alone -/
noncomputable def rankZ (mode place : Int) : Int :=
  if place = 0 then [1, 6, 3, 1, 4, 1, 2, 1, 0, 1, 5, 1, 7, 1, 1, 1].getD (mode.fdiv 4096).toNat 0
  else if place.fmod 3 ≠ 0 then (mode.fdiv (2 ^ (9 - place).toNat)).fmod 2
  else if (mode.fdiv (2 ^ (9 - place).toNat)).fmod 2 = 1 then 3 - (mode.fdiv (2 ^ (12 - place.fdiv 3).toNat)).fmod 2 else (mode.fdiv (2 ^ (12 - place.fdiv 3).toNat)).fmod 2
section
variable {w : World} {p : Program} {loose : List Str} {mean : ExcName → Option Value} {mg mb : Str → Option Value} {G : Heap} {s : Shared} {Q E : Value → Shared → Prop}
set_option maxRecDepth 100000
set_option maxHeartbeats 8000000
theorem c_ifmt {mode : Int} {t1 : Tok} (D : Gd w p loose mean mg mb G) (St : G.StaysIn s.heap)
    (hret : ∀ t h' tk', (∀ b o, s.heap.get? b = some o → h'.get? b = some o) → Q (.int (Builtin.bitAnd mode 61440) t) { s with heap := h', toks := tk' }) :
    wpAny (model Challenge.rw_oc0165_01.row.prog w) (Am 800 600) (call (.ref 189) [.int mode t1]) Q E s := by
  have fill : (hd.heap_1 w.params).In G := D.X
  revert fill
  k_fill
  intro _
  refine wpAny_call ?_
  ((k_dflt (refine' enterP [] ?k1 ?k2 ?k3 ?k4 ?k6 ?k7 ?k8 ?k9 ?kB ?c5 ?c2 ?c3 ?c4 ?_; (case k1 => assumption); (case k2 => assumption); (case k3 => exact fun _ q => nomatch q); (case k4 => exact fun _ q => nomatch q); (case k6 => k_is); (case k7 => k_is); (case k8 => decide); (case k9 => exact BindsTo.of_eq rfl); (case kB => exact locs rfl); (case c5 => decide); (case c2 => exact rfl); (case c3 => exact rfl); (case c4 => exact rfl))))
  intro g L h hg hL F N X T l1 hkeep hst
  dsimp only
  k_fold
  (repeat' (first | (fail_if_success (with_reducible show wpAny _ _ (exec (Stmt.For _ _ _ _ _) _) _ _ _)); (first | (k_unfold; (try dsimp only)) | walk1 | (dsimp only; walk1))))
  try k_unfold
  dsimp only
  exact hret _ _ _ (keeps_of hkeep (by assumption))
theorem c_cmp {x y : Str} {t1 t2 : Tok} (D : Gd w p loose mean mg mb G) (St : G.StaysIn s.heap)
    (hret : ∀ t h' tk', (∀ b o, s.heap.get? b = some o → h'.get? b = some o) → Q (.int (b2i (decide (y.cps.toList < x.cps.toList)) - b2i (decide (x.cps.toList < y.cps.toList))) t) { s with heap := h', toks := tk' }) :
    wpAny (model Challenge.rw_oc0165_01.row.prog w) (Am 800 600) (call (.ref 236) [.str x t1, .str y t2]) Q E s := by
  refine wpAny_call ?_
  ((k_dflt (refine' enterP [] ?k1 ?k2 ?k3 ?k4 ?k6 ?k7 ?k8 ?k9 ?kB ?c5 ?c2 ?c3 ?c4 ?_; (case k1 => assumption); (case k2 => assumption); (case k3 => exact fun _ q => nomatch q); (case k4 => exact fun _ q => nomatch q); (case k6 => k_is); (case k7 => k_is); (case k8 => decide); (case k9 => exact BindsTo.of_eq rfl); (case kB => exact locs rfl); (case c5 => decide); (case c2 => exact rfl); (case c3 => exact rfl); (case c4 => exact rfl))))
  intro g L h hg hL F N X T l1 hkeep hst
  dsimp only
  k_fold
  (repeat' (first | (fail_if_success (with_reducible show wpAny _ _ (exec (Stmt.For _ _ _ _ _) _) _ _ _)); (first | (k_unfold; (try dsimp only)) | walk1 | (dsimp only; walk1))))
  try k_unfold
  dsimp only
  exact hret _ _ _ (keeps_of hkeep (by assumption))
theorem c_rank {mode place : Int} {t1 t2 : Tok} (D : Gd w p loose mean mg mb G) (St : G.StaysIn s.heap) (h1 : 0 ≤ mode) (h2 : mode < 65536) (h3 : 0 ≤ place) (h4 : place < 10)
    (hret : ∀ t h' tk', (∀ b o, s.heap.get? b = some o → h'.get? b = some o) → Q (.int (rankZ mode place) t) { s with heap := h', toks := tk' }) :
    wpAny (model Challenge.rw_oc0165_01.row.prog w) (Am 800 600) (call (.ref 248) [.int mode t1, .int place t2]) Q E s := by
  refine wpAny_call ?_
  ((k_dflt (refine' enterP [] ?k1 ?k2 ?k3 ?k4 ?k6 ?k7 ?k8 ?k9 ?kB ?c5 ?c2 ?c3 ?c4 ?_; (case k1 => assumption); (case k2 => assumption); (case k3 => exact fun _ q => nomatch q); (case k4 => exact fun _ q => nomatch q); (case k6 => k_is); (case k7 => k_is); (case k8 => decide); (case k9 => exact BindsTo.of_eq rfl); (case kB => exact locs rfl); (case c5 => decide); (case c2 => exact rfl); (case c3 => exact rfl); (case c4 => exact rfl))))
  intro g L h hg hL F N X T l1 hkeep hst
  dsimp only
  k_fold
  (repeat' (first | (fail_if_success (with_reducible show wpAny _ _ (exec (Stmt.For _ _ _ _ _) _) _ _ _)); (first | (k_unfold; (try dsimp only)) | walk1 | (dsimp only; walk1))))
  all_goals (try k_unfold)
  all_goals (try dsimp only)
  all_goals (refine cast (congrArg (fun r => Q (.int r _) _) ?_) (hret _ _ _ (keeps_of hkeep (by assumption))))
  all_goals unfold rankZ
  all_goals first
    | exact if_pos (by assumption)
    | (rw [if_neg (by assumption)]; first
      | exact if_pos (by assumption)
      | (rw [if_neg (by first | assumption | (intro hh; exact hh (by assumption)))]; first
        | exact if_pos (by assumption)
        | exact if_neg (by assumption)))
end
section
variable {w : World} {p : Program} {loose : List Str} {mean : ExcName → Option Value} {mg mb : Str → Option Value} {G g : Heap} {L : Addr} {m : Str → Option Value} {nw : List (Addr × Obj)} {A : Around} {s : Shared} {Q E : Value → Shared → Prop}
theorem u_ifmt {mode : Int} {t1 : Tok} (F : Fr g L s.heap m) (N : News g L s.heap nw) (D : Gd w p loose mean mg mb G) (hs : G.StaysIn g) (hh : A.handled = none) (hd : A.depth ≤ 800) (hu : A.units ≤ 600)
    (k : ∀ t h' tk', Fr g L h' m → News g L h' nw → Q (.int (Builtin.bitAnd mode 61440) t) { s with heap := h', toks := tk' }) :
    wpAny (model Challenge.rw_oc0165_01.row.prog w) A (call (.ref 189) [.int mode t1]) Q E s :=
  wp_up hh hd hu (c_ifmt D (stays_fr F hs) fun t h' tk' hk => k t h' tk' (frK F hk) (newsK N hk))
end
end Mine
end

section
-- Loops2
example : True := by w_top off; trivial
open PySem PySem.W PyProof.Rows PySem.Calls PySem.Spec
namespace Mine
theorem fr_push {h₀ h : Heap} {L : Addr} {m : Str → Option Value} (F : Fr h₀ L h m) {h' : Heap} (hk : ∀ b o, h.get? b = some o → h'.get? b = some o) : Fr h₀ L h' m :=
  ⟨F.ns.at' fun o e => hk _ o e, fun b o e => hk b o (F.keep b o e), F.above⟩
theorem news_keep {h₀ h : Heap} {L : Addr} {nw : List (Addr × Obj)} (N : News h₀ L h nw) {h' : Heap} (hk : ∀ b o, h.get? b = some o → h'.get? b = some o) : News h₀ L h' nw :=
  fun q hq => ⟨hk _ _ (N q hq).1, (N q hq).2⟩
theorem fresh_base {h₀ h : Heap} {L : Addr} {m : Str → Option Value} (F : Fr h₀ L h m) {I : Addr} (hI : h.objs.size ≤ I) : h₀.get? I = none := by
  cases e : h₀.get? I with
  | none => rfl
  | some o => exact absurd (Heap.lt_size (F.keep _ _ e)) (Nat.not_lt.mpr hI)
theorem fresh_news {h₀ h : Heap} {L : Addr} {nw : List (Addr × Obj)} (N : News h₀ L h nw) {I : Addr} (hI : h.objs.size ≤ I) : ∀ q ∈ nw, q.1 ≠ I := fun q hq e =>
  absurd (Heap.lt_size (N q hq).1) (Nat.not_lt.mpr (e ▸ hI))
theorem fresh_loc {h₀ h : Heap} {L : Addr} {m : Str → Option Value} (F : Fr h₀ L h m) {I : Addr} (hI : h.objs.size ≤ I) : L ≠ I := fun e => absurd F.ns.lt (Nat.not_lt.mpr (e ▸ hI))
section
variable {prog : Program} {w : World} {A : Around} {E : Value → Shared → Prop} {s : Shared} {env : Env} {h₀ : Heap} {body orelse : List Stmt} {Q : Flow → Shared → Prop} {m₀ : Str → Option Value} {nw₀ : List (Addr × Obj)}

/-- a loop over a tuple of pairs that stands in the base -/
theorem for_tupPairs {xa xb : Str} {pa pb pt : Pos} {kt : Nat} {l : Addr} {items : Array Value} {Ts : Nat → Addr} {vals : Nat → Array Value}
    (J : Nat → (Str → Option Value) → List (Addr × Obj) → Array GenState → Prop) (hh : A.handled = none)
    (hT : h₀.IsTuple l items) (hit : ∀ j, j < items.size → items[j]? = some (.ref (Ts j))) (hv : ∀ k, k < items.size → h₀.IsTuple (Ts k) (vals k)) (hpair : ∀ k, k < items.size → ∃ va vb, vals k = #[va, vb])
    (F : Fr h₀ env.locals s.heap m₀) (N : News h₀ env.locals s.heap nw₀) (h0 : J 0 m₀ nw₀ s.gens)
    (hxa : env.kindOf xa = some .local) (hxb : env.kindOf xb = some .local) (hp : (env.scope.kind == .class || (env.scope.kind == .module && env.locals != env.globals)) = false)
    (turn : ∀ i va vb m nw h tk gs own E', i < items.size → vals i = #[va, vb] → J i m nw gs → OwnOff own (nw.map (·.1)) → Fr h₀ env.locals h (fun y => if y = xb then some vb else if y = xa then some va else m y) → News h₀ env.locals h (nw ++ own) →
      wpAny (model prog w) A (execs body env) (LoopPost h₀ env.locals own (J (i + 1)) s.drawn s.os Q) E' ⟨h, gs, s.drawn, tk, s.os⟩)
    (done : ∀ m nw h tk gs E', J items.size m nw gs → Fr h₀ env.locals h m → News h₀ env.locals h nw → wpAny (model prog w) A (execs orelse env) Q E' ⟨h, gs, s.drawn, tk, s.os⟩) :
    wpAny (model prog w) A (pyIter (.ref l)) (fun it s₂ => codeAny (model prog w) A (.forLoop (.Tuple [.Name xa pa, .Name xb pb] kt pt) it body orelse env) (fun r s' => match r with | .ok f => Q f s' | .error e => cameBackBy (model prog w) A env E e s') s₂) E s := by
  refine wpAny_pyIter_tuple (isTuple_at hT fun o e => F.keep _ _ e) ?_
  have hIs : ∀ {b : Addr} {o : Obj}, h₀.get? b = some o → b ≠ s.heap.objs.size := fun {b o} e q => absurd (Heap.lt_size (F.keep _ _ e)) (by rw [q]; exact Nat.lt_irrefl _)
  have hk : ∀ b o, s.heap.get? b = some o → (s.heap.push { cls := .type "tuple_iterator", data := .fields #[.ref l, .int 0 0] }).get? b = some o := fun b o e => Heap.get?_push_of_some _ e
  have hll : l ≠ s.heap.objs.size := let ⟨_, ho, _⟩ := hT; hIs ho
  have hts : ∀ k, k < items.size → Ts k ≠ s.heap.objs.size := fun k hk => let ⟨_, ho, _⟩ := hv k hk; hIs ho
  have memfp : ∀ b, b ∈ s.heap.objs.size :: l :: (List.range items.size).map Ts → b ≠ s.heap.objs.size → ∃ o, h₀.get? b = some o := fun b hb hn => by
    rcases List.mem_cons.mp hb with rfl | hb
    · exact absurd rfl hn
    · rcases List.mem_cons.mp hb with rfl | hb
      · obtain ⟨o, ho, _⟩ := hT; exact ⟨o, ho⟩
      · obtain ⟨k, hk, rfl⟩ := List.mem_map.mp hb
        obtain ⟨o, ho, _⟩ := hv k (List.mem_range.mp hk); exact ⟨o, ho⟩
  refine forWU (s := { s with heap := _ }) J hh (walksU_tupleOfTuples hh s.heap.objs.size l hll items Ts vals hit hts) (fun i h st b hb => ?_) (fun i v hi e => e ▸ hpair i hi) hxa hxb hp (fun hm => ?_) (fun b hb => ?_) (fr_push F hk) (news_keep N hk) (fun q hq hm => ?_)
    ⟨⟨_, Heap.get?_push_size _ rfl, rfl, rfl⟩, isTuple_at hT fun o e => hk _ _ (F.keep _ _ e), fun k hk' => isTuple_at (hv k hk') fun o e => hk _ _ (F.keep _ _ e)⟩ h0 (fun b hb hw => ?_) (fun i m nw gs h hJ F' N' b hb hw o e => ?_)
    (fun i va vb m nw h tk gs own E' hi hP hJ ho F' N' => turn i va vb m nw h tk gs own E' hi hP.symm hJ ho F' N') done
  · rw [List.mem_singleton.mp hb]; obtain ⟨o, ho, _⟩ := st.1; exact ⟨o, ho⟩
  · have hne : env.locals ≠ s.heap.objs.size := fresh_loc F (Nat.le_refl _)
    obtain ⟨o, ho⟩ := memfp _ hm hne
    exact absurd (Heap.lt_size ho) (Nat.not_lt.mpr F.above)
  · rw [List.mem_singleton.mp hb]; exact fresh_base F (Nat.le_refl _)
  · exact fresh_news N (Nat.le_refl _) q hq (List.mem_singleton.mp hm)
  · obtain ⟨o, ho⟩ := memfp b hb (fun q => hw (List.mem_singleton.mpr q)); exact ⟨o, hk _ _ (F.keep _ _ ho)⟩
  · obtain ⟨o', ho'⟩ := memfp b hb (fun q => hw (List.mem_singleton.mpr q))
    have e1 := hk _ _ (F.keep _ _ ho')
    replace e : (s.heap.push { cls := .type "tuple_iterator", data := .fields #[.ref l, .int 0 0] }).get? b = some o := e
    rw [e1] at e; cases e
    exact F'.keep _ _ ho'

/-- a loop over enumerate of a tuple that stands in the base -/
theorem for_enumTup {xa xb : Str} {pa pb pt : Pos} {kt : Nat} {l : Addr} {items : Array Value}
    (J : Nat → (Str → Option Value) → List (Addr × Obj) → Array GenState → Prop) (hh : A.handled = none) (hT : h₀.IsTuple l items)
    (F : Fr h₀ env.locals s.heap m₀) (N : News h₀ env.locals s.heap nw₀) (h0 : J 0 m₀ nw₀ s.gens)
    (hxa : env.kindOf xa = some .local) (hxb : env.kindOf xb = some .local) (hp : (env.scope.kind == .class || (env.scope.kind == .module && env.locals != env.globals)) = false)
    (turn : ∀ i v t m nw h tk gs own E', items[i]? = some v → J i m nw gs → OwnOff own (nw.map (·.1)) → Fr h₀ env.locals h (fun y => if y = xb then some v else if y = xa then some (.int i t) else m y) → News h₀ env.locals h (nw ++ own) →
      wpAny (model prog w) A (execs body env) (LoopPost h₀ env.locals own (J (i + 1)) s.drawn s.os Q) E' ⟨h, gs, s.drawn, tk, s.os⟩)
    (done : ∀ m nw h tk gs E', J items.size m nw gs → Fr h₀ env.locals h m → News h₀ env.locals h nw → wpAny (model prog w) A (execs orelse env) Q E' ⟨h, gs, s.drawn, tk, s.os⟩) :
    wpAny (model prog w) A (call (.type "enumerate") [.ref l]) (fun x s₁ => wpAny (model prog w) A (pyIter x) (fun it s₂ => codeAny (model prog w) A (.forLoop (.Tuple [.Name xa pa, .Name xb pb] kt pt) it body orelse env) (fun r s' => match r with | .ok f => Q f s' | .error e => cameBackBy (model prog w) A env E e s') s₂) E s₁) E s := by
  refine call_enumerate_tuple (isTuple_at hT fun o e => F.keep _ _ e) fun h3 he hit hsz hk => ?_
  refine wpAny_pyIter_enum he ?_
  have hIs : ∀ {b : Addr} {o : Obj}, h₀.get? b = some o → b < s.heap.objs.size := fun {b o} e => Heap.lt_size (F.keep _ _ e)
  obtain ⟨ol, hol, _⟩ := id hT
  have hll : l ≠ s.heap.objs.size := Nat.ne_of_lt (hIs hol)
  have hle : l ≠ s.heap.objs.size + 1 := Nat.ne_of_lt (Nat.lt_succ_of_lt (hIs hol))
  have W := (WalksT.enumerateD (prog := prog) (w := w) (A := A) (draws_tuple (A := A.in1) hh s.heap.objs.size l hll items) (s.heap.objs.size + 1) (Nat.succ_ne_self _) (by simp; exact Ne.symm hle) (by simp)).toU
  have wrm : ∀ b, b ∈ [s.heap.objs.size + 1, s.heap.objs.size] → s.heap.objs.size ≤ b := fun b hb => by
    rcases List.mem_cons.mp hb with rfl | hb
    · exact Nat.le_succ _
    · rw [List.mem_singleton.mp hb]; exact Nat.le_refl _
  have memfp : ∀ b, b ∈ (s.heap.objs.size + 1) :: [s.heap.objs.size, l] → b ∉ [s.heap.objs.size + 1, s.heap.objs.size] → b = l := fun b hb hn => by
    simp at hb hn
    rcases hb with h | h | h
    · exact absurd h hn.1
    · exact absurd h hn.2
    · exact h
  refine forWU (s := { s with heap := _ }) J hh W (fun i h st b hb => ?_) (fun i v hi ⟨t, x, _, e⟩ => ⟨_, _, e⟩) hxa hxb hp (fun hm => ?_) (fun b hb => fresh_base F (wrm b hb)) (fr_push F hk) (news_keep N hk) (fun q hq hm => fresh_news N (wrm _ hm) q hq rfl)
    ⟨⟨_, he⟩, hit, isTuple_at hT fun o e => hk _ _ (F.keep _ _ e)⟩ h0 (fun b hb hw => ?_) (fun i m nw gs h hJ F' N' b hb hw o e => ?_)
    (fun i va vb m nw h tk gs own E' hi hP hJ ho F' N' => ?_) done
  · rcases List.mem_cons.mp hb with rfl | hb
    · obtain ⟨⟨old, ho⟩, _⟩ := st; exact ⟨_, ho⟩
    · rw [List.mem_singleton.mp hb]; obtain ⟨_, ⟨o, ho, _⟩, _⟩ := st; exact ⟨o, ho⟩
  · have hne := fresh_loc F (Nat.le_refl _)
    have hne' := fresh_loc F (Nat.le_succ _)
    have := memfp _ hm (by simp; exact ⟨hne', hne⟩)
    rw [← this] at hol
    exact absurd (Heap.lt_size hol) (Nat.not_lt.mpr F.above)
  · rw [memfp b hb hw]; exact ⟨ol, hk _ _ (F.keep _ _ hol)⟩
  · have hbl := memfp b hb hw
    subst hbl
    have e1 := hk _ _ (F.keep _ _ hol)
    replace e : h3.get? b = some o := e
    rw [e1] at e; cases e
    exact F'.keep _ _ hol
  · obtain ⟨t, x, hx, e⟩ := hP
    have e' : va = .int i t ∧ vb = x := by simpa using e
    obtain ⟨rfl, rfl⟩ := e'
    exact turn i vb t m nw h tk gs own E' hx hJ ho F' N'
/-- a loop over enumerate of a list of the ledger's that the turns leave as it is -/
theorem for_enumList {xa xb : Str} {pa pb pt : Pos} {kt : Nat} {l : Addr} {items : Array Value} {ep : Nat}
    (J : Nat → (Str → Option Value) → List (Addr × Obj) → Array GenState → Prop) (hh : A.handled = none) (hin : ∀ i m nw gs, J i m nw gs → (l, listOf items ep) ∈ nw)
    (F : Fr h₀ env.locals s.heap m₀) (N : News h₀ env.locals s.heap nw₀) (h0 : J 0 m₀ nw₀ s.gens)
    (hxa : env.kindOf xa = some .local) (hxb : env.kindOf xb = some .local) (hp : (env.scope.kind == .class || (env.scope.kind == .module && env.locals != env.globals)) = false)
    (turn : ∀ i v t m nw h tk gs own E', items[i]? = some v → J i m nw gs → OwnOff own (nw.map (·.1)) → Fr h₀ env.locals h (fun y => if y = xb then some v else if y = xa then some (.int i t) else m y) → News h₀ env.locals h (nw ++ own) →
      wpAny (model prog w) A (execs body env) (LoopPost h₀ env.locals own (J (i + 1)) s.drawn s.os Q) E' ⟨h, gs, s.drawn, tk, s.os⟩)
    (done : ∀ m nw h tk gs E', J items.size m nw gs → Fr h₀ env.locals h m → News h₀ env.locals h nw → wpAny (model prog w) A (execs orelse env) Q E' ⟨h, gs, s.drawn, tk, s.os⟩) :
    wpAny (model prog w) A (call (.type "enumerate") [.ref l]) (fun x s₁ => wpAny (model prog w) A (pyIter x) (fun it s₂ => codeAny (model prog w) A (.forLoop (.Tuple [.Name xa pa, .Name xb pb] kt pt) it body orelse env) (fun r s' => match r with | .ok f => Q f s' | .error e => cameBackBy (model prog w) A env E e s') s₂) E s₁) E s := by
  have hm0 := hin _ _ _ _ h0
  have hol := (N _ hm0).1
  refine call_enumerate_list (items := items) ⟨_, hol, rfl, _, rfl⟩ fun h3 he hit hsz hk => ?_
  refine wpAny_pyIter_enum he ?_
  have hlt : l < s.heap.objs.size := Heap.lt_size hol
  have hll : l ≠ s.heap.objs.size := Nat.ne_of_lt hlt
  have hle : l ≠ s.heap.objs.size + 1 := Nat.ne_of_lt (Nat.lt_succ_of_lt hlt)
  have W := (WalksT.enumerateD (prog := prog) (w := w) (A := A) (Draws.list (A := A.in1) hh s.heap.objs.size l hll items) (s.heap.objs.size + 1) (Nat.succ_ne_self _) (by simp; exact Ne.symm hle) (by simp)).toU
  have wrm : ∀ b, b ∈ [s.heap.objs.size + 1, s.heap.objs.size] → s.heap.objs.size ≤ b := fun b hb => by
    rcases List.mem_cons.mp hb with rfl | hb
    · exact Nat.le_succ _
    · rw [List.mem_singleton.mp hb]; exact Nat.le_refl _
  have memfp : ∀ b, b ∈ (s.heap.objs.size + 1) :: [s.heap.objs.size, l] → b ∉ [s.heap.objs.size + 1, s.heap.objs.size] → b = l := fun b hb hn => by
    simp at hb hn
    rcases hb with h | h | h
    · exact absurd h hn.1
    · exact absurd h hn.2
    · exact h
  refine forWU (s := { s with heap := _ }) J hh W (fun i h st b hb => ?_) (fun i v hi ⟨t, x, _, e⟩ => ⟨_, _, e⟩) hxa hxb hp (fun hm => ?_) (fun b hb => fresh_base F (wrm b hb)) (fr_push F hk) (news_keep N hk) (fun q hq hm => fresh_news N (wrm _ hm) q hq rfl)
    ⟨⟨_, he⟩, hit, ⟨_, hk _ _ hol, rfl, _, rfl⟩⟩ h0 (fun b hb hw => ?_) (fun i m nw gs h hJ F' N' b hb hw o e => ?_)
    (fun i va vb m nw h tk gs own E' hi hP hJ ho F' N' => ?_) done
  · rcases List.mem_cons.mp hb with rfl | hb
    · obtain ⟨⟨old, ho⟩, _⟩ := st; exact ⟨_, ho⟩
    · rw [List.mem_singleton.mp hb]; obtain ⟨_, ⟨o, ho, _⟩, _⟩ := st; exact ⟨o, ho⟩
  · have hne := fresh_loc F (Nat.le_refl _)
    have hne' := fresh_loc F (Nat.le_succ _)
    exact (N _ hm0).2.1 (memfp _ hm (by simp; exact ⟨hne', hne⟩)).symm
  · rw [memfp b hb hw]; exact ⟨_, hk _ _ hol⟩
  · have hbl := memfp b hb hw
    subst hbl
    have e1 := hk _ _ hol
    replace e : h3.get? b = some o := e
    rw [e1] at e; cases e
    exact (N' _ (hin _ _ _ _ hJ)).1
  · obtain ⟨t, x, hx, e⟩ := hP
    have e' : va = .int i t ∧ vb = x := by simpa using e
    obtain ⟨rfl, rfl⟩ := e'
    exact turn i vb t m nw h tk gs own E' hx hJ ho F' N'

/-- a loop over what a sequence's iterator walks: a list, a string, a range -/
theorem for_any {x : Str} {px : Pos} {I : Addr} {src : List Addr} {n : Nat} {P : Nat → Value → Prop} {St : Nat → Heap → Prop} {h1 : Heap} {tk1 : Nat}
    (J : Nat → (Str → Option Value) → List (Addr × Obj) → Array GenState → Prop) (hI : s.heap.objs.size ≤ I) (hk : ∀ b o, s.heap.get? b = some o → h1.get? b = some o)
    (W : Walks prog w A I (I :: src) [I] n P St) (hlive : ∀ i h, St i h → ∃ o, h.get? I = some o) (hst : St 0 h1)
    (F : Fr h₀ env.locals s.heap m₀) (N : News h₀ env.locals s.heap nw₀) (h0 : J 0 m₀ nw₀ s.gens)
    (hsrc0 : ∀ b ∈ src, ∃ o, s.heap.get? b = some o ∧ b ≠ env.locals ∧ ∀ i m nw gs h, J i m nw gs → Fr h₀ env.locals h m → News h₀ env.locals h nw → h.get? b = some o)
    (hx : env.kindOf x = some .local) (hp : (env.scope.kind == .class || (env.scope.kind == .module && env.locals != env.globals)) = false)
    (turn : ∀ i v m nw h tk gs own E', i < n → P i v → J i m nw gs → OwnOff own (nw.map (·.1)) → Fr h₀ env.locals h (fun y => if y = x then some v else m y) → News h₀ env.locals h (nw ++ own) →
      wpAny (model prog w) A (execs body env) (LoopPost h₀ env.locals own (J (i + 1)) s.drawn s.os Q) E' ⟨h, gs, s.drawn, tk, s.os⟩)
    (done : ∀ m nw h tk gs E', J n m nw gs → Fr h₀ env.locals h m → News h₀ env.locals h nw → wpAny (model prog w) A (execs orelse env) Q E' ⟨h, gs, s.drawn, tk, s.os⟩) :
    codeAny (model prog w) A (.forLoop (.Name x px) (.ref I) body orelse env) (fun r s' => match r with | .ok f => Q f s' | .error e => cameBackBy (model prog w) A env E e s') ⟨h1, s.gens, s.drawn, tk1, s.os⟩ := by
  refine forW (s := ⟨h1, s.gens, s.drawn, tk1, s.os⟩) J W (fun i h st b hb => by rw [List.mem_singleton.mp hb]; exact hlive i h st) hx hp (fun hm => ?_) (fun b hb => by rw [List.mem_singleton.mp hb]; exact fresh_base F hI)
    (fr_push F hk) (news_keep N hk) (fun q hq hm => fresh_news N hI q hq (List.mem_singleton.mp hm)) hst h0 (fun b hb hw => ?_) (fun i m nw gs h hJ F' N' b hb hw o e => ?_) turn done
  · rcases List.mem_cons.mp hm with e | hm
    · exact fresh_loc F hI e
    · obtain ⟨o, _, hn, _⟩ := hsrc0 _ hm; exact hn rfl
  · rcases List.mem_cons.mp hb with e | hb
    · exact absurd (List.mem_singleton.mpr e) hw
    · obtain ⟨o, ho, _⟩ := hsrc0 _ hb; exact ⟨o, hk _ _ ho⟩
  · rcases List.mem_cons.mp hb with e' | hb
    · exact absurd (List.mem_singleton.mpr e') hw
    · obtain ⟨o', ho, _, hj⟩ := hsrc0 _ hb
      have e1 := hk _ _ ho
      replace e : h1.get? b = some o := e
      rw [e1] at e; cases e
      exact hj _ _ _ _ _ hJ F' N'

/-- a loop over a list of the ledger's that the turns leave as it is -/
theorem for_listN {x : Str} {px : Pos} {l : Addr} {items : Array Value} {ep : Nat}
    (J : Nat → (Str → Option Value) → List (Addr × Obj) → Array GenState → Prop) (hh : A.handled = none) (hin : ∀ i m nw gs, J i m nw gs → (l, listOf items ep) ∈ nw)
    (F : Fr h₀ env.locals s.heap m₀) (N : News h₀ env.locals s.heap nw₀) (h0 : J 0 m₀ nw₀ s.gens)
    (hx : env.kindOf x = some .local) (hp : (env.scope.kind == .class || (env.scope.kind == .module && env.locals != env.globals)) = false)
    (turn : ∀ i v m nw h tk gs own E', items[i]? = some v → J i m nw gs → OwnOff own (nw.map (·.1)) → Fr h₀ env.locals h (fun y => if y = x then some v else m y) → News h₀ env.locals h (nw ++ own) →
      wpAny (model prog w) A (execs body env) (LoopPost h₀ env.locals own (J (i + 1)) s.drawn s.os Q) E' ⟨h, gs, s.drawn, tk, s.os⟩)
    (done : ∀ m nw h tk gs E', J items.size m nw gs → Fr h₀ env.locals h m → News h₀ env.locals h nw → wpAny (model prog w) A (execs orelse env) Q E' ⟨h, gs, s.drawn, tk, s.os⟩) :
    wpAny (model prog w) A (pyIter (.ref l)) (fun it s₂ => codeAny (model prog w) A (.forLoop (.Name x px) it body orelse env) (fun r s' => match r with | .ok f => Q f s' | .error e => cameBackBy (model prog w) A env E e s') s₂) E s := by
  have hm0 := hin _ _ _ _ h0
  have hol := (N _ hm0).1
  refine wpAny_pyIter_list (items := items) ⟨_, hol, rfl, _, rfl⟩ ?_
  have hk : ∀ b o, s.heap.get? b = some o → (s.heap.push { cls := .type "list_iterator", data := .fields #[.ref l, .int 0 0] }).get? b = some o := fun b o e => Heap.get?_push_of_some _ e
  exact for_any J (Nat.le_refl _) hk (Walks.list hh _ l (Nat.ne_of_lt (Heap.lt_size hol)) items) (fun i h st => let ⟨o, ho, _⟩ := st.1; ⟨o, ho⟩) ⟨⟨_, Heap.get?_push_size _ rfl, rfl, rfl⟩, ⟨_, hk _ _ hol, rfl, _, rfl⟩⟩ F N h0
    (fun b hb => by rw [List.mem_singleton.mp hb]; exact ⟨_, hol, (N _ hm0).2.1, fun i m nw gs h hJ _ N' => (N' _ (hin _ _ _ _ hJ)).1⟩) hx hp (fun i v m nw h tk gs own E' _ hP => turn i v m nw h tk gs own E' hP) done

/-- a loop over a list that stands in the base -/
theorem for_listB {x : Str} {px : Pos} {l : Addr} {items : Array Value}
    (J : Nat → (Str → Option Value) → List (Addr × Obj) → Array GenState → Prop) (hh : A.handled = none) (hl : h₀.IsList l items)
    (F : Fr h₀ env.locals s.heap m₀) (N : News h₀ env.locals s.heap nw₀) (h0 : J 0 m₀ nw₀ s.gens)
    (hx : env.kindOf x = some .local) (hp : (env.scope.kind == .class || (env.scope.kind == .module && env.locals != env.globals)) = false)
    (turn : ∀ i v m nw h tk gs own E', items[i]? = some v → J i m nw gs → OwnOff own (nw.map (·.1)) → Fr h₀ env.locals h (fun y => if y = x then some v else m y) → News h₀ env.locals h (nw ++ own) →
      wpAny (model prog w) A (execs body env) (LoopPost h₀ env.locals own (J (i + 1)) s.drawn s.os Q) E' ⟨h, gs, s.drawn, tk, s.os⟩)
    (done : ∀ m nw h tk gs E', J items.size m nw gs → Fr h₀ env.locals h m → News h₀ env.locals h nw → wpAny (model prog w) A (execs orelse env) Q E' ⟨h, gs, s.drawn, tk, s.os⟩) :
    wpAny (model prog w) A (pyIter (.ref l)) (fun it s₂ => codeAny (model prog w) A (.forLoop (.Name x px) it body orelse env) (fun r s' => match r with | .ok f => Q f s' | .error e => cameBackBy (model prog w) A env E e s') s₂) E s := by
  obtain ⟨o, ho, hr⟩ := id hl
  refine wpAny_pyIter_list (hl.at fun o e => F.keep _ _ e) ?_
  have hk : ∀ b o, s.heap.get? b = some o → (s.heap.push { cls := .type "list_iterator", data := .fields #[.ref l, .int 0 0] }).get? b = some o := fun b o e => Heap.get?_push_of_some _ e
  have hlt := Heap.lt_size (F.keep _ _ ho)
  exact for_any J (Nat.le_refl _) hk (Walks.list hh _ l (Nat.ne_of_lt hlt) items) (fun i h st => let ⟨o, ho, _⟩ := st.1; ⟨o, ho⟩) ⟨⟨_, Heap.get?_push_size _ rfl, rfl, rfl⟩, hl.at fun o e => hk _ _ (F.keep _ _ e)⟩ F N h0
    (fun b hb => by
      rw [List.mem_singleton.mp hb]
      exact ⟨_, F.keep _ _ ho, fun q => by rw [q] at ho; exact absurd (Heap.lt_size ho) (Nat.not_lt.mpr F.above), fun i m nw gs h hJ F' _ => F'.keep _ _ ho⟩) hx hp (fun i v m nw h tk gs own E' _ hP => turn i v m nw h tk gs own E' hP) done

/-- a loop over a text's signs -/
theorem for_str {x : Str} {px : Pos} {y : Str} {t : Tok}
    (J : Nat → (Str → Option Value) → List (Addr × Obj) → Array GenState → Prop) (hh : A.handled = none)
    (F : Fr h₀ env.locals s.heap m₀) (N : News h₀ env.locals s.heap nw₀) (h0 : J 0 m₀ nw₀ s.gens)
    (hx : env.kindOf x = some .local) (hp : (env.scope.kind == .class || (env.scope.kind == .module && env.locals != env.globals)) = false)
    (turn : ∀ i c u m nw h tk gs own E', y.cps[i]? = some c → J i m nw gs → OwnOff own (nw.map (·.1)) → Fr h₀ env.locals h (fun z => if z = x then some (.str ⟨#[c]⟩ u) else m z) → News h₀ env.locals h (nw ++ own) →
      wpAny (model prog w) A (execs body env) (LoopPost h₀ env.locals own (J (i + 1)) s.drawn s.os Q) E' ⟨h, gs, s.drawn, tk, s.os⟩)
    (done : ∀ m nw h tk gs E', J y.cps.size m nw gs → Fr h₀ env.locals h m → News h₀ env.locals h nw → wpAny (model prog w) A (execs orelse env) Q E' ⟨h, gs, s.drawn, tk, s.os⟩) :
    wpAny (model prog w) A (pyIter (.str y t)) (fun it s₂ => codeAny (model prog w) A (.forLoop (.Name x px) it body orelse env) (fun r s' => match r with | .ok f => Q f s' | .error e => cameBackBy (model prog w) A env E e s') s₂) E s := by
  refine wpAny_pyIter_strU ?_
  have hk : ∀ b o, s.heap.get? b = some o → (s.heap.push { cls := .type (strIterType y), data := .fields #[.str y t, .int 0 0] }).get? b = some o := fun b o e => Heap.get?_push_of_some _ e
  have go : ∀ ty, ty = strIterType y → ∀ W : Walks prog w A s.heap.objs.size [s.heap.objs.size] [s.heap.objs.size] y.cps.size (SignAt y) (fun i h => h.IsStrIter s.heap.objs.size ty y t i), codeAny (model prog w) A (.forLoop (.Name x px) (.ref s.heap.objs.size) body orelse env) (fun r s' => match r with | .ok f => Q f s' | .error e => cameBackBy (model prog w) A env E e s')
      ⟨s.heap.push { cls := .type (strIterType y), data := .fields #[.str y t, .int 0 0] }, s.gens, s.drawn, s.toks, s.os⟩ := by
    intro ty e W
    subst e
    exact for_any J (Nat.le_refl _) hk W (fun i h st => let ⟨o, ho, _⟩ := st; ⟨o, ho⟩) ⟨_, Heap.get?_push_size _ rfl, rfl, rfl⟩ F N h0 (fun b hb => nomatch hb) hx hp
      (fun i v m nw h tk gs own E' _ hP hJ ho F' N' => by obtain ⟨c, u, hc, rfl⟩ := hP; exact turn i c u m nw h tk gs own E' hc hJ ho F' N') done
  cases ha : y.cps.all (· < 128)
  · exact go "str_iterator" (by simp [strIterType, ha]) (Walks.strWide hh _ y t)
  · exact go "str_ascii_iterator" (by simp [strIterType, ha]) (Walks.strAscii hh _ y t)

/-- a loop over a range that lies in the ledger -/
theorem for_range {x : Str} {px : Pos} {r : Addr} {a b c : Int} {t u v : Tok} {n : Nat}
    (J : Nat → (Str → Option Value) → List (Addr × Obj) → Array GenState → Prop) (hh : A.handled = none) (hr : IsRange s.heap r a b c t u v) (hsmall : Builtin.Range.small a b c = true) (hsz : Builtin.Range.rangeSize a b c = n)
    (F : Fr h₀ env.locals s.heap m₀) (N : News h₀ env.locals s.heap nw₀) (h0 : J 0 m₀ nw₀ s.gens)
    (hx : env.kindOf x = some .local) (hp : (env.scope.kind == .class || (env.scope.kind == .module && env.locals != env.globals)) = false)
    (turn : ∀ i k m nw h tk gs own E', i < n → J i m nw gs → OwnOff own (nw.map (·.1)) → Fr h₀ env.locals h (fun z => if z = x then some (.int (a + i * c) k) else m z) → News h₀ env.locals h (nw ++ own) →
      wpAny (model prog w) A (execs body env) (LoopPost h₀ env.locals own (J (i + 1)) s.drawn s.os Q) E' ⟨h, gs, s.drawn, tk, s.os⟩)
    (done : ∀ m nw h tk gs E', J n m nw gs → Fr h₀ env.locals h m → News h₀ env.locals h nw → wpAny (model prog w) A (execs orelse env) Q E' ⟨h, gs, s.drawn, tk, s.os⟩) :
    wpAny (model prog w) A (pyIter (.ref r)) (fun it s₂ => codeAny (model prog w) A (.forLoop (.Name x px) it body orelse env) (fun r s' => match r with | .ok f => Q f s' | .error e => cameBackBy (model prog w) A env E e s') s₂) E s := by
  refine wpAny_pyIter_range hr hsmall ?_
  rw [hsz]
  have hk : ∀ b o, s.heap.get? b = some o → (s.heap.push { cls := .type "range_iterator", data := .fields #[rawInt a, rawInt n, rawInt c] }).get? b = some o := fun b o e => Heap.get?_push_of_some _ e
  refine for_any J (Nat.le_refl _) hk (Walks.range hh s.heap.objs.size a c n) (fun i h st => ⟨_, st⟩) ?_ F N h0 (fun b hb => nomatch hb) hx hp
    (fun i v m nw h tk gs own E' hi hP hJ ho F' N' => by obtain ⟨k, rfl⟩ := hP; exact turn i k m nw h tk gs own E' hi hJ ho F' N') done
  show IsRangeIter _ _ (a + ((0 : Nat) : Int) * c) ((n : Int) - ((0 : Nat) : Int)) c
  rw [show a + ((0 : Nat) : Int) * c = a by simp, show (n : Int) - ((0 : Nat) : Int) = n by simp]
  exact Heap.get?_push_size _ rfl
end
end Mine
end

section
-- Fm
example : True := by w_top off; trivial
open PySem PySem.W PyProof.Rows PySem.Calls PySem.Spec
namespace Mine
/-- the table's rows: where they lie, and each pair's place, bit and sign -/
noncomputable def fmRows : List (Addr × List (Addr × Int × Nat)) := [(197, [(190, 40960, 108), (191, 49152, 115), (192, 32768, 45), (193, 24576, 98), (194, 16384, 100), (195, 8192, 99), (196, 4096, 112)]),
  (199, [(198, 256, 114)]), (201, [(200, 128, 119)]), (205, [(202, 2112, 115), (203, 2048, 83), (204, 64, 120)]),
  (207, [(206, 32, 114)]), (209, [(208, 16, 119)]), (213, [(210, 1032, 115), (211, 1024, 83), (212, 8, 120)]),
  (215, [(214, 4, 114)]), (217, [(216, 2, 119)]), (221, [(218, 513, 116), (219, 512, 84), (220, 1, 120)])]
noncomputable def TupAt (h : Heap) (a : Addr) (vs : Array Value) : Prop := h.get? a = some ⟨.type "tuple", none, .seq vs 0, #[]⟩
theorem TupAt.is {h : Heap} {a : Addr} {vs : Array Value} (x : TupAt h a vs) : h.IsTuple a vs := ⟨_, x, rfl, _, rfl⟩
noncomputable def PairsAt (h : Heap) : List (Addr × Int × Nat) → Prop
  | [] => True
  | q :: r => (∃ t u, h.IsTuple q.1 #[.int q.2.1 t, .str ⟨#[q.2.2]⟩ u]) ∧ PairsAt h r
noncomputable def RowsAt (h : Heap) : List (Addr × List (Addr × Int × Nat)) → Prop
  | [] => True
  | q :: r => h.IsTuple q.1 (q.2.map fun x => Value.ref x.1).toArray ∧ PairsAt h q.2 ∧ RowsAt h r
set_option maxRecDepth 100000 in
theorem rows_at {w : World} {g : Heap} (X : (hd.heap_1 w.params).In g) (hp : Challenge.rw_oc0165_01.row.prog = Challenge.rw_oc0165_01.row.prog) : g.IsTuple 222 (fmRows.map fun x => Value.ref x.1).toArray ∧ RowsAt g fmRows := by
  revert X hp
  k_fill
  intro X _
  have e : ∀ a o, (hd.heap_1 w.params).lookup a = some o → g.get? a = some o := X
  refine ⟨⟨_, e 222 _ (by k_is), rfl, _, rfl⟩, ?_⟩
  simp only [RowsAt, fmRows, PairsAt, and_true]
  refine ⟨⟨_, e 197 _ (by k_is), rfl, _, rfl⟩, ⟨⟨_, _, _, e 190 _ (by k_is), rfl, _, rfl⟩, ⟨_, _, _, e 191 _ (by k_is), rfl, _, rfl⟩, ⟨_, _, _, e 192 _ (by k_is), rfl, _, rfl⟩, ⟨_, _, _, e 193 _ (by k_is), rfl, _, rfl⟩, ⟨_, _, _, e 194 _ (by k_is), rfl, _, rfl⟩, ⟨_, _, _, e 195 _ (by k_is), rfl, _, rfl⟩, ⟨_, _, _, e 196 _ (by k_is), rfl, _, rfl⟩⟩,
    ⟨_, e 199 _ (by k_is), rfl, _, rfl⟩, ⟨_, _, _, e 198 _ (by k_is), rfl, _, rfl⟩,
    ⟨_, e 201 _ (by k_is), rfl, _, rfl⟩, ⟨_, _, _, e 200 _ (by k_is), rfl, _, rfl⟩,
    ⟨_, e 205 _ (by k_is), rfl, _, rfl⟩, ⟨⟨_, _, _, e 202 _ (by k_is), rfl, _, rfl⟩, ⟨_, _, _, e 203 _ (by k_is), rfl, _, rfl⟩, ⟨_, _, _, e 204 _ (by k_is), rfl, _, rfl⟩⟩,
    ⟨_, e 207 _ (by k_is), rfl, _, rfl⟩, ⟨_, _, _, e 206 _ (by k_is), rfl, _, rfl⟩,
    ⟨_, e 209 _ (by k_is), rfl, _, rfl⟩, ⟨_, _, _, e 208 _ (by k_is), rfl, _, rfl⟩,
    ⟨_, e 213 _ (by k_is), rfl, _, rfl⟩, ⟨⟨_, _, _, e 210 _ (by k_is), rfl, _, rfl⟩, ⟨_, _, _, e 211 _ (by k_is), rfl, _, rfl⟩, ⟨_, _, _, e 212 _ (by k_is), rfl, _, rfl⟩⟩,
    ⟨_, e 215 _ (by k_is), rfl, _, rfl⟩, ⟨_, _, _, e 214 _ (by k_is), rfl, _, rfl⟩,
    ⟨_, e 217 _ (by k_is), rfl, _, rfl⟩, ⟨_, _, _, e 216 _ (by k_is), rfl, _, rfl⟩,
    ⟨_, e 221 _ (by k_is), rfl, _, rfl⟩, ⟨_, _, _, e 218 _ (by k_is), rfl, _, rfl⟩, ⟨_, _, _, e 219 _ (by k_is), rfl, _, rfl⟩, ⟨_, _, _, e 220 _ (by k_is), rfl, _, rfl⟩⟩
theorem rows_get {h : Heap} : ∀ {l : List (Addr × List (Addr × Int × Nat))}, RowsAt h l → ∀ {i : Nat} {q : Addr × List (Addr × Int × Nat)}, l[i]? = some q → h.IsTuple q.1 (q.2.map fun x => Value.ref x.1).toArray ∧ PairsAt h q.2
  | [], _, _, _, e => by simp at e
  | r :: l, x, 0, q, e => by simp at e; subst e; exact ⟨x.1, x.2.1⟩
  | r :: l, x, i + 1, q, e => rows_get x.2.2 (by simpa using e)
theorem pairs_vals {h : Heap} : ∀ {l : List (Addr × Int × Nat)}, PairsAt h l → ∃ vals : Nat → Array Value, ∀ k q, l[k]? = some q → h.IsTuple q.1 (vals k) ∧ ∃ t u, vals k = #[.int q.2.1 t, .str ⟨#[q.2.2]⟩ u]
  | [], _ => ⟨fun _ => #[], fun _ _ e => by simp at e⟩
  | r :: l, x => by
    obtain ⟨vals, hv⟩ := pairs_vals x.2
    obtain ⟨t, u, h1⟩ := x.1
    refine ⟨fun k => match k with | 0 => #[.int r.2.1 t, .str ⟨#[r.2.2]⟩ u] | k + 1 => vals k, fun k q e => ?_⟩
    cases k with
    | zero => simp at e; subst e; exact ⟨h1, t, u, rfl⟩
    | succ k => exact hv k q (by simpa using e)
noncomputable def hitB (mode : Int) (i : Nat) (bit : Int) : Bool := if i = 0 then decide (Builtin.bitAnd mode 61440 = bit) else decide (Builtin.bitAnd mode bit = bit)
noncomputable def pickC (mode : Int) (i : Nat) : List (Addr × Int × Nat) → Nat
  | [] => if i = 0 then 63 else 45
  | q :: r => if hitB mode i q.2.1 then q.2.2 else pickC mode i r
/-- the first n signs of filemode -/
noncomputable def fmSigns (mode : Int) (n : Nat) : List Nat := (List.range n).map fun i => pickC mode i (fmRows.getD i (0, [])).2
noncomputable def oneStr (c : Nat) : Str := ⟨#[c]⟩
theorem strs_push {vs : List Value} {ts : List Str} {x : Str} {u : Tok} (h : StrsAre vs ts) : StrsAre (vs ++ [.str x u]) (ts ++ [x]) := by
  induction h with
  | nil => exact .cons _ _ .nil
  | cons _ _ _ ih => exact .cons _ _ ih
theorem news_sub {h₀ h : Heap} {L : Addr} {a b : List (Addr × Obj)} (N : News h₀ L h a) (hs : ∀ q ∈ b, q ∈ a) : News h₀ L h b := fun q hq => N q (hs q hq)
theorem signs_push {mode : Int} {i c : Nat} {u : Tok} {its : Array Value} {q : Addr × List (Addr × Int × Nat)} (hq : fmRows[i]? = some q) (hc : pickC mode i q.2 = c) (h : StrsAre its.toList ((fmSigns mode i).map oneStr)) :
    StrsAre (its.push (.str ⟨#[c]⟩ u)).toList ((fmSigns mode (i + 1)).map oneStr) := by
  have e : fmSigns mode (i + 1) = fmSigns mode i ++ [c] := by
    unfold fmSigns
    rw [List.range_succ, List.map_append, List.map_singleton, List.getD_eq_getElem?_getD, hq, ← hc]; rfl
  rw [e, List.map_append, Array.toList_push]
  exact strs_push h
theorem signs_len (l : List Nat) : ((l.map oneStr).map (·.length)).sum = l.length := by
  induction l with
  | nil => rfl
  | cons c r ih => rw [List.map_cons, List.map_cons, List.sum_cons, ih, List.length_cons]; show 1 + _ = _; (first | lia | omega)
theorem signs_fold (l : List Nat) : ∀ acc : Array Nat, (l.map oneStr).foldl (fun acc p => acc ++ (Str.ofString "").cps ++ p.cps) acc = acc ++ l.toArray := by
  have e : (Str.ofString "").cps = #[] := by decide +kernel
  rw [e]
  induction l with
  | nil => intro acc; simp
  | cons c r ih => intro acc; rw [List.map_cons, List.foldl_cons, ih]; simp [oneStr]
theorem signs_join (l : List Nat) : Txt.join (Str.ofString "") (l.map oneStr) = ⟨l.toArray⟩ := by
  cases l with
  | nil => rfl
  | cons c r =>
    show Str.mk (((c :: r).map oneStr).drop 1 |>.foldl _ _) = _
    rw [List.map_cons, List.drop_succ_cons, List.drop_zero]
    have := signs_fold r #[c]
    rw [show (List.headD (oneStr c :: List.map oneStr r) Str.empty).cps = #[c] from rfl, this]
    simp
/-- what holds between the turns -/
inductive FmInv (g0 : Array GenState) (mode : Int) (t1 : Tok) (i : Nat) (m : Str → Option Value) (nw : List (Addr × Obj)) (gs : Array GenState) : Prop
  | mk (eg : gs = g0) (D : Addr) (its : Array Value) (e : Nat) (en : nw = [(D, listOf its e)]) (m1 : m "perm" = some (.ref D)) (m2 : m "mode" = some (.int mode t1)) (hs : StrsAre its.toList ((fmSigns mode i).map oneStr))
section
variable {w : World} {p : Program} {loose : List Str} {mean : ExcName → Option Value} {mg mb : Str → Option Value} {G : Heap} {s : Shared} {Q E : Value → Shared → Prop}
set_option maxRecDepth 100000
set_option maxHeartbeats 8000000
theorem c_filemode {mode : Int} {t1 : Tok} (D : Gd w p loose mean mg mb G) (St : G.StaysIn s.heap) (h1 : 0 ≤ mode) (h2 : mode < 65536)
    (hret : ∀ t h' tk', (∀ b o, s.heap.get? b = some o → h'.get? b = some o) → Q (.str ⟨(fmSigns mode 10).toArray⟩ t) { s with heap := h', toks := tk' }) :
    wpAny (model Challenge.rw_oc0165_01.row.prog w) (Am 700 500) (call (.ref 229) [.int mode t1]) Q E s := by
  refine wpAny_call ?_
  refine' enterP (binds := [("mode", .int mode t1)]) [] D St ?k3 ?k4 ?k6 ?k7 ?k8 ?k9 ?kB ?c5 ?c2 ?c3 ?c4 ?_
  (((case k3 => exact fun _ q => nomatch q); (case k4 => exact fun _ q => nomatch q); (case k6 => k_is); (case k7 => k_is); (case k8 => decide); (case k9 => exact BindsTo.of_eq rfl); (case kB => exact locs rfl); (case c5 => decide); (case c2 => exact rfl); (case c3 => exact rfl); (case c4 => exact rfl)))
  intro g L h hg hL F N X T l1 hkeep hst
  obtain ⟨hT, hR⟩ := rows_at X rfl
  dsimp only
  k_fold
  (repeat' (first | (fail_if_success (with_reducible show wpAny _ _ (exec (Stmt.For _ _ _ _ _) _) _ _ _)); (first | (k_unfold; (try dsimp only)) | (first | ((with_reducible show LoopPost _ _ _ _ _ _ _ _ _); (dsimp only [LoopPost])) | ((k_here; (with_reducible show wpAny _ _ (call (Value.ref 189) _) _ _ _); k_dflt (refine' u_ifmt ?k1 ?k2 ?k3 ?k4 ?k5 ?k6 ?k7 ?_; (case k1 => k_asm); (case k2 => k_asm); (case k3 => assumption); (case k4 => assumption); (case k5 => exact rfl); (case k6 => decide); (case k7 => decide)); intro t' h' tk' F' N'; (try k_sweep))) | walk1) | (dsimp only; (first | ((with_reducible show LoopPost _ _ _ _ _ _ _ _ _); (dsimp only [LoopPost])) | ((k_here; (with_reducible show wpAny _ _ (call (Value.ref 189) _) _ _ _); k_dflt (refine' u_ifmt ?k1 ?k2 ?k3 ?k4 ?k5 ?k6 ?k7 ?_; (case k1 => k_asm); (case k2 => k_asm); (case k3 => assumption); (case k4 => assumption); (case k5 => exact rfl); (case k6 => decide); (case k7 => decide)); intro t' h' tk' F' N'; (try k_sweep))) | walk1)))))
  refine wpAny_For ?_ (fun _ => rfl)
  (repeat' (first | (fail_if_success (with_reducible show wpAny _ _ (exec (Stmt.For _ _ _ _ _) _) _ _ _)); (first | (k_unfold; (try dsimp only)) | (first | ((with_reducible show LoopPost _ _ _ _ _ _ _ _ _); (dsimp only [LoopPost])) | ((k_here; (with_reducible show wpAny _ _ (call (Value.ref 189) _) _ _ _); k_dflt (refine' u_ifmt ?k1 ?k2 ?k3 ?k4 ?k5 ?k6 ?k7 ?_; (case k1 => k_asm); (case k2 => k_asm); (case k3 => assumption); (case k4 => assumption); (case k5 => exact rfl); (case k6 => decide); (case k7 => decide)); intro t' h' tk' F' N'; (try k_sweep))) | walk1) | (dsimp only; (first | ((with_reducible show LoopPost _ _ _ _ _ _ _ _ _); (dsimp only [LoopPost])) | ((k_here; (with_reducible show wpAny _ _ (call (Value.ref 189) _) _ _ _); k_dflt (refine' u_ifmt ?k1 ?k2 ?k3 ?k4 ?k5 ?k6 ?k7 ?_; (case k1 => k_asm); (case k2 => k_asm); (case k3 => assumption); (case k4 => assumption); (case k5 => exact rfl); (case k6 => decide); (case k7 => decide)); intro t' h' tk' F' N'; (try k_sweep))) | walk1)))))
  rename Fr _ _ _ _ => F1
  rename News _ _ _ _ => N1
  refine for_enumTup (FmInv s.gens mode t1) rfl hT F1 N1 ⟨rfl, _, _, _, rfl, rfl, rfl, .nil⟩ rfl rfl rfl ?_ ?_
  · rintro i v t m nw h tk gs own E' hv ⟨rfl, Dp, its, e, rfl, hm1, hm2, hits⟩ hoff F2 N2
    clear F1 N1
    obtain ⟨m2, rfl⟩ := as_if2 hm1 hm2
    dsimp only at F2 N2
    clear hm1 hm2
    obtain ⟨q, hq, rfl⟩ : ∃ q, fmRows[i]? = some q ∧ v = .ref q.1 := by
      simp only [List.getElem?_toArray, List.getElem?_map, Option.map_eq_some_iff] at hv
      obtain ⟨q, h1, h2⟩ := hv
      exact ⟨q, h1, h2.symm⟩
    obtain ⟨hqT, hqP⟩ := rows_get hR hq
    obtain ⟨vals, hvals⟩ := pairs_vals hqP
    have hi10 : i < 10 := (List.getElem?_eq_some_iff.mp hq).1
    have hsz0 : its.size ≤ 10 := by have := hits.length; simp [fmSigns] at this; (first | lia | omega)
    (repeat' (first | (fail_if_success (with_reducible show wpAny _ _ (exec (Stmt.For _ _ _ _ _) _) _ _ _)); (first | (k_unfold; (try dsimp only)) | (first | ((with_reducible show LoopPost _ _ _ _ _ _ _ _ _); (dsimp only [LoopPost])) | ((k_here; (with_reducible show wpAny _ _ (call (Value.ref 189) _) _ _ _); k_dflt (refine' u_ifmt ?k1 ?k2 ?k3 ?k4 ?k5 ?k6 ?k7 ?_; (case k1 => k_asm); (case k2 => k_asm); (case k3 => assumption); (case k4 => assumption); (case k5 => exact rfl); (case k6 => decide); (case k7 => decide)); intro t' h' tk' F' N'; (try k_sweep))) | walk1) | (dsimp only; (first | ((with_reducible show LoopPost _ _ _ _ _ _ _ _ _); (dsimp only [LoopPost])) | ((k_here; (with_reducible show wpAny _ _ (call (Value.ref 189) _) _ _ _); k_dflt (refine' u_ifmt ?k1 ?k2 ?k3 ?k4 ?k5 ?k6 ?k7 ?_; (case k1 => k_asm); (case k2 => k_asm); (case k3 => assumption); (case k4 => assumption); (case k5 => exact rfl); (case k6 => decide); (case k7 => decide)); intro t' h' tk' F' N'; (try k_sweep))) | walk1)))))
    refine wpAny_For ?_ (fun _ => rfl)
    walk1
    rename Fr _ _ _ _ => F3
    rename News _ _ _ _ => N3
    have gt : ∀ j, j < (q.2.map fun x => Value.ref x.1).toArray.size → q.2[j]? = some (q.2.getD j (0, 0, 0)) := fun j hj => by simp at hj; simp [hj]
    refine for_tupPairs (Ts := fun j => (q.2.getD j (0, 0, 0)).1) (vals := vals) (fun j m nw gs => gs = s.gens ∧ nw = (Dp, listOf its e) :: own ∧ m "perm" = some (.ref Dp) ∧ m "mode" = some (.int mode t1) ∧ m "index" = some (.int i t) ∧ pickC mode i (q.2.drop j) = pickC mode i q.2)
      rfl hqT (fun j hj => by rw [List.getElem?_toArray, List.getElem?_map, gt j hj]; rfl) (fun j hj => (hvals j _ (gt j hj)).1) (fun j hj => let ⟨_, _, e⟩ := (hvals j _ (gt j hj)).2; ⟨_, _, e⟩) F3 N3 ⟨rfl, rfl, rfl, rfl, rfl, rfl⟩ rfl rfl rfl ?_ ?_
    · rintro j va vb m nw h tk gs own2 E' hj hvj ⟨rfl, rfl, hm1, hm2, hm3, hpk⟩ hoff2 F4 N4
      clear F3 N3
      obtain ⟨m3, rfl⟩ := as_if3 hm1 hm2 hm3
      dsimp only at F4 N4
      clear hm1 hm2 hm3
      obtain ⟨tb, uc, hvv⟩ := (hvals j _ (gt j hj)).2
      rw [hvv] at hvj
      have e' : va = .int (q.2.getD j (0, 0, 0)).2.1 tb ∧ vb = .str ⟨#[(q.2.getD j (0, 0, 0)).2.2]⟩ uc := by simpa [eq_comm] using hvj
      obtain ⟨rfl, rfl⟩ := e'
      have hcons : pickC mode i (q.2.drop j) = if hitB mode i (q.2.getD j (0, 0, 0)).2.1 then (q.2.getD j (0, 0, 0)).2.2 else pickC mode i (q.2.drop (j + 1)) := by
        have hjl : j < q.2.length := by simpa using hj
        rw [List.drop_eq_getElem_cons hjl, show q.2.getD j (0, 0, 0) = q.2[j] by simp [hjl]]; rfl
      rw [hpk] at hcons
      generalize (q.2.getD j (0, 0, 0)).2.1 = bit at *
      generalize (q.2.getD j (0, 0, 0)).2.2 = cc at *
      have hoff3 : OwnOff (own ++ own2) [Dp] := fun q hq b hb => by
        rcases List.mem_append.mp hq with hq | hq
        · exact hoff q hq b hb
        · exact hoff2 q hq b (by rw [List.mem_singleton.mp hb]; exact .head _)
      replace N4 : News g L h ((Dp, W.listOf its e) :: (own ++ own2)) := N4
      have hsz : its.size ≤ 10 := hsz0
      (repeat' (first | (fail_if_success (with_reducible show wpAny _ _ (exec (Stmt.For _ _ _ _ _) _) _ _ _)); (first | (k_unfold; (try dsimp only)) | (first | ((with_reducible show LoopPost _ _ _ _ _ _ _ _ _); (dsimp only [LoopPost])) | ((k_here; (with_reducible show wpAny _ _ (call (Value.ref 189) _) _ _ _); k_dflt (refine' u_ifmt ?k1 ?k2 ?k3 ?k4 ?k5 ?k6 ?k7 ?_; (case k1 => k_asm); (case k2 => k_asm); (case k3 => assumption); (case k4 => assumption); (case k5 => exact rfl); (case k6 => decide); (case k7 => decide)); intro t' h' tk' F' N'; (try k_sweep))) | walk1) | (dsimp only; (first | ((with_reducible show LoopPost _ _ _ _ _ _ _ _ _); (dsimp only [LoopPost])) | ((k_here; (with_reducible show wpAny _ _ (call (Value.ref 189) _) _ _ _); k_dflt (refine' u_ifmt ?k1 ?k2 ?k3 ?k4 ?k5 ?k6 ?k7 ?_; (case k1 => k_asm); (case k2 => k_asm); (case k3 => assumption); (case k4 => assumption); (case k5 => exact rfl); (case k6 => decide); (case k7 => decide)); intro t' h' tk' F' N'; (try k_sweep))) | walk1)))))
      all_goals rename Fr _ _ _ _ => F5
      all_goals rename News _ _ _ _ => N5
      · rename Builtin.bitAnd mode 61440 = bit => hb
        have hi0 : i = 0 := by (first | lia | omega)
        rw [if_pos (by simp [hitB, hi0, hb])] at hcons
        exact ⟨_, _, _, [(Dp, listOf (its.push (.str ⟨#[cc]⟩ uc)) (e + 1))], _, rfl, F5, news_sub N5 (fun q hq => by simp at hq ⊢; rcases hq with h | h; exact .inl h; exact .inr (.inl h)), hoff, rfl, _, _, _, rfl, rfl, rfl, signs_push hq hcons hits⟩
      · rename Builtin.bitAnd mode 61440 ≠ bit => hb
        have hi0 : i = 0 := by (first | lia | omega)
        rw [if_neg (by simp [hitB, hi0, hb])] at hcons
        exact ⟨_, _, _, _, _, rfl, F5, N5, hoff2, rfl, rfl, rfl, rfl, rfl, hcons.symm⟩
      · rename Builtin.bitAnd mode bit = bit => hb
        have hi0 : i ≠ 0 := by (first | lia | omega)
        rw [if_pos (by simp [hitB, hi0, hb])] at hcons
        exact ⟨_, _, _, [(Dp, listOf (its.push (.str ⟨#[cc]⟩ uc)) (e + 1))], _, rfl, F5, news_sub N5 (fun q hq => by simp at hq ⊢; rcases hq with h | h; exact .inl h; exact .inr (.inl h)), hoff, rfl, _, _, _, rfl, rfl, rfl, signs_push hq hcons hits⟩
      · rename Builtin.bitAnd mode bit ≠ bit => hb
        have hi0 : i ≠ 0 := by (first | lia | omega)
        rw [if_neg (by simp [hitB, hi0, hb])] at hcons
        exact ⟨_, _, _, _, _, rfl, F5, N5, hoff2, rfl, rfl, rfl, rfl, rfl, hcons.symm⟩
    · rintro m nw h tk gs E' ⟨rfl, rfl, hm1, hm2, hm3, hpk⟩ F4 N4
      clear F3 N3
      obtain ⟨m3, rfl⟩ := as_if3 hm1 hm2 hm3
      dsimp only at F4 N4
      clear hm1 hm2 hm3
      rw [show (q.2.map fun x => Value.ref x.1).toArray.size = q.2.length by simp, List.drop_length] at hpk
      have hoff3 : OwnOff own [Dp] := hoff
      (repeat' (first | (fail_if_success (with_reducible show wpAny _ _ (exec (Stmt.For _ _ _ _ _) _) _ _ _)); (first | (k_unfold; (try dsimp only)) | (first | ((with_reducible show LoopPost _ _ _ _ _ _ _ _ _); (dsimp only [LoopPost])) | ((k_here; (with_reducible show wpAny _ _ (call (Value.ref 189) _) _ _ _); k_dflt (refine' u_ifmt ?k1 ?k2 ?k3 ?k4 ?k5 ?k6 ?k7 ?_; (case k1 => k_asm); (case k2 => k_asm); (case k3 => assumption); (case k4 => assumption); (case k5 => exact rfl); (case k6 => decide); (case k7 => decide)); intro t' h' tk' F' N'; (try k_sweep))) | walk1) | (dsimp only; (first | ((with_reducible show LoopPost _ _ _ _ _ _ _ _ _); (dsimp only [LoopPost])) | ((k_here; (with_reducible show wpAny _ _ (call (Value.ref 189) _) _ _ _); k_dflt (refine' u_ifmt ?k1 ?k2 ?k3 ?k4 ?k5 ?k6 ?k7 ?_; (case k1 => k_asm); (case k2 => k_asm); (case k3 => assumption); (case k4 => assumption); (case k5 => exact rfl); (case k6 => decide); (case k7 => decide)); intro t' h' tk' F' N'; (try k_sweep))) | walk1)))))
      all_goals rename Fr _ _ _ _ => F5
      all_goals rename News _ _ _ _ => N5
      · have hi0 : i = 0 := by (first | lia | omega)
        rw [show pickC mode i [] = 63 by simp [pickC, hi0]] at hpk
        rw [show Str.ofString "?" = ⟨#[63]⟩ from by decide +kernel] at N5
        exact ⟨_, _, _, [(Dp, listOf (its.push (.str ⟨#[63]⟩ _)) (e + 1))], _, rfl, F5, N5, hoff, rfl, _, _, _, rfl, rfl, rfl, signs_push hq hpk.symm hits⟩
      · have hi0 : i ≠ 0 := by (first | lia | omega)
        rw [show pickC mode i [] = 45 by simp [pickC, hi0]] at hpk
        rw [show Str.ofString "-" = ⟨#[45]⟩ from by decide +kernel] at N5
        exact ⟨_, _, _, [(Dp, listOf (its.push (.str ⟨#[45]⟩ _)) (e + 1))], _, rfl, F5, N5, hoff, rfl, _, _, _, rfl, rfl, rfl, signs_push hq hpk.symm hits⟩
  · rintro m nw h tk gs E' ⟨rfl, Dp, its, e, rfl, hm1, hm2, hits⟩ F2 N2
    clear F1 N1
    obtain ⟨m2, rfl⟩ := as_if2 hm1 hm2
    dsimp only at F2 N2
    clear hm1 hm2
    have hsz : its.size ≤ 10 := by have := hits.length; simp [fmSigns, fmRows] at this; (first | lia | omega)
    (repeat' (first | (fail_if_success (with_reducible show wpAny _ _ (exec (Stmt.For _ _ _ _ _) _) _ _ _)); (first | (k_unfold; (try dsimp only)) | (first | ((with_reducible show LoopPost _ _ _ _ _ _ _ _ _); (dsimp only [LoopPost])) | ((k_here; (with_reducible show wpAny _ _ (call (Value.ref 189) _) _ _ _); k_dflt (refine' u_ifmt ?k1 ?k2 ?k3 ?k4 ?k5 ?k6 ?k7 ?_; (case k1 => k_asm); (case k2 => k_asm); (case k3 => assumption); (case k4 => assumption); (case k5 => exact rfl); (case k6 => decide); (case k7 => decide)); intro t' h' tk' F' N'; (try k_sweep))) | walk1) | (dsimp only; (first | ((with_reducible show LoopPost _ _ _ _ _ _ _ _ _); (dsimp only [LoopPost])) | ((k_here; (with_reducible show wpAny _ _ (call (Value.ref 189) _) _ _ _); k_dflt (refine' u_ifmt ?k1 ?k2 ?k3 ?k4 ?k5 ?k6 ?k7 ?_; (case k1 => k_asm); (case k2 => k_asm); (case k3 => assumption); (case k4 => assumption); (case k5 => exact rfl); (case k6 => decide); (case k7 => decide)); intro t' h' tk' F' N'; (try k_sweep))) | walk1)))))
    have hl : h.IsList Dp its := ⟨_, (N2 _ (.head _)).1, rfl, _, rfl⟩
    refine join_list hl hits (by rw [signs_len, show (Str.ofString "").length = 0 from by decide +kernel, Nat.mul_zero]; simp [fmSigns, fmRows]) fun t' k => ?_
    rw [signs_join]
    exact hret _ _ _ (keeps_of hkeep F2)
end
section
variable {w : World} {p : Program} {loose : List Str} {mean : ExcName → Option Value} {mg mb : Str → Option Value} {G g : Heap} {L : Addr} {m : Str → Option Value} {nw : List (Addr × Obj)} {A : Around} {s : Shared} {Q E : Value → Shared → Prop}
theorem u_filemode {mode : Int} {t1 : Tok} (F : Fr g L s.heap m) (N : News g L s.heap nw) (D : Gd w p loose mean mg mb G) (hs : G.StaysIn g) (hh : A.handled = none) (hd : A.depth ≤ 700) (hu : A.units ≤ 500)
    (h1 : 0 ≤ mode) (h2 : mode < 65536)
    (k : ∀ t h' tk', Fr g L h' m → News g L h' nw → Q (.str ⟨(fmSigns mode 10).toArray⟩ t) { s with heap := h', toks := tk' }) :
    wpAny (model Challenge.rw_oc0165_01.row.prog w) A (call (.ref 229) [.int mode t1]) Q E s :=
  wp_up hh hd hu (c_filemode D (stays_fr F hs) h1 h2 fun t h' tk' hk => k t h' tk' (frK F hk) (newsK N hk))
end
end Mine
end

section
-- Row
example : True := by w_top off; trivial
open PySem PySem.W PyProof.Rows PySem.Calls PySem.Spec
namespace Mine
/-- a row: the letter, and behind it what filemode tells, turned -/
noncomputable def rowS (letter : Str) (mode place : Int) : Str := letter ++ Txt.slice ⟨(fmSigns mode 10).toArray⟩ (some (place + 1)) none ++ Txt.slice ⟨(fmSigns mode 10).toArray⟩ none (some (place + 1))
section
variable {w : World} {p : Program} {loose : List Str} {mean : ExcName → Option Value} {mg mb : Str → Option Value} {G : Heap} {s : Shared} {Q E : Value → Shared → Prop}
set_option maxRecDepth 100000
set_option maxHeartbeats 8000000
theorem c_row {letter : Str} {mode place : Int} {t1 t2 t3 : Tok} (D : Gd w p loose mean mg mb G) (St : G.StaysIn s.heap) (hl : letter.length = 1) (h1 : 0 ≤ mode) (h2 : mode < 65536) (h3 : 0 ≤ place) (h4 : place < 10)
    (hret : ∀ t h' tk', (∀ b o, s.heap.get? b = some o → h'.get? b = some o) → Q (.str (rowS letter mode place) t) { s with heap := h', toks := tk' }) :
    wpAny (model Challenge.rw_oc0165_01.row.prog w) (Am 600 400) (call (.ref 255) [.str letter t1, .int mode t2, .int place t3]) Q E s := by
  have fill : (hd.heap_1 w.params).In G := D.X
  revert fill
  k_fill
  intro _
  refine wpAny_call ?_
  refine' enterP (binds := [("letter", .str letter t1), ("mode", .int mode t2), ("place", .int place t3)]) [] D St ?k3 ?k4 ?k6 ?k7 ?k8 ?k9 ?kB ?c5 ?c2 ?c3 ?c4 ?_
  (((case k3 => exact fun _ q => nomatch q); (case k4 => exact fun _ q => nomatch q); (case k6 => k_is); (case k7 => k_is); (case k8 => decide); (case k9 => exact BindsTo.of_eq rfl); (case kB => exact locs rfl); (case c5 => decide); (case c2 => exact rfl); (case c3 => exact rfl); (case c4 => exact rfl)))
  intro g L h hg hL F N X T l1 hkeep hst
  dsimp only
  k_fold
  have hsl : (Str.mk (fmSigns mode 10).toArray).length = 10 := by simp [Str.length, fmSigns]
  (repeat' (first | (fail_if_success (with_reducible show wpAny _ _ (exec (Stmt.For _ _ _ _ _) _) _ _ _)); (first | (k_unfold; (try dsimp only)) | (first | ((k_here; (with_reducible show wpAny _ _ (call (Value.ref 229) _) _ _ _); k_dflt (refine' u_filemode ?k1 ?k2 ?k3 ?k4 ?k5 ?k6 ?k7 ?k8 ?k9 ?_; (case k1 => k_asm); (case k2 => k_asm); (case k3 => assumption); (case k4 => assumption); (case k5 => exact rfl); (case k6 => decide); (case k7 => decide); (case k8 => assumption); (case k9 => assumption)); intro t' h' tk' F' N'; (try k_sweep))) | walk1) | (dsimp only; (first | ((k_here; (with_reducible show wpAny _ _ (call (Value.ref 229) _) _ _ _); k_dflt (refine' u_filemode ?k1 ?k2 ?k3 ?k4 ?k5 ?k6 ?k7 ?k8 ?k9 ?_; (case k1 => k_asm); (case k2 => k_asm); (case k3 => assumption); (case k4 => assumption); (case k5 => exact rfl); (case k6 => decide); (case k7 => decide); (case k8 => assumption); (case k9 => assumption)); intro t' h' tk' F' N'; (try k_sweep))) | walk1)))))
  try k_unfold
  try dsimp only
  exact hret _ _ _ (keeps_of hkeep (by assumption))
end
section
variable {w : World} {p : Program} {loose : List Str} {mean : ExcName → Option Value} {mg mb : Str → Option Value} {G g : Heap} {L : Addr} {m : Str → Option Value} {nw : List (Addr × Obj)} {A : Around} {s : Shared} {Q E : Value → Shared → Prop}
end
end Mine
end

section
-- Cells
example : True := by w_top off; trivial
open PySem PySem.W PyProof.Rows PySem.Calls PySem.Spec
namespace Mine
theorem ints_item : ∀ {vs : List Value} {ns : List Int}, IntsAre vs ns → ∀ {i : Nat} {v : Value}, vs[i]? = some v → ∃ x t, v = .int x t ∧ ns[i]? = some x
  | _, _, .nil, i, v, e => by simp at e
  | _, _, .cons x t r, 0, v, e => by simp at e; exact ⟨x, t, e.symm, rfl⟩
  | _, _, .cons x t r, i + 1, v, e => by simpa using ints_item r (by simpa using e)
theorem fr_loc {h₀ h : Heap} {L : Addr} {m : Str → Option Value} (F : Fr h₀ L h m) : ∃ o, h.get? L = some o :=
  let ⟨o, _, _, ho, _⟩ := F.ns; ⟨o, ho⟩
theorem news_more {h₀ h h' : Heap} {L : Addr} {m : Str → Option Value} {nw : List (Addr × Obj)} {b : Addr} {o : Obj} (N : News h₀ L h' nw) (F : Fr h₀ L h m) (hb : h.get? b = none) (hb' : h'.get? b = some o) : News h₀ L h' ((b, o) :: nw) := by
  intro q hq
  rcases List.mem_cons.mp hq with rfl | hq
  · refine ⟨hb', ?_, ?_⟩
    · rintro rfl
      obtain ⟨o2, e2⟩ := fr_loc F
      rw [e2] at hb; cases hb
    · cases e : h₀.get? b with
      | none => rfl
      | some o2 => rw [F.keep b o2 e] at hb; cases hb
  · exact N q hq
/-- what holds between the turns -/
inductive CellsInv (g0 : Array GenState) (Dl : Addr) (ws : List Value) (l : Addr) (i : Nat) (m : Str → Option Value) (nw : List (Addr × Obj)) (gs : Array GenState) : Prop
  | mk (eg : gs = g0) (C : Addr) (its : List Value) (e : Nat) (cs : List Int) (en : nw = [(Dl, listOf ws.toArray 0), (C, listOf its.toArray e)]) (hC : C < Dl) (m1 : m "cells" = some (.ref C)) (m2 : m "script" = some (.ref l)) (hi : IntsAre its cs) (hl : cs.length = 6)
section
variable {w : World} {p : Program} {loose : List Str} {mean : ExcName → Option Value} {mg mb : Str → Option Value} {G : Heap} {s : Shared} {Q E : Value → Shared → Prop}
set_option maxRecDepth 100000
set_option maxHeartbeats 8000000
theorem c_cells {l : Addr} {vs : List Value} {ns : List Int} (D : Gd w p loose mean mg mb G) (St : G.StaysIn s.heap) (hl : s.heap.IsList l vs.toArray) (hi : IntsAre vs ns) (hn : ns.length ≤ 63)
    (hret : ∀ T M f t ys ms k h' tk', (∀ b o, s.heap.get? b = some o → h'.get? b = some o) → s.heap.get? T = none → s.heap.get? M = none → h'.get? T = some { cls := .type "tuple", data := .seq #[.int f t, .ref M] } → h'.get? M = some (listOf (List.toArray ys) k) → IntsAre ys ms →
      5 ≤ ms.length → ms.length ≤ 6 → (∀ x ∈ ms, 0 ≤ x ∧ x < 65536) → Q (.ref T) { s with heap := h', toks := tk' }) :
    wpAny (model Challenge.rw_oc0165_01.row.prog w) (Am 600 400) (call (.ref 241) [.ref l]) Q E s := by
  have fill : (hd.heap_1 w.params).In G := D.X
  revert fill
  k_fill
  intro _
  refine wpAny_call ?_
  refine' enterP (binds := [("script", .ref l)]) [] D St ?k3 ?k4 ?k6 ?k7 ?k8 ?k9 ?kB ?c5 ?c2 ?c3 ?c4 ?_
  (((case k3 => exact fun _ q => nomatch q); (case k4 => exact fun _ q => nomatch q); (case k6 => k_is); (case k7 => k_is); (case k8 => decide); (case k9 => exact BindsTo.of_eq rfl); (case kB => exact locs rfl); (case c5 => decide); (case c2 => exact rfl); (case c3 => exact rfl); (case c4 => exact rfl)))
  intro g L h hg hL F N X T l1 hkeep hst
  have hlg : g.IsList l vs.toArray := hl.at fun o e => hkeep _ _ e fun _ q => nomatch q
  dsimp only
  try k_fold
  (repeat' (first | (fail_if_success (with_reducible show wpAny _ _ (exec (Stmt.For _ _ _ _ _) _) _ _ _)); (first | (k_unfold; (try dsimp only)) | walk1 | (dsimp only; walk1))))
  refine wpAny_For ?_ (fun _ => rfl)
  (repeat' (first | (fail_if_success (with_reducible show wpAny _ _ (exec (Stmt.For _ _ _ _ _) _) _ _ _)); (first | (k_unfold; (try dsimp only)) | walk1 | (dsimp only; walk1))))
  rename Fr _ _ _ _ => F1
  rename News _ _ _ _ => N1
  rename_i Dl ws h5 hI hC hLn hlt
  refine for_enumList (l := Dl) (items := ws.toArray) (ep := 0) (CellsInv s.gens Dl ws l)
    rfl (by rintro i m nw gs ⟨rfl, C, its, e, cs, rfl, _⟩; exact .head _) F1 N1 ⟨rfl, _, [_, _, _, _, _, _], _, _, rfl, hlt, rfl, rfl, .cons _ _ (.cons _ _ (.cons _ _ (.cons _ _ (.cons _ _ (.cons _ _ .nil))))), rfl⟩ rfl rfl rfl ?_ ?_
  · rintro i v t m nw h tk gs own E' hv ⟨rfl, C, its, e, cs, rfl, hCD, hm1, hm2, hits, hc6⟩ hoff F2 N2
    clear F1 N1
    obtain ⟨m2, rfl⟩ := as_if2 hm1 hm2
    dsimp only at F2 N2
    clear hm1 hm2
    obtain ⟨x, tx, rfl, hx⟩ := ints_item hI (show ws[i]? = some v by simpa using hv)
    have hi6 : i < 6 := by have := (List.getElem?_eq_some_iff.mp hx).1; rw [List.length_take] at this; exact Nat.lt_of_lt_of_le this (Nat.min_le_left _ _)
    replace N2 : News g L h ((Dl, listOf ws.toArray 0) :: (C, listOf its.toArray e) :: own) := N2
    have hoff' : OwnOff own [Dl, C] := hoff
    have hi6' : (i : Int) < 6 := by (first | lia | omega)
    have hc6' : (cs.length : Int) = 6 := by (first | lia | omega)
    (repeat' (first | (fail_if_success (with_reducible show wpAny _ _ (exec (Stmt.For _ _ _ _ _) _) _ _ _)); (first | (k_unfold; (try dsimp only)) | walk1 | (dsimp only; walk1))))
    refine ksa_set F2 N2 (.tail (Nat.ne_of_gt hCD) (.head fun q hq => hoff' q hq C (.tail _ (.head _)))) hits (by (first | lia | omega)) (by (first | lia | omega)) (by (first | lia | omega)) ?_
    intro h3 F3 N3 i3 l3 s3
    (repeat' (first | (fail_if_success (with_reducible show wpAny _ _ (exec (Stmt.For _ _ _ _ _) _) _ _ _)); (first | (k_unfold; (try dsimp only)) | walk1 | (dsimp only; walk1))))
    exact ⟨_, _, _, [(Dl, listOf ws.toArray 0), (C, listOf (its.set (i : Int).toNat _).toArray e)], _, rfl, F3, N3, hoff, rfl, C, _, e, _, rfl, hCD, rfl, rfl, i3, l3.trans hc6⟩
  · rintro m nw h tk gs E' ⟨rfl, C, its, e, cs, rfl, hCD, hm1, hm2, hits, hc6⟩ F2 N2
    clear F1 N1
    obtain ⟨m2, rfl⟩ := as_if2 hm1 hm2
    dsimp only at F2 N2
    clear hm1 hm2
    have hc6' : (cs.length : Int) = 6 := by (first | lia | omega)
    (repeat' (first | (fail_if_success (with_reducible show wpAny _ _ (exec (Stmt.For _ _ _ _ _) _) _ _ _)); (first | (k_unfold; (try dsimp only)) | walk1 | (dsimp only; walk1))))
    rename Fr _ _ _ _ => F3
    rename News _ _ _ _ => N3
    rename IntsAre _ (List.map _ _) => hI3
    have hk := keeps_of hkeep F3
    have hf : ∀ b, g.get? b = none → s.heap.get? b = none := fun b e => by
      cases e2 : s.heap.get? b with
      | none => rfl
      | some o => rw [hkeep b o e2 (fun _ q => nomatch q)] at e; cases e
    have z1 := N3 _ (.head _)
    have z2 := N3 _ (.tail _ (.head _))
    refine hret _ _ _ _ _ _ _ _ _ hk (hf _ z1.2.2) (hf _ z2.2.2) z1.1 z2.1 hI3 ?_ ?_ ?_
    · rw [List.length_map, List.length_append, List.length_drop, List.length_take, List.length_drop, hc6]; exact Nat.le_add_right 5 _
    · rw [List.length_map, List.length_append, List.length_drop, List.length_take, List.length_drop, hc6]; exact Nat.add_le_add_left (Nat.le_trans (Nat.min_le_left _ _) (Nat.sub_le_sub_right (Nat.min_le_left 7 _) 6)) 5
    · intro x hx
      obtain ⟨y, _, rfl⟩ := List.mem_map.mp hx
      rw [Int.fmod_eq_emod_of_nonneg _ (by decide)]
      (first | lia | omega)
end
section
variable {w : World} {p : Program} {loose : List Str} {mean : ExcName → Option Value} {mg mb : Str → Option Value} {G g : Heap} {L : Addr} {m : Str → Option Value} {nw : List (Addr × Obj)} {A : Around} {s : Shared} {Q E : Value → Shared → Prop}
theorem u_cells {l : Addr} {vs : List Value} {ns : List Int} (F : Fr g L s.heap m) (N : News g L s.heap nw) (D : Gd w p loose mean mg mb G) (hs : G.StaysIn g) (hh : A.handled = none) (hd : A.depth ≤ 600) (hu : A.units ≤ 400)
    (hl : g.IsList l vs.toArray) (hi : IntsAre vs ns) (hn : ns.length ≤ 63)
    (k : ∀ T M f t ys ms k h' tk', Fr g L h' m → News g L h' ((T, { cls := .type "tuple", data := .seq #[.int f t, .ref M] }) :: (M, listOf (List.toArray ys) k) :: nw) → IntsAre ys ms → 5 ≤ ms.length → ms.length ≤ 6 → (∀ x ∈ ms, 0 ≤ x ∧ x < 65536) → Q (.ref T) { s with heap := h', toks := tk' }) :
    wpAny (model Challenge.rw_oc0165_01.row.prog w) A (call (.ref 241) [.ref l]) Q E s :=
  wp_up hh hd hu (c_cells D (stays_fr F hs) (hl.at fun o e => F.keep _ _ e) hi hn fun T M f t ys ms k' h' tk' hk hT hM h1 h2 h3 h4 h5 h6 => k T M f t ys ms k' h' tk' (frK F hk)
    (news_more (news_more (newsK N hk) F hM h2) F hT h1) h3 h4 h5 h6)
end
end Mine
end

section
-- Acc
example : True := by w_top off; trivial
open PySem PySem.W PyProof.Rows PySem.Calls PySem.Spec
set_option maxRecDepth 100000
namespace Mine
/-- an accumulator: a list of its own class, with a dict -/
noncomputable abbrev acObj (d : Addr) (ps : Array Value) (n : Nat) : Obj := { cls := .ref 178, dict := some d, data := .seq ps n, slots := #[] }
theorem check_meth {M : Model} {A : Around} {E : Value → Shared → Prop} {s : Shared} {i owner n : String} {self : Value} {rest : List Value} {kw : List (Str × Value)} {Q : Unit → Shared → Prop}
    (hk : builtinKind i = some .slot ∨ builtinKind i = some .method) (hs : splitId i = some (owner, n)) (hi : Looks M s.heap (isInstance self (.type owner)) true) (ha : argsOk i ⟨self :: rest, kw⟩) (q : Q () s) :
    wpAny M A (checkBuiltinCall i ⟨self :: rest, kw⟩) Q E s := by
  rcases hk with hk | hk <;>
  · simp only [checkBuiltinCall, hk, hs]
    refine wpAny_bind (hi.here ?_)
    simp only [Bool.not_true, Bool.false_eq_true, if_false]
    cases hsig : Manifest.signature? i with
    | none => exact wpAny_pure q
    | some sig =>
      simp only [argsOk, hsig] at ha
      have h2 : Bind.checkArgs i sig ⟨self :: rest, kw⟩ = pure () := ha
      show wpAny M A (Bind.checkArgs i sig ⟨self :: rest, kw⟩) Q E s
      rw [h2]; exact wpAny_pure q
theorem canon_lga : (Manifest.canonical "list.__getattribute__" != "object.__getattribute__") = false := by decide +kernel
section
variable {w : World} {A : Around} {E : Value → Shared → Prop} {s : Shared} {x d : Addr} {ps : Array Value} {n : Nat} {od : Obj}
theorem k_ga : findIn (hd.heap_1 w.params) (.ref 178) "__getattribute__" = some (some (.builtin "list.__getattribute__")) := by kernel_rfl
theorem k_hook : findIn (hd.heap_1 w.params) (.ref 178) "__getattr__" = some none := by kernel_rfl
theorem k_mro : mroIn (hd.heap_1 w.params) 178 (.type "list") = some true := by kernel_rfl
theorem ac_at {h : Heap} (hx : h.get? x = some (acObj d ps n)) (hd' : h.get? d = some od) : InstAt h x (acObj d ps n) 178 (some od) := ⟨hx, rfl, rfl, hd'⟩
theorem ac_inst {M : Model} {h : Heap} (X : (hd.heap_1 w.params).In h) (hx : h.get? x = some (acObj d ps n)) : Looks M h (isInstance (.ref x) (.type "list")) true :=
  (show Looks M h (typeOf (.ref x)) (.ref 178) from (Looks.ld hx).andThen .now).andThen (looks_mroIn X k_mro)
/-- a builtin of list, called with an accumulator -/
theorem ac_call {i nm : String} {b : Builtin} {rest : List Value} {Q : Value → Shared → Prop} (X : (hd.heap_1 w.params).In s.heap) (hx : s.heap.get? x = some (acObj d ps n))
    (hk : builtinKind i = some .slot ∨ builtinKind i = some .method) (hs : splitId i = some ("list", nm)) (hp : plainId i = true) (hb : entryFor table i = some b) (ha : argsOk i ⟨.ref x :: rest, []⟩)
    (hc : wpAny (model Challenge.rw_oc0165_01.row.prog w) A.in1 (b ⟨.ref x :: rest, []⟩) (fun fin s' => ∃ v, fin = .done (.ret v) ∧ Q v s') E s) :
    wpAny (model Challenge.rw_oc0165_01.row.prog w) A (call (.builtin i) (.ref x :: rest)) Q E s := by
  refine wpAny_call (codeAny_call_builtin hp hb (check_meth hk hs (ac_inst X hx) ha (wpAny_mono hc (fun fin s' h' => ?_) fun _ _ h' => h')))
  obtain ⟨v, rfl, hv⟩ := h'; exact hv
/-- a method of an accumulator -/
theorem ac_method {name : Str} {f : Value} {T : String} {pl : Sem Bool} {Q : Value × List Value → Shared → Prop} (X : (hd.heap_1 w.params).In s.heap) (hx : s.heap.get? x = some (acObj d ps n)) (hd' : s.heap.get? d = some od)
    (hf : findIn (hd.heap_1 w.params) (.ref 178) name = some (some f)) (ht : typeIn (hd.heap_1 w.params) f = some (.type T)) (hT : (Value.type T != .type "function" && Value.type T != .type "method_descriptor" && Value.type T != .type "wrapper_descriptor") = false)
    (hs : shadowIn (some od) name = some false) (h : Q (f, [.ref x]) s) :
    wpAny (model Challenge.rw_oc0165_01.row.prog w) A (getMethod (.ref x) name pl) Q E s := by
  have I := ac_at hx hd'
  have hcan := canon_lga
  unfold getMethod specialOf
  refine wpAny_bind (wpAny_bind (I.type.here ((looks_findIn X k_ga).here ?_)))
  dsimp only
  rw [hcan, if_neg (by decide)]
  refine wpAny_bind (wpAny_bind (I.type.here ((looks_findIn X k_hook).here ?_)))
  refine wpAny_bind (wpAny_bind (I.type.here ((looks_findIn X hf).here (wpAny_bind ((looks_typeIn X ht).here ?_)))))
  rw [if_neg (by rw [hT]; decide)]
  refine wpAny_bind (wpAny_loadPart I.at_ ?_)
  obtain ⟨r, a, b⟩ := Option.map_eq_some_iff.mp hs
  refine wpAny_bind (wpAny_bind (wpAny_loadPart hd' ?_))
  rw [nsLook_of a]
  refine wpAny_pure ?_
  rw [b]
  exact wpAny_bind (wpAny_rule (wpAny_pure h))
/-- an attribute of an accumulator that is no method -/
theorem ac_getattr {name : Str} {v : Value} {expr : Bool} {Q : Value → Shared → Prop} (X : (hd.heap_1 w.params).In s.heap) (hx : s.heap.get? x = some (acObj d ps n)) (hd' : s.heap.get? d = some od)
    (hf : findObj (hd.heap_1 w.params) 178 (some od) name = some (.value v)) (hh : handedIn v = true) (h : Q v { s with toks := s.toks + 1 }) :
    wpAny (model Challenge.rw_oc0165_01.row.prog w) A (getAttr (.ref x) name expr) Q E s := by
  obtain ⟨hp, g, dr, t, os⟩ := s
  have I := ac_at hx hd'
  have L0 := I.type (M := model Challenge.rw_oc0165_01.row.prog w)
  have L1 := looks_findIn (M := model Challenge.rw_oc0165_01.row.prog w) X k_ga
  have L2 := looks_findIn (M := model Challenge.rw_oc0165_01.row.prog w) X k_hook
  have L3 := looks_find (M := model Challenge.rw_oc0165_01.row.prog w) X I hf
  unfold getAttr getAttrBy
  refine wpAny_bind (wpAny_mkText (wpAny_holding (wpAny_bind (L0.at (wpAny_bind (L1.at ?_))))))
  show wpAny _ _ (getAttrByItsOwn (.ref x) (.str name t) (.ref 178) (.builtin "list.__getattribute__") true expr) _ _ _
  unfold getAttrByItsOwn hookBefore callGetattribute boundAndCalled
  refine wpAny_bind (L2.at ?_)
  rw [if_neg (by cases expr <;> decide)]
  refine wpAny_bind (wpAny_attempt (wpAny_holding ?_))
  show wpAny _ _ (bindSpecial (.builtin "list.__getattribute__") (.ref x) >>= _) _ _ _
  refine wpAny_bind (wpAny_of_eq (PySem.F.slot_list_getattribute.bind _) ?_)
  refine wpAny_mono (Q := fun v' s' => v' = v ∧ s' = ⟨hp, g, dr, t + 1, os⟩) (E := fun _ _ => False)
    (ac_call X hx (.inl (by decide +kernel)) (nm := "__getattribute__") (by decide +kernel) PySem.F.slot_list_getattribute.plain PySem.F.entry_list_ga (PySem.F.args_list_getattribute_2 _ _) ?_) (fun v' s' hv => ?_) fun _ _ z => z.elim
  · unfold Builtin.«object.__getattribute__»
    refine wpAny_bind (wpAny_pure (wpAny_bind (wpAny_pure (wpAny_bind (L0.at (wpAny_bind (L3.at ?_)))))))
    exact wpAny_pure ⟨_, rfl, rfl, rfl⟩
  · obtain ⟨rfl, rfl⟩ := hv
    show wpAny _ _ (handedOut _) _ _ _
    rw [handedOut_of hh]; exact wpAny_pure h
/-- the seven things that a list's builtins do to an accumulator -/
theorem ac_upd {h : Heap} (hx : h.get? x = some (acObj d ps n)) (f : Array Value → Array Value) : (h.update x (Obj.mapSeq f)).get? x = some (acObj d (f ps) (if (f ps).size == ps.size then n else n + 1)) := Heap.get?_update_self _ hx rfl
theorem pop_last {ps : Array Value} : ps.eraseIdxIfInBounds (ps.size - 1) = ps.pop := by
  apply Array.toList_inj.mp
  rcases ps with ⟨l⟩
  simp only [Array.eraseIdxIfInBounds, List.size_toArray]
  split
  · simp [List.dropLast_eq_take, List.eraseIdx_eq_take_drop_succ, show l.length - 1 + 1 = l.length by (first | lia | omega)]
  · have : l = [] := List.length_eq_zero_iff.mp (by (first | lia | omega))
    subst this; rfl
theorem b_append {v : Value} {Q : Value → Shared → Prop} (X : (hd.heap_1 w.params).In s.heap) (hx : s.heap.get? x = some (acObj d ps n)) (hz : ps.size ≤ 1000)
    (h : Q .none { s with heap := s.heap.update x (Obj.mapSeq fun a => a.push v) }) : wpAny (model Challenge.rw_oc0165_01.row.prog w) A (call (.builtin "list.append") [.ref x, v]) Q E s := by
  refine ac_call X hx (.inr (by decide +kernel)) (nm := "append") (by decide +kernel) PySem.F.slot_list_append.plain PySem.F.entry_list_append (PySem.F.args_list_append_2 _ _) ?_
  obtain ⟨hp, g, dr, tk, os⟩ := s
  have hsz : ps.size ≤ sizeLine := by rw [sizeLine_eq]; (first | lia | omega)
  have hz' : (ps.push v).size ≤ sizeLine + 1 := by rw [Array.size_push]; (first | lia | omega)
  wp_walk using (wpAny_updateSeq hx rfl (hz := hsz) (_hz' := hz'))
  exact ⟨_, rfl, h⟩
theorem b_iter {Q : Value → Shared → Prop} (X : (hd.heap_1 w.params).In s.heap) (hx : s.heap.get? x = some (acObj d ps n))
    (h : Q (.ref s.heap.objs.size) { s with heap := s.heap.push { cls := .type "list_iterator", data := .fields #[.ref x, rawInt 0] } }) : wpAny (model Challenge.rw_oc0165_01.row.prog w) A (call (.builtin "list.__iter__") [.ref x]) Q E s := by
  refine ac_call X hx (.inl (by decide +kernel)) (nm := "__iter__") (by decide +kernel) PySem.F.slot_list_iter.plain PySem.F.entry_list_iter (PySem.F.args_list_iter_1 _) ?_
  obtain ⟨hp, g, dr, tk, os⟩ := s
  wp_walk
  exact ⟨_, rfl, h⟩
end
end Mine
end

section
-- Acc2
example : True := by w_top off; trivial
open PySem PySem.W PyProof.Rows PySem.Calls PySem.Spec
set_option maxRecDepth 100000
namespace Mine
section
variable {w : World} {A : Around} {E : Value → Shared → Prop} {s : Shared} {x d : Addr} {ps : Array Value} {n : Nat} {od : Obj}
theorem k_getitem : findIn (hd.heap_1 w.params) (.ref 178) "__getitem__" = some (some (.builtin "list.__getitem__")) := by kernel_rfl
theorem k_setitem : findIn (hd.heap_1 w.params) (.ref 178) "__setitem__" = some (some (.builtin "list.__setitem__")) := by kernel_rfl
theorem k_deque : mroIn (hd.heap_1 w.params) 178 (.type "collections.deque") = some false := by kernel_rfl
theorem ac_type {M : Model} {h : Heap} (hx : h.get? x = some (acObj d ps n)) : Looks M h (typeOf (.ref x)) (.ref 178) := (Looks.ld hx).andThen .now
theorem ac_key {k : Value} {name : Str} {Q : Value → Shared → Prop} (X : (hd.heap_1 w.params).In s.heap) (hx : s.heap.get? x = some (acObj d ps n)) (h : Q k s) :
    wpAny (model Challenge.rw_oc0165_01.row.prog w) A (sequenceKey (.ref x) k name) Q E s := by
  unfold sequenceKey
  refine wpAny_bind ((ac_type hx).here ?_)
  show wpAny _ _ ((List.anyM (fun n => isSubtype (.ref 178) (.type n)) ["collections.deque"]) >>= _) _ _ _
  refine wpAny_bind (wpAny_bind ((looks_mroIn X k_deque).here ?_))
  exact wpAny_pure (wpAny_pure h)
theorem ac_special {name : Str} {i : String} {args : List Value} {Q : Option Value → Shared → Prop} (X : (hd.heap_1 w.params).In s.heap) (hx : s.heap.get? x = some (acObj d ps n))
    (hf : findIn (hd.heap_1 w.params) (.ref 178) name = some (some (.builtin i))) (hb : bindSpecial (.builtin i) (.ref x) = pure (.builtin i, [.ref x]))
    (h : wpAny (model Challenge.rw_oc0165_01.row.prog w) A (call (.builtin i) (.ref x :: args)) (fun v => Q (some v)) E s) : wpAny (model Challenge.rw_oc0165_01.row.prog w) A (callSpecial? (.ref x) name args) Q E s := by
  unfold callSpecial? specialOf
  refine wpAny_bind (wpAny_bind ((ac_type hx).here ((looks_findIn X hf).here ?_)))
  refine wpAny_holding (wpAny_bind (wpAny_of_eq hb ?_))
  exact wpAny_bind (wpAny_mono h (fun _ _ z => wpAny_pure z) fun _ _ z => z)
theorem ac_tail {value slice : Expr} {i : Value} {ops : List Value} {Q : Value → Shared → Prop} (X : (hd.heap_1 w.params).In s.heap) (hx : s.heap.get? x = some (acObj d ps n))
    (hg : wpAny (model Challenge.rw_oc0165_01.row.prog w) A (getItem (.ref x) i) Q E s)
    (hs : subscripted slice false (.ref x) i = operate ops (getItem (.ref x) i)) : wpAny (model Challenge.rw_oc0165_01.row.prog w) A (subscriptTail value slice (.ref x) i) Q E s := by
  unfold subscriptTail
  refine wpAny_bind ?_
  rw [getitemInPython_of_ne (by intro h; cases h)]
  unfold specialOf
  refine wpAny_bind (wpAny_bind ((ac_type hx).here ((looks_findIn X k_getitem).here ?_)))
  have fin : wpAny (model Challenge.rw_oc0165_01.row.prog w) A (subscripted slice false (.ref x) i) (fun r s₃ => wpAny (model Challenge.rw_oc0165_01.row.prog w) A (letTemporaryGo value (.ref x) r >>= fun _ => pure r) Q E s₃) E s := by
    rw [hs]
    exact wpAny_operating (wpAny_mono hg (fun r s₃ h₃ => wpAny_bind (wpAny_letTemporaryGo (wpAny_pure h₃))) fun _ _ x => x)
  exact wpAny_pure (wpAny_bind fin)
/-- one item of an accumulator -/
theorem ac_item {k : Int} {u : Tok} {y : Value} {Q : Value → Shared → Prop} (X : (hd.heap_1 w.params).In s.heap) (hx : s.heap.get? x = some (acObj d ps n)) (hz : ps.size ≤ 1000) (h0 : 0 ≤ k) (hy : ps[k.toNat]? = some y) (h : Q y s) :
    wpAny (model Challenge.rw_oc0165_01.row.prog w) A (getItem (.ref x) (.int k u)) Q E s := by
  unfold getItem
  refine wpAny_holding ?_
  refine wpAny_bind (ac_key X hx ?_)
  refine wpAny_bind (ac_special X hx k_getitem (PySem.F.slot_list_getitem.bind _) (ac_call X hx (.inr (by decide +kernel)) (nm := "__getitem__") (by decide +kernel) PySem.F.slot_list_getitem.plain PySem.F.entry_list_getitem (PySem.F.args_list_getitem_2 _ _) ?_))
  have hk : k.toNat < ps.size := (Array.getElem?_eq_some_iff.mp hy).1
  have hfit : k < 2 ^ 63 := by omega
  show wpAny _ _ (Builtin.List.listSubscript? (.int k u) >>= _) _ _ s
  refine wpAny_bind (wpAny_listSubscript_int (fitsIndex_of h0 hfit) ?_)
  clear hfit hk
  obtain ⟨j, rfl⟩ := Int.eq_ofNat_of_zero_le h0
  have hx' : ps[j]? = some y := hy
  show wpAny _ _ ((seqItemAt x j >>= fun r => pure (r.map (j, ·))) >>= _) _ _ s
  refine wpAny_bind (wpAny_bind (wpAny_seqItemAt hx rfl (wpAny_pure ?_)))
  rw [hx']
  first
    | exact wpAny_bind (wpAny_pure (wpAny_pure ⟨y, rfl, wpAny_pure h⟩))
    | exact wpAny_pure ⟨y, rfl, wpAny_pure h⟩
theorem ac_slice {sl : Addr} {vl vu vs : Value} {lo hi st : Option Int} {Q : Value → Shared → Prop} (X : (hd.heap_1 w.params).In s.heap) (hx : s.heap.get? x = some (acObj d ps n)) (hz : ps.size ≤ 1000)
    (hs : s.heap.IsSliceOf sl vl vu vs) (pl : IsPart vl lo) (pu : IsPart vu hi) (pt : IsPart vs st) (h0 : st ≠ some 0)
    (h : Q (.ref s.heap.objs.size) { s with heap := s.heap.push { cls := .type "list", data := .seq (slicePick ps lo hi st) } }) : wpAny (model Challenge.rw_oc0165_01.row.prog w) A (getItem (.ref x) (.ref sl)) Q E s := by
  obtain ⟨os, hos, hcs, hds⟩ := id hs
  have hsz : ps.size ≤ sizeLine := by rw [sizeLine_eq]; omega
  have hTs : s.TypeIs (.ref sl) "slice" := ⟨os, hos, hcs⟩
  unfold getItem
  refine wpAny_holding ?_
  refine wpAny_bind (ac_key X hx ?_)
  refine wpAny_bind (ac_special X hx k_getitem (PySem.F.slot_list_getitem.bind _) (ac_call X hx (.inr (by decide +kernel)) (nm := "__getitem__") (by decide +kernel) PySem.F.slot_list_getitem.plain PySem.F.entry_list_getitem (PySem.F.args_list_getitem_2 _ _) ?_))
  show wpAny _ _ (Builtin.List.listSubscript? (.ref sl) >>= _) _ _ s
  refine wpAny_bind ?_
  unfold Builtin.List.listSubscript?
  refine wpAny_bind (wpAny_specialOf hTs slice_no_index ?_)
  simp only [Option.isNone_none, if_true]
  refine wpAny_pure ?_
  show wpAny _ _ (typeOf (.ref sl) >>= _) _ _ s
  refine wpAny_bind (wpAny_typeOf hTs ?_)
  rw [if_neg (by decide)]
  rw [listSliceParts_eq]
  have hstep : ¬ ((rawPart st == rawInt 0) = true) := by
    cases st with
    | none => exact Bool.false_ne_true
    | some c =>
      intro hh
      have : c = 0 := by simpa [rawPart, rawInt] using hh
      exact h0 (by rw [this])
  refine wpAny_bind (wpAny_bind (wpAny_field hos hds (x := vs) rfl (wpAny_bind (wpAny_listPart pt ?_))))
  rw [if_neg hstep]
  refine wpAny_bind (wpAny_field hos hds (x := vl) rfl (wpAny_bind (wpAny_listPart pl ?_)))
  refine wpAny_bind (wpAny_field hos hds (x := vu) rfl (wpAny_bind (wpAny_listPart pu (wpAny_pure ?_))))
  refine wpAny_bind (m := Builtin.List.listItems (.ref x)) ?_
  unfold Builtin.List.listItems
  refine wpAny_bind (wpAny_seqItems hx rfl (wpAny_pure ?_))
  refine wpAny_bind (wpAny_of_eq (sliceIndices_raw lo hi st ps.size h0) ?_)
  refine wpAny_bind (wpAny_newObj_type (wpAny_pure ⟨_, rfl, wpAny_pure h⟩) (Nat.le_trans (slicePick_size_le ps lo hi st) hsz))
/-- a list is put in the place of the items from start on -/
theorem ac_put {sl l : Addr} {vl vu : Value} {lo hi : Option Int} {items : Array Value} {Q : Unit → Shared → Prop} (X : (hd.heap_1 w.params).In s.heap) (hx : s.heap.get? x = some (acObj d ps n)) (hz : ps.size ≤ 1000) (hz2 : items.size ≤ 1000)
    (hs : s.heap.IsSliceOf sl vl vu .none) (pl : IsPart vl lo) (pu : IsPart vu hi) (hl : s.heap.IsList l items)
    (h : Q () { s with heap := s.heap.update x (Obj.mapSeq fun xs => xs.extract 0 (sliceBounds lo hi none ps.size).1.toNat ++ items ++ xs.extract (max (sliceBounds lo hi none ps.size).1 (sliceBounds lo hi none ps.size).2.1).toNat xs.size) }) :
    wpAny (model Challenge.rw_oc0165_01.row.prog w) A (setItem (.ref x) (.ref sl) (.ref l)) Q E s := by
  obtain ⟨os, hos, hcs, hds⟩ := id hs
  obtain ⟨ol, hol, hcl, nl, hdl⟩ := id hl
  have hne : Builtin.List.listSameRef (.ref x) (.ref l) = false := by
    simp only [Builtin.List.listSameRef, beq_eq_false_iff_ne]
    rintro rfl
    rw [hol] at hx; cases hx; cases hcl
  have hsz : ps.size ≤ sizeLine := by rw [sizeLine_eq]; omega
  have hTs : s.TypeIs (.ref sl) "slice" := ⟨os, hos, hcs⟩
  unfold setItem
  refine wpAny_holding ?_
  refine wpAny_bind (ac_key X hx ?_)
  refine wpAny_bind (ac_special X hx k_setitem (PySem.F.slot_list_setitem.bind _) (ac_call X hx (.inl (by decide +kernel)) (nm := "__setitem__") (by decide +kernel) PySem.F.slot_list_setitem.plain PySem.F.entry_list_setitem (PySem.F.args_list_setitem_3 _ _ _) ?_))
  show wpAny _ _ (Builtin.List.listSubscript? (.ref sl) >>= _) _ _ s
  refine wpAny_bind ?_
  unfold Builtin.List.listSubscript?
  refine wpAny_bind (wpAny_specialOf hTs slice_no_index ?_)
  simp only [Option.isNone_none, if_true]
  refine wpAny_pure ?_
  show wpAny _ _ (typeOf (.ref sl) >>= _) _ _ s
  refine wpAny_bind (wpAny_typeOf hTs ?_)
  rw [if_neg (by decide)]
  rw [listSliceParts_eq]
  refine wpAny_bind (wpAny_bind (wpAny_field hos hds (x := .none) rfl (wpAny_bind (wpAny_listPart .none ?_))))
  rw [if_neg (by decide)]
  refine wpAny_bind (wpAny_field hos hds (x := vl) rfl (wpAny_bind (wpAny_listPart pl ?_)))
  refine wpAny_bind (wpAny_field hos hds (x := vu) rfl (wpAny_bind (wpAny_listPart pu (wpAny_pure ?_))))
  simp only [hne]
  rw [if_neg (by decide)]
  refine wpAny_bind (m := Builtin.List.listAllItems (.ref l) _) ?_
  unfold Builtin.List.listAllItems
  refine wpAny_bind (wpAny_typeOf hl.typeIs ?_)
  rw [if_pos (by decide)]
  unfold Builtin.List.listItems
  refine wpAny_bind (wpAny_seqItems hol hdl (wpAny_pure ?_))
  refine wpAny_bind (wpAny_bind (wpAny_seqItems hx rfl (wpAny_pure ?_)))
  refine wpAny_bind (wpAny_of_eq (sliceIndices_raw lo hi none ps.size (by simp)) ?_)
  rw [if_pos (by rfl)]
  have hlong : ¬ Builtin.List.listTooLong (ps.size + items.size) = true := by simp [Builtin.List.listTooLong, sizeLine]; omega
  refine wpAny_bind (wpAny_rule ?_)
  rw [if_neg hlong]
  refine wpAny_bind (m := updateSeq x _) (wpAny_updateSeq hx rfl ?_ (hz := hsz) (_hz' := ?_))
  · exact wpAny_bind (wpAny_letGo (wpAny_pure ⟨_, rfl, wpAny_pure h⟩))
  · simp [sizeLine_eq]; omega
end
end Mine
end

section
-- Sup
example : True := by w_top off; trivial
open PySem PySem.W PyProof.Rows PySem.Calls PySem.Spec
set_option maxRecDepth 100000
namespace Mine
theorem slot_wget : Slot "wrapper_descriptor" "__get__" "wrapper_descriptor.__get__" :=
  .of (owner := "wrapper_descriptor") (n := "__get__") (by rw [typeLookup_type, builtinLookup_eq_fast]; kernel_rfl) (by decide +kernel) (by decide +kernel) (by decide +kernel)
    (by first | exact .inl (by decide +kernel) | exact .inr (by decide +kernel)) (by rw [isSubtype_type]; kernel_rfl)
theorem entry_wget : entryFor table "wrapper_descriptor.__get__" = some Builtin.«wrapper_descriptor.__get__» := entryFor_of_tree (by kernel_rfl)
theorem args_wget (a b c : Value) : argsOk "wrapper_descriptor.__get__" ⟨[a, b, c], []⟩ := by unfold argsOk; kernel_rfl
theorem slot_mget : Slot "method_descriptor" "__get__" "method_descriptor.__get__" :=
  .of (owner := "method_descriptor") (n := "__get__") (by rw [typeLookup_type, builtinLookup_eq_fast]; kernel_rfl) (by decide +kernel) (by decide +kernel) (by decide +kernel)
    (by first | exact .inl (by decide +kernel) | exact .inr (by decide +kernel)) (by rw [isSubtype_type]; kernel_rfl)
theorem entry_mget : entryFor table "method_descriptor.__get__" = some Builtin.«method_descriptor.__get__» := entryFor_of_tree (by kernel_rfl)
theorem args_mget (a b c : Value) : argsOk "method_descriptor.__get__" ⟨[a, b, c], []⟩ := by unfold argsOk; kernel_rfl
theorem t_len : typeOf (.builtin "list.__len__") = pure (.type "wrapper_descriptor") := by show builtinType _ = _; rw [builtinType_eq_fast]; kernel_rfl
theorem t_init : typeOf (.builtin "list.__init__") = pure (.type "wrapper_descriptor") := by show builtinType _ = _; rw [builtinType_eq_fast]; kernel_rfl
theorem t_pop : typeOf (.builtin "list.pop") = pure (.type "method_descriptor") := by show builtinType _ = _; rw [builtinType_eq_fast]; kernel_rfl
section
variable {w : World} {A : Around} {E : Value → Shared → Prop} {s : Shared} {x d : Addr} {ps : Array Value} {n : Nat} {od : Obj}
theorem s_len : ks_superIn (hd.heap_1 w.params) 178 178 "__len__" = some (some (.builtin "list.__len__")) := by kernel_rfl
theorem s_init : ks_superIn (hd.heap_1 w.params) 178 178 "__init__" = some (some (.builtin "list.__init__")) := by kernel_rfl
theorem s_pop : ks_superIn (hd.heap_1 w.params) 178 178 "pop" = some (some (.builtin "list.pop")) := by kernel_rfl
theorem s_opaque : nsIn (hd.heap_1 w.params) cStatics "thirdparty.any" = some none := by kernel_rfl
noncomputable abbrev bndObj (T i : String) (x : Addr) : Obj := { cls := .type T, data := .fields #[.builtin i, .ref x] }
theorem wget_run {i : String} {Q : Fin → Shared → Prop} (X : (hd.heap_1 w.params).In s.heap) (hx : s.heap.get? x = some (acObj d ps n)) (hi : i = "list.__len__" ∨ i = "list.__init__")
    (h : Q (.done (.ret (.ref s.heap.objs.size))) { s with heap := s.heap.push (bndObj "method-wrapper" i x) }) :
    wpAny (model Challenge.rw_oc0165_01.row.prog w) A (Builtin.«wrapper_descriptor.__get__» ⟨[.builtin i, .ref x, .ref 178], []⟩) Q E s := by
  unfold Builtin.«wrapper_descriptor.__get__»
  refine wpAny_bind (wpAny_of_eq (a := (.builtin i, some (.ref x), some (.ref 178))) (by rfl) ?_)
  rcases hi with rfl | rfl
  all_goals
    refine wpAny_bind (wpAny_bind (wpAny_of_eq (a := _) rfl (wpAny_bind ((ac_inst X hx).here ?_))))
    refine wpAny_pure ?_
    exact wpAny_bind (wpAny_newObj_type (wpAny_pure h))
theorem mget_run {Q : Fin → Shared → Prop} (X : (hd.heap_1 w.params).In s.heap) (hx : s.heap.get? x = some (acObj d ps n))
    (h : Q (.done (.ret (.ref s.heap.objs.size))) { s with heap := s.heap.push (bndObj "builtin_function_or_method" "list.pop" x) }) :
    wpAny (model Challenge.rw_oc0165_01.row.prog w) A (Builtin.«method_descriptor.__get__» ⟨[.builtin "list.pop", .ref x, .ref 178], []⟩) Q E s := by
  unfold Builtin.«method_descriptor.__get__»
  refine wpAny_bind (wpAny_of_eq (a := (.builtin "list.pop", some (.ref x), some (.ref 178))) (by rfl) ?_)
  dsimp only
  rw [if_neg (by decide +kernel)]
  refine wpAny_bind (wpAny_bind (wpAny_of_eq (a := _) rfl (wpAny_bind ((ac_inst X hx).here ?_))))
  refine wpAny_pure ?_
  exact wpAny_bind (wpAny_newObj_type (wpAny_pure h))
end
section
variable {prog : Program} {w : World} {A : Around} {E : Value → Shared → Prop} {h : Heap} {g : Array GenState} {dr : Drawn} {t : Nat} {os : OsState}
theorem sup_ga {so D x C : Addr} {l₀ l : List Value} {K : Frag} {name : Str} {i T gid : String} {B : Builtin} {ob : Obj} {tk : Tok} {Q : Fin → Shared → Prop}
    (hso : h.get? so = some { cls := .type "super", dict := none, data := .fields #[.ref D, .ref x, .ref C], slots := #[] }) (hno : Looks (model prog w) h (opaqueClassAbove (.ref C)) none)
    (hC : Looks (model prog w) h (mroOf (.ref C)) l₀) (hl : (l₀.dropWhile (· != .ref D)).drop 1 = l) (X : K.In h)
    (hf : alongIn K name l = some (some (.builtin i))) (hti : typeOf (.builtin i) = pure (.type T)) (hsl : Slot T "__get__" gid) (he : entryFor table gid = some B)
    (hag : ∀ a b c, argsOk gid ⟨[a, b, c], []⟩) (hxC : x ≠ C) (hn : (name == ("__class__" : Str)) = false)
    (hrun : ∀ (A : Around) (E : Value → Shared → Prop) (Q : Fin → Shared → Prop), Q (.done (.ret (.ref h.objs.size))) ⟨h.push ob, g, dr, t, os⟩ → wpAny (model prog w) A (B ⟨[.builtin i, .ref x, .ref C], []⟩) Q E ⟨h, g, dr, t, os⟩)
    (hq : Q (.done (.ret (.ref h.objs.size))) ⟨h.push ob, g, dr, t, os⟩) :
    wpAny (model prog w) A (Builtin.«super.__getattribute__» ⟨[.ref so, .str name tk], []⟩) Q E ⟨h, g, dr, t, os⟩ := by
  have hlk := hsl.lookup
  have hne : (Value.ref x == Value.ref C) = false := by simp [hxC]
  have hTf : (⟨h, g, dr, t, os⟩ : Shared).TypeIs (.builtin i) T := hti
  have hdt : ({ cls := .type "super", dict := none, data := .fields #[.ref D, .ref x, .ref C], slots := #[] } : Obj).data = .fields #[.ref D, .ref x, .ref C] := rfl
  have f0 : (#[.ref D, .ref x, .ref C] : Array Value)[0]? = some (.ref D) := rfl
  have f1 : (#[.ref D, .ref x, .ref C] : Array Value)[1]? = some (.ref x) := rfl
  have f2 : (#[.ref D, .ref x, .ref C] : Array Value)[2]? = some (.ref C) := rfl
  unfold Builtin.«super.__getattribute__»
  repeat (first
    | (with_reducible refine wpAny_field hso hdt f0 ?_) | (with_reducible refine wpAny_field hso hdt f1 ?_) | (with_reducible refine wpAny_field hso hdt f2 ?_)
    | (with_reducible refine ks_wpAny_notOpaque hno ?_)
    | (with_reducible refine Looks.at hC ?_; rw [hl])
    | (refine ks_forIn_along X (fun _ _ => rfl) rfl ?_ hf)
    | (with_reducible refine wpAny_typeOf hTf ?_)
    | (with_reducible refine wpAny_call_entry hsl hTf he ?_ (hag _ _ _))
    | (with_reducible refine hrun _ _ _ ?_)
    | (with_reducible refine ⟨_, rfl, ?_⟩)
    | (simp only [hn, hne, Bool.or_false, Bool.false_eq_true, if_false])
    | wp_step
    | dsimp only)
  all_goals exact hq
theorem sup_get {so D x C : Addr} {l₀ l : List Value} {K : Frag} {name : Str} {i T gid : String} {B : Builtin} {ob : Obj} {pl : Sem Bool} {Q : Value × List Value → Shared → Prop}
    (hso : h.get? so = some { cls := .type "super", dict := none, data := .fields #[.ref D, .ref x, .ref C], slots := #[] }) (hno : Looks (model prog w) h (opaqueClassAbove (.ref C)) none)
    (hC : Looks (model prog w) h (mroOf (.ref C)) l₀) (hl : (l₀.dropWhile (· != .ref D)).drop 1 = l) (X : K.In h)
    (hf : alongIn K name l = some (some (.builtin i))) (hti : typeOf (.builtin i) = pure (.type T)) (hsl : Slot T "__get__" gid) (he : entryFor table gid = some B)
    (hag : ∀ a b c, argsOk gid ⟨[a, b, c], []⟩) (hxC : x ≠ C) (hn : (name == ("__class__" : Str)) = false)
    (hrun : ∀ (A : Around) (E : Value → Shared → Prop) (Q : Fin → Shared → Prop), Q (.done (.ret (.ref h.objs.size))) ⟨h.push ob, g, dr, t + 1, os⟩ → wpAny (model prog w) A (B ⟨[.builtin i, .ref x, .ref C], []⟩) Q E ⟨h, g, dr, t + 1, os⟩)
    (hq : Q (.ref h.objs.size, []) ⟨h.push ob, g, dr, t + 1, os⟩) :
    wpAny (model prog w) A (getMethod (.ref so) name pl) Q E ⟨h, g, dr, t, os⟩ := by
  have hlk := PySem.F.ks_slot_super_ga.lookup
  have hcan := PySem.F.ks_canon_super_ga
  have hT : ∀ t', (⟨h, g, dr, t', os⟩ : Shared).TypeIs (.ref so) "super" := fun _ => ⟨_, hso, rfl⟩
  unfold getMethod
  refine wpAny_bind (wpAny_specialOf (hT _) hlk ?_)
  show wpAny _ _ (if (Manifest.canonical "super.__getattribute__" != "object.__getattribute__") = true then _ else _) _ _ _
  rw [if_pos hcan]
  unfold getAttr getAttrBy
  refine wpAny_bind (wpAny_bind (wpAny_mkText (wpAny_holding (wpAny_bind (wpAny_typeOf (hT _) (wpAny_bind (wpAny_of_eq hlk ?_)))))))
  show wpAny _ _ (getAttrByItsOwn (.ref so) (.str name t) (.type "super") (.builtin "super.__getattribute__") true false) _ _ _
  unfold getAttrByItsOwn hookBefore callGetattribute boundAndCalled
  refine wpAny_bind (wpAny_of_eq (show (if onTheHeap (.type "super") then typeLookup (.type "super") "__getattr__" else pure none) = pure none from rfl) ?_)
  refine wpAny_bind (wpAny_attempt (wpAny_holding ?_))
  show wpAny _ _ (bindSpecial (.builtin "super.__getattribute__") (.ref so) >>= _) _ _ _
  refine wpAny_bind (wpAny_of_eq (PySem.F.ks_slot_super_ga.bind _) ?_)
  refine wpAny_mono (Q := fun v s' => v = .ref h.objs.size ∧ s' = ⟨h.push ob, g, dr, t + 1, os⟩) (E := fun _ _ => False)
    (wpAny_call_entry PySem.F.ks_slot_super_ga (hT _) PySem.F.ks_entry_super_ga (sup_ga hso hno hC hl X hf hti hsl he hag hxC hn hrun ⟨_, rfl, rfl, rfl⟩) (PySem.F.ks_gaArgs_super _ _)) (fun v s' hv => ?_) fun _ _ z => z.elim
  obtain ⟨rfl, rfl⟩ := hv
  exact wpAny_pure (wpAny_pure hq)
end
section
variable {w : World} {A : Around} {E : Value → Shared → Prop} {s : Shared} {x d : Addr} {ps : Array Value} {n : Nat} {od : Obj}
/-- super() of an accumulator hands out a builtin of list, bound -/
theorem sup_method {so : Addr} {name : Str} {i T gid bt : String} {B : Builtin} {pl : Sem Bool} {Q : Value × List Value → Shared → Prop} (X : (hd.heap_1 w.params).In s.heap) (hx : s.heap.get? x = some (acObj d ps n))
    (hso : s.heap.get? so = some (ks_superObj 178 x 178)) (hm : ks_superIn (hd.heap_1 w.params) 178 178 name = some (some (.builtin i))) (hti : typeOf (.builtin i) = pure (.type T)) (hsl : Slot T "__get__" gid) (he : entryFor table gid = some B)
    (hag : ∀ a b c, argsOk gid ⟨[a, b, c], []⟩) (hn : (name == ("__class__" : Str)) = false)
    (hrun : ∀ (A : Around) (E : Value → Shared → Prop) (s : Shared) (Q : Fin → Shared → Prop), (hd.heap_1 w.params).In s.heap → s.heap.get? x = some (acObj d ps n) → Q (.done (.ret (.ref s.heap.objs.size))) { s with heap := s.heap.push (bndObj bt i x) } →
      wpAny (model Challenge.rw_oc0165_01.row.prog w) A (B ⟨[.builtin i, .ref x, .ref 178], []⟩) Q E s)
    (h : Q (.ref s.heap.objs.size, []) { s with heap := s.heap.push (bndObj bt i x), toks := s.toks + 1 }) :
    wpAny (model Challenge.rw_oc0165_01.row.prog w) A (getMethod (.ref so) name pl) Q E s := by
  obtain ⟨hp, g, dr, t, os⟩ := s
  obtain ⟨cd, hc, hm'⟩ := Option.bind_eq_some_iff.mp hm
  have hC : Looks (model Challenge.rw_oc0165_01.row.prog w) hp (mroOf (.ref 178)) cd.mro := fun A Q E s k q => wpAny_bind ((looks_clsIn X hc) A _ E s k (wpAny_pure q))
  have hno : Looks (model Challenge.rw_oc0165_01.row.prog w) hp (opaqueClassAbove (.ref 178)) none := looks_opaque X s_opaque
  have hxC : x ≠ 178 := by
    rintro rfl
    unfold clsIn at hc
    split at hc
    · rename_i c d' cd' sl ho
      have e := X _ _ ho
      rw [hx] at e
      cases e
    · cases hc
  exact sup_get hso hno hC rfl X hm' hti hsl he hag hxC hn (fun A E Q q => hrun A E _ Q X hx q) h
end
end Mine
end

section
-- Sup2
example : True := by w_top off; trivial
open PySem PySem.W PyProof.Rows PySem.Calls PySem.Spec
set_option maxRecDepth 100000
namespace Mine
/-- an accumulator's dict -/
noncomputable abbrev acDict (hs : Int) (t : Tok) (v : Value) (n : Nat) : Obj := dictOf [⟨hs, .str "_initial_size" t, v⟩] n
section
variable {w : World} {p : Program} {loose : List Str} {mean : ExcName → Option Value} {mg mb : Str → Option Value} {G : Heap} {s : Shared}
  {R : Result → Shared → Prop} {name qual : Str} {params : Arguments} {body : List Stmt} {scope : Scope} {cl : List (Str × Addr)} {dV kV doc pm cdv ct oc : Value} {an od : Option Addr} {osl : Array (Option Value)} {f : Addr} {args : Args} {binds : List (Str × Value)} {dp un : Nat}
/-- a def that asks super() is entered -/
theorem enterS (led : List (Addr × Obj)) (D : Gd w p loose mean mg mb G) (S : G.StaysIn s.heap) (hl : ∀ q ∈ led, s.heap.get? q.1 = some q.2) (hf : ∀ q ∈ led, G.get? q.1 = none)
    (ho : (hd.heap_1 w.params).lookup f = some ⟨oc, od, .func (fnX name qual params body scope cl dV kV doc pm an cdv ct), osl⟩) (hcd : codeIn (hd.heap_1 w.params) cdv qual = true) (hroom : dp < recursionLimit)
    (hbind : BindsTo s (fnX name qual params body scope cl dV kV doc pm an cdv ct) args binds) (hloc : ∀ y ∈ binds, scope.names.lookup y.1 = some .local)
    (hcell : ∀ x ∈ scope.names, x.2 ≠ .cell) (hco : scope.isCoroutine = false) (hgen : scope.isGenerator = false) (hk : scope.kind = .function)
    (h : ∀ g L' h₁, g = hideAll s.heap (led.map (·.1)) → L' = s.heap.objs.size → Fr g L' h₁ (fun y => binds.reverse.lookup y) → News g L' h₁ led → (hd.heap_1 w.params).In g → Top p loose mean mg mb g → (∀ q ∈ led, q.1 < L') →
      (∀ b o, s.heap.get? b = some o → (∀ q ∈ led, q.1 ≠ b) → g.get? b = some o) → G.StaysIn g →
      _root_.PySem.wpAt (model Challenge.rw_oc0165_01.row.prog w) (Am (dp + 1) (un + 3)) (.func body (envX qual scope L' f cdv cl)) (execs body (envX qual scope L' f cdv cl)) (fun fl s' => R (.ok (.ret (match fl with | .ret v => v | _ => .none))) s') (fun _ _ => False)
        { s with heap := h₁, toks := s.toks + binds.length }) : codeAny (model Challenge.rw_oc0165_01.row.prog w) (Am dp un) (.call (.ref f) args) R s := by
  have nm : ∀ b o, G.get? b = some o → b ∉ led.map (·.1) := fun b o e q => by
    obtain ⟨p, hp, rfl⟩ := List.mem_map.mp q
    rw [hf p hp] at e; cases e
  have st : G.StaysIn (hideAll s.heap (led.map (·.1))) := fun b o e => hideAll_get _ (S b o e) (nm b o e)
  refine ks_codeAny_call_defAt (fd := fnX name qual params body scope cl dV kV doc pm an cdv ct) (body := body) (binds := binds) hroom (S _ _ (D.X _ _ ho)) rfl (D.T.nolimit.keeps S) (codeRec_of (D.X.keeps S) hcd) rfl hbind hcell hloc (fun h₁ hns hk₁ => ?_) hco hgen hk
  refine ks_wpAt_mono (h _ s.heap.objs.size h₁ rfl rfl ⟨hns, fun b o e => hk₁ b o (of_hideAll _ e), Nat.le_of_eq (hideAll_size _ _)⟩
    (fun p hp => ⟨hk₁ _ _ (hl p hp), Nat.ne_of_lt (Heap.lt_size (hl p hp)), hideAll_none _ (List.mem_map_of_mem hp)⟩) (D.X.keeps st) (D.T.keeps st) (fun p hp => Heap.lt_size (hl p hp))
    (fun b o e n => hideAll_get _ e fun q => ?_) st) (fun fl s' x => x) fun _ _ x => x.elim
  obtain ⟨p, hp, e'⟩ := List.mem_map.mp q
  exact n p hp e'
end
section
variable {w : World} {A : Around} {E : Value → Shared → Prop} {s : Shared} {x d : Addr} {ps : Array Value} {n : Nat} {od : Obj}
/-- a bound builtin is called -/
theorem bnd_call {q : Addr} {T i : String} {b : Builtin} {rest : List Value} {Q : Value → Shared → Prop} (hq : s.heap.get? q = some (bndObj T i x)) (hT : T = "builtin_function_or_method" ∨ T = "method-wrapper") (hp : plainId i = true) (hb : entryFor table i = some b)
    (hck : ∀ Q : Unit → Shared → Prop, Q () s → wpAny (model Challenge.rw_oc0165_01.row.prog w) A.in1 (checkBoundCall i ⟨.ref x :: rest, []⟩) Q E s)
    (hc : wpAny (model Challenge.rw_oc0165_01.row.prog w) A.in1 (b ⟨.ref x :: rest, []⟩) (fun fin s' => ∃ v, fin = .done (.ret v) ∧ Q v s') E s) :
    wpAny (model Challenge.rw_oc0165_01.row.prog w) A (call (.ref q) rest) Q E s := by
  refine wpAny_call (codeAny_of_tree ?_)
  show wpAny _ A.in1 (callAny (.ref q) ⟨rest, []⟩) _ _ _
  unfold callAny
  refine wpAny_bind (wpAny_load hq ?_)
  rcases hT with rfl | rfl
  all_goals
    refine wpAny_bind (hck _ ?_)
    refine wpAny_pure ⟨plainId_quiet hp _, ?_⟩
    refine codeAny_builtin hb ?_
    rw [Around.under_plainId hp]
    refine wpAny_mono hc (fun fin s' h' => ?_) fun _ _ h' => h'
    obtain ⟨v, rfl, hv⟩ := h'; exact hv
theorem bnd_callWith {q : Addr} {T i : String} {pos : Pos} {env : Env} {Q : Value → Shared → Prop} (hq : s.heap.get? q = some (bndObj T i x)) (hT : T = "builtin_function_or_method" ∨ T = "method-wrapper")
    (h : wpAny (model Challenge.rw_oc0165_01.row.prog w) A (call (.ref q) []) Q E s) : wpAny (model Challenge.rw_oc0165_01.row.prog w) A (callWith pos (.ref q) [] (backTo pos (starEach [] env)) []) Q E s := by
  rw [show backTo pos (starEach [] env) = [] from rfl]
  unfold callWith
  refine wpAny_bind (wpAny_holding (PyProof.Rows.evalArgs_nil3 (wpAny_bind (wpAny_standAt ?_))))
  refine wpAny_bind (m := keeperOf (.ref q)) ?_
  unfold keeperOf
  refine wpAny_bind (wpAny_load hq ?_)
  rcases hT with rfl | rfl
  all_goals
    simp only [show (Value.type "builtin_function_or_method" != Value.type "method") = true by decide, show (Value.type "method-wrapper" != Value.type "method") = true by decide, show (Value.type "builtin_function_or_method" == Value.type "builtin_function_or_method" || Value.type "builtin_function_or_method" == Value.type "method-wrapper") = true by decide, show (Value.type "method-wrapper" == Value.type "builtin_function_or_method" || Value.type "method-wrapper" == Value.type "method-wrapper") = true by decide, if_true]
    refine wpAny_pure ?_
    exact wpAny_bind (wpAny_mono h (fun r s₂ hr => wpAny_bind (wpAny_holding (wpAny_point (wpAny_pure hr)))) fun _ _ x => x)
theorem ck_slot {i : String} {rest : List Value} {Q : Unit → Shared → Prop} (hk : builtinKind i = some .slot) (ha : argsOk i ⟨.ref x :: rest, []⟩) (h : Q () s) :
    wpAny (model Challenge.rw_oc0165_01.row.prog w) A (checkBoundCall i ⟨.ref x :: rest, []⟩) Q E s := by
  unfold checkBoundCall
  unfold argsOk at ha
  cases e : Manifest.signature? i with
  | none => exact wpAny_pure h
  | some sig =>
    rw [e] at ha
    simp only [hk]
    rw [if_pos (by decide)]
    exact wpAny_of_eq ha h
theorem k_module : mroIn (hd.heap_1 w.params) 178 (.type "module") = some false := by kernel_rfl
theorem sig_pop (a : Value) : (match Manifest.signature? "list.pop" with | some sig => Bind.checkArgs "list.pop" { sig with full := s!"{"_Accumulator"}.{Bind.lastOf "list.pop"}" } ⟨[a], []⟩ | none => pure ()) = pure () := by
  rw [signature?_of (id := "list.pop") (n := ['p', 'o', 'p']) (o := ['t', 's', 'i', 'l']) (by kernel_rfl) PySem.F.owner_list]; kernel_rfl
theorem k_cls : ∃ cd, clsIn (hd.heap_1 w.params) 178 = some cd ∧ cd.qualname.toString = "_Accumulator" := Option.map_eq_some_iff.mp (by kernel_rfl)
theorem k_type : typeIn (hd.heap_1 w.params) (.ref 178) = some (.type "type") := by kernel_rfl
theorem ck_pop {Q : Unit → Shared → Prop} (X : (hd.heap_1 w.params).In s.heap) (hx : s.heap.get? x = some (acObj d ps n)) (h : Q () s) :
    wpAny (model Challenge.rw_oc0165_01.row.prog w) A (checkBoundCall "list.pop" ⟨[.ref x], []⟩) Q E s := by
  have ha := sig_pop (.ref x)
  obtain ⟨cd, hc, hqn⟩ := k_cls (w := w)
  obtain ⟨hp, g, dr, tk, os⟩ := s
  unfold checkBoundCall
  cases e : Manifest.signature? "list.pop" with
  | none => exact wpAny_pure h
  | some sig =>
    rw [e] at ha
    simp only [show builtinKind "list.pop" = some .method by decide +kernel]
    rw [if_neg (by decide)]
    refine wpAny_bind (wpAny_bind ((ac_type hx).here ((looks_mroIn X k_module).here ?_)))
    rw [if_neg (by decide +kernel)]
    refine wpAny_bind (ks_wpAny_isType_inst hx (by intro c e; cases e) ?_)
    rw [if_neg (by decide)]
    refine wpAny_bind ((ac_type hx).at ?_)
    refine wpAny_bind ((looks_clsIn X hc).at ?_)
    refine wpAny_bind ((looks_typeIn X k_type).at ?_)
    rw [if_pos (by decide)]
    rw [hqn]
    exact wpAny_of_eq ha h
theorem bb_pop {y : Value} {Q : Value → Shared → Prop} (hx : s.heap.get? x = some (acObj d ps n)) (hz : ps.size ≤ 1000) (hy : ps[ps.size - 1]? = some y)
    (h : Q y { s with heap := s.heap.update x (Obj.mapSeq fun a => a.eraseIdxIfInBounds (ps.size - 1)) }) :
    wpAny (model Challenge.rw_oc0165_01.row.prog w) A (Builtin.«list.pop» ⟨[.ref x], []⟩) (fun fin s' => ∃ v, fin = .done (.ret v) ∧ Q v s') E s := by
  obtain ⟨hp, g, dr, tk, os⟩ := s
  have hs1 : ps.size ≤ sizeLine := by rw [sizeLine_eq]; (first | lia | omega)
  have hpos : 0 < ps.size := by
    rcases Nat.eq_zero_or_pos ps.size with h0 | h0
    · simp [h0] at hy
    · exact h0
  have hne : ¬ ps.isEmpty = true := by
    intro he; have : ps.size = 0 := by simpa using he
    (first | lia | omega)
  have hk : seqIndex? (-1) ps.size = some (ps.size - 1) := by
    rw [seqIndex_neg (by (first | lia | omega)) (by (first | lia | omega))]; congr 1; (first | lia | omega)
  wp_walk using wpAny_loadPart' hx
  simp only [hk, hy, Option.bind_some, Option.map_some]
  have hz' : (ps.eraseIdxIfInBounds (ps.size - 1)).size ≤ sizeLine + 1 := by rw [pop_last]; simp; (first | lia | omega)
  wp_walk using (wpAny_updateSeq hx rfl (hz := hs1) (_hz' := hz')), wpAny_loadPart' hx
  exact ⟨_, rfl, h⟩
end
section
variable {w : World} {p : Program} {loose : List Str} {mean : ExcName → Option Value} {mg mb : Str → Option Value} {G : Heap} {s : Shared} {Q E : Value → Shared → Prop}
set_option maxHeartbeats 8000000
theorem c_partcount {x d : Addr} {ps : Array Value} {n : Nat} {od : Obj} (D : Gd w p loose mean mg mb G) (St : G.StaysIn s.heap) (hx : s.heap.get? x = some (acObj d ps n)) (hd' : s.heap.get? d = some od)
    (hret : ∀ t h' tk', (∀ b o, s.heap.get? b = some o → h'.get? b = some o) → Q (.int (ps.size : Nat) t) { s with heap := h', toks := tk' }) :
    wpAny (model Challenge.rw_oc0165_01.row.prog w) (Am 900 700) (call (.ref 175) [.ref x]) Q E s := by
  have fill : (hd.heap_1 w.params).In G := D.X
  revert fill
  k_fill
  intro _
  refine wpAny_call ?_
  refine' enterS (binds := [("self", .ref x)]) [] D St ?k3 ?k4 ?k6 ?k7 ?k8 ?k9 ?kB ?c5 ?c2 ?c3 ?c4 ?_
  (((case k3 => exact fun _ q => nomatch q); (case k4 => exact fun _ q => nomatch q); (case k6 => k_is); (case k7 => k_is); (case k8 => decide); (case k9 => exact BindsTo.of_eq rfl); (case kB => exact locs rfl); (case c5 => decide); (case c2 => exact rfl); (case c3 => exact rfl); (case c4 => exact rfl)))
  intro g L h hg hL F N X T l1 hkeep hst
  have hxg := hkeep _ _ hx fun _ q => nomatch q
  have hdg := hkeep _ _ hd' fun _ q => nomatch q
  dsimp only
  try k_fold
  (repeat' (first | (fail_if_success (with_reducible show wpAny _ _ (exec (Stmt.For _ _ _ _ _) _) _ _ _)); (first | (k_unfold; (try dsimp only)) | walk1 | (dsimp only; walk1))))
  refine ks_node F X N T (by k_is) (by rfl) (by rfl) (ac_at (F.keep _ _ hxg) (F.keep _ _ hdg)) (by k_is) (by rfl) (by first | rfl | decide +kernel) (by k_is) (by k_is) (by k_is) (by k_is) (by decide) (by rfl) (by rfl) (by rfl) (by rfl) (by decide +kernel) (by first | boot_by_name | rfl | kernel_rfl) ?_
  intro so h1 F1 N1 l1
  refine sup_method (X.keeps F1.keep) (F1.keep _ _ hxg) (N1 _ (.head _)).1 s_len t_len slot_wget entry_wget args_wget (by decide) (fun A E s Q X hx q => wget_run X hx (.inl rfl) q) ?_
  have hk1 : ∀ b o, h1.get? b = some o → (h1.push (bndObj "method-wrapper" "list.__len__" x)).get? b = some o := fun b o e => Heap.get?_push_of_some _ e
  have hq1 : (h1.push (bndObj "method-wrapper" "list.__len__" x)).get? h1.objs.size = some (bndObj "method-wrapper" "list.__len__" x) := Heap.get?_push_size _ rfl
  refine bnd_callWith hq1 (.inr rfl) (bnd_call hq1 (.inr rfl) PySem.F.slot_list_len.plain PySem.F.entry_list_len (fun Q q => ck_slot (by decide +kernel) (PySem.F.args_list_len_1 _) q) ?_)
  have hxq := hk1 _ _ (F1.keep _ _ hxg)
  wp_walk
  exact ⟨_, rfl, hret _ _ _ fun b o e => hk1 _ _ (F1.keep _ _ (hkeep _ _ e fun _ q => nomatch q))⟩
end
section
variable {w : World} {p : Program} {loose : List Str} {mean : ExcName → Option Value} {mg mb : Str → Option Value} {G g : Heap} {L : Addr} {m : Str → Option Value} {nw : List (Addr × Obj)} {A : Around} {s : Shared}
theorem at_of {h : Heap} {x : Addr} {o : Obj} (F : Fr g L h m) (N : News g L h nw) (hh : (x, o) ∈ nw ∨ g.get? x = some o) : h.get? x = some o := hh.elim (fun q => (N _ q).1) fun q => F.keep _ _ q
theorem m_method {x d : Addr} {ps : Array Value} {n : Nat} {od : Obj} {E : Value → Shared → Prop} {name : Str} {f : Value} {T : String} {pl : Sem Bool} {Q : Value × List Value → Shared → Prop} (F : Fr g L s.heap m) (N : News g L s.heap nw) (X : (hd.heap_1 w.params).In g)
    (hx : (x, acObj d ps n) ∈ nw ∨ g.get? x = some (acObj d ps n)) (hd' : (d, od) ∈ nw ∨ g.get? d = some od)
    (hf : findIn (hd.heap_1 w.params) (.ref 178) name = some (some f)) (ht : typeIn (hd.heap_1 w.params) f = some (.type T)) (hT : (Value.type T != .type "function" && Value.type T != .type "method_descriptor" && Value.type T != .type "wrapper_descriptor") = false)
    (hs : shadowIn (some od) name = some false) (h : Q (f, [.ref x]) s) :
    wpAny (model Challenge.rw_oc0165_01.row.prog w) A (getMethod (.ref x) name pl) Q E s := ac_method (X.keeps F.keep) (at_of F N hx) (at_of F N hd') hf ht hT hs h
theorem u_partcount {Q E : Value → Shared → Prop} {x d : Addr} {ps : Array Value} {n : Nat} {od : Obj} (F : Fr g L s.heap m) (N : News g L s.heap nw) (D : Gd w p loose mean mg mb G) (hs : G.StaysIn g) (hh : A.handled = none) (hd : A.depth ≤ 900) (hu : A.units ≤ 700)
    (hx : (x, acObj d ps n) ∈ nw ∨ g.get? x = some (acObj d ps n)) (hd' : (d, od) ∈ nw ∨ g.get? d = some od)
    (k : ∀ t h' tk', Fr g L h' m → News g L h' nw → Q (.int (ps.size : Nat) t) { s with heap := h', toks := tk' }) :
    wpAny (model Challenge.rw_oc0165_01.row.prog w) A (call (.ref 175) [.ref x]) Q E s :=
  wp_up hh hd hu (c_partcount D (stays_fr F hs) (at_of F N hx) (at_of F N hd') fun t h' tk' hk => k t h' tk' (frK F hk) (newsK N hk))
end
section
variable {w : World} {p : Program} {loose : List Str} {mean : ExcName → Option Value} {mg mb : Str → Option Value} {G : Heap} {s : Shared} {Q E : Value → Shared → Prop}
set_option maxHeartbeats 8000000
/-- pop, where something is there -/
theorem c_pop {x d : Addr} {ps : Array Value} {n : Nat} {hs0 : Int} {t0 : Tok} {v0 : Value} {n0 : Nat} {y : Value} (D : Gd w p loose mean mg mb G) (St : G.StaysIn s.heap) (hx : s.heap.get? x = some (acObj d ps n)) (hd' : s.heap.get? d = some (acDict hs0 t0 v0 n0)) (hxG : G.get? x = none)
    (hz : ps.size ≤ 1000) (hy : ps[ps.size - 1]? = some y)
    (hret : ∀ h' tk' n', (∀ b o, s.heap.get? b = some o → b ≠ x → h'.get? b = some o) → h'.get? x = some (acObj d ps.pop n') → Q y { s with heap := h', toks := tk' }) :
    wpAny (model Challenge.rw_oc0165_01.row.prog w) (Am 800 600) (call (.ref 138) [.ref x]) Q E s := by
  have fill : (hd.heap_1 w.params).In G := D.X
  revert fill
  k_fill
  intro _
  refine wpAny_call ?_
  refine' enterS (binds := [("self", .ref x)]) [(x, acObj d ps n)] D St ?k3 ?k4 ?k6 ?k7 ?k8 ?k9 ?kB ?c5 ?c2 ?c3 ?c4 ?_
  case k3 => rintro q (_ | ⟨_, hq⟩); (· exact hx); cases hq
  case k4 => rintro q (_ | ⟨_, hq⟩); (· exact hxG); cases hq
  (case k6 => k_is); (case k7 => k_is); (case k8 => decide); (case k9 => exact BindsTo.of_eq rfl); (case kB => exact locs rfl); (case c5 => decide); (case c2 => exact rfl); (case c3 => exact rfl); (case c4 => exact rfl)
  intro g L h hg hL F N X T l1 hkeep hst
  have hdx : d ≠ x := by rintro rfl; rw [hx] at hd'; cases hd'
  have hdg := hkeep _ _ hd' (by rintro q (_ | ⟨_, hq⟩); (· exact hdx.symm); cases hq)
  have hpos : 0 < ps.size := by
    rcases Nat.eq_zero_or_pos ps.size with h0 | h0
    · simp [h0] at hy
    · exact h0
  have hne : ((ps.size : Nat) : Int) ≠ 0 := by (first | lia | omega)
  dsimp only
  try k_fold
  refine ks_wpAt_execs_cons ?_
  refine ks_wpAt_If ?_
  refine wpAt_of_wpAny ?_
  (repeat' (first | (fail_if_success (show _root_.PySem.wpAt _ _ _ _ _ _ _)); (first | (k_unfold; (try dsimp only)) | (first | ((k_here; (with_reducible show wpAny _ _ (call (Value.ref 175) _) _ _ _); k_dflt (refine' u_partcount ?k1 ?k2 ?k3 ?k4 ?k5 ?k6 ?k7 ?k8 ?k9 ?_; (case k1 => k_asm); (case k2 => k_asm); (case k3 => assumption); (case k4 => assumption); (case k5 => exact rfl); (case k6 => decide); (case k7 => decide); (case k8 => (first | exact .inr (by assumption) | exact .inl (by k_mem))); (case k9 => (first | exact .inr (by assumption) | exact .inl (by k_mem)))); intro t' h' tk' F' N'; (try k_sweep))) | ((with_reducible show wpAny _ _ (getMethod (Value.ref _) _ _) _ _ _); (k_here; k_dflt (refine' m_method ?k1 ?k2 ?k3 ?k4 ?k5 ?k6 ?k7 ?k8 ?k9 ?_; (case k1 => k_asm); (case k2 => k_asm); (case k3 => k_asm); (case k4 => (first | exact .inr (by assumption) | exact .inl (by k_mem))); (case k5 => (first | exact .inr (by assumption) | exact .inl (by k_mem))); (case k6 => k_is); (case k7 => k_is); (case k8 => decide +kernel); (case k9 => rfl)))) | walk1) | (dsimp only; (first | ((k_here; (with_reducible show wpAny _ _ (call (Value.ref 175) _) _ _ _); k_dflt (refine' u_partcount ?k1 ?k2 ?k3 ?k4 ?k5 ?k6 ?k7 ?k8 ?k9 ?_; (case k1 => k_asm); (case k2 => k_asm); (case k3 => assumption); (case k4 => assumption); (case k5 => exact rfl); (case k6 => decide); (case k7 => decide); (case k8 => (first | exact .inr (by assumption) | exact .inl (by k_mem))); (case k9 => (first | exact .inr (by assumption) | exact .inl (by k_mem)))); intro t' h' tk' F' N'; (try k_sweep))) | ((with_reducible show wpAny _ _ (getMethod (Value.ref _) _ _) _ _ _); (k_here; k_dflt (refine' m_method ?k1 ?k2 ?k3 ?k4 ?k5 ?k6 ?k7 ?k8 ?k9 ?_; (case k1 => k_asm); (case k2 => k_asm); (case k3 => k_asm); (case k4 => (first | exact .inr (by assumption) | exact .inl (by k_mem))); (case k5 => (first | exact .inr (by assumption) | exact .inl (by k_mem))); (case k6 => k_is); (case k7 => k_is); (case k8 => decide +kernel); (case k9 => rfl)))) | walk1)))))
  · (first | lia | omega)
  · refine wpAt_of_wpAny (wpAny_execs_nil ?_)
    dsimp only
    rename Fr _ _ _ _ => F1
    rename News _ _ _ _ => N1
    refine ks_wpAt_execs_cons ?_
    refine ks_wpAt_Return_some ?_
    refine ks_wpAt_MethodCall ?_
    refine ks_node F1 X N1 T (by k_is) (by rfl) (by rfl) (ac_at (N1 _ (.head _)).1 (F1.keep _ _ hdg)) (by k_is) (by rfl) (by first | rfl | decide +kernel) (by k_is) (by k_is) (by k_is) (by k_is) (by decide) (by rfl) (by rfl) (by rfl) (by rfl) (by decide +kernel) (by first | boot_by_name | rfl | kernel_rfl) ?_
    intro so h1 F1 N1 l1
    have hx1 := (N1 _ (.tail _ (.head _))).1
    have X1 := X.keeps F1.keep
    refine sup_method X1 hx1 (N1 _ (.head _)).1 s_pop t_pop slot_mget entry_mget args_mget (by decide) (fun A E s Q X hx q => mget_run X hx q) ?_
    have hk1 : ∀ b o, h1.get? b = some o → (h1.push (bndObj "builtin_function_or_method" "list.pop" x)).get? b = some o := fun b o e => Heap.get?_push_of_some _ e
    have hq1 : (h1.push (bndObj "builtin_function_or_method" "list.pop" x)).get? h1.objs.size = some (bndObj "builtin_function_or_method" "list.pop" x) := Heap.get?_push_size _ rfl
    have hxq := hk1 _ _ hx1
    have Xq : (hd.heap_1 w.params).In (h1.push (bndObj "builtin_function_or_method" "list.pop" x)) := X1.keeps hk1
    refine bnd_callWith hq1 (.inl rfl) (bnd_call hq1 (.inl rfl) PySem.F.slot_list_pop.plain PySem.F.entry_list_pop (fun Q q => ck_pop Xq hxq q) ?_)
    refine bb_pop hxq hz hy ?_
    refine hret _ _ _ (fun b o e hb => ?_) ((ac_upd hxq _).trans (by rw [pop_last]))
    refine (Heap.get?_update_other _ _ hb.symm).trans (hk1 _ _ (F1.keep _ _ (hkeep _ _ e ?_)))
    rintro q (_ | ⟨_, hq⟩)
    · exact hb.symm
    · cases hq
end
end Mine
end

section
-- SetL
example : True := by w_top off; trivial
open PySem PySem.W PyProof.Rows PySem.Calls PySem.Spec
set_option maxRecDepth 100000
namespace Mine
theorem refuseL (self : Value) (c : Addr) : refuseLoop self "__setattr__" [.ref c, .type "list", .type "object"] = pure () := by
  rw [refuseLoop_ref]
  have h := PySem.F.store_object.passes self
  rw [← h]
  kernel_rfl
theorem k_mro3 {w : World} : ∃ cd, clsIn (hd.heap_1 w.params) 178 = some cd ∧ cd.mro = [.ref 178, .type "list", .type "object"] := Option.map_eq_some_iff.mp (by kernel_rfl)
theorem k_obj {w : World} : mroIn (hd.heap_1 w.params) 178 (.type "object") = some true := by kernel_rfl
theorem k_taker {w : World} : takerIn (hd.heap_1 w.params) 178 "_initial_size" = some none := by kernel_rfl
theorem k_hasd {w : World} : (clsIn (hd.heap_1 w.params) 178).any (·.hasDict) = true := by kernel_rfl
theorem k_seta {w : World} : findIn (hd.heap_1 w.params) (.ref 178) "__setattr__" = some (some (.builtin "object.__setattr__")) := by kernel_rfl
section
variable {w : World} {A : Around} {x d : Addr} {s : Shared} {h₀ : Heap} {L : Addr} {m : Str → Option Value} {news news' : List (Addr × Obj)} {R : Result → Shared → Prop} {ps : Array Value} {n : Nat}
theorem osaL_open {od : Obj} {name : Str} {tk : Tok} {v : Value} {r : Option Value} (X : (hd.heap_1 w.params).In s.heap) (I : InstAt s.heap x (acObj d ps n) 178 (some od)) (ht : takerIn (hd.heap_1 w.params) 178 name = some r)
    (h : ∀ b, wpAny (model Challenge.rw_oc0165_01.row.prog w) A.in1 (match r with | some a => Builtin.ObjectAttr.setByDescriptor a (.ref x) v | none => Builtin.ObjectAttr.storeInOwnDict (.ref x) (.ref 178) (.str name tk) name v b)
      (fun fin s' => match fin with | .done f => R (.ok f) s' | .again c' => c'.quiet = true ∧ codeAny (model Challenge.rw_oc0165_01.row.prog w) A c' R s') (fun e s' => R (.error e) s') s) :
    codeAny (model Challenge.rw_oc0165_01.row.prog w) A (.call (.builtin "object.__setattr__") ⟨[.ref x, .str name tk, v], []⟩) R s := by
  have SF := PySem.F.store_object
  obtain ⟨cd, hc, ho⟩ := k_mro3 (w := w)
  have sub : Looks (model Challenge.rw_oc0165_01.row.prog w) s.heap (isInstance (.ref x) (.type "object")) true := I.type.andThen (looks_mroIn X k_obj)
  refine codeAny_call_builtin SF.slot.plain SF.entry (@check_slot (model Challenge.rw_oc0165_01.row.prog w) _ _ s "object.__setattr__" "object" "__setattr__" (.ref x) [.str name tk, v] [] _ SF.kind SF.split sub (SF.args (.ref x) (.str name tk) v) ?_)
  obtain ⟨attr, ha, hr⟩ := Option.bind_eq_some_iff.mp ht
  have hm : Looks (model Challenge.rw_oc0165_01.row.prog w) s.heap (mroOf (.ref 178)) cd.mro := (looks_clsIn X hc).andThen .now
  have L3 : Looks (model Challenge.rw_oc0165_01.row.prog w) s.heap (Builtin.ObjectAttr.storeTaker? attr) r := by
    cases attr with
    | none => cases hr; exact .now
    | some a =>
      obtain ⟨b, hb, rfl⟩ := Option.map_eq_some_iff.mp hr
      refine (looks_takesIn X hb).andThen ?_
      cases b <;> exact .now
  rw [osa_eq, refuse_eq]
  refine wpAny_bind (wpAny_bind (I.type.here (wpAny_bind (hm.here ?_))))
  rw [ho, refuseL]
  refine wpAny_pure (wpAny_bind (I.type.here (wpAny_bind ((looks_findIn X ha).here (wpAny_bind (L3.here ?_))))))
  exact h _
theorem osaL_dict {od od' : Obj} {name : Str} {tk : Tok} {v : Value} {pre post : List (Addr × Obj)} {es : List DictEntry} {k : Nat} (F : Fr h₀ L s.heap m) (N : News h₀ L s.heap (pre ++ (d, od) :: post)) (X : (hd.heap_1 w.params).In s.heap)
    (I : InstAt s.heap x (acObj d ps n) 178 (some od)) (ht : takerIn (hd.heap_1 w.params) 178 name = some none)
    (hl : (lookIn name od).isSome = true) (h1 : ∀ p ∈ pre, p.1 ≠ d) (h2 : ∀ p ∈ post, p.1 ≠ d)
    (e : Obj.putName name (PyData.keyHash w.params name) (.str name s.toks) v od = od') (e' : od'.data = .dict es.toArray k) (hz : es.length ≤ 1000)
    (h : ∀ h', Fr h₀ L h' m → News h₀ L h' (pre ++ (d, od') :: post) → R (.ok (.ret .none)) { s with heap := h', toks := s.toks + 1 }) :
    codeAny (model Challenge.rw_oc0165_01.row.prog w) A (.call (.builtin "object.__setattr__") ⟨[.ref x, .str name tk, v], []⟩) R s := by
  refine osaL_open X I ht fun b => ?_
  obtain ⟨cd, hc, hd'⟩ := any_some (k_hasd (w := w))
  obtain ⟨U1, U2⟩ := news_upd (f := Obj.putName name (PyData.keyHash w.params name) (.str name s.toks) v) F N h1 h2 e (by obtain ⟨_, _, dd, _⟩ := od'; cases e'; rfl)
  have D := (N (d, od) (by simp)).1
  have D' := (U2 (d, od') (by simp)).1
  obtain ⟨hx, hcl, hn, -⟩ := I
  refine wpAny_bind (wpAny_pure (wpAny_bind (wpAny_bind (wpAny_loadPart hx (wpAny_bind ((looks_clsIn X hc).here ?_))))))
  rw [hd']
  refine wpAny_pure (a := some d) (wpAny_bind (wpAny_pure (wpAny_bind ?_)))
  unfold nsSet
  refine wpAny_bind (wpAny_bind (wpAny_askSetting (wpAny_pure (wpAny_bind (wpAny_mkText (wpAny_bind (wpAny_loadPart D ?_)))))))
  unfold lookIn at hl
  split at hl
  · rename_i es₀ n₀ q
    rw [q]
    dsimp only
    have c : (!es₀.any (·.key.isStr name) && es₀.any (·.refKey)) = false := by
      rw [← Array.any_toList, ← Array.any_toList]
      split at hl
      · rename_i en he
        rw [List.any_eq_true.mpr ⟨en, List.mem_of_find?_eq_some he, List.find?_some he⟩]; rfl
      · split at hl
        · cases hl
        · rename_i z; rw [Bool.not_eq_true] at z; rw [z, Bool.and_false]
    rw [aRefKeyMayBeTheName_at, c]
    refine wpAny_updatePart D ?_
    refine wpAny_bind (wpAny_lookBehind D' (by rw [e']; exact pastItsLine_dict (by rw [List.size_toArray, sizeLine_eq]; omega)) ?_)
    exact wpAny_pure (h _ U1 U2)
  · cases hl
theorem set_dictL {E : Value → Shared → Prop} {name : Str} {v : Value} {es es' : List DictEntry} {k k' : Nat} {Q : Unit → Shared → Prop} (F : Fr h₀ L s.heap m) (X₀ : (hd.heap_1 w.params).In h₀) (N : News h₀ L s.heap news) (I : InstAt s.heap x (acObj d ps n) 178 (some (dictOf es k)))
    (ht : takerIn (hd.heap_1 w.params) 178 name = some none) (hl : (getL name es).isSome = true)
    (e : (putL name (PyData.keyHash w.params name) (.str name (s.toks + 1)) v es, putN name es k) = (es', k')) (U : Upd d (dictOf es k) (dictOf es' k') news news') (hz : es'.length ≤ 1000)
    (h : ∀ h', Fr h₀ L h' m → News h₀ L h' news' → Q () { s with heap := h', toks := s.toks + 2 }) :
    wpAny (model Challenge.rw_oc0165_01.row.prog w) A (setAttr (.ref x) name v) Q E s := by
  obtain ⟨pre, post, rfl, rfl, a, b⟩ := U.split
  obtain ⟨e1, e2⟩ := Prod.mk.inj e
  exact set_plain (X₀.keeps F.keep) I k_seta (osaL_dict (s := { s with toks := s.toks + 1 }) F N (X₀.keeps F.keep) I ht hl a b (by rw [putName_dict, e1, e2]) rfl hz fun h' F' N' => h h' F' N')
end
end Mine
end

section
-- Acc3
example : True := by w_top off; trivial
open PySem PySem.W PyProof.Rows PySem.Calls PySem.Spec
set_option maxRecDepth 100000
namespace Mine
theorem none_of {h g : Heap} {x b : Addr} (hkeep : ∀ c o', h.get? c = some o' → c ≠ x → g.get? c = some o') (hx : b ≠ x) (hb : g.get? b = none) : h.get? b = none := by
  cases e : h.get? b with
  | none => rfl
  | some o' => rw [hkeep b o' e hx] at hb; cases hb
section
variable {g h h' : Heap} {L x : Addr} {m : Str → Option Value} {nw nw' : List (Addr × Obj)} {o o' : Obj}
theorem upd_news (F : Fr g L h m) (N : News g L h nw) (U : Upd x o o' nw nw') (hk : ∀ b o, h.get? b = some o → b ≠ x → h'.get? b = some o) (hx : h'.get? x = some o') : Fr g L h' m ∧ News g L h' nw' := by
  obtain ⟨pre, post, rfl, rfl, a, b⟩ := U.split
  have z := N (x, o) (List.mem_append.mpr (.inr (.head _)))
  obtain ⟨oL, es, ep, hL, r⟩ := F.ns
  refine ⟨⟨⟨oL, es, ep, hk _ _ hL (Ne.symm z.2.1), r⟩, fun b o e => hk b o (F.keep b o e) ?_, F.above⟩, fun q hq => ?_⟩
  · rintro rfl
    rw [z.2.2] at e; cases e
  · rcases List.mem_append.mp hq with hq | hq
    · have P := N q (List.mem_append_left _ hq)
      exact ⟨hk _ _ P.1 (a q hq), P.2⟩
    · rcases List.mem_cons.mp hq with rfl | hq
      · exact ⟨hx, z.2⟩
      · have P := N q (List.mem_append_right _ (.tail _ hq))
        exact ⟨hk _ _ P.1 (b q hq), P.2⟩
end
section
variable {w : World} {A : Around} {E : Value → Shared → Prop} {s : Shared} {g : Heap} {L x d : Addr} {m : Str → Option Value} {nw nw' : List (Addr × Obj)} {ps : Array Value} {n : Nat}
theorem m_append {v : Value} {Q : Value → Shared → Prop} (F : Fr g L s.heap m) (N : News g L s.heap nw) (X : (hd.heap_1 w.params).In g) (U : Upd x (acObj d ps n) (acObj d (ps.push v) (n + 1)) nw nw') (hz : ps.size ≤ 1000)
    (h : ∀ h', Fr g L h' m → News g L h' nw' → Q .none { s with heap := h' }) : wpAny (model Challenge.rw_oc0165_01.row.prog w) A (call (.builtin "list.append") [.ref x, v]) Q E s := by
  obtain ⟨pre, post, e1, _⟩ := U.split
  have hx := (N (x, acObj d ps n) (by rw [e1]; exact List.mem_append.mpr (.inr (.head _)))).1
  obtain ⟨F', N'⟩ := upd_news (h' := s.heap.update x (Obj.mapSeq fun a => a.push v)) F N U (fun b o e hb => (Heap.get?_update_other _ _ (Ne.symm hb)).trans e) ((ac_upd hx _).trans (by simp))
  exact b_append (X.keeps F.keep) hx hz (h _ F' N')
theorem m_slice {value slice : Expr} {vl vu : Value} {lo hi : Option Int} {Q : Value → Shared → Prop} (F : Fr g L s.heap m) (N : News g L s.heap nw) (X : (hd.heap_1 w.params).In g) (hx : (x, acObj d ps n) ∈ nw ∨ g.get? x = some (acObj d ps n)) (hz : ps.size ≤ 1000) (pl : IsPart vl lo) (pu : IsPart vu hi)
    (h : ∀ D h', Fr g L h' m → News g L h' ((D, listOf (slicePick ps lo hi none) 0) :: nw) → (∀ p ∈ nw, p.1 < D) → Q (.ref D) { s with heap := h' })
    (hs : subscripted slice false (.ref x) (.ref s.heap.objs.size) = operate [.ref s.heap.objs.size, .ref x] (getItem (.ref x) (.ref s.heap.objs.size))) :
    wpAny (model Challenge.rw_oc0165_01.row.prog w) A (subscriptTail value slice (.ref x) (.ref s.heap.objs.size)) Q E { s with heap := s.heap.push { cls := .type "slice", data := .fields #[vl, vu, .none] } } := by
  obtain ⟨hp, gs, dr, tk, os⟩ := s
  have hx' := at_of F N hx
  have k1 : ∀ b o, hp.get? b = some o → (hp.push { cls := .type "slice", data := .fields #[vl, vu, .none] }).get? b = some o := fun b o e => Heap.get?_push_of_some _ e
  have F1 : Fr g L (hp.push { cls := .type "slice", data := .fields #[vl, vu, .none] }) m := frK F k1
  have N1 := newsK N k1
  refine ac_tail (X.keeps F1.keep) (k1 _ _ hx') (ac_slice (X.keeps F1.keep) (k1 _ _ hx') hz (Heap.IsSliceOf.new ..) pl pu .none (by simp) ?_) hs
  exact h _ _ (F1.push _) (News.push F1 N1 _) fun p hp => Heap.lt_size (N1 p hp).1
theorem m_put {l : Addr} {vl vu : Value} {lo hi : Option Int} {items items' : Array Value} {n' : Nat} {Q : Unit → Shared → Prop} (F : Fr g L s.heap m) (N : News g L s.heap nw) (X : (hd.heap_1 w.params).In g) (U : Upd x (acObj d ps n) (acObj d items' n') nw nw') (hz : ps.size ≤ 1000) (hz2 : items.size ≤ 1000) (pl : IsPart vl lo) (pu : IsPart vu hi)
    (hl : s.heap.IsList l items) (he : ps.extract 0 (sliceBounds lo hi none ps.size).1.toNat ++ items ++ ps.extract (max (sliceBounds lo hi none ps.size).1 (sliceBounds lo hi none ps.size).2.1).toNat ps.size = items') (hn : (if items'.size == ps.size then n else n + 1) = n')
    (h : ∀ h', Fr g L h' m → News g L h' nw' → Q () { s with heap := h' }) :
    wpAny (model Challenge.rw_oc0165_01.row.prog w) A (setItem (.ref x) (.ref s.heap.objs.size) (.ref l)) Q E { s with heap := s.heap.push { cls := .type "slice", data := .fields #[vl, vu, .none] } } := by
  obtain ⟨hp, gs, dr, tk, os⟩ := s
  obtain ⟨pre, post, e1, _⟩ := U.split
  have hx := (N (x, acObj d ps n) (by rw [e1]; exact List.mem_append.mpr (.inr (.head _)))).1
  have k1 : ∀ b o, hp.get? b = some o → (hp.push { cls := .type "slice", data := .fields #[vl, vu, .none] }).get? b = some o := fun b o e => Heap.get?_push_of_some _ e
  have F1 : Fr g L (hp.push { cls := .type "slice", data := .fields #[vl, vu, .none] }) m := frK F k1
  have N1 := newsK N k1
  refine ac_put (X.keeps F1.keep) (k1 _ _ hx) hz hz2 (Heap.IsSliceOf.new ..) pl pu (hl.push _) ?_
  have e2 := ac_upd (k1 _ _ hx) (fun xs => xs.extract 0 (sliceBounds lo hi none ps.size).1.toNat ++ items ++ xs.extract (max (sliceBounds lo hi none ps.size).1 (sliceBounds lo hi none ps.size).2.1).toNat xs.size)
  simp only [he, hn] at e2
  obtain ⟨F', N'⟩ := upd_news F1 N1 U (fun b o e hb => (Heap.get?_update_other _ _ (Ne.symm hb)).trans e) e2
  exact h _ F' N'
theorem m_setattr {hs0 : Int} {t0 : Tok} {v0 v : Value} {n0 : Nat} {Q : Unit → Shared → Prop} (F : Fr g L s.heap m) (N : News g L s.heap nw) (X : (hd.heap_1 w.params).In g) (hx : (x, acObj d ps n) ∈ nw ∨ g.get? x = some (acObj d ps n)) (U : Upd d (acDict hs0 t0 v0 n0) (acDict hs0 t0 v n0) nw nw')
    (h : ∀ h', Fr g L h' m → News g L h' nw' → Q () { s with heap := h', toks := s.toks + 2 }) : wpAny (model Challenge.rw_oc0165_01.row.prog w) A (setAttr (.ref x) "_initial_size" v) Q E s := by
  obtain ⟨pre, post, e1, _⟩ := U.split
  have hd' := (N (d, acDict hs0 t0 v0 n0) (by rw [e1]; exact List.mem_append.mpr (.inr (.head _)))).1
  exact set_dictL F X N (ac_at (at_of F N hx) hd') k_taker rfl rfl U (Nat.le_of_ble_eq_true rfl) h
end
section
variable {w : World} {p : Program} {loose : List Str} {mean : ExcName → Option Value} {mg mb : Str → Option Value} {G : Heap} {s : Shared} {Q E : Value → Shared → Prop}
set_option maxHeartbeats 8000000
theorem c_push {x d : Addr} {ps : Array Value} {n : Nat} {hs0 : Int} {t0 : Tok} {v0 : Value} {n0 : Nat} {a b : Str} {ta tb : Tok} (D : Gd w p loose mean mg mb G) (St : G.StaysIn s.heap) (hx : s.heap.get? x = some (acObj d ps n)) (hd' : s.heap.get? d = some (acDict hs0 t0 v0 n0)) (hxG : G.get? x = none)
    (hz : ps.size ≤ 1000)
    (hret : ∀ h' tk' n' T t1 t2, (∀ b o, s.heap.get? b = some o → b ≠ x → h'.get? b = some o) → s.heap.get? T = none → h'.get? T = some { cls := .type "tuple", data := .seq #[.str a t1, .str b t2] } → h'.get? x = some (acObj d (ps.push (.ref T)) n') → Q .none { s with heap := h', toks := tk' }) :
    wpAny (model Challenge.rw_oc0165_01.row.prog w) (Am 800 600) (call (.ref 122) [.ref x, .str a ta, .str b tb]) Q E s := by
  have fill : (hd.heap_1 w.params).In G := D.X
  revert fill
  k_fill
  intro _
  refine wpAny_call ?_
  refine' enterP (binds := [("self", .ref x), ("fws", .str a ta), ("string", .str b tb)]) [(x, acObj d ps n)] D St ?k3 ?k4 ?k6 ?k7 ?k8 ?k9 ?kB ?c5 ?c2 ?c3 ?c4 ?_
  case k3 => rintro q (_ | ⟨_, hq⟩); (· exact hx); cases hq
  case k4 => rintro q (_ | ⟨_, hq⟩); (· exact hxG); cases hq
  (((case k6 => k_is); (case k7 => k_is); (case k8 => decide)))
  case k9 => first | exact BindsTo.of_eq rfl | (refine' binds_K (D.X.keeps St) ?b1 ?b2 ?b3 ?b4 ?b5; (case b1 => exact rfl); (case b2 => k_is); (case b3 => exact rfl); (case b4 => exact rfl); (case b5 => exact rfl))
  (((case kB => exact locs rfl); (case c5 => decide); (case c2 => exact rfl); (case c3 => exact rfl); (case c4 => exact rfl)))
  intro g L h hg hL F N X T l1 hkeep hst
  have hdx : d ≠ x := by rintro rfl; rw [hx] at hd'; cases hd'
  replace hkeep : ∀ b o, s.heap.get? b = some o → b ≠ x → g.get? b = some o := fun b o e hb => hkeep b o e (by rintro q (_ | ⟨_, hq⟩); (· exact hb.symm); cases hq)
  have hdg := hkeep _ _ hd' hdx
  dsimp only
  try k_fold
  (repeat' (first | (fail_if_success (with_reducible show wpAny _ _ (exec (Stmt.For _ _ _ _ _) _) _ _ _)); (first | (k_unfold; (try dsimp only)) | (first | ((with_reducible show wpAny _ _ (call (Value.builtin "list.append") _) _ _ _); (k_here; k_dflt (refine' m_append ?k1 ?k2 ?k3 ?k4 ?k5 ?_; (case k1 => k_asm); (case k2 => k_asm); (case k3 => k_asm); (case k4 => k_upd); (case k5 => omega)); intro h' F' N'; (try k_sweep))) | ((k_here; (with_reducible show wpAny _ _ (subscriptTail _ (PySem.Expr.Slice _ _ none _) (Value.ref _) (Value.ref _)) _ _ _); k_dflt (refine' m_slice ?k1 ?k2 ?k3 ?k4 ?k5 ?k6 ?k7 ?_ ?k8; (case k1 => k_asm); (case k2 => k_asm); (case k3 => k_asm); (case k4 => (first | exact .inr (by assumption) | exact .inl (by k_mem))); (case k5 => omega); (case k6 => (first | exact .none | exact .int _ _)); (case k7 => (first | exact .none | exact .int _ _)); (case k8 => with_unfolding_all rfl)); intro D' h' F' N' l1; (try k_lt l1); (try k_sweep))) | ((with_reducible show wpAny _ _ (setAttr (Value.ref _) _ _) _ _ _); (k_here; k_dflt (refine' m_setattr ?k1 ?k2 ?k3 ?k4 ?k5 ?_; (case k1 => k_asm); (case k2 => k_asm); (case k3 => k_asm); (case k4 => (first | exact .inr (by assumption) | exact .inl (by k_mem))); (case k5 => k_upd)); intro h' F' N'; (try k_sweep))) | ((with_reducible show wpAny _ _ (getMethod (Value.ref _) _ _) _ _ _); (k_here; k_dflt (refine' m_method ?k1 ?k2 ?k3 ?k4 ?k5 ?k6 ?k7 ?k8 ?k9 ?_; (case k1 => k_asm); (case k2 => k_asm); (case k3 => k_asm); (case k4 => (first | exact .inr (by assumption) | exact .inl (by k_mem))); (case k5 => (first | exact .inr (by assumption) | exact .inl (by k_mem))); (case k6 => k_is); (case k7 => k_is); (case k8 => decide +kernel); (case k9 => rfl)))) | walk1) | (dsimp only; (first | ((with_reducible show wpAny _ _ (call (Value.builtin "list.append") _) _ _ _); (k_here; k_dflt (refine' m_append ?k1 ?k2 ?k3 ?k4 ?k5 ?_; (case k1 => k_asm); (case k2 => k_asm); (case k3 => k_asm); (case k4 => k_upd); (case k5 => omega)); intro h' F' N'; (try k_sweep))) | ((k_here; (with_reducible show wpAny _ _ (subscriptTail _ (PySem.Expr.Slice _ _ none _) (Value.ref _) (Value.ref _)) _ _ _); k_dflt (refine' m_slice ?k1 ?k2 ?k3 ?k4 ?k5 ?k6 ?k7 ?_ ?k8; (case k1 => k_asm); (case k2 => k_asm); (case k3 => k_asm); (case k4 => (first | exact .inr (by assumption) | exact .inl (by k_mem))); (case k5 => omega); (case k6 => (first | exact .none | exact .int _ _)); (case k7 => (first | exact .none | exact .int _ _)); (case k8 => with_unfolding_all rfl)); intro D' h' F' N' l1; (try k_lt l1); (try k_sweep))) | ((with_reducible show wpAny _ _ (setAttr (Value.ref _) _ _) _ _ _); (k_here; k_dflt (refine' m_setattr ?k1 ?k2 ?k3 ?k4 ?k5 ?_; (case k1 => k_asm); (case k2 => k_asm); (case k3 => k_asm); (case k4 => (first | exact .inr (by assumption) | exact .inl (by k_mem))); (case k5 => k_upd)); intro h' F' N'; (try k_sweep))) | ((with_reducible show wpAny _ _ (getMethod (Value.ref _) _ _) _ _ _); (k_here; k_dflt (refine' m_method ?k1 ?k2 ?k3 ?k4 ?k5 ?k6 ?k7 ?k8 ?k9 ?_; (case k1 => k_asm); (case k2 => k_asm); (case k3 => k_asm); (case k4 => (first | exact .inr (by assumption) | exact .inl (by k_mem))); (case k5 => (first | exact .inr (by assumption) | exact .inl (by k_mem))); (case k6 => k_is); (case k7 => k_is); (case k8 => decide +kernel); (case k9 => rfl)))) | walk1)))))
  rename Fr _ _ _ _ => F1
  rename News _ _ _ _ => N1
  try dsimp only
  have z := N1 _ (.head _)
  exact hret _ _ _ _ _ _ (fun b o e hb => F1.keep _ _ (hkeep _ _ e hb)) (none_of hkeep (Nat.ne_of_gt (by assumption)) z.2.2) z.1 (N1 _ (.tail _ (.head _))).1
theorem c_popfrom {x d : Addr} {ps : Array Value} {n : Nat} {hs0 : Int} {t0 : Tok} {v0 : Value} {n0 : Nat} {i : Int} {ti : Tok} (D : Gd w p loose mean mg mb G) (St : G.StaysIn s.heap) (hx : s.heap.get? x = some (acObj d ps n)) (hd' : s.heap.get? d = some (acDict hs0 t0 v0 n0)) (hxG : G.get? x = none)
    (hz : ps.size ≤ 1000) (h0 : 0 ≤ i) (h1 : i ≤ ps.size)
    (hret : ∀ h' tk' n' R, (∀ b o, s.heap.get? b = some o → b ≠ x → h'.get? b = some o) → s.heap.get? R = none → h'.get? R = some (listOf (ps.toList.drop i.toNat).toArray 0) → h'.get? x = some (acObj d (ps.toList.take i.toNat).toArray n') → Q (.ref R) { s with heap := h', toks := tk' }) :
    wpAny (model Challenge.rw_oc0165_01.row.prog w) (Am 800 600) (call (.ref 130) [.ref x, .int i ti]) Q E s := by
  have fill : (hd.heap_1 w.params).In G := D.X
  revert fill
  k_fill
  intro _
  refine wpAny_call ?_
  refine' enterP (binds := [("self", .ref x), ("i", .int i ti)]) [(x, acObj d ps n)] D St ?k3 ?k4 ?k6 ?k7 ?k8 ?k9 ?kB ?c5 ?c2 ?c3 ?c4 ?_
  case k3 => rintro q (_ | ⟨_, hq⟩); (· exact hx); cases hq
  case k4 => rintro q (_ | ⟨_, hq⟩); (· exact hxG); cases hq
  (((case k6 => k_is); (case k7 => k_is); (case k8 => decide)))
  case k9 => first | exact BindsTo.of_eq rfl | (refine' binds_K (D.X.keeps St) ?b1 ?b2 ?b3 ?b4 ?b5; (case b1 => exact rfl); (case b2 => k_is); (case b3 => exact rfl); (case b4 => exact rfl); (case b5 => exact rfl))
  (((case kB => exact locs rfl); (case c5 => decide); (case c2 => exact rfl); (case c3 => exact rfl); (case c4 => exact rfl)))
  intro g L h hg hL F N X T l1 hkeep hst
  have hdx : d ≠ x := by rintro rfl; rw [hx] at hd'; cases hd'
  replace hkeep : ∀ b o, s.heap.get? b = some o → b ≠ x → g.get? b = some o := fun b o e hb => hkeep b o e (by rintro q (_ | ⟨_, hq⟩); (· exact hb.symm); cases hq)
  have hdg := hkeep _ _ hd' hdx
  dsimp only
  try k_fold
  (repeat' (first | (fail_if_success (with_reducible show wpAny _ _ (exec (Stmt.For _ _ _ _ _) _) _ _ _)); (first | (k_unfold; (try dsimp only)) | (first | ((with_reducible show wpAny _ _ (call (Value.builtin "list.append") _) _ _ _); (k_here; k_dflt (refine' m_append ?k1 ?k2 ?k3 ?k4 ?k5 ?_; (case k1 => k_asm); (case k2 => k_asm); (case k3 => k_asm); (case k4 => k_upd); (case k5 => omega)); intro h' F' N'; (try k_sweep))) | ((k_here; (with_reducible show wpAny _ _ (subscriptTail _ (PySem.Expr.Slice _ _ none _) (Value.ref _) (Value.ref _)) _ _ _); k_dflt (refine' m_slice ?k1 ?k2 ?k3 ?k4 ?k5 ?k6 ?k7 ?_ ?k8; (case k1 => k_asm); (case k2 => k_asm); (case k3 => k_asm); (case k4 => (first | exact .inr (by assumption) | exact .inl (by k_mem))); (case k5 => omega); (case k6 => (first | exact .none | exact .int _ _)); (case k7 => (first | exact .none | exact .int _ _)); (case k8 => with_unfolding_all rfl)); intro D' h' F' N' l1; (try k_lt l1); (try k_sweep))) | ((with_reducible show wpAny _ _ (setAttr (Value.ref _) _ _) _ _ _); (k_here; k_dflt (refine' m_setattr ?k1 ?k2 ?k3 ?k4 ?k5 ?_; (case k1 => k_asm); (case k2 => k_asm); (case k3 => k_asm); (case k4 => (first | exact .inr (by assumption) | exact .inl (by k_mem))); (case k5 => k_upd)); intro h' F' N'; (try k_sweep))) | ((with_reducible show wpAny _ _ (getMethod (Value.ref _) _ _) _ _ _); (k_here; k_dflt (refine' m_method ?k1 ?k2 ?k3 ?k4 ?k5 ?k6 ?k7 ?k8 ?k9 ?_; (case k1 => k_asm); (case k2 => k_asm); (case k3 => k_asm); (case k4 => (first | exact .inr (by assumption) | exact .inl (by k_mem))); (case k5 => (first | exact .inr (by assumption) | exact .inl (by k_mem))); (case k6 => k_is); (case k7 => k_is); (case k8 => decide +kernel); (case k9 => rfl)))) | walk1) | (dsimp only; (first | ((with_reducible show wpAny _ _ (call (Value.builtin "list.append") _) _ _ _); (k_here; k_dflt (refine' m_append ?k1 ?k2 ?k3 ?k4 ?k5 ?_; (case k1 => k_asm); (case k2 => k_asm); (case k3 => k_asm); (case k4 => k_upd); (case k5 => omega)); intro h' F' N'; (try k_sweep))) | ((k_here; (with_reducible show wpAny _ _ (subscriptTail _ (PySem.Expr.Slice _ _ none _) (Value.ref _) (Value.ref _)) _ _ _); k_dflt (refine' m_slice ?k1 ?k2 ?k3 ?k4 ?k5 ?k6 ?k7 ?_ ?k8; (case k1 => k_asm); (case k2 => k_asm); (case k3 => k_asm); (case k4 => (first | exact .inr (by assumption) | exact .inl (by k_mem))); (case k5 => omega); (case k6 => (first | exact .none | exact .int _ _)); (case k7 => (first | exact .none | exact .int _ _)); (case k8 => with_unfolding_all rfl)); intro D' h' F' N' l1; (try k_lt l1); (try k_sweep))) | ((with_reducible show wpAny _ _ (setAttr (Value.ref _) _ _) _ _ _); (k_here; k_dflt (refine' m_setattr ?k1 ?k2 ?k3 ?k4 ?k5 ?_; (case k1 => k_asm); (case k2 => k_asm); (case k3 => k_asm); (case k4 => (first | exact .inr (by assumption) | exact .inl (by k_mem))); (case k5 => k_upd)); intro h' F' N'; (try k_sweep))) | ((with_reducible show wpAny _ _ (getMethod (Value.ref _) _ _) _ _ _); (k_here; k_dflt (refine' m_method ?k1 ?k2 ?k3 ?k4 ?k5 ?k6 ?k7 ?k8 ?k9 ?_; (case k1 => k_asm); (case k2 => k_asm); (case k3 => k_asm); (case k4 => (first | exact .inr (by assumption) | exact .inl (by k_mem))); (case k5 => (first | exact .inr (by assumption) | exact .inl (by k_mem))); (case k6 => k_is); (case k7 => k_is); (case k8 => decide +kernel); (case k9 => rfl)))) | walk1)))))
  rename Fr _ _ _ _ => F1
  rename News _ _ _ _ => N1
  refine' m_put F1 N1 X (d := d) (ps := ps) (n := n) (items := #[]) (items' := (ps.toList.take i.toNat).toArray) (n' := _) ?u hz (by simp) (.int i ti) .none (PySem.IsL.isList (n := 0) (N1 _ (.head _)).1) ?v rfl ?w
  case u => k_upd
  case v =>
    obtain ⟨j, rfl⟩ := Int.eq_ofNat_of_zero_le h0
    apply Array.toList_inj.mp
    have e1 : (sliceBounds (some (j : Int)) none none ps.size).1.toNat = j := by simp [sliceBounds]; omega
    have e2 : (max (sliceBounds (some (j : Int)) none none ps.size).1 (sliceBounds (some (j : Int)) none none ps.size).2.1).toNat = ps.size := by simp [sliceBounds]; omega
    rw [e1, e2]
    simp
  intro h2 F2 N2
  (repeat' (first | (fail_if_success (with_reducible show wpAny _ _ (exec (Stmt.For _ _ _ _ _) _) _ _ _)); (first | (k_unfold; (try dsimp only)) | (first | ((with_reducible show wpAny _ _ (call (Value.builtin "list.append") _) _ _ _); (k_here; k_dflt (refine' m_append ?k1 ?k2 ?k3 ?k4 ?k5 ?_; (case k1 => k_asm); (case k2 => k_asm); (case k3 => k_asm); (case k4 => k_upd); (case k5 => omega)); intro h' F' N'; (try k_sweep))) | ((k_here; (with_reducible show wpAny _ _ (subscriptTail _ (PySem.Expr.Slice _ _ none _) (Value.ref _) (Value.ref _)) _ _ _); k_dflt (refine' m_slice ?k1 ?k2 ?k3 ?k4 ?k5 ?k6 ?k7 ?_ ?k8; (case k1 => k_asm); (case k2 => k_asm); (case k3 => k_asm); (case k4 => (first | exact .inr (by assumption) | exact .inl (by k_mem))); (case k5 => omega); (case k6 => (first | exact .none | exact .int _ _)); (case k7 => (first | exact .none | exact .int _ _)); (case k8 => with_unfolding_all rfl)); intro D' h' F' N' l1; (try k_lt l1); (try k_sweep))) | ((with_reducible show wpAny _ _ (setAttr (Value.ref _) _ _) _ _ _); (k_here; k_dflt (refine' m_setattr ?k1 ?k2 ?k3 ?k4 ?k5 ?_; (case k1 => k_asm); (case k2 => k_asm); (case k3 => k_asm); (case k4 => (first | exact .inr (by assumption) | exact .inl (by k_mem))); (case k5 => k_upd)); intro h' F' N'; (try k_sweep))) | ((with_reducible show wpAny _ _ (getMethod (Value.ref _) _ _) _ _ _); (k_here; k_dflt (refine' m_method ?k1 ?k2 ?k3 ?k4 ?k5 ?k6 ?k7 ?k8 ?k9 ?_; (case k1 => k_asm); (case k2 => k_asm); (case k3 => k_asm); (case k4 => (first | exact .inr (by assumption) | exact .inl (by k_mem))); (case k5 => (first | exact .inr (by assumption) | exact .inl (by k_mem))); (case k6 => k_is); (case k7 => k_is); (case k8 => decide +kernel); (case k9 => rfl)))) | walk1) | (dsimp only; (first | ((with_reducible show wpAny _ _ (call (Value.builtin "list.append") _) _ _ _); (k_here; k_dflt (refine' m_append ?k1 ?k2 ?k3 ?k4 ?k5 ?_; (case k1 => k_asm); (case k2 => k_asm); (case k3 => k_asm); (case k4 => k_upd); (case k5 => omega)); intro h' F' N'; (try k_sweep))) | ((k_here; (with_reducible show wpAny _ _ (subscriptTail _ (PySem.Expr.Slice _ _ none _) (Value.ref _) (Value.ref _)) _ _ _); k_dflt (refine' m_slice ?k1 ?k2 ?k3 ?k4 ?k5 ?k6 ?k7 ?_ ?k8; (case k1 => k_asm); (case k2 => k_asm); (case k3 => k_asm); (case k4 => (first | exact .inr (by assumption) | exact .inl (by k_mem))); (case k5 => omega); (case k6 => (first | exact .none | exact .int _ _)); (case k7 => (first | exact .none | exact .int _ _)); (case k8 => with_unfolding_all rfl)); intro D' h' F' N' l1; (try k_lt l1); (try k_sweep))) | ((with_reducible show wpAny _ _ (setAttr (Value.ref _) _ _) _ _ _); (k_here; k_dflt (refine' m_setattr ?k1 ?k2 ?k3 ?k4 ?k5 ?_; (case k1 => k_asm); (case k2 => k_asm); (case k3 => k_asm); (case k4 => (first | exact .inr (by assumption) | exact .inl (by k_mem))); (case k5 => k_upd)); intro h' F' N'; (try k_sweep))) | ((with_reducible show wpAny _ _ (getMethod (Value.ref _) _ _) _ _ _); (k_here; k_dflt (refine' m_method ?k1 ?k2 ?k3 ?k4 ?k5 ?k6 ?k7 ?k8 ?k9 ?_; (case k1 => k_asm); (case k2 => k_asm); (case k3 => k_asm); (case k4 => (first | exact .inr (by assumption) | exact .inl (by k_mem))); (case k5 => (first | exact .inr (by assumption) | exact .inl (by k_mem))); (case k6 => k_is); (case k7 => k_is); (case k8 => decide +kernel); (case k9 => rfl)))) | walk1)))))
  rename Fr _ _ _ _ => F3
  rename News _ _ _ _ => N3
  have z := N3 _ (.tail _ (.head _))
  have e : (listOf (slicePick ps (some i) none none) 0) = listOf (ps.toList.drop i.toNat).toArray 0 := by
    obtain ⟨j, rfl⟩ := Int.eq_ofNat_of_zero_le h0
    rw [show ((j : Int)) = ((j : Nat) : Int) from rfl, slicePick_from ps j (by omega)]
    rfl
  exact hret _ _ _ _ (fun b o e hb => F3.keep _ _ (hkeep _ _ e hb)) (none_of hkeep (Nat.ne_of_gt (by assumption)) z.2.2) (z.1.trans (congrArg some e)) (N3 _ (.tail _ (.tail _ (.head _)))).1
theorem c_reset {x d : Addr} {ps : Array Value} {n : Nat} {hs0 : Int} {t0 : Tok} {v0 : Value} {n0 : Nat} {R : Addr} {items : Array Value} {k : Nat} (D : Gd w p loose mean mg mb G) (St : G.StaysIn s.heap) (hx : s.heap.get? x = some (acObj d ps n)) (hd' : s.heap.get? d = some (acDict hs0 t0 v0 n0)) (hxG : G.get? x = none) (hdG : G.get? d = none)
    (hz : ps.size ≤ 1000) (hR : s.heap.get? R = some (listOf items k)) (hz2 : items.size ≤ 1000)
    (hret : ∀ h' tk' n' t', (∀ b o, s.heap.get? b = some o → b ≠ x → b ≠ d → h'.get? b = some o) → h'.get? x = some (acObj d items n') → h'.get? d = some (acDict hs0 t0 (.int 0 t') n0) → Q .none { s with heap := h', toks := tk' }) :
    wpAny (model Challenge.rw_oc0165_01.row.prog w) (Am 800 600) (call (.ref 160) [.ref x, .ref R]) Q E s := by
  have fill : (hd.heap_1 w.params).In G := D.X
  revert fill
  k_fill
  intro _
  refine wpAny_call ?_
  refine' enterP (binds := [("self", .ref x), ("startval", .ref R)]) [(x, acObj d ps n), (d, acDict hs0 t0 v0 n0)] D St ?k3 ?k4 ?k6 ?k7 ?k8 ?k9 ?kB ?c5 ?c2 ?c3 ?c4 ?_
  case k3 => rintro q (_ | ⟨_, _ | ⟨_, hq⟩⟩); (· exact hx); (· exact hd'); cases hq
  case k4 => rintro q (_ | ⟨_, _ | ⟨_, hq⟩⟩); (· exact hxG); (· exact hdG); cases hq
  (((case k6 => k_is); (case k7 => k_is); (case k8 => decide)))
  case k9 => first | exact BindsTo.of_eq rfl | (refine' binds_K (D.X.keeps St) ?b1 ?b2 ?b3 ?b4 ?b5; (case b1 => exact rfl); (case b2 => k_is); (case b3 => exact rfl); (case b4 => exact rfl); (case b5 => exact rfl))
  (((case kB => exact locs rfl); (case c5 => decide); (case c2 => exact rfl); (case c3 => exact rfl); (case c4 => exact rfl)))
  intro g L h hg hL F N X T l1 hkeep hst
  have hdx : d ≠ x := by rintro rfl; rw [hx] at hd'; cases hd'
  have hRx : R ≠ x := by rintro rfl; rw [hx] at hR; cases hR
  have hRd : R ≠ d := by rintro rfl; rw [hd'] at hR; simp at hR
  replace hkeep : ∀ b o, s.heap.get? b = some o → b ≠ x → b ≠ d → g.get? b = some o := fun b o e hb hb2 => hkeep b o e (by rintro q (_ | ⟨_, _ | ⟨_, hq⟩⟩); (· exact hb.symm); (· exact hb2.symm); cases hq)
  have hRg := hkeep _ _ hR hRx hRd
  have o1 : x ≠ d := hdx.symm
  dsimp only
  try k_fold
  (repeat' (first | (fail_if_success (with_reducible show wpAny _ _ (exec (Stmt.For _ _ _ _ _) _) _ _ _)); (first | (k_unfold; (try dsimp only)) | (first | ((with_reducible show wpAny _ _ (call (Value.builtin "list.append") _) _ _ _); (k_here; k_dflt (refine' m_append ?k1 ?k2 ?k3 ?k4 ?k5 ?_; (case k1 => k_asm); (case k2 => k_asm); (case k3 => k_asm); (case k4 => k_upd); (case k5 => omega)); intro h' F' N'; (try k_sweep))) | ((k_here; (with_reducible show wpAny _ _ (subscriptTail _ (PySem.Expr.Slice _ _ none _) (Value.ref _) (Value.ref _)) _ _ _); k_dflt (refine' m_slice ?k1 ?k2 ?k3 ?k4 ?k5 ?k6 ?k7 ?_ ?k8; (case k1 => k_asm); (case k2 => k_asm); (case k3 => k_asm); (case k4 => (first | exact .inr (by assumption) | exact .inl (by k_mem))); (case k5 => omega); (case k6 => (first | exact .none | exact .int _ _)); (case k7 => (first | exact .none | exact .int _ _)); (case k8 => with_unfolding_all rfl)); intro D' h' F' N' l1; (try k_lt l1); (try k_sweep))) | ((with_reducible show wpAny _ _ (setAttr (Value.ref _) _ _) _ _ _); (k_here; k_dflt (refine' m_setattr ?k1 ?k2 ?k3 ?k4 ?k5 ?_; (case k1 => k_asm); (case k2 => k_asm); (case k3 => k_asm); (case k4 => (first | exact .inr (by assumption) | exact .inl (by k_mem))); (case k5 => k_upd)); intro h' F' N'; (try k_sweep))) | ((with_reducible show wpAny _ _ (getMethod (Value.ref _) _ _) _ _ _); (k_here; k_dflt (refine' m_method ?k1 ?k2 ?k3 ?k4 ?k5 ?k6 ?k7 ?k8 ?k9 ?_; (case k1 => k_asm); (case k2 => k_asm); (case k3 => k_asm); (case k4 => (first | exact .inr (by assumption) | exact .inl (by k_mem))); (case k5 => (first | exact .inr (by assumption) | exact .inl (by k_mem))); (case k6 => k_is); (case k7 => k_is); (case k8 => decide +kernel); (case k9 => rfl)))) | walk1) | (dsimp only; (first | ((with_reducible show wpAny _ _ (call (Value.builtin "list.append") _) _ _ _); (k_here; k_dflt (refine' m_append ?k1 ?k2 ?k3 ?k4 ?k5 ?_; (case k1 => k_asm); (case k2 => k_asm); (case k3 => k_asm); (case k4 => k_upd); (case k5 => omega)); intro h' F' N'; (try k_sweep))) | ((k_here; (with_reducible show wpAny _ _ (subscriptTail _ (PySem.Expr.Slice _ _ none _) (Value.ref _) (Value.ref _)) _ _ _); k_dflt (refine' m_slice ?k1 ?k2 ?k3 ?k4 ?k5 ?k6 ?k7 ?_ ?k8; (case k1 => k_asm); (case k2 => k_asm); (case k3 => k_asm); (case k4 => (first | exact .inr (by assumption) | exact .inl (by k_mem))); (case k5 => omega); (case k6 => (first | exact .none | exact .int _ _)); (case k7 => (first | exact .none | exact .int _ _)); (case k8 => with_unfolding_all rfl)); intro D' h' F' N' l1; (try k_lt l1); (try k_sweep))) | ((with_reducible show wpAny _ _ (setAttr (Value.ref _) _ _) _ _ _); (k_here; k_dflt (refine' m_setattr ?k1 ?k2 ?k3 ?k4 ?k5 ?_; (case k1 => k_asm); (case k2 => k_asm); (case k3 => k_asm); (case k4 => (first | exact .inr (by assumption) | exact .inl (by k_mem))); (case k5 => k_upd)); intro h' F' N'; (try k_sweep))) | ((with_reducible show wpAny _ _ (getMethod (Value.ref _) _ _) _ _ _); (k_here; k_dflt (refine' m_method ?k1 ?k2 ?k3 ?k4 ?k5 ?k6 ?k7 ?k8 ?k9 ?_; (case k1 => k_asm); (case k2 => k_asm); (case k3 => k_asm); (case k4 => (first | exact .inr (by assumption) | exact .inl (by k_mem))); (case k5 => (first | exact .inr (by assumption) | exact .inl (by k_mem))); (case k6 => k_is); (case k7 => k_is); (case k8 => decide +kernel); (case k9 => rfl)))) | walk1)))))
  rename Fr _ _ _ _ => F1
  rename News _ _ _ _ => N1
  refine' m_put F1 N1 X (d := d) (ps := ps) (n := n) (items := items) (items' := items) (n' := _) ?u hz hz2 .none .none (PySem.IsL.isList (n := k) (F1.keep _ _ hRg)) ?v rfl ?w
  case u => k_upd
  case v =>
    apply Array.toList_inj.mp
    simp [sliceBounds]
  intro h2 F2 N2
  (repeat' (first | (fail_if_success (with_reducible show wpAny _ _ (exec (Stmt.For _ _ _ _ _) _) _ _ _)); (first | (k_unfold; (try dsimp only)) | (first | ((with_reducible show wpAny _ _ (call (Value.builtin "list.append") _) _ _ _); (k_here; k_dflt (refine' m_append ?k1 ?k2 ?k3 ?k4 ?k5 ?_; (case k1 => k_asm); (case k2 => k_asm); (case k3 => k_asm); (case k4 => k_upd); (case k5 => omega)); intro h' F' N'; (try k_sweep))) | ((k_here; (with_reducible show wpAny _ _ (subscriptTail _ (PySem.Expr.Slice _ _ none _) (Value.ref _) (Value.ref _)) _ _ _); k_dflt (refine' m_slice ?k1 ?k2 ?k3 ?k4 ?k5 ?k6 ?k7 ?_ ?k8; (case k1 => k_asm); (case k2 => k_asm); (case k3 => k_asm); (case k4 => (first | exact .inr (by assumption) | exact .inl (by k_mem))); (case k5 => omega); (case k6 => (first | exact .none | exact .int _ _)); (case k7 => (first | exact .none | exact .int _ _)); (case k8 => with_unfolding_all rfl)); intro D' h' F' N' l1; (try k_lt l1); (try k_sweep))) | ((with_reducible show wpAny _ _ (setAttr (Value.ref _) _ _) _ _ _); (k_here; k_dflt (refine' m_setattr ?k1 ?k2 ?k3 ?k4 ?k5 ?_; (case k1 => k_asm); (case k2 => k_asm); (case k3 => k_asm); (case k4 => (first | exact .inr (by assumption) | exact .inl (by k_mem))); (case k5 => k_upd)); intro h' F' N'; (try k_sweep))) | ((with_reducible show wpAny _ _ (getMethod (Value.ref _) _ _) _ _ _); (k_here; k_dflt (refine' m_method ?k1 ?k2 ?k3 ?k4 ?k5 ?k6 ?k7 ?k8 ?k9 ?_; (case k1 => k_asm); (case k2 => k_asm); (case k3 => k_asm); (case k4 => (first | exact .inr (by assumption) | exact .inl (by k_mem))); (case k5 => (first | exact .inr (by assumption) | exact .inl (by k_mem))); (case k6 => k_is); (case k7 => k_is); (case k8 => decide +kernel); (case k9 => rfl)))) | walk1) | (dsimp only; (first | ((with_reducible show wpAny _ _ (call (Value.builtin "list.append") _) _ _ _); (k_here; k_dflt (refine' m_append ?k1 ?k2 ?k3 ?k4 ?k5 ?_; (case k1 => k_asm); (case k2 => k_asm); (case k3 => k_asm); (case k4 => k_upd); (case k5 => omega)); intro h' F' N'; (try k_sweep))) | ((k_here; (with_reducible show wpAny _ _ (subscriptTail _ (PySem.Expr.Slice _ _ none _) (Value.ref _) (Value.ref _)) _ _ _); k_dflt (refine' m_slice ?k1 ?k2 ?k3 ?k4 ?k5 ?k6 ?k7 ?_ ?k8; (case k1 => k_asm); (case k2 => k_asm); (case k3 => k_asm); (case k4 => (first | exact .inr (by assumption) | exact .inl (by k_mem))); (case k5 => omega); (case k6 => (first | exact .none | exact .int _ _)); (case k7 => (first | exact .none | exact .int _ _)); (case k8 => with_unfolding_all rfl)); intro D' h' F' N' l1; (try k_lt l1); (try k_sweep))) | ((with_reducible show wpAny _ _ (setAttr (Value.ref _) _ _) _ _ _); (k_here; k_dflt (refine' m_setattr ?k1 ?k2 ?k3 ?k4 ?k5 ?_; (case k1 => k_asm); (case k2 => k_asm); (case k3 => k_asm); (case k4 => (first | exact .inr (by assumption) | exact .inl (by k_mem))); (case k5 => k_upd)); intro h' F' N'; (try k_sweep))) | ((with_reducible show wpAny _ _ (getMethod (Value.ref _) _ _) _ _ _); (k_here; k_dflt (refine' m_method ?k1 ?k2 ?k3 ?k4 ?k5 ?k6 ?k7 ?k8 ?k9 ?_; (case k1 => k_asm); (case k2 => k_asm); (case k3 => k_asm); (case k4 => (first | exact .inr (by assumption) | exact .inl (by k_mem))); (case k5 => (first | exact .inr (by assumption) | exact .inl (by k_mem))); (case k6 => k_is); (case k7 => k_is); (case k8 => decide +kernel); (case k9 => rfl)))) | walk1)))))
  rename Fr _ _ _ _ => F3
  rename News _ _ _ _ => N3
  try dsimp only
  exact hret _ _ _ _ (fun b o e hb hb2 => F3.keep _ _ (hkeep _ _ e hb hb2)) (N3 _ (.head _)).1 (N3 _ (.tail _ (.head _))).1
theorem c_reset0 {x d : Addr} {ps : Array Value} {n : Nat} {hs0 : Int} {t0 : Tok} {v0 : Value} {n0 : Nat} (D : Gd w p loose mean mg mb G) (St : G.StaysIn s.heap) (hx : s.heap.get? x = some (acObj d ps n)) (hd' : s.heap.get? d = some (acDict hs0 t0 v0 n0)) (hxG : G.get? x = none) (hdG : G.get? d = none)
    (hz : ps.size ≤ 1000)
    (hret : ∀ h' tk' n' t', (∀ b o, s.heap.get? b = some o → b ≠ x → b ≠ d → h'.get? b = some o) → h'.get? x = some (acObj d #[] n') → h'.get? d = some (acDict hs0 t0 (.int 0 t') n0) → Q .none { s with heap := h', toks := tk' }) :
    wpAny (model Challenge.rw_oc0165_01.row.prog w) (Am 800 600) (call (.ref 160) [.ref x]) Q E s := by
  have fill : (hd.heap_1 w.params).In G := D.X
  revert fill
  k_fill
  intro _
  refine wpAny_call ?_
  refine' enterP (binds := [("self", .ref x), ("startval", .none)]) [(x, acObj d ps n), (d, acDict hs0 t0 v0 n0)] D St ?k3 ?k4 ?k6 ?k7 ?k8 ?k9 ?kB ?c5 ?c2 ?c3 ?c4 ?_
  case k3 => rintro q (_ | ⟨_, _ | ⟨_, hq⟩⟩); (· exact hx); (· exact hd'); cases hq
  case k4 => rintro q (_ | ⟨_, _ | ⟨_, hq⟩⟩); (· exact hxG); (· exact hdG); cases hq
  (((case k6 => k_is); (case k7 => k_is); (case k8 => decide)))
  case k9 => first | exact BindsTo.of_eq rfl | (refine' binds_K (D.X.keeps St) ?b1 ?b2 ?b3 ?b4 ?b5; (case b1 => exact rfl); (case b2 => k_is); (case b3 => exact rfl); (case b4 => exact rfl); (case b5 => exact rfl))
  (((case kB => exact locs rfl); (case c5 => decide); (case c2 => exact rfl); (case c3 => exact rfl); (case c4 => exact rfl)))
  intro g L h hg hL F N X T l1 hkeep hst
  have hdx : d ≠ x := by rintro rfl; rw [hx] at hd'; cases hd'
  replace hkeep : ∀ b o, s.heap.get? b = some o → b ≠ x → b ≠ d → g.get? b = some o := fun b o e hb hb2 => hkeep b o e (by rintro q (_ | ⟨_, _ | ⟨_, hq⟩⟩); (· exact hb.symm); (· exact hb2.symm); cases hq)
  have o1 : x ≠ d := hdx.symm
  dsimp only
  try k_fold
  (repeat' (first | (fail_if_success (with_reducible show wpAny _ _ (exec (Stmt.For _ _ _ _ _) _) _ _ _)); (first | (k_unfold; (try dsimp only)) | (first | ((with_reducible show wpAny _ _ (call (Value.builtin "list.append") _) _ _ _); (k_here; k_dflt (refine' m_append ?k1 ?k2 ?k3 ?k4 ?k5 ?_; (case k1 => k_asm); (case k2 => k_asm); (case k3 => k_asm); (case k4 => k_upd); (case k5 => omega)); intro h' F' N'; (try k_sweep))) | ((k_here; (with_reducible show wpAny _ _ (subscriptTail _ (PySem.Expr.Slice _ _ none _) (Value.ref _) (Value.ref _)) _ _ _); k_dflt (refine' m_slice ?k1 ?k2 ?k3 ?k4 ?k5 ?k6 ?k7 ?_ ?k8; (case k1 => k_asm); (case k2 => k_asm); (case k3 => k_asm); (case k4 => (first | exact .inr (by assumption) | exact .inl (by k_mem))); (case k5 => omega); (case k6 => (first | exact .none | exact .int _ _)); (case k7 => (first | exact .none | exact .int _ _)); (case k8 => with_unfolding_all rfl)); intro D' h' F' N' l1; (try k_lt l1); (try k_sweep))) | ((with_reducible show wpAny _ _ (setAttr (Value.ref _) _ _) _ _ _); (k_here; k_dflt (refine' m_setattr ?k1 ?k2 ?k3 ?k4 ?k5 ?_; (case k1 => k_asm); (case k2 => k_asm); (case k3 => k_asm); (case k4 => (first | exact .inr (by assumption) | exact .inl (by k_mem))); (case k5 => k_upd)); intro h' F' N'; (try k_sweep))) | ((with_reducible show wpAny _ _ (getMethod (Value.ref _) _ _) _ _ _); (k_here; k_dflt (refine' m_method ?k1 ?k2 ?k3 ?k4 ?k5 ?k6 ?k7 ?k8 ?k9 ?_; (case k1 => k_asm); (case k2 => k_asm); (case k3 => k_asm); (case k4 => (first | exact .inr (by assumption) | exact .inl (by k_mem))); (case k5 => (first | exact .inr (by assumption) | exact .inl (by k_mem))); (case k6 => k_is); (case k7 => k_is); (case k8 => decide +kernel); (case k9 => rfl)))) | walk1) | (dsimp only; (first | ((with_reducible show wpAny _ _ (call (Value.builtin "list.append") _) _ _ _); (k_here; k_dflt (refine' m_append ?k1 ?k2 ?k3 ?k4 ?k5 ?_; (case k1 => k_asm); (case k2 => k_asm); (case k3 => k_asm); (case k4 => k_upd); (case k5 => omega)); intro h' F' N'; (try k_sweep))) | ((k_here; (with_reducible show wpAny _ _ (subscriptTail _ (PySem.Expr.Slice _ _ none _) (Value.ref _) (Value.ref _)) _ _ _); k_dflt (refine' m_slice ?k1 ?k2 ?k3 ?k4 ?k5 ?k6 ?k7 ?_ ?k8; (case k1 => k_asm); (case k2 => k_asm); (case k3 => k_asm); (case k4 => (first | exact .inr (by assumption) | exact .inl (by k_mem))); (case k5 => omega); (case k6 => (first | exact .none | exact .int _ _)); (case k7 => (first | exact .none | exact .int _ _)); (case k8 => with_unfolding_all rfl)); intro D' h' F' N' l1; (try k_lt l1); (try k_sweep))) | ((with_reducible show wpAny _ _ (setAttr (Value.ref _) _ _) _ _ _); (k_here; k_dflt (refine' m_setattr ?k1 ?k2 ?k3 ?k4 ?k5 ?_; (case k1 => k_asm); (case k2 => k_asm); (case k3 => k_asm); (case k4 => (first | exact .inr (by assumption) | exact .inl (by k_mem))); (case k5 => k_upd)); intro h' F' N'; (try k_sweep))) | ((with_reducible show wpAny _ _ (getMethod (Value.ref _) _ _) _ _ _); (k_here; k_dflt (refine' m_method ?k1 ?k2 ?k3 ?k4 ?k5 ?k6 ?k7 ?k8 ?k9 ?_; (case k1 => k_asm); (case k2 => k_asm); (case k3 => k_asm); (case k4 => (first | exact .inr (by assumption) | exact .inl (by k_mem))); (case k5 => (first | exact .inr (by assumption) | exact .inl (by k_mem))); (case k6 => k_is); (case k7 => k_is); (case k8 => decide +kernel); (case k9 => rfl)))) | walk1)))))
  rename Fr _ _ _ _ => F1
  rename News _ _ _ _ => N1
  refine' m_put F1 N1 X (d := d) (ps := ps) (n := n) (items := #[]) (items' := #[]) (n' := _) ?u hz (by simp) .none .none (PySem.IsL.isList (n := 0) (N1 _ (.head _)).1) ?v rfl ?w
  case u => k_upd
  case v =>
    apply Array.toList_inj.mp
    simp [sliceBounds]
  intro h2 F2 N2
  (repeat' (first | (fail_if_success (with_reducible show wpAny _ _ (exec (Stmt.For _ _ _ _ _) _) _ _ _)); (first | (k_unfold; (try dsimp only)) | (first | ((with_reducible show wpAny _ _ (call (Value.builtin "list.append") _) _ _ _); (k_here; k_dflt (refine' m_append ?k1 ?k2 ?k3 ?k4 ?k5 ?_; (case k1 => k_asm); (case k2 => k_asm); (case k3 => k_asm); (case k4 => k_upd); (case k5 => omega)); intro h' F' N'; (try k_sweep))) | ((k_here; (with_reducible show wpAny _ _ (subscriptTail _ (PySem.Expr.Slice _ _ none _) (Value.ref _) (Value.ref _)) _ _ _); k_dflt (refine' m_slice ?k1 ?k2 ?k3 ?k4 ?k5 ?k6 ?k7 ?_ ?k8; (case k1 => k_asm); (case k2 => k_asm); (case k3 => k_asm); (case k4 => (first | exact .inr (by assumption) | exact .inl (by k_mem))); (case k5 => omega); (case k6 => (first | exact .none | exact .int _ _)); (case k7 => (first | exact .none | exact .int _ _)); (case k8 => with_unfolding_all rfl)); intro D' h' F' N' l1; (try k_lt l1); (try k_sweep))) | ((with_reducible show wpAny _ _ (setAttr (Value.ref _) _ _) _ _ _); (k_here; k_dflt (refine' m_setattr ?k1 ?k2 ?k3 ?k4 ?k5 ?_; (case k1 => k_asm); (case k2 => k_asm); (case k3 => k_asm); (case k4 => (first | exact .inr (by assumption) | exact .inl (by k_mem))); (case k5 => k_upd)); intro h' F' N'; (try k_sweep))) | ((with_reducible show wpAny _ _ (getMethod (Value.ref _) _ _) _ _ _); (k_here; k_dflt (refine' m_method ?k1 ?k2 ?k3 ?k4 ?k5 ?k6 ?k7 ?k8 ?k9 ?_; (case k1 => k_asm); (case k2 => k_asm); (case k3 => k_asm); (case k4 => (first | exact .inr (by assumption) | exact .inl (by k_mem))); (case k5 => (first | exact .inr (by assumption) | exact .inl (by k_mem))); (case k6 => k_is); (case k7 => k_is); (case k8 => decide +kernel); (case k9 => rfl)))) | walk1) | (dsimp only; (first | ((with_reducible show wpAny _ _ (call (Value.builtin "list.append") _) _ _ _); (k_here; k_dflt (refine' m_append ?k1 ?k2 ?k3 ?k4 ?k5 ?_; (case k1 => k_asm); (case k2 => k_asm); (case k3 => k_asm); (case k4 => k_upd); (case k5 => omega)); intro h' F' N'; (try k_sweep))) | ((k_here; (with_reducible show wpAny _ _ (subscriptTail _ (PySem.Expr.Slice _ _ none _) (Value.ref _) (Value.ref _)) _ _ _); k_dflt (refine' m_slice ?k1 ?k2 ?k3 ?k4 ?k5 ?k6 ?k7 ?_ ?k8; (case k1 => k_asm); (case k2 => k_asm); (case k3 => k_asm); (case k4 => (first | exact .inr (by assumption) | exact .inl (by k_mem))); (case k5 => omega); (case k6 => (first | exact .none | exact .int _ _)); (case k7 => (first | exact .none | exact .int _ _)); (case k8 => with_unfolding_all rfl)); intro D' h' F' N' l1; (try k_lt l1); (try k_sweep))) | ((with_reducible show wpAny _ _ (setAttr (Value.ref _) _ _) _ _ _); (k_here; k_dflt (refine' m_setattr ?k1 ?k2 ?k3 ?k4 ?k5 ?_; (case k1 => k_asm); (case k2 => k_asm); (case k3 => k_asm); (case k4 => (first | exact .inr (by assumption) | exact .inl (by k_mem))); (case k5 => k_upd)); intro h' F' N'; (try k_sweep))) | ((with_reducible show wpAny _ _ (getMethod (Value.ref _) _ _) _ _ _); (k_here; k_dflt (refine' m_method ?k1 ?k2 ?k3 ?k4 ?k5 ?k6 ?k7 ?k8 ?k9 ?_; (case k1 => k_asm); (case k2 => k_asm); (case k3 => k_asm); (case k4 => (first | exact .inr (by assumption) | exact .inl (by k_mem))); (case k5 => (first | exact .inr (by assumption) | exact .inl (by k_mem))); (case k6 => k_is); (case k7 => k_is); (case k8 => decide +kernel); (case k9 => rfl)))) | walk1)))))
  rename Fr _ _ _ _ => F3
  rename News _ _ _ _ => N3
  try dsimp only
  exact hret _ _ _ _ (fun b o e hb hb2 => F3.keep _ _ (hkeep _ _ e hb hb2)) (N3 _ (.tail _ (.head _))).1 (N3 _ (.tail _ (.tail _ (.head _)))).1
end
end Mine
end

section
-- Gen
example : True := by w_top off; trivial
open PySem PySem.W PyProof.Rows PySem.Calls PySem.Spec
set_option maxRecDepth 100000
namespace Mine
/-- something that holds items, whatever its class -/
noncomputable def IsSeq (h : Heap) (l : Addr) (items : Array Value) : Prop := ∃ o, h.get? l = some o ∧ ∃ n, o.data = .seq items n
theorem IsSeq.at {h h' : Heap} {l : Addr} {items : Array Value} (x : IsSeq h l items) (k : ∀ o, h.get? l = some o → h'.get? l = some o) : IsSeq h' l items := let ⟨o, ho, r⟩ := x; ⟨o, k o ho, r⟩
section
variable {prog : Program} {w : World} {A : Around} {E : Value → Shared → Prop} {s : Shared}
theorem nextSeq_item {it l : Addr} {i : Nat} {items} {x : Value} {Q : Option Value → Shared → Prop} (hit : s.heap.IsListIter it l i)
    (hl : IsSeq s.heap l items) (hx : items[i]? = some x)
    (hQ : ∀ h', h'.IsListIter it l (i + 1) → Heap.SameBut it s.heap h' → Q (some x) { s with heap := h' }) :
    wpAny (model prog w) A (pyNext (.ref it)) Q E s := by
  obtain ⟨o, ho, hc, hd⟩ := id hit
  obtain ⟨ol, hol, nl, hdl⟩ := hl
  unfold pyNext
  refine wpAny_bind (wpAny_attempt (wpAny_callSpecial?_slot (name := Str.ofString "__next__") hit.typeIs slot_listiter_next
    (wpAny_call_entry slot_listiter_next hit.typeIs entry_listiter_next ?_ (args_listiter_next _))))
  show wpAny _ _ (field (.ref it) 0 >>= _) _ _ s
  refine wpAny_bind (wpAny_field ho hd (x := .ref l) rfl ?_)
  show wpAny _ _ (if (Value.ref l == Value.none) = true then _ else _) _ _ s
  rw [if_neg (show ¬ ((Value.ref l == Value.none) = true) from Bool.false_ne_true)]
  show wpAny _ _ (field (.ref it) 1 >>= _) _ _ s
  refine wpAny_bind (wpAny_field ho hd (x := .int i 0) rfl ?_)
  show wpAny _ _ (seqItems? (.ref l) >>= _) _ _ s
  refine wpAny_bind (wpAny_seqItems hol hdl ?_)
  simp only [Int.toNat_natCast, hx]
  refine wpAny_bind (wpAny_setField ho hd (by simp) (wpAny_pure ⟨x, rfl, wpAny_pure (hQ _ ?_ (Heap.SameBut.update ..))⟩))
  exact ⟨_, Heap.get?_update_self _ ho (Obj.isFreed_of_fields (Obj.data_mapFields hd _)), (Obj.cls_mapFields ..).trans hc, by
    rw [Obj.data_mapFields hd]; simp [rawInt]⟩
theorem nextSeq_end {it l : Addr} {i : Nat} {items} {Q : Option Value → Shared → Prop} (hh : A.handled = none)
    (hit : s.heap.IsListIter it l i) (hl : IsSeq s.heap l items) (hx : items[i]? = none)
    (hQ : ∀ h', Heap.ExtBut it s.heap h' → Q none { s with heap := h' }) : wpAny (model prog w) A (pyNext (.ref it)) Q E s := by
  obtain ⟨o, ho, hc, hd⟩ := id hit
  obtain ⟨ol, hol, nl, hdl⟩ := hl
  unfold pyNext
  refine wpAny_bind (wpAny_attempt (wpAny_callSpecial?_slot (name := Str.ofString "__next__") hit.typeIs slot_listiter_next
    (wpAny_call_entry slot_listiter_next hit.typeIs entry_listiter_next ?_ (args_listiter_next _))))
  show wpAny _ _ (field (.ref it) 0 >>= _) _ _ s
  refine wpAny_bind (wpAny_field ho hd (x := .ref l) rfl ?_)
  show wpAny _ _ (if (Value.ref l == Value.none) = true then _ else _) _ _ s
  rw [if_neg (show ¬ ((Value.ref l == Value.none) = true) from Bool.false_ne_true)]
  show wpAny _ _ (field (.ref it) 1 >>= _) _ _ s
  refine wpAny_bind (wpAny_field ho hd (x := .int i 0) rfl ?_)
  show wpAny _ _ (seqItems? (.ref l) >>= _) _ _ s
  refine wpAny_bind (wpAny_seqItems hol hdl ?_)
  simp only [Int.toNat_natCast, hx]
  refine wpAny_bind (wpAny_rule (wpAny_bind (wpAny_setField ho hd (by simp) ?_)))
  show wpAny _ _ (newExc (.type "StopIteration") [] >>= _) _ _ _
  refine wpAny_bind ?_
  simp only [newExc, newTuple]
  refine wpAny_bind (wpAny_newObj_type ?_ (by size_fits))
  refine wpAny_bind (m := firstArgMember _ _) (wpAny_of_eq (a := Value.none) (by first | rfl | (simp only [firstArgMember]; rfl)) ?_)
  refine wpAny_newObj_type ?_ (by size_fits)
  simp only [raiseNew]
  refine wpAny_bind (wpAny_handled ?_)
  rw [show A.in1.handled = none from hh]
  refine wpAny_bind (wpAny_pure (wpAny_throw ?_))
  refine wpAny_bind (wpAny_isInstance (T := "StopIteration") (b := true) ⟨_, Heap.get?_push_size _ rfl, rfl⟩ isSubtype_stop ?_)
  exact wpAny_pure (hQ _ (((Heap.SameBut.update ..).extBut.push _).push _))
end
theorem walksU_seq {prog : Program} {w : World} {A : Around} (hh : A.handled = none) (I ax : Addr) (hne : ax ≠ I) (items : Array Value) (Ts : Nat → Addr) (vals : Nat → Array Value)
    (hit : ∀ j, j < items.size → items[j]? = some (.ref (Ts j))) (hTI : ∀ j, j < items.size → Ts j ≠ I) :
    WalksU prog w A I (I :: ax :: (List.range items.size).map Ts) [I] items.size (fun j v => v = vals j)
      (fun j h => h.IsListIter I ax j ∧ IsSeq h ax items ∧ ∀ k, k < items.size → h.IsTuple (Ts k) (vals k))
      (fun j T h => (j < items.size ∧ T = Ts j) ∧ h.IsListIter I ax (j + 1) ∧ IsSeq h ax items ∧ ∀ k, k < items.size → h.IsTuple (Ts k) (vals k)) where
  sub := fun b hb => by simp at hb; simp [hb]
  frame := fun _ _ _ st hk => ⟨st.1.at fun o e => hk I (by simp) o e, st.2.1.at fun o e => hk ax (by simp) o e,
    fun k hk' => (st.2.2 k hk').at fun o e => hk (Ts k) (List.mem_cons_of_mem _ (List.mem_cons_of_mem _ (List.mem_map.mpr ⟨k, List.mem_range.mpr hk', rfl⟩))) o e⟩
  item := fun i s Q E hi st hQ => by
    refine nextSeq_item st.1 st.2.1 (x := .ref (Ts i)) (hit i hi) fun h' hit' hs' => ?_
    have tup : ∀ k, k < items.size → h'.IsTuple (Ts k) (vals k) := fun k hk' => (st.2.2 k hk').extBut hs'.extBut (hTI k hk')
    exact hQ (Ts i) (vals i) h' s.toks rfl (tup i hi) ⟨⟨hi, rfl⟩, hit', st.2.1.at fun o e => hs'.extBut _ o hne e, tup⟩ fun b o hb e => hs'.extBut b o (fun h => hb (by simp [h])) e
  go := fun _ _ _ _ _ s Q _ hm hQ => wpAny_letOwnedTupleGo_listiter hm.2.1 (hQ s.heap hm.2 fun _ _ _ e => e)
  apart := fun j T _ hm hmem => by
    rcases List.mem_cons.mp hmem with e | e
    · exact hTI j hm.1.1 (hm.1.2 ▸ e)
    · cases e
  done := fun s Q E st hQ => nextSeq_end hh st.1 st.2.1 (by simp) fun h' he' => hQ h' s.toks fun b o hb e => he' b o (fun h => hb (by simp [h])) e
  self := fun _ _ _ _ st hQ => wpAny_pyIter_listiter st.1 hQ
section
variable {w : World} {A : Around} {E : Value → Shared → Prop} {s : Shared} {x d : Addr} {ps : Array Value} {n : Nat}
theorem k_iter : findIn (hd.heap_1 w.params) (.ref 178) "__iter__" = some (some (.builtin "list.__iter__")) := by kernel_rfl
theorem ac_ifBound {name : Str} {i : String} {refuse : Sem Value} {Q : Option Value → Shared → Prop} (X : (hd.heap_1 w.params).In s.heap) (hx : s.heap.get? x = some (acObj d ps n))
    (hf : findIn (hd.heap_1 w.params) (.ref 178) name = some (some (.builtin i))) (hb : bindSpecial (.builtin i) (.ref x) = pure (.builtin i, [.ref x]))
    (hc : wpAny (model Challenge.rw_oc0165_01.row.prog w) A (call (.builtin i) [.ref x]) (fun v => Q (some v)) E s) : wpAny (model Challenge.rw_oc0165_01.row.prog w) A (callSpecialIfBoundUnlessNone? (.ref x) name refuse) Q E s := by
  simp only [callSpecialIfBoundUnlessNone?, bindSpecialIfBound?, specialOf]
  refine wpAny_holding (wpAny_bind (wpAny_bind (wpAny_bind ((ac_type hx).here ((looks_findIn X hf).here ?_)))))
  simp only [hb]
  refine wpAny_bind (wpAny_askSetting (wpAny_ite ?_))
  have fin : wpAny (model Challenge.rw_oc0165_01.row.prog w) A (if (Value.builtin i == Value.none) = true then (refuse >>= fun v => pure (some v)) else (call (.builtin i) [.ref x] >>= fun v => pure (some v))) Q E s := by
    simp only [builtin_beq_none, Bool.false_eq_true, if_false]
    exact wpAny_bind (wpAny_mono hc (fun v s' h' => wpAny_pure h') fun _ _ h' => h')
  split
  · exact wpAny_bind (wpAny_pure (wpAny_pure fin))
  · exact wpAny_tryCatch (wpAny_bind (wpAny_pure (wpAny_pure fin)))
theorem ac_iter {Q : Value → Shared → Prop} (X : (hd.heap_1 w.params).In s.heap) (hx : s.heap.get? x = some (acObj d ps n))
    (hQ : Q (.ref s.heap.objs.size) { s with heap := s.heap.push { cls := .type "list_iterator", data := .fields #[.ref x, .int 0 0] } }) :
    wpAny (model Challenge.rw_oc0165_01.row.prog w) A (pyIter (.ref x)) Q E s := by
  unfold pyIter specialOf
  refine wpAny_bind (wpAny_bind ((ac_type hx).here ((looks_findIn X k_iter).here ?_)))
  show wpAny _ A (callSpecialIfBoundUnlessNone? (.ref x) "__iter__" _ >>= _) Q E s
  refine wpAny_bind (ac_ifBound X hx k_iter (PySem.F.slot_list_iter.bind _) (b_iter X hx ?_))
  exact wpAny_bind (wpAny_specialOf (T := "list_iterator") ⟨_, Heap.get?_push_size _ rfl, rfl⟩ slot_listiter_next.lookup (wpAny_pure hQ))
end
section
variable {prog : Program} {w : World} {A : Around} {I : Addr} {fp wr : List Addr} {G : Array GenState → Array GenState → Prop} {n : Nat} {P : Nat → Value → Prop} {St : Nat → Shared → Prop} {R : Result → Shared → Prop}
theorem sum_loopC (W : WalksS prog w A.in1 I fp wr G n P St) (val : Nat → Int) (c0 : Int) (hval : ∀ i v, P i v → ∃ t, v = .int (val i) t) (hfit : ∀ j, j < n → InLong (val j) ∧ InLong (c0 + preSum val (j + 1))) (S : Addr) (hSf : S ∉ fp) :
    ∀ (k i : Nat) (s : Shared) (tA : Tok) (c : Nat), n - i = k → i ≤ n → St i s → s.heap.get? S = some { cls := .type "list", dict := none, data := .seq #[.int (c0 + preSum val i) tA] c, slots := #[] } →
    (∀ s' t', Moved (S :: wr) G s s' → R (.ok (.ret (.int (c0 + preSum val n) t'))) s') → codeAny (model prog w) A (.builtin "sum.loop" ⟨[.ref I, .ref S, rawInt 0, rawInt 0], []⟩) R s := by
  have hSw : S ∉ wr := fun h => hSf (W.sub _ h)
  have hsub : ∀ b ∈ wr, b ∈ S :: wr := fun b hb => List.mem_cons_of_mem _ hb
  intro k
  induction k with
  | zero =>
    intro i s tA c hk hi hst hS hR
    have hin : i = n := by omega
    subst hin
    refine codeAny_builtin PySem.F.entry_sum_loop ?_
    rw [Around.under_plainId PySem.F.plain_sum_loop _]
    show wpAny _ A.in1 (seqItems? (.ref S) >>= _) _ _ s
    refine wpAny_bind (wpAny_seqItems hS rfl ?_)
    show wpAny _ A.in1 (tryCatch (pyNext (.ref I)) _ >>= _) _ _ s
    refine wpAny_bind (wpAny_tryCatch (W.done s _ _ hst fun s' hm => ?_))
    exact wpAny_pure (hR s' tA (hm.mono hsub))
  | succ k ih =>
    intro i s tA c hk hi hst hS hR
    have hlt : i < n := by omega
    refine codeAny_builtin PySem.F.entry_sum_loop ?_
    rw [Around.under_plainId PySem.F.plain_sum_loop _]
    show wpAny _ A.in1 (seqItems? (.ref S) >>= _) _ _ s
    refine wpAny_bind (wpAny_seqItems hS rfl ?_)
    show wpAny _ A.in1 (tryCatch (pyNext (.ref I)) _ >>= _) _ _ s
    refine wpAny_bind (wpAny_tryCatch (W.item i s _ _ hlt hst fun v s' hP hst' hm => ?_))
    obtain ⟨t, rfl⟩ := hval i v hP
    have hS' := hm.heap S _ hSw hS
    obtain ⟨⟨f1, f2⟩, f3, f4⟩ := hfit i hlt
    have hc : ((decide (-(2 ^ 63) ≤ val i) && decide (val i < 2 ^ 63)) && (decide (-(2 ^ 63) ≤ c0 + preSum val i + val i) && decide (c0 + preSum val i + val i < 2 ^ 63))) = true := by
      simp only [preSum] at f3 f4
      simp only [Bool.and_eq_true, decide_eq_true_eq]
      refine ⟨⟨f1, f2⟩, ?_, ?_⟩ <;> omega
    show wpAny _ A.in1 (if (_ : Bool) = true then (mkInt (c0 + preSum val i + val i) >>= _) else _) _ _ _
    split
    · refine wpAny_bind (wpAny_mkInt ?_)
      show wpAny _ A.in1 (updateSeq S (fun _ => #[.int (c0 + preSum val i + val i) s'.toks]) >>= _) _ _ _
      refine wpAny_bind ?_
      refine wpAny_updateSeq hS' rfl (wpAny_pure ⟨plainId_quiet PySem.F.plain_sum_loop _, ih (i + 1) _ s'.toks _ (by omega) hlt (W.frame _ s' _ _ hst' (by first | exact Nat.le_refl _ | exact Nat.le_succ _ | omega) fun b hb o e => ?_) ((Heap.get?_update_self _ hS' rfl).trans (by simp only [preSum, Int.add_assoc]; rfl)) fun s'' t'' hm'' => ?_⟩)
      · exact (Heap.get?_update_other _ _ (fun h : S = b => hSf (by rw [h]; exact hb))).trans e
      · refine hR s'' t'' (Moved.trans W.gtrans ((hm.mono hsub).then_heap (by first | exact Nat.le_refl _ | exact Nat.le_succ _ | omega) fun b o hb e => ?_) hm'')
        exact (Heap.get?_update_other _ _ (fun h : S = b => hb (by rw [h]; exact List.mem_cons_self))).trans e
    · rename_i hneg
      exact absurd hc hneg
theorem args_sum2 (a b : Value) : argsOk "sum" ⟨[a, b], []⟩ := by unfold argsOk; kernel_rfl
theorem sum_startC {E : Value → Shared → Prop} {s : Shared} {x : Value} {c0 : Int} {t0 : Tok} {Q : Value → Shared → Prop} (hc0 : InLong c0)
    (h : wpAny (model prog w) A.in1 (pyIter x) (fun it s₂ => ∃ I fp wr G n P St val, it = .ref I ∧ WalksS prog w A.in1 I fp wr G n P St ∧ St 0 s₂ ∧ (∀ b ∈ fp, b < s₂.heap.objs.size) ∧
      (∀ i v, P i v → ∃ t, v = .int (val i) t) ∧ (∀ j, j < n → InLong (val j) ∧ InLong (c0 + preSum val (j + 1))) ∧
      ∀ s' t', Moved wr G s₂ s' → Q (.int (c0 + preSum val n) t') s') E s) :
    wpAny (model prog w) A (call (.builtin "sum") [x, .int c0 t0]) Q E s := by
  refine call_function_tree PySem.F.kind_sum PySem.F.plain_sum PySem.F.entry_sum (args_sum2 _ _) ?_
  unfold Builtin.«sum»
  simp only [List.length_cons, List.length_nil]
  rw [if_neg (by decide)]
  refine wpAny_bind (wpAny_of_eq (show Builtin.Builtins.bindParams "sum" ["start"] 0 ⟨[.int c0 t0], []⟩ = pure [some (.int c0 t0)] from rfl) ?_)
  refine wpAny_bind (wpAny_mono h (fun it s₂ h₂ => ?_) fun _ _ e => e)
  obtain ⟨I, fp, wr, G, n, P, St, val, rfl, W, hst, hfp, hval, hfit, hQ⟩ := h₂
  have hfl : (decide (-(2 ^ 63) ≤ c0) && decide (c0 < 2 ^ 63)) = true := by
    obtain ⟨h1, h2⟩ := hc0
    simp only [Bool.and_eq_true, decide_eq_true_eq]
    exact ⟨h1, h2⟩
  dsimp only
  split
  rotate_left
  · rename_i hneg
    exact absurd hfl hneg
  refine wpAny_bind (wpAny_rule (wpAny_bind (wpAny_mkInt ?_)))
  refine wpAny_bind (wpAny_pure ?_)
  simp only [List.forIn_cons, List.forIn_nil]
  refine wpAny_bind (wpAny_bind (wpAny_bind (wpAny_isInstance (T := "int") (b := false) (typeIs_int _ _ _) PySem.sub_int_str ?_)))
  simp only [Bool.false_eq_true, if_false]
  refine wpAny_pure (wpAny_bind (wpAny_bind (wpAny_isInstance (T := "int") (b := false) (typeIs_int _ _ _) sub_int_bytes ?_)))
  simp only [Bool.false_eq_true, if_false]
  refine wpAny_pure (wpAny_bind (wpAny_bind (wpAny_isInstance (T := "int") (b := false) (typeIs_int _ _ _) sub_int_bytearray ?_)))
  simp only [Bool.false_eq_true, if_false]
  refine wpAny_pure (wpAny_pure ?_)
  refine wpAny_bind (wpAny_newObj_type ?_)
  have hSf : s₂.heap.objs.size ∉ fp := fun hm => Nat.lt_irrefl _ (hfp _ hm)
  refine wpAny_pure ⟨plainId_quiet PySem.F.plain_sum_loop _, sum_loopC W val c0 hval hfit s₂.heap.objs.size hSf n 0 _ s₂.toks 0 rfl (Nat.zero_le _)
    (W.frame 0 s₂ _ _ hst (by first | exact Nat.le_refl _ | exact Nat.le_succ _ | omega) fun b _ o e => Heap.get?_push_of_some _ e) ((Heap.get?_push_size _ rfl).trans (by simp only [preSum, Int.add_zero])) fun s' t' hm => ?_⟩
  exact hQ s' t' (hm.drop_new (by first | exact Nat.le_refl _ | exact Nat.le_succ _ | omega))
end
end Mine
end

section
-- Gen2
example : True := by w_top off; trivial
open PySem PySem.W PyProof.Rows PySem.Calls PySem.Spec
set_option maxRecDepth 100000
namespace Mine
noncomputable def Each (n : Nat) (F : Nat → Value → Prop) : Nat → Value → Prop := fun j y => ∃ i, (List.range n)[j]? = some i ∧ F i y
theorem Each.get {n : Nat} {F : Nat → Value → Prop} {j : Nat} {y : Value} (h : Each n F j y) : F j y := by
  obtain ⟨i, e, h⟩ := h
  obtain ⟨h1, h2⟩ := List.getElem?_eq_some_iff.mp e
  simp at h2
  exact h2 ▸ h
theorem passing_from (n : Nat) : ∀ k i, n - i = k → i ≤ n → passing (fun _ => true) n i = List.range' i k
  | 0, i, e, h => by
    have : i = n := by omega
    subst this
    rw [passing_end]; rfl
  | k + 1, i, e, h => by
    rw [passing_true (by omega) rfl, passing_from n k (i + 1) (by omega) (by omega)]
    rfl
theorem passing_all (n : Nat) : passing (fun _ => true) n 0 = List.range n := by rw [passing_from n n 0 (by omega) (by omega), List.range_eq_range']
section
variable {w : World} {p : Program} {loose : List Str} {mean : ExcName → Option Value} {mg mb : Str → Option Value} {G : Heap} {A : Around} {E : Value → Shared → Prop} {s : Shared} {x d : Addr} {ps : Array Value} {n : Nat}
/-- a generator over the pairs of an accumulator is made; the table of its code may grow -/
theorem gen_acc {env : Env} {elt iter : Expr} {xa xb : Str} {pa pb pt : Pos} {kt : Nat} {scope : Scope} {cl : List (Str × Addr)} {pos : Pos} {Q : Value → Shared → Prop} {c P : Addr} {tb : Array Value} {Ts : Nat → Addr} {va vb : Nat → Value} {F : Nat → Value → Prop}
    (T : Top p loose mean mg mb G) (S : G.StaysIn s.heap) (hglob : env.globals = mainGlobals) (hcode : env.code = .ref c) (hcd : CodeHd s.heap c P) (hP : s.heap.get? P = some (tabObj tb)) (htr : TriplesOk tb.toList) (hPG : G.get? P = none) (hbare : AllBare s.gens)
    (X : (hd.heap_1 w.params).In s.heap) (hx : s.heap.get? x = some (acObj d ps n)) (hself : ∀ (Q : Value → Shared → Prop), Q (.ref x) s → wpAny (model Challenge.rw_oc0165_01.row.prog w) A (eval iter env) Q E s)
    (hit : ∀ j, j < ps.size → ps[j]? = some (.ref (Ts j))) (htup : ∀ j, j < ps.size → s.heap.IsTuple (Ts j) #[va j, vb j])
    (hh : A.handled = none) (hco : scope.isCoroutine = false) (hclos : closureFor scope env = pure cl) (hcell : ∀ y ∈ scope.names, y.2 ≠ .cell) (h0 : scope.names.lookup (".0" : Str) = some NameKind.local)
    (hxa : scope.names.lookup xa = some .local) (hxb : scope.names.lookup xb = some .local) (hab : xa ≠ xb) (hkind : scope.kind = .function) (hroom : A.depth < recursionLimit)
    (hq : ∀ (code : Value) (h₃ href : Heap), (∀ b o, b ≠ P → s.heap.get? b = some o → h₃.get? b = some o) → s.heap.objs.size < h₃.objs.size → (∀ b o, h₃.get? b = some o → href.get? b = some o) →
      QuietGenT Challenge.rw_oc0165_01.row.prog w (genEnv scope cl h₃.objs.size code builtinsNs env) xa xb [] elt (List.range h₃.objs.size) [s.heap.objs.size] (fun i v => v = #[va i, vb i]) (fun _ => true) F href)
    (hQ : ∀ a tb' s₅ fp wr g St, TriplesOk tb'.toList → s₅.heap.get? P = some (tabObj tb') → (∀ b o, b ≠ P → s.heap.get? b = some o → s₅.heap.get? b = some o) → AllBare s₅.gens → s₅.drawn = s.drawn → s₅.os = s.os →
      WalksS Challenge.rw_oc0165_01.row.prog w A.in4 a fp wr (GenOnlyQ g) ps.size (Each ps.size F) St → St 0 s₅ → (∀ i s', St i s' → s'.TypeIs (.ref a) "generator") → a ∈ fp → (∀ b ∈ fp, b < s₅.heap.objs.size) → (∀ b ∈ wr, s.heap.objs.size ≤ b) → Q (.ref a) s₅)
    (hs : ∀ x, genFold iter env x = pure x) :
    wpAny (model Challenge.rw_oc0165_01.row.prog w) A (eval (.GeneratorExp elt [⟨.Tuple [.Name xa pa, .Name xb pb] kt pt, iter, [], 0⟩] scope pos) env) Q E s := by
  obtain ⟨hp, gs, dr, tk, os⟩ := s
  have hxlt := Heap.lt_size hx
  have hPlt := Heap.lt_size hP
  have k1 : ∀ b o, hp.get? b = some o → (hp.push { cls := .type "list_iterator", data := .fields #[.ref x, .int 0 0] }).get? b = some o := fun b o e => Heap.get?_push_of_some _ e
  obtain ⟨bm, ob, hbm, hne0, hbo, hcls, hdict, hdata⟩ := T.bmain
  refine wpAny_GeneratorExp_walksQT hh hco hclos hcell h0 hxa hxb hab hkind hroom (hself _ (ac_iter X hx ⟨(T.nolimit.keeps S).push _, ?_⟩)) hs
  -- what follows, with the code at hand
  have fin : ∀ (code : Value) (h₃ : Heap) (tk₃ : Nat) (tb' : Array Value), TriplesOk tb'.toList → h₃.get? P = some (tabObj tb') → (∀ b o, b ≠ P → (hp.push { cls := .type "list_iterator", data := .fields #[.ref x, .int 0 0] }).get? b = some o → h₃.get? b = some o) → hp.objs.size < h₃.objs.size →
      wpAny (model Challenge.rw_oc0165_01.row.prog w) A (builtinsFor env.globals env.builtins) (fun bi s₄ =>
        ∃ I fp wr n₀ Pt St₀ Mid pz F, Value.ref hp.objs.size = .ref I ∧ (∀ A' : Around, A'.handled = none → WalksU Challenge.rw_oc0165_01.row.prog w A' I fp wr n₀ Pt St₀ Mid) ∧ (∀ i vals, Pt i vals → ∃ va vb, vals = #[va, vb]) ∧ St₀ 0 s₄.heap ∧ (∀ b ∈ fp, b < s₄.heap.objs.size) ∧ s₄.heap.NoLimit ∧ cStatics ∉ wr ∧
          (∀ href : Heap, (∀ b o, s₄.heap.get? b = some o → href.get? b = some o) →
            QuietGenT Challenge.rw_oc0165_01.row.prog w (genEnv scope cl s₄.heap.objs.size code bi env) xa xb [] elt (List.range s₄.heap.objs.size) wr Pt pz F href) ∧
          (∀ a h₅ tk gs, gs.bare = true → s₄.heap.objs.size < a → h₅.objs.size = a + 1 → (∀ b o, s₄.heap.get? b = some o → h₅.get? b = some o) →
            WalksS Challenge.rw_oc0165_01.row.prog w A.in4 a (a :: s₄.heap.objs.size :: List.range s₄.heap.objs.size) (s₄.heap.objs.size :: wr) (GenOnlyQ s₄.gens.size) (passing pz n₀ 0).length
              (fun j y => ∃ i, (passing pz n₀ 0)[j]? = some i ∧ F i y) (GenAt Challenge.rw_oc0165_01.row.prog w A.in4 a s₄.gens.size s₄.heap.objs.size (List.range s₄.heap.objs.size) wr pz n₀ F) →
            GenAt Challenge.rw_oc0165_01.row.prog w A.in4 a s₄.gens.size s₄.heap.objs.size (List.range s₄.heap.objs.size) wr pz n₀ F 0 { s₄ with gens := s₄.gens.push gs, toks := tk, heap := h₅ } →
            Q (.ref a) { s₄ with gens := s₄.gens.push gs, toks := tk, heap := h₅ })) E ⟨h₃, gs, dr, tk₃, os⟩ := by
    intro code h₃ tk₃ tb' htr' hP₃ hk₃ hlt₃
    have hk0 : ∀ b o, b ≠ P → hp.get? b = some o → h₃.get? b = some o := fun b o hb e => hk₃ b o hb (k1 b o e)
    have hGP : ∀ b o, G.get? b = some o → b ≠ P := fun b o e h => by rw [h, hPG] at e; cases e
    have S₃ : G.StaysIn h₃ := fun b o e => hk0 b o (hGP b o e) (S b o e)
    have hl₃ : h₃.NoLimit := T.nolimit.keeps S₃
    rw [hglob]
    refine wpAny_builtinsFor (T.g.keeps S₃) hbm hne0 (S₃ _ _ hbo) hcls hdict hdata ?_
    have hxP : x ≠ P := by rintro rfl; rw [hx] at hP; cases hP
    have hTP : ∀ j, j < ps.size → Ts j ≠ P := fun j hj e => by
      obtain ⟨o, ho, hc, _⟩ := htup j hj
      rw [e, hP] at ho; cases ho; cases hc
    have hTlt : ∀ j, j < ps.size → Ts j < hp.objs.size := fun j hj => by
      obtain ⟨o, ho, _⟩ := htup j hj
      exact Heap.lt_size ho
    have hIP : hp.objs.size ≠ P := Nat.ne_of_gt hPlt
    have hcs : cStatics < hp.objs.size := by
      obtain ⟨_, hn, _⟩ := T.nolimit.keeps S
      exact hn.lt
    refine ⟨hp.objs.size, _, _, ps.size, (fun j v => v = #[va j, vb j]), _, _, (fun _ => true), F, rfl, fun A' hA => walksU_seq hA hp.objs.size x (Nat.ne_of_lt hxlt) ps Ts (fun j => #[va j, vb j]) hit (fun j hj => Nat.ne_of_lt (hTlt j hj)), (fun i vals h => ⟨_, _, h⟩),
      ⟨⟨_, hk₃ _ _ hIP (Heap.get?_push_size _ rfl), rfl, rfl⟩, ⟨_, hk0 _ _ hxP hx, _, rfl⟩, fun j hj => (htup j hj).at fun o e => hk0 _ _ (hTP j hj) e⟩, ?_, hl₃, ?_, fun href hr => hq code h₃ href hk0 hlt₃ hr, fun a h₅ tk gs' hgb hag hsz₅ hk₅ W hat => ?_⟩
    · intro b hb
      show b < h₃.objs.size
      rcases List.mem_cons.mp hb with rfl | hb
      · exact hlt₃
      · rcases List.mem_cons.mp hb with rfl | hb
        · exact Nat.lt_trans hxlt hlt₃
        · obtain ⟨j, hj, rfl⟩ := List.mem_map.mp hb
          exact Nat.lt_trans (hTlt j (List.mem_range.mp hj)) hlt₃
    · intro hm
      rcases List.mem_cons.mp hm with e | hm
      · exact absurd hcs (by rw [e]; exact Nat.lt_irrefl _)
      · cases hm
    · have hW : WalksS Challenge.rw_oc0165_01.row.prog w A.in4 a (a :: h₃.objs.size :: List.range h₃.objs.size) (h₃.objs.size :: [hp.objs.size]) (GenOnlyQ gs.size) ps.size (Each ps.size F) (GenAt Challenge.rw_oc0165_01.row.prog w A.in4 a gs.size h₃.objs.size (List.range h₃.objs.size) [hp.objs.size] (fun _ => true) ps.size F) := by
        have := W
        rw [passing_all, List.length_range] at this
        exact this
      refine hQ a tb' _ _ _ _ _ htr' (hk₅ _ _ hP₃) (fun b o hb e => hk₅ _ _ (hk0 b o hb e)) (hbare.push hgb) rfl rfl hW hat (fun i s' st => st.1.typeIs) List.mem_cons_self ?_ ?_
      · intro b hb
        show b < h₅.objs.size
        rw [hsz₅]
        rcases List.mem_cons.mp hb with rfl | hb
        · exact Nat.lt_succ_self _
        · rcases List.mem_cons.mp hb with rfl | hb
          · exact Nat.lt_succ_of_lt hag
          · exact Nat.lt_succ_of_lt (Nat.lt_trans (List.mem_range.mp hb) hag)
      · intro b hb
        rcases List.mem_cons.mp hb with rfl | hb
        · exact Nat.le_of_lt hlt₃
        · rcases List.mem_cons.mp hb with rfl | hb
          · exact Nat.le_refl _
          · cases hb
  have hcd1 := (hcd.code hP htr).push { cls := .type "list_iterator", data := .fields #[.ref x, .int 0 0] }
  have htab1 := (hcd.tab hP).push { cls := .type "list_iterator", data := .fields #[.ref x, .int 0 0] }
  have hsz1 : hp.objs.size < (hp.push { cls := .type "list_iterator", data := .fields #[.ref x, .int 0 0] }).objs.size := by rw [Heap.size_push]; exact Nat.lt_succ_self _
  cases hf : codeAmong pos tb.toList with
  | none =>
    refine wpAny_genexprCodeX hcode hcd1 htab1 hf fun c' h₃ tk₃ hx₃ hge hlt hcode₃ _ htab₃ _ => ?_
    obtain ⟨_, _, _, _, _, _, _, _, _, _, _, _, _, _, _, _, _, e1, e2, htr', _⟩ := hcode₃
    refine fin (.ref c') h₃ tk₃ _ htr' htab₃.2 (fun b o hb e => hx₃ b o hb e) ?_
    exact Nat.lt_of_lt_of_le hsz1 (Nat.le_trans hge (Nat.le_of_lt hlt))
  | some c' =>
    exact wpAny_genexprCode_hit hcode hcd1 hf (fin c' _ _ tb htr (k1 _ _ hP) (fun b o _ e => e) hsz1)
end
end Mine
end

section
-- Elt
example : True := by w_top off; trivial
open PySem PySem.W PyProof.Rows PySem.Calls PySem.Spec
set_option maxRecDepth 100000
namespace Mine
section
variable {prog : Program} {w : World} {A : Around} {E : Value → Shared → Prop} {s : Shared} {env : Env} {mg mb m : Str → Option Value}
theorem eval_local {x : Str} {pos : Pos} {v : Value} {Q : Value → Shared → Prop} (hk : env.scope.kind = .function) (hl : env.kindOf x = some .local) (hn : s.heap.Ns env.locals m) (hv : m x = some v) (hd : (x == ("__debug__" : Str)) = false) (h : Q v s) :
    wpAny (model prog w) A (eval (.Name x pos) env) Q E s := wpAny_Name (wpAny_loadName_local hk hl hn hv h) hd
theorem eval_len {xa : Str} {p0 p1 pos : Pos} {a : Str} {ta : Tok} {Q : Value → Shared → Prop} (hk : env.scope.kind = .function) (hx : env.kindOf "len" = some .globalImplicit) (hg : s.heap.Ns env.globals mg) (hmiss : mg "len" = none) (hb : s.heap.Ns env.builtins mb) (hv : mb "len" = some (.builtin "len"))
    (hl : env.kindOf xa = some .local) (hn : s.heap.Ns env.locals m) (hm : m xa = some (.str a ta)) (hd : (xa == ("__debug__" : Str)) = false) (hz : a.length ≤ 1000) (h : ∀ t tk, Q (.int (a.length : Nat) t) { s with toks := tk }) :
    wpAny (model prog w) A (eval (.Call (.Name "len" p0) [.Name xa p1] [] pos) env) Q E s := by
  show wpAny _ A (do callWith pos (← eval (.Name "len" p0) env) [] (backTo pos (starEach [.Name xa p1] env)) (backToKw pos (keywordEach [] env))) Q E s
  refine wpAny_bind (Calls.Name_function_global hk hx (Calls.loadGlobal_builtin hg hmiss hb hv ?_) (by decide))
  rw [show backTo pos (starEach [.Name xa p1] env) = [(false, eval (.Name xa p1) env)] from rfl]
  refine Calls.callWith_builtin rfl (Calls.evalArgs_plain (Calls.spliced_cons (eval_local hk hl hn hm hd (Calls.spliced_nil ?_))))
  exact PyProof.Rows.len_str (by (first | lia | omega)) (h _ _)
theorem elt_len {xa xb : Str} {p0 p1 p2 p3 p4 p5 pos : Pos} {a b : Str} {ta tb : Tok} (hk : env.scope.kind = .function) (hx : env.kindOf "len" = some .globalImplicit) (hg : s.heap.Ns env.globals mg) (hmiss : mg "len" = none) (hb : s.heap.Ns env.builtins mb) (hv : mb "len" = some (.builtin "len"))
    (hla : env.kindOf xa = some .local) (hlb : env.kindOf xb = some .local) (hn : s.heap.Ns env.locals m) (hma : m xa = some (.str a ta)) (hmb : m xb = some (.str b tb)) (hda : (xa == ("__debug__" : Str)) = false) (hdb : (xb == ("__debug__" : Str)) = false) (hza : a.length ≤ 1000) (hzb : b.length ≤ 1000) :
    wpAny (model prog w) A (eval (.BinOp (.Call (.Name "len" p0) [.Name xa p1] [] p2) .Add (.Call (.Name "len" p3) [.Name xb p4] [] p5) pos) env) (fun y s₃ => (∃ t, y = .int ((a.length : Nat) + (b.length : Nat)) t) ∧ Keeps s s₃) E s := by
  refine wpAny_BinOp (eval_len hk hx hg hmiss hb hv hla hn hma hda hza fun t1 k1 => eval_len (s := { s with toks := k1 }) hk hx hg hmiss hb hv hlb hn hmb hdb hzb fun t2 k2 => PyProof.Rows.add_int ?_)
  exact ⟨⟨_, rfl⟩, _, _, rfl, fun _ _ e => e⟩
theorem elt_join {p0 p2 p3 p4 pos : Pos} {pl : Sem Bool} {k : Nat} {a b e : Str} {ta tb te : Tok} (hk : env.scope.kind = .function) (hx : env.kindOf "EMPTYSTRING" = some .globalImplicit) (hg : s.heap.Ns env.globals mg) (hhit : mg "EMPTYSTRING" = some (.str e te))
    (hla : env.kindOf "fws" = some .local) (hlb : env.kindOf "part" = some .local) (hn : s.heap.Ns env.locals m) (hma : m "fws" = some (.str a ta)) (hmb : m "part" = some (.str b tb)) (hza : a.length ≤ 1000) (hzb : b.length ≤ 1000) (hze : e.length ≤ 1000) :
    wpAny (model prog w) A (eval (.Name "EMPTYSTRING" p0) env) (fun ov s₁ => wpAny (model prog w) A (getMethod ov "join" pl) (fun fx s₂ => wpAny (model prog w) A (callWith pos fx.1 fx.2 (backTo pos (starEach [.Tuple [.Name "fws" p2, .Name "part" p3] k p4] env)) []) (fun y s₃ => (∃ t, y = .str (Txt.join e [a, b]) t) ∧ Keeps s s₃) E s₂) E s₁) E s := by
  refine Calls.Name_function_global hk hx (Calls.loadGlobal_global hg hhit ?_) (by decide)
  refine PySem.GM.join ?_
  show wpAny _ A (callWith pos (.builtin "str.join") [.str e te] [(false, eval (.Tuple [.Name "fws" p2, .Name "part" p3] k p4) env)] []) _ _ _
  refine Calls.callWith_builtin rfl (Calls.evalArgs_plain (Calls.spliced_cons (wpAny_Tuple ?_)))
  show wpAny _ A (spliced [(false, eval (.Name "fws" p2) env), (false, eval (.Name "part" p3) env)]) _ _ _
  refine Calls.spliced_cons (eval_local hk hla hn hma (by decide) (Calls.spliced_cons (eval_local hk hlb hn hmb (by decide) (Calls.spliced_nil ⟨by size_fits, Calls.spliced_nil ?_⟩))))
  refine PyProof.Rows.join_tuple (ys := [a, b]) (items := #[.str a ta, .str b tb]) ⟨_, Heap.get?_push_size _ rfl, rfl, _, rfl⟩ (.cons _ _ (.cons _ _ .nil)) (by simp; (first | lia | omega)) fun t' k' => ?_
  exact ⟨⟨_, rfl⟩, _, _, rfl, fun b o e => Heap.get?_push_of_some _ e⟩
end
end Mine
end

section
-- Len
example : True := by w_top off; trivial
open PySem PySem.W PyProof.Rows PySem.Calls PySem.Spec
set_option maxRecDepth 100000
namespace Mine
theorem preSum_small {fa fb : Nat → Str} (h : ∀ j, (fa j).length ≤ 1000 ∧ (fb j).length ≤ 1000) : ∀ k : Nat, 0 ≤ preSum (fun j => ((fa j).length : Nat) + ((fb j).length : Nat)) k ∧ preSum (fun j => ((fa j).length : Nat) + ((fb j).length : Nat)) k ≤ 2000 * k
  | 0 => by simp [preSum]
  | k + 1 => by
    have i := preSum_small h k
    have j := h k
    simp only [preSum]
    (first | lia | omega)
noncomputable def chkCode (P : Addr) (o : Obj) : Bool := match o.cls, o.data with
  | .type T, .fields vs => T == "code" && (match (vs[11]? : Option Value), vs.getD 11 .none, vs.getD 18 .none, vs.getD 7 .none, vs.getD 9 .none, vs.getD 10 .none with | some (.ref a), .ref b, .str _ _, .int _ _, .bool _, .int _ _ => a == P && b == P | _, _, _, _, _, _ => false)
  | _, _ => false
theorem codeHd_in {K : Frag} {h : Heap} {c P : Addr} (X : K.In h) (e : (K.lookup c).any (chkCode P) = true) (hne : c ≠ P) : CodeHd h c P := by
  cases q : K.lookup c with
  | none => rw [q] at e; cases e
  | some o =>
    rw [q] at e
    replace e : chkCode P o = true := e
    have ho := X _ _ q
    obtain ⟨cl, dd, dat, sl⟩ := o
    unfold chkCode at e
    split at e
    · rename_i T vs h1 h2
      dsimp only at h1 h2
      subst h1 h2
      obtain ⟨e1, e2⟩ := Bool.and_eq_true_iff.mp e
      have e1' : T = "code" := by simpa using e1
      subst e1'
      split at e2
      · rename_i a b f tf fl tg inF tx tt q1 q2 q3 q4 q5 q6
        obtain ⟨e3, e4⟩ := Bool.and_eq_true_iff.mp e2
        have e3' : a = P := by simpa using e3
        have e4' : b = P := by simpa using e4
        subst e3' e4'
        exact ⟨_, vs, _, _, _, _, _, _, _, ho, rfl, rfl, q1, q2, q3, q4, q5, q6, hne⟩
      · cases e2
    · cases e
section
variable {w : World} {A : Around} {E : Value → Shared → Prop} {s : Shared} {g : Heap} {L x d : Addr} {m : Str → Option Value} {nw nw' : List (Addr × Obj)} {ps : Array Value} {n : Nat}
theorem m_getattr {hs0 : Int} {t0 : Tok} {v0 : Value} {n0 : Nat} {expr : Bool} {Q : Value → Shared → Prop} (F : Fr g L s.heap m) (N : News g L s.heap nw) (X : (hd.heap_1 w.params).In g) (hx : (x, acObj d ps n) ∈ nw ∨ g.get? x = some (acObj d ps n)) (hd' : (d, acDict hs0 t0 v0 n0) ∈ nw ∨ g.get? d = some (acDict hs0 t0 v0 n0)) (hh : handedIn v0 = true)
    (h : Q v0 { s with toks := s.toks + 1 }) : wpAny (model Challenge.rw_oc0165_01.row.prog w) A (getAttr (.ref x) "_initial_size" expr) Q E s :=
  ac_getattr (X.keeps F.keep) (at_of F N hx) (at_of F N hd') (by kernel_rfl) hh h
end
section
variable {w : World} {p : Program} {loose : List Str} {mean : ExcName → Option Value} {mg mb : Str → Option Value} {G : Heap} {s : Shared} {Q E : Value → Shared → Prop}
set_option maxHeartbeats 1000000
theorem c_len {x d : Addr} {ps : Array Value} {n : Nat} {hs0 : Int} {t0 : Tok} {i0 : Int} {ti : Tok} {n0 : Nat} {tb : Array Value} {Ts : Nat → Addr} {fa fb : Nat → Str} {ta tb2 : Nat → Tok}
    (D : Gd w p loose mean mg mb G) (St : G.StaysIn s.heap) (hx : s.heap.get? x = some (acObj d ps n)) (hd' : s.heap.get? d = some (acDict hs0 t0 (.int i0 ti) n0))
    (hP : s.heap.get? 140 = some (tabObj tb)) (htr : TriplesOk tb.toList) (hPG : G.get? 140 = none) (hbare : AllBare s.gens)
    (hit : ∀ j, j < ps.size → ps[j]? = some (.ref (Ts j))) (htup : ∀ j, j < ps.size → s.heap.IsTuple (Ts j) #[.str (fa j) (ta j), .str (fb j) (tb2 j)])
    (hz : ps.size ≤ 1000) (hi0 : -1000 ≤ i0) (hi1 : i0 ≤ 1000) (hfl : ∀ j, (fa j).length ≤ 1000 ∧ (fb j).length ≤ 1000)
    (hret : ∀ s' t' tb', (∀ b o, s.heap.get? b = some o → b ≠ 140 → s'.heap.get? b = some o) → s'.heap.get? 140 = some (tabObj tb') → TriplesOk tb'.toList → AllBare s'.gens → s'.drawn = s.drawn → s'.os = s.os → Q (.int (i0 + preSum (fun j => ((fa j).length : Nat) + ((fb j).length : Nat)) ps.size) t') s') :
    wpAny (model Challenge.rw_oc0165_01.row.prog w) (Am 800 600) (call (.ref 145) [.ref x]) Q E s := by
  have fill : (hd.heap_1 w.params).In G := D.X
  revert fill
  k_fill
  intro _
  refine wpAny_call ?_
  refine' enterP (binds := [("self", .ref x)]) [(140, tabObj tb)] D St ?k3 ?k4 ?k6 ?k7 ?k8 ?k9 ?kB ?c5 ?c2 ?c3 ?c4 ?_
  case k3 => rintro q (_ | ⟨_, hq⟩); (· exact hP); cases hq
  case k4 => rintro q (_ | ⟨_, hq⟩); (· exact hPG); cases hq
  (((case k6 => k_is); (case k7 => k_is); (case k8 => decide)))
  case k9 => exact BindsTo.of_eq rfl
  (((case kB => exact locs rfl); (case c5 => decide); (case c2 => exact rfl); (case c3 => exact rfl); (case c4 => exact rfl)))
  intro g L h hg hL F N X T l1 hkeep hst
  replace hkeep : ∀ b o, s.heap.get? b = some o → b ≠ 140 → g.get? b = some o := fun b o e hb => hkeep b o e (by rintro q (_ | ⟨_, hq⟩); (· exact hb.symm); cases hq)
  have hxP : x ≠ 140 := by rintro rfl; rw [hx] at hP; cases hP
  have hdP : d ≠ 140 := by rintro rfl; rw [hd'] at hP; simp at hP
  have hxg := hkeep _ _ hx hxP
  have hdg := hkeep _ _ hd' hdP
  dsimp only
  try k_fold
  (repeat' (first | (fail_if_success (with_reducible show wpAny _ _ (exec (Stmt.For _ _ _ _ _) _) _ _ _)); (first | (k_unfold; (try dsimp only)) | (first | ((with_reducible show wpAny _ _ (getAttr (Value.ref _) _ _) _ _ _); (k_here; k_dflt (refine' m_getattr ?k1 ?k2 ?k3 ?k4 ?k5 ?k6 ?_; (case k1 => k_asm); (case k2 => k_asm); (case k3 => k_asm); (case k4 => (first | exact .inr (by assumption) | exact .inl (by k_mem))); (case k5 => (first | exact .inr (by assumption) | exact .inl (by k_mem))); (case k6 => rfl)))) | walk1) | (dsimp only; (first | ((with_reducible show wpAny _ _ (getAttr (Value.ref _) _ _) _ _ _); (k_here; k_dflt (refine' m_getattr ?k1 ?k2 ?k3 ?k4 ?k5 ?k6 ?_; (case k1 => k_asm); (case k2 => k_asm); (case k3 => k_asm); (case k4 => (first | exact .inr (by assumption) | exact .inl (by k_mem))); (case k5 => (first | exact .inr (by assumption) | exact .inl (by k_mem))); (case k6 => rfl)))) | walk1)))))
  have hcd : CodeHd g 144 140 := codeHd_in X (by kernel_rfl) (by decide)
  have htupg : ∀ j, j < ps.size → g.IsTuple (Ts j) #[.str (fa j) (ta j), .str (fb j) (tb2 j)] := fun j hj => isTuple_at (htup j hj) fun o e => hkeep _ _ e (fun e2 => by
    obtain ⟨o', ho', hc', _⟩ := htup j hj
    rw [e2, hP] at ho'; cases ho'; cases hc')
  refine gen_acc (p := p) (loose := loose) (mean := mean) (mg := mg) (mb := mb) (G := G) (x := x) (d := d) (ps := ps) (n := n) (c := 144) (P := 140) (tb := tb) (Ts := Ts) (va := fun j => .str (fa j) (ta j)) (vb := fun j => .str (fb j) (tb2 j)) (cl := [])
    (F := fun j v => ∃ t, v = .int (((fa j).length : Nat) + ((fb j).length : Nat)) t) D.T (stays_fr F hst) rfl rfl (hcd.keeps F.keep) (N _ (.head _)).1 htr hPG hbare (X.keeps F.keep) (F.keep _ _ hxg) ?_ hit (fun j hj => isTuple_at (htupg j hj) fun o e => F.keep _ _ e) rfl rfl rfl (by decide) rfl rfl rfl (by decide) rfl (by decide) ?_ ?_ (fun _ => rfl)
  · intro Q' q
    walk1
    exact q
  · intro code h₃ href hk₃ hlt₃ hk₄
    refine ⟨fun A' E' i va vb s₂ m₂ _ _ _ _ _ _ => wpAny_pure ⟨rfl, _, _, rfl, fun _ _ e => e⟩, fun A' E' i va vb s₂ m₂ hA hv _ hn hm1 hm2 hk5 => ?_⟩
    replace hk5 : ∀ b o, g.get? b = some o → s₂.heap.get? b = some o := by
      intro b o e
      have e1 := F.keep b o e
      have hb : b ≠ 140 := by rintro rfl; rw [(N _ (.head _)).2.2] at e; cases e
      have e2 := hk₃ b o hb e1
      refine hk5 b (List.mem_range.mpr (Heap.lt_size e2)) (fun hm => ?_) o (hk₄ _ _ e2)
      rcases List.mem_cons.mp hm with e3 | hm
      · exact absurd (Heap.lt_size e1) (by rw [e3]; exact Nat.lt_irrefl _)
      · cases hm
    have hvv := hv
    simp only [Array.mk.injEq, List.cons.injEq, and_true] at hvv
    obtain ⟨rfl, rfl⟩ := hvv
    exact elt_len rfl rfl (T.g.keeps hk5) (mg_none_of X T.g (by k_is)) (T.b.keeps hk5) ((T.builtins _ (by decide +kernel)).trans (by first | boot_by_name | rfl | kernel_rfl)) rfl rfl hn hm1 hm2 (by decide) (by decide) (hfl i).1 (hfl i).2
  · intro a tb' s₅ fp wr g' St' htr' hP' hk' hb' hdr hos hW hst0 hty ha hfp hwr
    have hLP : L ≠ 140 := by rw [hL]; exact Nat.ne_of_gt (Heap.lt_size hP)
    have F5 : Fr g L s₅.heap _ := ⟨F.ns.at' fun o e => hk' _ _ hLP e, fun b o e => hk' b o (by rintro rfl; rw [(N _ (.head _)).2.2] at e; cases e) (F.keep b o e), F.above⟩
    have N5 : News g L s₅.heap [(140, tabObj tb')] := by
      rintro q (_ | ⟨_, hq⟩)
      · exact ⟨hP', (N _ (.head _)).2⟩
      · cases hq
    have hsub : s.heap.objs.size ≤ h.objs.size := by
      rw [← hL]; exact Nat.le_of_lt F.ns.lt
    have hkk : ∀ b o, s.heap.get? b = some o → b ≠ 140 → h.get? b = some o := fun b o e hb => F.keep _ _ (hkeep _ _ e hb)
    clear F N
    (repeat' (first | (fail_if_success (with_reducible show wpAny _ _ (exec (Stmt.For _ _ _ _ _) _) _ _ _)); (first | (k_unfold; (try dsimp only)) | (first | ((with_reducible show wpAny _ _ (getAttr (Value.ref _) _ _) _ _ _); (k_here; k_dflt (refine' m_getattr ?k1 ?k2 ?k3 ?k4 ?k5 ?k6 ?_; (case k1 => k_asm); (case k2 => k_asm); (case k3 => k_asm); (case k4 => (first | exact .inr (by assumption) | exact .inl (by k_mem))); (case k5 => (first | exact .inr (by assumption) | exact .inl (by k_mem))); (case k6 => rfl)))) | walk1) | (dsimp only; (first | ((with_reducible show wpAny _ _ (getAttr (Value.ref _) _ _) _ _ _); (k_here; k_dflt (refine' m_getattr ?k1 ?k2 ?k3 ?k4 ?k5 ?k6 ?_; (case k1 => k_asm); (case k2 => k_asm); (case k3 => k_asm); (case k4 => (first | exact .inr (by assumption) | exact .inl (by k_mem))); (case k5 => (first | exact .inr (by assumption) | exact .inl (by k_mem))); (case k6 => rfl)))) | walk1)))))
    have W1 := hW.in4_1
    have st1 := hW.frame 0 s₅ s₅.heap (s₅.toks + 1) hst0 (Nat.le_succ _) (fun _ _ _ e => e)
    have hwn : ∀ b o, h.get? b = some o → b ∉ wr := fun b o e hm => absurd (Heap.lt_size e) (Nat.not_lt.mpr (hwr b hm))
    refine sum_startC ⟨by (first | lia | omega), by (first | lia | omega)⟩ (W1.self 0 _ _ _ st1 ⟨a, _, _, _, _, _, _, fun j => ((fa j).length : Nat) + ((fb j).length : Nat), rfl, W1, st1, hfp, fun i v hv => hv.get, ?_, fun s' t' hm => ?_⟩)
    · intro j hj
      have hs := preSum_small (fun i => ⟨(hfl i).1, (hfl i).2⟩) (j + 1)
      have h1 := hfl j
      refine ⟨⟨by show _ ≤ ((fa j).length : Int) + ((fb j).length : Int); (first | lia | omega), by show ((fa j).length : Int) + ((fb j).length : Int) < _; (first | lia | omega)⟩, by (first | lia | omega), by (first | lia | omega)⟩
    · refine hret s' t' tb' (fun b o e hb => hm.heap b o (hwn _ _ (hkk b o e hb)) (hk' _ _ hb (hkk b o e hb))) (hm.heap 140 _ ?_ hP') htr' (AllBare.movedS (s := { s₅ with toks := s₅.toks + 1 }) hb' hm) (hm.drawn.trans hdr) (hm.os.trans hos)
      intro h2
      exact absurd (Nat.lt_of_lt_of_le (Heap.lt_size hP) hsub) (Nat.not_lt.mpr (hwr _ h2))
end
end Mine
end

section
-- Str2
example : True := by w_top off; trivial
open PySem PySem.W PyProof.Rows PySem.Calls PySem.Spec
set_option maxRecDepth 100000
namespace Mine
section
variable {w : World} {p : Program} {loose : List Str} {mean : ExcName → Option Value} {mg mb : Str → Option Value} {G : Heap} {s : Shared} {Q E : Value → Shared → Prop}
set_option maxHeartbeats 1000000
theorem c_str {x d : Addr} {ps : Array Value} {n : Nat} {hs0 : Int} {t0 : Tok} {v0 : Value} {n0 : Nat} {tb : Array Value} {Ts : Nat → Addr} {fa fb : Nat → Str} {ta tb2 : Nat → Tok}
    (D : Gd w p loose mean mg mb G) (St : G.StaysIn s.heap) (hx : s.heap.get? x = some (acObj d ps n)) (hd' : s.heap.get? d = some (acDict hs0 t0 v0 n0))
    (hP : s.heap.get? 147 = some (tabObj tb)) (htr : TriplesOk tb.toList) (hPG : G.get? 147 = none) (hbare : AllBare s.gens)
    (hit : ∀ j, j < ps.size → ps[j]? = some (.ref (Ts j))) (htup : ∀ j, j < ps.size → s.heap.IsTuple (Ts j) #[.str (fa j) (ta j), .str (fb j) (tb2 j)])
    (hz : ps.size ≤ 1000) (hfl : ∀ j, (fa j).length ≤ 1000 ∧ (fb j).length ≤ 1000)
    (hret : ∀ s' t' tb', (∀ b o, s.heap.get? b = some o → b ≠ 147 → s'.heap.get? b = some o) → s'.heap.get? 147 = some (tabObj tb') → TriplesOk tb'.toList → AllBare s'.gens → s'.drawn = s.drawn → s'.os = s.os → Q (.str (Txt.join (Str.ofString "") ((List.range ps.size).map fun j => Txt.join (Str.ofString "") [fa j, fb j])) t') s') :
    wpAny (model Challenge.rw_oc0165_01.row.prog w) (Am 800 600) (call (.ref 152) [.ref x]) Q E s := by
  have fill : (hd.heap_1 w.params).In G := D.X
  revert fill
  k_fill
  intro _
  refine wpAny_call ?_
  refine' enterP (binds := [("self", .ref x)]) [(147, tabObj tb)] D St ?k3 ?k4 ?k6 ?k7 ?k8 ?k9 ?kB ?c5 ?c2 ?c3 ?c4 ?_
  case k3 => rintro q (_ | ⟨_, hq⟩); (· exact hP); cases hq
  case k4 => rintro q (_ | ⟨_, hq⟩); (· exact hPG); cases hq
  (((case k6 => k_is); (case k7 => k_is); (case k8 => decide)))
  case k9 => exact BindsTo.of_eq rfl
  (((case kB => exact locs rfl); (case c5 => decide); (case c2 => exact rfl); (case c3 => exact rfl); (case c4 => exact rfl)))
  intro g L h hg hL F N X T l1 hkeep hst
  replace hkeep : ∀ b o, s.heap.get? b = some o → b ≠ 147 → g.get? b = some o := fun b o e hb => hkeep b o e (by rintro q (_ | ⟨_, hq⟩); (· exact hb.symm); cases hq)
  have hxP : x ≠ 147 := by rintro rfl; rw [hx] at hP; cases hP
  have hdP : d ≠ 147 := by rintro rfl; rw [hd'] at hP; simp at hP
  have hxg := hkeep _ _ hx hxP
  have hdg := hkeep _ _ hd' hdP
  dsimp only
  try k_fold
  (repeat' (first | (fail_if_success (with_reducible show wpAny _ _ (exec (Stmt.For _ _ _ _ _) _) _ _ _)); (first | (k_unfold; (try dsimp only)) | (first | ((with_reducible show wpAny _ _ (getAttr (Value.ref _) _ _) _ _ _); (k_here; k_dflt (refine' m_getattr ?k1 ?k2 ?k3 ?k4 ?k5 ?k6 ?_; (case k1 => k_asm); (case k2 => k_asm); (case k3 => k_asm); (case k4 => (first | exact .inr (by assumption) | exact .inl (by k_mem))); (case k5 => (first | exact .inr (by assumption) | exact .inl (by k_mem))); (case k6 => rfl)))) | walk1) | (dsimp only; (first | ((with_reducible show wpAny _ _ (getAttr (Value.ref _) _ _) _ _ _); (k_here; k_dflt (refine' m_getattr ?k1 ?k2 ?k3 ?k4 ?k5 ?k6 ?_; (case k1 => k_asm); (case k2 => k_asm); (case k3 => k_asm); (case k4 => (first | exact .inr (by assumption) | exact .inl (by k_mem))); (case k5 => (first | exact .inr (by assumption) | exact .inl (by k_mem))); (case k6 => rfl)))) | walk1)))))
  have hcd : CodeHd g 151 147 := codeHd_in X (by kernel_rfl) (by decide)
  have htupg : ∀ j, j < ps.size → g.IsTuple (Ts j) #[.str (fa j) (ta j), .str (fb j) (tb2 j)] := fun j hj => isTuple_at (htup j hj) fun o e => hkeep _ _ e (fun e2 => by
    obtain ⟨o', ho', hc', _⟩ := htup j hj
    rw [e2, hP] at ho'; cases ho'; cases hc')
  refine gen_acc (p := p) (loose := loose) (mean := mean) (mg := mg) (mb := mb) (G := G) (x := x) (d := d) (ps := ps) (n := n) (c := 151) (P := 147) (tb := tb) (Ts := Ts) (va := fun j => .str (fa j) (ta j)) (vb := fun j => .str (fb j) (tb2 j)) (cl := [])
    (F := fun j v => ∃ t, v = .str (Txt.join (Str.ofString "") [fa j, fb j]) t) D.T (stays_fr F hst) rfl rfl (hcd.keeps F.keep) (N _ (.head _)).1 htr hPG hbare (X.keeps F.keep) (F.keep _ _ hxg) ?_ hit (fun j hj => isTuple_at (htupg j hj) fun o e => F.keep _ _ e) rfl rfl rfl (by decide) rfl rfl rfl (by decide) rfl (by decide) ?_ ?_ (fun _ => rfl)
  · intro Q' q
    walk1
    exact q
  · intro code h₃ href hk₃ hlt₃ hk₄
    refine ⟨fun A' E' i va vb s₂ m₂ _ _ _ _ _ _ => wpAny_pure ⟨rfl, _, _, rfl, fun _ _ e => e⟩, fun A' E' i va vb s₂ m₂ hA hv _ hn hm1 hm2 hk5 => ?_⟩
    replace hk5 : ∀ b o, g.get? b = some o → s₂.heap.get? b = some o := by
      intro b o e
      have e1 := F.keep b o e
      have hb : b ≠ 147 := by rintro rfl; rw [(N _ (.head _)).2.2] at e; cases e
      have e2 := hk₃ b o hb e1
      refine hk5 b (List.mem_range.mpr (Heap.lt_size e2)) (fun hm => ?_) o (hk₄ _ _ e2)
      rcases List.mem_cons.mp hm with e3 | hm
      · exact absurd (Heap.lt_size e1) (by rw [e3]; exact Nat.lt_irrefl _)
      · cases hm
    have hvv := hv
    simp only [Array.mk.injEq, List.cons.injEq, and_true] at hvv
    obtain ⟨rfl, rfl⟩ := hvv
    refine MethodCall_ ?_
    exact elt_join rfl rfl (T.g.keeps hk5) (mg_of X T.g (by k_is)) rfl rfl hn hm1 hm2 (hfl i).1 (hfl i).2 (by decide)
  · intro a tb' s₅ fp wr g' St' htr' hP' hk' hb' hdr hos hW hst0 hty ha hfp hwr
    have hLP : L ≠ 147 := by rw [hL]; exact Nat.ne_of_gt (Heap.lt_size hP)
    have F5 : Fr g L s₅.heap _ := ⟨F.ns.at' fun o e => hk' _ _ hLP e, fun b o e => hk' b o (by rintro rfl; rw [(N _ (.head _)).2.2] at e; cases e) (F.keep b o e), F.above⟩
    have N5 : News g L s₅.heap [(147, tabObj tb')] := by
      rintro q (_ | ⟨_, hq⟩)
      · exact ⟨hP', (N _ (.head _)).2⟩
      · cases hq
    have hsub : s.heap.objs.size ≤ h.objs.size := by
      rw [← hL]; exact Nat.le_of_lt F.ns.lt
    have hkk : ∀ b o, s.heap.get? b = some o → b ≠ 147 → h.get? b = some o := fun b o e hb => F.keep _ _ (hkeep _ _ e hb)
    clear F N
    (repeat' (first | (fail_if_success (with_reducible show wpAny _ _ (exec (Stmt.For _ _ _ _ _) _) _ _ _)); (first | (k_unfold; (try dsimp only)) | (first | ((with_reducible show wpAny _ _ (getAttr (Value.ref _) _ _) _ _ _); (k_here; k_dflt (refine' m_getattr ?k1 ?k2 ?k3 ?k4 ?k5 ?k6 ?_; (case k1 => k_asm); (case k2 => k_asm); (case k3 => k_asm); (case k4 => (first | exact .inr (by assumption) | exact .inl (by k_mem))); (case k5 => (first | exact .inr (by assumption) | exact .inl (by k_mem))); (case k6 => rfl)))) | walk1) | (dsimp only; (first | ((with_reducible show wpAny _ _ (getAttr (Value.ref _) _ _) _ _ _); (k_here; k_dflt (refine' m_getattr ?k1 ?k2 ?k3 ?k4 ?k5 ?k6 ?_; (case k1 => k_asm); (case k2 => k_asm); (case k3 => k_asm); (case k4 => (first | exact .inr (by assumption) | exact .inl (by k_mem))); (case k5 => (first | exact .inr (by assumption) | exact .inl (by k_mem))); (case k6 => rfl)))) | walk1)))))
    have W2 := hW.in4_2
    have hwn : ∀ b o, h.get? b = some o → b ∉ wr := fun b o e hm => absurd (Heap.lt_size e) (Nat.not_lt.mpr (hwr b hm))
    refine SC.joinGen W2 hty hst0 hfp ha (fun j v hv => let ⟨u, e⟩ := hv.get; ⟨_, u, e⟩) (fun s' lt hm hacc => ?_) (by rw [sizeLine_eq]; (first | lia | omega))
    have hl : lt.map (·.1) = (List.range ps.size).map fun j => Txt.join (Str.ofString "") [fa j, fb j] := by
      apply List.ext_getElem?
      intro j
      have hsz : lt.length = ps.size := by simpa [strValues] using hacc.1
      by_cases hj : j < ps.size
      · have hj' : j < lt.length := hsz ▸ hj
        obtain ⟨u, hv⟩ := (hacc.2 j (.str lt[j].1 lt[j].2) (by simp [strValues, List.getElem?_eq_getElem hj'])).get
        injection hv with h1 _
        simp [List.getElem?_eq_getElem hj', hj, h1]
      · rw [List.getElem?_eq_none (by simpa [hsz] using Nat.le_of_not_lt hj), List.getElem?_eq_none (by simpa using Nat.le_of_not_lt hj)]
    rw [hl]
    have g1 := hb'.movedS hm
    refine ⟨?_, fun t' k => hret { s' with toks := k } t' tb' (fun b o e hb => hm.heap b o (hwn _ _ (hkk b o e hb)) (hk' _ _ hb (hkk b o e hb))) (hm.heap 147 _ ?_ hP') htr' g1 (hm.drawn.trans hdr) (hm.os.trans hos)⟩
    · refine joinOk_of ?_
      have hle : ∀ k : Nat, (((List.range k).map fun j => Txt.join (Str.ofString "") [fa j, fb j]).map (·.length)).sum ≤ 2000 * k := by
        intro k
        induction k with
        | zero => simp
        | succ k ih =>
          rw [List.range_succ, List.map_append, List.map_append, List.sum_append]
          have h1 := hfl k
          have h2 := StrLaws.join_length_le (Str.ofString "") [fa k, fb k]
          have h3 : (Txt.join (Str.ofString "") [fa k, fb k]).length ≤ (fa k).length + (fb k).length := by
            refine Nat.le_trans h2 ?_
            simp [show (Str.ofString "").length = 0 from by decide +kernel]
          simp only [List.map_cons, List.map_nil, List.sum_cons, List.sum_nil]
          (first | lia | omega)
      have h4 := hle ps.size
      rw [show (Str.ofString "").length = 0 from by decide +kernel, Nat.mul_zero]
      (first | lia | omega)
    · intro h2
      exact absurd (Nat.lt_of_lt_of_le (Heap.lt_size hP) hsub) (Nat.not_lt.mpr (hwr _ h2))
end
end Mine
end

section
-- Use
example : True := by w_top off; trivial
open PySem PySem.W PyProof.Rows PySem.Calls PySem.Spec
set_option maxRecDepth 100000
namespace Mine
/-- the parts that an accumulator holds -/
noncomputable def Parts (h : Heap) (ps : Array Value) (l : List (Str × Str)) : Prop :=
  ps.size = l.length ∧ ∃ Ts : Nat → Addr, ∃ ta tb : Nat → Tok, ∀ j, j < l.length → ps[j]? = some (.ref (Ts j)) ∧ h.IsTuple (Ts j) #[.str (l.getD j (Str.empty, Str.empty)).1 (ta j), .str (l.getD j (Str.empty, Str.empty)).2 (tb j)]
theorem Parts.at {h h' : Heap} {ps : Array Value} {l : List (Str × Str)} (x : Parts h ps l) (k : ∀ b o, h.get? b = some o → o.cls = .type "tuple" → h'.get? b = some o) : Parts h' ps l := by
  obtain ⟨e, Ts, ta, tb, f⟩ := x
  refine ⟨e, Ts, ta, tb, fun j hj => ⟨(f j hj).1, ?_⟩⟩
  obtain ⟨o, ho, hc, r⟩ := (f j hj).2
  exact ⟨o, k _ _ ho hc, hc, r⟩
theorem Parts.keeps {h h' : Heap} {ps : Array Value} {l : List (Str × Str)} (x : Parts h ps l) (k : ∀ b o, h.get? b = some o → h'.get? b = some o) : Parts h' ps l := x.at fun b o e _ => k b o e
theorem Parts.nil {h : Heap} : Parts h #[] [] := ⟨rfl, fun _ => 0, fun _ => 0, fun _ => 0, fun j hj => absurd hj (Nat.not_lt_zero _)⟩
theorem Parts.push {h : Heap} {ps : Array Value} {l : List (Str × Str)} {T : Addr} {a b : Str} {t1 t2 : Tok} (x : Parts h ps l) (hT : h.get? T = some { cls := .type "tuple", data := .seq #[.str a t1, .str b t2] }) : Parts h (ps.push (.ref T)) (l ++ [(a, b)]) := by
  obtain ⟨e, Ts, ta, tb, f⟩ := x
  refine ⟨by simp [e], fun j => if j < l.length then Ts j else T, fun j => if j < l.length then ta j else t1, fun j => if j < l.length then tb j else t2, fun j hj => ?_⟩
  by_cases h1 : j < l.length
  · obtain ⟨f1, f2⟩ := f j h1
    have e1 : (l ++ [(a, b)]).getD j (Str.empty, Str.empty) = l.getD j (Str.empty, Str.empty) := by simp [List.getD, List.getElem?_append_left h1]
    rw [e1]
    simp only [h1, if_true]
    refine ⟨?_, f2⟩
    rw [Array.getElem?_push_lt (by omega), ← f1, Array.getElem?_eq_getElem (by omega)]
  · have h2 : j = l.length := by simp at hj; omega
    subst h2
    have e1 : (l ++ [(a, b)]).getD l.length (Str.empty, Str.empty) = (a, b) := by simp [List.getD]
    rw [e1]
    simp only [Nat.lt_irrefl, if_false]
    exact ⟨by rw [← e]; simp, ⟨_, hT, rfl, _, rfl⟩⟩
theorem Parts.take {h : Heap} {ps : Array Value} {l : List (Str × Str)} (x : Parts h ps l) (k : Nat) : Parts h (ps.toList.take k).toArray (l.take k) := by
  obtain ⟨e, Ts, ta, tb, f⟩ := x
  refine ⟨by simp [e], Ts, ta, tb, fun j hj => ?_⟩
  have h1 : j < k ∧ j < l.length := by simp at hj; omega
  obtain ⟨f1, f2⟩ := f j h1.2
  refine ⟨by simp [h1.1, f1], ?_⟩
  have e1 : (l.take k).getD j (Str.empty, Str.empty) = l.getD j (Str.empty, Str.empty) := by simp [List.getD, h1.1]
  rw [e1]; exact f2
theorem Parts.drop {h : Heap} {ps : Array Value} {l : List (Str × Str)} (x : Parts h ps l) (k : Nat) : Parts h (ps.toList.drop k).toArray (l.drop k) := by
  obtain ⟨e, Ts, ta, tb, f⟩ := x
  refine ⟨by simp [e], fun j => Ts (k + j), fun j => ta (k + j), fun j => tb (k + j), fun j hj => ?_⟩
  have h1 : k + j < l.length := by simp at hj; omega
  obtain ⟨f1, f2⟩ := f (k + j) h1
  refine ⟨by simp [f1], ?_⟩
  have e1 : (l.drop k).getD j (Str.empty, Str.empty) = l.getD (k + j) (Str.empty, Str.empty) := by simp [List.getD]
  rw [e1]; exact f2
noncomputable def lenOf (l : List (Str × Str)) : Nat := (l.map fun q => q.1.length + q.2.length).sum
noncomputable def strOf (l : List (Str × Str)) : Str := Txt.join (Str.ofString "") (l.map fun q => Txt.join (Str.ofString "") [q.1, q.2])
theorem preSum_len (l : List (Str × Str)) : ∀ k, k ≤ l.length → preSum (fun j => ((l.getD j (Str.empty, Str.empty)).1.length : Nat) + ((l.getD j (Str.empty, Str.empty)).2.length : Nat)) k = (lenOf (l.take k) : Nat)
  | 0, _ => by simp [preSum, lenOf]
  | k + 1, h => by
    rw [preSum, preSum_len l k (by omega)]
    have e : l.take (k + 1) = l.take k ++ [l.getD k (Str.empty, Str.empty)] := by
      rw [List.take_add_one]
      simp [List.getD, List.getElem?_eq_getElem (show k < l.length by omega)]
    rw [e]
    simp [lenOf]
theorem strOf_range (l : List (Str × Str)) : ((List.range l.length).map fun j => Txt.join (Str.ofString "") [(l.getD j (Str.empty, Str.empty)).1, (l.getD j (Str.empty, Str.empty)).2]) = l.map fun q => Txt.join (Str.ofString "") [q.1, q.2] := by
  apply List.ext_getElem?
  intro j
  by_cases h : j < l.length
  · simp [h, List.getD, List.getElem?_eq_getElem h]
  · simp [h]
end Mine
end

section
-- Use2
example : True := by w_top off; trivial
open PySem PySem.W PyProof.Rows PySem.Calls PySem.Spec
set_option maxRecDepth 100000
namespace Mine
/-- all parts are short -/
noncomputable def Short (l : List (Str × Str)) : Prop := l.length ≤ 100 ∧ ∀ q ∈ l, q.1.length ≤ 1000 ∧ q.2.length ≤ 1000
theorem Short.at {l : List (Str × Str)} (h : Short l) (j : Nat) : (l.getD j (Str.empty, Str.empty)).1.length ≤ 1000 ∧ (l.getD j (Str.empty, Str.empty)).2.length ≤ 1000 := by
  by_cases hj : j < l.length
  · have e : l.getD j (Str.empty, Str.empty) = l[j] := by simp [List.getD, List.getElem?_eq_getElem hj]
    rw [e]; exact h.2 _ (List.getElem_mem hj)
  · have e : l.getD j (Str.empty, Str.empty) = (Str.empty, Str.empty) := by simp [List.getD, List.getElem?_eq_none (Nat.le_of_not_lt hj)]
    rw [e]; decide
theorem lenOf_small {l : List (Str × Str)} (h : Short l) : lenOf l ≤ 200000 := by
  obtain ⟨h1, h2⟩ := h
  have : ∀ l : List (Str × Str), (∀ q ∈ l, q.1.length ≤ 1000 ∧ q.2.length ≤ 1000) → lenOf l ≤ 2000 * l.length := by
    intro l
    induction l with
    | nil => intro _; simp [lenOf]
    | cons q r ih =>
      intro hq
      have a := hq q (.head _)
      have b := ih fun x hx => hq x (.tail _ hx)
      simp only [lenOf, List.map_cons, List.sum_cons, List.length_cons] at *
      (first | lia | omega)
  have := this l h2
  (first | lia | omega)
section
variable {w : World} {p : Program} {loose : List Str} {mean : ExcName → Option Value} {mg mb : Str → Option Value} {G g : Heap} {L x d : Addr} {m : Str → Option Value} {nw : List (Addr × Obj)} {nw' : Array Value → List (Addr × Obj)} {A : Around} {s : Shared} {Q E : Value → Shared → Prop} {ps : Array Value} {n : Nat}
theorem k_len : findIn (hd.heap_1 w.params) (.ref 178) "__len__" = some (some (.ref 145)) := by kernel_rfl
theorem k_len_fn : isFn (hd.heap_1 w.params) (.ref 145) = true := by kernel_rfl
theorem k_str : findIn (hd.heap_1 w.params) (.ref 178) "__str__" = some (some (.ref 152)) := by kernel_rfl
theorem k_str_fn : isFn (hd.heap_1 w.params) (.ref 152) = true := by kernel_rfl
theorem tab_mem {b : Addr} {o o' : Obj} {h : Heap} {l l' : List (Addr × Obj)} (U : Upd b o o' l l') (N : News g L h l) : h.get? b = some o := by
  obtain ⟨pre, post, e1, _⟩ := U.split
  exact (N (b, o) (by rw [e1]; exact List.mem_append.mpr (.inr (.head _)))).1
/-- len(accumulator) -/
theorem u_len {l : List (Str × Str)} {hs0 : Int} {t0 : Tok} {i0 : Int} {ti : Tok} {n0 : Nat} {tb : Array Value} (F : Fr g L s.heap m) (N : News g L s.heap nw) (X : (hd.heap_1 w.params).In g) (D : Gd w p loose mean mg mb G) (hs : G.StaysIn g)
    (hh : A.in1.handled = none) (hdp : A.in1.depth ≤ 800) (hu : A.in1.units ≤ 600) (hx : (x, acObj d ps n) ∈ nw ∨ g.get? x = some (acObj d ps n)) (hd' : (d, acDict hs0 t0 (.int i0 ti) n0) ∈ nw ∨ g.get? d = some (acDict hs0 t0 (.int i0 ti) n0))
    (U : ∀ tb', Upd 140 (tabObj tb) (tabObj tb') nw (nw' tb')) (htr : TriplesOk tb.toList) (hPG : G.get? 140 = none) (hbare : AllBare s.gens) (hp : Parts s.heap ps l) (hsh : Short l) (hi0 : 0 ≤ i0) (hi1 : i0 ≤ 1000)
    (k : ∀ h' gs' tk' t' tb', Fr g L h' m → News g L h' (nw' tb') → TriplesOk tb'.toList → AllBare gs' → (∀ b o, s.heap.get? b = some o → o.cls = .type "tuple" → h'.get? b = some o) → Q (.int (i0 + (lenOf l : Nat)) t') ⟨h', gs', s.drawn, tk', s.os⟩) :
    wpAny (model Challenge.rw_oc0165_01.row.prog w) A (call (.builtin "len") [.ref x]) Q E s := by
  have hx' := at_of F N hx
  have hd2 := at_of F N hd'
  have hP := tab_mem (U tb) N
  obtain ⟨hsz, Ts, ta, tb2, f⟩ := hp
  refine len_K F X (ac_at hx' hd2) k_len k_len_fn (wp_up hh hdp hu ?_)
  refine c_len (fa := fun j => (l.getD j (Str.empty, Str.empty)).1) (fb := fun j => (l.getD j (Str.empty, Str.empty)).2) D (stays_fr F hs) hx' hd2 hP htr hPG hbare (fun j hj => (f j (hsz ▸ hj)).1) (fun j hj => (f j (hsz ▸ hj)).2) (by have := hsh.1; (first | lia | omega)) (by (first | lia | omega)) hi1 hsh.at ?_
  intro s' t' tb' hk hP' htr' hb' hdr hos
  obtain ⟨h', gs', dr', tk', os'⟩ := s'
  dsimp only at hk hP' hb' hdr hos
  subst hdr hos
  have hsm := lenOf_small hsh
  rw [hsz, preSum_len l l.length (Nat.le_refl _), List.take_length]
  obtain ⟨F', N'⟩ := upd_news F N (U tb') hk hP'
  exact ⟨⟨by (first | lia | omega), by (first | lia | omega)⟩, k h' gs' _ _ tb' F' N' htr' hb' fun b o e hc => hk b o e (by rintro rfl; rw [hP] at e; cases e; cases hc)⟩
/-- str(accumulator) -/
theorem u_str {l : List (Str × Str)} {hs0 : Int} {t0 : Tok} {v0 : Value} {n0 : Nat} {tb : Array Value} (F : Fr g L s.heap m) (N : News g L s.heap nw) (X : (hd.heap_1 w.params).In g) (D : Gd w p loose mean mg mb G) (hs : G.StaysIn g)
    (hcu : A.in1.in1.units < cLine) (hh : A.in1.in1.handled = none) (hdp : A.in1.in1.depth ≤ 800) (hu : A.in1.in1.units ≤ 600) (hx : (x, acObj d ps n) ∈ nw ∨ g.get? x = some (acObj d ps n)) (hd' : (d, acDict hs0 t0 v0 n0) ∈ nw ∨ g.get? d = some (acDict hs0 t0 v0 n0))
    (U : ∀ tb', Upd 147 (tabObj tb) (tabObj tb') nw (nw' tb')) (htr : TriplesOk tb.toList) (hPG : G.get? 147 = none) (hbare : AllBare s.gens) (hp : Parts s.heap ps l) (hsh : Short l)
    (k : ∀ h' gs' tk' t' tb', Fr g L h' m → News g L h' (nw' tb') → TriplesOk tb'.toList → AllBare gs' → (∀ b o, s.heap.get? b = some o → o.cls = .type "tuple" → h'.get? b = some o) → Q (.str (strOf l) t') ⟨h', gs', s.drawn, tk', s.os⟩) :
    wpAny (model Challenge.rw_oc0165_01.row.prog w) A (call (.type "str") [.ref x]) Q E s := by
  have hx' := at_of F N hx
  have hd2 := at_of F N hd'
  have hP := tab_mem (U tb) N
  obtain ⟨hsz, Ts, ta, tb2, f⟩ := hp
  refine kso_call hcu (X.keeps F.keep) (ac_at hx' hd2) k_str k_str_fn (wp_up hh hdp hu ?_)
  refine c_str (fa := fun j => (l.getD j (Str.empty, Str.empty)).1) (fb := fun j => (l.getD j (Str.empty, Str.empty)).2) D (stays_fr F hs) hx' hd2 hP htr hPG hbare (fun j hj => (f j (hsz ▸ hj)).1) (fun j hj => (f j (hsz ▸ hj)).2) (by have := hsh.1; (first | lia | omega)) hsh.at ?_
  intro s' t' tb' hk hP' htr' hb' hdr hos
  obtain ⟨h', gs', dr', tk', os'⟩ := s'
  dsimp only at hk hP' hb' hdr hos
  subst hdr hos
  rw [hsz, strOf_range]
  obtain ⟨F', N'⟩ := upd_news F N (U tb') hk hP'
  exact k h' gs' _ _ tb' F' N' htr' hb' fun b o e hc => hk b o e (by rintro rfl; rw [hP] at e; cases e; cases hc)
end
section
variable {w : World} {p : Program} {loose : List Str} {mean : ExcName → Option Value} {mg mb : Str → Option Value} {G g : Heap} {L x d : Addr} {m : Str → Option Value} {nw : List (Addr × Obj)} {A : Around} {s : Shared} {Q E : Value → Shared → Prop} {ps : Array Value} {n : Nat}
theorem u_push {nw' : Addr → Nat → List (Addr × Obj)} {a b : Str} {ta tb : Tok} {hs0 : Int} {t0 : Tok} {v0 : Value} {n0 : Nat} (F : Fr g L s.heap m) (N : News g L s.heap nw) (D : Gd w p loose mean mg mb G) (hs : G.StaysIn g) (hh : A.handled = none) (hdp : A.depth ≤ 800) (hu : A.units ≤ 600)
    (U : ∀ T n', Upd x (acObj d ps n) (acObj d (ps.push (.ref T)) n') nw (nw' T n')) (hd' : (d, acDict hs0 t0 v0 n0) ∈ nw ∨ g.get? d = some (acDict hs0 t0 v0 n0)) (hxG : G.get? x = none) (hz : ps.size ≤ 1000)
    (k : ∀ h' tk' n' T t1 t2, Fr g L h' m → News g L h' ((T, { cls := .type "tuple", data := .seq #[.str a t1, .str b t2] }) :: nw' T n') → (∀ q ∈ nw, q.1 ≠ T) → Q .none { s with heap := h', toks := tk' }) :
    wpAny (model Challenge.rw_oc0165_01.row.prog w) A (call (.ref 122) [.ref x, .str a ta, .str b tb]) Q E s := by
  have hx' := tab_mem (U 0 0) N
  refine wp_up hh hdp hu (c_push D (stays_fr F hs) hx' (at_of F N hd') hxG hz fun h' tk' n' T t1 t2 hk hT hT' hx2 => ?_)
  obtain ⟨F', N'⟩ := upd_news F N (U T n') hk hx2
  refine k h' tk' n' T t1 t2 F' (news_more N' F hT hT') fun q hq e => ?_
  rw [← e, (N q hq).1] at hT; cases hT
theorem u_pop {nw' : Nat → List (Addr × Obj)} {y : Value} {hs0 : Int} {t0 : Tok} {v0 : Value} {n0 : Nat} (F : Fr g L s.heap m) (N : News g L s.heap nw) (D : Gd w p loose mean mg mb G) (hs : G.StaysIn g) (hh : A.handled = none) (hdp : A.depth ≤ 800) (hu : A.units ≤ 600)
    (U : ∀ n', Upd x (acObj d ps n) (acObj d ps.pop n') nw (nw' n')) (hd' : (d, acDict hs0 t0 v0 n0) ∈ nw ∨ g.get? d = some (acDict hs0 t0 v0 n0)) (hxG : G.get? x = none) (hz : ps.size ≤ 1000) (hy : ps[ps.size - 1]? = some y)
    (k : ∀ h' tk' n', Fr g L h' m → News g L h' (nw' n') → Q y { s with heap := h', toks := tk' }) :
    wpAny (model Challenge.rw_oc0165_01.row.prog w) A (call (.ref 138) [.ref x]) Q E s := by
  have hx' := tab_mem (U 0) N
  refine wp_up hh hdp hu (c_pop D (stays_fr F hs) hx' (at_of F N hd') hxG hz hy fun h' tk' n' hk hx2 => ?_)
  obtain ⟨F', N'⟩ := upd_news F N (U n') hk hx2
  exact k h' tk' n' F' N'
theorem u_popfrom {nw' : Nat → List (Addr × Obj)} {i : Int} {ti : Tok} {hs0 : Int} {t0 : Tok} {v0 : Value} {n0 : Nat} (F : Fr g L s.heap m) (N : News g L s.heap nw) (D : Gd w p loose mean mg mb G) (hs : G.StaysIn g) (hh : A.handled = none) (hdp : A.depth ≤ 800) (hu : A.units ≤ 600)
    (U : ∀ n', Upd x (acObj d ps n) (acObj d (ps.toList.take i.toNat).toArray n') nw (nw' n')) (hd' : (d, acDict hs0 t0 v0 n0) ∈ nw ∨ g.get? d = some (acDict hs0 t0 v0 n0)) (hxG : G.get? x = none) (hz : ps.size ≤ 1000) (h0 : 0 ≤ i) (h1 : i ≤ ps.size)
    (k : ∀ h' tk' n' R, Fr g L h' m → News g L h' ((R, listOf (ps.toList.drop i.toNat).toArray 0) :: nw' n') → (∀ q ∈ nw, q.1 ≠ R) → Q (.ref R) { s with heap := h', toks := tk' }) :
    wpAny (model Challenge.rw_oc0165_01.row.prog w) A (call (.ref 130) [.ref x, .int i ti]) Q E s := by
  have hx' := tab_mem (U 0) N
  refine wp_up hh hdp hu (c_popfrom D (stays_fr F hs) hx' (at_of F N hd') hxG hz h0 h1 fun h' tk' n' R hk hR hR' hx2 => ?_)
  obtain ⟨F', N'⟩ := upd_news F N (U n') hk hx2
  refine k h' tk' n' R F' (news_more N' F hR hR') fun q hq e => ?_
  rw [← e, (N q hq).1] at hR; cases hR
theorem upd_cases {b : Addr} {o o' : Obj} {l l' : List (Addr × Obj)} (U : Upd b o o' l l') : ∀ q ∈ l', q = (b, o') ∨ (q ∈ l ∧ q.1 ≠ b) := by
  obtain ⟨pre, post, rfl, rfl, h1, h2⟩ := U.split
  intro q hq
  rcases List.mem_append.mp hq with hq | hq
  · exact .inr ⟨List.mem_append_left _ hq, h1 q hq⟩
  · rcases List.mem_cons.mp hq with rfl | hq
    · exact .inl rfl
    · exact .inr ⟨List.mem_append_right _ (.tail _ hq), h2 q hq⟩
theorem upd_mem {b : Addr} {o o' : Obj} {l l' : List (Addr × Obj)} (U : Upd b o o' l l') : (b, o) ∈ l := by
  obtain ⟨pre, post, rfl, _⟩ := U.split
  exact List.mem_append.mpr (.inr (.head _))
theorem upd_news2 {h h' : Heap} {a b : Addr} {oa oa' ob ob' : Obj} {nw1 nw2 : List (Addr × Obj)} (F : Fr g L h m) (N : News g L h nw) (U1 : Upd a oa oa' nw nw1) (U2 : Upd b ob ob' nw1 nw2) (hab : a ≠ b)
    (hk : ∀ c o, h.get? c = some o → c ≠ a → c ≠ b → h'.get? c = some o) (ha : h'.get? a = some oa') (hb : h'.get? b = some ob') : Fr g L h' m ∧ News g L h' nw2 := by
  have za := N _ (upd_mem U1)
  have zb : ((b, ob) : Addr × Obj) ∈ nw := by
    rcases upd_cases U1 _ (upd_mem U2) with e | e
    · cases e; exact absurd rfl hab
    · exact e.1
  have zb := N _ zb
  obtain ⟨oL, es, ep, hL, r⟩ := F.ns
  refine ⟨⟨⟨oL, es, ep, hk _ _ hL (Ne.symm za.2.1) (Ne.symm zb.2.1), r⟩, fun c o e => hk c o (F.keep c o e) ?_ ?_, F.above⟩, fun q hq => ?_⟩
  · rintro rfl; rw [za.2.2] at e; cases e
  · rintro rfl; rw [zb.2.2] at e; cases e
  · rcases upd_cases U2 q hq with rfl | ⟨hq, hqb⟩
    · exact ⟨hb, zb.2⟩
    · rcases upd_cases U1 q hq with rfl | ⟨hq, hqa⟩
      · exact ⟨ha, za.2⟩
      · exact ⟨hk _ _ (N q hq).1 hqa hqb, (N q hq).2⟩
theorem u_reset {nw1 : Nat → List (Addr × Obj)} {nw2 : Nat → Tok → List (Addr × Obj)} {R : Addr} {items : Array Value} {c : Nat} {hs0 : Int} {t0 : Tok} {v0 : Value} {n0 : Nat} (F : Fr g L s.heap m) (N : News g L s.heap nw) (D : Gd w p loose mean mg mb G) (hs : G.StaysIn g) (hh : A.handled = none) (hdp : A.depth ≤ 800) (hu : A.units ≤ 600)
    (U1 : ∀ n', Upd x (acObj d ps n) (acObj d items n') nw (nw1 n')) (U2 : ∀ n' t', Upd d (acDict hs0 t0 v0 n0) (acDict hs0 t0 (.int 0 t') n0) (nw1 n') (nw2 n' t')) (hxd : x ≠ d) (hxG : G.get? x = none) (hdG : G.get? d = none) (hz : ps.size ≤ 1000)
    (hR : (R, listOf items c) ∈ nw ∨ g.get? R = some (listOf items c)) (hz2 : items.size ≤ 1000)
    (k : ∀ h' tk' n' t', Fr g L h' m → News g L h' (nw2 n' t') → Q .none { s with heap := h', toks := tk' }) :
    wpAny (model Challenge.rw_oc0165_01.row.prog w) A (call (.ref 160) [.ref x, .ref R]) Q E s := by
  have hx' := tab_mem (U1 0) N
  have hdm : ((d, acDict hs0 t0 v0 n0) : Addr × Obj) ∈ nw := by
    rcases upd_cases (U1 0) _ (upd_mem (U2 0 0)) with e | e
    · exact absurd (congrArg Prod.fst e).symm hxd
    · exact e.1
  refine wp_up hh hdp hu (c_reset D (stays_fr F hs) hx' (N _ hdm).1 hxG hdG hz (at_of F N hR) hz2 fun h' tk' n' t' hk hx2 hd2 => ?_)
  obtain ⟨F', N'⟩ := upd_news2 F N (U1 n') (U2 n' t') hxd hk hx2 hd2
  exact k h' tk' n' t' F' N'
theorem u_reset0 {nw1 : Nat → List (Addr × Obj)} {nw2 : Nat → Tok → List (Addr × Obj)} {hs0 : Int} {t0 : Tok} {v0 : Value} {n0 : Nat} (F : Fr g L s.heap m) (N : News g L s.heap nw) (D : Gd w p loose mean mg mb G) (hs : G.StaysIn g) (hh : A.handled = none) (hdp : A.depth ≤ 800) (hu : A.units ≤ 600)
    (U1 : ∀ n', Upd x (acObj d ps n) (acObj d #[] n') nw (nw1 n')) (U2 : ∀ n' t', Upd d (acDict hs0 t0 v0 n0) (acDict hs0 t0 (.int 0 t') n0) (nw1 n') (nw2 n' t')) (hxd : x ≠ d) (hxG : G.get? x = none) (hdG : G.get? d = none) (hz : ps.size ≤ 1000)
    (k : ∀ h' tk' n' t', Fr g L h' m → News g L h' (nw2 n' t') → Q .none { s with heap := h', toks := tk' }) :
    wpAny (model Challenge.rw_oc0165_01.row.prog w) A (call (.ref 160) [.ref x]) Q E s := by
  have hx' := tab_mem (U1 0) N
  have hdm : ((d, acDict hs0 t0 v0 n0) : Addr × Obj) ∈ nw := by
    rcases upd_cases (U1 0) _ (upd_mem (U2 0 0)) with e | e
    · exact absurd (congrArg Prod.fst e).symm hxd
    · exact e.1
  refine wp_up hh hdp hu (c_reset0 D (stays_fr F hs) hx' (N _ hdm).1 hxG hdG hz fun h' tk' n' t' hk hx2 hd2 => ?_)
  obtain ⟨F', N'⟩ := upd_news2 F N (U1 n') (U2 n' t') hxd hk hx2 hd2
  exact k h' tk' n' t' F' N'
end
end Mine
end

section
-- Make
example : True := by w_top off; trivial
open PySem PySem.W PyProof.Rows PySem.Calls PySem.Spec
set_option maxRecDepth 100000
namespace Mine
theorem nl_kind : builtinKind "list.__new__" = some .builtinFn := by decide +kernel
theorem nl_split : splitId "list.__new__" = some ("list", "__new__") := by decide +kernel
theorem nl_args (a b : Value) : argsOk "list.__new__" ⟨[a, b], []⟩ := by unfold argsOk; kernel_rfl
noncomputable def makesInL (K : Frag) (C : Addr) : Bool := match K.lookup C with
  | some ⟨_, _, .cls cd, sl⟩ => !cd.abstract && !cd.hasDel && (sl.toList[4]?).join == some (.builtin "list.__new__") && !cd.mro.isEmpty && cd.mro.contains (.ref C) && cd.mro.contains (.type "list") &&
      specialIn K (.ref C) "__call__" == some (some (.builtin "type.__call__")) && instIn K (.ref C) (.type "type") == some true
  | _ => false
structure MakesL (M : Model) (h : Heap) (C : Addr) : Prop where
  obj : ∃ oc od cd sl, h.get? C = some ⟨oc, od, .cls cd, sl⟩ ∧ cd.abstract = false ∧ cd.hasDel = false ∧ cd.mro.isEmpty = false
  made : Looks M h (Bind.madeBy (.ref C)) (some "list.__new__")
  base : Looks M h (Bind.staticBase (.ref C)) (.ref C)
  self : Looks M h (isSubtype (.ref C) (.ref C)) true
  top : Looks M h (isSubtype (.ref C) (.type "list")) true
  call : Looks M h (specialOf (.ref C) "__call__") (some (.builtin "type.__call__"))
  typ : Looks M h (isInstance (.ref C) (.type "type")) true
theorem makesL_of {K : Frag} {M : Model} {h : Heap} (X : K.In h) {C : Addr} (e : makesInL K C = true) : MakesL M h C := by
  unfold makesInL at e
  split at e
  · rename_i oc od cd sl ho
    simp only [Bool.and_eq_true, Bool.not_eq_true', beq_iff_eq] at e
    obtain ⟨⟨⟨⟨⟨⟨⟨e1, e2⟩, e3⟩, e4⟩, e5⟩, e6⟩, e7⟩, e8⟩ := e
    have hc : clsIn K C = some cd := by unfold clsIn; rw [ho]
    have hm : Looks M h (mroOf (.ref C)) cd.mro := (looks_clsIn X hc).andThen .now
    obtain ⟨c, l, hl⟩ : ∃ c l, cd.mro = c :: l := by cases q : cd.mro with | nil => rw [q] at e4; cases e4 | cons c l => exact ⟨c, l, rfl⟩
    have made : Looks M h (Bind.madeBy (.ref C)) (some "list.__new__") := by
      intro A Q E s k q
      unfold Bind.madeBy
      refine wpAny_bind (hm A _ E s k ?_)
      rw [hl, List.forIn_cons]
      refine wpAny_bind (wpAny_bind (wpAny_bind (wpAny_bind (wpAny_loadPart (k _ _ (X _ _ ho)) (wpAny_pure ?_)))))
      dsimp only
      rw [← Array.getElem?_toList, e3]
      exact wpAny_pure (wpAny_pure (wpAny_pure q))
    refine ⟨⟨oc, od, cd, sl, X _ _ ho, e1, e2, e4⟩, made, ?_, looks_mroIn X ?_, looks_mroIn X ?_, looks_specialIn X e7, looks_instIn X e8⟩
    · intro A Q E s k q
      unfold Bind.staticBase
      refine wpAny_bind (hm A _ E s k ?_)
      rw [hl, List.forIn_cons]
      exact wpAny_bind (wpAny_bind (wpAny_bind (made A _ E s k (wpAny_pure (wpAny_pure (wpAny_pure q))))))
    · unfold mroIn; rw [hc, Option.bind_some, if_neg (by rw [e4]; decide), e5]
    · unfold mroIn; rw [hc, Option.bind_some, if_neg (by rw [e4]; decide), e6]
  · cases e
theorem k_makes {w : World} : makesInL (hd.heap_1 w.params) 178 = true := by kernel_rfl
noncomputable abbrev instL (C dx : Addr) : Obj := { cls := .ref C, dict := some dx, data := .seq #[] }
section
variable {prog : Program} {w : World} {A : Around} {K : Frag} {C : Addr} {R : Result → Shared → Prop} {h : Heap} {g : Array GenState} {d : Drawn} {t : Nat} {os : OsState}
theorem new_L {vs : List Value} (ha : argsOk "list.__new__" ⟨.ref C :: vs, []⟩) (Y : MakesL (model prog w) h C)
    (hq : R (.ok (.ret (.ref (h.objs.size + 1)))) ⟨(h.push emptyDict).push (instL C h.objs.size), g, d, t, os⟩) :
    codeAny (model prog w) A (.call (.builtin "list.__new__") ⟨.ref C :: vs, []⟩) R ⟨h, g, d, t, os⟩ := by
  obtain ⟨⟨oc, od, cd, sl, hC, e1, e2, e4⟩, made, base, self, top, call, typ⟩ := Y
  refine codeAny_of_tree ?_
  show wpAny _ A.in1 (do checkBuiltinCall "list.__new__" ⟨.ref C :: vs, []⟩; again (.builtin "list.__new__" ⟨.ref C :: vs, []⟩)) _ _ _
  refine wpAny_bind ?_
  unfold argsOk at ha
  simp only [checkBuiltinCall, nl_kind, nl_split]
  rw [if_pos (by decide)]
  refine wpAny_bind (ks_wpAny_isType_cls hC rfl ?_)
  rw [if_neg (by decide)]
  refine wpAny_bind (top.at ?_)
  rw [if_neg (by decide)]
  refine wpAny_bind (base.at ?_)
  refine wpAny_bind (made.at ?_)
  dsimp only
  rw [if_neg (by decide +kernel)]
  have fin : wpAny (model prog w) A.in1 (again (.builtin "list.__new__" ⟨.ref C :: vs, []⟩)) (fun fin s' => match fin with | .done f => R (.ok f) s' | .again c' => c'.quiet = true ∧ codeAny (model prog w) A c' R s') (fun e s' => R (.error e) s') ⟨h, g, d, t, os⟩ := by
    refine wpAny_pure ⟨plainId_quiet PySem.F.plain_list_new _, codeAny_builtin_stack PySem.F.entry_list_new rfl fun p st => ?_⟩
    rw [Around.under_plainId PySem.F.plain_list_new _]
    simp only [owner_list_new]
    refine wpAny_bind (ks_wpAny_isType_cls hC rfl ?_)
    rw [if_neg (by decide)]
    refine wpAny_bind (top.at ?_)
    rw [if_neg (by decide)]
    refine wpAny_bind (wpAny_pure ?_)
    rw [show (!typeHasDict (Value.ref C)) = false from rfl, if_neg (by decide)]
    refine wpAny_bind (wpAny_newObj_type ?_)
    refine wpAny_bind ?_
    unfold newObj
    dsimp only
    rw [if_neg (by rw [sizeLine_eq]; decide)]
    unfold newObjAsIs classHasDel
    refine wpAny_bind (wpAny_alloc (wpAny_bind (wpAny_bind (wpAny_load (Heap.get?_push_of_some _ (Heap.get?_push_of_some _ hC)) (wpAny_pure ?_)))))
    rw [e2]
    refine wpAny_pure (wpAny_pure ?_)
    show R _ _
    rw [Heap.size_push]
    exact hq
  cases e : Manifest.signature? "list.__new__" with
  | none => exact wpAny_pure fin
  | some sig =>
    rw [e] at ha
    exact wpAny_of_eq ha fin
theorem make_coreL {vs : List Value} {init : Value} (ha : argsOk "list.__new__" ⟨.ref C :: vs, []⟩) (Y : MakesL (model prog w) h C) (hi : Looks (model prog w) h (typeLookup (.ref C) "__init__") (some init))
    (hb : ∀ self, Looks (model prog w) h (bindSpecial init self) (init, [self]))
    (hq : codeAny (model prog w) (A.under (.builtin "type.__call__" ⟨.ref C :: vs, []⟩)) (.call init ⟨.ref (h.objs.size + 1) :: vs, []⟩) (InitBack (h.objs.size + 1) R) ⟨(h.push emptyDict).push (instL C h.objs.size), g, d, t, os⟩) :
    codeAny (model prog w) A (.call (.ref C) ⟨vs, []⟩) R ⟨h, g, d, t, os⟩ := by
  have Y' := Y
  obtain ⟨⟨oc, od, cd, sl, hC, e1, e2, e4⟩, made, base, self, top, call, typ⟩ := Y
  refine codeAny_of_tree ?_
  show wpAny _ _ (callAny (.ref C) _) _ _ _
  refine nd_load hC ?_
  show wpAny _ _ (callAny.viaDunder (.ref C) _) _ _ _
  unfold callAny.viaDunder
  refine wpAny_bind (call.at ?_)
  dsimp only
  rw [tc_bind]
  refine wpAny_bind (wpAny_pure (wpAny_bind (wpAny_pure ?_)))
  refine wpAny_pure (a := Fin.again (.call (.builtin "type.__call__") ⟨.ref C :: vs, []⟩)) (And.intro rfl ?_)
  refine codeAny_call_builtin_at (Code.quiet_builtin _ (by decide +kernel)) entry_typeCall (check_slot tc_kind tc_split typ (tc_args _ _ _) ?_)
  unfold Builtin.«type.__call__»
  have hm : Looks (model prog w) h (mroOf (.ref C)) cd.mro := ((Looks.ld (part := none) hC).andThen .now).andThen .now
  repeat (first | simp only [e4, Bool.false_eq_true, if_false] | with_reducible refine wpAny_call ?_ | lk)
  refine new_L ha Y' ?_
  have k : ∀ b o, h.get? b = some o → ((h.push emptyDict).push (instL C h.objs.size)).get? b = some o := fun b o e => Heap.get?_push_of_some _ (Heap.get?_push_of_some _ e)
  have hx : ((h.push emptyDict).push (instL C h.objs.size)).get? (h.objs.size + 1) = some (instL C h.objs.size) := by heap_get
  have t1 : Looks (model prog w) ((h.push emptyDict).push (instL C h.objs.size)) (typeOf (.ref (h.objs.size + 1))) (.ref C) := (Looks.ld hx).andThen .now
  have s1 := self.keeps k
  have i1 := hi.keeps k
  have b1 := (hb (.ref (h.objs.size + 1))).keeps k
  unfold isInstance callSpecial? specialOf
  repeat (first | with_reducible refine wpAny_call ?_ | lk)
  refine codeAny_mono hq fun r s' z => ?_
  rcases r with e | (v | _ | _ | _) <;> first | exact z | exact z.elim | skip
  obtain ⟨rfl, z⟩ := z
  exact wpAny_pure (wpAny_pure z)
end
end Mine
end

section
-- AccInit
example : True := by w_top off; trivial
open PySem PySem.W PyProof.Rows PySem.Calls PySem.Spec
set_option maxRecDepth 100000
namespace Mine
section
variable {w : World} {p : Program} {loose : List Str} {mean : ExcName → Option Value} {mg mb : Str → Option Value} {G : Heap} {s : Shared} {Q E : Value → Shared → Prop} {R : Result → Shared → Prop}
theorem bb_init {A : Around} {x d : Addr} {n : Nat} {Q : Value → Shared → Prop} (hx : s.heap.get? x = some (acObj d #[] n)) (h : Q .none { s with heap := s.heap.update x (Obj.mapSeq fun _ => #[]) }) :
    wpAny (model Challenge.rw_oc0165_01.row.prog w) A (Builtin.«list.__init__» ⟨[.ref x], []⟩) (fun fin s' => ∃ v, fin = .done (.ret v) ∧ Q v s') E s := by
  obtain ⟨hp, g, dr, tk, os⟩ := s
  have hs1 : (#[] : Array Value).size ≤ sizeLine := by rw [sizeLine_eq]; simp
  have hz' : (#[] : Array Value).size ≤ sizeLine + 1 := by rw [sizeLine_eq]; simp
  wp_walk using (wpAny_updateSeq hx rfl (hz := hs1) (_hz' := hz')), wpAny_loadPart' hx
  exact ⟨_, rfl, h⟩
set_option maxHeartbeats 1000000
theorem c_init {x d : Addr} {n : Nat} {i : Int} {ti : Tok} (D : Gd w p loose mean mg mb G) (St : G.StaysIn s.heap) (hx : s.heap.get? x = some (acObj d #[] n)) (hd' : s.heap.get? d = some (dictOf [] 0)) (hxG : G.get? x = none) (hdG : G.get? d = none)
    (hret : ∀ h' tk' n' hs0 t0, (∀ b o, s.heap.get? b = some o → b ≠ x → b ≠ d → h'.get? b = some o) → h'.get? x = some (acObj d #[] n') → h'.get? d = some (acDict hs0 t0 (.int i ti) 1) → R (.ok (.ret .none)) { s with heap := h', toks := tk' }) :
    codeAny (model Challenge.rw_oc0165_01.row.prog w) (Am 800 600) (.call (.ref 115) ⟨[.ref x, .int i ti], []⟩) R s := by
  have fill : (hd.heap_1 w.params).In G ∧ wpAny (model Challenge.rw_oc0165_01.row.prog w) (Am 0 0) (pure ()) (fun _ _ => True) (fun _ _ => True) s := ⟨D.X, wpAny_pure trivial⟩
  revert fill
  k_fill
  intro _
  refine' enterS (binds := [("self", .ref x), ("initial_size", .int i ti)]) [(x, acObj d #[] n), (d, dictOf [] 0)] D St ?k3 ?k4 ?k6 ?k7 ?k8 ?k9 ?kB ?c5 ?c2 ?c3 ?c4 ?_
  case k3 => rintro q (_ | ⟨_, _ | ⟨_, hq⟩⟩); (· exact hx); (· exact hd'); cases hq
  case k4 => rintro q (_ | ⟨_, _ | ⟨_, hq⟩⟩); (· exact hxG); (· exact hdG); cases hq
  (((case k6 => k_is); (case k7 => k_is); (case k8 => decide)))
  case k9 => first | exact BindsTo.of_eq rfl | (refine' binds_K (D.X.keeps St) ?b1 ?b2 ?b3 ?b4 ?b5; (case b1 => exact rfl); (case b2 => k_is); (case b3 => exact rfl); (case b4 => exact rfl); (case b5 => exact rfl))
  (((case kB => exact locs rfl); (case c5 => decide); (case c2 => exact rfl); (case c3 => exact rfl); (case c4 => exact rfl)))
  intro g L h hg hL F N X T l1 hkeep hst
  have hdx : d ≠ x := by rintro rfl; rw [hx] at hd'; cases hd'
  replace hkeep : ∀ b o, s.heap.get? b = some o → b ≠ x → b ≠ d → g.get? b = some o := fun b o e hb hb2 => hkeep b o e (by rintro q (_ | ⟨_, _ | ⟨_, hq⟩⟩); (· exact hb.symm); (· exact hb2.symm); cases hq)
  try dsimp only
  try k_fold
  refine ks_wpAt_execs_cons ?_
  refine wpAt_of_wpAny ?_
  (repeat' (first | (fail_if_success (show _root_.PySem.wpAt _ _ _ _ _ _ _)); (first | (k_unfold; (try dsimp only)) | walk1 | (dsimp only; walk1))))
  rename Fr _ _ _ _ => F0
  rename News _ _ _ _ => N0
  refine set_dictL F0 X N0 (ac_at (N0 _ (.head _)).1 (N0 _ (.tail _ (.head _))).1) k_taker rfl rfl (.tail (Ne.symm hdx) (.head fun _ q => nomatch q)) (Nat.le_of_ble_eq_true rfl) ?_
  intro h2 F2 N2
  dsimp only
  refine ks_wpAt_execs_cons ?_
  refine ks_wpAt_Expr_any ?_
  refine ks_wpAt_MethodCall ?_
  refine ks_node F2 X N2 T (by k_is) (by rfl) (by rfl) (ac_at (N2 _ (.head _)).1 (N2 _ (.tail _ (.head _))).1) (by k_is) (by rfl) (by first | rfl | decide +kernel) (by k_is) (by k_is) (by k_is) (by k_is) (by decide) (by rfl) (by rfl) (by rfl) (by rfl) (by decide +kernel) (by first | boot_by_name | rfl | kernel_rfl) ?_
  intro so h1 F1 N1 l2
  have hx1 := (N1 _ (.tail _ (.head _))).1
  have X1 := X.keeps F1.keep
  refine sup_method X1 hx1 (N1 _ (.head _)).1 s_init t_init slot_wget entry_wget args_wget (by decide) (fun A E s Q X hx q => wget_run X hx (.inr rfl) q) ?_
  have hk1 : ∀ b o, h1.get? b = some o → (h1.push (bndObj "method-wrapper" "list.__init__" x)).get? b = some o := fun b o e => Heap.get?_push_of_some _ e
  have hq1 : (h1.push (bndObj "method-wrapper" "list.__init__" x)).get? h1.objs.size = some (bndObj "method-wrapper" "list.__init__" x) := Heap.get?_push_size _ rfl
  have hxq := hk1 _ _ hx1
  refine bnd_callWith hq1 (.inr rfl) (bnd_call hq1 (.inr rfl) PySem.F.slot_list_init.plain PySem.F.entry_list_init (fun Q q => ck_slot (by decide +kernel) (PySem.F.args_list_init_1 _) q) ?_)
  refine bb_init hxq ?_
  refine wpAt_of_wpAny (wpAny_execs_nil ?_)
  dsimp only
  refine hret _ _ _ _ _ (fun b o e hb hb2 => ?_) (ac_upd hxq _) ((Heap.get?_update_other _ _ (Ne.symm hdx)).trans (hk1 _ _ (N1 _ (.tail _ (.tail _ (.head _)))).1))
  exact (Heap.get?_update_other _ _ hb.symm).trans (hk1 _ _ (F1.keep _ _ (hkeep _ _ e hb hb2)))
end
section
variable {w : World} {p : Program} {loose : List Str} {mean : ExcName → Option Value} {mg mb : Str → Option Value} {G g : Heap} {L : Addr} {m : Str → Option Value} {nw : List (Addr × Obj)} {A : Around} {s : Shared} {Q E : Value → Shared → Prop}
theorem k_init : findIn (hd.heap_1 w.params) (.ref 178) "__init__" = some (some (.ref 115)) := by kernel_rfl
theorem k_init_fn : typeIn (hd.heap_1 w.params) (.ref 115) = some (.type "function") := by kernel_rfl
/-- an accumulator is made -/
theorem u_make {i : Int} {ti : Tok} (F : Fr g L s.heap m) (N : News g L s.heap nw) (X : (hd.heap_1 w.params).In g) (D : Gd w p loose mean mg mb G) (hs : G.StaysIn g) (hh : A.handled = none) (hdp : A.depth ≤ 700) (hu : A.units ≤ 500)
    (k : ∀ h' tk' x d n' hs0 t0, Fr g L h' m → News g L h' ((x, acObj d #[] n') :: (d, acDict hs0 t0 (.int i ti) 1) :: nw) → (∀ q ∈ nw, q.1 < d) → d < x → Q (.ref x) { s with heap := h', toks := tk' }) :
    wpAny (model Challenge.rw_oc0165_01.row.prog w) A (call (.ref 178) [.int i ti]) Q E s := by
  obtain ⟨hp, gs, dr, tk, os⟩ := s
  refine wpAny_call (make_coreL (nl_args _ _) (makesL_of (X.keeps F.keep) k_makes) (looks_findIn (X.keeps F.keep) k_init) (fun self => bind_fn (X.keeps F.keep) self k_init_fn) ?_)
  have kk : ∀ b o, hp.get? b = some o → ((hp.push emptyDict).push (instL 178 hp.objs.size)).get? b = some o := fun b o e => Heap.get?_push_of_some _ (Heap.get?_push_of_some _ e)
  have hx : ((hp.push emptyDict).push (instL 178 hp.objs.size)).get? (hp.objs.size + 1) = some (instL 178 hp.objs.size) := by heap_get
  have hd0 : ((hp.push emptyDict).push (instL 178 hp.objs.size)).get? hp.objs.size = some emptyDict := by heap_get
  have hG : ∀ b, hp.objs.size ≤ b → G.get? b = none := fun b hb => by
    cases e : G.get? b with
    | none => rfl
    | some o => exact absurd (Heap.lt_size (F.keep _ _ (hs b o e))) (Nat.not_lt.mpr hb)
  refine code_up (D := 800) (U := 600) ?_ ?_ ?_ (c_init (n := 0) D (fun b o e => kk _ _ (F.keep _ _ (hs b o e))) hx hd0 (hG _ (Nat.le_succ _)) (hG _ (Nat.le_refl _)) ?_)
  · exact hh
  · show A.depth + (Code.builtin "type.__call__" ⟨[.ref 178, .int i ti], []⟩).weight ≤ 800
    have : (Code.builtin "type.__call__" ⟨[.ref 178, .int i ti], []⟩).weight ≤ 50 := Nat.le_of_ble_eq_true (by kernel_rfl)
    (first | lia | omega)
  · show A.units + (Code.builtin "type.__call__" ⟨[.ref 178, .int i ti], []⟩).cUnits ≤ 600
    have : (Code.builtin "type.__call__" ⟨[.ref 178, .int i ti], []⟩).cUnits ≤ 50 := Nat.le_of_ble_eq_true (by kernel_rfl)
    (first | lia | omega)
  · intro h' tk' n' hs0 t0 hk hx' hd'
    refine ⟨rfl, ?_⟩
    have up : ∀ b o, hp.get? b = some o → h'.get? b = some o := fun b o e => hk b o (kk b o e) (Nat.ne_of_lt (Nat.lt_succ_of_lt (Heap.lt_size e))) (Nat.ne_of_lt (Heap.lt_size e))
    have hn1 : hp.get? (hp.objs.size + 1) = none := by
      cases e : hp.get? (hp.objs.size + 1) with
      | none => rfl
      | some o => exact absurd (Heap.lt_size e) (Nat.not_lt.mpr (Nat.le_succ _))
    have hn0 : hp.get? hp.objs.size = none := by
      cases e : hp.get? hp.objs.size with
      | none => rfl
      | some o => exact absurd (Heap.lt_size e) (Nat.lt_irrefl _)
    exact k h' tk' (hp.objs.size + 1) hp.objs.size n' hs0 t0 (frK F up) (news_more (news_more (newsK N up) F hn0 hd') F hn1 hx') (fun q hq => Heap.lt_size (N q hq).1) (Nat.lt_succ_self _)
end
end Mine
end

section
-- Only
example : True := by w_top off; trivial
open PySem PySem.W PyProof.Rows PySem.Calls PySem.Spec
set_option maxRecDepth 100000
namespace Mine
section
variable {w : World} {p : Program} {loose : List Str} {mean : ExcName → Option Value} {mg mb : Str → Option Value} {G g : Heap} {L x d : Addr} {m : Str → Option Value} {nw : List (Addr × Obj)} {nw' : Array Value → List (Addr × Obj)} {A : Around} {s : Shared} {E : Value → Shared → Prop} {ps : Array Value} {n : Nat}
theorem k_bool : findIn (hd.heap_1 w.params) (.ref 178) "__bool__" = some none := by kernel_rfl
theorem len_body {Q : Value → Shared → Prop} {K : Frag} {ox : Obj} {C f : Addr} {od : Option Obj} (X : K.In s.heap) (I : InstAt s.heap x ox C od) (hs : findIn K (.ref C) "__len__" = some (some (.ref f))) (hf : isFn K (.ref f) = true)
    (h : wpAny (model Challenge.rw_oc0165_01.row.prog w) A (call (.ref f) [.ref x]) (PySem.W.LenBack Q) E s) : wpAny (model Challenge.rw_oc0165_01.row.prog w) A (Builtin.«len» ⟨[.ref x], []⟩) (fun fin s' => ∃ v, fin = .done (.ret v) ∧ Q v s') E s := by
  unfold Builtin.«len»
  refine wpAny_bind (m := oneArg "len" _) (wpAny_pure ?_)
  refine wpAny_bind (m := callSpecial? (.ref x) (Str.ofString "__len__")) (special_fn X I hs (beq_iff_eq.mp hf) (wpAny_mono h (fun r s' hr => ?_) fun _ _ y => y))
  cases r <;> first | exact hr.elim | skip
  rename_i n u
  obtain ⟨⟨h0, h1⟩, hq⟩ := hr
  refine wpAny_bind (wpAny_holding (wpAny_pure ?_))
  refine wpAny_bind (wpAny_letGo ?_)
  show wpAny _ _ (if n < 0 then _ else _) _ _ _
  rw [if_neg (by omega)]
  show wpAny _ _ (if n ≥ 2 ^ 63 then _ else _) _ _ _
  rw [if_neg (by omega)]
  exact wpAny_bind (wpAny_mkInt (wpAny_pure ⟨_, rfl, hq⟩))
/-- the truth of an accumulator is whether its signs are none -/
theorem u_truthy {Q : Bool → Shared → Prop} {l : List (Str × Str)} {hs0 : Int} {t0 : Tok} {i0 : Int} {ti : Tok} {n0 : Nat} {tb : Array Value} (F : Fr g L s.heap m) (N : News g L s.heap nw) (X : (hd.heap_1 w.params).In g) (D : Gd w p loose mean mg mb G) (hs : G.StaysIn g)
    (hh : A.in1.handled = none) (hdp : A.in1.depth ≤ 800) (hu : A.in1.units ≤ 600) (hx : (x, acObj d ps n) ∈ nw ∨ g.get? x = some (acObj d ps n)) (hd' : (d, acDict hs0 t0 (.int i0 ti) n0) ∈ nw ∨ g.get? d = some (acDict hs0 t0 (.int i0 ti) n0))
    (U : ∀ tb', Upd 140 (tabObj tb) (tabObj tb') nw (nw' tb')) (htr : TriplesOk tb.toList) (hPG : G.get? 140 = none) (hbare : AllBare s.gens) (hp : Parts s.heap ps l) (hsh : Short l) (hi0 : 0 ≤ i0) (hi1 : i0 ≤ 1000)
    (k : ∀ h' gs' tk' tb', Fr g L h' m → News g L h' (nw' tb') → TriplesOk tb'.toList → AllBare gs' → (∀ b o, s.heap.get? b = some o → o.cls = .type "tuple" → h'.get? b = some o) → Q (i0 + (lenOf l : Nat) != 0) ⟨h', gs', s.drawn, tk', s.os⟩) :
    wpAny (model Challenge.rw_oc0165_01.row.prog w) A (truthy (.ref x)) Q E s := by
  have hx' := at_of F N hx
  have hd2 := at_of F N hd'
  have hP := tab_mem (U tb) N
  have I := ac_at hx' hd2
  have Xs := X.keeps F.keep
  unfold truthy
  refine wpAny_bind (m := callSpecial? (.ref x) (Str.ofString "__bool__")) (wpAny_bind (wpAny_bind (I.type.here ((looks_findIn Xs k_bool).here (wpAny_pure ?_)))))
  refine wpAny_bind (wpAny_bind (I.type.here ((looks_findIn Xs k_len).here ?_)))
  show wpAny _ _ (if (some (Value.ref 145)).isNone = true then _ else _) _ _ _
  rw [if_neg (by simp)]
  obtain ⟨hsz, Ts, ta, tb2, f⟩ := hp
  have key : wpAny (model Challenge.rw_oc0165_01.row.prog w) A (runValue (.builtin "len" ⟨[.ref x], []⟩)) (fun v s' => ∃ t', v = .int (i0 + (lenOf l : Nat)) t' ∧ Q (i0 + (lenOf l : Nat) != 0) s') E s := by
    refine wpAny_runValue (codeAny_builtin entry_len ?_)
    rw [Around.under_plainId plain_len _]
    refine wpAny_mono (len_body (Q := fun v s' => ∃ t', v = .int (i0 + (lenOf l : Nat)) t' ∧ Q (i0 + (lenOf l : Nat) != 0) s') Xs I k_len k_len_fn (wp_up hh hdp hu ?_)) (fun fin s' h' => by obtain ⟨r, rfl, hq⟩ := h'; exact hq) fun _ _ e => e
    refine c_len (fa := fun j => (l.getD j (Str.empty, Str.empty)).1) (fb := fun j => (l.getD j (Str.empty, Str.empty)).2) D (stays_fr F hs) hx' hd2 hP htr hPG hbare (fun j hj => (f j (hsz ▸ hj)).1) (fun j hj => (f j (hsz ▸ hj)).2) (by have := hsh.1; omega) (by omega) hi1 hsh.at ?_
    intro s' t' tb' hk hP' htr' hb' hdr hos
    obtain ⟨h', gs', dr', tk', os'⟩ := s'
    dsimp only at hk hP' hb' hdr hos
    subst hdr hos
    have hsm := lenOf_small hsh
    rw [hsz, preSum_len l l.length (Nat.le_refl _), List.take_length]
    obtain ⟨F', N'⟩ := upd_news F N (U tb') hk hP'
    exact ⟨⟨by omega, by omega⟩, _, rfl, k h' gs' _ tb' F' N' htr' hb' fun b o e hc => hk b o e (by rintro rfl; rw [hP] at e; cases e; cases hc)⟩
  exact wpAny_bind (wpAny_mono key (fun r s' h' => by obtain ⟨t', rfl, hq⟩ := h'; exact wpAny_pure hq) fun _ _ e => e)
end
end Mine
end

section
-- Only2
example : True := by w_top off; trivial
open PySem PySem.W PyProof.Rows PySem.Calls PySem.Spec
set_option maxRecDepth 100000
namespace Mine
section
variable {w : World} {p : Program} {loose : List Str} {mean : ExcName → Option Value} {mg mb : Str → Option Value} {G : Heap} {s : Shared} {Q E : Value → Shared → Prop}
set_option maxHeartbeats 1000000
theorem c_onlyws {x d : Addr} {ps : Array Value} {n : Nat} {hs0 : Int} {t0 : Tok} {ti : Tok} {n0 : Nat} {tb tc : Array Value} {l : List (Str × Str)}
    (D : Gd w p loose mean mg mb G) (St : G.StaysIn s.heap) (hx : s.heap.get? x = some (acObj d ps n)) (hd' : s.heap.get? d = some (acDict hs0 t0 (.int 0 ti) n0))
    (hP : s.heap.get? 140 = some (tabObj tb)) (htr : TriplesOk tb.toList) (hPG : G.get? 140 = none) (hP2 : s.heap.get? 147 = some (tabObj tc)) (htr2 : TriplesOk tc.toList) (hPG2 : G.get? 147 = none) (hbare : AllBare s.gens)
    (hp : Parts s.heap ps l) (hsh : Short l) (hpos : 0 < lenOf l)
    (hret : ∀ s' tb' tc', (∀ b o, s.heap.get? b = some o → b ≠ 140 → b ≠ 147 → s'.heap.get? b = some o) → s'.heap.get? 140 = some (tabObj tb') → TriplesOk tb'.toList → s'.heap.get? 147 = some (tabObj tc') → TriplesOk tc'.toList → AllBare s'.gens → s'.drawn = s.drawn → s'.os = s.os → Q (.bool (Txt.isspace (strOf l))) s') :
    wpAny (model Challenge.rw_oc0165_01.row.prog w) (Am 700 500) (call (.ref 167) [.ref x]) Q E s := by
  have fill : (hd.heap_1 w.params).In G := D.X
  revert fill
  k_fill
  intro _
  refine wpAny_call ?_
  refine' enterP (binds := [("self", .ref x)]) [(140, tabObj tb), (147, tabObj tc)] D St ?k3 ?k4 ?k6 ?k7 ?k8 ?k9 ?kB ?c5 ?c2 ?c3 ?c4 ?_
  case k3 => rintro q (_ | ⟨_, _ | ⟨_, hq⟩⟩); (· exact hP); (· exact hP2); cases hq
  case k4 => rintro q (_ | ⟨_, _ | ⟨_, hq⟩⟩); (· exact hPG); (· exact hPG2); cases hq
  (((case k6 => k_is); (case k7 => k_is); (case k8 => decide)))
  case k9 => exact BindsTo.of_eq rfl
  (((case kB => exact locs rfl); (case c5 => decide); (case c2 => exact rfl); (case c3 => exact rfl); (case c4 => exact rfl)))
  intro g L h hg hL F N X T l1 hkeep hst
  replace hkeep : ∀ b o, s.heap.get? b = some o → b ≠ 140 → b ≠ 147 → g.get? b = some o := fun b o e hb hb2 => hkeep b o e (by rintro q (_ | ⟨_, _ | ⟨_, hq⟩⟩); (· exact hb.symm); (· exact hb2.symm); cases hq)
  have hxP : x ≠ 140 := by rintro rfl; rw [hx] at hP; cases hP
  have hdP : d ≠ 140 := by rintro rfl; rw [hd'] at hP; simp at hP
  have hxP2 : x ≠ 147 := by rintro rfl; rw [hx] at hP2; cases hP2
  have hdP2 : d ≠ 147 := by rintro rfl; rw [hd'] at hP2; simp at hP2
  have hxg := hkeep _ _ hx hxP hxP2
  have hdg := hkeep _ _ hd' hdP hdP2
  dsimp only
  try k_fold
  (repeat' (first | (fail_if_success (with_reducible show wpAny _ _ (exec (Stmt.For _ _ _ _ _) _) _ _ _)); (first | (k_unfold; (try dsimp only)) | (first | ((with_reducible show wpAny _ _ (getAttr (Value.ref _) _ _) _ _ _); (k_here; k_dflt (refine' m_getattr ?k1 ?k2 ?k3 ?k4 ?k5 ?k6 ?_; (case k1 => k_asm); (case k2 => k_asm); (case k3 => k_asm); (case k4 => (first | exact .inr (by assumption) | exact .inl (by k_mem))); (case k5 => (first | exact .inr (by assumption) | exact .inl (by k_mem))); (case k6 => rfl)))) | walk1) | (dsimp only; (first | ((with_reducible show wpAny _ _ (getAttr (Value.ref _) _ _) _ _ _); (k_here; k_dflt (refine' m_getattr ?k1 ?k2 ?k3 ?k4 ?k5 ?k6 ?_; (case k1 => k_asm); (case k2 => k_asm); (case k3 => k_asm); (case k4 => (first | exact .inr (by assumption) | exact .inl (by k_mem))); (case k5 => (first | exact .inr (by assumption) | exact .inl (by k_mem))); (case k6 => rfl)))) | walk1)))))
  have tup : ∀ b o, s.heap.get? b = some o → o.cls = .type "tuple" → b ≠ 140 ∧ b ≠ 147 := fun b o e hc => ⟨by rintro rfl; rw [hP] at e; (cases e; cases hc), by rintro rfl; rw [hP2] at e; (cases e; cases hc)⟩
  have hpg : Parts g ps l := hp.at fun b o e hc => hkeep b o e (tup b o e hc).1 (tup b o e hc).2
  have kf := F.keep
  refine u_truthy (nw' := fun tb' => [(140, tabObj tb'), (147, tabObj tc)]) F N X D hst rfl (by decide) (by decide) (.inr hxg) (.inr hdg) (fun tb' => .head (by rintro q (_ | ⟨_, hq⟩); (· exact (show (147 : Nat) ≠ 140 by decide)); cases hq)) htr hPG hbare (hpg.keeps F.keep) hsh (by decide) (by decide) ?_
  intro h1 gs1 tk1 tb1 F1 N1 htr1 hb1 hk1
  clear F N
  dsimp only at F1 N1 ⊢
  have hne : (0 + (lenOf l : Nat) != (0 : Int)) = true := by simp; omega
  rw [hne]
  (repeat' (first | (fail_if_success (with_reducible show wpAny _ _ (exec (Stmt.For _ _ _ _ _) _) _ _ _)); (first | (k_unfold; (try dsimp only)) | (first | ((with_reducible show wpAny _ _ (getAttr (Value.ref _) _ _) _ _ _); (k_here; k_dflt (refine' m_getattr ?k1 ?k2 ?k3 ?k4 ?k5 ?k6 ?_; (case k1 => k_asm); (case k2 => k_asm); (case k3 => k_asm); (case k4 => (first | exact .inr (by assumption) | exact .inl (by k_mem))); (case k5 => (first | exact .inr (by assumption) | exact .inl (by k_mem))); (case k6 => rfl)))) | walk1) | (dsimp only; (first | ((with_reducible show wpAny _ _ (getAttr (Value.ref _) _ _) _ _ _); (k_here; k_dflt (refine' m_getattr ?k1 ?k2 ?k3 ?k4 ?k5 ?k6 ?_; (case k1 => k_asm); (case k2 => k_asm); (case k3 => k_asm); (case k4 => (first | exact .inr (by assumption) | exact .inl (by k_mem))); (case k5 => (first | exact .inr (by assumption) | exact .inl (by k_mem))); (case k6 => rfl)))) | walk1)))))
  refine u_str (nw' := fun tc' => [(140, tabObj tb1), (147, tabObj tc')]) F1 N1 X D hst (by decide) rfl (by decide) (by decide) (.inr hxg) (.inr hdg) (fun tb' => .tail (show (140 : Nat) ≠ 147 by decide) (.head fun _ q => nomatch q)) htr2 hPG2 hb1 (hpg.keeps F1.keep) hsh ?_
  intro h2 gs2 tk2 t2 tc2 F2 N2 htr2' hb2 hk2
  clear F1 N1
  dsimp only at F2 N2 ⊢
  (repeat' (first | (fail_if_success (with_reducible show wpAny _ _ (exec (Stmt.For _ _ _ _ _) _) _ _ _)); (first | (k_unfold; (try dsimp only)) | (first | ((with_reducible show wpAny _ _ (getAttr (Value.ref _) _ _) _ _ _); (k_here; k_dflt (refine' m_getattr ?k1 ?k2 ?k3 ?k4 ?k5 ?k6 ?_; (case k1 => k_asm); (case k2 => k_asm); (case k3 => k_asm); (case k4 => (first | exact .inr (by assumption) | exact .inl (by k_mem))); (case k5 => (first | exact .inr (by assumption) | exact .inl (by k_mem))); (case k6 => rfl)))) | walk1) | (dsimp only; (first | ((with_reducible show wpAny _ _ (getAttr (Value.ref _) _ _) _ _ _); (k_here; k_dflt (refine' m_getattr ?k1 ?k2 ?k3 ?k4 ?k5 ?k6 ?_; (case k1 => k_asm); (case k2 => k_asm); (case k3 => k_asm); (case k4 => (first | exact .inr (by assumption) | exact .inl (by k_mem))); (case k5 => (first | exact .inr (by assumption) | exact .inl (by k_mem))); (case k6 => rfl)))) | walk1)))))
  exact hret _ _ _ (fun b o e hb hb2 => F2.keep _ _ (hkeep b o e hb hb2)) (N2 _ (.head _)).1 htr1 (N2 _ (.tail _ (.head _))).1 htr2' hb2 rfl rfl
end
section
variable {w : World} {p : Program} {loose : List Str} {mean : ExcName → Option Value} {mg mb : Str → Option Value} {G g : Heap} {L x d : Addr} {m : Str → Option Value} {nw : List (Addr × Obj)} {nw1 : Array Value → List (Addr × Obj)} {nw2 : Array Value → Array Value → List (Addr × Obj)} {A : Around} {s : Shared} {Q E : Value → Shared → Prop} {ps : Array Value} {n : Nat}
theorem u_onlyws {l : List (Str × Str)} {hs0 : Int} {t0 : Tok} {ti : Tok} {n0 : Nat} {tb tc : Array Value} (F : Fr g L s.heap m) (N : News g L s.heap nw) (D : Gd w p loose mean mg mb G) (hs : G.StaysIn g)
    (hh : A.handled = none) (hdp : A.depth ≤ 700) (hu : A.units ≤ 500) (hx : (x, acObj d ps n) ∈ nw ∨ g.get? x = some (acObj d ps n)) (hd' : (d, acDict hs0 t0 (.int 0 ti) n0) ∈ nw ∨ g.get? d = some (acDict hs0 t0 (.int 0 ti) n0))
    (U : ∀ tb', Upd 140 (tabObj tb) (tabObj tb') nw (nw1 tb')) (htr : TriplesOk tb.toList) (hPG : G.get? 140 = none) (U2 : ∀ tb' tc', Upd 147 (tabObj tc) (tabObj tc') (nw1 tb') (nw2 tb' tc')) (htr2 : TriplesOk tc.toList) (hPG2 : G.get? 147 = none) (hbare : AllBare s.gens) (hp : Parts s.heap ps l) (hsh : Short l) (hpos : 0 < lenOf l)
    (k : ∀ h' gs' tk' tb' tc', Fr g L h' m → News g L h' (nw2 tb' tc') → TriplesOk tb'.toList → TriplesOk tc'.toList → AllBare gs' → (∀ b o, s.heap.get? b = some o → o.cls = .type "tuple" → h'.get? b = some o) → Q (.bool (Txt.isspace (strOf l))) ⟨h', gs', s.drawn, tk', s.os⟩) :
    wpAny (model Challenge.rw_oc0165_01.row.prog w) A (call (.ref 167) [.ref x]) Q E s := by
  have hx' := at_of F N hx
  have hd2 := at_of F N hd'
  have hP := tab_mem (U tb) N
  have hP2 : s.heap.get? 147 = some (tabObj tc) := by
    rcases upd_cases (U tb) _ (upd_mem (U2 tb tc)) with e | e
    · exact absurd (congrArg Prod.fst e) (show (147 : Nat) ≠ 140 by decide)
    · exact (N _ e.1).1
  refine wp_up hh hdp hu (c_onlyws D (stays_fr F hs) hx' hd2 hP htr hPG hP2 htr2 hPG2 hbare hp hsh hpos ?_)
  intro s' tb' tc' hk h1 ht1 h2 ht2 hb hdr hos
  obtain ⟨h', gs', dr', tk', os'⟩ := s'
  dsimp only at hk h1 h2 hb hdr hos
  subst hdr hos
  obtain ⟨F', N'⟩ := upd_news2 F N (U tb') (U2 tb' tc') (by decide) hk h1 h2
  refine k h' gs' tk' tb' tc' F' N' ht1 ht2 hb fun b o e hc => hk b o e ?_ ?_
  · rintro rfl; rw [hP] at e; (cases e; cases hc)
  · rintro rfl; rw [hP2] at e; (cases e; cases hc)
end
end Mine
end

section
-- Vf0
example : True := by w_top off; trivial
open PySem PySem.W PyProof.Rows PySem.Calls PySem.Spec
set_option maxRecDepth 100000
namespace Mine
/-- a formatter's cells: itself, its dict, its lines, its accumulator and the dict of this, the two tables; and what else there is -/
noncomputable abbrev led7 (V : Addr) (o1 : Obj) (dv : Addr) (o2 : Obj) (Ln : Addr) (o3 : Obj) (x : Addr) (o4 : Obj) (d : Addr) (o5 o6 o7 : Obj) (rest : List (Addr × Obj)) : List (Addr × Obj) := (V, o1) :: (dv, o2) :: (Ln, o3) :: (x, o4) :: (d, o5) :: (140, o6) :: (147, o7) :: rest
/-- a formatter's dict -/
noncomputable abbrev vfDict (hh : Nat → Int) (tt : Nat → Tok) (vm vc vl : Value) (sg : Value) (Ln x : Addr) (n : Nat) : Obj :=
  dictOf [⟨hh 0, .str "_maxlen" (tt 0), vm⟩, ⟨hh 1, .str "_continuation_ws" (tt 1), vc⟩, ⟨hh 2, .str "_continuation_ws_len" (tt 2), vl⟩, ⟨hh 3, .str "_splitchars" (tt 3), sg⟩, ⟨hh 4, .str "_lines" (tt 4), .ref Ln⟩, ⟨hh 5, .str "_current_line" (tt 5), .ref x⟩] n
structure Apart (V dv Ln x d : Addr) : Prop where
  n1 : Ln ≠ x
  n2 : Ln ≠ d
  n3 : Ln ≠ 140
  n4 : Ln ≠ 147
  n5 : x ≠ d
  n6 : x ≠ 140
  n7 : x ≠ 147
  n8 : d ≠ 140
  n9 : d ≠ 147
  n10 : V ≠ dv
  n11 : V ≠ Ln
  n12 : V ≠ x
  n13 : V ≠ d
  n14 : V ≠ 140
  n15 : V ≠ 147
  n16 : dv ≠ Ln
  n17 : dv ≠ x
  n18 : dv ≠ d
  n19 : dv ≠ 140
  n20 : dv ≠ 147
noncomputable def Off7 (V dv Ln x d : Addr) (rest : List (Addr × Obj)) : Prop := ∀ q ∈ rest, q.1 ≠ V ∧ q.1 ≠ dv ∧ q.1 ≠ Ln ∧ q.1 ≠ x ∧ q.1 ≠ d ∧ q.1 ≠ 140 ∧ q.1 ≠ 147
section
variable {V dv Ln x d : Addr} {o1 o2 o3 o4 o5 o6 o7 o' : Obj} {rest : List (Addr × Obj)}
theorem Off7.nil : Off7 V dv Ln x d [] := fun _ q => nomatch q
theorem Off7.cons {T : Addr} {o : Obj} (hT : ∀ q ∈ led7 V o1 dv o2 Ln o3 x o4 d o5 o6 o7 rest, q.1 ≠ T) (R : Off7 V dv Ln x d rest) : Off7 V dv Ln x d ((T, o) :: rest) := by
  intro q hq
  rcases List.mem_cons.mp hq with rfl | hq
  · exact ⟨(hT _ (.head _)).symm, (hT _ (.tail _ (.head _))).symm, (hT _ (.tail _ (.tail _ (.head _)))).symm, (hT _ (.tail _ (.tail _ (.tail _ (.head _))))).symm, (hT _ (.tail _ (.tail _ (.tail _ (.tail _ (.head _)))))).symm, (hT _ (.tail _ (.tail _ (.tail _ (.tail _ (.tail _ (.head _))))))).symm, (hT _ (.tail _ (.tail _ (.tail _ (.tail _ (.tail _ (.tail _ (.head _)))))))).symm⟩
  · exact R q hq
theorem Apart.L (H : Apart V dv Ln x d) (R : Off7 V dv Ln x d rest) : Upd Ln o3 o' (led7 V o1 dv o2 Ln o3 x o4 d o5 o6 o7 rest) (led7 V o1 dv o2 Ln o' x o4 d o5 o6 o7 rest) :=
  .tail H.n11 (.tail H.n16 (.head (by
    rintro q (_ | ⟨_, _ | ⟨_, _ | ⟨_, _ | ⟨_, hq⟩⟩⟩⟩)
    · exact H.n1.symm
    · exact H.n2.symm
    · exact H.n3.symm
    · exact H.n4.symm
    · exact (R q hq).2.2.1)))
theorem Apart.X (H : Apart V dv Ln x d) (R : Off7 V dv Ln x d rest) : Upd x o4 o' (led7 V o1 dv o2 Ln o3 x o4 d o5 o6 o7 rest) (led7 V o1 dv o2 Ln o3 x o' d o5 o6 o7 rest) :=
  .tail H.n12 (.tail H.n17 (.tail H.n1 (.head (by
    rintro q (_ | ⟨_, _ | ⟨_, _ | ⟨_, hq⟩⟩⟩)
    · exact H.n5.symm
    · exact H.n6.symm
    · exact H.n7.symm
    · exact (R q hq).2.2.2.1))))
theorem Apart.D (H : Apart V dv Ln x d) (R : Off7 V dv Ln x d rest) : Upd d o5 o' (led7 V o1 dv o2 Ln o3 x o4 d o5 o6 o7 rest) (led7 V o1 dv o2 Ln o3 x o4 d o' o6 o7 rest) :=
  .tail H.n13 (.tail H.n18 (.tail H.n2 (.tail H.n5 (.head (by
    rintro q (_ | ⟨_, _ | ⟨_, hq⟩⟩)
    · exact H.n8.symm
    · exact H.n9.symm
    · exact (R q hq).2.2.2.2.1)))))
theorem Apart.T (H : Apart V dv Ln x d) (R : Off7 V dv Ln x d rest) : Upd 140 o6 o' (led7 V o1 dv o2 Ln o3 x o4 d o5 o6 o7 rest) (led7 V o1 dv o2 Ln o3 x o4 d o5 o' o7 rest) :=
  .tail H.n14 (.tail H.n19 (.tail H.n3 (.tail H.n6 (.tail H.n8 (.head (by
    rintro q (_ | ⟨_, hq⟩)
    · exact (show (147 : Nat) ≠ 140 by decide)
    · exact (R q hq).2.2.2.2.2.1))))))
theorem Apart.S (H : Apart V dv Ln x d) (R : Off7 V dv Ln x d rest) : Upd 147 o7 o' (led7 V o1 dv o2 Ln o3 x o4 d o5 o6 o7 rest) (led7 V o1 dv o2 Ln o3 x o4 d o5 o6 o' rest) :=
  .tail H.n15 (.tail H.n20 (.tail H.n4 (.tail H.n7 (.tail H.n9 (.tail (show (140 : Nat) ≠ 147 by decide) (.head fun q hq => (R q hq).2.2.2.2.2.2))))))
end
/-- a new object goes behind the cells -/
theorem news_behind {g h : Heap} {L V dv Ln x d T : Addr} {o o1 o2 o3 o4 o5 o6 o7 : Obj} {rest : List (Addr × Obj)} (N : News g L h ((T, o) :: led7 V o1 dv o2 Ln o3 x o4 d o5 o6 o7 rest)) : News g L h (led7 V o1 dv o2 Ln o3 x o4 d o5 o6 o7 ((T, o) :: rest)) := by
  intro q hq
  refine N q ?_
  simp only [led7, List.mem_cons] at hq ⊢
  rcases hq with h | h | h | h | h | h | h | h | h <;> simp [h]
theorem ne_cls {h : Heap} {b c : Addr} {o o' : Obj} (e : h.get? b = some o) (e' : h.get? c = some o') (hc : o.cls ≠ o'.cls) : b ≠ c := fun q => hc (by subst q; rw [e] at e'; cases e'; rfl)
/-- a formatter lies in the heap -/
structure VFAt (h : Heap) (V dv Ln x d : Addr) (mx : Int) (sg : Str) (lines : List Str) (l : List (Str × Str)) (i0 : Int) (hh : Nat → Int) (tt : Nat → Tok) (tm : Tok) (vc vl : Value) (tsg : Tok) (nd : Nat) (lns : List Value) (nl : Nat) (ps : Array Value) (n : Nat) (hs0 : Int) (t0 ti : Tok) (n0 : Nat) (tb tc : Array Value) : Prop where
  hV : h.get? V = some (instObj 94 dv)
  hdv : h.get? dv = some (vfDict hh tt (.int mx tm) vc vl (.str sg tsg) Ln x nd)
  hLn : h.get? Ln = some (listOf lns.toArray nl)
  hls : StrsAre lns lines
  hx : h.get? x = some (acObj d ps n)
  hd : h.get? d = some (acDict hs0 t0 (.int i0 ti) n0)
  hP : h.get? 140 = some (tabObj tb)
  htr : TriplesOk tb.toList
  hP2 : h.get? 147 = some (tabObj tc)
  htr2 : TriplesOk tc.toList
  hp : Parts h ps l
structure OffG (G : Heap) (V dv Ln x d : Addr) : Prop where
  hV : G.get? V = none
  hdv : G.get? dv = none
  hLn : G.get? Ln = none
  hx : G.get? x = none
  hd : G.get? d = none
  hP : G.get? 140 = none
  hP2 : G.get? 147 = none
section
variable {h : Heap} {V dv Ln x d : Addr} {mx : Int} {sg : Str} {lines : List Str} {l : List (Str × Str)} {i0 : Int} {hh : Nat → Int} {tt : Nat → Tok} {tm : Tok} {vc vl : Value} {tsg : Tok} {nd : Nat} {lns : List Value} {nl : Nat} {ps : Array Value} {n : Nat} {hs0 : Int} {t0 ti : Tok} {n0 : Nat} {tb tc : Array Value}
theorem VFAt.apart (H : VFAt h V dv Ln x d mx sg lines l i0 hh tt tm vc vl tsg nd lns nl ps n hs0 t0 ti n0 tb tc) : Apart V dv Ln x d where
  n1 := ne_cls H.hLn H.hx (by simp)
  n2 := ne_cls H.hLn H.hd (by simp)
  n3 := ne_cls H.hLn H.hP (by simp)
  n4 := ne_cls H.hLn H.hP2 (by simp)
  n5 := ne_cls H.hx H.hd (by simp)
  n6 := ne_cls H.hx H.hP (by simp)
  n7 := ne_cls H.hx H.hP2 (by simp)
  n8 := ne_cls H.hd H.hP (by simp)
  n9 := ne_cls H.hd H.hP2 (by simp)
  n10 := ne_cls H.hV H.hdv (by simp)
  n11 := ne_cls H.hV H.hLn (by simp)
  n12 := ne_cls H.hV H.hx (by simp)
  n13 := ne_cls H.hV H.hd (by simp)
  n14 := ne_cls H.hV H.hP (by simp)
  n15 := ne_cls H.hV H.hP2 (by simp)
  n16 := ne_cls H.hdv H.hLn (by simp)
  n17 := ne_cls H.hdv H.hx (by simp)
  n18 := by rintro rfl; have := H.hdv; rw [H.hd] at this; simp at this
  n19 := ne_cls H.hdv H.hP (by simp)
  n20 := ne_cls H.hdv H.hP2 (by simp)
theorem VFAt.off {o : Obj} {b : Addr} (H : VFAt h V dv Ln x d mx sg lines l i0 hh tt tm vc vl tsg nd lns nl ps n hs0 t0 ti n0 tb tc) (e : h.get? b = some o) (hc : o.cls = .type "tuple") : b ≠ V ∧ b ≠ dv ∧ b ≠ Ln ∧ b ≠ x ∧ b ≠ d ∧ b ≠ 140 ∧ b ≠ 147 :=
  ⟨ne_cls e H.hV (by simp [hc]), ne_cls e H.hdv (by simp [hc]), ne_cls e H.hLn (by simp [hc]), ne_cls e H.hx (by simp [hc]), ne_cls e H.hd (by simp [hc]), ne_cls e H.hP (by simp [hc]), ne_cls e H.hP2 (by simp [hc])⟩
end
section
variable {w : World} {p : Program} {loose : List Str} {mean : ExcName → Option Value} {mg mb : Str → Option Value} {G : Heap} {s : Shared}
  {R : Result → Shared → Prop} {name qual : Str} {params : Arguments} {body : List Stmt} {scope : Scope} {cl : List (Str × Addr)} {dV kV doc pm cdv ct oc : Value} {an od : Option Addr} {osl : Array (Option Value)} {f : Addr} {args : Args} {binds : List (Str × Value)} {dp un : Nat}
  {V dv Ln x d : Addr} {mx : Int} {sg : Str} {lines : List Str} {l : List (Str × Str)} {i0 : Int} {hh : Nat → Int} {tt : Nat → Tok} {tm : Tok} {vc vl : Value} {tsg : Tok} {nd : Nat} {lns : List Value} {nl : Nat} {ps : Array Value} {n : Nat} {hs0 : Int} {t0 ti : Tok} {n0 : Nat} {tb tc : Array Value}
/-- a method of a formatter is entered -/
theorem enterV (H : VFAt s.heap V dv Ln x d mx sg lines l i0 hh tt tm vc vl tsg nd lns nl ps n hs0 t0 ti n0 tb tc) (O : OffG G V dv Ln x d) (D : Gd w p loose mean mg mb G) (S : G.StaysIn s.heap)
    (ho : (hd.heap_1 w.params).lookup f = some ⟨oc, od, .func (fnX name qual params body scope cl dV kV doc pm an cdv ct), osl⟩) (hcd : codeIn (hd.heap_1 w.params) cdv qual = true) (hroom : dp < recursionLimit)
    (hbind : BindsTo s (fnX name qual params body scope cl dV kV doc pm an cdv ct) args binds) (hloc : ∀ y ∈ binds, scope.names.lookup y.1 = some .local)
    (hcell : ∀ x ∈ scope.names, x.2 ≠ .cell) (hco : scope.isCoroutine = false) (hgen : scope.isGenerator = false) (hk : scope.kind = .function)
    (h : ∀ g L' h₁, L' = s.heap.objs.size → Fr g L' h₁ (fun y => binds.reverse.lookup y) → News g L' h₁ (led7 V (instObj 94 dv) dv (vfDict hh tt (.int mx tm) vc vl (.str sg tsg) Ln x nd) Ln (listOf lns.toArray nl) x (acObj d ps n) d (acDict hs0 t0 (.int i0 ti) n0) (tabObj tb) (tabObj tc) []) → (hd.heap_1 w.params).In g → Top p loose mean mg mb g →
      (∀ b o, s.heap.get? b = some o → b ≠ V → b ≠ dv → b ≠ Ln → b ≠ x → b ≠ d → b ≠ 140 → b ≠ 147 → g.get? b = some o) → G.StaysIn g → Parts g ps l →
      wpAny (model Challenge.rw_oc0165_01.row.prog w) (Am (dp + 1) (un + 3)) (execs body (envX qual scope L' f cdv cl)) (fun fl s' => R (.ok (.ret (match fl with | .ret v => v | _ => .none))) s') (fun _ _ => False)
        { s with heap := h₁, toks := s.toks + binds.length }) : codeAny (model Challenge.rw_oc0165_01.row.prog w) (Am dp un) (.call (.ref f) args) R s := by
  refine enterP (led7 V (instObj 94 dv) dv (vfDict hh tt (.int mx tm) vc vl (.str sg tsg) Ln x nd) Ln (listOf lns.toArray nl) x (acObj d ps n) d (acDict hs0 t0 (.int i0 ti) n0) (tabObj tb) (tabObj tc) []) D S ?_ ?_ ho hcd hroom hbind hloc hcell hco hgen hk ?_
  · rintro q (_ | ⟨_, _ | ⟨_, _ | ⟨_, _ | ⟨_, _ | ⟨_, _ | ⟨_, _ | ⟨_, hq⟩⟩⟩⟩⟩⟩⟩)
    · exact H.hV
    · exact H.hdv
    · exact H.hLn
    · exact H.hx
    · exact H.hd
    · exact H.hP
    · exact H.hP2
    · cases hq
  · rintro q (_ | ⟨_, _ | ⟨_, _ | ⟨_, _ | ⟨_, _ | ⟨_, _ | ⟨_, _ | ⟨_, hq⟩⟩⟩⟩⟩⟩⟩)
    · exact O.hV
    · exact O.hdv
    · exact O.hLn
    · exact O.hx
    · exact O.hd
    · exact O.hP
    · exact O.hP2
    · cases hq
  · intro g L h₁ hg hL F N X T l1 hkeep hst
    replace hkeep : ∀ b o, s.heap.get? b = some o → b ≠ V → b ≠ dv → b ≠ Ln → b ≠ x → b ≠ d → b ≠ 140 → b ≠ 147 → g.get? b = some o := fun b o e hb6 hb7 hb1 hb2 hb3 hb4 hb5 => hkeep b o e (by
      rintro q (_ | ⟨_, _ | ⟨_, _ | ⟨_, _ | ⟨_, _ | ⟨_, _ | ⟨_, _ | ⟨_, hq⟩⟩⟩⟩⟩⟩⟩)
      · exact hb6.symm
      · exact hb7.symm
      · exact hb1.symm
      · exact hb2.symm
      · exact hb3.symm
      · exact hb4.symm
      · exact hb5.symm
      · cases hq)
    exact h g L h₁ hL F N X T hkeep hst (H.hp.at fun b o e hc => have ⟨a1, a2, a3, a4, a5, a6, a7⟩ := H.off e hc; hkeep b o e a1 a2 a3 a4 a5 a6 a7)
end
end Mine
end

section
-- Vf1a
example : True := by w_top off; trivial
open PySem PySem.W PyProof.Rows PySem.Calls PySem.Spec
set_option maxRecDepth 100000
namespace Mine
section
variable {w : World} {A : Around} {E : Value → Shared → Prop} {s : Shared} {g : Heap} {L x d : Addr} {m : Str → Option Value} {nw nw' : List (Addr × Obj)} {ps : Array Value} {n : Nat}
theorem m_item {value slice : Expr} {k : Int} {u : Tok} {y : Value} {Q : Value → Shared → Prop} (F : Fr g L s.heap m) (N : News g L s.heap nw) (X : (hd.heap_1 w.params).In g) (hx : (x, acObj d ps n) ∈ nw ∨ g.get? x = some (acObj d ps n)) (hz : ps.size ≤ 1000) (h0 : 0 ≤ k) (hy : ps[k.toNat]? = some y) (h : Q y s)
    (hs : subscripted slice false (.ref x) (.int k u) = operate [.ref x, .int k u] (getItem (.ref x) (.int k u))) :
    wpAny (model Challenge.rw_oc0165_01.row.prog w) A (subscriptTail value slice (.ref x) (.int k u)) Q E s :=
  ac_tail (X.keeps F.keep) (at_of F N hx) (ac_item (X.keeps F.keep) (at_of F N hx) hz h0 hy h) hs
end
theorem news_rest {g h : Heap} {L V dv Ln x d : Addr} {q : Addr × Obj} {o1 o2 o3 o4 o5 o6 o7 : Obj} {rest : List (Addr × Obj)} (N : News g L h (led7 V o1 dv o2 Ln o3 x o4 d o5 o6 o7 rest)) (hq : q ∈ rest) : h.get? q.1 = some q.2 :=
  (N _ (.tail _ (.tail _ (.tail _ (.tail _ (.tail _ (.tail _ (.tail _ hq)))))))).1
theorem VFAt.of_news {g h : Heap} {L V dv Ln x d : Addr} {mx : Int} {sg : Str} {lines : List Str} {l : List (Str × Str)} {i0 : Int} {hh : Nat → Int} {tt : Nat → Tok} {tm : Tok} {vc vl : Value} {tsg : Tok} {nd : Nat} {lns : List Value} {nl : Nat} {ps : Array Value} {n : Nat} {hs0 : Int} {t0 ti : Tok} {n0 : Nat} {tb tc : Array Value} {rest : List (Addr × Obj)}
    (N : News g L h (led7 V (instObj 94 dv) dv (vfDict hh tt (.int mx tm) vc vl (.str sg tsg) Ln x nd) Ln (listOf lns.toArray nl) x (acObj d ps n) d (acDict hs0 t0 (.int i0 ti) n0) (tabObj tb) (tabObj tc) rest)) (hls : StrsAre lns lines) (htr : TriplesOk tb.toList) (htr2 : TriplesOk tc.toList) (hp : Parts h ps l) :
    VFAt h V dv Ln x d mx sg lines l i0 hh tt tm vc vl tsg nd lns nl ps n hs0 t0 ti n0 tb tc :=
  ⟨(N _ (.head _)).1, (N _ (.tail _ (.head _))).1, (N _ (.tail _ (.tail _ (.head _)))).1, hls, (N _ (.tail _ (.tail _ (.tail _ (.head _))))).1, (N _ (.tail _ (.tail _ (.tail _ (.tail _ (.head _)))))).1, (N _ (.tail _ (.tail _ (.tail _ (.tail _ (.tail _ (.head _))))))).1, htr, (N _ (.tail _ (.tail _ (.tail _ (.tail _ (.tail _ (.tail _ (.head _)))))))).1, htr2, hp⟩
noncomputable def hitAt (c : Nat) (l : List (Str × Str)) (i : Nat) : Bool := (l.getD (i - 1) (Str.empty, Str.empty)).2.cps.back? == some c
theorem item_last {x : Str} {c : Nat} (h : 1 ≤ x.length) : (Txt.item x (-1) == ⟨#[c]⟩) = (x.cps.back? == some c) := by
  have e : Txt.item x (-1) = ⟨#[x.cps.getD (x.length - 1) 0]⟩ := by
    have := PyProof.Rows.item_closes_neg (x := x) (i := -1) (j := -1 + x.length) (by decide) (by omega) rfl
    have e2 : (-1 + (x.length : Int)).toNat = x.length - 1 := by omega
    rw [e2] at this
    exact eq_of_beq this
  have hsz : x.cps.size - 1 < x.cps.size := by have : x.length = x.cps.size := rfl; omega
  have e3 : x.cps.back? = some (x.cps.getD (x.length - 1) 0) := by
    rw [Array.back?_eq_getElem?]
    show x.cps[x.cps.size - 1]? = some (x.cps.getD (x.cps.size - 1) 0)
    simp [Array.getD, hsz]
  rw [e, e3]
  generalize x.cps.getD (x.length - 1) 0 = k
  by_cases hk : k = c
  · subst hk; simp
  · have h1 : ((⟨#[k]⟩ : Str) == ⟨#[c]⟩) = false := by
      rw [beq_eq_false_iff_ne]; intro h; apply hk; injection h with h; simpa using h
    rw [h1]; simp [hk]
theorem news_drop {g h : Heap} {L V dv Ln x d : Addr} {o1 o2 o3 o4 o5 o6 o7 : Obj} {a : Addr × Obj} {r : List (Addr × Obj)} (N : News g L h (led7 V o1 dv o2 Ln o3 x o4 d o5 o6 o7 (a :: r))) : News g L h (led7 V o1 dv o2 Ln o3 x o4 d o5 o6 o7 [a]) := by
  intro q hq
  refine N q ?_
  simp only [led7, List.mem_cons, List.not_mem_nil, or_false] at hq ⊢
  rcases hq with h | h | h | h | h | h | h | h <;> simp [h]
/-- the last place, from i down to 1, behind a part that ends with the sign -/
noncomputable def findI (c : Nat) (l : List (Str × Str)) : Nat → Option Nat
  | 0 => none
  | i + 1 => if hitAt c l (i + 1) then some (i + 1) else findI c l i
theorem findI_miss {c : Nat} {l : List (Str × Str)} : ∀ k, (∀ j, j < k → hitAt c l (k - j) = false) → findI c l k = none
  | 0, _ => rfl
  | k + 1, h => by
    have h0 := h 0 (Nat.succ_pos _)
    simp only [Nat.sub_zero] at h0
    simp only [findI, h0]
    exact findI_miss k fun j hj => by
      have := h (j + 1) (by omega)
      rwa [Nat.add_sub_add_right] at this
theorem findI_hit {c : Nat} {l : List (Str × Str)} : ∀ k i, (∀ j, j < i → hitAt c l (k - j) = false) → i < k → hitAt c l (k - i) = true → findI c l k = some (k - i)
  | 0, i, _, hi, _ => absurd hi (Nat.not_lt_zero _)
  | k + 1, 0, h, hi, ht => by simp only [Nat.sub_zero] at ht; simp [findI, ht]
  | k + 1, i + 1, h, hi, ht => by
    have h0 := h 0 (Nat.succ_pos _)
    simp only [Nat.sub_zero] at h0
    simp only [findI, h0]
    rw [Nat.add_sub_add_right] at ht ⊢
    exact findI_hit k i (fun j hj => by
      have := h (j + 1) (by omega)
      rwa [Nat.add_sub_add_right] at this) (by omega) ht
noncomputable def findS (sg : List Nat) (l : List (Str × Str)) : Option Nat := sg.findSome? fun c => findI c l (l.length - 1)
/-- what appending a part does to the lines, the parts of the current line and its first size -/
noncomputable def chunkF (mx : Int) (sg : List Nat) (st : List Str × List (Str × Str) × Int) (q : Str × Str) : List Str × List (Str × Str) × Int :=
  if st.2.2 + (lenOf (st.2.1 ++ [q]) : Nat) ≤ mx then (st.1, st.2.1 ++ [q], st.2.2) else
    match findS sg (st.2.1 ++ [q]) with
    | some i => (st.1 ++ [strOf ((st.2.1 ++ [q]).take i)], (st.2.1 ++ [q]).drop i, 0)
    | none => (st.1, st.2.1 ++ [q], st.2.2)
end Mine
end

section
-- Vf1
example : True := by w_top off; trivial
open PySem PySem.W PyProof.Rows PySem.Calls PySem.Spec
set_option maxRecDepth 100000
namespace Mine
theorem findS_some {sg : Str} {l : List (Str × Str)} {k c r : Nat} (hc : sg.cps[k]? = some c) (hno : ∀ j c', j < k → sg.cps[j]? = some c' → findI c' l (l.length - 1) = none) (h1 : findI c l (l.length - 1) = some r) : findS sg.cps.toList l = some r := by
  have hk : k < sg.cps.size := (Array.getElem?_eq_some_iff.mp hc).1
  have e : sg.cps.toList = sg.cps.toList.take k ++ c :: sg.cps.toList.drop (k + 1) := by
    have hk' : k < sg.cps.toList.length := by simpa using hk
    have := List.getElem_cons_drop hk'
    have hc' : sg.cps.toList[k] = c := by
      have := (Array.getElem?_eq_some_iff.mp hc).2
      simpa using this
    rw [hc'] at this
    rw [this, List.take_append_drop]
  rw [findS, e, List.findSome?_append]
  have h2 : (sg.cps.toList.take k).findSome? (fun c => findI c l (l.length - 1)) = none := by
    rw [List.findSome?_eq_none_iff]
    intro c' hc'
    obtain ⟨j, hj, ej⟩ := List.getElem_of_mem hc'
    have hjk : j < k := by have h := hj; rw [List.length_take] at h; (first | lia | omega)
    exact hno j c' hjk (by rw [← ej]; simp)
  rw [h2]
  simp [h1]
theorem post_brk {h₀ : Heap} {L : Addr} {own : List (Addr × Obj)} {J : (Str → Option Value) → List (Addr × Obj) → Array GenState → Prop} {d : Drawn} {os : OsState} {Q : Flow → Shared → Prop} {s : Shared} (h : Q .next s) : LoopPost h₀ L own J d os Q .brk s := h
/-- what holds between the turns of the loop over the splitting signs, and of the one over the parts -/
inductive VfI (g0 : Array GenState) (nw0 : List (Addr × Obj)) (sg : Str) (l' : List (Str × Str)) (V : Addr) (va vb : Value) (k : Nat) (m : Str → Option Value) (nw : List (Addr × Obj)) (gs : Array GenState) : Prop
  | mk (eg : gs = g0) (en : nw = nw0) (m1 : m "self" = some (.ref V)) (m2 : m "fws" = some va) (m3 : m "string" = some vb) (hno : ∀ j c, j < k → sg.cps[j]? = some c → findI c l' (l'.length - 1) = none)
inductive VfJ (g0 : Array GenState) (nw0 : List (Addr × Obj)) (c : Nat) (uc : Tok) (ln : Nat) (l' : List (Str × Str)) (V : Addr) (va vb : Value) (k : Nat) (m : Str → Option Value) (nw : List (Addr × Obj)) (gs : Array GenState) : Prop
  | mk (eg : gs = g0) (en : nw = nw0) (m0 : m "ch" = some (.str ⟨#[c]⟩ uc)) (m1 : m "self" = some (.ref V)) (m2 : m "fws" = some va) (m3 : m "string" = some vb) (hmiss : ∀ j, j < k → hitAt c l' (ln - j) = false)
section
variable {w : World} {p : Program} {loose : List Str} {mean : ExcName → Option Value} {mg mb : Str → Option Value} {G : Heap} {s : Shared} {Q E : Value → Shared → Prop}
  {V dv Ln x d : Addr} {mx : Int} {sg : Str} {lines : List Str} {l : List (Str × Str)} {i0 : Int} {hh : Nat → Int} {tt : Nat → Tok} {tm : Tok} {vc vl : Value} {tsg : Tok} {nd : Nat} {lns : List Value} {nl : Nat} {ps : Array Value} {n : Nat} {hs0 : Int} {t0 ti : Tok} {n0 : Nat} {tb tc : Array Value}
set_option maxHeartbeats 1000000
theorem c_chunk {a b : Str} {ta1 tb1 : Tok} (D : Gd w p loose mean mg mb G) (St : G.StaysIn s.heap) (H : VFAt s.heap V dv Ln x d mx sg lines l i0 hh tt tm vc vl tsg nd lns nl ps n hs0 t0 ti n0 tb tc) (O : OffG G V dv Ln x d)
    (hbare : AllBare s.gens) (hsh : Short (l ++ [(a, b)])) (hi0 : 0 ≤ i0) (hi1 : i0 ≤ 1000) (hlc : lines.length ≤ 1000) (hsg : ∀ c ∈ sg.cps.toList, Txt.isspace ⟨#[c]⟩ = false) (hzero : mx < i0 + (lenOf (l ++ [(a, b)]) : Nat) → findS sg.cps.toList (l ++ [(a, b)]) = none → i0 = 0)
    (hret : ∀ s' lines' l' i0' lns' nl' ps' n' ti' tb' tc', VFAt s'.heap V dv Ln x d mx sg lines' l' i0' hh tt tm vc vl tsg nd lns' nl' ps' n' hs0 t0 ti' n0 tb' tc' → (∀ b o, s.heap.get? b = some o → b ≠ V → b ≠ dv → b ≠ Ln → b ≠ x → b ≠ d → b ≠ 140 → b ≠ 147 → s'.heap.get? b = some o) →
      (∀ T, Value.ref T ∈ ps'.toList → Value.ref T ∈ ps.toList ∨ s.heap.get? T = none) → AllBare s'.gens → s'.drawn = s.drawn → s'.os = s.os → (lines', l', i0') = chunkF mx sg.cps.toList (lines, l, i0) (a, b) → Q .none s') :
    wpAny (model Challenge.rw_oc0165_01.row.prog w) (Am 600 400) (call (.ref 91) [.ref V, .str a ta1, .str b tb1]) Q E s := by
  have fill : (hd.heap_1 w.params).In G := D.X
  revert fill
  k_fill
  intro _
  refine wpAny_call ?_
  refine' enterV (binds := [("self", .ref V), ("fws", .str a ta1), ("string", .str b tb1)]) H O D St ?k6 ?k7 ?k8 ?k9 ?kB ?c5 ?c2 ?c3 ?c4 ?_
  (((case k6 => k_is); (case k7 => k_is); (case k8 => decide)))
  case k9 => exact BindsTo.of_eq rfl
  (((case kB => exact locs rfl); (case c5 => decide); (case c2 => exact rfl); (case c3 => exact rfl); (case c4 => exact rfl)))
  intro g L h hL F N X T hkeep hst hpg
  have HA := H.apart
  dsimp only
  try k_fold
  (repeat' (first | (fail_if_success (with_reducible show wpAny _ _ (exec (Stmt.For _ _ _ _ _) _) _ _ _)); (first | (k_unfold; (try dsimp only)) | (first | ((with_reducible show wpAny _ _ (getMethod (Value.ref _) _ _) _ _ _); (k_here; k_dflt (refine' m_method ?k1 ?k2 ?k3 ?k4 ?k5 ?k6 ?k7 ?k8 ?k9 ?_; (case k1 => k_asm); (case k2 => k_asm); (case k3 => k_asm); (case k4 => (first | exact .inr (by assumption) | exact .inl (by k_mem))); (case k5 => (first | exact .inr (by assumption) | exact .inl (by k_mem))); (case k6 => k_is); (case k7 => k_is); (case k8 => decide +kernel); (case k9 => rfl)))) | ((with_reducible show wpAny _ _ (getAttr (Value.ref _) _ _) _ _ _); (k_here; (with_reducible show wpAny _ _ (getAttr (Value.ref _) "_initial_size" _) _ _ _); k_dflt (refine' m_getattr ?k1 ?k2 ?k3 ?k4 ?k5 ?k6 ?_; (case k1 => k_asm); (case k2 => k_asm); (case k3 => k_asm); (case k4 => (first | exact .inr (by assumption) | exact .inl (by k_mem))); (case k5 => (first | exact .inr (by assumption) | exact .inl (by k_mem))); (case k6 => rfl)))) | walk1) | (dsimp only; (first | ((with_reducible show wpAny _ _ (getMethod (Value.ref _) _ _) _ _ _); (k_here; k_dflt (refine' m_method ?k1 ?k2 ?k3 ?k4 ?k5 ?k6 ?k7 ?k8 ?k9 ?_; (case k1 => k_asm); (case k2 => k_asm); (case k3 => k_asm); (case k4 => (first | exact .inr (by assumption) | exact .inl (by k_mem))); (case k5 => (first | exact .inr (by assumption) | exact .inl (by k_mem))); (case k6 => k_is); (case k7 => k_is); (case k8 => decide +kernel); (case k9 => rfl)))) | ((with_reducible show wpAny _ _ (getAttr (Value.ref _) _ _) _ _ _); (k_here; (with_reducible show wpAny _ _ (getAttr (Value.ref _) "_initial_size" _) _ _ _); k_dflt (refine' m_getattr ?k1 ?k2 ?k3 ?k4 ?k5 ?k6 ?_; (case k1 => k_asm); (case k2 => k_asm); (case k3 => k_asm); (case k4 => (first | exact .inr (by assumption) | exact .inl (by k_mem))); (case k5 => (first | exact .inr (by assumption) | exact .inl (by k_mem))); (case k6 => rfl)))) | walk1)))))
  have hsz := hpg.1
  have hl100 : l.length + 1 ≤ 100 := by have := hsh.1; simpa using this
  rename Fr _ _ _ _ => F1
  rename News _ _ _ _ => N1
  refine u_push (d := d) (ps := ps) (n := n) F1 N1 D hst rfl (by decide) (by decide) (fun T n' => HA.X .nil) (.inl (by k_mem)) O.hx (by omega) ?_
  intro h2 tk2 n2' Tn u1 u2 F2 N2 hT
  clear F1 N1
  have R2 : Off7 V dv Ln x d [(Tn, { cls := .type "tuple", data := .seq #[.str a u1, .str b u2] })] := Off7.cons hT .nil
  replace N2 := news_behind N2
  have hTn : s.heap.get? Tn = none := by
    cases e : s.heap.get? Tn with
    | none => rfl
    | some o =>
      obtain ⟨a1, a2, a3, a4, a5, a6, a7⟩ := R2 _ (.head _)
      have e2 := hkeep _ _ e a1 a2 a3 a4 a5 a6 a7
      rw [(N2 _ (.tail _ (.tail _ (.tail _ (.tail _ (.tail _ (.tail _ (.tail _ (.head _)))))))) ).2.2] at e2; cases e2
  have hnew : ∀ T, Value.ref T ∈ (ps.push (.ref Tn)).toList → Value.ref T ∈ ps.toList ∨ s.heap.get? T = none := fun T hT => by
    rw [Array.toList_push] at hT
    rcases List.mem_append.mp hT with h | h
    · exact .inl h
    · cases List.mem_singleton.mp h; exact .inr hTn
  have hpp : ∀ {h' : Heap} {m'}, Fr g L h' m' → h'.get? Tn = some { cls := .type "tuple", data := .seq #[.str a u1, .str b u2] } → Parts h' (ps.push (.ref Tn)) (l ++ [(a, b)]) := fun F' e => (hpg.keeps F'.keep).push e
  (repeat' (first | (fail_if_success (with_reducible show wpAny _ _ (exec (Stmt.For _ _ _ _ _) _) _ _ _)); (first | (k_unfold; (try dsimp only)) | (first | ((with_reducible show wpAny _ _ (getMethod (Value.ref _) _ _) _ _ _); (k_here; k_dflt (refine' m_method ?k1 ?k2 ?k3 ?k4 ?k5 ?k6 ?k7 ?k8 ?k9 ?_; (case k1 => k_asm); (case k2 => k_asm); (case k3 => k_asm); (case k4 => (first | exact .inr (by assumption) | exact .inl (by k_mem))); (case k5 => (first | exact .inr (by assumption) | exact .inl (by k_mem))); (case k6 => k_is); (case k7 => k_is); (case k8 => decide +kernel); (case k9 => rfl)))) | ((with_reducible show wpAny _ _ (getAttr (Value.ref _) _ _) _ _ _); (k_here; (with_reducible show wpAny _ _ (getAttr (Value.ref _) "_initial_size" _) _ _ _); k_dflt (refine' m_getattr ?k1 ?k2 ?k3 ?k4 ?k5 ?k6 ?_; (case k1 => k_asm); (case k2 => k_asm); (case k3 => k_asm); (case k4 => (first | exact .inr (by assumption) | exact .inl (by k_mem))); (case k5 => (first | exact .inr (by assumption) | exact .inl (by k_mem))); (case k6 => rfl)))) | walk1) | (dsimp only; (first | ((with_reducible show wpAny _ _ (getMethod (Value.ref _) _ _) _ _ _); (k_here; k_dflt (refine' m_method ?k1 ?k2 ?k3 ?k4 ?k5 ?k6 ?k7 ?k8 ?k9 ?_; (case k1 => k_asm); (case k2 => k_asm); (case k3 => k_asm); (case k4 => (first | exact .inr (by assumption) | exact .inl (by k_mem))); (case k5 => (first | exact .inr (by assumption) | exact .inl (by k_mem))); (case k6 => k_is); (case k7 => k_is); (case k8 => decide +kernel); (case k9 => rfl)))) | ((with_reducible show wpAny _ _ (getAttr (Value.ref _) _ _) _ _ _); (k_here; (with_reducible show wpAny _ _ (getAttr (Value.ref _) "_initial_size" _) _ _ _); k_dflt (refine' m_getattr ?k1 ?k2 ?k3 ?k4 ?k5 ?k6 ?_; (case k1 => k_asm); (case k2 => k_asm); (case k3 => k_asm); (case k4 => (first | exact .inr (by assumption) | exact .inl (by k_mem))); (case k5 => (first | exact .inr (by assumption) | exact .inl (by k_mem))); (case k6 => rfl)))) | walk1)))))
  rename Fr _ _ _ _ => F3
  rename News _ _ _ _ => N3
  refine u_len F3 N3 X D hst rfl (by decide) (by decide) (.inl (by k_mem)) (.inl (by k_mem)) (fun tb' => HA.T R2) H.htr O.hP hbare (hpp F3 (news_rest N3 (.head _))) hsh hi0 hi1 ?_
  intro h4 gs4 tk4 t4 tb4 F4 N4 htr4 hb4 hk4
  clear F3 N3
  (repeat' (first | (fail_if_success (with_reducible show wpAny _ _ (exec (Stmt.For _ _ _ _ _) _) _ _ _)); (first | (k_unfold; (try dsimp only)) | (first | ((with_reducible show wpAny _ _ (getMethod (Value.ref _) _ _) _ _ _); (k_here; k_dflt (refine' m_method ?k1 ?k2 ?k3 ?k4 ?k5 ?k6 ?k7 ?k8 ?k9 ?_; (case k1 => k_asm); (case k2 => k_asm); (case k3 => k_asm); (case k4 => (first | exact .inr (by assumption) | exact .inl (by k_mem))); (case k5 => (first | exact .inr (by assumption) | exact .inl (by k_mem))); (case k6 => k_is); (case k7 => k_is); (case k8 => decide +kernel); (case k9 => rfl)))) | ((with_reducible show wpAny _ _ (getAttr (Value.ref _) _ _) _ _ _); (k_here; (with_reducible show wpAny _ _ (getAttr (Value.ref _) "_initial_size" _) _ _ _); k_dflt (refine' m_getattr ?k1 ?k2 ?k3 ?k4 ?k5 ?k6 ?_; (case k1 => k_asm); (case k2 => k_asm); (case k3 => k_asm); (case k4 => (first | exact .inr (by assumption) | exact .inl (by k_mem))); (case k5 => (first | exact .inr (by assumption) | exact .inl (by k_mem))); (case k6 => rfl)))) | walk1) | (dsimp only; (first | ((with_reducible show wpAny _ _ (getMethod (Value.ref _) _ _) _ _ _); (k_here; k_dflt (refine' m_method ?k1 ?k2 ?k3 ?k4 ?k5 ?k6 ?k7 ?k8 ?k9 ?_; (case k1 => k_asm); (case k2 => k_asm); (case k3 => k_asm); (case k4 => (first | exact .inr (by assumption) | exact .inl (by k_mem))); (case k5 => (first | exact .inr (by assumption) | exact .inl (by k_mem))); (case k6 => k_is); (case k7 => k_is); (case k8 => decide +kernel); (case k9 => rfl)))) | ((with_reducible show wpAny _ _ (getAttr (Value.ref _) _ _) _ _ _); (k_here; (with_reducible show wpAny _ _ (getAttr (Value.ref _) "_initial_size" _) _ _ _); k_dflt (refine' m_getattr ?k1 ?k2 ?k3 ?k4 ?k5 ?k6 ?_; (case k1 => k_asm); (case k2 => k_asm); (case k3 => k_asm); (case k4 => (first | exact .inr (by assumption) | exact .inl (by k_mem))); (case k5 => (first | exact .inr (by assumption) | exact .inl (by k_mem))); (case k6 => rfl)))) | walk1)))))
  case refine_2 =>
    rename ¬ _ < _ => hle
    refine hret _ lines (l ++ [(a, b)]) i0 _ _ _ _ _ _ _ (VFAt.of_news N4 H.hls htr4 H.htr2 (hpp F4 (news_rest N4 (.head _)))) (fun b o e h1 h2 h3 h4 h5 h6 h7 => F4.keep _ _ (hkeep b o e h1 h2 h3 h4 h5 h6 h7)) hnew hb4 rfl rfl ?_
    unfold chunkF
    rw [if_pos (by show i0 + ((lenOf (l ++ [(a, b)]) : Nat) : Int) ≤ mx; (first | lia | omega))]
  refine wpAny_For ?_ (fun _ => rfl)
  (repeat' (first | (fail_if_success (with_reducible show wpAny _ _ (exec (Stmt.For _ _ _ _ _) _) _ _ _)); (first | (k_unfold; (try dsimp only)) | (first | ((with_reducible show wpAny _ _ (getMethod (Value.ref _) _ _) _ _ _); (k_here; k_dflt (refine' m_method ?k1 ?k2 ?k3 ?k4 ?k5 ?k6 ?k7 ?k8 ?k9 ?_; (case k1 => k_asm); (case k2 => k_asm); (case k3 => k_asm); (case k4 => (first | exact .inr (by assumption) | exact .inl (by k_mem))); (case k5 => (first | exact .inr (by assumption) | exact .inl (by k_mem))); (case k6 => k_is); (case k7 => k_is); (case k8 => decide +kernel); (case k9 => rfl)))) | ((with_reducible show wpAny _ _ (getAttr (Value.ref _) _ _) _ _ _); (k_here; (with_reducible show wpAny _ _ (getAttr (Value.ref _) "_initial_size" _) _ _ _); k_dflt (refine' m_getattr ?k1 ?k2 ?k3 ?k4 ?k5 ?k6 ?_; (case k1 => k_asm); (case k2 => k_asm); (case k3 => k_asm); (case k4 => (first | exact .inr (by assumption) | exact .inl (by k_mem))); (case k5 => (first | exact .inr (by assumption) | exact .inl (by k_mem))); (case k6 => rfl)))) | walk1) | (dsimp only; (first | ((with_reducible show wpAny _ _ (getMethod (Value.ref _) _ _) _ _ _); (k_here; k_dflt (refine' m_method ?k1 ?k2 ?k3 ?k4 ?k5 ?k6 ?k7 ?k8 ?k9 ?_; (case k1 => k_asm); (case k2 => k_asm); (case k3 => k_asm); (case k4 => (first | exact .inr (by assumption) | exact .inl (by k_mem))); (case k5 => (first | exact .inr (by assumption) | exact .inl (by k_mem))); (case k6 => k_is); (case k7 => k_is); (case k8 => decide +kernel); (case k9 => rfl)))) | ((with_reducible show wpAny _ _ (getAttr (Value.ref _) _ _) _ _ _); (k_here; (with_reducible show wpAny _ _ (getAttr (Value.ref _) "_initial_size" _) _ _ _); k_dflt (refine' m_getattr ?k1 ?k2 ?k3 ?k4 ?k5 ?k6 ?_; (case k1 => k_asm); (case k2 => k_asm); (case k3 => k_asm); (case k4 => (first | exact .inr (by assumption) | exact .inl (by k_mem))); (case k5 => (first | exact .inr (by assumption) | exact .inl (by k_mem))); (case k6 => rfl)))) | walk1)))))
  rename Fr _ _ _ _ => F5
  rename News _ _ _ _ => N5
  rename _ < _ => hgt
  refine for_str (VfI gs4 (led7 V (instObj 94 dv) dv (vfDict hh tt (.int mx tm) vc vl (.str sg tsg) Ln x nd) Ln (listOf lns.toArray nl) x (acObj d (ps.push (.ref Tn)) n2') d (acDict hs0 t0 (.int i0 ti) n0) (tabObj tb4) (tabObj tc) [(Tn, { cls := .type "tuple", data := .seq #[.str a u1, .str b u2] })]) sg (l ++ [(a, b)]) V (.str a ta1) (.str b tb1)) rfl F5 N5 ⟨rfl, rfl, rfl, rfl, rfl, fun j c hj => absurd hj (Nat.not_lt_zero _)⟩ rfl rfl ?_ ?_
  · rintro k c uc m nw h6 tk6 gs6 own E6 hc ⟨rfl, rfl, hm1, hm2, hm3, hno⟩ hoff F6 N6
    clear F5 N5
    obtain ⟨m2, rfl⟩ := as_if3 hm1 hm2 hm3
    dsimp only at F6
    clear hm1 hm2 hm3
    replace N6 : News g L h6 (led7 V (instObj 94 dv) dv (vfDict hh tt (.int mx tm) vc vl (.str sg tsg) Ln x nd) Ln (listOf lns.toArray nl) x (acObj d (ps.push (.ref Tn)) n2') d (acDict hs0 t0 (.int i0 ti) n0) (tabObj tb4) (tabObj tc) ((Tn, { cls := .type "tuple", data := .seq #[.str a u1, .str b u2] }) :: own)) := N6
    refine wpAny_execs_cons ?_
    refine wpAny_For ?_ (fun _ => rfl)
    (repeat' (first | (fail_if_success (with_reducible show wpAny _ _ (exec (Stmt.For _ _ _ _ _) _) _ _ _)); (first | (k_unfold; (try dsimp only)) | (first | ((with_reducible show wpAny _ _ (getMethod (Value.ref _) _ _) _ _ _); (k_here; k_dflt (refine' m_method ?k1 ?k2 ?k3 ?k4 ?k5 ?k6 ?k7 ?k8 ?k9 ?_; (case k1 => k_asm); (case k2 => k_asm); (case k3 => k_asm); (case k4 => (first | exact .inr (by assumption) | exact .inl (by k_mem))); (case k5 => (first | exact .inr (by assumption) | exact .inl (by k_mem))); (case k6 => k_is); (case k7 => k_is); (case k8 => decide +kernel); (case k9 => rfl)))) | ((with_reducible show wpAny _ _ (getAttr (Value.ref _) _ _) _ _ _); (k_here; (with_reducible show wpAny _ _ (getAttr (Value.ref _) "_initial_size" _) _ _ _); k_dflt (refine' m_getattr ?k1 ?k2 ?k3 ?k4 ?k5 ?k6 ?_; (case k1 => k_asm); (case k2 => k_asm); (case k3 => k_asm); (case k4 => (first | exact .inr (by assumption) | exact .inl (by k_mem))); (case k5 => (first | exact .inr (by assumption) | exact .inl (by k_mem))); (case k6 => rfl)))) | walk1) | (dsimp only; (first | ((with_reducible show wpAny _ _ (getMethod (Value.ref _) _ _) _ _ _); (k_here; k_dflt (refine' m_method ?k1 ?k2 ?k3 ?k4 ?k5 ?k6 ?k7 ?k8 ?k9 ?_; (case k1 => k_asm); (case k2 => k_asm); (case k3 => k_asm); (case k4 => (first | exact .inr (by assumption) | exact .inl (by k_mem))); (case k5 => (first | exact .inr (by assumption) | exact .inl (by k_mem))); (case k6 => k_is); (case k7 => k_is); (case k8 => decide +kernel); (case k9 => rfl)))) | ((with_reducible show wpAny _ _ (getAttr (Value.ref _) _ _) _ _ _); (k_here; (with_reducible show wpAny _ _ (getAttr (Value.ref _) "_initial_size" _) _ _ _); k_dflt (refine' m_getattr ?k1 ?k2 ?k3 ?k4 ?k5 ?k6 ?_; (case k1 => k_asm); (case k2 => k_asm); (case k3 => k_asm); (case k4 => (first | exact .inr (by assumption) | exact .inl (by k_mem))); (case k5 => (first | exact .inr (by assumption) | exact .inl (by k_mem))); (case k6 => rfl)))) | walk1)))))
    rename Fr _ _ _ _ => F7
    rename News _ _ _ _ => N7
    show wpAny _ _ (call (.ref 175) [.ref x]) _ _ _
    refine u_partcount (d := d) (ps := ps.push (.ref Tn)) (n := n2') F7 N7 D hst rfl (by decide) (by decide) (.inl (by k_mem)) (.inl (by k_mem)) ?_
    intro t8 h8 tk8 F8 N8
    clear F7 N7
    have hps : (ps.push (.ref Tn)).size = l.length + 1 := by simp [hsz]
    rw [hps]
    have hll : (l ++ [(a, b)]).length - 1 = l.length := by simp
    (repeat' (first | (fail_if_success (with_reducible show wpAny _ _ (exec (Stmt.For _ _ _ _ _) _) _ _ _)); (first | (k_unfold; (try dsimp only)) | (first | ((with_reducible show wpAny _ _ (getMethod (Value.ref _) _ _) _ _ _); (k_here; k_dflt (refine' m_method ?k1 ?k2 ?k3 ?k4 ?k5 ?k6 ?k7 ?k8 ?k9 ?_; (case k1 => k_asm); (case k2 => k_asm); (case k3 => k_asm); (case k4 => (first | exact .inr (by assumption) | exact .inl (by k_mem))); (case k5 => (first | exact .inr (by assumption) | exact .inl (by k_mem))); (case k6 => k_is); (case k7 => k_is); (case k8 => decide +kernel); (case k9 => rfl)))) | ((with_reducible show wpAny _ _ (getAttr (Value.ref _) _ _) _ _ _); (k_here; (with_reducible show wpAny _ _ (getAttr (Value.ref _) "_initial_size" _) _ _ _); k_dflt (refine' m_getattr ?k1 ?k2 ?k3 ?k4 ?k5 ?k6 ?_; (case k1 => k_asm); (case k2 => k_asm); (case k3 => k_asm); (case k4 => (first | exact .inr (by assumption) | exact .inl (by k_mem))); (case k5 => (first | exact .inr (by assumption) | exact .inl (by k_mem))); (case k6 => rfl)))) | walk1) | (dsimp only; (first | ((with_reducible show wpAny _ _ (getMethod (Value.ref _) _ _) _ _ _); (k_here; k_dflt (refine' m_method ?k1 ?k2 ?k3 ?k4 ?k5 ?k6 ?k7 ?k8 ?k9 ?_; (case k1 => k_asm); (case k2 => k_asm); (case k3 => k_asm); (case k4 => (first | exact .inr (by assumption) | exact .inl (by k_mem))); (case k5 => (first | exact .inr (by assumption) | exact .inl (by k_mem))); (case k6 => k_is); (case k7 => k_is); (case k8 => decide +kernel); (case k9 => rfl)))) | ((with_reducible show wpAny _ _ (getAttr (Value.ref _) _ _) _ _ _); (k_here; (with_reducible show wpAny _ _ (getAttr (Value.ref _) "_initial_size" _) _ _ _); k_dflt (refine' m_getattr ?k1 ?k2 ?k3 ?k4 ?k5 ?k6 ?_; (case k1 => k_asm); (case k2 => k_asm); (case k3 => k_asm); (case k4 => (first | exact .inr (by assumption) | exact .inl (by k_mem))); (case k5 => (first | exact .inr (by assumption) | exact .inl (by k_mem))); (case k6 => rfl)))) | walk1)))))
    rename Fr _ _ _ _ => F9
    rename News _ _ _ _ => N9
    rename IsRange _ _ _ _ _ _ _ _ => hr9
    refine for_range (n := l.length) (VfJ gs6 (led7 V (instObj 94 dv) dv (vfDict hh tt (.int mx tm) vc vl (.str sg tsg) Ln x nd) Ln (listOf lns.toArray nl) x (acObj d (ps.push (.ref Tn)) n2') d (acDict hs0 t0 (.int i0 ti) n0) (tabObj tb4) (tabObj tc) ((Tn, { cls := .type "tuple", data := .seq #[.str a u1, .str b u2] }) :: own)) c uc l.length (l ++ [(a, b)]) V (.str a ta1) (.str b tb1)) rfl hr9 ?_ ?_ F9 N9 ⟨rfl, rfl, rfl, rfl, rfl, rfl, fun j hj => absurd hj (Nat.not_lt_zero _)⟩ rfl rfl ?_ ?_
    · exact small_down (by omega) (by omega) (by decide) (by decide)
    · rw [rangeSize_downNat]; (first | lia | omega)
    · rintro i ti1 m nw h10 tk10 gs10 own2 E10 hi ⟨rfl, rfl, hm1, hm2, hm3, hm4, hmiss⟩ hoff2 F10 N10
      clear F9 N9 hr9
      obtain ⟨m3, rfl⟩ := as_if4 hm1 hm2 hm3 hm4
      clear hm1 hm2 hm3 hm4
      dsimp only at F10
      replace N10 : News g L h10 (led7 V (instObj 94 dv) dv (vfDict hh tt (.int mx tm) vc vl (.str sg tsg) Ln x nd) Ln (listOf lns.toArray nl) x (acObj d (ps.push (.ref Tn)) n2') d (acDict hs0 t0 (.int i0 ti) n0) (tabObj tb4) (tabObj tc) ((Tn, { cls := .type "tuple", data := .seq #[.str a u1, .str b u2] }) :: (own ++ own2))) := by simpa using N10
      have hcs : Txt.isspace ⟨#[c]⟩ = false := hsg c (List.mem_of_getElem? (by simpa using hc))
      obtain ⟨_, Ts, ta, tb2, f⟩ := hpp F10 (news_rest N10 (.head _))
      have hj : l.length - i - 1 < (l ++ [(a, b)]).length := by simp; (first | lia | omega)
      obtain ⟨f1, f2⟩ := f _ hj
      have hlen := (hsh.at (l.length - i - 1)).2
      have hitE : hitAt c (l ++ [(a, b)]) (l.length - i) = ((List.getD (l ++ [(a, b)]) (l.length - i - 1) (Str.empty, Str.empty)).2.cps.back? == some c) := rfl
      generalize List.getD (l ++ [(a, b)]) (l.length - i - 1) (Str.empty, Str.empty) = PP at f2 hlen hitE
      obtain ⟨P1, P2⟩ := PP
      dsimp only at f2 hlen hitE
      have ej : ((l.length + 1 : Nat) : Int) - 1 + (i : Int) * -1 - 1 = ((l.length - i - 1 : Nat) : Int) := by omega
      (repeat' (first | (fail_if_success (with_reducible show wpAny _ _ (exec (Stmt.For _ _ _ _ _) _) _ _ _)); (first | (k_unfold; (try dsimp only)) | (first | ((with_reducible show wpAny _ _ (getMethod (Value.ref _) _ _) _ _ _); (k_here; k_dflt (refine' m_method ?k1 ?k2 ?k3 ?k4 ?k5 ?k6 ?k7 ?k8 ?k9 ?_; (case k1 => k_asm); (case k2 => k_asm); (case k3 => k_asm); (case k4 => (first | exact .inr (by assumption) | exact .inl (by k_mem))); (case k5 => (first | exact .inr (by assumption) | exact .inl (by k_mem))); (case k6 => k_is); (case k7 => k_is); (case k8 => decide +kernel); (case k9 => rfl)))) | ((with_reducible show wpAny _ _ (getAttr (Value.ref _) _ _) _ _ _); (k_here; (with_reducible show wpAny _ _ (getAttr (Value.ref _) "_initial_size" _) _ _ _); k_dflt (refine' m_getattr ?k1 ?k2 ?k3 ?k4 ?k5 ?k6 ?_; (case k1 => k_asm); (case k2 => k_asm); (case k3 => k_asm); (case k4 => (first | exact .inr (by assumption) | exact .inl (by k_mem))); (case k5 => (first | exact .inr (by assumption) | exact .inl (by k_mem))); (case k6 => rfl)))) | walk1) | (dsimp only; (first | ((with_reducible show wpAny _ _ (getMethod (Value.ref _) _ _) _ _ _); (k_here; k_dflt (refine' m_method ?k1 ?k2 ?k3 ?k4 ?k5 ?k6 ?k7 ?k8 ?k9 ?_; (case k1 => k_asm); (case k2 => k_asm); (case k3 => k_asm); (case k4 => (first | exact .inr (by assumption) | exact .inl (by k_mem))); (case k5 => (first | exact .inr (by assumption) | exact .inl (by k_mem))); (case k6 => k_is); (case k7 => k_is); (case k8 => decide +kernel); (case k9 => rfl)))) | ((with_reducible show wpAny _ _ (getAttr (Value.ref _) _ _) _ _ _); (k_here; (with_reducible show wpAny _ _ (getAttr (Value.ref _) "_initial_size" _) _ _ _); k_dflt (refine' m_getattr ?k1 ?k2 ?k3 ?k4 ?k5 ?k6 ?_; (case k1 => k_asm); (case k2 => k_asm); (case k3 => k_asm); (case k4 => (first | exact .inr (by assumption) | exact .inl (by k_mem))); (case k5 => (first | exact .inr (by assumption) | exact .inl (by k_mem))); (case k6 => rfl)))) | walk1)))))
      rename Fr _ _ _ _ => F11
      rename News _ _ _ _ => N11
      refine m_item (d := d) (ps := ps.push (.ref Tn)) (n := n2') F11 N11 X (.inl (by k_mem)) (by omega) (by omega) (by rw [ej]; exact f1) ?_ (by with_unfolding_all rfl)
      (repeat' (first | (fail_if_success (with_reducible show wpAny _ _ (exec (Stmt.For _ _ _ _ _) _) _ _ _)); (first | (k_unfold; (try dsimp only)) | (first | ((with_reducible show wpAny _ _ (getMethod (Value.ref _) _ _) _ _ _); (k_here; k_dflt (refine' m_method ?k1 ?k2 ?k3 ?k4 ?k5 ?k6 ?k7 ?k8 ?k9 ?_; (case k1 => k_asm); (case k2 => k_asm); (case k3 => k_asm); (case k4 => (first | exact .inr (by assumption) | exact .inl (by k_mem))); (case k5 => (first | exact .inr (by assumption) | exact .inl (by k_mem))); (case k6 => k_is); (case k7 => k_is); (case k8 => decide +kernel); (case k9 => rfl)))) | ((with_reducible show wpAny _ _ (getAttr (Value.ref _) _ _) _ _ _); (k_here; (with_reducible show wpAny _ _ (getAttr (Value.ref _) "_initial_size" _) _ _ _); k_dflt (refine' m_getattr ?k1 ?k2 ?k3 ?k4 ?k5 ?k6 ?_; (case k1 => k_asm); (case k2 => k_asm); (case k3 => k_asm); (case k4 => (first | exact .inr (by assumption) | exact .inl (by k_mem))); (case k5 => (first | exact .inr (by assumption) | exact .inl (by k_mem))); (case k6 => rfl)))) | walk1) | (dsimp only; (first | ((with_reducible show wpAny _ _ (getMethod (Value.ref _) _ _) _ _ _); (k_here; k_dflt (refine' m_method ?k1 ?k2 ?k3 ?k4 ?k5 ?k6 ?k7 ?k8 ?k9 ?_; (case k1 => k_asm); (case k2 => k_asm); (case k3 => k_asm); (case k4 => (first | exact .inr (by assumption) | exact .inl (by k_mem))); (case k5 => (first | exact .inr (by assumption) | exact .inl (by k_mem))); (case k6 => k_is); (case k7 => k_is); (case k8 => decide +kernel); (case k9 => rfl)))) | ((with_reducible show wpAny _ _ (getAttr (Value.ref _) _ _) _ _ _); (k_here; (with_reducible show wpAny _ _ (getAttr (Value.ref _) "_initial_size" _) _ _ _); k_dflt (refine' m_getattr ?k1 ?k2 ?k3 ?k4 ?k5 ?k6 ?_; (case k1 => k_asm); (case k2 => k_asm); (case k3 => k_asm); (case k4 => (first | exact .inr (by assumption) | exact .inl (by k_mem))); (case k5 => (first | exact .inr (by assumption) | exact .inl (by k_mem))); (case k6 => rfl)))) | walk1)))))
      · have hhit : hitAt c (l ++ [(a, b)]) (l.length - i) = true := by
          rw [hitE, ← item_last (by omega)]; assumption
        rename Fr _ _ _ _ => F12
        rename News _ _ _ _ => N12
        replace N12 := news_drop N12
        refine post_brk (L := L) ?_
        (repeat' (first | (fail_if_success (with_reducible show wpAny _ _ (exec (Stmt.For _ _ _ _ _) _) _ _ _)); (first | (k_unfold; (try dsimp only)) | (first | ((with_reducible show wpAny _ _ (getMethod (Value.ref _) _ _) _ _ _); (k_here; k_dflt (refine' m_method ?k1 ?k2 ?k3 ?k4 ?k5 ?k6 ?k7 ?k8 ?k9 ?_; (case k1 => k_asm); (case k2 => k_asm); (case k3 => k_asm); (case k4 => (first | exact .inr (by assumption) | exact .inl (by k_mem))); (case k5 => (first | exact .inr (by assumption) | exact .inl (by k_mem))); (case k6 => k_is); (case k7 => k_is); (case k8 => decide +kernel); (case k9 => rfl)))) | ((with_reducible show wpAny _ _ (getAttr (Value.ref _) _ _) _ _ _); (k_here; (with_reducible show wpAny _ _ (getAttr (Value.ref _) "_initial_size" _) _ _ _); k_dflt (refine' m_getattr ?k1 ?k2 ?k3 ?k4 ?k5 ?k6 ?_; (case k1 => k_asm); (case k2 => k_asm); (case k3 => k_asm); (case k4 => (first | exact .inr (by assumption) | exact .inl (by k_mem))); (case k5 => (first | exact .inr (by assumption) | exact .inl (by k_mem))); (case k6 => rfl)))) | walk1) | (dsimp only; (first | ((with_reducible show wpAny _ _ (getMethod (Value.ref _) _ _) _ _ _); (k_here; k_dflt (refine' m_method ?k1 ?k2 ?k3 ?k4 ?k5 ?k6 ?k7 ?k8 ?k9 ?_; (case k1 => k_asm); (case k2 => k_asm); (case k3 => k_asm); (case k4 => (first | exact .inr (by assumption) | exact .inl (by k_mem))); (case k5 => (first | exact .inr (by assumption) | exact .inl (by k_mem))); (case k6 => k_is); (case k7 => k_is); (case k8 => decide +kernel); (case k9 => rfl)))) | ((with_reducible show wpAny _ _ (getAttr (Value.ref _) _ _) _ _ _); (k_here; (with_reducible show wpAny _ _ (getAttr (Value.ref _) "_initial_size" _) _ _ _); k_dflt (refine' m_getattr ?k1 ?k2 ?k3 ?k4 ?k5 ?k6 ?_; (case k1 => k_asm); (case k2 => k_asm); (case k3 => k_asm); (case k4 => (first | exact .inr (by assumption) | exact .inl (by k_mem))); (case k5 => (first | exact .inr (by assumption) | exact .inl (by k_mem))); (case k6 => rfl)))) | walk1)))))
        refine post_brk (L := L) ?_
        (repeat' (first | (fail_if_success (with_reducible show wpAny _ _ (exec (Stmt.For _ _ _ _ _) _) _ _ _)); (first | (k_unfold; (try dsimp only)) | (first | ((with_reducible show wpAny _ _ (getMethod (Value.ref _) _ _) _ _ _); (k_here; k_dflt (refine' m_method ?k1 ?k2 ?k3 ?k4 ?k5 ?k6 ?k7 ?k8 ?k9 ?_; (case k1 => k_asm); (case k2 => k_asm); (case k3 => k_asm); (case k4 => (first | exact .inr (by assumption) | exact .inl (by k_mem))); (case k5 => (first | exact .inr (by assumption) | exact .inl (by k_mem))); (case k6 => k_is); (case k7 => k_is); (case k8 => decide +kernel); (case k9 => rfl)))) | ((with_reducible show wpAny _ _ (getAttr (Value.ref _) _ _) _ _ _); (k_here; (with_reducible show wpAny _ _ (getAttr (Value.ref _) "_initial_size" _) _ _ _); k_dflt (refine' m_getattr ?k1 ?k2 ?k3 ?k4 ?k5 ?k6 ?_; (case k1 => k_asm); (case k2 => k_asm); (case k3 => k_asm); (case k4 => (first | exact .inr (by assumption) | exact .inl (by k_mem))); (case k5 => (first | exact .inr (by assumption) | exact .inl (by k_mem))); (case k6 => rfl)))) | walk1) | (dsimp only; (first | ((with_reducible show wpAny _ _ (getMethod (Value.ref _) _ _) _ _ _); (k_here; k_dflt (refine' m_method ?k1 ?k2 ?k3 ?k4 ?k5 ?k6 ?k7 ?k8 ?k9 ?_; (case k1 => k_asm); (case k2 => k_asm); (case k3 => k_asm); (case k4 => (first | exact .inr (by assumption) | exact .inl (by k_mem))); (case k5 => (first | exact .inr (by assumption) | exact .inl (by k_mem))); (case k6 => k_is); (case k7 => k_is); (case k8 => decide +kernel); (case k9 => rfl)))) | ((with_reducible show wpAny _ _ (getAttr (Value.ref _) _ _) _ _ _); (k_here; (with_reducible show wpAny _ _ (getAttr (Value.ref _) "_initial_size" _) _ _ _); k_dflt (refine' m_getattr ?k1 ?k2 ?k3 ?k4 ?k5 ?k6 ?_; (case k1 => k_asm); (case k2 => k_asm); (case k3 => k_asm); (case k4 => (first | exact .inr (by assumption) | exact .inl (by k_mem))); (case k5 => (first | exact .inr (by assumption) | exact .inl (by k_mem))); (case k6 => rfl)))) | walk1)))))
        have ei : ((l.length + 1 : Nat) : Int) - 1 + (i : Int) * -1 = ((l.length - i : Nat) : Int) := by omega
        rw [ei]
        have hfi : findS sg.cps.toList (l ++ [(a, b)]) = some (l.length - i) := by
          have h1 : findI c (l ++ [(a, b)]) ((l ++ [(a, b)]).length - 1) = some (l.length - i) := by rw [hll]; exact findI_hit _ _ hmiss hi hhit
          exact findS_some hc (fun j c' hj hc' => hno j c' hj hc') h1
        clear f f1 f2
        rename Fr _ _ _ _ => F13
        refine u_popfrom (d := d) (ps := ps.push (.ref Tn)) (n := n2') F13 N12 D hst rfl (by decide) (by decide) (fun n' => HA.X R2) (.inl (by k_mem)) O.hx (by omega) (by omega) (by omega) ?_
        intro h14 tk14 n14 Rr F14 N14 hRr
        have R14 : Off7 V dv Ln x d _ := Off7.cons (o := listOf ((ps.push (.ref Tn)).toList.drop ((l.length - i : Nat) : Int).toNat).toArray 0) hRr R2
        replace N14 := news_behind N14
        clear F13 N12
        rw [Int.toNat_natCast] at N14 R14
        (repeat' (first | (fail_if_success (with_reducible show wpAny _ _ (exec (Stmt.For _ _ _ _ _) _) _ _ _)); (first | (k_unfold; (try dsimp only)) | (first | ((with_reducible show wpAny _ _ (getMethod (Value.ref _) _ _) _ _ _); (k_here; k_dflt (refine' m_method ?k1 ?k2 ?k3 ?k4 ?k5 ?k6 ?k7 ?k8 ?k9 ?_; (case k1 => k_asm); (case k2 => k_asm); (case k3 => k_asm); (case k4 => (first | exact .inr (by assumption) | exact .inl (by k_mem))); (case k5 => (first | exact .inr (by assumption) | exact .inl (by k_mem))); (case k6 => k_is); (case k7 => k_is); (case k8 => decide +kernel); (case k9 => rfl)))) | ((with_reducible show wpAny _ _ (getAttr (Value.ref _) _ _) _ _ _); (k_here; (with_reducible show wpAny _ _ (getAttr (Value.ref _) "_initial_size" _) _ _ _); k_dflt (refine' m_getattr ?k1 ?k2 ?k3 ?k4 ?k5 ?k6 ?_; (case k1 => k_asm); (case k2 => k_asm); (case k3 => k_asm); (case k4 => (first | exact .inr (by assumption) | exact .inl (by k_mem))); (case k5 => (first | exact .inr (by assumption) | exact .inl (by k_mem))); (case k6 => rfl)))) | walk1) | (dsimp only; (first | ((with_reducible show wpAny _ _ (getMethod (Value.ref _) _ _) _ _ _); (k_here; k_dflt (refine' m_method ?k1 ?k2 ?k3 ?k4 ?k5 ?k6 ?k7 ?k8 ?k9 ?_; (case k1 => k_asm); (case k2 => k_asm); (case k3 => k_asm); (case k4 => (first | exact .inr (by assumption) | exact .inl (by k_mem))); (case k5 => (first | exact .inr (by assumption) | exact .inl (by k_mem))); (case k6 => k_is); (case k7 => k_is); (case k8 => decide +kernel); (case k9 => rfl)))) | ((with_reducible show wpAny _ _ (getAttr (Value.ref _) _ _) _ _ _); (k_here; (with_reducible show wpAny _ _ (getAttr (Value.ref _) "_initial_size" _) _ _ _); k_dflt (refine' m_getattr ?k1 ?k2 ?k3 ?k4 ?k5 ?k6 ?_; (case k1 => k_asm); (case k2 => k_asm); (case k3 => k_asm); (case k4 => (first | exact .inr (by assumption) | exact .inl (by k_mem))); (case k5 => (first | exact .inr (by assumption) | exact .inl (by k_mem))); (case k6 => rfl)))) | walk1)))))
        rename Fr _ _ _ _ => F15
        rename News _ _ _ _ => N15
        have hshT : Short ((l ++ [(a, b)]).take (l.length - i)) := ⟨by have := hsh.1; rw [List.length_take]; (first | lia | omega), fun q hq => hsh.2 q (List.mem_of_mem_take hq)⟩
        refine u_str (d := d) (ps := (List.take (l.length - i) (ps.push (Value.ref Tn)).toList).toArray) (n := n14) F15 N15 X D hst (by decide) rfl (by decide) (by decide) (.inl (by k_mem)) (.inl (by k_mem)) (fun tc' => HA.S R14) H.htr2 O.hP2 hb4 ((hpp F15 (news_rest N15 (.tail _ (.head _)))).take _) hshT ?_
        intro h16 gs16 tk16 t16 tc16 F16 N16 htr16 hb16 hk16
        clear F15 N15
        (repeat' (first | (fail_if_success (with_reducible show wpAny _ _ (exec (Stmt.For _ _ _ _ _) _) _ _ _)); (first | (k_unfold; (try dsimp only)) | (first | ((with_reducible show wpAny _ _ (getMethod (Value.ref _) _ _) _ _ _); (k_here; k_dflt (refine' m_method ?k1 ?k2 ?k3 ?k4 ?k5 ?k6 ?k7 ?k8 ?k9 ?_; (case k1 => k_asm); (case k2 => k_asm); (case k3 => k_asm); (case k4 => (first | exact .inr (by assumption) | exact .inl (by k_mem))); (case k5 => (first | exact .inr (by assumption) | exact .inl (by k_mem))); (case k6 => k_is); (case k7 => k_is); (case k8 => decide +kernel); (case k9 => rfl)))) | ((with_reducible show wpAny _ _ (getAttr (Value.ref _) _ _) _ _ _); (k_here; (with_reducible show wpAny _ _ (getAttr (Value.ref _) "_initial_size" _) _ _ _); k_dflt (refine' m_getattr ?k1 ?k2 ?k3 ?k4 ?k5 ?k6 ?_; (case k1 => k_asm); (case k2 => k_asm); (case k3 => k_asm); (case k4 => (first | exact .inr (by assumption) | exact .inl (by k_mem))); (case k5 => (first | exact .inr (by assumption) | exact .inl (by k_mem))); (case k6 => rfl)))) | walk1) | (dsimp only; (first | ((with_reducible show wpAny _ _ (getMethod (Value.ref _) _ _) _ _ _); (k_here; k_dflt (refine' m_method ?k1 ?k2 ?k3 ?k4 ?k5 ?k6 ?k7 ?k8 ?k9 ?_; (case k1 => k_asm); (case k2 => k_asm); (case k3 => k_asm); (case k4 => (first | exact .inr (by assumption) | exact .inl (by k_mem))); (case k5 => (first | exact .inr (by assumption) | exact .inl (by k_mem))); (case k6 => k_is); (case k7 => k_is); (case k8 => decide +kernel); (case k9 => rfl)))) | ((with_reducible show wpAny _ _ (getAttr (Value.ref _) _ _) _ _ _); (k_here; (with_reducible show wpAny _ _ (getAttr (Value.ref _) "_initial_size" _) _ _ _); k_dflt (refine' m_getattr ?k1 ?k2 ?k3 ?k4 ?k5 ?k6 ?_; (case k1 => k_asm); (case k2 => k_asm); (case k3 => k_asm); (case k4 => (first | exact .inr (by assumption) | exact .inl (by k_mem))); (case k5 => (first | exact .inr (by assumption) | exact .inl (by k_mem))); (case k6 => rfl)))) | walk1)))))
        refine append_K (its := lns.toArray) (n := nl) F16 N16 (HA.L R14) ?_ (by have := H.hls.length; simp; rw [sizeLine_eq]; (first | lia | omega))
        intro h17 F17 N17
        clear F16 N16
        have hl17 : lns.toArray.push (Value.str (strOf (List.take (l.length - i) (l ++ [(a, b)]))) t16) = (lns ++ [Value.str (strOf (List.take (l.length - i) (l ++ [(a, b)]))) t16]).toArray := by simp
        rw [hl17] at N17
        (repeat' (first | (fail_if_success (with_reducible show wpAny _ _ (exec (Stmt.For _ _ _ _ _) _) _ _ _)); (first | (k_unfold; (try dsimp only)) | (first | ((with_reducible show wpAny _ _ (getMethod (Value.ref _) _ _) _ _ _); (k_here; k_dflt (refine' m_method ?k1 ?k2 ?k3 ?k4 ?k5 ?k6 ?k7 ?k8 ?k9 ?_; (case k1 => k_asm); (case k2 => k_asm); (case k3 => k_asm); (case k4 => (first | exact .inr (by assumption) | exact .inl (by k_mem))); (case k5 => (first | exact .inr (by assumption) | exact .inl (by k_mem))); (case k6 => k_is); (case k7 => k_is); (case k8 => decide +kernel); (case k9 => rfl)))) | ((with_reducible show wpAny _ _ (getAttr (Value.ref _) _ _) _ _ _); (k_here; (with_reducible show wpAny _ _ (getAttr (Value.ref _) "_initial_size" _) _ _ _); k_dflt (refine' m_getattr ?k1 ?k2 ?k3 ?k4 ?k5 ?k6 ?_; (case k1 => k_asm); (case k2 => k_asm); (case k3 => k_asm); (case k4 => (first | exact .inr (by assumption) | exact .inl (by k_mem))); (case k5 => (first | exact .inr (by assumption) | exact .inl (by k_mem))); (case k6 => rfl)))) | walk1) | (dsimp only; (first | ((with_reducible show wpAny _ _ (getMethod (Value.ref _) _ _) _ _ _); (k_here; k_dflt (refine' m_method ?k1 ?k2 ?k3 ?k4 ?k5 ?k6 ?k7 ?k8 ?k9 ?_; (case k1 => k_asm); (case k2 => k_asm); (case k3 => k_asm); (case k4 => (first | exact .inr (by assumption) | exact .inl (by k_mem))); (case k5 => (first | exact .inr (by assumption) | exact .inl (by k_mem))); (case k6 => k_is); (case k7 => k_is); (case k8 => decide +kernel); (case k9 => rfl)))) | ((with_reducible show wpAny _ _ (getAttr (Value.ref _) _ _) _ _ _); (k_here; (with_reducible show wpAny _ _ (getAttr (Value.ref _) "_initial_size" _) _ _ _); k_dflt (refine' m_getattr ?k1 ?k2 ?k3 ?k4 ?k5 ?k6 ?_; (case k1 => k_asm); (case k2 => k_asm); (case k3 => k_asm); (case k4 => (first | exact .inr (by assumption) | exact .inl (by k_mem))); (case k5 => (first | exact .inr (by assumption) | exact .inl (by k_mem))); (case k6 => rfl)))) | walk1)))))
        rename Fr _ _ _ _ => F18
        rename News _ _ _ _ => N18
        refine u_reset (d := d) (ps := (List.take (l.length - i) (ps.push (Value.ref Tn)).toList).toArray) (n := n14) (items := (List.drop (l.length - i) (ps.push (Value.ref Tn)).toList).toArray) (c := 0) F18 N18 D hst rfl (by decide) (by decide) (fun n' => HA.X R14) (fun n' t' => HA.D R14) HA.n5 O.hx O.hd (by simp; (first | lia | omega)) (.inl (by k_mem)) (by simp; (first | lia | omega)) ?_
        intro h19 tk19 n19 t19 F19 N19
        clear F18 N18
        (repeat' (first | (fail_if_success (with_reducible show wpAny _ _ (exec (Stmt.For _ _ _ _ _) _) _ _ _)); (first | (k_unfold; (try dsimp only)) | (first | ((with_reducible show wpAny _ _ (getMethod (Value.ref _) _ _) _ _ _); (k_here; k_dflt (refine' m_method ?k1 ?k2 ?k3 ?k4 ?k5 ?k6 ?k7 ?k8 ?k9 ?_; (case k1 => k_asm); (case k2 => k_asm); (case k3 => k_asm); (case k4 => (first | exact .inr (by assumption) | exact .inl (by k_mem))); (case k5 => (first | exact .inr (by assumption) | exact .inl (by k_mem))); (case k6 => k_is); (case k7 => k_is); (case k8 => decide +kernel); (case k9 => rfl)))) | ((with_reducible show wpAny _ _ (getAttr (Value.ref _) _ _) _ _ _); (k_here; (with_reducible show wpAny _ _ (getAttr (Value.ref _) "_initial_size" _) _ _ _); k_dflt (refine' m_getattr ?k1 ?k2 ?k3 ?k4 ?k5 ?k6 ?_; (case k1 => k_asm); (case k2 => k_asm); (case k3 => k_asm); (case k4 => (first | exact .inr (by assumption) | exact .inl (by k_mem))); (case k5 => (first | exact .inr (by assumption) | exact .inl (by k_mem))); (case k6 => rfl)))) | walk1) | (dsimp only; (first | ((with_reducible show wpAny _ _ (getMethod (Value.ref _) _ _) _ _ _); (k_here; k_dflt (refine' m_method ?k1 ?k2 ?k3 ?k4 ?k5 ?k6 ?k7 ?k8 ?k9 ?_; (case k1 => k_asm); (case k2 => k_asm); (case k3 => k_asm); (case k4 => (first | exact .inr (by assumption) | exact .inl (by k_mem))); (case k5 => (first | exact .inr (by assumption) | exact .inl (by k_mem))); (case k6 => k_is); (case k7 => k_is); (case k8 => decide +kernel); (case k9 => rfl)))) | ((with_reducible show wpAny _ _ (getAttr (Value.ref _) _ _) _ _ _); (k_here; (with_reducible show wpAny _ _ (getAttr (Value.ref _) "_initial_size" _) _ _ _); k_dflt (refine' m_getattr ?k1 ?k2 ?k3 ?k4 ?k5 ?k6 ?_; (case k1 => k_asm); (case k2 => k_asm); (case k3 => k_asm); (case k4 => (first | exact .inr (by assumption) | exact .inl (by k_mem))); (case k5 => (first | exact .inr (by assumption) | exact .inl (by k_mem))); (case k6 => rfl)))) | walk1)))))
        refine hret _ (lines ++ [strOf (List.take (l.length - i) (l ++ [(a, b)]))]) ((l ++ [(a, b)]).drop (l.length - i)) 0 _ _ _ _ _ _ _ (VFAt.of_news N19 (strs_push H.hls) htr4 htr16 ((hpp F19 (news_rest N19 (.tail _ (.head _)))).drop _)) (fun b o e h1 h2 h3 h4 h5 h6 h7 => F19.keep _ _ (hkeep b o e h1 h2 h3 h4 h5 h6 h7)) (fun T hT => hnew T (List.mem_of_mem_drop (by simpa using hT))) hb16 rfl rfl ?_
        unfold chunkF
        rw [if_neg (by show ¬ i0 + ((lenOf (l ++ [(a, b)]) : Nat) : Int) ≤ mx; (first | lia | omega))]
        show _ = match findS sg.cps.toList (l ++ [(a, b)]) with | some i => _ | none => _
        rw [hfi]
      · have hmis : hitAt c (l ++ [(a, b)]) (l.length - i) = false := by
          rw [hitE, ← item_last (by omega)]; assumption
        rename Fr _ _ _ _ => F12
        rename News _ _ _ _ => N12
        refine ⟨_, _, _, _, _, rfl, F12, by simpa using N12, hoff2, rfl, rfl, rfl, rfl, rfl, rfl, fun j hj => ?_⟩
        rcases Nat.lt_succ_iff_lt_or_eq.mp hj with hj | rfl
        · exact hmiss j hj
        · exact hmis
      · have hmis : hitAt c (l ++ [(a, b)]) (l.length - i) = false := by
          rw [hitE]
          have h0 : P2.cps.size = 0 := by have : P2.length = P2.cps.size := rfl; (first | lia | omega)
          simp [Array.back?_eq_getElem?, h0]
        rename Fr _ _ _ _ => F12
        rename News _ _ _ _ => N12
        refine ⟨_, _, _, _, _, rfl, F12, by simpa using N12, hoff2, rfl, rfl, rfl, rfl, rfl, rfl, fun j hj => ?_⟩
        rcases Nat.lt_succ_iff_lt_or_eq.mp hj with hj | rfl
        · exact hmiss j hj
        · exact hmis
    · rintro m nw h10 tk10 gs10 E10 ⟨rfl, rfl, hm1, hm2, hm3, hm4, hmiss⟩ F10 N10
      clear F9 N9 hr9
      (repeat' (first | (fail_if_success (with_reducible show wpAny _ _ (exec (Stmt.For _ _ _ _ _) _) _ _ _)); (first | (k_unfold; (try dsimp only)) | (first | ((with_reducible show wpAny _ _ (getMethod (Value.ref _) _ _) _ _ _); (k_here; k_dflt (refine' m_method ?k1 ?k2 ?k3 ?k4 ?k5 ?k6 ?k7 ?k8 ?k9 ?_; (case k1 => k_asm); (case k2 => k_asm); (case k3 => k_asm); (case k4 => (first | exact .inr (by assumption) | exact .inl (by k_mem))); (case k5 => (first | exact .inr (by assumption) | exact .inl (by k_mem))); (case k6 => k_is); (case k7 => k_is); (case k8 => decide +kernel); (case k9 => rfl)))) | ((with_reducible show wpAny _ _ (getAttr (Value.ref _) _ _) _ _ _); (k_here; (with_reducible show wpAny _ _ (getAttr (Value.ref _) "_initial_size" _) _ _ _); k_dflt (refine' m_getattr ?k1 ?k2 ?k3 ?k4 ?k5 ?k6 ?_; (case k1 => k_asm); (case k2 => k_asm); (case k3 => k_asm); (case k4 => (first | exact .inr (by assumption) | exact .inl (by k_mem))); (case k5 => (first | exact .inr (by assumption) | exact .inl (by k_mem))); (case k6 => rfl)))) | walk1) | (dsimp only; (first | ((with_reducible show wpAny _ _ (getMethod (Value.ref _) _ _) _ _ _); (k_here; k_dflt (refine' m_method ?k1 ?k2 ?k3 ?k4 ?k5 ?k6 ?k7 ?k8 ?k9 ?_; (case k1 => k_asm); (case k2 => k_asm); (case k3 => k_asm); (case k4 => (first | exact .inr (by assumption) | exact .inl (by k_mem))); (case k5 => (first | exact .inr (by assumption) | exact .inl (by k_mem))); (case k6 => k_is); (case k7 => k_is); (case k8 => decide +kernel); (case k9 => rfl)))) | ((with_reducible show wpAny _ _ (getAttr (Value.ref _) _ _) _ _ _); (k_here; (with_reducible show wpAny _ _ (getAttr (Value.ref _) "_initial_size" _) _ _ _); k_dflt (refine' m_getattr ?k1 ?k2 ?k3 ?k4 ?k5 ?k6 ?_; (case k1 => k_asm); (case k2 => k_asm); (case k3 => k_asm); (case k4 => (first | exact .inr (by assumption) | exact .inl (by k_mem))); (case k5 => (first | exact .inr (by assumption) | exact .inl (by k_mem))); (case k6 => rfl)))) | walk1)))))
      refine ⟨_, _, _, _, _, rfl, F10, by simpa using N10, hoff, rfl, rfl, hm2, hm3, hm4, fun j c' hj hc' => ?_⟩
      rcases Nat.lt_succ_iff_lt_or_eq.mp hj with hj | rfl
      · exact hno j c' hj hc'
      · rw [hc] at hc'
        cases hc'
        rw [hll]
        exact findI_miss _ hmiss
  · rintro m nw h6 tk6 gs6 E6 ⟨rfl, rfl, hm1, hm2, hm3, hno⟩ F6 N6
    clear F5 N5
    obtain ⟨m2, rfl⟩ := as_if3 hm1 hm2 hm3
    clear hm1 hm2 hm3
    (repeat' (first | (fail_if_success (with_reducible show wpAny _ _ (exec (Stmt.For _ _ _ _ _) _) _ _ _)); (first | (k_unfold; (try dsimp only)) | (first | ((with_reducible show wpAny _ _ (getMethod (Value.ref _) _ _) _ _ _); (k_here; k_dflt (refine' m_method ?k1 ?k2 ?k3 ?k4 ?k5 ?k6 ?k7 ?k8 ?k9 ?_; (case k1 => k_asm); (case k2 => k_asm); (case k3 => k_asm); (case k4 => (first | exact .inr (by assumption) | exact .inl (by k_mem))); (case k5 => (first | exact .inr (by assumption) | exact .inl (by k_mem))); (case k6 => k_is); (case k7 => k_is); (case k8 => decide +kernel); (case k9 => rfl)))) | ((with_reducible show wpAny _ _ (getAttr (Value.ref _) _ _) _ _ _); (k_here; (with_reducible show wpAny _ _ (getAttr (Value.ref _) "_initial_size" _) _ _ _); k_dflt (refine' m_getattr ?k1 ?k2 ?k3 ?k4 ?k5 ?k6 ?_; (case k1 => k_asm); (case k2 => k_asm); (case k3 => k_asm); (case k4 => (first | exact .inr (by assumption) | exact .inl (by k_mem))); (case k5 => (first | exact .inr (by assumption) | exact .inl (by k_mem))); (case k6 => rfl)))) | walk1) | (dsimp only; (first | ((with_reducible show wpAny _ _ (getMethod (Value.ref _) _ _) _ _ _); (k_here; k_dflt (refine' m_method ?k1 ?k2 ?k3 ?k4 ?k5 ?k6 ?k7 ?k8 ?k9 ?_; (case k1 => k_asm); (case k2 => k_asm); (case k3 => k_asm); (case k4 => (first | exact .inr (by assumption) | exact .inl (by k_mem))); (case k5 => (first | exact .inr (by assumption) | exact .inl (by k_mem))); (case k6 => k_is); (case k7 => k_is); (case k8 => decide +kernel); (case k9 => rfl)))) | ((with_reducible show wpAny _ _ (getAttr (Value.ref _) _ _) _ _ _); (k_here; (with_reducible show wpAny _ _ (getAttr (Value.ref _) "_initial_size" _) _ _ _); k_dflt (refine' m_getattr ?k1 ?k2 ?k3 ?k4 ?k5 ?k6 ?_; (case k1 => k_asm); (case k2 => k_asm); (case k3 => k_asm); (case k4 => (first | exact .inr (by assumption) | exact .inl (by k_mem))); (case k5 => (first | exact .inr (by assumption) | exact .inl (by k_mem))); (case k6 => rfl)))) | walk1)))))
    rename Fr _ _ _ _ => F7
    rename News _ _ _ _ => N7
    show wpAny _ _ (call (.ref 138) [.ref x]) _ _ _
    have hfn : findS sg.cps.toList (l ++ [(a, b)]) = none := by
      rw [findS, List.findSome?_eq_none_iff]
      intro c hc
      obtain ⟨j, hj, e⟩ := List.getElem_of_mem hc
      exact hno j c (by simpa using hj) (by rw [← e]; simp)
    obtain rfl := hzero hgt hfn
    have hpp7 := hpp F7 (news_rest N7 (.head _))
    refine u_pop (d := d) (y := .ref Tn) (ps := ps.push (.ref Tn)) (n := n2') F7 N7 D hst rfl (by decide) (by decide) (fun n' => HA.X R2) (.inl (by k_mem)) O.hx (by simp; (first | lia | omega)) (by simp) ?_
    intro h8 tk8 n8 F8 N8
    clear F7 N7
    rw [Array.pop_push] at N8
    have hT8 : h8.IsTuple Tn #[.str a u1, .str b u2] := ⟨_, news_rest N8 (.head _), rfl, _, rfl⟩
    (repeat' (first | (fail_if_success (with_reducible show wpAny _ _ (exec (Stmt.For _ _ _ _ _) _) _ _ _)); (first | (k_unfold; (try dsimp only)) | (first | ((with_reducible show wpAny _ _ (getMethod (Value.ref _) _ _) _ _ _); (k_here; k_dflt (refine' m_method ?k1 ?k2 ?k3 ?k4 ?k5 ?k6 ?k7 ?k8 ?k9 ?_; (case k1 => k_asm); (case k2 => k_asm); (case k3 => k_asm); (case k4 => (first | exact .inr (by assumption) | exact .inl (by k_mem))); (case k5 => (first | exact .inr (by assumption) | exact .inl (by k_mem))); (case k6 => k_is); (case k7 => k_is); (case k8 => decide +kernel); (case k9 => rfl)))) | ((with_reducible show wpAny _ _ (getAttr (Value.ref _) _ _) _ _ _); (k_here; (with_reducible show wpAny _ _ (getAttr (Value.ref _) "_initial_size" _) _ _ _); k_dflt (refine' m_getattr ?k1 ?k2 ?k3 ?k4 ?k5 ?k6 ?_; (case k1 => k_asm); (case k2 => k_asm); (case k3 => k_asm); (case k4 => (first | exact .inr (by assumption) | exact .inl (by k_mem))); (case k5 => (first | exact .inr (by assumption) | exact .inl (by k_mem))); (case k6 => rfl)))) | walk1) | (dsimp only; (first | ((with_reducible show wpAny _ _ (getMethod (Value.ref _) _ _) _ _ _); (k_here; k_dflt (refine' m_method ?k1 ?k2 ?k3 ?k4 ?k5 ?k6 ?k7 ?k8 ?k9 ?_; (case k1 => k_asm); (case k2 => k_asm); (case k3 => k_asm); (case k4 => (first | exact .inr (by assumption) | exact .inl (by k_mem))); (case k5 => (first | exact .inr (by assumption) | exact .inl (by k_mem))); (case k6 => k_is); (case k7 => k_is); (case k8 => decide +kernel); (case k9 => rfl)))) | ((with_reducible show wpAny _ _ (getAttr (Value.ref _) _ _) _ _ _); (k_here; (with_reducible show wpAny _ _ (getAttr (Value.ref _) "_initial_size" _) _ _ _); k_dflt (refine' m_getattr ?k1 ?k2 ?k3 ?k4 ?k5 ?k6 ?_; (case k1 => k_asm); (case k2 => k_asm); (case k3 => k_asm); (case k4 => (first | exact .inr (by assumption) | exact .inl (by k_mem))); (case k5 => (first | exact .inr (by assumption) | exact .inl (by k_mem))); (case k6 => rfl)))) | walk1)))))
    rename Fr _ _ _ _ => F9
    rename News _ _ _ _ => N9
    refine u_push (d := d) (ps := ps) (n := n8) F9 N9 D hst rfl (by decide) (by decide) (fun T n' => HA.X R2) (.inl (by k_mem)) O.hx (by omega) ?_
    intro h10 tk10 n10 Tm u3 u4 F10 N10 hT10
    clear F9 N9
    have R10 : Off7 V dv Ln x d _ := Off7.cons (o := { cls := .type "tuple", data := .seq #[.str a u3, .str b u4] }) hT10 R2
    replace N10 := news_behind N10
    have hTm : s.heap.get? Tm = none := by
      cases e : s.heap.get? Tm with
      | none => rfl
      | some o =>
        obtain ⟨a1, a2, a3, a4, a5, a6, a7⟩ := R10 _ (.head _)
        have e2 := hkeep _ _ e a1 a2 a3 a4 a5 a6 a7
        rw [(N10 _ (.tail _ (.tail _ (.tail _ (.tail _ (.tail _ (.tail _ (.tail _ (.head _)))))))) ).2.2] at e2; cases e2
    (repeat' (first | (fail_if_success (with_reducible show wpAny _ _ (exec (Stmt.For _ _ _ _ _) _) _ _ _)); (first | (k_unfold; (try dsimp only)) | (first | ((with_reducible show wpAny _ _ (getMethod (Value.ref _) _ _) _ _ _); (k_here; k_dflt (refine' m_method ?k1 ?k2 ?k3 ?k4 ?k5 ?k6 ?k7 ?k8 ?k9 ?_; (case k1 => k_asm); (case k2 => k_asm); (case k3 => k_asm); (case k4 => (first | exact .inr (by assumption) | exact .inl (by k_mem))); (case k5 => (first | exact .inr (by assumption) | exact .inl (by k_mem))); (case k6 => k_is); (case k7 => k_is); (case k8 => decide +kernel); (case k9 => rfl)))) | ((with_reducible show wpAny _ _ (getAttr (Value.ref _) _ _) _ _ _); (k_here; (with_reducible show wpAny _ _ (getAttr (Value.ref _) "_initial_size" _) _ _ _); k_dflt (refine' m_getattr ?k1 ?k2 ?k3 ?k4 ?k5 ?k6 ?_; (case k1 => k_asm); (case k2 => k_asm); (case k3 => k_asm); (case k4 => (first | exact .inr (by assumption) | exact .inl (by k_mem))); (case k5 => (first | exact .inr (by assumption) | exact .inl (by k_mem))); (case k6 => rfl)))) | walk1) | (dsimp only; (first | ((with_reducible show wpAny _ _ (getMethod (Value.ref _) _ _) _ _ _); (k_here; k_dflt (refine' m_method ?k1 ?k2 ?k3 ?k4 ?k5 ?k6 ?k7 ?k8 ?k9 ?_; (case k1 => k_asm); (case k2 => k_asm); (case k3 => k_asm); (case k4 => (first | exact .inr (by assumption) | exact .inl (by k_mem))); (case k5 => (first | exact .inr (by assumption) | exact .inl (by k_mem))); (case k6 => k_is); (case k7 => k_is); (case k8 => decide +kernel); (case k9 => rfl)))) | ((with_reducible show wpAny _ _ (getAttr (Value.ref _) _ _) _ _ _); (k_here; (with_reducible show wpAny _ _ (getAttr (Value.ref _) "_initial_size" _) _ _ _); k_dflt (refine' m_getattr ?k1 ?k2 ?k3 ?k4 ?k5 ?k6 ?_; (case k1 => k_asm); (case k2 => k_asm); (case k3 => k_asm); (case k4 => (first | exact .inr (by assumption) | exact .inl (by k_mem))); (case k5 => (first | exact .inr (by assumption) | exact .inl (by k_mem))); (case k6 => rfl)))) | walk1)))))
    rename Fr _ _ _ _ => F11
    rename News _ _ _ _ => N11
    refine hret _ lines (l ++ [(a, b)]) 0 _ _ _ _ _ _ _ (VFAt.of_news N11 H.hls htr4 H.htr2 ((hpg.keeps F11.keep).push (news_rest N11 (.head _)))) (fun b o e h1 h2 h3 h4 h5 h6 h7 => F11.keep _ _ (hkeep b o e h1 h2 h3 h4 h5 h6 h7)) (fun T hT => ?_) hb4 rfl rfl ?_
    · rw [Array.toList_push] at hT
      rcases List.mem_append.mp hT with h | h
      · exact .inl h
      · cases List.mem_singleton.mp h; exact .inr hTm
    · unfold chunkF
      rw [if_neg (by show ¬ (0 : Int) + ((lenOf (l ++ [(a, b)]) : Nat) : Int) ≤ mx; (first | lia | omega))]
      show _ = match findS sg.cps.toList (l ++ [(a, b)]) with | some i => _ | none => _
      rw [hfn]
end
end Mine
end

section
-- Star
example : True := by w_top off; trivial
open PySem PySem.W PyProof.Rows PySem.Calls PySem.Spec
set_option maxRecDepth 100000
namespace Mine
theorem ne_pairs {prog : Program} {w : World} {A : Around} {E : Value → Shared → Prop} {s : Shared} {Q : Value → Shared → Prop} {T1 T2 : Addr} {a b c d : Str} {t1 t2 u1 u2 : Tok} (h1 : s.heap.IsTuple T1 #[.str a t1, .str b t2]) (h2 : s.heap.IsTuple T2 #[.str c u1, .str d u2]) (hu : A.units < cLine) (h : Q (.bool (!(a == c && b == d))) s) :
    wpAny (model prog w) A (compareOp .NotEq (.ref T1) (.ref T2)) Q E s := by
  refine PySem.EqBoolInt.of_rcne (SeqAt.RcNeAt.tuples (e := fun j => if j = 0 then a == c else b == d) h1 h2 hu ?_) ?_
  · intro j hj1 hj2
    have hj : j < 2 := hj1
    rcases j with _ | _ | j
    · exact SeqAt.EqAt.str_str _ _ _ _
    · exact SeqAt.EqAt.str_str _ _ _ _
    · omega
  · have e : (!((List.range (min (#[Value.str a t1, Value.str b t2] : Array Value).size (#[Value.str c u1, Value.str d u2] : Array Value).size)).all (fun j => if j = 0 then a == c else b == d) && (#[Value.str a t1, Value.str b t2] : Array Value).size == (#[Value.str c u1, Value.str d u2] : Array Value).size)) = !(a == c && b == d) := by
      simp [show List.range 2 = [0, 1] from rfl]
    rw [e]; exact h
theorem star_base {prog : Program} {w : World} {A : Around} {E : Value → Shared → Prop} {s : Shared} {a : Addr} {its : Array Value} {ws : List Value} {Q : List Value → Shared → Prop} {g : Heap} {L : Addr} {m : Str → Option Value} {news : List (Addr × Obj)} (F : Fr g L s.heap m) (N : News g L s.heap news) (ht : s.heap.IsTuple a its) (e : its.toList = ws)
    (hz : its.size ≤ sizeLine) (h : ∀ h', Fr g L h' m → News g L h' news → Q ws { s with heap := h' }) : StarOf (model prog w) A E (.ref a) Q s := by
  obtain ⟨o, D, hc, n, hd⟩ := ht
  have hT' : s.TypeIs (.ref a) "tuple" := ⟨o, D, hc⟩
  subst e
  have z : wpAny (model prog w) A (collect (.ref a)) Q E s := wpAny_collect_seq a (.inr rfl) D hc hd (fun h' hk => h h' (frK F hk) (newsK N hk)) hz
  unfold StarOf notIterableAtAll
  exact wpAny_bind (wpAny_specialOf hT' PySem.F.slot_tuple_iter.lookup (wpAny_pure ⟨rfl, z⟩))
section
variable {M : Model} {A : Around} {E : Value → Shared → Prop} {s : Shared}
theorem starCall_ {env : Env} {o e : Expr} {name : Str} {apos pos p : Pos} {Q : Value → Shared → Prop}
    (h : wpAny M A (eval o env) (fun ov s₁ => wpAny M A (getAttr ov name true) (fun f s₂ => wpAny M A (callWith pos f [] (backTo pos (starEach [.Starred e p] env)) []) Q E s₂) E s₁) E s)
    (he : eval (.Call (.Attribute o name apos) [.Starred e p] [] pos) env = (do
      let ov ← eval o env
      standAt apos.atName
      let (f, first) ← holding [ov] (do pure (← getAttr ov name true, []))
      callWith pos f first (backTo pos (starEach [.Starred e p] env)) []) := by rfl) :
    wpAny M A (eval (.Call (.Attribute o name apos) [.Starred e p] [] pos) env) Q E s := by
  rw [he]
  exact wpAny_bind (wpAny_mono h (fun ov s₁ h₁ => wpAny_bind (wpAny_standAt (wpAny_bind (wpAny_holding (wpAny_bind (wpAny_mono h₁ (fun f s₂ h₂ => wpAny_pure h₂) fun _ _ x => x)))))) fun _ _ x => x)
theorem callWith_SM {K : Frag} {env : Env} {e : Expr} {p pos : Pos} {q f : Addr} {self : Value} {Q : Value → Shared → Prop} (hf : fnIn K f = true)
    (h : wpAny M A (eval e env) (fun v s₁ => StarOf M A E v (fun vs s₂ => MethP K q f self s₂.heap ∧ wpAny M A (call (.ref q) ([] ++ vs)) Q E s₂) s₁) E s)
    (he : starEach [.Starred e p] env = [(true, eval e env)] := by rfl) : wpAny M A (callWith pos (.ref q) [] (backTo pos (starEach [.Starred e p] env)) []) Q E s := by
  rw [he]
  exact ks_call rfl (keeps_M hf) (ks_lone h)
end
section
variable {w : World} {A : Around} {E : Value → Shared → Prop} {s : Shared} {x d : Addr} {ps : Array Value} {n : Nat} {od : Obj}
/-- a method of an accumulator as a value -/
theorem ac_getbind {name : Str} {f : Addr} {expr : Bool} {Q : Value → Shared → Prop} (X : (hd.heap_1 w.params).In s.heap) (hx : s.heap.get? x = some (acObj d ps n)) (hd' : s.heap.get? d = some od)
    (hf : findObj (hd.heap_1 w.params) 178 (some od) name = some (.bind (.builtin "function.__get__") (.ref f))) (hfn : typeIn (hd.heap_1 w.params) (.ref f) = some (.type "function"))
    (h : Q (.ref s.heap.objs.size) { s with heap := s.heap.push (methodObj (.ref f) (.ref x)), toks := s.toks + 1 }) :
    wpAny (model Challenge.rw_oc0165_01.row.prog w) A (getAttr (.ref x) name expr) Q E s := by
  obtain ⟨hp, g, dr, t, os⟩ := s
  have I := ac_at hx hd'
  have L0 := I.type (M := model Challenge.rw_oc0165_01.row.prog w)
  have L1 := looks_findIn (M := model Challenge.rw_oc0165_01.row.prog w) X k_ga
  have L2 := looks_findIn (M := model Challenge.rw_oc0165_01.row.prog w) X k_hook
  have L3 := looks_find (M := model Challenge.rw_oc0165_01.row.prog w) X I hf
  unfold getAttr getAttrBy
  refine wpAny_bind (wpAny_mkText (wpAny_holding (wpAny_bind (L0.at (wpAny_bind (L1.at ?_))))))
  show wpAny _ _ (getAttrByItsOwn (.ref x) (.str name t) (.ref 178) (.builtin "list.__getattribute__") true expr) _ _ _
  unfold getAttrByItsOwn hookBefore callGetattribute boundAndCalled
  refine wpAny_bind (L2.at ?_)
  rw [if_neg (by cases expr <;> decide)]
  refine wpAny_bind (wpAny_attempt (wpAny_holding ?_))
  show wpAny _ _ (bindSpecial (.builtin "list.__getattribute__") (.ref x) >>= _) _ _ _
  refine wpAny_bind (wpAny_of_eq (PySem.F.slot_list_getattribute.bind _) ?_)
  refine wpAny_mono (Q := fun v' s' => v' = .ref hp.objs.size ∧ s' = ⟨hp.push (methodObj (.ref f) (.ref x)), g, dr, t + 1, os⟩) (E := fun _ _ => False)
    (ac_call X hx (.inl (by decide +kernel)) (nm := "__getattribute__") (by decide +kernel) PySem.F.slot_list_getattribute.plain PySem.F.entry_list_ga (PySem.F.args_list_getattribute_2 _ _) ?_) (fun v' s' hv => ?_) fun _ _ z => z.elim
  · unfold Builtin.«object.__getattribute__»
    refine wpAny_bind (wpAny_pure (wpAny_bind (wpAny_pure (wpAny_bind (L0.at (wpAny_bind (L3.at ?_)))))))
    show wpAny _ _ (holding [.ref f] (call (.builtin "function.__get__") [.ref f, .ref x, .ref 178]) >>= _) _ _ _
    refine wpAny_bind (wpAny_holding (wpAny_call (fn_get X hfn ?_)))
    exact wpAny_pure ⟨_, rfl, rfl, rfl⟩
  · obtain ⟨rfl, rfl⟩ := hv
    show wpAny _ _ (handedOut _) _ _ _
    exact handed_on rfl h
end
section
variable {w : World} {A : Around} {E : Value → Shared → Prop} {s : Shared} {x d : Addr} {ps : Array Value} {n : Nat} {od : Obj} {g : Heap} {L : Addr} {m : Str → Option Value} {nw : List (Addr × Obj)}
theorem m_getbind {name : Str} {f : Addr} {expr : Bool} {Q : Value → Shared → Prop} (F : Fr g L s.heap m) (N : News g L s.heap nw) (X : (hd.heap_1 w.params).In g) (hx : (x, acObj d ps n) ∈ nw ∨ g.get? x = some (acObj d ps n)) (hd' : (d, od) ∈ nw ∨ g.get? d = some od)
    (hf : findObj (hd.heap_1 w.params) 178 (some od) name = some (.bind (.builtin "function.__get__") (.ref f))) (hfn : typeIn (hd.heap_1 w.params) (.ref f) = some (.type "function"))
    (h : ∀ q h', Fr g L h' m → News g L h' ((q, methodObj (.ref f) (.ref x)) :: nw) → (∀ p ∈ nw, p.1 < q) → Q (.ref q) { s with heap := h', toks := s.toks + 1 }) :
    wpAny (model Challenge.rw_oc0165_01.row.prog w) A (getAttr (.ref x) name expr) Q E s :=
  ac_getbind (X.keeps F.keep) (at_of F N hx) (at_of F N hd') hf hfn (h _ _ (F.push _) (N.push F _) fun p hp => Heap.lt_size (N p hp).1)
end
section
variable {w : World} {p : Program} {loose : List Str} {mean : ExcName → Option Value} {mg mb : Str → Option Value} {G : Heap} {s : Shared} {R : Result → Shared → Prop}
set_option maxHeartbeats 8000000
theorem c_pushC {x d : Addr} {ps : Array Value} {n : Nat} {hs0 : Int} {t0 : Tok} {v0 : Value} {n0 : Nat} {a b : Str} {ta tb : Tok} (D : Gd w p loose mean mg mb G) (St : G.StaysIn s.heap) (hx : s.heap.get? x = some (acObj d ps n)) (hd' : s.heap.get? d = some (acDict hs0 t0 v0 n0)) (hxG : G.get? x = none)
    (hz : ps.size ≤ 1000)
    (hret : ∀ h' tk' n' T t1 t2, (∀ b o, s.heap.get? b = some o → b ≠ x → h'.get? b = some o) → s.heap.get? T = none → h'.get? T = some { cls := .type "tuple", data := .seq #[.str a t1, .str b t2] } → h'.get? x = some (acObj d (ps.push (.ref T)) n') → R (.ok (.ret .none)) { s with heap := h', toks := tk' }) :
    codeAny (model Challenge.rw_oc0165_01.row.prog w) (Am 800 600) (.call (.ref 122) ⟨[.ref x, .str a ta, .str b tb], []⟩) R s := by
  have fill : (hd.heap_1 w.params).In G ∧ wpAny (model Challenge.rw_oc0165_01.row.prog w) (Am 0 0) (pure ()) (fun _ _ => True) (fun _ _ => True) s := ⟨D.X, wpAny_pure trivial⟩
  revert fill
  k_fill
  intro _
  refine' enterP (binds := [("self", .ref x), ("fws", .str a ta), ("string", .str b tb)]) [(x, acObj d ps n)] D St ?k3 ?k4 ?k6 ?k7 ?k8 ?k9 ?kB ?c5 ?c2 ?c3 ?c4 ?_
  case k3 => rintro q (_ | ⟨_, hq⟩); (· exact hx); cases hq
  case k4 => rintro q (_ | ⟨_, hq⟩); (· exact hxG); cases hq
  (((case k6 => k_is); (case k7 => k_is); (case k8 => decide)))
  case k9 => first | exact BindsTo.of_eq rfl | (refine' binds_K (D.X.keeps St) ?b1 ?b2 ?b3 ?b4 ?b5; (case b1 => exact rfl); (case b2 => k_is); (case b3 => exact rfl); (case b4 => exact rfl); (case b5 => exact rfl))
  (((case kB => exact locs rfl); (case c5 => decide); (case c2 => exact rfl); (case c3 => exact rfl); (case c4 => exact rfl)))
  intro g L h hg hL F N X T l1 hkeep hst
  have hdx : d ≠ x := by rintro rfl; rw [hx] at hd'; cases hd'
  replace hkeep : ∀ b o, s.heap.get? b = some o → b ≠ x → g.get? b = some o := fun b o e hb => hkeep b o e (by rintro q (_ | ⟨_, hq⟩); (· exact hb.symm); cases hq)
  have hdg := hkeep _ _ hd' hdx
  try dsimp only
  try k_fold
  (repeat' (first | (fail_if_success (with_reducible show wpAny _ _ (exec (Stmt.For _ _ _ _ _) _) _ _ _)); (first | (k_unfold; (try dsimp only)) | (first | ((with_reducible show wpAny _ _ (call (Value.builtin "list.append") _) _ _ _); (k_here; k_dflt (refine' m_append ?k1 ?k2 ?k3 ?k4 ?k5 ?_; (case k1 => k_asm); (case k2 => k_asm); (case k3 => k_asm); (case k4 => k_upd); (case k5 => omega)); intro h' F' N'; (try k_sweep))) | ((with_reducible show wpAny _ _ (getMethod (Value.ref _) _ _) _ _ _); (k_here; k_dflt (refine' m_method ?k1 ?k2 ?k3 ?k4 ?k5 ?k6 ?k7 ?k8 ?k9 ?_; (case k1 => k_asm); (case k2 => k_asm); (case k3 => k_asm); (case k4 => (first | exact .inr (by assumption) | exact .inl (by k_mem))); (case k5 => (first | exact .inr (by assumption) | exact .inl (by k_mem))); (case k6 => k_is); (case k7 => k_is); (case k8 => decide +kernel); (case k9 => rfl)))) | walk1) | (dsimp only; (first | ((with_reducible show wpAny _ _ (call (Value.builtin "list.append") _) _ _ _); (k_here; k_dflt (refine' m_append ?k1 ?k2 ?k3 ?k4 ?k5 ?_; (case k1 => k_asm); (case k2 => k_asm); (case k3 => k_asm); (case k4 => k_upd); (case k5 => omega)); intro h' F' N'; (try k_sweep))) | ((with_reducible show wpAny _ _ (getMethod (Value.ref _) _ _) _ _ _); (k_here; k_dflt (refine' m_method ?k1 ?k2 ?k3 ?k4 ?k5 ?k6 ?k7 ?k8 ?k9 ?_; (case k1 => k_asm); (case k2 => k_asm); (case k3 => k_asm); (case k4 => (first | exact .inr (by assumption) | exact .inl (by k_mem))); (case k5 => (first | exact .inr (by assumption) | exact .inl (by k_mem))); (case k6 => k_is); (case k7 => k_is); (case k8 => decide +kernel); (case k9 => rfl)))) | walk1)))))
  rename Fr _ _ _ _ => F1
  rename News _ _ _ _ => N1
  try dsimp only
  have z := N1 _ (.head _)
  exact hret _ _ _ _ _ _ (fun b o e hb => F1.keep _ _ (hkeep _ _ e hb)) (none_of hkeep (Nat.ne_of_gt (by assumption)) z.2.2) z.1 (N1 _ (.tail _ (.head _))).1
end
end Mine
end

section
-- Vf2
example : True := by w_top off; trivial
open PySem PySem.W PyProof.Rows PySem.Calls PySem.Spec
set_option maxRecDepth 100000
namespace Mine
section
variable {w : World} {p : Program} {loose : List Str} {mean : ExcName → Option Value} {mg mb : Str → Option Value} {G : Heap} {s : Shared} {Q E : Value → Shared → Prop}
  {V dv Ln x d : Addr} {mx : Int} {sg : Str} {lines : List Str} {l : List (Str × Str)} {i0 : Int} {hh : Nat → Int} {tt : Nat → Tok} {tm : Tok} {vc vl : Value} {tsg : Tok} {nd : Nat} {lns : List Value} {nl : Nat} {ps : Array Value} {n : Nat} {hs0 : Int} {t0 ti : Tok} {n0 : Nat} {tb tc : Array Value}
set_option maxHeartbeats 1000000
theorem c_newline {a b : Str} (D : Gd w p loose mean mg mb G) (St : G.StaysIn s.heap) (H : VFAt s.heap V dv Ln x d mx sg lines (l ++ [(a, b)]) 0 hh tt tm vc vl tsg nd lns nl ps n hs0 t0 ti n0 tb tc) (O : OffG G V dv Ln x d)
    (hbare : AllBare s.gens) (hsh : Short (l ++ [(a, b)])) (hab : b.length ≠ 0) (hns : Txt.isspace (strOf (l ++ [(a, b)])) = false) (hlc : lines.length ≤ 1000)
    (hret : ∀ s' lns' nl' n' ti' tb' tc', VFAt s'.heap V dv Ln x d mx sg (lines ++ [strOf (l ++ [(a, b)])]) [] 0 hh tt tm vc vl tsg nd lns' nl' #[] n' hs0 t0 ti' n0 tb' tc' → (∀ b o, s.heap.get? b = some o → b ≠ V → b ≠ dv → b ≠ Ln → b ≠ x → b ≠ d → b ≠ 140 → b ≠ 147 → s'.heap.get? b = some o) →
      AllBare s'.gens → s'.drawn = s.drawn → s'.os = s.os → Q .none s') :
    wpAny (model Challenge.rw_oc0165_01.row.prog w) (Am 600 400) (call (.ref 56) [.ref V]) Q E s := by
  have fill : (hd.heap_1 w.params).In G := D.X
  revert fill
  k_fill
  intro _
  refine wpAny_call ?_
  refine' enterV (binds := [("self", .ref V)]) H O D St ?k6 ?k7 ?k8 ?k9 ?kB ?c5 ?c2 ?c3 ?c4 ?_
  (((case k6 => k_is); (case k7 => k_is); (case k8 => decide)))
  case k9 => exact BindsTo.of_eq rfl
  (((case kB => exact locs rfl); (case c5 => decide); (case c2 => exact rfl); (case c3 => exact rfl); (case c4 => exact rfl)))
  intro g L h hL F N X T hkeep hst hpg
  have HA := H.apart
  have hsz := hpg.1
  have hl100 : l.length + 1 ≤ 100 := by have := hsh.1; simpa using this
  have hszl : ps.size = l.length + 1 := by simpa using hsz
  obtain ⟨_, Ts, ta, tb2, f⟩ := hpg
  obtain ⟨f1, f2⟩ := f l.length (by simp)
  have eg : (l ++ [(a, b)]).getD l.length (Str.empty, Str.empty) = (a, b) := by simp [List.getD]
  rw [eg] at f2
  dsimp only at f2
  have hpg : Parts g ps (l ++ [(a, b)]) := ⟨hsz, Ts, ta, tb2, f⟩
  clear f
  dsimp only
  try k_fold
  (repeat' (first | (fail_if_success (with_reducible show wpAny _ _ (exec (Stmt.For _ _ _ _ _) _) _ _ _)); (first | (k_unfold; (try dsimp only)) | (first | ((with_reducible show wpAny _ _ (getMethod (Value.ref _) _ _) _ _ _); (k_here; k_dflt (refine' m_method ?k1 ?k2 ?k3 ?k4 ?k5 ?k6 ?k7 ?k8 ?k9 ?_; (case k1 => k_asm); (case k2 => k_asm); (case k3 => k_asm); (case k4 => (first | exact .inr (by assumption) | exact .inl (by k_mem))); (case k5 => (first | exact .inr (by assumption) | exact .inl (by k_mem))); (case k6 => k_is); (case k7 => k_is); (case k8 => decide +kernel); (case k9 => rfl)))) | ((with_reducible show wpAny _ _ (getAttr (Value.ref _) _ _) _ _ _); (k_here; (with_reducible show wpAny _ _ (getAttr (Value.ref _) "_initial_size" _) _ _ _); k_dflt (refine' m_getattr ?k1 ?k2 ?k3 ?k4 ?k5 ?k6 ?_; (case k1 => k_asm); (case k2 => k_asm); (case k3 => k_asm); (case k4 => (first | exact .inr (by assumption) | exact .inl (by k_mem))); (case k5 => (first | exact .inr (by assumption) | exact .inl (by k_mem))); (case k6 => rfl)))) | walk1) | (dsimp only; (first | ((with_reducible show wpAny _ _ (getMethod (Value.ref _) _ _) _ _ _); (k_here; k_dflt (refine' m_method ?k1 ?k2 ?k3 ?k4 ?k5 ?k6 ?k7 ?k8 ?k9 ?_; (case k1 => k_asm); (case k2 => k_asm); (case k3 => k_asm); (case k4 => (first | exact .inr (by assumption) | exact .inl (by k_mem))); (case k5 => (first | exact .inr (by assumption) | exact .inl (by k_mem))); (case k6 => k_is); (case k7 => k_is); (case k8 => decide +kernel); (case k9 => rfl)))) | ((with_reducible show wpAny _ _ (getAttr (Value.ref _) _ _) _ _ _); (k_here; (with_reducible show wpAny _ _ (getAttr (Value.ref _) "_initial_size" _) _ _ _); k_dflt (refine' m_getattr ?k1 ?k2 ?k3 ?k4 ?k5 ?k6 ?_; (case k1 => k_asm); (case k2 => k_asm); (case k3 => k_asm); (case k4 => (first | exact .inr (by assumption) | exact .inl (by k_mem))); (case k5 => (first | exact .inr (by assumption) | exact .inl (by k_mem))); (case k6 => rfl)))) | walk1)))))
  rename Fr _ _ _ _ => F1
  rename News _ _ _ _ => N1
  show wpAny _ _ (call (.ref 138) [.ref x]) _ _ _
  refine u_pop (d := d) (y := .ref (Ts l.length)) (ps := ps) (n := n) F1 N1 D hst rfl (by decide) (by decide) (fun n' => HA.X .nil) (.inl (by k_mem)) O.hx (by (first | lia | omega)) (by rw [hszl]; exact f1) ?_
  intro h2 tk2 n2 F2 N2
  clear F1 N1
  have f3 : h2.IsTuple (Ts l.length) #[.str a (ta l.length), .str b (tb2 l.length)] := isTuple_at f2 fun o e => F2.keep _ _ e
  (repeat' (first | (fail_if_success (with_reducible show wpAny _ _ (exec (Stmt.For _ _ _ _ _) _) _ _ _)); (first | (k_unfold; (try dsimp only)) | (first | ((with_reducible show wpAny _ _ (getMethod (Value.ref _) _ _) _ _ _); (k_here; k_dflt (refine' m_method ?k1 ?k2 ?k3 ?k4 ?k5 ?k6 ?k7 ?k8 ?k9 ?_; (case k1 => k_asm); (case k2 => k_asm); (case k3 => k_asm); (case k4 => (first | exact .inr (by assumption) | exact .inl (by k_mem))); (case k5 => (first | exact .inr (by assumption) | exact .inl (by k_mem))); (case k6 => k_is); (case k7 => k_is); (case k8 => decide +kernel); (case k9 => rfl)))) | ((with_reducible show wpAny _ _ (getAttr (Value.ref _) _ _) _ _ _); (k_here; (with_reducible show wpAny _ _ (getAttr (Value.ref _) "_initial_size" _) _ _ _); k_dflt (refine' m_getattr ?k1 ?k2 ?k3 ?k4 ?k5 ?k6 ?_; (case k1 => k_asm); (case k2 => k_asm); (case k3 => k_asm); (case k4 => (first | exact .inr (by assumption) | exact .inl (by k_mem))); (case k5 => (first | exact .inr (by assumption) | exact .inl (by k_mem))); (case k6 => rfl)))) | walk1) | (dsimp only; (first | ((with_reducible show wpAny _ _ (getMethod (Value.ref _) _ _) _ _ _); (k_here; k_dflt (refine' m_method ?k1 ?k2 ?k3 ?k4 ?k5 ?k6 ?k7 ?k8 ?k9 ?_; (case k1 => k_asm); (case k2 => k_asm); (case k3 => k_asm); (case k4 => (first | exact .inr (by assumption) | exact .inl (by k_mem))); (case k5 => (first | exact .inr (by assumption) | exact .inl (by k_mem))); (case k6 => k_is); (case k7 => k_is); (case k8 => decide +kernel); (case k9 => rfl)))) | ((with_reducible show wpAny _ _ (getAttr (Value.ref _) _ _) _ _ _); (k_here; (with_reducible show wpAny _ _ (getAttr (Value.ref _) "_initial_size" _) _ _ _); k_dflt (refine' m_getattr ?k1 ?k2 ?k3 ?k4 ?k5 ?k6 ?_; (case k1 => k_asm); (case k2 => k_asm); (case k3 => k_asm); (case k4 => (first | exact .inr (by assumption) | exact .inl (by k_mem))); (case k5 => (first | exact .inr (by assumption) | exact .inl (by k_mem))); (case k6 => rfl)))) | walk1)))))
  rename Fr _ _ _ _ => F3
  rename News _ _ _ _ => N3
  have hT3 := N3 _ (.head _)
  refine ne_pairs (isTuple_at f2 fun o e => F3.keep _ _ e) ⟨_, hT3.1, rfl, _, rfl⟩ (by decide) ?_
  have hbe : (a == Str.ofString " " && b == Str.ofString "") = false := by
    have : (b == Str.ofString "") = false := by
      rw [beq_eq_false_iff_ne]; rintro rfl; exact hab rfl
    rw [this]; simp
  rw [hbe]
  replace N3 : News g L _ (led7 V (instObj 94 dv) dv (vfDict hh tt (.int mx tm) vc vl (.str sg tsg) Ln x nd) Ln (listOf lns.toArray nl) x (acObj d ps.pop n2) d (acDict hs0 t0 (.int 0 ti) n0) (tabObj tb) (tabObj tc) []) := fun q hq => N3 q (.tail _ hq)
  have f4 : _root_.PySem.Heap.IsTuple _ (Ts l.length) #[.str a (ta l.length), .str b (tb2 l.length)] := isTuple_at f2 fun o e => F3.keep _ _ e
  (repeat' (first | (fail_if_success (with_reducible show wpAny _ _ (exec (Stmt.For _ _ _ _ _) _) _ _ _)); (first | (k_unfold; (try dsimp only)) | (first | ((with_reducible show wpAny _ _ (getMethod (Value.ref _) _ _) _ _ _); (k_here; k_dflt (refine' m_method ?k1 ?k2 ?k3 ?k4 ?k5 ?k6 ?k7 ?k8 ?k9 ?_; (case k1 => k_asm); (case k2 => k_asm); (case k3 => k_asm); (case k4 => (first | exact .inr (by assumption) | exact .inl (by k_mem))); (case k5 => (first | exact .inr (by assumption) | exact .inl (by k_mem))); (case k6 => k_is); (case k7 => k_is); (case k8 => decide +kernel); (case k9 => rfl)))) | ((with_reducible show wpAny _ _ (getAttr (Value.ref _) _ _) _ _ _); (k_here; (with_reducible show wpAny _ _ (getAttr (Value.ref _) "_initial_size" _) _ _ _); k_dflt (refine' m_getattr ?k1 ?k2 ?k3 ?k4 ?k5 ?k6 ?_; (case k1 => k_asm); (case k2 => k_asm); (case k3 => k_asm); (case k4 => (first | exact .inr (by assumption) | exact .inl (by k_mem))); (case k5 => (first | exact .inr (by assumption) | exact .inl (by k_mem))); (case k6 => rfl)))) | walk1) | (dsimp only; (first | ((with_reducible show wpAny _ _ (getMethod (Value.ref _) _ _) _ _ _); (k_here; k_dflt (refine' m_method ?k1 ?k2 ?k3 ?k4 ?k5 ?k6 ?k7 ?k8 ?k9 ?_; (case k1 => k_asm); (case k2 => k_asm); (case k3 => k_asm); (case k4 => (first | exact .inr (by assumption) | exact .inl (by k_mem))); (case k5 => (first | exact .inr (by assumption) | exact .inl (by k_mem))); (case k6 => k_is); (case k7 => k_is); (case k8 => decide +kernel); (case k9 => rfl)))) | ((with_reducible show wpAny _ _ (getAttr (Value.ref _) _ _) _ _ _); (k_here; (with_reducible show wpAny _ _ (getAttr (Value.ref _) "_initial_size" _) _ _ _); k_dflt (refine' m_getattr ?k1 ?k2 ?k3 ?k4 ?k5 ?k6 ?_; (case k1 => k_asm); (case k2 => k_asm); (case k3 => k_asm); (case k4 => (first | exact .inr (by assumption) | exact .inl (by k_mem))); (case k5 => (first | exact .inr (by assumption) | exact .inl (by k_mem))); (case k6 => rfl)))) | walk1)))))
  refine starCall_ ?_
  (repeat' (first | (fail_if_success (with_reducible show wpAny _ _ (exec (Stmt.For _ _ _ _ _) _) _ _ _)); (first | (k_unfold; (try dsimp only)) | (first | ((with_reducible show wpAny _ _ (getMethod (Value.ref _) _ _) _ _ _); (k_here; k_dflt (refine' m_method ?k1 ?k2 ?k3 ?k4 ?k5 ?k6 ?k7 ?k8 ?k9 ?_; (case k1 => k_asm); (case k2 => k_asm); (case k3 => k_asm); (case k4 => (first | exact .inr (by assumption) | exact .inl (by k_mem))); (case k5 => (first | exact .inr (by assumption) | exact .inl (by k_mem))); (case k6 => k_is); (case k7 => k_is); (case k8 => decide +kernel); (case k9 => rfl)))) | ((with_reducible show wpAny _ _ (getAttr (Value.ref _) _ _) _ _ _); (k_here; (with_reducible show wpAny _ _ (getAttr (Value.ref _) "_initial_size" _) _ _ _); k_dflt (refine' m_getattr ?k1 ?k2 ?k3 ?k4 ?k5 ?k6 ?_; (case k1 => k_asm); (case k2 => k_asm); (case k3 => k_asm); (case k4 => (first | exact .inr (by assumption) | exact .inl (by k_mem))); (case k5 => (first | exact .inr (by assumption) | exact .inl (by k_mem))); (case k6 => rfl)))) | walk1) | (dsimp only; (first | ((with_reducible show wpAny _ _ (getMethod (Value.ref _) _ _) _ _ _); (k_here; k_dflt (refine' m_method ?k1 ?k2 ?k3 ?k4 ?k5 ?k6 ?k7 ?k8 ?k9 ?_; (case k1 => k_asm); (case k2 => k_asm); (case k3 => k_asm); (case k4 => (first | exact .inr (by assumption) | exact .inl (by k_mem))); (case k5 => (first | exact .inr (by assumption) | exact .inl (by k_mem))); (case k6 => k_is); (case k7 => k_is); (case k8 => decide +kernel); (case k9 => rfl)))) | ((with_reducible show wpAny _ _ (getAttr (Value.ref _) _ _) _ _ _); (k_here; (with_reducible show wpAny _ _ (getAttr (Value.ref _) "_initial_size" _) _ _ _); k_dflt (refine' m_getattr ?k1 ?k2 ?k3 ?k4 ?k5 ?k6 ?_; (case k1 => k_asm); (case k2 => k_asm); (case k3 => k_asm); (case k4 => (first | exact .inr (by assumption) | exact .inl (by k_mem))); (case k5 => (first | exact .inr (by assumption) | exact .inl (by k_mem))); (case k6 => rfl)))) | walk1)))))
  rename Fr _ _ _ _ => F4
  refine m_getbind (f := 122) (d := d) (ps := ps.pop) (n := n2) (od := acDict hs0 t0 (.int 0 ti) n0) F4 N3 X (.inl (by k_mem)) (.inl (by k_mem)) (by kernel_rfl) (by kernel_rfl) ?_
  intro q5 h5 F5 N5 hq5
  clear F4 N3 f4
  dsimp only
  refine callWith_SM (K := hd.heap_1 w.params) (f := 122) (self := .ref x) (by kernel_rfl) ?_
  (repeat' (first | (fail_if_success (with_reducible show wpAny _ _ (exec (Stmt.For _ _ _ _ _) _) _ _ _)); (first | (k_unfold; (try dsimp only)) | (first | ((with_reducible show wpAny _ _ (getMethod (Value.ref _) _ _) _ _ _); (k_here; k_dflt (refine' m_method ?k1 ?k2 ?k3 ?k4 ?k5 ?k6 ?k7 ?k8 ?k9 ?_; (case k1 => k_asm); (case k2 => k_asm); (case k3 => k_asm); (case k4 => (first | exact .inr (by assumption) | exact .inl (by k_mem))); (case k5 => (first | exact .inr (by assumption) | exact .inl (by k_mem))); (case k6 => k_is); (case k7 => k_is); (case k8 => decide +kernel); (case k9 => rfl)))) | ((with_reducible show wpAny _ _ (getAttr (Value.ref _) _ _) _ _ _); (k_here; (with_reducible show wpAny _ _ (getAttr (Value.ref _) "_initial_size" _) _ _ _); k_dflt (refine' m_getattr ?k1 ?k2 ?k3 ?k4 ?k5 ?k6 ?_; (case k1 => k_asm); (case k2 => k_asm); (case k3 => k_asm); (case k4 => (first | exact .inr (by assumption) | exact .inl (by k_mem))); (case k5 => (first | exact .inr (by assumption) | exact .inl (by k_mem))); (case k6 => rfl)))) | walk1) | (dsimp only; (first | ((with_reducible show wpAny _ _ (getMethod (Value.ref _) _ _) _ _ _); (k_here; k_dflt (refine' m_method ?k1 ?k2 ?k3 ?k4 ?k5 ?k6 ?k7 ?k8 ?k9 ?_; (case k1 => k_asm); (case k2 => k_asm); (case k3 => k_asm); (case k4 => (first | exact .inr (by assumption) | exact .inl (by k_mem))); (case k5 => (first | exact .inr (by assumption) | exact .inl (by k_mem))); (case k6 => k_is); (case k7 => k_is); (case k8 => decide +kernel); (case k9 => rfl)))) | ((with_reducible show wpAny _ _ (getAttr (Value.ref _) _ _) _ _ _); (k_here; (with_reducible show wpAny _ _ (getAttr (Value.ref _) "_initial_size" _) _ _ _); k_dflt (refine' m_getattr ?k1 ?k2 ?k3 ?k4 ?k5 ?k6 ?_; (case k1 => k_asm); (case k2 => k_asm); (case k3 => k_asm); (case k4 => (first | exact .inr (by assumption) | exact .inl (by k_mem))); (case k5 => (first | exact .inr (by assumption) | exact .inl (by k_mem))); (case k6 => rfl)))) | walk1)))))
  rename Fr _ _ _ _ => F6
  rename News _ _ _ _ => N6
  refine star_base (ws := [.str a (ta l.length), .str b (tb2 l.length)]) F6 N6 (isTuple_at f2 fun o e => F6.keep _ _ e) rfl (by rw [sizeLine_eq]; exact (show (2 : Nat) ≤ 16777216 by decide)) ?_
  intro h7 F7 N7
  refine ⟨⟨(N7 _ (.head _)).1, X.keeps F7.keep⟩, ?_⟩
  refine wpAny_call (method_call (N7 _ (.head _)).1 (code_up (D := 800) (U := 600) rfl (by decide) (by decide) (c_pushC D (stays_fr F7 hst) (N7 _ (.tail _ (.tail _ (.tail _ (.tail _ (.head _)))))).1 (N7 _ (.tail _ (.tail _ (.tail _ (.tail _ (.tail _ (.head _))))))).1 O.hx (by simp; (first | lia | omega)) ?_)))
  intro h8 tk8 n8 T8 u1 u2 hk8 hT8 hT8' hx8
  replace N7 : News g L h7 (led7 V (instObj 94 dv) dv (vfDict hh tt (.int mx tm) vc vl (.str sg tsg) Ln x nd) Ln (listOf lns.toArray nl) x (acObj d ps.pop n2) d (acDict hs0 t0 (.int 0 ti) n0) (tabObj tb) (tabObj tc) []) := fun q hq => N7 q (.tail _ hq)
  obtain ⟨F8, N8'⟩ := upd_news F7 N7 (HA.X .nil) hk8 hx8
  have hT : ∀ q ∈ led7 V (instObj 94 dv) dv (vfDict hh tt (.int mx tm) vc vl (.str sg tsg) Ln x nd) Ln (listOf lns.toArray nl) x (acObj d ps.pop n2) d (acDict hs0 t0 (.int 0 ti) n0) (tabObj tb) (tabObj tc) [], q.1 ≠ T8 := fun q hq e => by
    rw [← e] at hT8
    have e2 : h7.get? q.1 = some q.2 := (N7 q hq).1
    have hT8 : h7.get? q.1 = none := hT8
    rw [hT8] at e2; cases e2
  have R8 : Off7 V dv Ln x d _ := Off7.cons (o := { cls := .type "tuple", data := .seq #[.str a u1, .str b u2] }) hT .nil
  have N8 := news_behind (news_more N8' F7 hT8 hT8')
  clear F7 N7 N8' F6 N6 hT3
  have hpp : ∀ {h' : Heap} {m'}, Fr g L h' m' → h'.get? T8 = some { cls := .type "tuple", data := .seq #[.str a u1, .str b u2] } → Parts h' (ps.pop.push (.ref T8)) (l ++ [(a, b)]) := fun F' e => by
    have h1 := (hpg.keeps F'.keep).take l.length
    have e1 : (l ++ [(a, b)]).take l.length = l := by simp
    have e2 : (ps.toList.take l.length).toArray = ps.pop := by
      apply Array.toList_inj.mp
      rw [Array.toList_pop, List.dropLast_eq_take]
      simp [hszl]
    rw [e1, e2] at h1
    exact h1.push e
  (repeat' (first | (fail_if_success (with_reducible show wpAny _ _ (exec (Stmt.For _ _ _ _ _) _) _ _ _)); (first | (k_unfold; (try dsimp only)) | (first | ((with_reducible show wpAny _ _ (getMethod (Value.ref _) _ _) _ _ _); (k_here; k_dflt (refine' m_method ?k1 ?k2 ?k3 ?k4 ?k5 ?k6 ?k7 ?k8 ?k9 ?_; (case k1 => k_asm); (case k2 => k_asm); (case k3 => k_asm); (case k4 => (first | exact .inr (by assumption) | exact .inl (by k_mem))); (case k5 => (first | exact .inr (by assumption) | exact .inl (by k_mem))); (case k6 => k_is); (case k7 => k_is); (case k8 => decide +kernel); (case k9 => rfl)))) | ((with_reducible show wpAny _ _ (getAttr (Value.ref _) _ _) _ _ _); (k_here; (with_reducible show wpAny _ _ (getAttr (Value.ref _) "_initial_size" _) _ _ _); k_dflt (refine' m_getattr ?k1 ?k2 ?k3 ?k4 ?k5 ?k6 ?_; (case k1 => k_asm); (case k2 => k_asm); (case k3 => k_asm); (case k4 => (first | exact .inr (by assumption) | exact .inl (by k_mem))); (case k5 => (first | exact .inr (by assumption) | exact .inl (by k_mem))); (case k6 => rfl)))) | walk1) | (dsimp only; (first | ((with_reducible show wpAny _ _ (getMethod (Value.ref _) _ _) _ _ _); (k_here; k_dflt (refine' m_method ?k1 ?k2 ?k3 ?k4 ?k5 ?k6 ?k7 ?k8 ?k9 ?_; (case k1 => k_asm); (case k2 => k_asm); (case k3 => k_asm); (case k4 => (first | exact .inr (by assumption) | exact .inl (by k_mem))); (case k5 => (first | exact .inr (by assumption) | exact .inl (by k_mem))); (case k6 => k_is); (case k7 => k_is); (case k8 => decide +kernel); (case k9 => rfl)))) | ((with_reducible show wpAny _ _ (getAttr (Value.ref _) _ _) _ _ _); (k_here; (with_reducible show wpAny _ _ (getAttr (Value.ref _) "_initial_size" _) _ _ _); k_dflt (refine' m_getattr ?k1 ?k2 ?k3 ?k4 ?k5 ?k6 ?_; (case k1 => k_asm); (case k2 => k_asm); (case k3 => k_asm); (case k4 => (first | exact .inr (by assumption) | exact .inl (by k_mem))); (case k5 => (first | exact .inr (by assumption) | exact .inl (by k_mem))); (case k6 => rfl)))) | walk1)))))
  rename Fr _ _ _ _ => F9
  rename News _ _ _ _ => N9
  have hpos : 0 < lenOf (l ++ [(a, b)]) := by simp [lenOf]; (first | lia | omega)
  have hpos' : (0 : Int) < 0 + (lenOf (l ++ [(a, b)]) : Nat) := by (first | lia | omega)
  refine u_len F9 N9 X D hst rfl (by decide) (by decide) (.inl (by k_mem)) (.inl (by k_mem)) (fun tb' => HA.T R8) H.htr O.hP hbare (hpp F9 (news_rest N9 (.head _))) hsh (by decide) (by decide) ?_
  intro h10 gs10 tk10 t10 tb10 F10 N10 htr10 hb10 hk10
  clear F9 N9
  (repeat' (first | (fail_if_success (with_reducible show wpAny _ _ (exec (Stmt.For _ _ _ _ _) _) _ _ _)); (first | (k_unfold; (try dsimp only)) | (first | ((with_reducible show wpAny _ _ (getMethod (Value.ref _) _ _) _ _ _); (k_here; k_dflt (refine' m_method ?k1 ?k2 ?k3 ?k4 ?k5 ?k6 ?k7 ?k8 ?k9 ?_; (case k1 => k_asm); (case k2 => k_asm); (case k3 => k_asm); (case k4 => (first | exact .inr (by assumption) | exact .inl (by k_mem))); (case k5 => (first | exact .inr (by assumption) | exact .inl (by k_mem))); (case k6 => k_is); (case k7 => k_is); (case k8 => decide +kernel); (case k9 => rfl)))) | ((with_reducible show wpAny _ _ (getAttr (Value.ref _) _ _) _ _ _); (k_here; (with_reducible show wpAny _ _ (getAttr (Value.ref _) "_initial_size" _) _ _ _); k_dflt (refine' m_getattr ?k1 ?k2 ?k3 ?k4 ?k5 ?k6 ?_; (case k1 => k_asm); (case k2 => k_asm); (case k3 => k_asm); (case k4 => (first | exact .inr (by assumption) | exact .inl (by k_mem))); (case k5 => (first | exact .inr (by assumption) | exact .inl (by k_mem))); (case k6 => rfl)))) | walk1) | (dsimp only; (first | ((with_reducible show wpAny _ _ (getMethod (Value.ref _) _ _) _ _ _); (k_here; k_dflt (refine' m_method ?k1 ?k2 ?k3 ?k4 ?k5 ?k6 ?k7 ?k8 ?k9 ?_; (case k1 => k_asm); (case k2 => k_asm); (case k3 => k_asm); (case k4 => (first | exact .inr (by assumption) | exact .inl (by k_mem))); (case k5 => (first | exact .inr (by assumption) | exact .inl (by k_mem))); (case k6 => k_is); (case k7 => k_is); (case k8 => decide +kernel); (case k9 => rfl)))) | ((with_reducible show wpAny _ _ (getAttr (Value.ref _) _ _) _ _ _); (k_here; (with_reducible show wpAny _ _ (getAttr (Value.ref _) "_initial_size" _) _ _ _); k_dflt (refine' m_getattr ?k1 ?k2 ?k3 ?k4 ?k5 ?k6 ?_; (case k1 => k_asm); (case k2 => k_asm); (case k3 => k_asm); (case k4 => (first | exact .inr (by assumption) | exact .inl (by k_mem))); (case k5 => (first | exact .inr (by assumption) | exact .inl (by k_mem))); (case k6 => rfl)))) | walk1)))))
  rename Fr _ _ _ _ => F11
  rename News _ _ _ _ => N11
  show wpAny _ _ (call (.ref 167) [.ref x]) _ _ _
  refine u_onlyws F11 N11 D hst rfl (by decide) (by decide) (.inl (by k_mem)) (.inl (by k_mem)) (fun tb' => HA.T R8) htr10 O.hP (fun tb' tc' => HA.S R8) H.htr2 O.hP2 hb10 (hpp F11 (news_rest N11 (.head _))) hsh hpos ?_
  intro h12 gs12 tk12 tb12 tc12 F12 N12 htr12 htr12' hb12 hk12
  clear F11 N11
  rw [hns]
  (repeat' (first | (fail_if_success (with_reducible show wpAny _ _ (exec (Stmt.For _ _ _ _ _) _) _ _ _)); (first | (k_unfold; (try dsimp only)) | (first | ((with_reducible show wpAny _ _ (getMethod (Value.ref _) _ _) _ _ _); (k_here; k_dflt (refine' m_method ?k1 ?k2 ?k3 ?k4 ?k5 ?k6 ?k7 ?k8 ?k9 ?_; (case k1 => k_asm); (case k2 => k_asm); (case k3 => k_asm); (case k4 => (first | exact .inr (by assumption) | exact .inl (by k_mem))); (case k5 => (first | exact .inr (by assumption) | exact .inl (by k_mem))); (case k6 => k_is); (case k7 => k_is); (case k8 => decide +kernel); (case k9 => rfl)))) | ((with_reducible show wpAny _ _ (getAttr (Value.ref _) _ _) _ _ _); (k_here; (with_reducible show wpAny _ _ (getAttr (Value.ref _) "_initial_size" _) _ _ _); k_dflt (refine' m_getattr ?k1 ?k2 ?k3 ?k4 ?k5 ?k6 ?_; (case k1 => k_asm); (case k2 => k_asm); (case k3 => k_asm); (case k4 => (first | exact .inr (by assumption) | exact .inl (by k_mem))); (case k5 => (first | exact .inr (by assumption) | exact .inl (by k_mem))); (case k6 => rfl)))) | walk1) | (dsimp only; (first | ((with_reducible show wpAny _ _ (getMethod (Value.ref _) _ _) _ _ _); (k_here; k_dflt (refine' m_method ?k1 ?k2 ?k3 ?k4 ?k5 ?k6 ?k7 ?k8 ?k9 ?_; (case k1 => k_asm); (case k2 => k_asm); (case k3 => k_asm); (case k4 => (first | exact .inr (by assumption) | exact .inl (by k_mem))); (case k5 => (first | exact .inr (by assumption) | exact .inl (by k_mem))); (case k6 => k_is); (case k7 => k_is); (case k8 => decide +kernel); (case k9 => rfl)))) | ((with_reducible show wpAny _ _ (getAttr (Value.ref _) _ _) _ _ _); (k_here; (with_reducible show wpAny _ _ (getAttr (Value.ref _) "_initial_size" _) _ _ _); k_dflt (refine' m_getattr ?k1 ?k2 ?k3 ?k4 ?k5 ?k6 ?_; (case k1 => k_asm); (case k2 => k_asm); (case k3 => k_asm); (case k4 => (first | exact .inr (by assumption) | exact .inl (by k_mem))); (case k5 => (first | exact .inr (by assumption) | exact .inl (by k_mem))); (case k6 => rfl)))) | walk1)))))
  rename Fr _ _ _ _ => F13
  rename News _ _ _ _ => N13
  refine u_str F13 N13 X D hst (by decide) rfl (by decide) (by decide) (.inl (by k_mem)) (.inl (by k_mem)) (fun tc' => HA.S R8) htr12' O.hP2 hb12 (hpp F13 (news_rest N13 (.head _))) hsh ?_
  intro h14 gs14 tk14 t14 tc14 F14 N14 htr14 hb14 hk14
  clear F13 N13
  (repeat' (first | (fail_if_success (with_reducible show wpAny _ _ (exec (Stmt.For _ _ _ _ _) _) _ _ _)); (first | (k_unfold; (try dsimp only)) | (first | ((with_reducible show wpAny _ _ (getMethod (Value.ref _) _ _) _ _ _); (k_here; k_dflt (refine' m_method ?k1 ?k2 ?k3 ?k4 ?k5 ?k6 ?k7 ?k8 ?k9 ?_; (case k1 => k_asm); (case k2 => k_asm); (case k3 => k_asm); (case k4 => (first | exact .inr (by assumption) | exact .inl (by k_mem))); (case k5 => (first | exact .inr (by assumption) | exact .inl (by k_mem))); (case k6 => k_is); (case k7 => k_is); (case k8 => decide +kernel); (case k9 => rfl)))) | ((with_reducible show wpAny _ _ (getAttr (Value.ref _) _ _) _ _ _); (k_here; (with_reducible show wpAny _ _ (getAttr (Value.ref _) "_initial_size" _) _ _ _); k_dflt (refine' m_getattr ?k1 ?k2 ?k3 ?k4 ?k5 ?k6 ?_; (case k1 => k_asm); (case k2 => k_asm); (case k3 => k_asm); (case k4 => (first | exact .inr (by assumption) | exact .inl (by k_mem))); (case k5 => (first | exact .inr (by assumption) | exact .inl (by k_mem))); (case k6 => rfl)))) | walk1) | (dsimp only; (first | ((with_reducible show wpAny _ _ (getMethod (Value.ref _) _ _) _ _ _); (k_here; k_dflt (refine' m_method ?k1 ?k2 ?k3 ?k4 ?k5 ?k6 ?k7 ?k8 ?k9 ?_; (case k1 => k_asm); (case k2 => k_asm); (case k3 => k_asm); (case k4 => (first | exact .inr (by assumption) | exact .inl (by k_mem))); (case k5 => (first | exact .inr (by assumption) | exact .inl (by k_mem))); (case k6 => k_is); (case k7 => k_is); (case k8 => decide +kernel); (case k9 => rfl)))) | ((with_reducible show wpAny _ _ (getAttr (Value.ref _) _ _) _ _ _); (k_here; (with_reducible show wpAny _ _ (getAttr (Value.ref _) "_initial_size" _) _ _ _); k_dflt (refine' m_getattr ?k1 ?k2 ?k3 ?k4 ?k5 ?k6 ?_; (case k1 => k_asm); (case k2 => k_asm); (case k3 => k_asm); (case k4 => (first | exact .inr (by assumption) | exact .inl (by k_mem))); (case k5 => (first | exact .inr (by assumption) | exact .inl (by k_mem))); (case k6 => rfl)))) | walk1)))))
  rename Fr _ _ _ _ => F15
  rename News _ _ _ _ => N15
  refine append_K (its := lns.toArray) (n := nl) F15 N15 (HA.L R8) ?_ (by have := H.hls.length; simp; rw [sizeLine_eq]; (first | lia | omega))
  intro h16 F16 N16
  clear F15 N15
  have hl16 : lns.toArray.push (Value.str (strOf (l ++ [(a, b)])) t14) = (lns ++ [Value.str (strOf (l ++ [(a, b)])) t14]).toArray := by simp
  rw [hl16] at N16
  (repeat' (first | (fail_if_success (with_reducible show wpAny _ _ (exec (Stmt.For _ _ _ _ _) _) _ _ _)); (first | (k_unfold; (try dsimp only)) | (first | ((with_reducible show wpAny _ _ (getMethod (Value.ref _) _ _) _ _ _); (k_here; k_dflt (refine' m_method ?k1 ?k2 ?k3 ?k4 ?k5 ?k6 ?k7 ?k8 ?k9 ?_; (case k1 => k_asm); (case k2 => k_asm); (case k3 => k_asm); (case k4 => (first | exact .inr (by assumption) | exact .inl (by k_mem))); (case k5 => (first | exact .inr (by assumption) | exact .inl (by k_mem))); (case k6 => k_is); (case k7 => k_is); (case k8 => decide +kernel); (case k9 => rfl)))) | ((with_reducible show wpAny _ _ (getAttr (Value.ref _) _ _) _ _ _); (k_here; (with_reducible show wpAny _ _ (getAttr (Value.ref _) "_initial_size" _) _ _ _); k_dflt (refine' m_getattr ?k1 ?k2 ?k3 ?k4 ?k5 ?k6 ?_; (case k1 => k_asm); (case k2 => k_asm); (case k3 => k_asm); (case k4 => (first | exact .inr (by assumption) | exact .inl (by k_mem))); (case k5 => (first | exact .inr (by assumption) | exact .inl (by k_mem))); (case k6 => rfl)))) | walk1) | (dsimp only; (first | ((with_reducible show wpAny _ _ (getMethod (Value.ref _) _ _) _ _ _); (k_here; k_dflt (refine' m_method ?k1 ?k2 ?k3 ?k4 ?k5 ?k6 ?k7 ?k8 ?k9 ?_; (case k1 => k_asm); (case k2 => k_asm); (case k3 => k_asm); (case k4 => (first | exact .inr (by assumption) | exact .inl (by k_mem))); (case k5 => (first | exact .inr (by assumption) | exact .inl (by k_mem))); (case k6 => k_is); (case k7 => k_is); (case k8 => decide +kernel); (case k9 => rfl)))) | ((with_reducible show wpAny _ _ (getAttr (Value.ref _) _ _) _ _ _); (k_here; (with_reducible show wpAny _ _ (getAttr (Value.ref _) "_initial_size" _) _ _ _); k_dflt (refine' m_getattr ?k1 ?k2 ?k3 ?k4 ?k5 ?k6 ?_; (case k1 => k_asm); (case k2 => k_asm); (case k3 => k_asm); (case k4 => (first | exact .inr (by assumption) | exact .inl (by k_mem))); (case k5 => (first | exact .inr (by assumption) | exact .inl (by k_mem))); (case k6 => rfl)))) | walk1)))))
  rename Fr _ _ _ _ => F17
  rename News _ _ _ _ => N17
  show wpAny _ _ (call (.ref 160) [.ref x]) _ _ _
  refine u_reset0 F17 N17 D hst rfl (by decide) (by decide) (fun n' => HA.X R8) (fun n' t' => HA.D R8) HA.n5 O.hx O.hd (by simp; (first | lia | omega)) ?_
  intro h18 tk18 n18 t18 F18 N18
  clear F17 N17
  (repeat' (first | (fail_if_success (with_reducible show wpAny _ _ (exec (Stmt.For _ _ _ _ _) _) _ _ _)); (first | (k_unfold; (try dsimp only)) | (first | ((with_reducible show wpAny _ _ (getMethod (Value.ref _) _ _) _ _ _); (k_here; k_dflt (refine' m_method ?k1 ?k2 ?k3 ?k4 ?k5 ?k6 ?k7 ?k8 ?k9 ?_; (case k1 => k_asm); (case k2 => k_asm); (case k3 => k_asm); (case k4 => (first | exact .inr (by assumption) | exact .inl (by k_mem))); (case k5 => (first | exact .inr (by assumption) | exact .inl (by k_mem))); (case k6 => k_is); (case k7 => k_is); (case k8 => decide +kernel); (case k9 => rfl)))) | ((with_reducible show wpAny _ _ (getAttr (Value.ref _) _ _) _ _ _); (k_here; (with_reducible show wpAny _ _ (getAttr (Value.ref _) "_initial_size" _) _ _ _); k_dflt (refine' m_getattr ?k1 ?k2 ?k3 ?k4 ?k5 ?k6 ?_; (case k1 => k_asm); (case k2 => k_asm); (case k3 => k_asm); (case k4 => (first | exact .inr (by assumption) | exact .inl (by k_mem))); (case k5 => (first | exact .inr (by assumption) | exact .inl (by k_mem))); (case k6 => rfl)))) | walk1) | (dsimp only; (first | ((with_reducible show wpAny _ _ (getMethod (Value.ref _) _ _) _ _ _); (k_here; k_dflt (refine' m_method ?k1 ?k2 ?k3 ?k4 ?k5 ?k6 ?k7 ?k8 ?k9 ?_; (case k1 => k_asm); (case k2 => k_asm); (case k3 => k_asm); (case k4 => (first | exact .inr (by assumption) | exact .inl (by k_mem))); (case k5 => (first | exact .inr (by assumption) | exact .inl (by k_mem))); (case k6 => k_is); (case k7 => k_is); (case k8 => decide +kernel); (case k9 => rfl)))) | ((with_reducible show wpAny _ _ (getAttr (Value.ref _) _ _) _ _ _); (k_here; (with_reducible show wpAny _ _ (getAttr (Value.ref _) "_initial_size" _) _ _ _); k_dflt (refine' m_getattr ?k1 ?k2 ?k3 ?k4 ?k5 ?k6 ?_; (case k1 => k_asm); (case k2 => k_asm); (case k3 => k_asm); (case k4 => (first | exact .inr (by assumption) | exact .inl (by k_mem))); (case k5 => (first | exact .inr (by assumption) | exact .inl (by k_mem))); (case k6 => rfl)))) | walk1)))))
  exact hret _ _ _ _ _ _ _ (VFAt.of_news N18 (strs_push H.hls) htr12 htr14 .nil) (fun b o e h1 h2 h3 h4 h5 h6 h7 => F18.keep _ _ (hkeep b o e h1 h2 h3 h4 h5 h6 h7)) hb14 rfl rfl
end
/-- the ledger behind a call that changes a formatter -/
theorem vf_after {g h h' : Heap} {L V dv Ln x d : Addr} {m : Str → Option Value} {o1 o2 o3 o4 o5 o6 o7 : Obj} {mx : Int} {sg : Str} {lines : List Str} {l : List (Str × Str)} {i0 : Int} {hh : Nat → Int} {tt : Nat → Tok} {tm : Tok} {vc vl : Value} {tsg : Tok} {nd : Nat} {lns : List Value} {nl : Nat} {ps : Array Value} {n : Nat} {hs0 : Int} {t0 ti : Tok} {n0 : Nat} {tb tc : Array Value} {rest : List (Addr × Obj)}
    (F : Fr g L h m) (N : News g L h (led7 V o1 dv o2 Ln o3 x o4 d o5 o6 o7 rest)) (R : Off7 V dv Ln x d rest) (H' : VFAt h' V dv Ln x d mx sg lines l i0 hh tt tm vc vl tsg nd lns nl ps n hs0 t0 ti n0 tb tc) (hk : ∀ b o, h.get? b = some o → b ≠ V → b ≠ dv → b ≠ Ln → b ≠ x → b ≠ d → b ≠ 140 → b ≠ 147 → h'.get? b = some o) :
    Fr g L h' m ∧ News g L h' (led7 V (instObj 94 dv) dv (vfDict hh tt (.int mx tm) vc vl (.str sg tsg) Ln x nd) Ln (listOf lns.toArray nl) x (acObj d ps n) d (acDict hs0 t0 (.int i0 ti) n0) (tabObj tb) (tabObj tc) rest) := by
  have z1 := (N _ (.head _)).2
  have z2 := (N _ (.tail _ (.head _))).2
  have z3 := (N _ (.tail _ (.tail _ (.head _)))).2
  have z4 := (N _ (.tail _ (.tail _ (.tail _ (.head _))))).2
  have z5 := (N _ (.tail _ (.tail _ (.tail _ (.tail _ (.head _)))))).2
  have z6 := (N _ (.tail _ (.tail _ (.tail _ (.tail _ (.tail _ (.head _))))))).2
  have z7 := (N _ (.tail _ (.tail _ (.tail _ (.tail _ (.tail _ (.tail _ (.head _)))))))).2
  obtain ⟨oL, es, ep, hL, r⟩ := F.ns
  have nn : ∀ {b : Addr} {o : Obj} {c : Addr}, g.get? b = some o → g.get? c = none → b ≠ c := fun e1 e2 q => by rw [q, e2] at e1; cases e1
  refine ⟨⟨⟨oL, es, ep, hk _ _ hL z1.1.symm z2.1.symm z3.1.symm z4.1.symm z5.1.symm z6.1.symm z7.1.symm, r⟩, fun b o e => hk b o (F.keep b o e) (nn e z1.2) (nn e z2.2) (nn e z3.2) (nn e z4.2) (nn e z5.2) (nn e z6.2) (nn e z7.2), F.above⟩, ?_⟩
  rintro q (_ | ⟨_, _ | ⟨_, _ | ⟨_, _ | ⟨_, _ | ⟨_, _ | ⟨_, _ | ⟨_, hq⟩⟩⟩⟩⟩⟩⟩)
  · exact ⟨H'.hV, z1⟩
  · exact ⟨H'.hdv, z2⟩
  · exact ⟨H'.hLn, z3⟩
  · exact ⟨H'.hx, z4⟩
  · exact ⟨H'.hd, z5⟩
  · exact ⟨H'.hP, z6⟩
  · exact ⟨H'.hP2, z7⟩
  · obtain ⟨a1, a2, a3, a4, a5, a6, a7⟩ := R q hq
    have z := N q (.tail _ (.tail _ (.tail _ (.tail _ (.tail _ (.tail _ (.tail _ hq)))))))
    exact ⟨hk _ _ z.1 a1 a2 a3 a4 a5 a6 a7, z.2⟩
end Mine
end

section
-- Vf3
example : True := by w_top off; trivial
open PySem PySem.W PyProof.Rows PySem.Calls PySem.Spec
set_option maxRecDepth 100000
namespace Mine
section
variable {w : World} {p : Program} {loose : List Str} {mean : ExcName → Option Value} {mg mb : Str → Option Value} {G : Heap} {s : Shared} {Q E : Value → Shared → Prop}
  {V dv Ln x d : Addr} {mx : Int} {sg : Str} {lines : List Str} {l : List (Str × Str)} {i0 : Int} {hh : Nat → Int} {tt : Nat → Tok} {tm : Tok} {vc vl : Value} {tsg : Tok} {nd : Nat} {lns : List Value} {nl : Nat} {ps : Array Value} {n : Nat} {hs0 : Int} {t0 ti : Tok} {n0 : Nat} {tb tc : Array Value}
set_option maxHeartbeats 1000000
theorem c_vstr {a b sep : Str} {tsep : Tok} (D : Gd w p loose mean mg mb G) (St : G.StaysIn s.heap) (H : VFAt s.heap V dv Ln x d mx sg lines (l ++ [(a, b)]) 0 hh tt tm vc vl tsg nd lns nl ps n hs0 t0 ti n0 tb tc) (O : OffG G V dv Ln x d)
    (hbare : AllBare s.gens) (hsh : Short (l ++ [(a, b)])) (hab : b.length ≠ 0) (hns : Txt.isspace (strOf (l ++ [(a, b)])) = false) (hlc : lines.length ≤ 1000) (hsep : sep.length ≤ 16) (hlen : ((lines ++ [strOf (l ++ [(a, b)])]).map (·.length)).sum + (lines ++ [strOf (l ++ [(a, b)])]).length ≤ 1048576)
    (hret : ∀ s' t', (∀ b o, s.heap.get? b = some o → b ≠ V → b ≠ dv → b ≠ Ln → b ≠ x → b ≠ d → b ≠ 140 → b ≠ 147 → s'.heap.get? b = some o) → (∃ tb', s'.heap.get? 140 = some (tabObj tb') ∧ TriplesOk tb'.toList) → (∃ tc', s'.heap.get? 147 = some (tabObj tc') ∧ TriplesOk tc'.toList) →
      AllBare s'.gens → s'.drawn = s.drawn → s'.os = s.os → Q (.str (Txt.join sep (lines ++ [strOf (l ++ [(a, b)])])) t') s') :
    wpAny (model Challenge.rw_oc0165_01.row.prog w) (Am 500 300) (call (.ref 42) [.ref V, .str sep tsep]) Q E s := by
  have fill : (hd.heap_1 w.params).In G := D.X
  revert fill
  k_fill
  intro _
  refine wpAny_call ?_
  refine' enterV (binds := [("self", .ref V), ("linesep", .str sep tsep)]) H O D St ?k6 ?k7 ?k8 ?k9 ?kB ?c5 ?c2 ?c3 ?c4 ?_
  (((case k6 => k_is); (case k7 => k_is); (case k8 => decide)))
  case k9 => exact BindsTo.of_eq rfl
  (((case kB => exact locs rfl); (case c5 => decide); (case c2 => exact rfl); (case c3 => exact rfl); (case c4 => exact rfl)))
  intro g L h hL F N X T hkeep hst hpg
  have HA := H.apart
  dsimp only
  try k_fold
  (repeat' (first | (fail_if_success (with_reducible show wpAny _ _ (exec (Stmt.For _ _ _ _ _) _) _ _ _)); (first | (k_unfold; (try dsimp only)) | walk1 | (dsimp only; walk1))))
  rename Fr _ _ _ _ => F1
  rename News _ _ _ _ => N1
  show wpAny _ _ (call (.ref 56) [.ref V]) _ _ _
  refine wp_up rfl (by decide) (by decide) (c_newline (lines := lines) (lns := lns) D (stays_fr F1 hst) (VFAt.of_news N1 H.hls H.htr H.htr2 (hpg.keeps F1.keep)) O hbare hsh hab hns hlc ?_)
  intro s2 lns2 nl2 n2 ti2 tb2 tc2 H2 hk2 hb2 hdr2 hos2
  obtain ⟨h2, gs2, dr2, tk2, os2⟩ := s2
  dsimp only at H2 hk2 hb2 hdr2 hos2
  subst hdr2 hos2
  obtain ⟨F2, N2⟩ := vf_after F1 N1 .nil H2 hk2
  clear F1 N1
  have hls2 := H2.hls
  have hln2 := H2.hls.length
  (repeat' (first | (fail_if_success (with_reducible show wpAny _ _ (exec (Stmt.For _ _ _ _ _) _) _ _ _)); (first | (k_unfold; (try dsimp only)) | walk1 | (dsimp only; walk1))))
  rename Fr _ _ _ _ => F3
  rename News _ _ _ _ => N3
  refine join_listW (ys := lines ++ [strOf (l ++ [(a, b)])]) ⟨_, (N3 _ (.tail _ (.tail _ (.head _)))).1, rfl, _, rfl⟩ hls2 hsep hlen ?_
  intro t3 tk3
  exact hret _ _ (fun b o e h1 h2 h3 h4 h5 h6 h7 => F3.keep _ _ (hkeep b o e h1 h2 h3 h4 h5 h6 h7)) ⟨_, (N3 _ (.tail _ (.tail _ (.tail _ (.tail _ (.tail _ (.head _))))))).1, H2.htr⟩ ⟨_, (N3 _ (.tail _ (.tail _ (.tail _ (.tail _ (.tail _ (.tail _ (.head _)))))))).1, H2.htr2⟩ hb2 rfl rfl
end
end Mine
end

section
-- Foata
example : True := by w_top off; trivial
namespace Mine
theorem snoc_ind {α : Type} {P : List α → Prop} (h0 : P []) (h1 : ∀ l x, P l → P (l ++ [x])) (l : List α) : P l := by
  have : ∀ k : List α, P k.reverse := by
    intro k
    induction k with
    | nil => exact h0
    | cons x t ih => rw [List.reverse_cons]; exact h1 _ _ ih
  have := this l.reverse
  rwa [List.reverse_reverse] at this
section
variable {α : Type}
/-- each block ends with the next element that has the mark; its last one goes to the front -/
noncomputable def turn (p : α → Bool) : List α → List α → List α
  | cur, [] => cur
  | cur, x :: xs => if p x then x :: (cur ++ turn p [] xs) else turn p (cur ++ [x]) xs
/-- the last one has the mark -/
noncomputable def Marked (p : α → Bool) (l : List α) : Prop := ∀ x, l.getLast? = some x → p x = true
theorem marked_nil {p : α → Bool} : Marked p [] := fun _ h => by cases h
theorem marked_snoc {p : α → Bool} {l : List α} {x : α} (h : p x = true) : Marked p (l ++ [x]) := fun y e => by simp at e; rw [← e]; exact h
theorem Marked.last {p : α → Bool} {l : List α} {x : α} (h : Marked p (l ++ [x])) : p x = true := h x (by simp)
theorem Marked.tail {p : α → Bool} {a : α} {t : List α} (h : Marked p (a :: t)) : Marked p t := by
  intro x hx
  cases t with
  | nil => cases hx
  | cons b t => exact h x (by rw [List.getLast?_cons_cons]; exact hx)
theorem Marked.append {p : α → Bool} {u v : List α} (hu : Marked p u) (hv : Marked p v) : Marked p (u ++ v) := by
  intro x hx
  rw [List.getLast?_append] at hx
  cases e : v.getLast? with
  | none => rw [e] at hx; exact hu x (by simpa using hx)
  | some y => rw [e] at hx; simp at hx; subst hx; exact hv _ e
theorem marked_split {p : α → Bool} : ∀ {l : List α}, Marked p l → l = [] ∨ ∃ c x l', l = c ++ x :: l' ∧ (∀ y ∈ c, p y = false) ∧ p x = true ∧ Marked p l'
  | [], _ => .inl rfl
  | a :: t, h => by
    right
    cases ha : p a with
    | true => exact ⟨[], a, t, rfl, (fun _ q => nomatch q), ha, h.tail⟩
    | false =>
      rcases marked_split h.tail with rfl | ⟨c, x, l', rfl, hc, hx, hl⟩
      · have := h a rfl; rw [ha] at this; cases this
      · refine ⟨a :: c, x, l', rfl, fun y hy => ?_, hx, hl⟩
        rcases List.mem_cons.mp hy with rfl | hy
        · exact ha
        · exact hc y hy
theorem marked_ind {p : α → Bool} {P : List α → Prop} (h0 : P []) (h1 : ∀ c x l', (∀ y ∈ c, p y = false) → p x = true → Marked p l' → P l' → P (c ++ x :: l')) : ∀ (n : Nat) (l : List α), l.length ≤ n → Marked p l → P l
  | n, l, hn, h => by
    rcases marked_split h with rfl | ⟨c, x, l', rfl, hc, hx, hl⟩
    · exact h0
    · cases n with
      | zero => simp at hn
      | succ n => exact h1 c x l' hc hx hl (marked_ind h0 h1 n l' (by simp at hn; (first | lia | omega)) hl)
theorem Marked.ind {p : α → Bool} {P : List α → Prop} {l : List α} (h : Marked p l) (h0 : P []) (h1 : ∀ c x l', (∀ y ∈ c, p y = false) → p x = true → Marked p l' → P l' → P (c ++ x :: l')) : P l := marked_ind h0 h1 l.length l (Nat.le_refl _) h
theorem turn_block {p : α → Bool} : ∀ {c cur : List α} {x : α} {l : List α}, (∀ y ∈ c, p y = false) → p x = true → turn p cur (c ++ x :: l) = x :: ((cur ++ c) ++ turn p [] l)
  | [], cur, x, l, _, hx => by simp [turn, hx]
  | a :: c, cur, x, l, hc, hx => by
    have ha := hc a (.head _)
    rw [List.cons_append, turn, ha]
    rw [if_neg (by simp), turn_block (fun y hy => hc y (.tail _ hy)) hx]
    simp
theorem turn_step {p : α → Bool} {c : List α} {x : α} {l : List α} (hc : ∀ y ∈ c, p y = false) (hx : p x = true) : turn p [] (c ++ x :: l) = x :: (c ++ turn p [] l) := by
  rw [turn_block hc hx]; simp
theorem turn_perm {p : α → Bool} {l : List α} (h : Marked p l) : (turn p [] l).Perm l := by
  refine h.ind (P := fun l => (turn p [] l).Perm l) (.refl _) ?_
  intro c x l' hc hx _ ih
  rw [turn_step hc hx]
  exact (List.Perm.cons x (List.Perm.append_left c ih)).trans List.perm_middle.symm
theorem turn_append {p : α → Bool} {u v : List α} (h : Marked p u) : turn p [] (u ++ v) = turn p [] u ++ turn p [] v := by
  refine h.ind (P := fun u => turn p [] (u ++ v) = turn p [] u ++ turn p [] v) (by simp [turn]) ?_
  intro c x l' hc hx _ ih
  rw [List.append_assoc, List.cons_append, turn_step hc hx, turn_step hc hx, ih]
  simp
/-- turning the turned list from behind leads back -/
theorem turn_turn {p : α → Bool} {l : List α} (h : Marked p l) : Marked p (turn p [] l).reverse ∧ (turn p [] (turn p [] l).reverse).reverse = l := by
  refine h.ind (P := fun l => Marked p (turn p [] l).reverse ∧ (turn p [] (turn p [] l).reverse).reverse = l) ⟨marked_nil, rfl⟩ ?_
  intro c x l' hc hx _ ih
  rw [turn_step hc hx]
  have e : (x :: (c ++ turn p [] l')).reverse = (turn p [] l').reverse ++ (c.reverse ++ x :: []) := by simp
  have hc' : ∀ y ∈ c.reverse, p y = false := fun y hy => hc y (List.mem_reverse.mp hy)
  refine ⟨?_, ?_⟩
  · rw [e, ← List.append_assoc]; exact marked_snoc hx
  · rw [e, turn_append ih.1, turn_step hc' hx, List.reverse_append, ih.2]
    simp [turn]
theorem turn_filter {p q : α → Bool} {l : List α} (h : Marked p l) (hq : (∀ y ∈ l, q y = true → p y = true) ∨ (∀ y ∈ l, q y = true → p y = false)) : (turn p [] l).filter q = l.filter q := by
  revert hq
  refine h.ind (P := fun l => ((∀ y ∈ l, q y = true → p y = true) ∨ (∀ y ∈ l, q y = true → p y = false)) → (turn p [] l).filter q = l.filter q) (fun _ => rfl) ?_
  intro c x l' hc hx _ ih hq
  have ih' := ih (hq.imp (fun h y hy => h y (by simp [hy])) (fun h y hy => h y (by simp [hy])))
  rw [turn_step hc hx]
  rw [List.filter_cons, List.filter_append, List.filter_append, List.filter_cons, ih']
  rcases hq with hq | hq
  · have e : c.filter q = [] := by
      rw [List.filter_eq_nil_iff]
      intro y hy e
      have := hq y (by simp [hy]) e
      rw [hc y hy] at this; cases this
    rw [e]; simp
  · have e : q x = false := by
      cases e : q x with
      | false => rfl
      | true => have := hq x (by simp) e; rw [hx] at this; cases this
    rw [e]; simp
section
variable (r : α → Int)
/-- the pairs that stand wrong -/
noncomputable def inv : List α → Nat
  | [] => 0
  | x :: t => t.countP (fun y => decide (r y < r x)) + inv t
noncomputable def cross (u v : List α) : Nat := (u.map fun x => v.countP fun y => decide (r y < r x)).sum
theorem inv_append (u v : List α) : inv r (u ++ v) = inv r u + inv r v + cross r u v := by
  induction u with
  | nil => simp [inv, cross]
  | cons x t ih =>
    simp only [List.cons_append, inv, ih, cross, List.map_cons, List.sum_cons, List.countP_append]
    simp only [cross] at *
    (first | lia | omega)
theorem cross_perm (u : List α) {v v' : List α} (h : v.Perm v') : cross r u v = cross r u v' := by
  unfold cross
  congr 1
  apply List.map_congr_left
  intro x _
  exact h.countP_eq _
theorem cross_cons (u v : List α) (x : α) : cross r u (x :: v) = cross r u v + u.countP (fun y => decide (r x < r y)) := by
  induction u with
  | nil => simp [cross]
  | cons a t ih =>
    simp only [cross, List.map_cons, List.sum_cons, List.countP_cons] at *
    (first | lia | omega)
theorem inv_snoc (u : List α) (x : α) : inv r (u ++ [x]) = inv r u + u.countP (fun y => decide (r x < r y)) := by
  rw [inv_append, cross_cons]
  have : ∀ u : List α, cross r u [] = 0 := by
    intro u
    induction u with
    | nil => rfl
    | cons a t ih => simp only [cross, List.map_cons, List.sum_cons, List.countP_nil] at *; (first | lia | omega)
  rw [this]
  simp [inv]
theorem inv_turnA {p : α → Bool} (hA : ∀ y z, p y = false → p z = true → r y < r z) {l : List α} (h : Marked p l) : inv r (turn p [] l) = inv r l + l.countP fun y => !p y := by
  refine h.ind (P := fun l => inv r (turn p [] l) = inv r l + l.countP fun y => !p y) (by simp [turn, inv]) ?_
  intro c x l' hc hx hl ih
  rw [turn_step hc hx]
  have hp := turn_perm hl
  have e1 : c.countP (fun y => decide (r y < r x)) = c.length := List.countP_eq_length.mpr fun y hy => by simpa using hA y x (hc y hy) hx
  have e2 : c.countP (fun y => decide (r x < r y)) = 0 := List.countP_eq_zero.mpr fun y hy => by have := hA y x (hc y hy) hx; simp; (first | lia | omega)
  have e3 : c.countP (fun y => !p y) = c.length := List.countP_eq_length.mpr fun y hy => by simp [hc y hy]
  have e4 := hp.countP_eq (fun y => decide (r y < r x))
  have e5 := cross_perm r c hp
  have e6 := cross_cons r c l' x
  simp only [inv, inv_append, List.countP_append, List.countP_cons, hx]
  simp
  (first | lia | omega)
theorem inv_turnB {p : α → Bool} (hB : ∀ y z, p y = false → p z = true → r z < r y) {l : List α} (h : Marked p l) : inv r (turn p [] l) + l.countP (fun y => !p y) = inv r l := by
  refine h.ind (P := fun l => inv r (turn p [] l) + l.countP (fun y => !p y) = inv r l) (by simp [turn, inv]) ?_
  intro c x l' hc hx hl ih
  rw [turn_step hc hx]
  have hp := turn_perm hl
  have e1 : c.countP (fun y => decide (r x < r y)) = c.length := List.countP_eq_length.mpr fun y hy => by simpa using hB y x (hc y hy) hx
  have e2 : c.countP (fun y => decide (r y < r x)) = 0 := List.countP_eq_zero.mpr fun y hy => by have := hB y x (hc y hy) hx; simp; (first | lia | omega)
  have e3 : c.countP (fun y => !p y) = c.length := List.countP_eq_length.mpr fun y hy => by simp [hc y hy]
  have e4 := hp.countP_eq (fun y => decide (r y < r x))
  have e5 := cross_perm r c hp
  have e6 := cross_cons r c l' x
  simp only [inv, inv_append, List.countP_append, List.countP_cons, hx]
  simp
  (first | lia | omega)
/-- the side of the last one, seen from x -/
noncomputable def side (x z : α) : α → Bool := fun y => decide (r x < r y) == decide (r x < r z)
noncomputable def turned (l : List α) (x : α) : List α := match l.getLast? with | none => [] | some z => turn (side r x z) [] l
theorem side_self (x z : α) : side r x z z = true := by simp [side]
theorem turned_nil (x : α) : turned r [] x = [] := rfl
theorem turned_some {l : List α} {x z : α} (h : l.getLast? = some z) : turned r l x = turn (side r x z) [] l := by simp [turned, h]
theorem marked_side {l : List α} {x z : α} (h : l.getLast? = some z) : Marked (side r x z) l := fun y e => by rw [h] at e; cases e; exact side_self r x z
theorem turned_perm (l : List α) (x : α) : (turned r l x).Perm l := by
  cases h : l.getLast? with
  | none => rw [List.getLast?_eq_none_iff] at h; subst h; exact .refl _
  | some z => rw [turned_some r h]; exact turn_perm (marked_side r h)
theorem turned_length (l : List α) (x : α) : (turned r l x).length = l.length := (turned_perm r l x).length_eq
theorem side_eq {x z z' : α} (h : side r x z z' = true) : side r x z' = side r x z := by
  funext y
  have := eq_of_beq (show (decide (r x < r z') == decide (r x < r z)) = true from h)
  simp only [side, this]
/-- turned from behind and again -/
theorem turned_turned (l : List α) (x : α) : (turned r (turned r l x).reverse x).reverse = l := by
  cases h : l.getLast? with
  | none => rw [List.getLast?_eq_none_iff] at h; subst h; rfl
  | some z =>
    have t := turn_turn (marked_side r (x := x) h)
    rw [turned_some r h]
    cases h2 : (turn (side r x z) [] l).reverse.getLast? with
    | none =>
      rw [List.getLast?_eq_none_iff] at h2
      have := t.2
      rw [h2] at this
      rw [h2, ← this]; rfl
    | some z' =>
      rw [turned_some r h2, side_eq r (t.1 z' h2)]
      exact t.2
theorem turned_back {l m : List α} {x : α} (h : m = (turned r l.reverse x).reverse) : turned r m x = l := by
  subst h
  have := turned_turned r l.reverse x
  rw [← List.reverse_inj, this]
noncomputable def made (l : List α) : List α := l.foldl (fun m x => turned r m x ++ [x]) []
theorem made_snoc (l : List α) (x : α) : made r (l ++ [x]) = turned r (made r l) x ++ [x] := by simp [made]
theorem made_perm (l : List α) : (made r l).Perm l := by
  refine snoc_ind (P := fun l => (made r l).Perm l) (.refl _) ?_ l
  intro l x ih
  rw [made_snoc]
  exact ((turned_perm r _ x).trans ih).append_right [x]
theorem made_length (l : List α) : (made r l).length = l.length := (made_perm r l).length_eq
theorem made_last (l : List α) : (made r l).getLast? = l.getLast? := by
  refine snoc_ind (P := fun l => (made r l).getLast? = l.getLast?) rfl ?_ l
  intro l x _
  rw [made_snoc]; simp
/-- the places of the falls -/
noncomputable def maj (l : List Int) : Nat := ((List.range l.length).map fun k => if 1 ≤ k ∧ l.getD k 0 < l.getD (k - 1) 0 then k else 0).sum
theorem getD_snoc_lt (l : List Int) (x : Int) {k : Nat} (h : k < l.length) : (l ++ [x]).getD k 0 = l.getD k 0 := by simp [List.getD, List.getElem?_append_left h]
theorem maj_snoc (l : List Int) (x : Int) : maj (l ++ [x]) = maj l + if x < l.getLast?.getD x then l.length else 0 := by
  unfold maj
  rw [List.length_append, List.length_singleton, List.range_succ, List.map_append, List.sum_append]
  congr 1
  · congr 1
    apply List.map_congr_left
    intro k hk
    have hk' := List.mem_range.mp hk
    rw [getD_snoc_lt l x hk']
    by_cases h : 1 ≤ k
    · rw [getD_snoc_lt l x (by (first | lia | omega))]
    · simp [h]
  · simp only [List.map_cons, List.map_nil, List.sum_cons, List.sum_nil, Nat.add_zero]
    have e : (l ++ [x]).getD l.length 0 = x := by simp [List.getD]
    rw [e]
    cases l with
    | nil => simp
    | cons a t =>
      have e2 : ((a :: t) ++ [x]).getD ((a :: t).length - 1) 0 = ((a :: t).getLast?).getD x := by
        rw [getD_snoc_lt _ _ (by simp)]
        rw [List.getLast?_eq_getElem?]
        simp [List.getD]
      rw [e2]
      simp
/-- MacMahon, Foata -/
theorem inv_made (l : List α) : inv r (made r l) = maj (l.map r) := by
  refine snoc_ind (P := fun l => inv r (made r l) = maj (l.map r)) (by simp [made, inv, maj]) ?_ l
  intro l x ih
  rw [made_snoc, inv_snoc, List.map_append, List.map_singleton, maj_snoc, ← ih]
  have hperm := turned_perm r (made r l) x
  rw [hperm.countP_eq]
  have hlen : (l.map r).length = (made r l).length := by rw [made_length]; simp
  rw [hlen]
  cases h : l.getLast? with
  | none =>
    rw [List.getLast?_eq_none_iff] at h; subst h
    simp [made, turned, inv]
  | some z =>
    have h2 : (made r l).getLast? = some z := by rw [made_last]; exact h
    have hg : (l.map r).getLast?.getD (r x) = r z := by rw [List.getLast?_map, h]; rfl
    rw [turned_some r h2, hg]
    have hM := marked_side r (x := x) h2
    have htot := List.length_eq_countP_add_countP (fun y => decide (r x < r y)) (l := made r l)
    by_cases hz : r x < r z
    · rw [if_pos hz]
      have e : (fun y => !side r x z y) = fun y => decide ¬ (decide (r x < r y)) = true := by
        funext y
        by_cases h : r x < r y <;> simp [side, hz, h]
      rw [inv_turnA r ?_ hM, e]
      · (first | lia | omega)
      · intro y z' h1 h3
        simp [side, hz] at h1 h3
        (first | lia | omega)
    · rw [if_neg hz]
      have e : (fun y => !side r x z y) = fun y => decide (r x < r y) := by
        funext y
        by_cases h : r x < r y <;> simp [side, hz, h]
      have hB := inv_turnB r (p := side r x z) ?_ hM
      · rw [e] at hB; (first | lia | omega)
      · intro y z' h1 h3
        simp [side, hz] at h1 h3
        (first | lia | omega)
/-- the way back -/
noncomputable def backN : Nat → List α → List α
  | 0, _ => []
  | n + 1, l => match l.getLast? with | none => [] | some x => backN n (turned r l.dropLast.reverse x).reverse ++ [x]
noncomputable def back (l : List α) : List α := backN r l.length l
theorem back_nil : back r [] = [] := rfl
theorem back_snoc (l : List α) (x : α) : back r (l ++ [x]) = back r (turned r l.reverse x).reverse ++ [x] := by
  unfold back
  rw [List.length_append, List.length_singleton, backN]
  have e : (turned r l.reverse x).reverse.length = l.length := by rw [List.length_reverse, turned_length, List.length_reverse]
  rw [e]
  simp
theorem back_made (l : List α) : back r (made r l) = l := by
  refine snoc_ind (P := fun l => back r (made r l) = l) rfl ?_ l
  intro l x ih
  rw [made_snoc, back_snoc, turned_turned, ih]
theorem made_backN : ∀ (n : Nat) (l : List α), l.length = n → made r (back r l) = l
  | 0, l, h => by rw [List.length_eq_zero_iff] at h; subst h; rfl
  | n + 1, l, h => by
    have hne : l ≠ [] := by intro e; subst e; cases h
    have e := List.dropLast_concat_getLast hne
    rw [← e, back_snoc, made_snoc, made_backN n _ (by rw [List.length_reverse, turned_length, List.length_reverse, List.length_dropLast, h]; rfl), turned_back r rfl]
theorem made_back (l : List α) : made r (back r l) = l := made_backN r _ l rfl
theorem back_perm (l : List α) : (back r l).Perm l := by
  have := made_perm r (back r l)
  rw [made_back] at this
  exact this.symm
/-- what is never parted keeps its order -/
theorem made_filter {q : α → Bool} : ∀ (l : List α), (∀ u x v, l = u ++ x :: v → ∀ y ∈ u, ∀ z ∈ u, q y = true → q z = true → (r x < r y ↔ r x < r z)) → (made r l).filter q = l.filter q := by
  refine snoc_ind (fun _ => rfl) ?_
  intro l x ih h
  have ih' := ih fun u y v e => h u y (v ++ [x]) (by rw [e]; simp)
  have hx := h l x [] rfl
  rw [made_snoc, List.filter_append, List.filter_append, ← ih']
  congr 1
  have hmem : ∀ y, y ∈ made r l → y ∈ l := fun y hy => (made_perm r l).mem_iff.mp hy
  cases hz : (made r l).getLast? with
  | none => rw [List.getLast?_eq_none_iff] at hz; rw [hz]; rfl
  | some z =>
    rw [turned_some r hz]
    apply turn_filter (marked_side r hz)
    by_cases hex : ∃ y ∈ made r l, q y = true ∧ side r x z y = true
    · obtain ⟨y0, hy0, hq0, hs0⟩ := hex
      left
      intro y hy hq
      have := hx y0 (hmem _ hy0) y (hmem _ hy) hq0 hq
      simp only [side, beq_iff_eq, decide_eq_decide] at hs0 ⊢
      exact this.symm.trans hs0
    · right
      intro y hy hq
      cases hs : side r x z y with
      | false => rfl
      | true => exact absurd ⟨y, hy, hq, hs⟩ hex
end
end
end Mine
end

section
-- EnterC
example : True := by w_top off; trivial
open PySem PySem.W PyProof.Rows PySem.Calls PySem.Spec
set_option maxRecDepth 100000
namespace Mine
section
variable {w : World} {p : Program} {loose : List Str} {mean : ExcName → Option Value} {mg mb : Str → Option Value} {G : Heap} {s : Shared}
  {R : Result → Shared → Prop} {name qual : Str} {params : Arguments} {body : List Stmt} {scope : Scope} {dV kV doc pm cdv ct oc : Value} {an od : Option Addr} {osl : Array (Option Value)} {f : Addr} {args : Args} {binds : List (Str × Value)} {dp un : Nat}
/-- a def with cells is entered; the objects of led may be changed by it, all others not -/
theorem enterC (led : List (Addr × Obj)) (D : Gd w p loose mean mg mb G) (S : G.StaysIn s.heap) (hl : ∀ q ∈ led, s.heap.get? q.1 = some q.2) (hf : ∀ q ∈ led, G.get? q.1 = none)
    (ho : (hd.heap_1 w.params).lookup f = some ⟨oc, od, .func (fnX name qual params body scope [] dV kV doc pm an cdv ct), osl⟩) (hcd : codeIn (hd.heap_1 w.params) cdv qual = true) (hroom : dp < recursionLimit)
    (hbind : BindsTo s (fnX name qual params body scope [] dV kV doc pm an cdv ct) args binds) (hkind : (binds.all fun y => scope.names.lookup y.1 == some .local || scope.names.lookup y.1 == some .cell) = true)
    (hnd : ((cellsFrom 0 scope.names []).map (·.1)).Nodup) (hco : scope.isCoroutine = false) (hgen : scope.isGenerator = false) (hk : scope.kind = .function)
    (h : ∀ g L' h₁ tk cells, g = hideAll s.heap (led.map (·.1)) → L' = s.heap.objs.size → Fr g L' h₁ (bindL (envOfC qual scope L' f cdv).kindOf binds fun _ => none) → News g L' h₁ (cells ++ led) →
      CellsAre (bindC (envOfC qual scope L' f cdv).kindOf binds fun _ => none) (cellsFrom (L' + 1) scope.names []) cells → (hd.heap_1 w.params).In g → Top p loose mean mg mb g → (∀ q ∈ led, q.1 < L') →
      (∀ b o, s.heap.get? b = some o → (∀ q ∈ led, q.1 ≠ b) → g.get? b = some o) → G.StaysIn g →
      wpAny (model Challenge.rw_oc0165_01.row.prog w) (Am (dp + 1) (un + 3)) (execs body (envOfC qual scope L' f cdv)) (fun fl s' => R (.ok (.ret (match fl with | .ret v => v | _ => .none))) s') (fun _ _ => False)
        { s with heap := h₁, toks := tk }) : codeAny (model Challenge.rw_oc0165_01.row.prog w) (Am dp un) (.call (.ref f) args) R s := by
  have nm : ∀ b o, G.get? b = some o → b ∉ led.map (·.1) := fun b o e q => by
    obtain ⟨p, hp, rfl⟩ := List.mem_map.mp q
    rw [hf p hp] at e; cases e
  have st : G.StaysIn (hideAll s.heap (led.map (·.1))) := fun b o e => hideAll_get _ (S b o e) (nm b o e)
  refine codeAny_call_function hroom (S _ _ (D.X _ _ ho)) rfl hco hgen rfl (codeRec_of (D.X.keeps S) hcd) (hbind _ _ _ _ ?_)
  refine wpAny_newFunctionEnv_cells hk (kindsX hkind _) fun env' he s' x => ?_
  subst he
  refine ⟨(D.T.nolimit.keeps S).keeps x.toInCall.keep, codeAny_func ?_⟩
  obtain ⟨h₁, tk, rfl, _⟩ := x.done
  have hk₁ := x.toInCall.keep
  obtain ⟨cells, NC, Y⟩ := Cl.news (h₀ := s.heap) (Nat.le_refl _) fun n c hm => ⟨x.cell n c (lookup_of_mem_nodup (cellsFrom_names scope.names 0 (s.heap.objs.size + 1) [] [] rfl ▸ hnd) hm), x.above n c hm⟩
  refine wpAny_mono (h _ s.heap.objs.size h₁ tk cells rfl rfl ⟨x.toInCall.ns, fun b o e => hk₁ b o (of_hideAll _ e), Nat.le_of_eq (hideAll_size _ _)⟩ (fun p hp => ?_) Y (D.X.keeps st) (D.T.keeps st) (fun p hp => Heap.lt_size (hl p hp)) (fun b o e n => hideAll_get _ e fun q => ?_) st) (fun fl s' x => x) fun _ _ x => x.elim
  · rcases List.mem_append.mp hp with hp | hp
    · refine ⟨(NC p hp).1, (NC p hp).2.1, ?_⟩
      cases q : (hideAll s.heap (led.map (·.1))).get? p.1 with
      | none => rfl
      | some o => have := of_hideAll _ q; rw [(NC p hp).2.2] at this; cases this
    · exact ⟨hk₁ _ _ (hl p hp), Nat.ne_of_lt (Heap.lt_size (hl p hp)), hideAll_none _ (List.mem_map_of_mem hp)⟩
  · obtain ⟨p, hp, e'⟩ := List.mem_map.mp q
    exact n p hp e'
end
end Mine
end

section
-- Kas
example : True := by w_top off; trivial
open PySem PySem.W PyProof.Rows PySem.Calls PySem.Spec
set_option maxRecDepth 100000
namespace Mine
/-- the tree of questions, answered by a function; none where it asks beyond n -/
noncomputable def runO {α : Type} (n : Nat) (lt : Nat → Nat → Bool) : KasT α → Option α
  | .ret a => some a
  | .ask i j k => if decide (i < n) && decide (j < n) then runO n lt (k (lt i j)) else none
theorem runO_wp {α : Type} {n : Nat} {lt : Nat → Nat → Bool} {cmp : Nat → Nat → (Bool → Shared → Prop) → Shared → Prop} {G : α → Shared → Prop} {s : Shared} (hc : ∀ i j C, i < n → j < n → C (lt i j) s → cmp i j C s) : ∀ {t : KasT α} {a : α}, runO n lt t = some a → G a s → t.kasWp cmp G s
  | .ret _, _, h, g => by cases h; exact g
  | .ask i j k, a, h, g => by
    simp only [runO] at h
    by_cases hij : (decide (i < n) && decide (j < n)) = true
    · rw [if_pos hij] at h
      simp only [Bool.and_eq_true, decide_eq_true_eq] at hij
      exact hc i j _ hij.1 hij.2 (runO_wp hc h g)
    · rw [if_neg hij] at h; cases h
theorem runO_congr {α : Type} {n : Nat} {lt lt' : Nat → Nat → Bool} (hc : ∀ i j, i < n → j < n → lt i j = lt' i j) : ∀ (t : KasT α), runO n lt t = runO n lt' t
  | .ret _ => rfl
  | .ask i j k => by
    simp only [runO]
    by_cases hij : (decide (i < n) && decide (j < n)) = true
    · rw [if_pos hij, if_pos hij]
      simp only [Bool.and_eq_true, decide_eq_true_eq] at hij
      rw [hc i j hij.1 hij.2]
      exact runO_congr hc _
    · rw [if_neg hij, if_neg hij]
noncomputable def insAll (x : Nat) : List Nat → List (List Nat)
  | [] => [[x]]
  | y :: t => (x :: y :: t) :: (insAll x t).map (y :: ·)
noncomputable def permsOf : List Nat → List (List Nat)
  | [] => [[]]
  | x :: t => (permsOf t).flatMap (insAll x)
theorem mem_insAll (x : Nat) : ∀ (u v : List Nat), u ++ x :: v ∈ insAll x (u ++ v)
  | [], [] => .head _
  | [], _ :: _ => .head _
  | y :: u, v => by
    show y :: (u ++ x :: v) ∈ (x :: y :: (u ++ v)) :: (insAll x (u ++ v)).map (y :: ·)
    exact .tail _ (List.mem_map.mpr ⟨_, mem_insAll x u v, rfl⟩)
theorem mem_permsOf : ∀ (t : List Nat) {l : List Nat}, l.Perm t → l ∈ permsOf t
  | [], l, h => by rw [List.perm_nil] at h; subst h; exact .head _
  | x :: t, l, h => by
    have hx : x ∈ l := h.mem_iff.mpr (.head _)
    obtain ⟨u, v, rfl⟩ := List.append_of_mem hx
    have h2 : (u ++ v).Perm t := (List.perm_cons x).mp (List.perm_middle.symm.trans h)
    exact List.mem_flatMap.mpr ⟨_, mem_permsOf t h2, mem_insAll x u v⟩
noncomputable def okPerm (n : Nat) (q : List Nat) : Bool := match runO n (fun i j => decide (q.idxOf i < q.idxOf j)) (kas_sort n) with | some a => a.toList == q | none => false
theorem ok2 : (permsOf (List.range 2)).all (okPerm 2) = true := by decide +kernel
theorem ok3 : (permsOf (List.range 3)).all (okPerm 3) = true := by decide +kernel
theorem ok4 : (permsOf (List.range 4)).all (okPerm 4) = true := by decide +kernel
theorem ok5 : (permsOf (List.range 5)).all (okPerm 5) = true := by decide +kernel
theorem ok6 : (permsOf (List.range 6)).all (okPerm 6) = true := by decide +kernel
theorem ok_le {n : Nat} (h2 : 2 ≤ n) (h6 : n ≤ 6) {q : List Nat} (hq : q.Perm (List.range n)) : okPerm n q = true := by
  have hm := mem_permsOf _ hq
  have : n = 2 ∨ n = 3 ∨ n = 4 ∨ n = 5 ∨ n = 6 := by (first | lia | omega)
  rcases this with rfl | rfl | rfl | rfl | rfl
  · exact List.all_eq_true.mp ok2 _ hm
  · exact List.all_eq_true.mp ok3 _ hm
  · exact List.all_eq_true.mp ok4 _ hm
  · exact List.all_eq_true.mp ok5 _ hm
  · exact List.all_eq_true.mp ok6 _ hm
section
variable {n : Nat} {lt : Nat → Nat → Bool}
theorem ins_sorted (htr : ∀ i j k, i < n → j < n → k < n → lt i j = true → lt j k = true → lt i k = true) (hto : ∀ i j, i < n → j < n → i ≠ j → lt i j = true ∨ lt j i = true) {x : Nat} (hx : x < n) :
    ∀ (q : List Nat), (∀ y ∈ q, y < n) → x ∉ q → q.Pairwise (fun i j => lt i j = true) → ∃ u v, q = u ++ v ∧ (u ++ x :: v).Pairwise (fun i j => lt i j = true)
  | [], _, _, _ => ⟨[], [], rfl, by simp⟩
  | y :: t, hq, hxq, hp => by
    have hyn := hq y (.head _)
    have hne : x ≠ y := fun e => hxq (e ▸ .head _)
    rw [List.pairwise_cons] at hp
    by_cases hl : lt x y = true
    · refine ⟨[], y :: t, rfl, ?_⟩
      show (x :: y :: t).Pairwise _
      rw [List.pairwise_cons]
      refine ⟨fun z hz => ?_, List.pairwise_cons.mpr hp⟩
      rcases List.mem_cons.mp hz with rfl | hz
      · exact hl
      · exact htr x y z hx hyn (hq z (.tail _ hz)) hl (hp.1 z hz)
    · have hl' : lt y x = true := (hto x y hx hyn hne).resolve_left hl
      obtain ⟨u, v, e, hs⟩ := ins_sorted htr hto hx t (fun z hz => hq z (.tail _ hz)) (fun h => hxq (.tail _ h)) hp.2
      refine ⟨y :: u, v, by rw [e]; rfl, ?_⟩
      show (y :: (u ++ x :: v)).Pairwise _
      rw [List.pairwise_cons]
      refine ⟨fun z hz => ?_, hs⟩
      rcases List.mem_append.mp hz with hz | hz
      · exact hp.1 z (e ▸ List.mem_append_left _ hz)
      · rcases List.mem_cons.mp hz with rfl | hz
        · exact hl'
        · exact hp.1 z (e ▸ List.mem_append_right _ hz)
theorem ex_sorted (htr : ∀ i j k, i < n → j < n → k < n → lt i j = true → lt j k = true → lt i k = true) (hto : ∀ i j, i < n → j < n → i ≠ j → lt i j = true ∨ lt j i = true) :
    ∀ (l : List Nat), l.Nodup → (∀ y ∈ l, y < n) → ∃ q : List Nat, q.Perm l ∧ q.Pairwise (fun i j => lt i j = true)
  | [], _, _ => ⟨[], .refl _, .nil⟩
  | x :: t, hd, hl => by
    rw [List.nodup_cons] at hd
    obtain ⟨q, hp, hs⟩ := ex_sorted htr hto t hd.2 fun y hy => hl y (.tail _ hy)
    obtain ⟨u, v, rfl, h2⟩ := ins_sorted htr hto (hl x (.head _)) q (fun y hy => hl y (.tail _ (hp.mem_iff.mp hy))) (fun h => hd.1 (hp.mem_iff.mp h)) hs
    exact ⟨_, List.perm_middle.trans (.cons x hp), h2⟩
theorem idx_pair {q : List Nat} (hs : q.Pairwise (fun i j => lt i j = true)) (hir : ∀ i, i < n → lt i i = false) (htr : ∀ i j k, i < n → j < n → k < n → lt i j = true → lt j k = true → lt i k = true) (hq : ∀ y ∈ q, y < n) {i j : Nat} (hi : i ∈ q) (hj : j ∈ q) : lt i j = decide (q.idxOf i < q.idxOf j) := by
  have li := List.idxOf_lt_length_of_mem hi
  have lj := List.idxOf_lt_length_of_mem hj
  have ei : q[q.idxOf i] = i := List.getElem_idxOf li
  have ej : q[q.idxOf j] = j := List.getElem_idxOf lj
  rw [List.pairwise_iff_getElem] at hs
  rcases Nat.lt_trichotomy (q.idxOf i) (q.idxOf j) with h | h | h
  · have := hs _ _ li lj h
    rw [ei, ej] at this
    rw [this]; simp [h]
  · have e : i = j := by
      have : q[q.idxOf i] = q[q.idxOf j] := by simp only [h]
      rw [ei, ej] at this; exact this
    subst e
    rw [hir i (hq i hi)]; simp
  · have := hs _ _ lj li h
    rw [ei, ej] at this
    cases e : lt i j with
    | true =>
      have := htr i j i (hq i hi) (hq j hj) (hq i hi) e this
      rw [hir i (hq i hi)] at this; cases this
    | false => symm; rw [decide_eq_false_iff_not]; (first | lia | omega)
/-- the sort of up to six things by a strict total order -/
theorem kas_total (h2 : 2 ≤ n) (h6 : n ≤ 6) (htr : ∀ i j k, i < n → j < n → k < n → lt i j = true → lt j k = true → lt i k = true) (hir : ∀ i, i < n → lt i i = false) (hto : ∀ i j, i < n → j < n → i ≠ j → lt i j = true ∨ lt j i = true) :
    ∃ q : List Nat, runO n lt (kas_sort n) = some q.toArray ∧ q.Perm (List.range n) ∧ q.Pairwise (fun i j => lt i j = true) := by
  obtain ⟨q, hp, hs⟩ := ex_sorted htr hto (List.range n) List.nodup_range fun y hy => List.mem_range.mp hy
  have hq : ∀ y, y ∈ q ↔ y < n := fun y => hp.mem_iff.trans List.mem_range
  have e : runO n lt (kas_sort n) = runO n (fun i j => decide (q.idxOf i < q.idxOf j)) (kas_sort n) :=
    runO_congr (fun i j hi hj => idx_pair hs hir htr (fun y hy => (hq y).mp hy) ((hq i).mpr hi) ((hq j).mpr hj)) _
  have ok := ok_le h2 h6 hp
  unfold okPerm at ok
  refine ⟨q, ?_, hp, hs⟩
  rw [e]
  revert ok
  generalize runO n (fun i j => decide (q.idxOf i < q.idxOf j)) (kas_sort n) = r
  cases r with
  | none => intro h; cases h
  | some a =>
    intro h
    have : a.toList = q := by simpa using h
    rw [← this]
end
end Mine
end

section
-- Srt
example : True := by w_top off; trivial
open PySem PySem.W PyProof.Rows PySem.Calls PySem.Spec
set_option maxRecDepth 100000
namespace Mine
section
variable {prog : Program} {w : World} {A : Around} {E : Value → Shared → Prop} {s : Shared} {h₀ : Heap} {L : Addr} {m : Str → Option Value} {news : List (Addr × Obj)}
theorem ints_of_items {n : Nat} {acc : Array Value} (h : ItemsOf (fun i v => ∃ t, v = Value.int (0 + i * 1) t) acc n) : IntsAre acc.toList ((List.range n).map fun i : Nat => (i : Int)) := by
  obtain ⟨hs, hi⟩ := h
  have key : ∀ (l : List Value) (k : Nat), (∀ j v, l[j]? = some v → ∃ t, v = Value.int (k + j : Nat) t) → IntsAre l ((List.range' k l.length).map fun i : Nat => (i : Int)) := by
    intro l
    induction l with
    | nil => intro k _; exact .nil
    | cons a l ih =>
      intro k hl
      obtain ⟨t, rfl⟩ := hl 0 a rfl
      have e : (List.range' k (Value.int (k + 0 : Nat) t :: l).length).map (fun i : Nat => (i : Int)) = ((k + 0 : Nat) : Int) :: (List.range' (k + 1) l.length).map (fun i : Nat => (i : Int)) := by
        simp [List.range'_succ]
      rw [e]
      exact .cons _ t (ih (k + 1) fun j v hv => by
        obtain ⟨t', e'⟩ := hl (j + 1) v hv
        exact ⟨t', by rw [e']; congr 1; (first | lia | omega)⟩)
  have := key acc.toList 0 fun j v hv => by
    obtain ⟨t, e⟩ := hi j v (by simpa using hv)
    exact ⟨t, by rw [e]; congr 1; (first | lia | omega)⟩
  rw [List.range_eq_range', ← hs]
  simpa using this
theorem collect_range {r : Addr} {n : Nat} {t u v : Tok} {Q : List Value → Shared → Prop} (hh : A.handled = none) (hr : IsRange s.heap r 0 n 1 t u v) (hn : n ≤ 100)
    (h : ∀ h' tk vs, (∀ b o, s.heap.get? b = some o → h'.get? b = some o) → IntsAre vs ((List.range n).map fun i : Nat => (i : Int)) → Q vs { s with heap := h', toks := tk }) :
    wpAny (model prog w) A (collect (.ref r)) Q E s := by
  unfold collect
  refine wpAny_bind (wpAny_runValue (codeAny_builtin entry_proto_collect' ?_))
  show wpAny _ _ (do again (.builtin "list.__iadd__" ⟨[← newList [], .ref r], []⟩)) _ _ s
  refine wpAny_bind (wpAny_newList (wpAny_pure ⟨Code.quiet_builtin _ (by decide +kernel), codeAny_builtin entry_list_iadd' ?_⟩))
  show wpAny _ _ (Builtin.List.listExtendWith (.ref s.heap.objs.size) (.ref r) (.ref s.heap.objs.size)) _ _ { s with heap := s.heap.push (seqObj "list" #[] 0) }
  refine wpAny_extend_range (A := A) (R := fun r s' => match r with | .ok (.ret v) => wpAny (model prog w) A (match v with | .ref a => (do let o ← load a; match o.data with | .seq xs _ => pure xs.toList | _ => unsupported "internal:collect") | _ => unsupported "internal:collect") Q E s' | .ok _ => False | .error e => E e s') (s := { s with heap := s.heap.push (seqObj "list" #[] 0) }) hh (Heap.get?_push_of_some _ hr) (small_one (by decide) (by decide) (by (first | lia | omega)) (by (first | lia | omega))) (n := n) (by rw [rangeSize_nat]; (first | lia | omega)) (by (first | lia | omega)) _ _ 0 (Heap.get?_push_size _ rfl) ?_
  intro h' tk acc' c' hk hS hi
  dsimp only
  refine wpAny_bind (wpAny_load hS ?_)
  refine wpAny_pure (h h' tk _ (fun b o e => hk b o (Nat.ne_of_lt (Heap.lt_size e)) (Heap.get?_push_of_some _ e)) (ints_of_items hi))
inductive KtEnd (h₀ : Heap) (L : Addr) (m : Str → Option Value) (need : List (Addr × Obj)) (r i : Int) (s₁ : Shared) (v : Value) (s₂ : Shared) : Prop
  | mk (a : Addr) (o : Obj) (h' : Heap) (tk : Nat) (e : s₂ = { s₁ with heap := h', toks := tk }) (ev : v = Value.ref a) (hc : o.cls = Value.type "tuple") (hd : ∃ t1 t2 k, o.data = Data.seq #[Value.int r t1, Value.int i t2] k) (F : Fr h₀ L h' m) (N : News h₀ L h' ((a, o) :: need))
noncomputable def TupsOk (rk : Nat → Int) (tups : List (Addr × Obj)) : Prop := ∀ j p, tups[j]? = some p → p.2.cls = Value.type "tuple" ∧ ∃ t1 t2 k, p.2.data = Data.seq #[Value.int (rk j) t1, Value.int (j : Nat) t2] k
theorem TupsOk.snoc {rk : Nat → Int} {tups : List (Addr × Obj)} {a : Addr} {o : Obj} (h : TupsOk rk tups) (hc : o.cls = Value.type "tuple") (hd : ∃ t1 t2 k, o.data = Data.seq #[Value.int (rk tups.length) t1, Value.int (tups.length : Nat) t2] k) : TupsOk rk (tups ++ [(a, o)]) := by
  intro j p hj
  by_cases hl : j < tups.length
  · rw [List.getElem?_append_left hl] at hj; exact h j p hj
  · rw [List.getElem?_append_right (by (first | lia | omega))] at hj
    have e0 : j - tups.length = 0 := by
      cases e : j - tups.length with
      | zero => rfl
      | succ k => rw [e] at hj; simp at hj
    rw [e0] at hj
    have ej : j = tups.length := by (first | lia | omega)
    subst ej
    simp at hj
    subst hj
    exact ⟨hc, hd⟩
theorem upd_kS {h₀ h : Heap} {kS D : Addr} {lo : Obj} {e : Nat} {ks : Array Value} {tups : List (Addr × Obj)} (N : News h₀ L h ((kS, seqObj "list" ks e) :: (D, lo) :: (tups ++ news))) (hD : D < kS) (hn : ∀ q ∈ news, q.1 < D) (ht : ∀ p ∈ tups, p.2.cls = Value.type "tuple") :
    UpdF kS (seqObj "list" ks e) ((kS, seqObj "list" ks e) :: (D, lo) :: (tups ++ news)) (fun o' => (kS, o') :: (D, lo) :: (tups ++ news)) := by
  refine .head fun p hp => ?_
  rcases List.mem_cons.mp hp with rfl | hp
  · exact Nat.ne_of_lt hD
  rcases List.mem_append.mp hp with hp | hp
  · intro e
    have z1 := (N _ (.head _)).1
    have z2 := (N p (.tail _ (.tail _ (List.mem_append_left _ hp)))).1
    rw [e, z1] at z2
    have := congrArg Obj.cls (Option.some.inj z2)
    rw [ht p hp] at this
    exact absurd (show Value.type "list" = Value.type "tuple" from this) (by decide)
  · exact Nat.ne_of_lt (Nat.lt_trans (hn p hp) hD)
theorem TupsOk.cls {rk : Nat → Int} {tups : List (Addr × Obj)} (h : TupsOk rk tups) : ∀ p ∈ tups, p.2.cls = Value.type "tuple" := fun p hp => by
  obtain ⟨j, hj, rfl⟩ := List.getElem_of_mem hp
  exact (h j _ (List.getElem?_eq_getElem hj)).1
theorem keysT {q D kS : Addr} {e1 n : Nat} {rk : Nat → Int} {Fin : List Value → Nat → Shared → Prop} (hD : D < kS) (hn : ∀ q ∈ news, q.1 < D)
    (turn : ∀ (i : Nat) t h tk own, i < n → Fr h₀ L h m → News h₀ L h (news ++ own) → wpAny (model prog w) A (call (.ref q) [.int (i : Nat) t]) (KtEnd h₀ L m (news ++ own) (rk i) i { s with heap := h, toks := tk }) (fun _ _ => False) { s with heap := h, toks := tk })
    (fin : ∀ tups e h tk, tups.length = n → TupsOk rk tups → Fr h₀ L h m → News h₀ L h ((kS, seqObj "list" (tups.map fun p => Value.ref p.1).toArray e) :: (D, seqObj "list" #[] e1) :: (tups ++ news)) → Fin (tups.map fun p => Value.ref p.1) e { s with heap := h, toks := tk }) :
    ∀ (rest : List Value) (tups : List (Addr × Obj)) (e : Nat) (h : Heap) (tk : Nat), tups.length + rest.length = n → TupsOk rk tups → IntsAre rest ((List.range' tups.length rest.length).map fun i : Nat => (i : Int)) → Fr h₀ L h m →
      News h₀ L h ((kS, seqObj "list" (tups.map fun p => Value.ref p.1).toArray e) :: (D, seqObj "list" #[] e1) :: (tups ++ news)) →
      KatKeys prog w A h₀ L m kS (.ref q) Fin rest (tups.map fun p => Value.ref p.1) e { s with heap := h, toks := tk }
  | [], tups, e, h, tk, hl, ho, hi, F, N => KatKeys.nil (fin tups e h tk (by simpa using hl) ho F N)
  | v :: rest, tups, e, h, tk, hl, ho, hi, F, N => by
    have e0 : (List.range' tups.length (v :: rest).length).map (fun i : Nat => (i : Int)) = (tups.length : Int) :: (List.range' (tups.length + 1) rest.length).map (fun i : Nat => (i : Int)) := by simp [List.range'_succ]
    rw [e0] at hi
    rcases hi with _ | ⟨_, t, hi⟩
    refine KatKeys.cons (wpAny_mono (turn tups.length t h tk ((kS, seqObj "list" (tups.map fun p => Value.ref p.1).toArray e) :: (D, seqObj "list" #[] e1) :: tups) (by simp at hl; (first | lia | omega)) F ?_) ?_ fun _ _ x => x)
    · intro p hp
      refine N p ?_
      simp only [List.mem_append, List.mem_cons] at hp ⊢
      rcases hp with h | h | h | h <;> simp [h]
    · rintro v' s' ⟨a, o, h', tk', rfl, rfl, hc, hd, F', N'⟩
      have N2 : News h₀ L h' ((kS, seqObj "list" (tups.map fun p => Value.ref p.1).toArray e) :: (D, seqObj "list" #[] e1) :: ((tups ++ [(a, o)]) ++ news)) := fun p hp => N' p (by
        simp only [List.mem_append, List.mem_cons, List.not_mem_nil, or_false] at hp ⊢
        rcases hp with h | h | (h | h) | h <;> simp [h])
      have ho2 := ho.snoc (a := a) hc hd
      refine KatBack.intro F' N2 (upd_kS N2 hD hn ho2.cls) fun h2 c F2 N3 => ?_
      have em : (tups.map fun p => Value.ref p.1) ++ [Value.ref a] = (tups ++ [(a, o)]).map fun p => Value.ref p.1 := by simp
      rw [em] at N3 ⊢
      refine keysT hD hn turn fin rest (tups ++ [(a, o)]) c h2 tk' (by simp at hl ⊢; (first | lia | omega)) ho2 ?_ F2 N3
      rw [show (tups ++ [(a, o)]).length = tups.length + 1 by simp]
      exact hi
/-- the order of two keys -/
noncomputable def keyLtB (rk : Nat → Int) (i j : Nat) : Bool := decide (rk i < rk j ∨ rk i = rk j ∧ i < j)
theorem askT {n : Nat} {rk : Nat → Int} {h : Heap} {tups : List (Addr × Obj)} {i j : Nat} {C : Bool → Shared → Prop} (hl : tups.length = n) (ho : TupsOk rk tups) (hh : s.heap = h) (N : News h₀ L h tups) (hi : i < n) (hj : j < n) (hC : C (keyLtB rk i j) s) :
    kas_ask prog w A (tuples' true) (tups.map fun p => Value.ref p.1) i j C s := by
  subst hh
  have li : i < tups.length := by (first | lia | omega)
  have lj : j < tups.length := by (first | lia | omega)
  obtain ⟨ci, t1, t2, k1, di⟩ := ho i _ (List.getElem?_eq_getElem li)
  obtain ⟨cj, t3, t4, k2, dj⟩ := ho j _ (List.getElem?_eq_getElem lj)
  unfold kas_ask
  have ei : (tups.map fun p => Value.ref p.1).getD i Value.none = .ref tups[i].1 := by simp [li]
  have ej : (tups.map fun p => Value.ref p.1).getD j Value.none = .ref tups[j].1 := by simp [lj]
  rw [ei, ej]
  refine kat_lt (N _ (List.getElem_mem li)).1 di (N _ (List.getElem_mem lj)).1 dj ?_
  show KatLex prog w A true _ C [(Value.int (rk i) t1, Value.int (rk j) t3), (Value.int (i : Nat) t2, Value.int (j : Nat) t4)] 0 s
  refine kat_cons (wpAny_eqBool_int (kat_go (fun he => ?_) fun he => ?_))
  · have he' : rk i = rk j := by simpa using he
    refine kat_yes (kat_cons (wpAny_eqBool_int (kat_go (fun he2 => ?_) fun he2 => ?_)))
    · have e2 : i = j := by have := eq_of_beq he2; (first | lia | omega)
      refine kat_yes (kat_nil ?_)
      have : keyLtB rk i j = false := by unfold keyLtB; rw [decide_eq_false_iff_not]; (first | lia | omega)
      rw [this] at hC
      exact hC
    · refine kat_no (kat_one _ _ ?_)
      refine PyProof.Rows.lt_int ?_
      have : keyLtB rk i j = decide (((i : Nat) : Int) < ((j : Nat) : Int)) := by unfold keyLtB; rw [decide_eq_decide]; (first | lia | omega)
      rw [this] at hC
      exact hC
  · have he' : rk i ≠ rk j := by simpa using he
    refine kat_no (oneLt_int ?_)
    have : keyLtB rk i j = decide (rk i < rk j) := by unfold keyLtB; rw [decide_eq_decide]; (first | lia | omega)
    rw [this] at hC
    exact hC
theorem katTups_of {h : Heap} : ∀ (tups : List (Addr × Obj)) (fs : List Value), News h₀ L h tups → tups.length = fs.length → (∀ (j : Nat) (p : Addr × Obj), tups[j]? = some p → p.2.cls = Value.type "tuple" ∧ ∃ xs k f, p.2.data = Data.seq xs k ∧ xs[0]? = some f ∧ fs[j]? = some f) → KatTups h (tups.map fun p => Value.ref p.1) fs
  | [], [], _, _, _ => KatTups.nil
  | [], _ :: _, _, h, _ => by simp at h
  | _ :: _, [], _, h, _ => by simp at h
  | p :: r, f :: fs, N, hl, ho => by
    obtain ⟨hc, xs, k, f', hd, hx, hf⟩ := ho 0 p rfl
    simp at hf
    subst hf
    exact KatTups.cons (N p (.head _)).1 hc hd hx (katTups_of r fs (fun q hq => N q (.tail _ hq)) (by simpa using hl) fun j q hq => ho (j + 1) q hq)
theorem ints_at : ∀ {vs : List Value} {ns : List Int} {i : Nat} {v : Value}, IntsAre vs ns → vs[i]? = some v → ∃ x, ns[i]? = some x ∧ ∃ t, v = Value.int x t
  | _, _, 0, v, .cons x t _, h => ⟨x, rfl, t, by simpa using h.symm⟩
  | _, _, i + 1, v, .cons _ _ r, h => by simpa using ints_at (i := i) r (by simpa using h)
  | _, _, _, _, .nil, h => by simp at h
theorem ints_pick {vs : List Value} {n : Nat} (hi : IntsAre vs ((List.range n).map fun i : Nat => (i : Int))) : ∀ (q : List Nat), (∀ i ∈ q, i < n) → IntsAre (q.map fun i => vs.getD i Value.none) (q.map fun i : Nat => (i : Int))
  | [], _ => .nil
  | i :: q, h => by
    have hi' := h i (.head _)
    have hv : i < vs.length := by rw [hi.length]; simpa using hi'
    have : ∃ t, vs.getD i Value.none = .int (i : Nat) t := by
      obtain ⟨x, e2, t, e1⟩ := ints_at hi (List.getElem?_eq_getElem hv)
      refine ⟨t, ?_⟩
      rw [List.getD, List.getElem?_eq_getElem hv, Option.getD_some, e1]
      simp [hi'] at e2
      rw [← e2]
    obtain ⟨t, e⟩ := this
    rw [List.map_cons, e]
    exact .cons _ t (ints_pick hi q fun j hj => h j (.tail _ hj))
theorem sortedT {r q : Addr} {n : Nat} {t u v : Tok} {rk : Nat → Int} {Q : Value → Shared → Prop} (hh : A.handled = none) (F : Fr h₀ L s.heap m) (N : News h₀ L s.heap news) (hr : IsRange s.heap r 0 n 1 t u v) (h2 : 2 ≤ n) (h6 : n ≤ 6)
    (turn : ∀ (i : Nat) t h tk own, i < n → Fr h₀ L h m → News h₀ L h (news ++ own) → wpAny (model prog w) A.in1.in1 (call (.ref q) [.int (i : Nat) t]) (KtEnd h₀ L m (news ++ own) (rk i) i { s with heap := h, toks := tk }) (fun _ _ => False) { s with heap := h, toks := tk })
    (k : ∀ D vs' c h' tk (ord : List Nat), Fr h₀ L h' m → News h₀ L h' ((D, PySem.W.listOf (List.toArray vs') c) :: news) → (∀ q ∈ news, q.1 < D) → IntsAre vs' (ord.map fun i : Nat => (i : Int)) → ord.Perm (List.range n) → ord.Pairwise (fun i j => rk i < rk j ∨ rk i = rk j ∧ i < j) → Q (.ref D) { s with heap := h', toks := tk }) :
    wpAny (model prog w) A (call (.builtin "sorted") [.ref r] [(Str.ofString "key", .ref q)]) Q E s := by
  refine call_function_entry_kw kind_sorted plain_sorted entry_sorted (ksk_s1 _ _) ?_
  unfold Builtin.«sorted»
  refine wpAny_bind (m := checkCount "sorted" 1 1 _) (wpAny_pure ?_)
  refine wpAny_bind (collect_range hh hr (by (first | lia | omega)) fun h1 tk1 vs hk1 hi => ?_)
  have hlen : vs.length = n := by rw [hi.length]; simp
  refine wpAny_bind (wpAny_newList ?_ (by rw [sizeLine_eq]; (first | lia | omega)))
  have F1 := F.kept hk1
  have N1 := N.grown hk1
  have hoL : (h1.push (seqObj "list" vs.toArray 0)).get? h1.objs.size = some (seqObj "list" vs.toArray 0) := Heap.get?_push_size _ rfl
  have keep : ∀ b o, h1.get? b = some o → (h1.push (seqObj "list" vs.toArray 0)).get? b = some o := fun b o e => Heap.get?_push_of_some _ e
  have hL : L < h1.objs.size := F1.ns.lt
  show wpAny _ _ _ _ _ { s with heap := h1.push (seqObj "list" vs.toArray 0), toks := tk1 }
  refine wpAny_bind (wpAny_holding (wpAny_call_entry_kw slot_list_sort ⟨_, hoL, rfl⟩ entry_list_sort ?body (ksk_l1 _ _)))
  case body =>
    show wpAny (model prog w) A.in1.in1 (Builtin.«list.sort» ⟨[.ref h1.objs.size], [(Str.ofString "key", .ref q)]⟩) _ _ _
    rw [ksk_t1]
    refine kat_keyed (s := { s with heap := h1.push (seqObj "list" vs.toArray 0), toks := tk1 }) (F1.kept keep) (N1.grown keep) hoL (Nat.ne_of_gt hL) (Heap.get?_none_of_le (Nat.le_trans F1.above (Nat.le_of_lt hL)))
      (fun p hp => Nat.ne_of_lt (Heap.lt_size (N1 p hp).1)) (by (first | lia | omega)) (by (first | lia | omega)) fun kS e1 h' F' N' l0 l1 => ?_
    have hDn : ∀ q ∈ news, q.1 < h1.objs.size := fun p hp => Heap.lt_size (N1 p hp).1
    refine keysT (s := { s with heap := h1.push (seqObj "list" vs.toArray 0), toks := tk1 }) (rk := rk) (n := n) l0 hDn turn (fun tups e h3 tk3 hl3 ho3 F3 N3 => ?_) vs [] 0 h' tk1 (by simpa using hlen) (fun j p hp => by simp at hp) (by rw [List.length_nil, hlen, ← List.range_eq_range']; exact hi) F' N'
    have Nt : News h₀ L h3 tups := fun p hp => N3 p (.tail _ (.tail _ (List.mem_append_left _ hp)))
    have hfs : ∃ fs : List Value, fs.length = n ∧ (∀ v ∈ fs, ∃ z t, v = Value.int z t) ∧ KatTups h3 (tups.map fun p => Value.ref p.1) fs := by
      have hex : ∀ p ∈ tups, ∃ xs k z t, p.2.data = Data.seq xs k ∧ xs[0]? = some (Value.int z t) := fun p hp => by
        obtain ⟨j, hj, rfl⟩ := List.getElem_of_mem hp
        obtain ⟨_, t1, t2, k, hd⟩ := ho3 j _ (List.getElem?_eq_getElem hj)
        exact ⟨_, _, _, _, hd, rfl⟩
      have hfo : ∀ l : List (Addr × Obj), (∀ p ∈ l, ∃ xs k z t, p.2.data = Data.seq xs k ∧ xs[0]? = some (Value.int z t)) → ∃ fs : List Value, fs.length = l.length ∧ (∀ v ∈ fs, ∃ z t, v = Value.int z t) ∧ ∀ (j : Nat) (p : Addr × Obj), l[j]? = some p → ∃ xs k f, p.2.data = Data.seq xs k ∧ xs[0]? = some f ∧ fs[j]? = some f := by
        intro l
        induction l with
        | nil => intro _; exact ⟨[], rfl, (fun _ h => nomatch h), fun j p h => by simp at h⟩
        | cons p l ih =>
          intro hl
          obtain ⟨fs, a1, a2, a3⟩ := ih fun q hq => hl q (.tail _ hq)
          obtain ⟨xs, k, z, t, b1, b2⟩ := hl p (.head _)
          refine ⟨Value.int z t :: fs, by simp [a1], fun v hv => ?_, fun j q hq => ?_⟩
          · rcases List.mem_cons.mp hv with rfl | hv
            · exact ⟨z, t, rfl⟩
            · exact a2 v hv
          · cases j with
            | zero => simp at hq; subst hq; exact ⟨xs, k, _, b1, b2, rfl⟩
            | succ j => simpa using a3 j q (by simpa using hq)
      obtain ⟨fs, a1, a2, a3⟩ := hfo tups hex
      exact ⟨fs, by (first | lia | omega), a2, katTups_of tups fs Nt a1.symm fun j p hp => ⟨(ho3 j p hp).1, a3 j p hp⟩⟩
    obtain ⟨fs, hfl, hfi, hft⟩ := hfs
    refine kat_kind (T := .type "int") hft (by (first | lia | omega)) (fun v hv => ?_) rfl ?_
    · obtain ⟨z, t, rfl⟩ := hfi v hv
      exact Looks.of_pure rfl
    have htot := kas_total (n := n) (lt := keyLtB rk) h2 h6 (fun i j k _ _ _ a b => by simp [keyLtB] at a b ⊢; (first | lia | omega)) (fun i _ => by simp [keyLtB]) (fun i j _ _ hne => by simp [keyLtB]; (first | lia | omega))
    obtain ⟨ord, hrun, hperm, hpw⟩ := htot
    have hlv : vs.toArray.toList.length = n := by simpa using hlen
    show (kas_sort vs.length).kasWp (kas_ask prog w A.in1.in1 (tuples' true) (tups.map fun p => Value.ref p.1)) _ _
    rw [hlen]
    refine runO_wp (fun i j C hi hj hC => askT hl3 ho3 rfl Nt hi hj hC) hrun ?_
    refine KatFin.intro F3 N3 (upd_kS N3 l0 hDn ho3.cls) fun h4 c4 F4 N4 => ?_
    have U4 : UpdF h1.objs.size (seqObj "list" #[] e1) ((kS, seqObj "list" #[] c4) :: (h1.objs.size, seqObj "list" #[] e1) :: (tups ++ news)) (fun o' => (kS, seqObj "list" #[] c4) :: (h1.objs.size, o') :: (tups ++ news)) := by
      refine .tail (Nat.ne_of_gt l0) (.head fun p hp => ?_)
      rcases List.mem_append.mp hp with hp | hp
      · intro e
        have z1 := (N4 _ (.tail _ (.head _))).1
        have z2 := (N4 p (.tail _ (.tail _ (List.mem_append_left _ hp)))).1
        rw [e, z1] at z2
        have := congrArg Obj.cls (Option.some.inj z2)
        rw [ho3.cls p hp] at this
        exact absurd (show Value.type "list" = Value.type "tuple" from this) (by decide)
      · exact Nat.ne_of_lt (hDn p hp)
    refine KasFin.intro F4 N4 U4 fun h5 c5 F5 N5 => ?_
    · refine ⟨_, rfl, wpAny_pure ⟨_, rfl, ?_⟩⟩
      refine k _ _ c5 h5 tk3 ord F5 (fun p hp => N5 p ?_) hDn (ints_pick hi ord fun i hm => List.mem_range.mp (hperm.mem_iff.mp hm)) hperm (hpw.imp fun h => by simpa [keyLtB] using h)
      rcases List.mem_cons.mp hp with rfl | hp
      · exact .tail _ (.head _)
      · exact .tail _ (.tail _ (List.mem_append_right _ hp))
end
end Mine
end

section
-- Lam
example : True := by w_top off; trivial
open PySem PySem.W PyProof.Rows PySem.Calls PySem.Spec
set_option maxRecDepth 100000
namespace Mine
section
variable {w : World} {p : Program} {loose : List Str} {mean : ExcName → Option Value} {mg mb : Str → Option Value} {G : Heap} {s : Shared}
  {R : Result → Shared → Prop} {name qual : Str} {params : Arguments} {body : PySem.Expr} {scope : Scope} {cl : List (Str × Addr)} {pm ctv : Value} {c' f : Addr} {args : Args} {binds : List (Str × Value)} {dp un : Nat}
/-- a lambda is entered; the objects of led may be changed by it, all others not -/
theorem enterL (led : List (Addr × Obj)) (D : Gd w p loose mean mg mb G) (S : G.StaysIn s.heap) (hl : ∀ q ∈ led, s.heap.get? q.1 = some q.2) (hf : ∀ q ∈ led, G.get? q.1 = none)
    (ho : s.heap.get? f = some (kla_obj name qual params body scope cl pm c' ctv)) (hcd : s.heap.CodeRec (.ref c') qual) (hroom : dp < recursionLimit)
    (hbind : bindArgs (kla_fn name qual params body scope cl pm (.ref c') ctv) args = pure binds) (hloc : ∀ y ∈ binds, scope.names.lookup y.1 = some .local)
    (hcell : ∀ x ∈ scope.names, x.2 ≠ .cell) (hco : scope.isCoroutine = false) (hgen : scope.isGenerator = false) (hk : scope.kind = .function)
    (h : ∀ g L' h₁, g = hideAll s.heap (led.map (·.1)) → L' = s.heap.objs.size → Fr g L' h₁ (fun y => binds.reverse.lookup y) → News g L' h₁ led → (hd.heap_1 w.params).In g → Top p loose mean mg mb g → (∀ q ∈ led, q.1 < L') →
      (∀ b o, s.heap.get? b = some o → (∀ q ∈ led, q.1 ≠ b) → g.get? b = some o) → G.StaysIn g →
      wpAny (model Challenge.rw_oc0165_01.row.prog w) (Am (dp + 1) (un + 3)) (eval body (envX qual scope L' f (.ref c') cl)) (fun v s' => R (.ok (.ret v)) s') (fun _ _ => False)
        { s with heap := h₁, toks := s.toks + binds.length }) : codeAny (model Challenge.rw_oc0165_01.row.prog w) (Am dp un) (.call (.ref f) args) R s := by
  have nm : ∀ b o, G.get? b = some o → b ∉ led.map (·.1) := fun b o e q => by
    obtain ⟨p, hp, rfl⟩ := List.mem_map.mp q
    rw [hf p hp] at e; cases e
  have st : G.StaysIn (hideAll s.heap (led.map (·.1))) := fun b o e => hideAll_get _ (S b o e) (nm b o e)
  refine kla_callFunE hroom ho rfl hco hgen rfl hcd ?_
  rw [hbind]
  refine wpAny_pure (wpAny_newFunctionEnv hcell hloc (fun h₁ hns hsb => ?_) hk)
  have hk₁ : ∀ b o, s.heap.get? b = some o → h₁.get? b = some o := fun b o e => hsb.extBut b o (Nat.ne_of_lt (Heap.lt_size e)) (Heap.get?_push_of_some _ e)
  refine ⟨(D.T.nolimit.keeps S).keeps hk₁, ?_⟩
  show codeAny _ _ (.expr body (envX qual scope s.heap.objs.size f (.ref c') cl)) _ _
  refine kla_codeExpr (wpAny_mono (h _ s.heap.objs.size h₁ rfl rfl ⟨hns, fun b o e => hk₁ b o (of_hideAll _ e), Nat.le_of_eq (hideAll_size _ _)⟩
    (fun p hp => ⟨hk₁ _ _ (hl p hp), Nat.ne_of_lt (Heap.lt_size (hl p hp)), hideAll_none _ (List.mem_map_of_mem hp)⟩) (D.X.keeps st) (D.T.keeps st) (fun p hp => Heap.lt_size (hl p hp))
    (fun b o e n => hideAll_get _ e fun q => ?_) st) (fun v s' x => x) fun _ _ x => x.elim)
  obtain ⟨p, hp, e'⟩ := List.mem_map.mp q
  exact n p hp e'
end
theorem kt_end {g h g2 h' : Heap} {L L2 D' : Addr} {m m2 : Str → Option Value} {led nw : List (Addr × Obj)} {o : Obj} {r i : Int} {gs : Array GenState} {d : Drawn} {os : OsState} {tk tk' : Nat} (F : Fr g L h m) (N : News g L h nw) (hl : ∀ q ∈ led, h.get? q.1 = some q.2)
    (hk2 : ∀ b o, h.get? b = some o → (∀ q ∈ led, q.1 ≠ b) → g2.get? b = some o) (F2 : Fr g2 L2 h' m2) (N2 : News g2 L2 h' ((D', o) :: led)) (hc : o.cls = Value.type "tuple") (hd : ∃ t1 t2 k, o.data = Data.seq #[Value.int r t1, Value.int i t2] k) (hne : ∀ q ∈ led, q.2 ≠ o) :
    KtEnd g L m nw r i ⟨h, gs, d, tk, os⟩ (.ref D') ⟨h', gs, d, tk', os⟩ := by
  have keep : ∀ b o, h.get? b = some o → h'.get? b = some o := fun b o' e => by
    by_cases hx : ∃ q ∈ led, q.1 = b
    · obtain ⟨q, hq, rfl⟩ := hx
      rw [hl q hq] at e
      cases e
      exact (N2 q (.tail _ hq)).1
    · exact F2.keep _ _ (hk2 b o' e fun q hq h => hx ⟨q, hq, h⟩)
  have hD : h.get? D' = none := by
    cases e : h.get? D' with
    | none => rfl
    | some o' =>
      exfalso
      by_cases hx : ∃ q ∈ led, q.1 = D'
      · obtain ⟨q, hq, rfl⟩ := hx
        have z1 := (N2 _ (.head _)).1
        have z2 := (N2 q (.tail _ hq)).1
        rw [z1] at z2
        exact hne q hq (Option.some.inj z2).symm
      · have z := (N2 _ (.head _)).2.2
        have := hk2 _ _ e fun q hq h => hx ⟨q, hq, h⟩
        rw [z] at this; cases this
  exact ⟨D', o, h', tk', rfl, rfl, hc, hd, frK F keep, news_more (newsK N keep) F hD (N2 _ (.head _)).1⟩
end Mine
end

section
-- Vmk
example : True := by w_top off; trivial
open PySem PySem.W PyProof.Rows PySem.Calls PySem.Spec
set_option maxRecDepth 100000
namespace Mine
noncomputable def pick6 {α : Type} (a b c d e f : α) : Nat → α
  | 0 => a
  | 1 => b
  | 2 => c
  | 3 => d
  | 4 => e
  | _ => f
section
variable {w : World} {p : Program} {loose : List Str} {mean : ExcName → Option Value} {mg mb : Str → Option Value} {G : Heap} {s : Shared} {R : Result → Shared → Prop}
set_option maxHeartbeats 1000000
theorem c_vinit {V dv : Addr} {i0 mx : Int} {ti tm tws tsg : Tok} {ws sg : Str} (D : Gd w p loose mean mg mb G) (St : G.StaysIn s.heap) (hV : s.heap.get? V = some (instObj 94 dv)) (hdv : s.heap.get? dv = some (dictOf [] 0)) (hVG : G.get? V = none) (hvG : G.get? dv = none) (hws : ws.length ≤ 100) 
    (hret : ∀ h' tk' Ln x d n' hs0 t0 hh tt vc vl nd, (∀ b o, s.heap.get? b = some o → b ≠ V → b ≠ dv → h'.get? b = some o) → s.heap.get? Ln = none → s.heap.get? x = none → s.heap.get? d = none →
      h'.get? V = some (instObj 94 dv) → h'.get? dv = some (vfDict hh tt (.int mx tm) vc vl (.str sg tsg) Ln x nd) → h'.get? Ln = some (listOf #[] 0) → h'.get? x = some (acObj d #[] n') → h'.get? d = some (acDict hs0 t0 (.int i0 ti) 1) → R (.ok (.ret .none)) { s with heap := h', toks := tk' }) :
    codeAny (model Challenge.rw_oc0165_01.row.prog w) (Am 600 400) (.call (.ref 35) ⟨[.ref V, .int i0 ti, .int mx tm, .str ws tws, .str sg tsg], []⟩) R s := by
  have fill : (hd.heap_1 w.params).In G ∧ wpAny (model Challenge.rw_oc0165_01.row.prog w) (Am 0 0) (pure ()) (fun _ _ => True) (fun _ _ => True) s := ⟨D.X, wpAny_pure trivial⟩
  revert fill
  k_fill
  intro _
  refine' enterP (binds := [("self", .ref V), ("headerlen", .int i0 ti), ("maxlen", .int mx tm), ("continuation_ws", .str ws tws), ("splitchars", .str sg tsg)]) [(V, instObj 94 dv), (dv, dictOf [] 0)] D St ?k3 ?k4 ?k6 ?k7 ?k8 ?k9 ?kB ?c5 ?c2 ?c3 ?c4 ?_
  case k3 => rintro q (_ | ⟨_, _ | ⟨_, hq⟩⟩); (· exact hV); (· exact hdv); cases hq
  case k4 => rintro q (_ | ⟨_, _ | ⟨_, hq⟩⟩); (· exact hVG); (· exact hvG); cases hq
  (((case k6 => k_is); (case k7 => k_is); (case k8 => decide)))
  case k9 => exact BindsTo.of_eq rfl
  (((case kB => exact locs rfl); (case c5 => decide); (case c2 => exact rfl); (case c3 => exact rfl); (case c4 => exact rfl)))
  intro g L h hg hL F N X T l1 hkeep hst
  have hne : V ≠ dv := ne_cls hV hdv (by simp)
  replace hkeep : ∀ b o, s.heap.get? b = some o → b ≠ V → b ≠ dv → g.get? b = some o := fun b o e hb hb2 => hkeep b o e (by rintro q (_ | ⟨_, _ | ⟨_, hq⟩⟩); (· exact hb.symm); (· exact hb2.symm); cases hq)
  try dsimp only
  try k_fold
  (repeat' (first | (fail_if_success (with_reducible show wpAny _ _ (exec (Stmt.For _ _ _ _ _) _) _ _ _)); (first | (k_unfold; (try dsimp only)) | (first | ((k_here; (with_reducible show wpAny _ _ (call (Value.ref 178) _) _ _ _); k_dflt (refine' u_make ?k1 ?k2 ?kX ?k3 ?k4 ?k5 ?k6 ?k7 ?_; (case k1 => k_asm); (case k2 => k_asm); (case kX => k_asm); (case k3 => assumption); (case k4 => assumption); (case k5 => exact rfl); (case k6 => decide); (case k7 => decide)); intro h' tk' x' d' n' hs0' t0' F' N' l1 l2; (try k_lt l1); (try k_lt2 l2); (try k_sweep))) | walk1) | (dsimp only; (first | ((k_here; (with_reducible show wpAny _ _ (call (Value.ref 178) _) _ _ _); k_dflt (refine' u_make ?k1 ?k2 ?kX ?k3 ?k4 ?k5 ?k6 ?k7 ?_; (case k1 => k_asm); (case k2 => k_asm); (case kX => k_asm); (case k3 => assumption); (case k4 => assumption); (case k5 => exact rfl); (case k6 => decide); (case k7 => decide)); intro h' tk' x' d' n' hs0' t0' F' N' l1 l2; (try k_lt l1); (try k_lt2 l2); (try k_sweep))) | walk1)))))
  rename Fr _ _ _ _ => F1
  rename News _ _ _ _ => N1
  have fresh : ∀ {b : Addr}, g.get? b = none → b ≠ V → b ≠ dv → s.heap.get? b = none := fun {b} e h1 h2 => by
    cases e2 : s.heap.get? b with
    | none => rfl
    | some o => rw [hkeep b o e2 h1 h2] at e; cases e
  have z1 := N1 _ (.head _)
  have z2 := N1 _ (.tail _ (.head _))
  have z3 := N1 _ (.tail _ (.tail _ (.head _)))
  have z4 := N1 _ (.tail _ (.tail _ (.tail _ (.head _))))
  have z5 := N1 _ (.tail _ (.tail _ (.tail _ (.tail _ (.head _)))))
  refine hret _ _ _ _ _ _ _ _ (pick6 _ _ _ _ _ _) (pick6 _ _ _ _ _ _) _ _ _ (fun b o e h1 h2 => F1.keep _ _ (hkeep b o e h1 h2)) (fresh z3.2.2 (ne_cls z3.1 z4.1 (by simp)) (ne_cls z3.1 z5.1 (by simp))) (fresh z1.2.2 (ne_cls z1.1 z4.1 (by simp)) (ne_cls z1.1 z5.1 (by simp))) (fresh z2.2.2 (ne_cls z2.1 z4.1 (by simp)) ?_) z4.1 z5.1 z3.1 z1.1 z2.1
  intro e
  have e2 := z2.1
  dsimp only at e e2 z5
  rw [e, z5.1] at e2
  simp at e2
end
section
variable {w : World} {p : Program} {loose : List Str} {mean : ExcName → Option Value} {mg mb : Str → Option Value} {G g : Heap} {L : Addr} {m : Str → Option Value} {nw : List (Addr × Obj)} {A : Around} {s : Shared} {Q E : Value → Shared → Prop}
theorem k_vmakes : makesIn (hd.heap_1 w.params) 94 = true := by kernel_rfl
theorem k_vinit : findIn (hd.heap_1 w.params) (.ref 94) "__init__" = some (some (.ref 35)) := by kernel_rfl
theorem k_vinit_fn : isFn (hd.heap_1 w.params) (.ref 35) = true := by kernel_rfl
/-- a formatter is made -/
theorem u_vmake {i0 mx : Int} {ti tm tws tsg : Tok} {ws sg : Str} (F : Fr g L s.heap m) (N : News g L s.heap nw) (X : (hd.heap_1 w.params).In g) (D : Gd w p loose mean mg mb G) (hs : G.StaysIn g) (hh : A.handled = none) (hdp : A.depth ≤ 500) (hu : A.units ≤ 300) (hws : ws.length ≤ 100)
    (k : ∀ h' tk' V dv Ln x d n' hs0 t0 hh tt vc vl nd, Fr g L h' m → News g L h' ((V, instObj 94 dv) :: (dv, vfDict hh tt (.int mx tm) vc vl (.str sg tsg) Ln x nd) :: (Ln, listOf #[] 0) :: (x, acObj d #[] n') :: (d, acDict hs0 t0 (.int i0 ti) 1) :: nw) →
      (∀ q ∈ nw, q.1 ≠ V ∧ q.1 ≠ dv ∧ q.1 ≠ Ln ∧ q.1 ≠ x ∧ q.1 ≠ d) → Q (.ref V) { s with heap := h', toks := tk' }) :
    wpAny (model Challenge.rw_oc0165_01.row.prog w) A (call (.ref 94) [.int i0 ti, .int mx tm, .str ws tws, .str sg tsg]) Q E s := by
  refine call_cls F X N k_vmakes k_vinit k_vinit_fn ?_
  intro V dv h1 F1 N1 hlt1 hlt2
  have zV := N1 _ (.head _)
  have zd := N1 _ (.tail _ (.head _))
  have hG : ∀ b, g.get? b = none → G.get? b = none := fun b e => by
    cases e2 : G.get? b with
    | none => rfl
    | some o => rw [hs b o e2] at e; cases e
  refine code_up (D := 600) (U := 400) hh ?_ ?_ (c_vinit D (stays_fr F1 hs) zV.1 zd.1 (hG _ zV.2.2) (hG _ zd.2.2) hws ?_)
  · show A.depth + (Code.builtin "type.__call__" ⟨[.ref 94, .int i0 ti, .int mx tm, .str ws tws, .str sg tsg], []⟩).weight ≤ 600
    have : (Code.builtin "type.__call__" ⟨[.ref 94, .int i0 ti, .int mx tm, .str ws tws, .str sg tsg], []⟩).weight ≤ 50 := Nat.le_of_ble_eq_true (by kernel_rfl)
    (first | lia | omega)
  · show A.units + (Code.builtin "type.__call__" ⟨[.ref 94, .int i0 ti, .int mx tm, .str ws tws, .str sg tsg], []⟩).cUnits ≤ 400
    have : (Code.builtin "type.__call__" ⟨[.ref 94, .int i0 ti, .int mx tm, .str ws tws, .str sg tsg], []⟩).cUnits ≤ 50 := Nat.le_of_ble_eq_true (by kernel_rfl)
    (first | lia | omega)
  · intro h' tk' Ln x d n' hs0 t0 hh' tt vc vl nd hk hLn hx hd' hV2 hdv2 hLn2 hx2 hd2
    refine ⟨rfl, ?_⟩
    dsimp only at hk hLn hx hd'
    have nL := fresh_loc F (Nat.le_refl _)
    obtain ⟨oL, es, ep, hoL, r⟩ := F1.ns
    have F' : Fr g L h' m := ⟨⟨oL, es, ep, hk _ _ hoL (Ne.symm zV.2.1) (Ne.symm zd.2.1), r⟩, fun b o e => hk b o (F1.keep b o e) (fun q => by subst q; rw [zV.2.2] at e; cases e) (fun q => by subst q; rw [zd.2.2] at e; cases e), F1.above⟩
    have fz : ∀ b, h1.get? b = none → b ≠ L ∧ g.get? b = none := by
      intro b e
      constructor
      · rintro rfl; rw [hoL] at e; cases e
      · cases e2 : g.get? b with
        | none => rfl
        | some o => rw [F1.keep b o e2] at e; cases e
    have fq : ∀ q ∈ nw, ∀ b, h1.get? b = none → q.1 ≠ b := fun q hq b e e2 => by
      have := (N1 q (.tail _ (.tail _ hq))).1
      rw [e2, e] at this; cases this
    refine k h' tk' V dv Ln x d n' hs0 t0 hh' tt vc vl nd F' ?_ fun q hq => ⟨Nat.ne_of_lt (Nat.lt_trans (hlt1 q hq) hlt2), Nat.ne_of_lt (hlt1 q hq), fq q hq _ hLn, fq q hq _ hx, fq q hq _ hd'⟩
    rintro q (_ | ⟨_, _ | ⟨_, _ | ⟨_, _ | ⟨_, _ | ⟨_, hq⟩⟩⟩⟩⟩)
    · exact ⟨hV2, zV.2⟩
    · exact ⟨hdv2, zd.2⟩
    · exact ⟨hLn2, fz _ hLn⟩
    · exact ⟨hx2, fz _ hx⟩
    · exact ⟨hd2, fz _ hd'⟩
    · have z := N1 q (.tail _ (.tail _ hq))
      exact ⟨hk _ _ z.1 (Nat.ne_of_lt (Nat.lt_trans (hlt1 q hq) hlt2)) (Nat.ne_of_lt (hlt1 q hq)), z.2⟩
end
end Mine
end

section
-- Vf4
example : True := by w_top off; trivial
open PySem PySem.W PyProof.Rows PySem.Calls PySem.Spec
set_option maxRecDepth 100000
namespace Mine
/-- the parts of an accumulator lie in the ledger -/
noncomputable def PartsIn (nw : List (Addr × Obj)) (ps : Array Value) (l : List (Str × Str)) : Prop :=
  ps.size = l.length ∧ ∃ Ts : Nat → Addr, ∃ ta tb : Nat → Tok, ∀ j, j < l.length → ps[j]? = some (.ref (Ts j)) ∧ ∃ o, (Ts j, o) ∈ nw ∧ o.cls = .type "tuple" ∧ ∃ n, o.data = .seq #[.str (l.getD j (Str.empty, Str.empty)).1 (ta j), .str (l.getD j (Str.empty, Str.empty)).2 (tb j)] n
theorem PartsIn.nil {nw : List (Addr × Obj)} : PartsIn nw #[] [] := ⟨rfl, fun _ => 0, fun _ => 0, fun _ => 0, fun j hj => absurd hj (Nat.not_lt_zero _)⟩
theorem PartsIn.parts {nw nw' : List (Addr × Obj)} {ps : Array Value} {l : List (Str × Str)} {g h : Heap} {L : Addr} (x : PartsIn nw ps l) (N : News g L h nw') (hs : ∀ q ∈ nw, q ∈ nw') : Parts h ps l := by
  obtain ⟨e, Ts, ta, tb, f⟩ := x
  refine ⟨e, Ts, ta, tb, fun j hj => ⟨(f j hj).1, ?_⟩⟩
  obtain ⟨o, ho, hc, hd⟩ := (f j hj).2
  exact ⟨o, (N _ (hs _ ho)).1, hc, hd⟩
theorem parts_led {h : Heap} {ps : Array Value} {l : List (Str × Str)} (x : Parts h ps l) : ∃ tl, PartsIn tl ps l ∧ ∀ q ∈ tl, h.get? q.1 = some q.2 ∧ Value.ref q.1 ∈ ps.toList := by
  obtain ⟨e, Ts, ta, tb, f⟩ := x
  refine ⟨(List.range l.length).map fun j => (Ts j, (h.get? (Ts j)).getD { cls := .none, data := .plain }), ⟨e, Ts, ta, tb, fun j hj => ⟨(f j hj).1, ?_⟩⟩, fun q hq => ?_⟩
  · obtain ⟨o, ho, hc, hd⟩ := (f j hj).2
    exact ⟨o, List.mem_map.mpr ⟨j, List.mem_range.mpr hj, by rw [ho]; rfl⟩, hc, hd⟩
  · obtain ⟨j, hj, rfl⟩ := List.mem_map.mp hq
    have hj := List.mem_range.mp hj
    obtain ⟨o, ho, _⟩ := (f j hj).2
    refine ⟨by dsimp only; rw [ho]; rfl, ?_⟩
    have := (f j hj).1
    exact List.mem_of_getElem? (by simpa using this)
theorem PartsIn.mem {nw : List (Addr × Obj)} {ps : Array Value} {l : List (Str × Str)} (x : PartsIn nw ps l) {T : Addr} (h : Value.ref T ∈ ps.toList) : ∃ o, (T, o) ∈ nw := by
  obtain ⟨e, Ts, ta, tb, f⟩ := x
  obtain ⟨j, hj, ej⟩ := List.getElem_of_mem h
  have hj' : j < l.length := by rw [← e]; simpa using hj
  obtain ⟨f1, o, ho, _⟩ := f j hj'
  have : ps[j]? = some (.ref T) := by rw [← ej]; simp
  rw [f1] at this
  have := Option.some.inj this
  have e2 : Ts j = T := by injection this
  exact ⟨o, e2 ▸ ho⟩
section
variable {w : World} {p : Program} {loose : List Str} {mean : ExcName → Option Value} {mg mb : Str → Option Value} {G g : Heap} {L : Addr} {m : Str → Option Value} {A : Around} {s : Shared} {Q E : Value → Shared → Prop}
  {V dv Ln x d : Addr} {mx : Int} {sg : Str} {lines : List Str} {l : List (Str × Str)} {i0 : Int} {hh : Nat → Int} {tt : Nat → Tok} {tm : Tok} {vc vl : Value} {tsg : Tok} {nd : Nat} {lns : List Value} {nl : Nat} {ps : Array Value} {n : Nat} {hs0 : Int} {t0 ti : Tok} {n0 : Nat} {tb tc : Array Value} {tl rest : List (Addr × Obj)}
theorem offG_of (N : News g L s.heap (led7 V (instObj 94 dv) dv (vfDict hh tt (.int mx tm) vc vl (.str sg tsg) Ln x nd) Ln (listOf lns.toArray nl) x (acObj d ps n) d (acDict hs0 t0 (.int i0 ti) n0) (tabObj tb) (tabObj tc) rest)) (hs : G.StaysIn g) : OffG G V dv Ln x d := by
  have hG : ∀ b, g.get? b = none → G.get? b = none := fun b e => by
    cases e2 : G.get? b with
    | none => rfl
    | some o => rw [hs b o e2] at e; cases e
  exact ⟨hG _ (N _ (.head _)).2.2, hG _ (N _ (.tail _ (.head _))).2.2, hG _ (N _ (.tail _ (.tail _ (.head _)))).2.2, hG _ (N _ (.tail _ (.tail _ (.tail _ (.head _))))).2.2, hG _ (N _ (.tail _ (.tail _ (.tail _ (.tail _ (.head _)))))).2.2, hG _ (N _ (.tail _ (.tail _ (.tail _ (.tail _ (.tail _ (.head _))))))).2.2, hG _ (N _ (.tail _ (.tail _ (.tail _ (.tail _ (.tail _ (.tail _ (.head _)))))))).2.2⟩
theorem u_chunk {a b : Str} {ta1 tb1 : Tok} (F : Fr g L s.heap m) (N : News g L s.heap (led7 V (instObj 94 dv) dv (vfDict hh tt (.int mx tm) vc vl (.str sg tsg) Ln x nd) Ln (listOf lns.toArray nl) x (acObj d ps n) d (acDict hs0 t0 (.int i0 ti) n0) (tabObj tb) (tabObj tc) (tl ++ rest)))
    (R : Off7 V dv Ln x d (tl ++ rest)) (hpi : PartsIn tl ps l) (hls : StrsAre lns lines) (htr : TriplesOk tb.toList) (htr2 : TriplesOk tc.toList) (D : Gd w p loose mean mg mb G) (hs : G.StaysIn g) (hh' : A.handled = none) (hdp : A.depth ≤ 600) (hu : A.units ≤ 400)
    (hbare : AllBare s.gens) (hsh : Short (l ++ [(a, b)])) (hi0 : 0 ≤ i0) (hi1 : i0 ≤ 1000) (hlc : lines.length ≤ 1000) (hsg : ∀ c ∈ sg.cps.toList, Txt.isspace ⟨#[c]⟩ = false) (hzero : mx < i0 + (lenOf (l ++ [(a, b)]) : Nat) → findS sg.cps.toList (l ++ [(a, b)]) = none → i0 = 0)
    (k : ∀ h' gs' tk' lines' l' i0' lns' nl' ps' n' ti' tb' tc' tl', Fr g L h' m → News g L h' (led7 V (instObj 94 dv) dv (vfDict hh tt (.int mx tm) vc vl (.str sg tsg) Ln x nd) Ln (listOf lns'.toArray nl') x (acObj d ps' n') d (acDict hs0 t0 (.int i0' ti') n0) (tabObj tb') (tabObj tc') (tl' ++ rest)) → PartsIn tl' ps' l' → Off7 V dv Ln x d tl' →
      (∀ q ∈ tl', q ∈ tl ∨ s.heap.get? q.1 = none) → StrsAre lns' lines' → TriplesOk tb'.toList → TriplesOk tc'.toList → AllBare gs' → (lines', l', i0') = chunkF mx sg.cps.toList (lines, l, i0) (a, b) → Q .none ⟨h', gs', s.drawn, tk', s.os⟩) :
    wpAny (model Challenge.rw_oc0165_01.row.prog w) A (call (.ref 91) [.ref V, .str a ta1, .str b tb1]) Q E s := by
  have H : VFAt s.heap V dv Ln x d mx sg lines l i0 hh tt tm vc vl tsg nd lns nl ps n hs0 t0 ti n0 tb tc := VFAt.of_news N hls htr htr2 (hpi.parts N fun q hq => .tail _ (.tail _ (.tail _ (.tail _ (.tail _ (.tail _ (.tail _ (List.mem_append_left _ hq))))))))
  refine wp_up hh' hdp hu (c_chunk D (stays_fr F hs) H (offG_of N hs) hbare hsh hi0 hi1 hlc hsg hzero ?_)
  intro s' lines' l' i0' lns' nl' ps' n' ti' tb' tc' H' hk hnew hb hdr hos hch
  obtain ⟨h', gs', dr', tk', os'⟩ := s'
  dsimp only at H' hk hb hdr hos
  subst hdr hos
  obtain ⟨F', N'⟩ := vf_after F N R H' hk
  obtain ⟨tl', hpi', htl⟩ := parts_led H'.hp
  obtain ⟨oL, _, _, hoL, _⟩ := F.ns
  have fz : ∀ b, s.heap.get? b = none → b ≠ L ∧ g.get? b = none := by
    intro b e
    constructor
    · rintro rfl; rw [hoL] at e; cases e
    · cases e2 : g.get? b with
      | none => rfl
      | some o => rw [F.keep b o e2] at e; cases e
  have old : ∀ q ∈ tl', q ∈ tl ∨ s.heap.get? q.1 = none := fun q hq => by
    rcases hnew q.1 (htl q hq).2 with h1 | h1
    · left
      obtain ⟨o, ho⟩ := hpi.mem h1
      have e := (N' (q.1, o) (.tail _ (.tail _ (.tail _ (.tail _ (.tail _ (.tail _ (.tail _ (List.mem_append_left _ ho))))))))).1
      rw [(htl q hq).1] at e
      have e2 : q.2 = o := Option.some.inj e
      have : q = (q.1, o) := by rw [← e2]
      rw [this]; exact ho
    · exact .inr h1
  have off : Off7 V dv Ln x d tl' := fun q hq => by
    rcases old q hq with h1 | h1
    · exact R q (List.mem_append_left _ h1)
    · have ne : ∀ {b : Addr} {o : Obj}, s.heap.get? b = some o → q.1 ≠ b := fun e e2 => by rw [e2, e] at h1; cases h1
      exact ⟨ne H.hV, ne H.hdv, ne H.hLn, ne H.hx, ne H.hd, ne H.hP, ne H.hP2⟩
  refine k h' gs' tk' lines' l' i0' lns' nl' ps' n' ti' tb' tc' tl' F' ?_ hpi' off old H'.hls H'.htr H'.htr2 hb hch
  rintro q (_ | ⟨_, _ | ⟨_, _ | ⟨_, _ | ⟨_, _ | ⟨_, _ | ⟨_, _ | ⟨_, hq⟩⟩⟩⟩⟩⟩⟩)
  · exact N' _ (.head _)
  · exact N' _ (.tail _ (.head _))
  · exact N' _ (.tail _ (.tail _ (.head _)))
  · exact N' _ (.tail _ (.tail _ (.tail _ (.head _))))
  · exact N' _ (.tail _ (.tail _ (.tail _ (.tail _ (.head _)))))
  · exact N' _ (.tail _ (.tail _ (.tail _ (.tail _ (.tail _ (.head _))))))
  · exact N' _ (.tail _ (.tail _ (.tail _ (.tail _ (.tail _ (.tail _ (.head _)))))))
  · rcases List.mem_append.mp hq with hq | hq
    · rcases old q hq with h1 | h1
      · exact N' q (.tail _ (.tail _ (.tail _ (.tail _ (.tail _ (.tail _ (.tail _ (List.mem_append_left _ h1))))))))
      · exact ⟨(htl q hq).1, fz _ h1⟩
    · exact N' q (.tail _ (.tail _ (.tail _ (.tail _ (.tail _ (.tail _ (.tail _ (List.mem_append_right _ hq))))))))
end
end Mine
end

section
-- Words
example : True := by w_top off; trivial
open PySem PySem.W PyProof.Rows PySem.Calls PySem.Spec
namespace Mine
noncomputable def spansFrom : Nat → Nat → List (Nat × Nat)
  | _, 0 => []
  | cur, k + 1 => (cur + 1, cur + 12) :: spansFrom (cur + 12) k
open PySem.StrLaws PySem.Builtin PySem.Builtin.Str in
theorem sw_rowS (s : Str) (limit cur m : Nat) (words : Array (Nat × Nat)) (b : Nat) (h0 : Unicode.isSpace (s.cps.getD cur 0) = true) (h1 : ∀ i, cur < i → i < cur + 12 → Unicode.isSpace (s.cps.getD i 0) = false) (hw : words.size + 1 < limit) :
    (forIn (List.range' cur (12 + m)) ((none, words, some b) : SwSt) (swBody s limit)).run = (forIn (List.range' (cur + 12) m) ((none, words.push (b, cur), some (cur + 1)) : SwSt) (swBody s limit)).run := by
  have er : List.range' cur (12 + m) = cur :: (cur + 1) :: (List.range' (cur + 2) 10 ++ List.range' (cur + 12) m) := by
    rw [show 12 + m = (1 + (1 + (10 + m))) by (first | lia | omega), ← List.range'_append_1, ← List.range'_append_1 (s := cur + 1), ← List.range'_append_1 (s := cur + 1 + 1)]
    simp [List.range'_succ]
  have hw1 : ¬ ((words.size == limit) = true) := by simp; (first | lia | omega)
  have hw2 : ¬ (((words.push (b, cur)).size == limit) = true) := by simp; (first | lia | omega)
  rw [er, List.forIn_cons]
  have e1 : swBody s limit cur ((none, words, some b) : SwSt) = pure (ForInStep.yield (none, words.push (b, cur), none)) := by
    unfold swBody
    simp only [hw1, h0]
    rfl
  rw [e1]
  show ((forIn ((cur + 1) :: (List.range' (cur + 2) 10 ++ List.range' (cur + 12) m)) ((none, words.push (b, cur), none) : SwSt) (swBody s limit))).run = _
  rw [List.forIn_cons]
  have e2 : swBody s limit (cur + 1) ((none, words.push (b, cur), none) : SwSt) = pure (ForInStep.yield (none, words.push (b, cur), some (cur + 1))) := by
    unfold swBody
    simp only [hw2, h1 (cur + 1) (by (first | lia | omega)) (by (first | lia | omega))]
    rfl
  rw [e2]
  show ((forIn (List.range' (cur + 2) 10 ++ List.range' (cur + 12) m) ((none, words.push (b, cur), some (cur + 1)) : SwSt) (swBody s limit))).run = _
  have seg2 : ∀ (n cur' : Nat) (words' : Array (Nat × Nat)) (b' : Nat), (∀ i, cur' ≤ i → i < cur' + n → Unicode.isSpace (s.cps.getD i 0) = false) → words'.size ≠ limit → ∀ l2 : List Nat,
      (forIn (List.range' cur' n ++ l2) ((none, words', some b') : SwSt) (swBody s limit)).run = (forIn l2 ((none, words', some b') : SwSt) (swBody s limit)).run := by
    intro n
    induction n with
    | zero => intro cur' words' b' _ _ l2; rfl
    | succ n ih =>
      intro cur' words' b' h hw l2
      rw [List.range'_succ, List.cons_append, List.forIn_cons]
      have hc := h cur' (Nat.le_refl _) (by (first | lia | omega))
      have hw' : ¬ ((words'.size == limit) = true) := by simpa using hw
      have e : swBody s limit cur' ((none, words', some b') : SwSt) = pure (ForInStep.yield (none, words', some b')) := by
        unfold swBody
        simp only [hw', hc]
        rfl
      rw [e]
      exact ih (cur' + 1) words' b' (fun i h1 h2 => h i (by (first | lia | omega)) (by (first | lia | omega))) hw l2
  exact seg2 10 (cur + 2) (words.push (b, cur)) (cur + 1) (fun i a1 a2 => h1 i (by (first | lia | omega)) (by (first | lia | omega))) (by simp; (first | lia | omega)) _
/-- the cells of a line: each row behind a space -/
noncomputable def lineCps (b : List Str) : List Nat := b.flatMap fun y => 32 :: y.cps.toList
theorem lineCps_length {b : List Str} (h : ∀ y ∈ b, y.length = 11) : (lineCps b).length = 12 * b.length := by
  induction b with
  | nil => rfl
  | cons y t ih =>
    have := ih fun z hz => h z (.tail _ hz)
    have hy : y.cps.size = 11 := h y (.head _)
    simp only [lineCps, List.flatMap_cons, List.length_append, List.length_cons, Array.length_toList, hy] at *
    (first | lia | omega)
theorem getD_toList (x : Str) (i : Nat) : x.cps.getD i 0 = x.cps.toList.getD i 0 := by simp [Array.getD_eq_getD_getElem?, List.getD]
open PySem.StrLaws PySem.Builtin PySem.Builtin.Str in
theorem first_row {x : Str} {pre : List Nat} {y : Str} {t : List Nat} (hx : x.cps.toList = pre ++ (32 :: y.cps.toList ++ t)) (hy : y.length = 11) (hns : ∀ c ∈ y.cps.toList, Unicode.isSpace c = false) :
    Unicode.isSpace (x.cps.getD pre.length 0) = true ∧ (∀ i, pre.length < i → i < pre.length + 12 → Unicode.isSpace (x.cps.getD i 0) = false) ∧ strSub x (pre.length + 1) (pre.length + 12) = y := by
  have hy' : y.cps.toList.length = 11 := by simpa [Str.length] using hy
  refine ⟨?_, fun i h1 h2 => ?_, ?_⟩
  · rw [getD_toList, hx]
    simp [List.getD]
    decide +kernel
  · rw [getD_toList, hx]
    have e : (pre ++ (32 :: y.cps.toList ++ t)).getD i 0 = y.cps.toList.getD (i - pre.length - 1) 0 := by
      simp only [List.getD]
      rw [List.getElem?_append_right (by (first | lia | omega)), List.cons_append, List.getElem?_cons, if_neg (by (first | lia | omega)), List.getElem?_append_left (by (first | lia | omega))]
    rw [e]
    have hlt : i - pre.length - 1 < y.cps.toList.length := by (first | lia | omega)
    rw [List.getD, List.getElem?_eq_getElem hlt]
    exact hns _ (List.getElem_mem hlt)
  · have e : (strSub x (pre.length + 1) (pre.length + 12)).cps.toList = y.cps.toList := by
      simp only [strSub, Array.toList_extract, List.extract_eq_take_drop, hx]
      rw [show pre.length + 12 - (pre.length + 1) = 11 by (first | lia | omega)]
      rw [← List.drop_drop, List.drop_left, List.cons_append, List.drop_succ_cons, List.drop_zero]
      rw [List.take_append_of_le_length (by (first | lia | omega)), List.take_of_length_le (by (first | lia | omega))]
    obtain ⟨a⟩ := y
    generalize strSub x (pre.length + 1) (pre.length + 12) = z at e
    obtain ⟨z⟩ := z
    congr 1
    exact Array.toList_inj.mp e
open PySem.StrLaws PySem.Builtin PySem.Builtin.Str in
theorem sw_rows (x : Str) (limit : Nat) : ∀ (b : List Str) (pre : List Nat) (words : Array (Nat × Nat)) (st : Nat), x.cps.toList = pre ++ lineCps b → (∀ y ∈ b, y.length = 11) → (∀ y ∈ b, ∀ c ∈ y.cps.toList, Unicode.isSpace c = false) → words.size + 1 + b.length < limit →
    swEnd x (forIn (List.range' pre.length (12 * b.length)) ((none, words, some st) : SwSt) (swBody x limit)).run = words.toList ++ (st, pre.length) :: spansFrom pre.length b.length ∧ (spansFrom pre.length b.length).map (fun q => strSub x q.1 q.2) = b
  | [], pre, words, st, hx, _, _, _ => by
    refine ⟨?_, rfl⟩
    have e : x.length = pre.length := by
      have : x.cps.toList.length = pre.length := by rw [hx]; simp [lineCps]
      simpa [Str.length] using this
    show (words.push (st, x.length)).toList = _
    rw [e]; simp [spansFrom]
  | y :: t, pre, words, st, hx, hl, hns, hw => by
    have hx' : x.cps.toList = pre ++ (32 :: y.cps.toList ++ lineCps t) := by rw [hx]; rfl
    obtain ⟨f1, f2, f3⟩ := first_row hx' (hl y (.head _)) (hns y (.head _))
    have hy' : y.cps.toList.length = 11 := by have := hl y (.head _); simpa [Str.length] using this
    have hx2 : x.cps.toList = (pre ++ 32 :: y.cps.toList) ++ lineCps t := by rw [hx']; simp
    have hp : (pre ++ 32 :: y.cps.toList).length = pre.length + 12 := by simp; have := hy'; simp at this; (first | lia | omega)
    have ih := sw_rows x limit t (pre ++ 32 :: y.cps.toList) (words.push (st, pre.length)) (pre.length + 1) hx2 (fun z hz => hl z (.tail _ hz)) (fun z hz => hns z (.tail _ hz)) (by simp only [List.length_cons] at hw; simp; (first | lia | omega))
    rw [hp] at ih
    have em : 12 * (y :: t).length = 12 + 12 * t.length := by simp; (first | lia | omega)
    rw [em, sw_rowS x limit pre.length (12 * t.length) words st f1 f2 (by simp only [List.length_cons] at hw; (first | lia | omega)), ih.1]
    refine ⟨by simp [spansFrom], ?_⟩
    show strSub x (pre.length + 1) (pre.length + 12) :: _ = _
    rw [f3, ih.2]
open PySem.StrLaws PySem.Builtin PySem.Builtin.Str in
/-- the words of a line are its rows -/
theorem words_line {x : Str} {y : Str} {t : List Str} (hx : x.cps.toList = lineCps (y :: t)) (hl : ∀ z ∈ y :: t, z.length = 11) (hns : ∀ z ∈ y :: t, ∀ c ∈ z.cps.toList, Unicode.isSpace c = false) : Txt.words x = y :: t := by
  have hx' : x.cps.toList = [] ++ (32 :: y.cps.toList ++ lineCps t) := by rw [hx]; rfl
  obtain ⟨f1, f2, f3⟩ := first_row hx' (hl y (.head _)) (hns y (.head _))
  have hy' : y.cps.toList.length = 11 := by have := hl y (.head _); simpa [Str.length] using this
  have hx2 : x.cps.toList = (32 :: y.cps.toList) ++ lineCps t := by rw [hx']; simp
  have hlen : x.length = 12 + 12 * t.length := by
    have := lineCps_length hl
    rw [← hx] at this
    simp only [List.length_cons] at this
    have e : x.length = x.cps.toList.length := by simp [Str.length]
    (first | lia | omega)
  have hp : (32 :: y.cps.toList).length = 12 := by simp; simpa using hy'
  have key := sw_rows x (x.length + 1) t (32 :: y.cps.toList) #[] 1 hx2 (fun z hz => hl z (.tail _ hz)) (fun z hz => hns z (.tail _ hz)) (by simp; (first | lia | omega))
  rw [hp] at key
  have hsp : spaceWords x (x.length + 1) = spansFrom 0 (y :: t).length := by
    rw [sw_eq]
    have er : List.range' 0 x.length = 0 :: 1 :: (List.range' 2 10 ++ List.range' 12 (12 * t.length)) := by
      rw [hlen, show 12 + 12 * t.length = (1 + (1 + (10 + 12 * t.length))) by (first | lia | omega), ← List.range'_append_1, ← List.range'_append_1 (s := 0 + 1), ← List.range'_append_1 (s := 0 + 1 + 1)]
      simp [List.range'_succ]
    rw [er, List.forIn_cons]
    have e1 : swBody x (x.length + 1) 0 ((none, #[], none) : SwSt) = pure (ForInStep.yield (none, #[], none)) := by
      unfold swBody
      have : ¬ (((#[] : Array (Nat × Nat)).size == x.length + 1) = true) := by simp
      simp only [this, show Unicode.isSpace (x.cps.getD 0 0) = true from f1]
      rfl
    rw [e1]
    show swEnd x ((forIn (1 :: (List.range' 2 10 ++ List.range' 12 (12 * t.length))) ((none, #[], none) : SwSt) (swBody x (x.length + 1)))).run = _
    rw [List.forIn_cons]
    have e2 : swBody x (x.length + 1) 1 ((none, #[], none) : SwSt) = pure (ForInStep.yield (none, #[], some 1)) := by
      unfold swBody
      have : ¬ (((#[] : Array (Nat × Nat)).size == x.length + 1) = true) := by simp
      simp only [this, f2 1 (by simp) (by simp)]
      rfl
    rw [e2]
    have seg2 : ∀ (n cur' : Nat), (∀ i, cur' ≤ i → i < cur' + n → Unicode.isSpace (x.cps.getD i 0) = false) → ∀ l2 : List Nat,
        (forIn (List.range' cur' n ++ l2) ((none, #[], some 1) : SwSt) (swBody x (x.length + 1))).run = (forIn l2 ((none, #[], some 1) : SwSt) (swBody x (x.length + 1))).run := by
      intro n
      induction n with
      | zero => intro cur' _ l2; rfl
      | succ n ih =>
        intro cur' h l2
        rw [List.range'_succ, List.cons_append, List.forIn_cons]
        have hc := h cur' (Nat.le_refl _) (by (first | lia | omega))
        have e : swBody x (x.length + 1) cur' ((none, #[], some 1) : SwSt) = pure (ForInStep.yield (none, #[], some 1)) := by
          unfold swBody
          have : ¬ (((#[] : Array (Nat × Nat)).size == x.length + 1) = true) := by simp
          simp only [this, hc]
          rfl
        rw [e]
        exact ih (cur' + 1) (fun i h1 h2 => h i (by (first | lia | omega)) (by (first | lia | omega))) l2
    have s2 := seg2 10 2 (fun i a1 a2 => f2 i (by simp; (first | lia | omega)) (by simp; (first | lia | omega))) (List.range' 12 (12 * t.length))
    show swEnd x ((forIn (List.range' 2 10 ++ List.range' 12 (12 * t.length)) ((none, #[], some 1) : SwSt) (swBody x (x.length + 1)))).run = _
    rw [s2, key.1]
    rfl
  unfold Txt.words
  rw [hsp]
  rw [if_neg (by simp [spansFrom])]
  unfold PySem.wordsOf
  rw [hsp]
  show strSub x (0 + 1) (0 + 12) :: (spansFrom (0 + 12) t.length).map _ = _
  have e3 : strSub x (0 + 1) (0 + 12) = y := f3
  rw [e3]
  exact congrArg (y :: ·) key.2
end Mine
end

section
-- Blk
example : True := by w_top off; trivial
open PySem PySem.W PyProof.Rows PySem.Calls PySem.Spec
namespace Mine
theorem cut_eq {c : Nat} : ∀ {a b X Y : List Nat}, c ∉ a → c ∉ b → a ++ c :: X = b ++ c :: Y → a = b ∧ X = Y
  | [], [], X, Y, _, _, h => ⟨rfl, by simpa using h⟩
  | [], y :: b, X, Y, _, hb, h => by simp at h; exact absurd (by rw [h.1]; exact .head _) hb
  | x :: a, [], X, Y, ha, _, h => by simp at h; exact absurd (by rw [h.1]; exact .head _) ha
  | x :: a, y :: b, X, Y, ha, hb, h => by
    simp at h
    obtain ⟨e1, e2⟩ := cut_eq (fun q => ha (.tail _ q)) (fun q => hb (.tail _ q)) h.2
    exact ⟨by rw [h.1, e1], e2⟩
theorem str_ext {a b : Str} (h : a.cps.toList = b.cps.toList) : a = b := by
  obtain ⟨a⟩ := a; obtain ⟨b⟩ := b
  congr 1
  exact Array.toList_inj.mp h
theorem app_cps (a b : Str) : (a ++ b).cps.toList = a.cps.toList ++ b.cps.toList := by
  show (a.cps ++ b.cps).toList = _
  simp
theorem join_two (sep a b : Str) (r : List Str) : (Str.join sep (a :: b :: r)).cps.toList = a.cps.toList ++ (sep.cps.toList ++ (Str.join sep (b :: r)).cps.toList) := by
  show ((a ++ sep) ++ Str.join sep (b :: r)).cps.toList = _
  rw [app_cps, app_cps, List.append_assoc]
theorem join_unique {c : Nat} : ∀ {A B : List Str}, A ≠ [] → B ≠ [] → (∀ a ∈ A, c ∉ a.cps.toList) → (∀ b ∈ B, c ∉ b.cps.toList) → (Str.join ⟨#[c]⟩ A).cps.toList = (Str.join ⟨#[c]⟩ B).cps.toList → A = B
  | [], _, h, _, _, _, _ => absurd rfl h
  | _ :: _, [], _, h, _, _, _ => absurd rfl h
  | [a], [b], _, _, _, _, h => by rw [str_ext (a := a) (b := b) h]
  | [a], b :: b2 :: r, _, _, ha, _, h => by
    rw [join_two] at h
    have h' : a.cps.toList = b.cps.toList ++ (([c] : List Nat) ++ (Str.join ⟨#[c]⟩ (b2 :: r)).cps.toList) := h
    exact absurd (by rw [h']; simp) (ha a (.head _))
  | a :: a2 :: r, [b], _, _, _, hb, h => by
    rw [join_two] at h
    have h' : a.cps.toList ++ (([c] : List Nat) ++ (Str.join ⟨#[c]⟩ (a2 :: r)).cps.toList) = b.cps.toList := h
    exact absurd (by rw [← h']; simp) (hb b (.head _))
  | a :: a2 :: r, b :: b2 :: r', _, _, ha, hb, h => by
    rw [join_two, join_two] at h
    obtain ⟨e1, e2⟩ := cut_eq (ha a (.head _)) (hb b (.head _)) h
    rw [str_ext e1, join_unique (A := a2 :: r) (B := b2 :: r') (by simp) (by simp) (fun x hx => ha x (.tail _ hx)) (fun x hx => hb x (.tail _ hx)) e2]
/-- what is joined by a sign that it does not hold is split again -/
theorem split_join {c : Nat} {A : List Str} (hne : A ≠ []) (ha : ∀ a ∈ A, c ∉ a.cps.toList) : Txt.split (Txt.join ⟨#[c]⟩ A) ⟨#[c]⟩ = A := by
  refine join_unique (c := c) ?_ hne (StrLaws.split_free _ c) ha ?_
  · intro e
    have := split_pos (Txt.join ⟨#[c]⟩ A) ⟨#[c]⟩
    rw [e] at this
    simp at this
  · rw [StrLaws.join_split]
    show (Builtin.Str.glued ⟨#[c]⟩ A).cps.toList = _
    rw [StrLaws.glued_eq_join]
noncomputable def spS : Str := Str.ofString " "
noncomputable def pr (b : List Str) : List (Str × Str) := b.map fun y => (spS, y)
noncomputable def lineOf (b : List Str) : Str := strOf (pr b)
theorem join_e (l : List Str) : (Txt.join (Str.ofString "") l).cps.toList = l.flatMap fun y => y.cps.toList := by
  show (Builtin.Str.glued _ l).cps.toList = _
  rw [StrLaws.glued_eq_join]
  induction l with
  | nil => rfl
  | cons a t ih =>
    cases t with
    | nil => show a.cps.toList = _; simp
    | cons b r =>
      rw [join_two, ih]
      have : (Str.ofString "").cps.toList = [] := rfl
      rw [this]
      simp
theorem line_cps (b : List Str) : (lineOf b).cps.toList = lineCps b := by
  unfold lineOf strOf pr lineCps
  rw [join_e, List.map_map, List.flatMap_map]
  congr 1
  funext y
  show (Txt.join (Str.ofString "") [spS, y]).cps.toList = _
  rw [join_e]
  show (Str.ofString " ").cps.toList ++ (y.cps.toList ++ []) = _
  have : (Str.ofString " ").cps.toList = [32] := by decide
  rw [this]
  simp
theorem line_length {b : List Str} (h : ∀ y ∈ b, y.length = 11) : (lineOf b).length = 12 * b.length := by
  have := lineCps_length h
  rw [← line_cps] at this
  simpa [Str.length] using this
theorem lenOf_pr {b : List Str} (h : ∀ y ∈ b, y.length = 11) : lenOf (pr b) = 12 * b.length := by
  induction b with
  | nil => rfl
  | cons y t ih =>
    have := ih fun z hz => h z (.tail _ hz)
    have hy := h y (.head _)
    simp only [lenOf, pr, List.map_cons, List.sum_cons, List.length_cons] at *
    have hs : spS.length = 1 := by decide
    omega
/-- the signs at which the formatter parts, as a mark of a row -/
noncomputable def pS (sg : List Nat) (y : Str) : Bool := sg.any fun c => y.cps.back? == some c
noncomputable def blk (p : Str → Bool) (st : List (List Str) × List Str) (y : Str) : List (List Str) × List Str :=
  match st.2.getLast? with
  | some z => if p z then (st.1 ++ [st.2], [y]) else (st.1, st.2 ++ [y])
  | none => (st.1, [y])
theorem pr_snoc (b : List Str) (y : Str) : pr b ++ [(spS, y)] = pr (b ++ [y]) := by simp [pr]
theorem findS_pr (sg : List Nat) (c0 : List Str) (z y : Str) (h : ∀ x ∈ c0, pS sg x = false) : findS sg (pr (c0 ++ [z] ++ [y])) = if pS sg z then some (c0.length + 1) else none := by
  have hlen : (pr (c0 ++ [z] ++ [y])).length - 1 = c0.length + 1 := by simp [pr]
  have key : ∀ c ∈ sg, findI c (pr (c0 ++ [z] ++ [y])) (c0.length + 1) = if z.cps.back? == some c then some (c0.length + 1) else none := by
    intro c hc
    have e1 : hitAt c (pr (c0 ++ [z] ++ [y])) (c0.length + 1) = (z.cps.back? == some c) := by
      simp [hitAt, pr, List.getD]
    rw [findI, e1]
    have e2 : findI c (pr (c0 ++ [z] ++ [y])) c0.length = none := by
      apply findI_miss
      intro j hj
      have hk : c0.length - j - 1 < c0.length := by omega
      have e3 : (pr (c0 ++ [z] ++ [y])).getD (c0.length - j - 1) (Str.empty, Str.empty) = (spS, c0[c0.length - j - 1]) := by
        simp only [pr, List.getD, List.getElem?_map, List.append_assoc]
        rw [List.getElem?_append_left hk, List.getElem?_eq_getElem hk]
        rfl
      unfold hitAt
      rw [e3]
      have h2 := h _ (List.getElem_mem hk)
      unfold pS at h2
      rw [List.any_eq_false] at h2
      simpa using h2 c hc
    rw [e2]
  unfold findS
  rw [hlen]
  by_cases hz : pS sg z = true
  · rw [if_pos hz]
    unfold pS at hz
    rw [List.any_eq_true] at hz
    obtain ⟨c, hc, hcz⟩ := hz
    have hall : ∀ s : List Nat, (∀ c ∈ s, c ∈ sg) → (∃ c ∈ s, (z.cps.back? == some c) = true) → s.findSome? (fun c => findI c (pr (c0 ++ [z] ++ [y])) (c0.length + 1)) = some (c0.length + 1) := by
      intro s
      induction s with
      | nil => rintro _ ⟨c, hc, _⟩; cases hc
      | cons d t ih =>
        intro hs hex
        rw [List.findSome?_cons, key d (hs d (.head _))]
        by_cases hd : (z.cps.back? == some d) = true
        · rw [if_pos hd]
        · rw [if_neg hd]
          obtain ⟨c, hc, hcz⟩ := hex
          rcases List.mem_cons.mp hc with rfl | hc
          · exact absurd hcz hd
          · exact ih (fun c hc => hs c (.tail _ hc)) ⟨c, hc, hcz⟩
    exact hall sg (fun _ h => h) ⟨c, hc, hcz⟩
  · rw [if_neg hz, List.findSome?_eq_none_iff]
    intro c hc
    rw [key c hc]
    unfold pS at hz
    rw [List.any_eq_true] at hz
    rw [if_neg fun e => hz ⟨c, hc, e⟩]
/-- one row more -/
theorem chunk_blk {w : Int} {sg : List Nat} {dn : List (List Str)} {cur : List Str} {y : Str} (hw : w ≤ 23) (hl : ∀ z ∈ cur ++ [y], z.length = 11) (hp : ∀ z ∈ cur.dropLast, pS sg z = false) :
    chunkF w sg (dn.map lineOf, pr cur, 0) (spS, y) = ((blk (pS sg) (dn, cur) y).1.map lineOf, pr (blk (pS sg) (dn, cur) y).2, 0) := by
  unfold chunkF
  dsimp only
  rw [pr_snoc, lenOf_pr hl]
  rcases List.eq_nil_or_concat cur with rfl | ⟨c0, z, rfl⟩
  · have e : findS sg (pr ([] ++ [y])) = none := by
      unfold findS
      rw [List.findSome?_eq_none_iff]
      intro c _; rfl
    rw [e]
    simp [blk]
  · rw [List.concat_eq_append] at *
    rw [if_neg (by simp; omega)]
    have hp' : ∀ x ∈ c0, pS sg x = false := by simpa using hp
    rw [findS_pr sg c0 z y hp']
    by_cases hz : pS sg z = true
    · have hlen : (pr (c0 ++ [z])).length = c0.length + 1 := by simp [pr]
      have e1 : (pr (c0 ++ [z] ++ [y])).take (c0.length + 1) = pr (c0 ++ [z]) := by rw [← pr_snoc, List.take_left' hlen]
      have e2 : (pr (c0 ++ [z] ++ [y])).drop (c0.length + 1) = pr [y] := by rw [← pr_snoc, List.drop_left' hlen]; rfl
      simp only [hz, if_true]
      rw [e1, e2]
      simp [hz, blk, lineOf]
    · simp [hz, blk]
noncomputable def fmtB (p : Str → Bool) (rs : List Str) : List (List Str) × List Str := rs.foldl (blk p) ([], [])
theorem fmtB_snoc (p : Str → Bool) (rs : List Str) (y : Str) : fmtB p (rs ++ [y]) = blk p (fmtB p rs) y := by simp [fmtB]
noncomputable def GoodB (p : Str → Bool) (b : List Str) : Prop := ∃ c x, b = c ++ [x] ∧ (∀ y ∈ c, p y = false) ∧ p x = true
theorem fmtB_inv (p : Str → Bool) (rs : List Str) : (∀ z ∈ (fmtB p rs).2.dropLast, p z = false) ∧ (fmtB p rs).1.flatten ++ (fmtB p rs).2 = rs ∧ (∀ b ∈ (fmtB p rs).1, GoodB p b) ∧ (rs ≠ [] → (fmtB p rs).2 ≠ []) := by
  refine snoc_ind (P := fun rs => (∀ z ∈ (fmtB p rs).2.dropLast, p z = false) ∧ (fmtB p rs).1.flatten ++ (fmtB p rs).2 = rs ∧ (∀ b ∈ (fmtB p rs).1, GoodB p b) ∧ (rs ≠ [] → (fmtB p rs).2 ≠ [])) ⟨by simp [fmtB], by simp [fmtB], by simp [fmtB], by simp⟩ ?_ rs
  intro rs y ⟨h1, h2, h3, h4⟩
  rw [fmtB_snoc]
  generalize fmtB p rs = B at *
  obtain ⟨dn, cur⟩ := B
  dsimp only at *
  unfold blk
  dsimp only
  cases hz : cur.getLast? with
  | none =>
    rw [List.getLast?_eq_none_iff] at hz
    subst hz
    refine ⟨by simp, ?_, h3, by simp⟩
    simp at h2
    simp [h2]
  | some z =>
    obtain ⟨c0, rfl⟩ : ∃ c0, cur = c0 ++ [z] := List.getLast?_eq_some_iff.mp hz
    by_cases hp : p z = true
    · simp only [hp, if_true]
      refine ⟨by simp, ?_, ?_, by simp⟩
      · simp at h2 ⊢
        rw [← h2]; simp
      · intro b hb
        rcases List.mem_append.mp hb with hb | hb
        · exact h3 b hb
        · rw [List.mem_singleton.mp hb]
          exact ⟨c0, z, rfl, by simpa using h1, hp⟩
    · simp only [hp]
      refine ⟨?_, ?_, h3, by simp⟩
      · intro x hx
        simp at hx h1
        rcases hx with hx | rfl
        · exact h1 x hx
        · simpa using hp
      · simp at h2 ⊢
        rw [← h2]; simp
/-- the last word to the front -/
noncomputable def rot (b : List Str) : List Str := b.drop (b.length - 1) ++ b.take (b.length - 1)
theorem rot_snoc (c : List Str) (x : Str) : rot (c ++ [x]) = x :: c := by
  have e : (c ++ [x]).length - 1 = c.length := by simp
  unfold rot
  rw [e]
  simp
theorem turn_blocks {p : Str → Bool} : ∀ (bs : List (List Str)), (∀ b ∈ bs, GoodB p b) → turn p [] bs.flatten = bs.flatMap rot
  | [], _ => rfl
  | b :: t, h => by
    obtain ⟨c, x, rfl, hc, hx⟩ := h b (.head _)
    have ih := turn_blocks t fun b hb => h b (.tail _ hb)
    rw [List.flatten_cons, List.append_assoc]
    show turn p [] (c ++ x :: t.flatten) = _
    rw [turn_step hc hx, ih, List.flatMap_cons, rot_snoc]
    simp
/-- the blocks that the formatter makes are the blocks of Foata's turn -/
theorem turn_fmt {p : Str → Bool} {rs : List Str} (hne : rs ≠ []) (hm : Marked p rs) : turn p [] rs = ((fmtB p rs).1 ++ [(fmtB p rs).2]).flatMap rot := by
  obtain ⟨h1, h2, h3, h4⟩ := fmtB_inv p rs
  have h5 := h4 hne
  rw [← turn_blocks]
  · congr 1
    rw [List.flatten_append]
    simpa using h2.symm
  · intro b hb
    rcases List.mem_append.mp hb with hb | hb
    · exact h3 b hb
    · rw [List.mem_singleton.mp hb]
      obtain ⟨c0, z, e⟩ : ∃ c0 z, (fmtB p rs).2 = c0 ++ [z] := by
        rcases List.eq_nil_or_concat (fmtB p rs).2 with e | ⟨c0, z, e⟩
        · exact absurd e h5
        · exact ⟨c0, z, by rw [e, List.concat_eq_append]⟩
      refine ⟨c0, z, e, by rw [e] at h1; simpa using h1, hm z ?_⟩
      rw [← h2, e, ← List.append_assoc]
      simp
end Mine
end

section
-- Plain1
example : True := by w_top off; trivial
open PySem PySem.W PyProof.Rows PySem.Calls PySem.Spec
namespace Mine
/-- a row: eleven signs, no space, no semicolon -/
structure RowOk (y : Str) : Prop where
  len : y.length = 11
  ns : ∀ c ∈ y.cps.toList, Unicode.isSpace c = false
  nc : 59 ∉ y.cps.toList
noncomputable def lastN (y : Str) : Nat := y.cps.back?.getD 0
noncomputable def lastZ (y : Str) : Int := (lastN y : Nat)
noncomputable def cmpZ (x y : Str) : Int := b2i (decide (y.cps.toList < x.cps.toList)) - b2i (decide (x.cps.toList < y.cps.toList))
/-- what three_way_cmp(x, y) > 0 tells of two texts -/
noncomputable def cmpB (x y : Str) : Bool := decide (0 < cmpZ x y)
theorem back_last {y : Str} (h : 1 ≤ y.length) : y.cps.back? = some (lastN y) := by
  unfold lastN
  have hsz : y.cps.size - 1 < y.cps.size := by have : y.length = y.cps.size := rfl; omega
  rw [Array.back?_eq_getElem?, Array.getElem?_eq_getElem hsz]
  rfl
theorem item_lastN {y : Str} (h : 1 ≤ y.length) : Txt.item y (-1) = ⟨#[lastN y]⟩ := by
  have := item_last (c := lastN y) h
  rw [back_last h] at this
  simp at this
  exact this
theorem one_lt (a b : Nat) : (([b] : List Nat) < [a]) ↔ b < a := by
  constructor
  · intro h
    cases h with
    | rel h => exact h
    | cons h => exact absurd h (List.not_lt_nil _)
  · intro h; exact List.Lex.rel h
theorem cmpB_one (a b : Nat) : cmpB ⟨#[a]⟩ ⟨#[b]⟩ = decide (b < a) := by
  unfold cmpB cmpZ
  have e1 : (decide (([b] : List Nat) < [a])) = decide (b < a) := by
    rw [decide_eq_decide]; exact one_lt a b
  have e2 : (decide (([a] : List Nat) < [b])) = decide (a < b) := by
    rw [decide_eq_decide]; exact one_lt b a
  show decide (0 < b2i (decide (([b] : List Nat) < [a])) - b2i (decide (([a] : List Nat) < [b]))) = _
  rw [e1, e2]
  by_cases h : b < a
  · have h2 : ¬ a < b := by omega
    simp [h, h2, b2i]
  · by_cases h2 : a < b <;> simp [h, h2, b2i]
theorem cmpB_item {y row : Str} (h1 : 1 ≤ y.length) (h2 : 1 ≤ row.length) : cmpB (Txt.item y (-1)) (Txt.item row (-1)) = decide (lastZ row < lastZ y) := by
  rw [item_lastN h1, item_lastN h2, cmpB_one]
  simp [lastZ]
theorem turn_congr {α : Type} {p q : α → Bool} : ∀ {l cur : List α}, (∀ y ∈ l, p y = q y) → turn p cur l = turn q cur l
  | [], _, _ => rfl
  | x :: t, cur, h => by
    simp only [turn]
    rw [h x (.head _), turn_congr (cur := []) fun y hy => h y (.tail _ hy), turn_congr (cur := cur ++ [x]) fun y hy => h y (.tail _ hy)]
/-- the splitting signs of a coming row -/
noncomputable def signsOf (rs : List Str) (row z : Str) : Str := Txt.join (Str.ofString "") ((rs.filter fun a => cmpB (Txt.item a (-1)) (Txt.item row (-1)) == cmpB (Txt.item z (-1)) (Txt.item row (-1))).map fun a => Txt.item a (-1))
theorem signs_cps {rs : List Str} {row z : Str} (h : ∀ y ∈ rs, RowOk y) (hr : RowOk row) (hz : RowOk z) : (signsOf rs row z).cps.toList = (rs.filter (side lastZ row z)).map lastN := by
  unfold signsOf
  rw [join_e, List.flatMap_map]
  have hpos : ∀ {y : Str}, RowOk y → 1 ≤ y.length := fun h => by rw [h.len]; decide
  have e : (rs.filter fun a => cmpB (Txt.item a (-1)) (Txt.item row (-1)) == cmpB (Txt.item z (-1)) (Txt.item row (-1))) = rs.filter (side lastZ row z) := by
    apply List.filter_congr
    intro a ha
    rw [cmpB_item (hpos (h a ha)) (hpos hr), cmpB_item (hpos hz) (hpos hr)]
    rfl
  rw [e]
  have : ∀ l : List Str, (∀ y ∈ l, RowOk y) → (l.flatMap fun a => (Txt.item a (-1)).cps.toList) = l.map lastN := by
    intro l
    induction l with
    | nil => intro _; rfl
    | cons a t ih =>
      intro hl
      rw [List.flatMap_cons, ih fun y hy => hl y (.tail _ hy), item_lastN (hpos (hl a (.head _)))]
      rfl
  exact this _ fun y hy => h y ((List.mem_filter.mp hy).1)
theorem pS_side {rs : List Str} {row z : Str} (h : ∀ y ∈ rs, RowOk y) (hr : RowOk row) (hz : RowOk z) {y : Str} (hy : y ∈ rs) : pS (signsOf rs row z).cps.toList y = side lastZ row z y := by
  unfold pS
  rw [signs_cps h hr hz]
  have hb := back_last (y := y) (by rw [(h y hy).len]; decide)
  rw [hb]
  cases hs : side lastZ row z y with
  | true =>
    rw [List.any_eq_true]
    exact ⟨lastN y, List.mem_map.mpr ⟨y, List.mem_filter.mpr ⟨hy, hs⟩, rfl⟩, by simp⟩
  | false =>
    rw [List.any_eq_false]
    intro c hc e
    obtain ⟨a, ha, rfl⟩ := List.mem_map.mp hc
    have ha2 := (List.mem_filter.mp ha).2
    have e' : lastN y = lastN a := by simpa using e
    have : side lastZ row z y = side lastZ row z a := by simp [side, lastZ, e']
    rw [hs, ha2] at this; cases this
theorem signs_ns {rs : List Str} {row z : Str} (h : ∀ y ∈ rs, RowOk y) (hr : RowOk row) (hz : RowOk z) : ∀ c ∈ (signsOf rs row z).cps.toList, Unicode.isSpace c = false := by
  rw [signs_cps h hr hz]
  intro c hc
  obtain ⟨a, ha, rfl⟩ := List.mem_map.mp hc
  have hra := h a (List.mem_filter.mp ha).1
  have hb := back_last (y := a) (by rw [hra.len]; decide)
  refine hra.ns _ ?_
  rw [Array.back?_eq_getElem?] at hb
  exact List.mem_of_getElem? (i := a.cps.size - 1) (by simpa using hb)
/-- the whole of _law_turned in plain words -/
theorem turned_fmt {rs : List Str} {row z : Str} (hz : rs.getLast? = some z) (h : ∀ y ∈ rs, RowOk y) (hr : RowOk row) :
    ((fmtB (pS (signsOf rs row z).cps.toList) rs).1 ++ [(fmtB (pS (signsOf rs row z).cps.toList) rs).2]).flatMap rot = turned lastZ rs row := by
  have hzm : z ∈ rs := List.mem_of_getLast? hz
  have hzr := h z hzm
  have hne : rs ≠ [] := by intro e; rw [e] at hz; cases hz
  have hm : Marked (pS (signsOf rs row z).cps.toList) rs := fun y hy => by
    rw [hz] at hy; cases hy
    rw [pS_side h hr hzr hzm]
    exact side_self lastZ row _
  rw [← turn_fmt hne hm, turned_some lastZ hz]
  exact turn_congr fun y hy => pS_side h hr hzr hy
theorem words_lineOf {b : List Str} (hne : b ≠ []) (h : ∀ y ∈ b, RowOk y) : Txt.words (lineOf b) = b := by
  cases b with
  | nil => exact absurd rfl hne
  | cons y t => exact words_line (line_cps _) (fun z hz => (h z hz).len) (fun z hz => (h z hz).ns)
theorem line_nc {b : List Str} (h : ∀ y ∈ b, RowOk y) : 59 ∉ (lineOf b).cps.toList := by
  rw [line_cps]
  unfold lineCps
  intro hc
  obtain ⟨y, hy, hc⟩ := List.mem_flatMap.mp hc
  rcases List.mem_cons.mp hc with e | hc
  · cases e
  · exact (h y hy).nc hc
end Mine
end

section
-- Tu1
example : True := by w_top off; trivial
open PySem PySem.W PyProof.Rows PySem.Calls PySem.Spec
set_option maxRecDepth 100000
namespace Mine
section
variable {w : World} {p : Program} {loose : List Str} {mean : ExcName → Option Value} {mg mb : Str → Option Value} {G g : Heap} {L : Addr} {m : Str → Option Value} {nw : List (Addr × Obj)} {A : Around} {s : Shared} {Q E : Value → Shared → Prop}
theorem u_cmpK {x y : Str} {t1 t2 : Tok} (F : Fr g L s.heap m) (N : News g L s.heap nw) (D : Gd w p loose mean mg mb G) (hs : G.StaysIn g) (hh : A.handled = none) (hd : A.depth ≤ 800) (hu : A.units ≤ 600)
    (k : ∀ t h' tk', (∀ b o, s.heap.get? b = some o → h'.get? b = some o) → Fr g L h' m → News g L h' nw → Q (.int (cmpZ x y) t) { s with heap := h', toks := tk' }) :
    wpAny (model Challenge.rw_oc0165_01.row.prog w) A (call (.ref 236) [.str x t1, .str y t2]) Q E s :=
  wp_up hh hd hu (c_cmp D (stays_fr F hs) fun t h' tk' hk => k t h' tk' hk (frK F hk) (newsK N hk))
end
theorem vf_end {g h h' : Heap} {L V dv Ln x d R : Addr} {m : Str → Option Value} {o1 o2 o3 o4 o5 o6 o7 oR a b : Obj} {rest : List (Addr × Obj)}
    (F : Fr g L h m) (N : News g L h ((R, oR) :: led7 V o1 dv o2 Ln o3 x o4 d o5 o6 o7 rest)) (hR : R ≠ V ∧ R ≠ dv ∧ R ≠ Ln ∧ R ≠ x ∧ R ≠ d ∧ R ≠ 140 ∧ R ≠ 147) (hk : ∀ b o, h.get? b = some o → b ≠ V → b ≠ dv → b ≠ Ln → b ≠ x → b ≠ d → b ≠ 140 → b ≠ 147 → h'.get? b = some o) (ha : h'.get? 140 = some a) (hb : h'.get? 147 = some b) :
    Fr g L h' m ∧ News g L h' [(R, oR), (140, a), (147, b)] := by
  have z0 := N _ (.head _)
  have z1 := (N _ (.tail _ (.head _))).2
  have z2 := (N _ (.tail _ (.tail _ (.head _)))).2
  have z3 := (N _ (.tail _ (.tail _ (.tail _ (.head _))))).2
  have z4 := (N _ (.tail _ (.tail _ (.tail _ (.tail _ (.head _)))))).2
  have z5 := (N _ (.tail _ (.tail _ (.tail _ (.tail _ (.tail _ (.head _))))))).2
  have z6 := (N _ (.tail _ (.tail _ (.tail _ (.tail _ (.tail _ (.tail _ (.head _)))))))).2
  have z7 := (N _ (.tail _ (.tail _ (.tail _ (.tail _ (.tail _ (.tail _ (.tail _ (.head _))))))))).2
  obtain ⟨oL, es, ep, hL, r⟩ := F.ns
  have nn : ∀ {b : Addr} {o : Obj} {c : Addr}, g.get? b = some o → g.get? c = none → b ≠ c := fun e1 e2 q => by rw [q, e2] at e1; cases e1
  refine ⟨⟨⟨oL, es, ep, hk _ _ hL z1.1.symm z2.1.symm z3.1.symm z4.1.symm z5.1.symm z6.1.symm z7.1.symm, r⟩, fun b o e => hk b o (F.keep b o e) (nn e z1.2) (nn e z2.2) (nn e z3.2) (nn e z4.2) (nn e z5.2) (nn e z6.2) (nn e z7.2), F.above⟩, ?_⟩
  rintro q (_ | ⟨_, _ | ⟨_, _ | ⟨_, hq⟩⟩⟩)
  · exact ⟨hk _ _ z0.1 hR.1 hR.2.1 hR.2.2.1 hR.2.2.2.1 hR.2.2.2.2.1 hR.2.2.2.2.2.1 hR.2.2.2.2.2.2, z0.2⟩
  · exact ⟨ha, z6⟩
  · exact ⟨hb, z7⟩
  · cases hq
theorem offG_ofH {G g h : Heap} {L V dv Ln x d : Addr} {o1 o2 o3 o4 o5 o6 o7 : Obj} {rest : List (Addr × Obj)} (N : News g L h (led7 V o1 dv o2 Ln o3 x o4 d o5 o6 o7 rest)) (hs : G.StaysIn g) : OffG G V dv Ln x d := by
  have hG : ∀ b, g.get? b = none → G.get? b = none := fun b e => by
    cases e2 : G.get? b with
    | none => rfl
    | some o => rw [hs b o e2] at e; cases e
  exact ⟨hG _ (N _ (.head _)).2.2, hG _ (N _ (.tail _ (.head _))).2.2, hG _ (N _ (.tail _ (.tail _ (.head _)))).2.2, hG _ (N _ (.tail _ (.tail _ (.tail _ (.head _))))).2.2, hG _ (N _ (.tail _ (.tail _ (.tail _ (.tail _ (.head _)))))).2.2, hG _ (N _ (.tail _ (.tail _ (.tail _ (.tail _ (.tail _ (.head _))))))).2.2, hG _ (N _ (.tail _ (.tail _ (.tail _ (.tail _ (.tail _ (.tail _ (.head _)))))))).2.2⟩
theorem pick_last (vs : List Value) : (slicePick vs.toArray (some (-1)) none none).toList = vs.drop (vs.length - 1) := by
  have e : sliceBounds (some (-1)) none none vs.toArray.size = (((vs.toArray.size - 1 : Nat) : Int), ((vs.toArray.size : Nat) : Int), 1) := by
    simp only [sliceBounds, Option.getD_none, show (1 : Int) > 0 by decide, if_true, show (-1 : Int) < 0 by decide]
    congr 1
    (first | lia | omega)
  rw [kmk_pick_nat _ e]
  show (vs.drop (vs.toArray.size - 1)).take (vs.toArray.size - (vs.toArray.size - 1)) = _
  rw [List.size_toArray, List.take_of_length_le (by rw [List.length_drop]; (first | lia | omega))]
theorem pick_but (vs : List Value) : (slicePick vs.toArray none (some (-1)) none).toList = vs.take (vs.length - 1) := by
  have e : sliceBounds none (some (-1)) none vs.toArray.size = (((0 : Nat) : Int), ((vs.toArray.size - 1 : Nat) : Int), 1) := by
    simp only [sliceBounds, Option.getD_none, show (1 : Int) > 0 by decide, if_true, show (-1 : Int) < 0 by decide]
    congr 1
    congr 1
    (first | lia | omega)
  rw [kmk_pick_nat _ e]
  show (vs.drop 0).take (vs.toArray.size - 1 - 0) = _
  rw [List.drop_zero, Nat.sub_zero, List.size_toArray]
theorem lines_len : ∀ (bs : List (List Str)), (∀ b ∈ bs, ∀ y ∈ b, y.length = 11) → ((bs.map lineOf).map (·.length)).sum = 12 * bs.flatten.length
  | [], _ => rfl
  | b :: t, h => by
    have ih := lines_len t fun b hb => h b (.tail _ hb)
    simp only [List.map_cons, List.sum_cons, List.flatten_cons, List.length_append, line_length (h b (.head _))]
    (first | lia | omega)
theorem line_isspace {b : List Str} (hne : b ≠ []) (h : ∀ y ∈ b, RowOk y) : Txt.isspace (lineOf b) = false := by
  cases b with
  | nil => exact absurd rfl hne
  | cons y t =>
    have hy := h y (.head _)
    have hpos : 0 < y.cps.toList.length := by have : y.length = y.cps.toList.length := by simp [Str.length]
                                              rw [← this, hy.len]; decide
    obtain ⟨c, hc⟩ : ∃ c, c ∈ y.cps.toList := ⟨_, List.getElem_mem hpos⟩
    have hmem : c ∈ (lineOf (y :: t)).cps.toList := by
      rw [line_cps]
      exact List.mem_flatMap.mpr ⟨y, .head _, .tail _ hc⟩
    unfold Txt.isspace
    rw [Bool.and_eq_false_iff]
    right
    rw [← Array.all_toList, List.all_eq_false]
    exact ⟨c, hmem, by rw [hy.ns c hc]; simp⟩
theorem strs_item : ∀ {vs : List Value} {ns : List Str}, StrsAre vs ns → ∀ {i : Nat} {v : Value}, vs[i]? = some v → ∃ x t, v = .str x t ∧ ns[i]? = some x
  | _, _, .nil, i, v, e => by simp at e
  | _, _, .cons x t r, 0, v, e => by simp at e; exact ⟨x, t, e.symm, rfl⟩
  | _, _, .cons x t r, i + 1, v, e => by simpa using strs_item r (by simpa using e)
theorem blocks_len {p : Str → Bool} : ∀ {bs : List (List Str)}, (∀ b ∈ bs, GoodB p b) → bs.length ≤ bs.flatten.length
  | [], _ => Nat.le_refl _
  | b :: t, h => by
    have ih := blocks_len (bs := t) fun b hb => h b (.tail _ hb)
    obtain ⟨c, x, rfl, _⟩ := h b (.head _)
    simp only [List.length_cons, List.flatten_cons, List.length_append, List.length_nil]
    (first | lia | omega)
theorem fmt_facts (p : Str → Bool) (rs : List Str) : (fmtB p rs).1.length ≤ rs.length ∧ (fmtB p rs).2.length ≤ rs.length ∧ (∀ y ∈ (fmtB p rs).2, y ∈ rs) ∧ (∀ b ∈ (fmtB p rs).1, b ≠ [] ∧ ∀ y ∈ b, y ∈ rs) ∧ (fmtB p rs).1.flatten.length + (fmtB p rs).2.length = rs.length := by
  obtain ⟨h1, h2, h3, h4⟩ := fmtB_inv p rs
  have hl : (fmtB p rs).1.flatten.length + (fmtB p rs).2.length = rs.length := by rw [← List.length_append, h2]
  have hb := blocks_len h3
  refine ⟨by (first | lia | omega), by (first | lia | omega), fun y hy => by rw [← h2]; exact List.mem_append_right _ hy, fun b hb => ⟨?_, fun y hy => ?_⟩, hl⟩
  · obtain ⟨c, x, rfl, _⟩ := h3 b hb; simp
  · rw [← h2]; exact List.mem_append_left _ (List.mem_flatten.mpr ⟨b, hb, hy⟩)
theorem fr_if2 {g h : Heap} {L : Addr} {m : Str → Option Value} {x1 x2 : Str} {v1 v2 : Value} (F : Fr g L h m) (e1 : m x1 = some v1) (e2 : m x2 = some v2) : ∃ m' : Str → Option Value, Fr g L h (fun y => if y = x1 then some v1 else if y = x2 then some v2 else m' y) := by
  obtain ⟨m', rfl⟩ := as_if2 e1 e2
  exact ⟨m', F⟩
/-- what holds between the turns of the two loops -/
inductive TuInv (rs : List Str) (sg : Str) (V dv Ln x d : Addr) (hh : Nat → Int) (tt : Nat → Tok) (width : Int) (tw : Tok) (vc vl : Value) (t6 : Tok) (nd : Nat) (hs0 : Int) (t0 : Tok) (k : Nat) (m : Str → Option Value) (nw : List (Addr × Obj)) (gs : Array GenState) : Prop
  | mk (hb : AllBare gs) (tl : List (Addr × Obj)) (lns : List Value) (nl : Nat) (ps : Array Value) (n : Nat) (ti : Tok) (tb' tc' : Array Value) (e : nw = led7 V (instObj 94 dv) dv (vfDict hh tt (.int width tw) vc vl (.str sg t6) Ln x nd) Ln (listOf (lns : List Value).toArray nl) x (acObj d ps n) d (acDict hs0 t0 (.int 0 ti) 1) (tabObj tb') (tabObj tc') tl)
    (ho : Off7 V dv Ln x d tl) (hp : PartsIn tl ps (pr (fmtB (pS sg.cps.toList) (rs.take k)).2)) (hl : StrsAre lns ((fmtB (pS sg.cps.toList) (rs.take k)).1.map lineOf)) (t1 : TriplesOk tb'.toList) (t2 : TriplesOk tc'.toList) (hm : m "lines" = some (.ref V))
inductive TuJ (gs12 : Array GenState) (D : Addr) (l14 : List (Str × Tok)) (R0 : Addr) (bs : List (List Str)) (tb2 tc2 : Array Value) (k : Nat) (m : Str → Option Value) (nw : List (Addr × Obj)) (gs : Array GenState) : Prop
  | mk (e : gs = gs12) (vs' : List Value) (n' : Nat) (en : nw = [(D, listOf (strValues l14).toArray 0), (R0, listOf vs'.toArray n'), (140, tabObj tb2), (147, tabObj tc2)]) (hs : StrsAre vs' ((bs.take k).flatMap rot)) (hm : m "turned" = some (.ref R0))
section
variable {w : World} {p : Program} {loose : List Str} {mean : ExcName → Option Value} {mg mb : Str → Option Value} {G : Heap} {s : Shared} {Q E : Value → Shared → Prop}
set_option maxHeartbeats 1000000
theorem c_turned {lr : Addr} {vs : List Value} {rs : List Str} {row : Str} {trow : Tok} {width : Int} {tw : Tok} {tb tc : Array Value} (D : Gd w p loose mean mg mb G) (St : G.StaysIn s.heap) (hl : s.heap.IsList lr vs.toArray) (hi : StrsAre vs rs) (hn : rs.length ≤ 10) (hne : rs ≠ [])
    (hrow' : RowOk row) (hrl' : ∀ y ∈ rs, RowOk y) (hw0 : 0 ≤ width) (hw : width ≤ 23)
    (hP : s.heap.get? 140 = some (tabObj tb)) (htr : TriplesOk tb.toList) (hPG : G.get? 140 = none) (hP2 : s.heap.get? 147 = some (tabObj tc)) (htr2 : TriplesOk tc.toList) (hPG2 : G.get? 147 = none) (hbare : AllBare s.gens)
    (hret : ∀ s' R vs' n', (∀ b o, s.heap.get? b = some o → b ≠ 140 → b ≠ 147 → s'.heap.get? b = some o) → s.heap.get? R = none → s'.heap.get? R = some (listOf (List.toArray vs') n') → StrsAre vs' (turned lastZ rs row) → (∃ tb', s'.heap.get? 140 = some (tabObj tb') ∧ TriplesOk tb'.toList) → (∃ tc', s'.heap.get? 147 = some (tabObj tc') ∧ TriplesOk tc'.toList) →
      AllBare s'.gens → s'.drawn = s.drawn → s'.os = s.os → Q (.ref R) s') :
    wpAny (model Challenge.rw_oc0165_01.row.prog w) (Am 400 200) (call (.ref 260) [.ref lr, .str row trow, .int width tw]) Q E s := by
  have hrow := hrow'.len
  have hrl : ∀ y ∈ rs, y.length = 11 := fun y hy => (hrl' y hy).len
  have fill : (hd.heap_1 w.params).In G := D.X
  revert fill
  k_fill
  intro _
  refine wpAny_call ?_
  refine' enterC (binds := [("rows", .ref lr), ("row", .str row trow), ("width", .int width tw)]) [(140, tabObj tb), (147, tabObj tc)] D St ?k3 ?k4 ?k6 ?k7 ?k8 ?k9 ?kB ?kD ?c2 ?c3 ?c4 ?_
  case k3 => rintro q (_ | ⟨_, _ | ⟨_, hq⟩⟩); (· exact hP); (· exact hP2); cases hq
  case k4 => rintro q (_ | ⟨_, _ | ⟨_, hq⟩⟩); (· exact hPG); (· exact hPG2); cases hq
  (((case k6 => k_is); (case k7 => k_is); (case k8 => decide)))
  case k9 => exact BindsTo.of_eq rfl
  case kB => exact rfl
  case kD => decide +kernel
  case c2 => exact rfl
  case c3 => exact rfl
  case c4 => exact rfl
  intro g L h tk cells hg hL F N Y X T l1 hkeep hst
  obtain ⟨o1, o2, hE, d1, d2⟩ := CellsAre.two Y
  subst hE
  clear Y
  dsimp only [List.cons_append, List.nil_append] at N
  replace hkeep : ∀ b o, s.heap.get? b = some o → b ≠ 140 → b ≠ 147 → g.get? b = some o := fun b o e hb hb2 => hkeep b o e (by rintro q (_ | ⟨_, _ | ⟨_, hq⟩⟩); (· exact hb.symm); (· exact hb2.symm); cases hq)
  have hlg : g.IsList lr vs.toArray := by
    obtain ⟨o, ho, hc, r⟩ := hl
    exact ⟨o, hkeep _ _ ho (ne_cls ho hP (by simp [hc])) (ne_cls ho hP2 (by simp [hc])), hc, r⟩
  obtain ⟨m0, F0⟩ := fr_if2 (x1 := "rows") (x2 := "width") (v1 := .ref lr) (v2 := .int width tw) F rfl rfl
  clear F
  replace d1 : o1.data = .cell none := d1
  replace d2 : o2.data = .cell (some (.str row trow)) := d2
  dsimp only
  try k_fold
  (repeat' (first | (fail_if_success (with_reducible show wpAny _ _ (exec (Stmt.For _ _ _ _ _) _) _ _ _)); (fail_if_success (with_reducible show wpAny _ _ (eval (PySem.Expr.ListComp _ _ _ _) _) _ _ _)); (fail_if_success (with_reducible show CompPack _)); (fail_if_success (with_reducible show wpAny _ _ (call (Value.builtin "str.join") _) _ _ _)); (fail_if_success (with_reducible show wpAny _ _ (call (Value.builtin "str.split") _) _ _ _)); (fail_if_success (with_reducible show wpAny _ _ (subscriptTail _ (PySem.Expr.Slice _ _ _ _) _ _) _ _ _)); (fail_if_success (with_reducible show wpAny _ _ (binaryOp _ (Value.ref _) (Value.ref _)) _ _ _)); (fail_if_success (with_reducible show wpAny _ _ (call (Value.builtin "list.extend") _) _ _ _)); (first | (k_unfold; (try dsimp only)) | (first | ((k_here; (with_reducible show wpAny _ _ (call (Value.ref 236) _) _ _ _); k_dflt (refine' u_cmpK ?k1 ?k2 ?k3 ?k4 ?k5 ?k6 ?k7 ?_; (case k1 => k_asm); (case k2 => k_asm); (case k3 => assumption); (case k4 => assumption); (case k5 => exact rfl); (case k6 => decide); (case k7 => decide)); intro t' h' tk' hk' F' N'; (try k_sweep))) | walk1) | (dsimp only; (first | ((k_here; (with_reducible show wpAny _ _ (call (Value.ref 236) _) _ _ _); k_dflt (refine' u_cmpK ?k1 ?k2 ?k3 ?k4 ?k5 ?k6 ?k7 ?_; (case k1 => k_asm); (case k2 => k_asm); (case k3 => assumption); (case k4 => assumption); (case k5 => exact rfl); (case k6 => decide); (case k7 => decide)); intro t' h' tk' hk' F' N'; (try k_sweep))) | walk1)))))
  rename Fr _ _ _ _ => F1
  rename News _ _ _ _ => N1
  refine PySem.EqBoolInt.of_rc (SeqAt.RcAt.lists_lengths (hlg.at fun o e => F1.keep _ _ e) (PySem.IsL.isList (n := 0) (N1 _ (.head _)).1) (by have := hi.length; simp; intro e; apply hne; rw [e] at this; exact List.length_eq_zero_iff.mp this.symm) (by decide)) ?_
  have hpos : 0 < rs.length := List.length_pos_iff.mpr hne
  have hz : (rs.getD (-1 + (rs.length : Int)).toNat Str.empty).length = 11 := by
    have e : (-1 + (rs.length : Int)).toNat < rs.length := by (first | lia | omega)
    rw [List.getD, List.getElem?_eq_getElem e]
    exact hrl _ (List.getElem_mem e)
  (repeat' (first | (fail_if_success (with_reducible show wpAny _ _ (exec (Stmt.For _ _ _ _ _) _) _ _ _)); (fail_if_success (with_reducible show wpAny _ _ (eval (PySem.Expr.ListComp _ _ _ _) _) _ _ _)); (fail_if_success (with_reducible show CompPack _)); (fail_if_success (with_reducible show wpAny _ _ (call (Value.builtin "str.join") _) _ _ _)); (fail_if_success (with_reducible show wpAny _ _ (call (Value.builtin "str.split") _) _ _ _)); (fail_if_success (with_reducible show wpAny _ _ (subscriptTail _ (PySem.Expr.Slice _ _ _ _) _ _) _ _ _)); (fail_if_success (with_reducible show wpAny _ _ (binaryOp _ (Value.ref _) (Value.ref _)) _ _ _)); (fail_if_success (with_reducible show wpAny _ _ (call (Value.builtin "list.extend") _) _ _ _)); (first | (k_unfold; (try dsimp only)) | (first | ((k_here; (with_reducible show wpAny _ _ (call (Value.ref 236) _) _ _ _); k_dflt (refine' u_cmpK ?k1 ?k2 ?k3 ?k4 ?k5 ?k6 ?k7 ?_; (case k1 => k_asm); (case k2 => k_asm); (case k3 => assumption); (case k4 => assumption); (case k5 => exact rfl); (case k6 => decide); (case k7 => decide)); intro t' h' tk' hk' F' N'; (try k_sweep))) | walk1) | (dsimp only; (first | ((k_here; (with_reducible show wpAny _ _ (call (Value.ref 236) _) _ _ _); k_dflt (refine' u_cmpK ?k1 ?k2 ?k3 ?k4 ?k5 ?k6 ?k7 ?_; (case k1 => k_asm); (case k2 => k_asm); (case k3 => assumption); (case k4 => assumption); (case k5 => exact rfl); (case k6 => decide); (case k7 => decide)); intro t' h' tk' hk' F' N'; (try k_sweep))) | walk1)))))
  rename Fr _ _ _ _ => F2
  rename News _ _ _ _ => N2
  rename_i o1' _ _ _ _
  apply ListComp_DCnk (h₀ := g) (L := L) (m := fun y => if y = "rows" then some (.ref lr) else if y = "width" then some (.int width tw) else m0 y) (K := ItemKind.str) (pz := fun a => cmpB (Txt.item a (-1)) (Txt.item row (-1)) == cmpB (Txt.item (rs.getD (-1 + (rs.length : Int)).toNat Str.empty) (-1)) (Txt.item row (-1))) (d := fun a => .str (Txt.item a (-1)))
  case hany => decide
  case hh => with_unfolding_all rfl
  case hclos => with_unfolding_all rfl
  case hcell => decide
  case hkind => with_unfolding_all rfl
  case hnames => decide
  case hx => with_unfolding_all rfl
  case hs => intro _; with_unfolding_all rfl
  refine wpAny_compPack ?_
  (repeat' (first | (fail_if_success (with_reducible show wpAny _ _ (exec (Stmt.For _ _ _ _ _) _) _ _ _)); (fail_if_success (with_reducible show wpAny _ _ (eval (PySem.Expr.ListComp _ _ _ _) _) _ _ _)); (fail_if_success (with_reducible show CompPack _)); (fail_if_success (with_reducible show wpAny _ _ (call (Value.builtin "str.join") _) _ _ _)); (fail_if_success (with_reducible show wpAny _ _ (call (Value.builtin "str.split") _) _ _ _)); (fail_if_success (with_reducible show wpAny _ _ (subscriptTail _ (PySem.Expr.Slice _ _ _ _) _ _) _ _ _)); (fail_if_success (with_reducible show wpAny _ _ (binaryOp _ (Value.ref _) (Value.ref _)) _ _ _)); (fail_if_success (with_reducible show wpAny _ _ (call (Value.builtin "list.extend") _) _ _ _)); (first | (k_unfold; (try dsimp only)) | (first | ((k_here; (with_reducible show wpAny _ _ (call (Value.ref 236) _) _ _ _); k_dflt (refine' u_cmpK ?k1 ?k2 ?k3 ?k4 ?k5 ?k6 ?k7 ?_; (case k1 => k_asm); (case k2 => k_asm); (case k3 => assumption); (case k4 => assumption); (case k5 => exact rfl); (case k6 => decide); (case k7 => decide)); intro t' h' tk' hk' F' N'; (try k_sweep))) | walk1) | (dsimp only; (first | ((k_here; (with_reducible show wpAny _ _ (call (Value.ref 236) _) _ _ _); k_dflt (refine' u_cmpK ?k1 ?k2 ?k3 ?k4 ?k5 ?k6 ?k7 ?_; (case k1 => k_asm); (case k2 => k_asm); (case k3 => assumption); (case k4 => assumption); (case k5 => exact rfl); (case k6 => decide); (case k7 => decide)); intro t' h' tk' hk' F' N'; (try k_sweep))) | walk1)))))
  rename Fr _ _ _ _ => F3
  rename News _ _ _ _ => N3
  refine CompPack.intro ⟨_, _, vs, rs, rfl, hlg.at fun o e => F3.keep _ _ e, hi.areOf, (by rw [sizeLine_eq]; (first | lia | omega)), F3, N3, ?_, ?_, ?_⟩
  · intro C a v s₂ m₂ E' hC ha hv hn hm hk
    obtain ⟨t, rfl⟩ := ItemKind.str_is hv
    have hla := hrl a ha
    have Fc := frInComp hn hk hC
    refine wpAny_leafK ?_
    (repeat' (first | (fail_if_success (with_reducible show wpAny _ _ (exec (Stmt.For _ _ _ _ _) _) _ _ _)); (fail_if_success (with_reducible show wpAny _ _ (eval (PySem.Expr.ListComp _ _ _ _) _) _ _ _)); (fail_if_success (with_reducible show CompPack _)); (fail_if_success (with_reducible show wpAny _ _ (call (Value.builtin "str.join") _) _ _ _)); (fail_if_success (with_reducible show wpAny _ _ (call (Value.builtin "str.split") _) _ _ _)); (fail_if_success (with_reducible show wpAny _ _ (subscriptTail _ (PySem.Expr.Slice _ _ _ _) _ _) _ _ _)); (fail_if_success (with_reducible show wpAny _ _ (binaryOp _ (Value.ref _) (Value.ref _)) _ _ _)); (fail_if_success (with_reducible show wpAny _ _ (call (Value.builtin "list.extend") _) _ _ _)); (first | (k_unfold; (try dsimp only)) | (first | ((k_here; (with_reducible show wpAny _ _ (call (Value.ref 236) _) _ _ _); k_dflt (refine' u_cmpK ?k1 ?k2 ?k3 ?k4 ?k5 ?k6 ?k7 ?_; (case k1 => k_asm); (case k2 => k_asm); (case k3 => assumption); (case k4 => assumption); (case k5 => exact rfl); (case k6 => decide); (case k7 => decide)); intro t' h' tk' hk' F' N'; (try k_sweep))) | walk1) | (dsimp only; (first | ((k_here; (with_reducible show wpAny _ _ (call (Value.ref 236) _) _ _ _); k_dflt (refine' u_cmpK ?k1 ?k2 ?k3 ?k4 ?k5 ?k6 ?k7 ?_; (case k1 => k_asm); (case k2 => k_asm); (case k3 => assumption); (case k4 => assumption); (case k5 => exact rfl); (case k6 => decide); (case k7 => decide)); intro t' h' tk' hk' F' N'; (try k_sweep))) | walk1)))))
  · intro C a v s₂ m₂ E' hC ha hv hpz hn hm hk
    obtain ⟨t, rfl⟩ := ItemKind.str_is hv
    have hla := hrl a ha
    have Fc := frInComp hn hk hC
    refine wpAny_leafK ?_
    (repeat' (first | (fail_if_success (with_reducible show wpAny _ _ (exec (Stmt.For _ _ _ _ _) _) _ _ _)); (fail_if_success (with_reducible show wpAny _ _ (eval (PySem.Expr.ListComp _ _ _ _) _) _ _ _)); (fail_if_success (with_reducible show CompPack _)); (fail_if_success (with_reducible show wpAny _ _ (call (Value.builtin "str.join") _) _ _ _)); (fail_if_success (with_reducible show wpAny _ _ (call (Value.builtin "str.split") _) _ _ _)); (fail_if_success (with_reducible show wpAny _ _ (subscriptTail _ (PySem.Expr.Slice _ _ _ _) _ _) _ _ _)); (fail_if_success (with_reducible show wpAny _ _ (binaryOp _ (Value.ref _) (Value.ref _)) _ _ _)); (fail_if_success (with_reducible show wpAny _ _ (call (Value.builtin "list.extend") _) _ _ _)); (first | (k_unfold; (try dsimp only)) | (first | ((k_here; (with_reducible show wpAny _ _ (call (Value.ref 236) _) _ _ _); k_dflt (refine' u_cmpK ?k1 ?k2 ?k3 ?k4 ?k5 ?k6 ?k7 ?_; (case k1 => k_asm); (case k2 => k_asm); (case k3 => assumption); (case k4 => assumption); (case k5 => exact rfl); (case k6 => decide); (case k7 => decide)); intro t' h' tk' hk' F' N'; (try k_sweep))) | walk1) | (dsimp only; (first | ((k_here; (with_reducible show wpAny _ _ (call (Value.ref 236) _) _ _ _); k_dflt (refine' u_cmpK ?k1 ?k2 ?k3 ?k4 ?k5 ?k6 ?k7 ?_; (case k1 => k_asm); (case k2 => k_asm); (case k3 => assumption); (case k4 => assumption); (case k5 => exact rfl); (case k6 => decide); (case k7 => decide)); intro t' h' tk' hk' F' N'; (try k_sweep))) | walk1)))))
  · intro D4 ys h4 tk4 F4 N4 hD4 hl4 hnp4 hc4
    clear F3 N3
    (repeat' (first | (fail_if_success (with_reducible show wpAny _ _ (exec (Stmt.For _ _ _ _ _) _) _ _ _)); (fail_if_success (with_reducible show wpAny _ _ (eval (PySem.Expr.ListComp _ _ _ _) _) _ _ _)); (fail_if_success (with_reducible show CompPack _)); (fail_if_success (with_reducible show wpAny _ _ (call (Value.builtin "str.join") _) _ _ _)); (fail_if_success (with_reducible show wpAny _ _ (call (Value.builtin "str.split") _) _ _ _)); (fail_if_success (with_reducible show wpAny _ _ (subscriptTail _ (PySem.Expr.Slice _ _ _ _) _ _) _ _ _)); (fail_if_success (with_reducible show wpAny _ _ (binaryOp _ (Value.ref _) (Value.ref _)) _ _ _)); (fail_if_success (with_reducible show wpAny _ _ (call (Value.builtin "list.extend") _) _ _ _)); (first | (k_unfold; (try dsimp only)) | (first | ((k_here; (with_reducible show wpAny _ _ (call (Value.ref 236) _) _ _ _); k_dflt (refine' u_cmpK ?k1 ?k2 ?k3 ?k4 ?k5 ?k6 ?k7 ?_; (case k1 => k_asm); (case k2 => k_asm); (case k3 => assumption); (case k4 => assumption); (case k5 => exact rfl); (case k6 => decide); (case k7 => decide)); intro t' h' tk' hk' F' N'; (try k_sweep))) | walk1) | (dsimp only; (first | ((k_here; (with_reducible show wpAny _ _ (call (Value.ref 236) _) _ _ _); k_dflt (refine' u_cmpK ?k1 ?k2 ?k3 ?k4 ?k5 ?k6 ?k7 ?_; (case k1 => k_asm); (case k2 => k_asm); (case k3 => assumption); (case k4 => assumption); (case k5 => exact rfl); (case k6 => decide); (case k7 => decide)); intro t' h' tk' hk' F' N'; (try k_sweep))) | walk1)))))
    rename Fr _ _ _ _ => F5
    rename News _ _ _ _ => N5
    have hs4 : StrsAre ys ((rs.filter (fun a => cmpB (Txt.item a (-1)) (Txt.item row (-1)) == cmpB (Txt.item (rs.getD (-1 + (rs.length : Int)).toNat Str.empty) (-1)) (Txt.item row (-1)))).map (fun a => Txt.item a (-1))) := hc4.strsOf
    have hlf : (rs.filter (fun a => cmpB (Txt.item a (-1)) (Txt.item row (-1)) == cmpB (Txt.item (rs.getD (-1 + (rs.length : Int)).toNat Str.empty) (-1)) (Txt.item row (-1)))).length ≤ 10 := Nat.le_trans (List.length_filter_le _ _) hn
    refine join_listW hl4 hs4 (by decide) (by
      generalize rs.filter _ = fl at hlf
      have : ∀ fl : List Str, ((fl.map (fun a => Txt.item a (-1))).map (·.length)).sum = fl.length := by
        intro fl
        induction fl with
        | nil => rfl
        | cons a t ih => simp only [List.map_cons, List.sum_cons, List.length_cons, ih]; show 1 + _ = _; (first | lia | omega)
      rw [this, List.length_map]; (first | lia | omega)) ?_
    intro t6 tk6
    obtain ⟨z, hzl⟩ : ∃ z, rs.getLast? = some z := by
      cases e : rs.getLast? with
      | none => exact absurd (List.getLast?_eq_none_iff.mp e) hne
      | some z => exact ⟨z, rfl⟩
    have hzd : rs.getD (-1 + (rs.length : Int)).toNat Str.empty = z := by
      have e : (-1 + (rs.length : Int)).toNat = rs.length - 1 := by (first | lia | omega)
      rw [List.getLast?_eq_getElem?] at hzl
      rw [e, List.getD, hzl]; rfl
    rw [hzd] at hs4 hlf hc4 ⊢
    have hzr := hrl' z (List.mem_of_getLast? hzl)
    show wpAny _ _ (storeName _ _ (.str (signsOf rs row z) t6)) _ _ _
    have hns := signs_ns hrl' hrow' hzr
    have hfmt := turned_fmt hzl hrl' hrow'
    generalize signsOf rs row z = sg at hns hfmt ⊢
    clear hs4 hlf hc4 hnp4
    (repeat' (first | (fail_if_success (with_reducible show wpAny _ _ (exec (Stmt.For _ _ _ _ _) _) _ _ _)); (fail_if_success (with_reducible show wpAny _ _ (eval (PySem.Expr.ListComp _ _ _ _) _) _ _ _)); (fail_if_success (with_reducible show CompPack _)); (fail_if_success (with_reducible show wpAny _ _ (call (Value.builtin "str.join") _) _ _ _)); (fail_if_success (with_reducible show wpAny _ _ (call (Value.builtin "str.split") _) _ _ _)); (fail_if_success (with_reducible show wpAny _ _ (subscriptTail _ (PySem.Expr.Slice _ _ _ _) _ _) _ _ _)); (fail_if_success (with_reducible show wpAny _ _ (binaryOp _ (Value.ref _) (Value.ref _)) _ _ _)); (fail_if_success (with_reducible show wpAny _ _ (call (Value.builtin "list.extend") _) _ _ _)); (first | (k_unfold; (try dsimp only)) | (first | ((k_here; (with_reducible show wpAny _ _ (call (Value.ref 236) _) _ _ _); k_dflt (refine' u_cmpK ?k1 ?k2 ?k3 ?k4 ?k5 ?k6 ?k7 ?_; (case k1 => k_asm); (case k2 => k_asm); (case k3 => assumption); (case k4 => assumption); (case k5 => exact rfl); (case k6 => decide); (case k7 => decide)); intro t' h' tk' hk' F' N'; (try k_sweep))) | walk1) | (dsimp only; (first | ((k_here; (with_reducible show wpAny _ _ (call (Value.ref 236) _) _ _ _); k_dflt (refine' u_cmpK ?k1 ?k2 ?k3 ?k4 ?k5 ?k6 ?k7 ?_; (case k1 => k_asm); (case k2 => k_asm); (case k3 => assumption); (case k4 => assumption); (case k5 => exact rfl); (case k6 => decide); (case k7 => decide)); intro t' h' tk' hk' F' N'; (try k_sweep))) | walk1)))))
    rename Fr _ _ _ _ => F7
    rename News _ _ _ _ => N7
    refine u_vmake F7 N7 X D hst rfl (by decide) (by decide) (by decide) ?_
    intro h8 tk8 V dv Ln x d n8 hs0 t0 hh tt vc vl nd F8 N8 hoff8
    clear F7 N7
    replace N8 : News g L h8 (led7 V (instObj 94 dv) dv (vfDict hh tt (.int width tw) vc vl (.str sg t6) Ln x nd) Ln (listOf ([] : List Value).toArray 0) x (acObj d #[] n8) d (acDict hs0 t0 (.int 0 _) 1) (tabObj tb) (tabObj tc) []) := fun q hq => N8 q (by
      rcases hq with _ | ⟨_, _ | ⟨_, _ | ⟨_, _ | ⟨_, _ | ⟨_, _ | ⟨_, _ | ⟨_, hq⟩⟩⟩⟩⟩⟩⟩
      · exact .head _
      · exact .tail _ (.head _)
      · exact .tail _ (.tail _ (.head _))
      · exact .tail _ (.tail _ (.tail _ (.head _)))
      · exact .tail _ (.tail _ (.tail _ (.tail _ (.head _))))
      · repeat' (first | exact List.Mem.head _ | refine List.Mem.tail _ ?_)
      · repeat' (first | exact List.Mem.head _ | refine List.Mem.tail _ ?_)
      · cases hq)
    (repeat' (first | (fail_if_success (with_reducible show wpAny _ _ (exec (Stmt.For _ _ _ _ _) _) _ _ _)); (fail_if_success (with_reducible show wpAny _ _ (eval (PySem.Expr.ListComp _ _ _ _) _) _ _ _)); (fail_if_success (with_reducible show CompPack _)); (fail_if_success (with_reducible show wpAny _ _ (call (Value.builtin "str.join") _) _ _ _)); (fail_if_success (with_reducible show wpAny _ _ (call (Value.builtin "str.split") _) _ _ _)); (fail_if_success (with_reducible show wpAny _ _ (subscriptTail _ (PySem.Expr.Slice _ _ _ _) _ _) _ _ _)); (fail_if_success (with_reducible show wpAny _ _ (binaryOp _ (Value.ref _) (Value.ref _)) _ _ _)); (fail_if_success (with_reducible show wpAny _ _ (call (Value.builtin "list.extend") _) _ _ _)); (first | (k_unfold; (try dsimp only)) | (first | ((k_here; (with_reducible show wpAny _ _ (call (Value.ref 236) _) _ _ _); k_dflt (refine' u_cmpK ?k1 ?k2 ?k3 ?k4 ?k5 ?k6 ?k7 ?_; (case k1 => k_asm); (case k2 => k_asm); (case k3 => assumption); (case k4 => assumption); (case k5 => exact rfl); (case k6 => decide); (case k7 => decide)); intro t' h' tk' hk' F' N'; (try k_sweep))) | walk1) | (dsimp only; (first | ((k_here; (with_reducible show wpAny _ _ (call (Value.ref 236) _) _ _ _); k_dflt (refine' u_cmpK ?k1 ?k2 ?k3 ?k4 ?k5 ?k6 ?k7 ?_; (case k1 => k_asm); (case k2 => k_asm); (case k3 => assumption); (case k4 => assumption); (case k5 => exact rfl); (case k6 => decide); (case k7 => decide)); intro t' h' tk' hk' F' N'; (try k_sweep))) | walk1)))))
    refine wpAny_For ?_ (fun _ => rfl)
    (repeat' (first | (fail_if_success (with_reducible show wpAny _ _ (exec (Stmt.For _ _ _ _ _) _) _ _ _)); (fail_if_success (with_reducible show wpAny _ _ (eval (PySem.Expr.ListComp _ _ _ _) _) _ _ _)); (fail_if_success (with_reducible show CompPack _)); (fail_if_success (with_reducible show wpAny _ _ (call (Value.builtin "str.join") _) _ _ _)); (fail_if_success (with_reducible show wpAny _ _ (call (Value.builtin "str.split") _) _ _ _)); (fail_if_success (with_reducible show wpAny _ _ (subscriptTail _ (PySem.Expr.Slice _ _ _ _) _ _) _ _ _)); (fail_if_success (with_reducible show wpAny _ _ (binaryOp _ (Value.ref _) (Value.ref _)) _ _ _)); (fail_if_success (with_reducible show wpAny _ _ (call (Value.builtin "list.extend") _) _ _ _)); (first | (k_unfold; (try dsimp only)) | (first | ((k_here; (with_reducible show wpAny _ _ (call (Value.ref 236) _) _ _ _); k_dflt (refine' u_cmpK ?k1 ?k2 ?k3 ?k4 ?k5 ?k6 ?k7 ?_; (case k1 => k_asm); (case k2 => k_asm); (case k3 => assumption); (case k4 => assumption); (case k5 => exact rfl); (case k6 => decide); (case k7 => decide)); intro t' h' tk' hk' F' N'; (try k_sweep))) | walk1) | (dsimp only; (first | ((k_here; (with_reducible show wpAny _ _ (call (Value.ref 236) _) _ _ _); k_dflt (refine' u_cmpK ?k1 ?k2 ?k3 ?k4 ?k5 ?k6 ?k7 ?_; (case k1 => k_asm); (case k2 => k_asm); (case k3 => assumption); (case k4 => assumption); (case k5 => exact rfl); (case k6 => decide); (case k7 => decide)); intro t' h' tk' hk' F' N'; (try k_sweep))) | walk1)))))
    rename Fr _ _ _ _ => F9
    rename News _ _ _ _ => N9
    refine for_listB (items := vs.toArray) (TuInv rs sg V dv Ln x d hh tt width tw vc vl t6 nd hs0 t0) rfl hlg F9 N9 ⟨hbare, [], [], 0, #[], n8, _, tb, tc, rfl, .nil, .nil, .nil, htr, htr2, rfl⟩ rfl rfl ?_ ?_
    · rintro i v m nw h10 tk10 gs10 own E10 hv ⟨hb10, tl, lns, nl, ps, n, ti, tb', tc', rfl, R10, hpi, hls, ht1, ht2, hm⟩ hoff F10 N10
      clear F9 N9
      obtain ⟨m2, rfl⟩ := as_if hm
      clear hm
      dsimp only at F10
      obtain ⟨y, ty, rfl, hy⟩ := strs_item hi (show vs[i]? = some v by simpa using hv)
      have hyr : y ∈ rs := List.mem_of_getElem? hy
      have hir : i < rs.length := (List.getElem?_eq_some_iff.mp hy).1
      have htk : rs.take (i + 1) = rs.take i ++ [y] := by rw [List.take_add_one, hy]; rfl
      replace N10 : News g L h10 (led7 V (instObj 94 dv) dv (vfDict hh tt (.int width tw) vc vl (.str sg t6) Ln x nd) Ln (listOf lns.toArray nl) x (acObj d ps n) d (acDict hs0 t0 (.int 0 ti) 1) (tabObj tb') (tabObj tc') (tl ++ own)) := N10
      have R10' : Off7 V dv Ln x d (tl ++ own) := fun q hq => by
        rcases List.mem_append.mp hq with hq | hq
        · exact R10 q hq
        · exact ⟨fun e => hoff q hq V (.head _) e, fun e => hoff q hq dv (.tail _ (.head _)) e, fun e => hoff q hq Ln (.tail _ (.tail _ (.head _))) e, fun e => hoff q hq x (.tail _ (.tail _ (.tail _ (.head _)))) e, fun e => hoff q hq d (.tail _ (.tail _ (.tail _ (.tail _ (.head _))))) e, fun e => hoff q hq 140 (.tail _ (.tail _ (.tail _ (.tail _ (.tail _ (.head _)))))) e, fun e => hoff q hq 147 (.tail _ (.tail _ (.tail _ (.tail _ (.tail _ (.tail _ (.head _))))))) e⟩
      (repeat' (first | (fail_if_success (with_reducible show wpAny _ _ (exec (Stmt.For _ _ _ _ _) _) _ _ _)); (fail_if_success (with_reducible show wpAny _ _ (eval (PySem.Expr.ListComp _ _ _ _) _) _ _ _)); (fail_if_success (with_reducible show CompPack _)); (fail_if_success (with_reducible show wpAny _ _ (call (Value.builtin "str.join") _) _ _ _)); (fail_if_success (with_reducible show wpAny _ _ (call (Value.builtin "str.split") _) _ _ _)); (fail_if_success (with_reducible show wpAny _ _ (subscriptTail _ (PySem.Expr.Slice _ _ _ _) _ _) _ _ _)); (fail_if_success (with_reducible show wpAny _ _ (binaryOp _ (Value.ref _) (Value.ref _)) _ _ _)); (fail_if_success (with_reducible show wpAny _ _ (call (Value.builtin "list.extend") _) _ _ _)); (first | (k_unfold; (try dsimp only)) | (first | ((k_here; (with_reducible show wpAny _ _ (call (Value.ref 236) _) _ _ _); k_dflt (refine' u_cmpK ?k1 ?k2 ?k3 ?k4 ?k5 ?k6 ?k7 ?_; (case k1 => k_asm); (case k2 => k_asm); (case k3 => assumption); (case k4 => assumption); (case k5 => exact rfl); (case k6 => decide); (case k7 => decide)); intro t' h' tk' hk' F' N'; (try k_sweep))) | walk1) | (dsimp only; (first | ((k_here; (with_reducible show wpAny _ _ (call (Value.ref 236) _) _ _ _); k_dflt (refine' u_cmpK ?k1 ?k2 ?k3 ?k4 ?k5 ?k6 ?k7 ?_; (case k1 => k_asm); (case k2 => k_asm); (case k3 => assumption); (case k4 => assumption); (case k5 => exact rfl); (case k6 => decide); (case k7 => decide)); intro t' h' tk' hk' F' N'; (try k_sweep))) | walk1)))))
      rename Fr _ _ _ _ => F11
      rename News _ _ _ _ => N11
      obtain ⟨q1, q2, q3, q4, q5⟩ := fmt_facts (pS sg.cps.toList) (rs.take i)
      have htl : (rs.take i).length ≤ 10 := by rw [List.length_take]; (first | lia | omega)
      have hcl : ∀ z ∈ (fmtB (pS sg.cps.toList) (rs.take i)).2 ++ [y], z.length = 11 := fun z hz => by
        rcases List.mem_append.mp hz with hz | hz
        · exact hrl z (List.mem_of_mem_take (q3 z hz))
        · rw [List.mem_singleton.mp hz]; exact hrl y hyr
      have hch := chunk_blk (dn := (fmtB (pS sg.cps.toList) (rs.take i)).1) hw hcl (fmtB_inv (pS sg.cps.toList) (rs.take i)).1
      refine u_chunk (lines := (fmtB (pS sg.cps.toList) (rs.take i)).1.map lineOf) (l := pr (fmtB (pS sg.cps.toList) (rs.take i)).2) F11 N11 R10' hpi hls ht1 ht2 D hst rfl (by decide) (by decide) hb10 ?sh (by decide) (by decide) ?lc ?sg (fun _ _ => rfl) ?_
      case sh =>
        refine ⟨by simp [pr]; (first | lia | omega), fun q hq => ?_⟩
        rcases List.mem_append.mp hq with hq | hq
        · obtain ⟨z, hz, rfl⟩ := List.mem_map.mp hq
          exact ⟨by show spS.length ≤ 1000; decide, by show z.length ≤ 1000; rw [hcl z (List.mem_append_left _ hz)]; decide⟩
        · rw [List.mem_singleton.mp hq]
          exact ⟨by show spS.length ≤ 1000; decide, by show y.length ≤ 1000; rw [hrl y hyr]; decide⟩
      case lc => rw [List.length_map]; (first | lia | omega)
      case sg => intro c hc; simp [Txt.isspace, hns c hc]
      intro h12 gs12 tk12 lines' l' i0' lns' nl' ps' n' ti' tb2 tc2 tl' F12 N12 hpi' off' old' hls' ht1' ht2' hb12 hfin
      rw [show (Str.ofString " ", y) = (spS, y) from rfl, hch] at hfin
      have hB : blk (pS sg.cps.toList) ((fmtB (pS sg.cps.toList) (rs.take i)).1, (fmtB (pS sg.cps.toList) (rs.take i)).2) y = fmtB (pS sg.cps.toList) (rs.take (i + 1)) := by rw [htk, fmtB_snoc]
      rw [hB] at hfin
      simp only [Prod.mk.injEq] at hfin
      obtain ⟨e1, e2, e3⟩ := hfin
      subst e1 e2 e3
      have hown : ∀ q ∈ own, _root_.PySem.Heap.get? _ q.1 = some q.2 := fun q hq => (N11 q (.tail _ (.tail _ (.tail _ (.tail _ (.tail _ (.tail _ (.tail _ (List.mem_append_right _ hq))))))))).1
      clear F11 N11
      (repeat' (first | (fail_if_success (with_reducible show wpAny _ _ (exec (Stmt.For _ _ _ _ _) _) _ _ _)); (fail_if_success (with_reducible show wpAny _ _ (eval (PySem.Expr.ListComp _ _ _ _) _) _ _ _)); (fail_if_success (with_reducible show CompPack _)); (fail_if_success (with_reducible show wpAny _ _ (call (Value.builtin "str.join") _) _ _ _)); (fail_if_success (with_reducible show wpAny _ _ (call (Value.builtin "str.split") _) _ _ _)); (fail_if_success (with_reducible show wpAny _ _ (subscriptTail _ (PySem.Expr.Slice _ _ _ _) _ _) _ _ _)); (fail_if_success (with_reducible show wpAny _ _ (binaryOp _ (Value.ref _) (Value.ref _)) _ _ _)); (fail_if_success (with_reducible show wpAny _ _ (call (Value.builtin "list.extend") _) _ _ _)); (first | (k_unfold; (try dsimp only)) | (first | ((k_here; (with_reducible show wpAny _ _ (call (Value.ref 236) _) _ _ _); k_dflt (refine' u_cmpK ?k1 ?k2 ?k3 ?k4 ?k5 ?k6 ?k7 ?_; (case k1 => k_asm); (case k2 => k_asm); (case k3 => assumption); (case k4 => assumption); (case k5 => exact rfl); (case k6 => decide); (case k7 => decide)); intro t' h' tk' hk' F' N'; (try k_sweep))) | walk1) | (dsimp only; (first | ((k_here; (with_reducible show wpAny _ _ (call (Value.ref 236) _) _ _ _); k_dflt (refine' u_cmpK ?k1 ?k2 ?k3 ?k4 ?k5 ?k6 ?k7 ?_; (case k1 => k_asm); (case k2 => k_asm); (case k3 => assumption); (case k4 => assumption); (case k5 => exact rfl); (case k6 => decide); (case k7 => decide)); intro t' h' tk' hk' F' N'; (try k_sweep))) | walk1)))))
      refine ⟨_, _, _, _, _, rfl, F12, N12, ?_, hb12, tl', lns', nl', ps', n', ti', tb2, tc2, rfl, off', hpi', hls', ht1', ht2', rfl⟩
      intro q hq b hb e
      rcases hb with _ | ⟨_, _ | ⟨_, _ | ⟨_, _ | ⟨_, _ | ⟨_, _ | ⟨_, _ | ⟨_, hb⟩⟩⟩⟩⟩⟩⟩
      · exact (R10' q (List.mem_append_right _ hq)).1 e
      · exact (R10' q (List.mem_append_right _ hq)).2.1 e
      · exact (R10' q (List.mem_append_right _ hq)).2.2.1 e
      · exact (R10' q (List.mem_append_right _ hq)).2.2.2.1 e
      · exact (R10' q (List.mem_append_right _ hq)).2.2.2.2.1 e
      · exact (R10' q (List.mem_append_right _ hq)).2.2.2.2.2.1 e
      · exact (R10' q (List.mem_append_right _ hq)).2.2.2.2.2.2 e
      · obtain ⟨q', hq', rfl⟩ := List.mem_map.mp hb
        rcases old' q' hq' with h1 | h1
        · exact hoff q hq q'.1 (.tail _ (.tail _ (.tail _ (.tail _ (.tail _ (.tail _ (.tail _ (List.mem_map_of_mem h1)))))))) e
        · have := hown q hq
          rw [e, h1] at this; cases this
    · rintro m nw h10 tk10 gs10 E10 ⟨hb10, tl, lns, nl, ps, n, ti, tb', tc', rfl, R10, hpi, hls, ht1, ht2, hm⟩ F10 N10
      clear F9 N9
      obtain ⟨m2, rfl⟩ := as_if hm
      clear hm
      rw [show vs.toArray.size = rs.length by have := hi.length; simp; (first | lia | omega), List.take_length] at hpi hls
      (repeat' (first | (fail_if_success (with_reducible show wpAny _ _ (exec (Stmt.For _ _ _ _ _) _) _ _ _)); (fail_if_success (with_reducible show wpAny _ _ (eval (PySem.Expr.ListComp _ _ _ _) _) _ _ _)); (fail_if_success (with_reducible show CompPack _)); (fail_if_success (with_reducible show wpAny _ _ (call (Value.builtin "str.join") _) _ _ _)); (fail_if_success (with_reducible show wpAny _ _ (call (Value.builtin "str.split") _) _ _ _)); (fail_if_success (with_reducible show wpAny _ _ (subscriptTail _ (PySem.Expr.Slice _ _ _ _) _ _) _ _ _)); (fail_if_success (with_reducible show wpAny _ _ (binaryOp _ (Value.ref _) (Value.ref _)) _ _ _)); (fail_if_success (with_reducible show wpAny _ _ (call (Value.builtin "list.extend") _) _ _ _)); (first | (k_unfold; (try dsimp only)) | (first | ((k_here; (with_reducible show wpAny _ _ (call (Value.ref 236) _) _ _ _); k_dflt (refine' u_cmpK ?k1 ?k2 ?k3 ?k4 ?k5 ?k6 ?k7 ?_; (case k1 => k_asm); (case k2 => k_asm); (case k3 => assumption); (case k4 => assumption); (case k5 => exact rfl); (case k6 => decide); (case k7 => decide)); intro t' h' tk' hk' F' N'; (try k_sweep))) | walk1) | (dsimp only; (first | ((k_here; (with_reducible show wpAny _ _ (call (Value.ref 236) _) _ _ _); k_dflt (refine' u_cmpK ?k1 ?k2 ?k3 ?k4 ?k5 ?k6 ?k7 ?_; (case k1 => k_asm); (case k2 => k_asm); (case k3 => assumption); (case k4 => assumption); (case k5 => exact rfl); (case k6 => decide); (case k7 => decide)); intro t' h' tk' hk' F' N'; (try k_sweep))) | walk1)))))
      refine wpAny_For ?_ (fun _ => rfl)
      (repeat' (first | (fail_if_success (with_reducible show wpAny _ _ (exec (Stmt.For _ _ _ _ _) _) _ _ _)); (fail_if_success (with_reducible show wpAny _ _ (eval (PySem.Expr.ListComp _ _ _ _) _) _ _ _)); (fail_if_success (with_reducible show CompPack _)); (fail_if_success (with_reducible show wpAny _ _ (call (Value.builtin "str.join") _) _ _ _)); (fail_if_success (with_reducible show wpAny _ _ (call (Value.builtin "str.split") _) _ _ _)); (fail_if_success (with_reducible show wpAny _ _ (subscriptTail _ (PySem.Expr.Slice _ _ _ _) _ _) _ _ _)); (fail_if_success (with_reducible show wpAny _ _ (binaryOp _ (Value.ref _) (Value.ref _)) _ _ _)); (fail_if_success (with_reducible show wpAny _ _ (call (Value.builtin "list.extend") _) _ _ _)); (first | (k_unfold; (try dsimp only)) | (first | ((k_here; (with_reducible show wpAny _ _ (call (Value.ref 236) _) _ _ _); k_dflt (refine' u_cmpK ?k1 ?k2 ?k3 ?k4 ?k5 ?k6 ?k7 ?_; (case k1 => k_asm); (case k2 => k_asm); (case k3 => assumption); (case k4 => assumption); (case k5 => exact rfl); (case k6 => decide); (case k7 => decide)); intro t' h' tk' hk' F' N'; (try k_sweep))) | walk1) | (dsimp only; (first | ((k_here; (with_reducible show wpAny _ _ (call (Value.ref 236) _) _ _ _); k_dflt (refine' u_cmpK ?k1 ?k2 ?k3 ?k4 ?k5 ?k6 ?k7 ?_; (case k1 => k_asm); (case k2 => k_asm); (case k3 => assumption); (case k4 => assumption); (case k5 => exact rfl); (case k6 => decide); (case k7 => decide)); intro t' h' tk' hk' F' N'; (try k_sweep))) | walk1)))))
      rename Fr _ _ _ _ => F11
      rename News _ _ _ _ => N11
      rename V < _ ∧ _ => hlt
      obtain ⟨q1, q2, q3, q4, q5⟩ := fmt_facts (pS sg.cps.toList) rs
      have qne := (fmtB_inv (pS sg.cps.toList) rs).2.2.2 hne
      generalize fmtB (pS sg.cps.toList) rs = B at *
      obtain ⟨dn, cur⟩ := B
      dsimp only at *
      obtain ⟨c0, z2, rfl⟩ : ∃ c0 z2, cur = c0 ++ [z2] := by
        rcases List.eq_nil_or_concat cur with e | ⟨c0, z2, e⟩
        · exact absurd e qne
        · exact ⟨c0, z2, by rw [e, List.concat_eq_append]⟩
      have hcur : ∀ y ∈ c0 ++ [z2], RowOk y := fun y hy => hrl' y (q3 y hy)
      have hdn : ∀ b ∈ dn, ∀ y ∈ b, RowOk y := fun b hb y hy => hrl' y ((q4 b hb).2 y hy)
      have hz2 : z2.length = 11 := (hcur z2 (by simp)).len
      rw [← pr_snoc] at hpi
      have N11' : News g L _ (led7 V (instObj 94 dv) dv (vfDict hh tt (.int width tw) vc vl (.str sg t6) Ln x nd) Ln (listOf lns.toArray nl) x (acObj d ps n) d (acDict hs0 t0 (.int 0 ti) 1) (tabObj tb') (tabObj tc') tl) := fun q hq => N11 q (.tail _ hq)
      have hdl : (dn.map lineOf).length ≤ 10 := by rw [List.length_map]; (first | lia | omega)
      refine wp_up rfl (by decide) (by decide) (c_vstr (l := pr c0) (a := spS) (b := z2) (lines := dn.map lineOf) D (stays_fr F11 hst) (VFAt.of_news N11' hls ht1 ht2 (hpi.parts N11' fun q hq => .tail _ (.tail _ (.tail _ (.tail _ (.tail _ (.tail _ (.tail _ hq)))))))) (offG_ofH N11' hst) hb10 ?sh (by (first | lia | omega)) ?isp (by (first | lia | omega)) (by decide) ?hlen ?_)
      case sh =>
        rw [pr_snoc]
        refine ⟨by simp [pr] at q2 ⊢; (first | lia | omega), fun q hq => ?_⟩
        obtain ⟨z, hz, rfl⟩ := List.mem_map.mp hq
        exact ⟨by show spS.length ≤ 1000; decide, by show z.length ≤ 1000; rw [(hcur z hz).len]; decide⟩
      case isp => rw [pr_snoc]; exact line_isspace (by simp) hcur
      case hlen =>
        rw [pr_snoc]
        show (((dn.map lineOf) ++ [lineOf (c0 ++ [z2])]).map (·.length)).sum + ((dn.map lineOf) ++ [lineOf (c0 ++ [z2])]).length ≤ 1048576
        have e : (dn.map lineOf) ++ [lineOf (c0 ++ [z2])] = (dn ++ [c0 ++ [z2]]).map lineOf := by simp
        rw [e, lines_len]
        · simp only [List.flatten_append, List.length_append, List.length_map, List.flatten_cons, List.flatten_nil, List.append_nil] at q5 ⊢
          simp at q5 ⊢
          (first | lia | omega)
        · intro b hb y hy
          rcases List.mem_append.mp hb with hb | hb
          · exact (hdn b hb y hy).len
          · rw [List.mem_singleton.mp hb] at hy; exact (hcur y hy).len
      intro s12 t12 hk12 ⟨tb2, hP12, ht12⟩ ⟨tc2, hQ12, ht12'⟩ hb12 hdr12 hos12
      obtain ⟨h12, gs12, dr12, tk12, os12⟩ := s12
      dsimp only at hk12 hP12 hQ12 hb12 hdr12 hos12
      subst hdr12 hos12
      obtain ⟨F12, N12⟩ := vf_end F11 N11 ⟨Nat.ne_of_gt hlt.1, Nat.ne_of_gt hlt.2.1, Nat.ne_of_gt hlt.2.2.1, Nat.ne_of_gt hlt.2.2.2.1, Nat.ne_of_gt hlt.2.2.2.2.1, Nat.ne_of_gt hlt.2.2.2.2.2.1, Nat.ne_of_gt hlt.2.2.2.2.2.2.1⟩ hk12 hP12 hQ12
      clear F11 N11 N11'
      (repeat' (first | (fail_if_success (with_reducible show wpAny _ _ (exec (Stmt.For _ _ _ _ _) _) _ _ _)); (fail_if_success (with_reducible show wpAny _ _ (eval (PySem.Expr.ListComp _ _ _ _) _) _ _ _)); (fail_if_success (with_reducible show CompPack _)); (fail_if_success (with_reducible show wpAny _ _ (call (Value.builtin "str.join") _) _ _ _)); (fail_if_success (with_reducible show wpAny _ _ (call (Value.builtin "str.split") _) _ _ _)); (fail_if_success (with_reducible show wpAny _ _ (subscriptTail _ (PySem.Expr.Slice _ _ _ _) _ _) _ _ _)); (fail_if_success (with_reducible show wpAny _ _ (binaryOp _ (Value.ref _) (Value.ref _)) _ _ _)); (fail_if_success (with_reducible show wpAny _ _ (call (Value.builtin "list.extend") _) _ _ _)); (first | (k_unfold; (try dsimp only)) | (first | ((k_here; (with_reducible show wpAny _ _ (call (Value.ref 236) _) _ _ _); k_dflt (refine' u_cmpK ?k1 ?k2 ?k3 ?k4 ?k5 ?k6 ?k7 ?_; (case k1 => k_asm); (case k2 => k_asm); (case k3 => assumption); (case k4 => assumption); (case k5 => exact rfl); (case k6 => decide); (case k7 => decide)); intro t' h' tk' hk' F' N'; (try k_sweep))) | walk1) | (dsimp only; (first | ((k_here; (with_reducible show wpAny _ _ (call (Value.ref 236) _) _ _ _); k_dflt (refine' u_cmpK ?k1 ?k2 ?k3 ?k4 ?k5 ?k6 ?k7 ?_; (case k1 => k_asm); (case k2 => k_asm); (case k3 => assumption); (case k4 => assumption); (case k5 => exact rfl); (case k6 => decide); (case k7 => decide)); intro t' h' tk' hk' F' N'; (try k_sweep))) | walk1)))))
      rename Fr _ _ _ _ => F13
      rename News _ _ _ _ => N13
      have hbl : (dn.map lineOf) ++ [strOf (pr c0 ++ [(spS, z2)])] = (dn ++ [c0 ++ [z2]]).map lineOf := by rw [pr_snoc]; simp [lineOf]
      rw [hbl]
      have hbs : ∀ b ∈ dn ++ [c0 ++ [z2]], b ≠ [] ∧ ∀ y ∈ b, RowOk y := fun b hb => by
        rcases List.mem_append.mp hb with hb | hb
        · exact ⟨(q4 b hb).1, hdn b hb⟩
        · rw [List.mem_singleton.mp hb]; exact ⟨by simp, hcur⟩
      have hbn : (dn ++ [c0 ++ [z2]]).flatten.length ≤ 10 := by
        simp only [List.flatten_append, List.length_append, List.flatten_cons, List.flatten_nil, List.append_nil] at q5 ⊢
        (first | lia | omega)
      have hbc : (dn ++ [c0 ++ [z2]]).length ≤ 11 := by simp; (first | lia | omega)
      have hbe : dn ++ [c0 ++ [z2]] ≠ [] := by simp
      clear hls hpi hbl
      generalize dn ++ [c0 ++ [z2]] = bs at hfmt hbs hbn hbc hbe ⊢
      have hsp : Txt.split (Txt.join (Str.ofString ";") (bs.map lineOf)) (Str.ofString ";") = bs.map lineOf := split_join (c := 59) (by simpa using hbe) (fun a ha => by
        obtain ⟨b, hb, rfl⟩ := List.mem_map.mp ha
        exact line_nc (hbs b hb).2)
      have hjl : (Txt.join (Str.ofString ";") (bs.map lineOf)).length ≤ 1000 := by
        have e := size_glued (Str.ofString ";") (bs.map lineOf)
        have e2 := lines_len bs fun b hb y hy => ((hbs b hb).2 y hy).len
        have e3 : (Str.ofString ";").length = 1 := by decide
        have e4 : (Txt.join (Str.ofString ";") (bs.map lineOf)).length = _ := e
        rw [e4, e2, e3, List.length_map]
        (first | lia | omega)
      have hRD := Heap.lt_size (N13 _ (.head _)).1
      dsimp only at hRD
      refine splitN1A F13 N13 (by decide) ?_ (by rw [sizeLine_eq]; (first | lia | omega))
      intro l14 h14 tk14 e14 hs14 _ _ F14 N14
      rw [hsp] at e14
      rw [e14] at hs14
      clear F13 N13
      rename_i R0 _ _ _ _ _ _
      refine for_listN (l := h12.objs.size) (items := (strValues l14).toArray) (ep := 0) (TuJ gs12 h12.objs.size l14 R0 bs tb2 tc2) rfl
        (by rintro i m nw gs ⟨rfl, vs', n', rfl, _⟩; exact .head _) F14 N14 ⟨rfl, [], 0, rfl, .nil, rfl⟩ rfl rfl ?_ ?_
      · rintro i v m nw h15 tk15 gs15 own E15 hv ⟨rfl, vs', n', rfl, hvs, hm⟩ hoff F15 N15
        clear F14 N14
        obtain ⟨m3, rfl⟩ := as_if hm
        clear hm
        dsimp only at F15
        obtain ⟨yl, tyl, rfl, hyl⟩ := strs_item hs14 (show (strValues l14)[i]? = some v by simpa using hv)
        rw [List.getElem?_map] at hyl
        obtain ⟨b, hb, rfl⟩ := Option.map_eq_some_iff.mp hyl
        have hbm : b ∈ bs := List.mem_of_getElem? hb
        have hbr := (hbs b hbm).2
        have hb10 : b.length ≤ 10 := by
          have h1 : b.length ≤ bs.flatten.length := (List.sublist_flatten_of_mem hbm).length_le
          (first | lia | omega)
        have hwl : Txt.words (lineOf b) = b := words_lineOf (hbs b hbm).1 hbr
        have hll : (lineOf b).length ≤ 1000 := by rw [line_length fun y hy => (hbr y hy).len]; (first | lia | omega)
        have htk : bs.take (i + 1) = bs.take i ++ [b] := by rw [List.take_add_one, hb]; rfl
        replace N15 : News g L h15 ((h12.objs.size, listOf (strValues l14).toArray 0) :: (R0, listOf vs'.toArray n') :: (140, tabObj tb2) :: (147, tabObj tc2) :: own) := N15
        (repeat' (first | (fail_if_success (with_reducible show wpAny _ _ (exec (Stmt.For _ _ _ _ _) _) _ _ _)); (fail_if_success (with_reducible show wpAny _ _ (eval (PySem.Expr.ListComp _ _ _ _) _) _ _ _)); (fail_if_success (with_reducible show CompPack _)); (fail_if_success (with_reducible show wpAny _ _ (call (Value.builtin "str.join") _) _ _ _)); (fail_if_success (with_reducible show wpAny _ _ (call (Value.builtin "str.split") _) _ _ _)); (fail_if_success (with_reducible show wpAny _ _ (subscriptTail _ (PySem.Expr.Slice _ _ _ _) _ _) _ _ _)); (fail_if_success (with_reducible show wpAny _ _ (binaryOp _ (Value.ref _) (Value.ref _)) _ _ _)); (fail_if_success (with_reducible show wpAny _ _ (call (Value.builtin "list.extend") _) _ _ _)); (first | (k_unfold; (try dsimp only)) | (first | ((k_here; (with_reducible show wpAny _ _ (call (Value.ref 236) _) _ _ _); k_dflt (refine' u_cmpK ?k1 ?k2 ?k3 ?k4 ?k5 ?k6 ?k7 ?_; (case k1 => k_asm); (case k2 => k_asm); (case k3 => assumption); (case k4 => assumption); (case k5 => exact rfl); (case k6 => decide); (case k7 => decide)); intro t' h' tk' hk' F' N'; (try k_sweep))) | walk1) | (dsimp only; (first | ((k_here; (with_reducible show wpAny _ _ (call (Value.ref 236) _) _ _ _); k_dflt (refine' u_cmpK ?k1 ?k2 ?k3 ?k4 ?k5 ?k6 ?k7 ?_; (case k1 => k_asm); (case k2 => k_asm); (case k3 => assumption); (case k4 => assumption); (case k5 => exact rfl); (case k6 => decide); (case k7 => decide)); intro t' h' tk' hk' F' N'; (try k_sweep))) | walk1)))))
        rename Fr _ _ _ _ => F16
        rename News _ _ _ _ => N16
        refine splitN0A F16 N16 ?_ (by rw [sizeLine_eq]; (first | lia | omega))
        intro l17 h17 tk17 e17 hs17 _ _ F17 N17
        rw [hwl] at e17
        rw [e17] at hs17
        clear F16 N16
        have hbp : 1 ≤ b.length := by
          have := (hbs b hbm).1
          cases b with
          | nil => exact absurd rfl this
          | cons _ _ => simp
        have hvl : (strValues l17).length = b.length := hs17.length
        (repeat' (first | (fail_if_success (with_reducible show wpAny _ _ (exec (Stmt.For _ _ _ _ _) _) _ _ _)); (fail_if_success (with_reducible show wpAny _ _ (eval (PySem.Expr.ListComp _ _ _ _) _) _ _ _)); (fail_if_success (with_reducible show CompPack _)); (fail_if_success (with_reducible show wpAny _ _ (call (Value.builtin "str.join") _) _ _ _)); (fail_if_success (with_reducible show wpAny _ _ (call (Value.builtin "str.split") _) _ _ _)); (fail_if_success (with_reducible show wpAny _ _ (subscriptTail _ (PySem.Expr.Slice _ _ _ _) _ _) _ _ _)); (fail_if_success (with_reducible show wpAny _ _ (binaryOp _ (Value.ref _) (Value.ref _)) _ _ _)); (fail_if_success (with_reducible show wpAny _ _ (call (Value.builtin "list.extend") _) _ _ _)); (first | (k_unfold; (try dsimp only)) | (first | ((k_here; (with_reducible show wpAny _ _ (call (Value.ref 236) _) _ _ _); k_dflt (refine' u_cmpK ?k1 ?k2 ?k3 ?k4 ?k5 ?k6 ?k7 ?_; (case k1 => k_asm); (case k2 => k_asm); (case k3 => assumption); (case k4 => assumption); (case k5 => exact rfl); (case k6 => decide); (case k7 => decide)); intro t' h' tk' hk' F' N'; (try k_sweep))) | walk1) | (dsimp only; (first | ((k_here; (with_reducible show wpAny _ _ (call (Value.ref 236) _) _ _ _); k_dflt (refine' u_cmpK ?k1 ?k2 ?k3 ?k4 ?k5 ?k6 ?k7 ?_; (case k1 => k_asm); (case k2 => k_asm); (case k3 => assumption); (case k4 => assumption); (case k5 => exact rfl); (case k6 => decide); (case k7 => decide)); intro t' h' tk' hk' F' N'; (try k_sweep))) | walk1)))))
        rename Fr _ _ _ _ => F18
        rename News _ _ _ _ => N18
        k_dflt (refine' kmk_slice_lit F18 N18 (News.isList N18 (.head _)) (.int (-1) _) .none (pick_last _) ?_ ?s1 ?s2 ?s3)
        case s1 => with_unfolding_all rfl
        case s2 => intro r; with_unfolding_all rfl
        case s3 => rw [List.size_toArray, hvl, sizeLine_eq]; (first | lia | omega)
        intro D19 h19 F19 N19 l19
        clear F18 N18
        (repeat' (first | (fail_if_success (with_reducible show wpAny _ _ (exec (Stmt.For _ _ _ _ _) _) _ _ _)); (fail_if_success (with_reducible show wpAny _ _ (eval (PySem.Expr.ListComp _ _ _ _) _) _ _ _)); (fail_if_success (with_reducible show CompPack _)); (fail_if_success (with_reducible show wpAny _ _ (call (Value.builtin "str.join") _) _ _ _)); (fail_if_success (with_reducible show wpAny _ _ (call (Value.builtin "str.split") _) _ _ _)); (fail_if_success (with_reducible show wpAny _ _ (subscriptTail _ (PySem.Expr.Slice _ _ _ _) _ _) _ _ _)); (fail_if_success (with_reducible show wpAny _ _ (binaryOp _ (Value.ref _) (Value.ref _)) _ _ _)); (fail_if_success (with_reducible show wpAny _ _ (call (Value.builtin "list.extend") _) _ _ _)); (first | (k_unfold; (try dsimp only)) | (first | ((k_here; (with_reducible show wpAny _ _ (call (Value.ref 236) _) _ _ _); k_dflt (refine' u_cmpK ?k1 ?k2 ?k3 ?k4 ?k5 ?k6 ?k7 ?_; (case k1 => k_asm); (case k2 => k_asm); (case k3 => assumption); (case k4 => assumption); (case k5 => exact rfl); (case k6 => decide); (case k7 => decide)); intro t' h' tk' hk' F' N'; (try k_sweep))) | walk1) | (dsimp only; (first | ((k_here; (with_reducible show wpAny _ _ (call (Value.ref 236) _) _ _ _); k_dflt (refine' u_cmpK ?k1 ?k2 ?k3 ?k4 ?k5 ?k6 ?k7 ?_; (case k1 => k_asm); (case k2 => k_asm); (case k3 => assumption); (case k4 => assumption); (case k5 => exact rfl); (case k6 => decide); (case k7 => decide)); intro t' h' tk' hk' F' N'; (try k_sweep))) | walk1)))))
        rename Fr _ _ _ _ => F20
        rename News _ _ _ _ => N20
        k_dflt (refine' kmk_slice_lit F20 N20 (News.isList N20 (.tail _ (.head _))) .none (.int (-1) _) (pick_but _) ?_ ?s1 ?s2 ?s3)
        case s1 => with_unfolding_all rfl
        case s2 => intro r; with_unfolding_all rfl
        case s3 => rw [List.size_toArray, hvl, sizeLine_eq]; (first | lia | omega)
        intro D21 h21 F21 N21 l21
        clear F20 N20
        (repeat' (first | (fail_if_success (with_reducible show wpAny _ _ (exec (Stmt.For _ _ _ _ _) _) _ _ _)); (fail_if_success (with_reducible show wpAny _ _ (eval (PySem.Expr.ListComp _ _ _ _) _) _ _ _)); (fail_if_success (with_reducible show CompPack _)); (fail_if_success (with_reducible show wpAny _ _ (call (Value.builtin "str.join") _) _ _ _)); (fail_if_success (with_reducible show wpAny _ _ (call (Value.builtin "str.split") _) _ _ _)); (fail_if_success (with_reducible show wpAny _ _ (subscriptTail _ (PySem.Expr.Slice _ _ _ _) _ _) _ _ _)); (fail_if_success (with_reducible show wpAny _ _ (binaryOp _ (Value.ref _) (Value.ref _)) _ _ _)); (fail_if_success (with_reducible show wpAny _ _ (call (Value.builtin "list.extend") _) _ _ _)); (first | (k_unfold; (try dsimp only)) | (first | ((k_here; (with_reducible show wpAny _ _ (call (Value.ref 236) _) _ _ _); k_dflt (refine' u_cmpK ?k1 ?k2 ?k3 ?k4 ?k5 ?k6 ?k7 ?_; (case k1 => k_asm); (case k2 => k_asm); (case k3 => assumption); (case k4 => assumption); (case k5 => exact rfl); (case k6 => decide); (case k7 => decide)); intro t' h' tk' hk' F' N'; (try k_sweep))) | walk1) | (dsimp only; (first | ((k_here; (with_reducible show wpAny _ _ (call (Value.ref 236) _) _ _ _); k_dflt (refine' u_cmpK ?k1 ?k2 ?k3 ?k4 ?k5 ?k6 ?k7 ?_; (case k1 => k_asm); (case k2 => k_asm); (case k3 => assumption); (case k4 => assumption); (case k5 => exact rfl); (case k6 => decide); (case k7 => decide)); intro t' h' tk' hk' F' N'; (try k_sweep))) | walk1)))))
        rename Fr _ _ _ _ => F22
        rename News _ _ _ _ => N22
        have hCR := Heap.lt_size (N22 (R0, listOf vs'.toArray n') (by repeat' (first | exact List.Mem.head _ | refine List.Mem.tail _ ?_))).1
        dsimp only at hCR
        refine add_lists F22 N22 (News.isList N22 (.tail _ (.head _))) (News.isList N22 (.head _)) ?_ (by rw [List.length_drop, List.length_take, hvl, sizeLine_eq]; (first | lia | omega))
        intro h23 F23 N23
        clear F22 N22
        (repeat' (first | (fail_if_success (with_reducible show wpAny _ _ (exec (Stmt.For _ _ _ _ _) _) _ _ _)); (fail_if_success (with_reducible show wpAny _ _ (eval (PySem.Expr.ListComp _ _ _ _) _) _ _ _)); (fail_if_success (with_reducible show CompPack _)); (fail_if_success (with_reducible show wpAny _ _ (call (Value.builtin "str.join") _) _ _ _)); (fail_if_success (with_reducible show wpAny _ _ (call (Value.builtin "str.split") _) _ _ _)); (fail_if_success (with_reducible show wpAny _ _ (subscriptTail _ (PySem.Expr.Slice _ _ _ _) _ _) _ _ _)); (fail_if_success (with_reducible show wpAny _ _ (binaryOp _ (Value.ref _) (Value.ref _)) _ _ _)); (fail_if_success (with_reducible show wpAny _ _ (call (Value.builtin "list.extend") _) _ _ _)); (first | (k_unfold; (try dsimp only)) | (first | ((k_here; (with_reducible show wpAny _ _ (call (Value.ref 236) _) _ _ _); k_dflt (refine' u_cmpK ?k1 ?k2 ?k3 ?k4 ?k5 ?k6 ?k7 ?_; (case k1 => k_asm); (case k2 => k_asm); (case k3 => assumption); (case k4 => assumption); (case k5 => exact rfl); (case k6 => decide); (case k7 => decide)); intro t' h' tk' hk' F' N'; (try k_sweep))) | walk1) | (dsimp only; (first | ((k_here; (with_reducible show wpAny _ _ (call (Value.ref 236) _) _ _ _); k_dflt (refine' u_cmpK ?k1 ?k2 ?k3 ?k4 ?k5 ?k6 ?k7 ?_; (case k1 => k_asm); (case k2 => k_asm); (case k3 => assumption); (case k4 => assumption); (case k5 => exact rfl); (case k6 => decide); (case k7 => decide)); intro t' h' tk' hk' F' N'; (try k_sweep))) | walk1)))))
        have hbl2 : ((bs.take i).flatMap rot).length ≤ 10 := by
          have : ∀ l : List (List Str), (l.flatMap rot).length = l.flatten.length := by
            intro l
            induction l with
            | nil => rfl
            | cons a t ih => simp only [List.flatMap_cons, List.flatten_cons, List.length_append, ih]; unfold rot; rw [List.length_append, List.length_drop, List.length_take]; (first | lia | omega)
          rw [this]
          have h2 : (bs.take i).flatten.length + (bs.drop i).flatten.length = bs.flatten.length := by rw [← List.length_append, ← List.flatten_append, List.take_append_drop]
          (first | lia | omega)
        have hvl2 := hvs.length
        rename Fr _ _ _ _ => F24
        rename News _ _ _ _ => N24
        have hvS : StrsAre ((strValues l17).drop ((strValues l17).length - 1) ++ (strValues l17).take ((strValues l17).length - 1)) (rot b) := by
          unfold rot
          rw [hvl]
          exact (hs17.drop' _).append' (hs17.take' _)
        have hrl2 : (rot b).length = b.length := by unfold rot; rw [List.length_append, List.length_drop, List.length_take]; (first | lia | omega)
        generalize (strValues l17).drop ((strValues l17).length - 1) ++ (strValues l17).take ((strValues l17).length - 1) = vv at N24 hvS
        have hvvl : vv.length = b.length := hvS.length.trans hrl2
        have N24' : News g L _ ((h21.objs.size, listOf vv.toArray 0) :: (h12.objs.size, listOf (strValues l14).toArray 0) :: (R0, listOf vs'.toArray n') :: (140, tabObj tb2) :: (147, tabObj tc2) :: own) := fun q hq => N24 q (by
          rcases hq with _ | ⟨_, hq⟩
          · exact .head _
          · exact .tail _ (.tail _ (.tail _ (.tail _ hq))))
        clear N24
        refine kl_extend (its := vs'.toArray) (its2 := vv.toArray) (l := vs' ++ vv) (n := n') (n2 := 0) F24 N24' (.head _) (by simp) ?e1 (.tail (Nat.ne_of_gt hCR) (.tail (Nat.ne_of_gt hRD) (.head ?e2))) ?e3 ?e4 ?e5 ?_
        case e1 => show vv.toArray.toList.length ≠ 0; rw [Array.length_toList, List.size_toArray, hvvl]; (first | lia | omega)
        case e2 =>
          rintro q (_ | ⟨_, _ | ⟨_, hq⟩⟩)
          · exact Nat.ne_of_lt hlt.2.2.2.2.2.1
          · exact Nat.ne_of_lt hlt.2.2.2.2.2.2.1
          · exact fun e => hoff q hq R0 (.tail _ (.head _)) e
        case e3 =>
          have : Builtin.List.listTooLong (vs'.toArray.size + vv.toArray.size) = false := by
            unfold Builtin.List.listTooLong
            rw [List.size_toArray, List.size_toArray, sizeLine_eq, hvvl, hvl2]
            exact decide_eq_false (by (first | lia | omega))
          rw [this]; simp
        case e4 => rw [sizeLine_eq, Array.length_toList, List.size_toArray, hvl2]; (first | lia | omega)
        case e5 => rw [sizeLine_eq, List.size_toArray, List.size_toArray, hvl2, hvvl]; (first | lia | omega)
        intro h25 F25 N25
        clear F24 N24'
        (repeat' (first | (fail_if_success (with_reducible show wpAny _ _ (exec (Stmt.For _ _ _ _ _) _) _ _ _)); (fail_if_success (with_reducible show wpAny _ _ (eval (PySem.Expr.ListComp _ _ _ _) _) _ _ _)); (fail_if_success (with_reducible show CompPack _)); (fail_if_success (with_reducible show wpAny _ _ (call (Value.builtin "str.join") _) _ _ _)); (fail_if_success (with_reducible show wpAny _ _ (call (Value.builtin "str.split") _) _ _ _)); (fail_if_success (with_reducible show wpAny _ _ (subscriptTail _ (PySem.Expr.Slice _ _ _ _) _ _) _ _ _)); (fail_if_success (with_reducible show wpAny _ _ (binaryOp _ (Value.ref _) (Value.ref _)) _ _ _)); (fail_if_success (with_reducible show wpAny _ _ (call (Value.builtin "list.extend") _) _ _ _)); (first | (k_unfold; (try dsimp only)) | (first | ((k_here; (with_reducible show wpAny _ _ (call (Value.ref 236) _) _ _ _); k_dflt (refine' u_cmpK ?k1 ?k2 ?k3 ?k4 ?k5 ?k6 ?k7 ?_; (case k1 => k_asm); (case k2 => k_asm); (case k3 => assumption); (case k4 => assumption); (case k5 => exact rfl); (case k6 => decide); (case k7 => decide)); intro t' h' tk' hk' F' N'; (try k_sweep))) | walk1) | (dsimp only; (first | ((k_here; (with_reducible show wpAny _ _ (call (Value.ref 236) _) _ _ _); k_dflt (refine' u_cmpK ?k1 ?k2 ?k3 ?k4 ?k5 ?k6 ?k7 ?_; (case k1 => k_asm); (case k2 => k_asm); (case k3 => assumption); (case k4 => assumption); (case k5 => exact rfl); (case k6 => decide); (case k7 => decide)); intro t' h' tk' hk' F' N'; (try k_sweep))) | walk1)))))
        refine ⟨_, _, _, [(h12.objs.size, listOf (strValues l14).toArray 0), (R0, listOf (vs' ++ vv).toArray (n' + 1)), (140, tabObj tb2), (147, tabObj tc2)], _, rfl, F25, (fun q hq => N25 q (.tail _ hq)), ?_, rfl, _, _, rfl, ?_, rfl⟩
        · exact hoff
        · rw [htk, List.flatMap_append, List.flatMap_singleton]
          exact hvs.append' hvS
      · rintro m nw h15 tk15 gs15 E15 ⟨rfl, vs', n', rfl, hvs, hm⟩ F15 N15
        clear F14 N14
        obtain ⟨m3, rfl⟩ := as_if hm
        clear hm
        have hsz14 : (strValues l14).toArray.size = bs.length := by rw [List.size_toArray, hs14.length, List.length_map]
        rw [hsz14, List.take_length, hfmt] at hvs
        (repeat' (first | (fail_if_success (with_reducible show wpAny _ _ (exec (Stmt.For _ _ _ _ _) _) _ _ _)); (fail_if_success (with_reducible show wpAny _ _ (eval (PySem.Expr.ListComp _ _ _ _) _) _ _ _)); (fail_if_success (with_reducible show CompPack _)); (fail_if_success (with_reducible show wpAny _ _ (call (Value.builtin "str.join") _) _ _ _)); (fail_if_success (with_reducible show wpAny _ _ (call (Value.builtin "str.split") _) _ _ _)); (fail_if_success (with_reducible show wpAny _ _ (subscriptTail _ (PySem.Expr.Slice _ _ _ _) _ _) _ _ _)); (fail_if_success (with_reducible show wpAny _ _ (binaryOp _ (Value.ref _) (Value.ref _)) _ _ _)); (fail_if_success (with_reducible show wpAny _ _ (call (Value.builtin "list.extend") _) _ _ _)); (first | (k_unfold; (try dsimp only)) | (first | ((k_here; (with_reducible show wpAny _ _ (call (Value.ref 236) _) _ _ _); k_dflt (refine' u_cmpK ?k1 ?k2 ?k3 ?k4 ?k5 ?k6 ?k7 ?_; (case k1 => k_asm); (case k2 => k_asm); (case k3 => assumption); (case k4 => assumption); (case k5 => exact rfl); (case k6 => decide); (case k7 => decide)); intro t' h' tk' hk' F' N'; (try k_sweep))) | walk1) | (dsimp only; (first | ((k_here; (with_reducible show wpAny _ _ (call (Value.ref 236) _) _ _ _); k_dflt (refine' u_cmpK ?k1 ?k2 ?k3 ?k4 ?k5 ?k6 ?k7 ?_; (case k1 => k_asm); (case k2 => k_asm); (case k3 => assumption); (case k4 => assumption); (case k5 => exact rfl); (case k6 => decide); (case k7 => decide)); intro t' h' tk' hk' F' N'; (try k_sweep))) | walk1)))))
        have z := N15 _ (.tail _ (.head _))
        have hRs : s.heap.get? R0 = none := by
          cases e : s.heap.get? R0 with
          | none => rfl
          | some o => rw [hkeep _ _ e (Nat.ne_of_gt hlt.2.2.2.2.2.1) (Nat.ne_of_gt hlt.2.2.2.2.2.2.1)] at z; exact absurd z.2.2 (by simp)
        exact hret _ _ _ _ (fun b o e h1 h2 => F15.keep _ _ (hkeep b o e h1 h2)) hRs z.1 hvs ⟨_, (N15 _ (.tail _ (.tail _ (.head _)))).1, ht12⟩ ⟨_, (N15 _ (.tail _ (.tail _ (.tail _ (.head _))))).1, ht12'⟩ hb12 rfl rfl
end
end Mine
end

section
-- Tu2
example : True := by w_top off; trivial
open PySem PySem.W PyProof.Rows PySem.Calls PySem.Spec
set_option maxRecDepth 100000
namespace Mine
theorem none_of2 {h g : Heap} {a b c : Addr} (hkeep : ∀ d o', h.get? d = some o' → d ≠ a → d ≠ b → g.get? d = some o') (h1 : c ≠ a) (h2 : c ≠ b) (hb : g.get? c = none) : h.get? c = none := by
  cases e : h.get? c with
  | none => rfl
  | some o' => rw [hkeep c o' e h1 h2] at hb; cases hb
section
variable {w : World} {p : Program} {loose : List Str} {mean : ExcName → Option Value} {mg mb : Str → Option Value} {G : Heap} {s : Shared} {Q E : Value → Shared → Prop}
set_option maxHeartbeats 1000000
theorem c_turned0 {lr : Addr} {row : Str} {trow : Tok} {width : Int} {tw : Tok} {tb tc : Array Value} (D : Gd w p loose mean mg mb G) (St : G.StaysIn s.heap) (hl : s.heap.IsList lr #[])
    (hP : s.heap.get? 140 = some (tabObj tb)) (htr : TriplesOk tb.toList) (hPG : G.get? 140 = none) (hP2 : s.heap.get? 147 = some (tabObj tc)) (htr2 : TriplesOk tc.toList) (hPG2 : G.get? 147 = none) (hbare : AllBare s.gens)
    (hret : ∀ s' R vs' n', (∀ b o, s.heap.get? b = some o → b ≠ 140 → b ≠ 147 → s'.heap.get? b = some o) → s.heap.get? R = none → s'.heap.get? R = some (listOf (List.toArray vs') n') → StrsAre vs' (turned lastZ [] row) → (∃ tb', s'.heap.get? 140 = some (tabObj tb') ∧ TriplesOk tb'.toList) → (∃ tc', s'.heap.get? 147 = some (tabObj tc') ∧ TriplesOk tc'.toList) →
      AllBare s'.gens → s'.drawn = s.drawn → s'.os = s.os → Q (.ref R) s') :
    wpAny (model Challenge.rw_oc0165_01.row.prog w) (Am 400 200) (call (.ref 260) [.ref lr, .str row trow, .int width tw]) Q E s := by
  have fill : (hd.heap_1 w.params).In G := D.X
  revert fill
  k_fill
  intro _
  refine wpAny_call ?_
  refine' enterC (binds := [("rows", .ref lr), ("row", .str row trow), ("width", .int width tw)]) [(140, tabObj tb), (147, tabObj tc)] D St ?k3 ?k4 ?k6 ?k7 ?k8 ?k9 ?kB ?kD ?c2 ?c3 ?c4 ?_
  case k3 => rintro q (_ | ⟨_, _ | ⟨_, hq⟩⟩); (· exact hP); (· exact hP2); cases hq
  case k4 => rintro q (_ | ⟨_, _ | ⟨_, hq⟩⟩); (· exact hPG); (· exact hPG2); cases hq
  (((case k6 => k_is); (case k7 => k_is); (case k8 => decide)))
  case k9 => exact BindsTo.of_eq rfl
  case kB => exact rfl
  case kD => decide +kernel
  case c2 => exact rfl
  case c3 => exact rfl
  case c4 => exact rfl
  intro g L h tk cells hg hL F N Y X T l1 hkeep hst
  obtain ⟨o1, o2, hE, d1, d2⟩ := CellsAre.two Y
  subst hE
  clear Y
  simp only [List.cons_append, List.nil_append] at N
  replace hkeep : ∀ b o, s.heap.get? b = some o → b ≠ 140 → b ≠ 147 → g.get? b = some o := fun b o e hb hb2 => hkeep b o e (by rintro q (_ | ⟨_, _ | ⟨_, hq⟩⟩); (· exact hb.symm); (· exact hb2.symm); cases hq)
  have hlg : g.IsList lr #[] := by
    obtain ⟨o, ho, hc, r⟩ := hl
    exact ⟨o, hkeep _ _ ho (ne_cls ho hP (by simp [hc])) (ne_cls ho hP2 (by simp [hc])), hc, r⟩
  obtain ⟨m0, F0⟩ := fr_if2 (x1 := "rows") (x2 := "width") (v1 := .ref lr) (v2 := .int width tw) F rfl rfl
  clear F
  dsimp only
  try k_fold
  (repeat' (first | (fail_if_success (with_reducible show wpAny _ _ (exec (Stmt.For _ _ _ _ _) _) _ _ _)); (first | (k_unfold; (try dsimp only)) | walk1 | (dsimp only; walk1))))
  rename Fr _ _ _ _ => F1
  rename News _ _ _ _ => N1
  try (refine PySem.EqBoolInt.of_rc (SeqAt.RcAt.lists (e := fun _ => true) (hlg.at fun o e => F1.keep _ _ e) (PySem.IsL.isList (n := 0) (N1 _ (.head _)).1) rfl (by decide) (fun j h1 => absurd h1 (Nat.not_lt_zero _))) ?_)
  (repeat' (first | (fail_if_success (with_reducible show wpAny _ _ (exec (Stmt.For _ _ _ _ _) _) _ _ _)); (first | (k_unfold; (try dsimp only)) | walk1 | (dsimp only; walk1))))
  all_goals (rename Fr _ _ _ _ => F2)
  all_goals (rename News _ _ _ _ => N2)
  have z := N2 _ (.head _)
  rename _ < _ ∧ _ ∧ _ ∧ 140 < _ ∧ 147 < _ => hlt
  have hRs : s.heap.get? _ = none := none_of2 hkeep (Nat.ne_of_gt hlt.2.2.2.1) (Nat.ne_of_gt hlt.2.2.2.2) z.2.2
  exact hret _ _ [] 0 (fun b o e h1 h2 => F2.keep _ _ (hkeep b o e h1 h2)) hRs z.1 .nil ⟨tb, (N2 (140, tabObj tb) (by simp)).1, htr⟩ ⟨tc, (N2 (147, tabObj tc) (by simp)).1, htr2⟩ hbare rfl rfl
end
section
variable {w : World} {p : Program} {loose : List Str} {mean : ExcName → Option Value} {mg mb : Str → Option Value} {G g : Heap} {L : Addr} {m : Str → Option Value} {rest : List (Addr × Obj)} {A : Around} {s : Shared} {Q E : Value → Shared → Prop}
theorem u_turned {lr : Addr} {vs : List Value} {rs : List Str} {row : Str} {trow : Tok} {width : Int} {tw : Tok} {tb tc : Array Value} (F : Fr g L s.heap m) (N : News g L s.heap ((140, tabObj tb) :: (147, tabObj tc) :: rest)) (hoff : ∀ q ∈ rest, q.1 ≠ 140 ∧ q.1 ≠ 147) (D : Gd w p loose mean mg mb G) (hs : G.StaysIn g) (hh : A.handled = none) (hdp : A.depth ≤ 400) (hu : A.units ≤ 200)
    (hl : s.heap.IsList lr vs.toArray) (hi : StrsAre vs rs) (hn : rs.length ≤ 10) (hrow : RowOk row) (hrl : ∀ y ∈ rs, RowOk y) (hw0 : 0 ≤ width) (hw : width ≤ 23) (htr : TriplesOk tb.toList) (htr2 : TriplesOk tc.toList) (hbare : AllBare s.gens)
    (k : ∀ h' gs' tk' R vs' n' tb' tc', Fr g L h' m → News g L h' ((R, listOf (List.toArray vs') n') :: (140, tabObj tb') :: (147, tabObj tc') :: rest) → (∀ q ∈ ((140, tabObj tb') :: (147, tabObj tc') :: rest), q.1 ≠ R) → StrsAre vs' (turned lastZ rs row) → TriplesOk tb'.toList → TriplesOk tc'.toList → AllBare gs' → Q (.ref R) ⟨h', gs', s.drawn, tk', s.os⟩) :
    wpAny (model Challenge.rw_oc0165_01.row.prog w) A (call (.ref 260) [.ref lr, .str row trow, .int width tw]) Q E s := by
  have hG : ∀ b, g.get? b = none → G.get? b = none := fun b e => by
    cases e2 : G.get? b with
    | none => rfl
    | some o => rw [hs b o e2] at e; cases e
  have z1 := N _ (.head _)
  have z2 := N _ (.tail _ (.head _))
  have fin : ∀ s' R vs' n', (∀ b o, s.heap.get? b = some o → b ≠ 140 → b ≠ 147 → s'.heap.get? b = some o) → s.heap.get? R = none → s'.heap.get? R = some (listOf (List.toArray vs') n') → StrsAre vs' (turned lastZ rs row) → (∃ tb', s'.heap.get? 140 = some (tabObj tb') ∧ TriplesOk tb'.toList) → (∃ tc', s'.heap.get? 147 = some (tabObj tc') ∧ TriplesOk tc'.toList) →
      AllBare s'.gens → s'.drawn = s.drawn → s'.os = s.os → Q (.ref R) s' := by
    rintro ⟨h', gs', dr', tk', os'⟩ R vs' n' hk hR hR' hvs ⟨tb', hP, ht⟩ ⟨tc', hP2, ht2⟩ hb hdr hos
    dsimp only at hk hR' hP hP2 hb hdr hos
    subst hdr hos
    obtain ⟨oL, es, ep, hoL, r⟩ := F.ns
    have F' : Fr g L h' m := ⟨⟨oL, es, ep, hk _ _ hoL (Ne.symm z1.2.1) (Ne.symm z2.2.1), r⟩, fun b o e => hk b o (F.keep b o e) (fun q => by rw [q, z1.2.2] at e; cases e) (fun q => by rw [q, z2.2.2] at e; cases e), F.above⟩
    have fz : R ≠ L ∧ g.get? R = none := by
      constructor
      · rintro rfl; rw [hoL] at hR; cases hR
      · cases e2 : g.get? R with
        | none => rfl
        | some o => rw [F.keep R o e2] at hR; cases hR
    refine k h' gs' tk' R vs' n' tb' tc' F' ?_ (fun q hq e => ?_) hvs ht ht2 hb
    · rintro q (_ | ⟨_, _ | ⟨_, _ | ⟨_, hq⟩⟩⟩)
      · exact ⟨hR', fz⟩
      · exact ⟨hP, z1.2⟩
      · exact ⟨hP2, z2.2⟩
      · have z := N q (.tail _ (.tail _ hq))
        exact ⟨hk _ _ z.1 (hoff q hq).1 (hoff q hq).2, z.2⟩
    · have alive : ∃ o, s.heap.get? q.1 = some o := by
        rcases List.mem_cons.mp hq with rfl | hq
        · exact ⟨_, z1.1⟩
        · rcases List.mem_cons.mp hq with rfl | hq
          · exact ⟨_, z2.1⟩
          · exact ⟨_, (N q (.tail _ (.tail _ hq))).1⟩
      obtain ⟨o, ho⟩ := alive
      rw [e, hR] at ho; cases ho
  refine wp_up hh hdp hu ?_
  by_cases hne : rs = []
  · subst hne
    cases hi
    exact c_turned0 D (stays_fr F hs) hl z1.1 htr (hG _ z1.2.2) z2.1 htr2 (hG _ z2.2.2) hbare fin
  · exact c_turned D (stays_fr F hs) hl hi hn hne hrow hrl hw0 hw z1.1 htr (hG _ z1.2.2) z2.1 htr2 (hG _ z2.2.2) hbare fin
end
end Mine
end

section
-- Made
example : True := by w_top off; trivial
open PySem PySem.W PyProof.Rows PySem.Calls PySem.Spec
set_option maxRecDepth 100000
namespace Mine
theorem add_listsC {prog : Program} {w : World} {A : Around} {E : Value → Shared → Prop} {s : Shared} {g : Heap} {L : Addr} {m : Str → Option Value} {news : List (Addr × Obj)} {l b : Addr} {vs ws : List Value} {Q : Value → Shared → Prop} (F : Fr g L s.heap m) (N : News g L s.heap news) (hl : s.heap.IsList l vs.toArray) (hb : s.heap.IsList b ws.toArray)
    (hsz : vs.length + ws.length ≤ sizeLine) (h : ∀ C h', Fr g L h' m → News g L h' ((C, listOf (vs ++ ws).toArray 0) :: news) → (∀ p ∈ news, p.1 < C) → Q (.ref C) { s with heap := h' }) :
    wpAny (model prog w) A (binaryOp .Add (.ref l) (.ref b)) Q E s :=
  add_lists F N hl hb (fun h' F' N' => h _ h' F' N' fun p hp => Heap.lt_size (N p hp).1) hsz
/-- what holds between the turns -/
inductive MadeInv (rs : List Str) (width : Int) (tw : Tok) (k : Nat) (m : Str → Option Value) (nw : List (Addr × Obj)) (gs : Array GenState) : Prop
  | mk (hb : AllBare gs) (M : Addr) (vs' : List Value) (n' : Nat) (tb' tc' : Array Value) (e : nw = [(140, tabObj tb'), (147, tabObj tc'), (M, listOf (List.toArray (vs' : List Value)) n')]) (h1 : M ≠ 140) (h2 : M ≠ 147) (hs : StrsAre vs' (made lastZ (rs.take k))) (t1 : TriplesOk tb'.toList) (t2 : TriplesOk tc'.toList) (hm : m "made" = some (.ref M)) (hw : m "width" = some (.int width tw))
section
variable {w : World} {p : Program} {loose : List Str} {mean : ExcName → Option Value} {mg mb : Str → Option Value} {G : Heap} {s : Shared} {Q E : Value → Shared → Prop}
set_option maxHeartbeats 1000000
theorem c_made {lr : Addr} {vs : List Value} {rs : List Str} {width : Int} {tw : Tok} {tb tc : Array Value} (D : Gd w p loose mean mg mb G) (St : G.StaysIn s.heap) (hl : s.heap.IsList lr vs.toArray) (hi : StrsAre vs rs) (hn : rs.length ≤ 10) (hrl : ∀ y ∈ rs, RowOk y) (hw0 : 0 ≤ width) (hw : width ≤ 23)
    (hP : s.heap.get? 140 = some (tabObj tb)) (htr : TriplesOk tb.toList) (hPG : G.get? 140 = none) (hP2 : s.heap.get? 147 = some (tabObj tc)) (htr2 : TriplesOk tc.toList) (hPG2 : G.get? 147 = none) (hbare : AllBare s.gens)
    (hret : ∀ s' R vs' n', (∀ b o, s.heap.get? b = some o → b ≠ 140 → b ≠ 147 → s'.heap.get? b = some o) → s.heap.get? R = none → s'.heap.get? R = some (listOf (List.toArray vs') n') → StrsAre vs' (made lastZ rs) → (∃ tb', s'.heap.get? 140 = some (tabObj tb') ∧ TriplesOk tb'.toList) → (∃ tc', s'.heap.get? 147 = some (tabObj tc') ∧ TriplesOk tc'.toList) →
      AllBare s'.gens → s'.drawn = s.drawn → s'.os = s.os → Q (.ref R) s') :
    wpAny (model Challenge.rw_oc0165_01.row.prog w) (Am 350 100) (call (.ref 267) [.ref lr, .int width tw]) Q E s := by
  have fill : (hd.heap_1 w.params).In G := D.X
  revert fill
  k_fill
  intro _
  refine wpAny_call ?_
  refine' enterP (binds := [("rows", .ref lr), ("width", .int width tw)]) [(140, tabObj tb), (147, tabObj tc)] D St ?k3 ?k4 ?k6 ?k7 ?k8 ?k9 ?kB ?c5 ?c2 ?c3 ?c4 ?_
  case k3 => rintro q (_ | ⟨_, _ | ⟨_, hq⟩⟩); (· exact hP); (· exact hP2); cases hq
  case k4 => rintro q (_ | ⟨_, _ | ⟨_, hq⟩⟩); (· exact hPG); (· exact hPG2); cases hq
  (((case k6 => k_is); (case k7 => k_is); (case k8 => decide)))
  case k9 => exact BindsTo.of_eq rfl
  (((case kB => exact locs rfl); (case c5 => decide); (case c2 => exact rfl); (case c3 => exact rfl); (case c4 => exact rfl)))
  intro g L h hg hL F N X T l1 hkeep hst
  replace hkeep : ∀ b o, s.heap.get? b = some o → b ≠ 140 → b ≠ 147 → g.get? b = some o := fun b o e hb hb2 => hkeep b o e (by rintro q (_ | ⟨_, _ | ⟨_, hq⟩⟩); (· exact hb.symm); (· exact hb2.symm); cases hq)
  have hlg : g.IsList lr vs.toArray := by
    obtain ⟨o, ho, hc, r⟩ := hl
    exact ⟨o, hkeep _ _ ho (ne_cls ho hP (by simp [hc])) (ne_cls ho hP2 (by simp [hc])), hc, r⟩
  dsimp only
  try k_fold
  (repeat' (first | (fail_if_success (with_reducible show wpAny _ _ (exec (Stmt.For _ _ _ _ _) _) _ _ _)); (fail_if_success (with_reducible show wpAny _ _ (exec (Stmt.While _ _ _ _) _) _ _ _)); (fail_if_success (with_reducible show wpAny _ _ (eval (PySem.Expr.ListComp _ _ _ _) _) _ _ _)); (fail_if_success (with_reducible show CompPack _)); (fail_if_success (with_reducible show wpAny _ _ (call (Value.builtin "str.join") _) _ _ _)); (fail_if_success (with_reducible show wpAny _ _ (call (Value.builtin "str.split") _) _ _ _)); (fail_if_success (with_reducible show wpAny _ _ (subscriptTail _ (PySem.Expr.Slice _ _ _ _) _ _) _ _ _)); (fail_if_success (with_reducible show wpAny _ _ (binaryOp _ (Value.ref _) (Value.ref _)) _ _ _)); (fail_if_success (with_reducible show wpAny _ _ (call (Value.builtin "list.extend") _) _ _ _)); (fail_if_success (with_reducible show wpAny _ _ (call (Value.builtin "list.append") _) _ _ _)); (fail_if_success (with_reducible show wpAny _ _ (compareOp _ (Value.ref _) (Value.ref _)) _ _ _)); (first | (k_unfold; (try dsimp only)) | walk1 | (dsimp only; walk1))))
  refine wpAny_For ?_ (fun _ => rfl)
  (repeat' (first | (fail_if_success (with_reducible show wpAny _ _ (exec (Stmt.For _ _ _ _ _) _) _ _ _)); (fail_if_success (with_reducible show wpAny _ _ (exec (Stmt.While _ _ _ _) _) _ _ _)); (fail_if_success (with_reducible show wpAny _ _ (eval (PySem.Expr.ListComp _ _ _ _) _) _ _ _)); (fail_if_success (with_reducible show CompPack _)); (fail_if_success (with_reducible show wpAny _ _ (call (Value.builtin "str.join") _) _ _ _)); (fail_if_success (with_reducible show wpAny _ _ (call (Value.builtin "str.split") _) _ _ _)); (fail_if_success (with_reducible show wpAny _ _ (subscriptTail _ (PySem.Expr.Slice _ _ _ _) _ _) _ _ _)); (fail_if_success (with_reducible show wpAny _ _ (binaryOp _ (Value.ref _) (Value.ref _)) _ _ _)); (fail_if_success (with_reducible show wpAny _ _ (call (Value.builtin "list.extend") _) _ _ _)); (fail_if_success (with_reducible show wpAny _ _ (call (Value.builtin "list.append") _) _ _ _)); (fail_if_success (with_reducible show wpAny _ _ (compareOp _ (Value.ref _) (Value.ref _)) _ _ _)); (first | (k_unfold; (try dsimp only)) | walk1 | (dsimp only; walk1))))
  rename Fr _ _ _ _ => F1
  rename News _ _ _ _ => N1
  rename _ < _ ∧ _ => hlt
  rename_i M0 _ _
  have N1' : News g L _ [(140, tabObj tb), (147, tabObj tc), (M0, listOf (List.toArray ([] : List Value)) 0)] := fun q hq => N1 q (by
    rcases hq with _ | ⟨_, _ | ⟨_, _ | ⟨_, hq⟩⟩⟩
    · exact .tail _ (.head _)
    · exact .tail _ (.tail _ (.head _))
    · exact .head _
    · cases hq)
  refine for_listB (items := vs.toArray) (MadeInv rs width tw) rfl hlg F1 N1' ⟨hbare, M0, [], 0, tb, tc, rfl, Nat.ne_of_gt hlt.1, Nat.ne_of_gt hlt.2, .nil, htr, htr2, rfl, rfl⟩ rfl rfl ?_ ?_
  · rintro i v m nw h2 tk2 gs2 own E2 hv ⟨hb2, M, vs', n', tb', tc', rfl, hM1, hM2, hvs, ht1, ht2, hm1, hm2⟩ hoff F2 N2
    clear F1 N1 N1'
    obtain ⟨m2, rfl⟩ := as_if2 hm1 hm2
    clear hm1 hm2
    dsimp only at F2
    obtain ⟨y, ty, rfl, hy⟩ := strs_item hi (show vs[i]? = some v by simpa using hv)
    have hyr : y ∈ rs := List.mem_of_getElem? hy
    have htk : rs.take (i + 1) = rs.take i ++ [y] := by rw [List.take_add_one, hy]; rfl
    have hmem : ∀ z ∈ made lastZ (rs.take i), RowOk z := fun z hz => hrl z (List.mem_of_mem_take ((made_perm lastZ _).mem_iff.mp hz))
    have hml : (made lastZ (rs.take i)).length ≤ 10 := by rw [made_length, List.length_take]; (first | lia | omega)
    replace N2 : News g L h2 ((140, tabObj tb') :: (147, tabObj tc') :: (M, listOf vs'.toArray n') :: own) := N2
    (repeat' (first | (fail_if_success (with_reducible show wpAny _ _ (exec (Stmt.For _ _ _ _ _) _) _ _ _)); (fail_if_success (with_reducible show wpAny _ _ (exec (Stmt.While _ _ _ _) _) _ _ _)); (fail_if_success (with_reducible show wpAny _ _ (eval (PySem.Expr.ListComp _ _ _ _) _) _ _ _)); (fail_if_success (with_reducible show CompPack _)); (fail_if_success (with_reducible show wpAny _ _ (call (Value.builtin "str.join") _) _ _ _)); (fail_if_success (with_reducible show wpAny _ _ (call (Value.builtin "str.split") _) _ _ _)); (fail_if_success (with_reducible show wpAny _ _ (subscriptTail _ (PySem.Expr.Slice _ _ _ _) _ _) _ _ _)); (fail_if_success (with_reducible show wpAny _ _ (binaryOp _ (Value.ref _) (Value.ref _)) _ _ _)); (fail_if_success (with_reducible show wpAny _ _ (call (Value.builtin "list.extend") _) _ _ _)); (fail_if_success (with_reducible show wpAny _ _ (call (Value.builtin "list.append") _) _ _ _)); (fail_if_success (with_reducible show wpAny _ _ (compareOp _ (Value.ref _) (Value.ref _)) _ _ _)); (first | (k_unfold; (try dsimp only)) | walk1 | (dsimp only; walk1))))
    rename Fr _ _ _ _ => F3
    rename News _ _ _ _ => N3
    refine u_turned F3 N3 ?off D hst rfl (by decide) (by decide) (News.isList N3 (.tail _ (.tail _ (.head _)))) hvs hml (hrl y hyr) hmem hw0 hw ht1 ht2 hb2 ?_
    case off =>
      intro q hq
      rcases List.mem_cons.mp hq with rfl | hq
      · exact ⟨hM1, hM2⟩
      · exact ⟨fun e => hoff q hq 140 (.head _) e, fun e => hoff q hq 147 (.tail _ (.head _)) e⟩
    intro h4 gs4 tk4 R vs4 n4 tb4 tc4 F4 N4 hR4 hvs4 ht4 ht4' hb4
    clear F3 N3
    have hvl4 : vs4.length ≤ 10 := by rw [hvs4.length, turned_length]; exact hml
    (repeat' (first | (fail_if_success (with_reducible show wpAny _ _ (exec (Stmt.For _ _ _ _ _) _) _ _ _)); (fail_if_success (with_reducible show wpAny _ _ (exec (Stmt.While _ _ _ _) _) _ _ _)); (fail_if_success (with_reducible show wpAny _ _ (eval (PySem.Expr.ListComp _ _ _ _) _) _ _ _)); (fail_if_success (with_reducible show CompPack _)); (fail_if_success (with_reducible show wpAny _ _ (call (Value.builtin "str.join") _) _ _ _)); (fail_if_success (with_reducible show wpAny _ _ (call (Value.builtin "str.split") _) _ _ _)); (fail_if_success (with_reducible show wpAny _ _ (subscriptTail _ (PySem.Expr.Slice _ _ _ _) _ _) _ _ _)); (fail_if_success (with_reducible show wpAny _ _ (binaryOp _ (Value.ref _) (Value.ref _)) _ _ _)); (fail_if_success (with_reducible show wpAny _ _ (call (Value.builtin "list.extend") _) _ _ _)); (fail_if_success (with_reducible show wpAny _ _ (call (Value.builtin "list.append") _) _ _ _)); (fail_if_success (with_reducible show wpAny _ _ (compareOp _ (Value.ref _) (Value.ref _)) _ _ _)); (first | (k_unfold; (try dsimp only)) | walk1 | (dsimp only; walk1))))
    rename Fr _ _ _ _ => F5
    rename News _ _ _ _ => N5
    refine add_listsC (ws := [Value.str y ty]) F5 N5 (News.isList N5 (.tail _ (.head _))) (News.isList N5 (.head _)) (by rw [sizeLine_eq]; simp; (first | lia | omega)) ?_
    intro C h6 F6 N6 hC
    clear F5 N5
    have hC140 := hC (140, tabObj tb4) (by repeat' (first | exact List.Mem.head _ | refine List.Mem.tail _ ?_))
    have hC147 := hC (147, tabObj tc4) (by repeat' (first | exact List.Mem.head _ | refine List.Mem.tail _ ?_))
    dsimp only at hC140 hC147
    (repeat' (first | (fail_if_success (with_reducible show wpAny _ _ (exec (Stmt.For _ _ _ _ _) _) _ _ _)); (fail_if_success (with_reducible show wpAny _ _ (exec (Stmt.While _ _ _ _) _) _ _ _)); (fail_if_success (with_reducible show wpAny _ _ (eval (PySem.Expr.ListComp _ _ _ _) _) _ _ _)); (fail_if_success (with_reducible show CompPack _)); (fail_if_success (with_reducible show wpAny _ _ (call (Value.builtin "str.join") _) _ _ _)); (fail_if_success (with_reducible show wpAny _ _ (call (Value.builtin "str.split") _) _ _ _)); (fail_if_success (with_reducible show wpAny _ _ (subscriptTail _ (PySem.Expr.Slice _ _ _ _) _ _) _ _ _)); (fail_if_success (with_reducible show wpAny _ _ (binaryOp _ (Value.ref _) (Value.ref _)) _ _ _)); (fail_if_success (with_reducible show wpAny _ _ (call (Value.builtin "list.extend") _) _ _ _)); (fail_if_success (with_reducible show wpAny _ _ (call (Value.builtin "list.append") _) _ _ _)); (fail_if_success (with_reducible show wpAny _ _ (compareOp _ (Value.ref _) (Value.ref _)) _ _ _)); (first | (k_unfold; (try dsimp only)) | walk1 | (dsimp only; walk1))))
    rename Fr _ _ _ _ => F7
    rename News _ _ _ _ => N7
    refine ⟨_, _, _, [(140, tabObj tb4), (147, tabObj tc4), (C, listOf (vs4 ++ [Value.str y ty]).toArray 0)], _, rfl, F7, ?_, ?_, hb4, C, _, _, _, _, rfl, Nat.ne_of_gt hC140, Nat.ne_of_gt hC147, ?_, ht4, ht4', rfl, rfl⟩
    · intro q hq
      refine N7 q ?_
      rcases hq with _ | ⟨_, _ | ⟨_, _ | ⟨_, hq⟩⟩⟩
      · repeat' (first | exact List.Mem.head _ | refine List.Mem.tail _ ?_)
      · repeat' (first | exact List.Mem.head _ | refine List.Mem.tail _ ?_)
      · exact .head _
      · exact .tail _ (.tail _ (.tail _ (.tail _ (.tail _ (.tail _ hq)))))
    · intro q hq b hb e
      rcases hb with _ | ⟨_, _ | ⟨_, _ | ⟨_, hb⟩⟩⟩
      · exact hoff q hq 140 (.head _) e
      · exact hoff q hq 147 (.tail _ (.head _)) e
      · exact Nat.ne_of_lt (hC q (.tail _ (.tail _ (.tail _ (.tail _ (.tail _ hq)))))) e
      · cases hb
    · rw [htk, made_snoc]
      exact strs_push hvs4
  · rintro m nw h2 tk2 gs2 E2 ⟨hb2, M, vs', n', tb', tc', rfl, hM1, hM2, hvs, ht1, ht2, hm1, hm2⟩ F2 N2
    clear F1 N1 N1'
    obtain ⟨m2, rfl⟩ := as_if2 hm1 hm2
    clear hm1 hm2
    rw [show vs.toArray.size = rs.length by have := hi.length; simp; (first | lia | omega), List.take_length] at hvs
    (repeat' (first | (fail_if_success (with_reducible show wpAny _ _ (exec (Stmt.For _ _ _ _ _) _) _ _ _)); (fail_if_success (with_reducible show wpAny _ _ (exec (Stmt.While _ _ _ _) _) _ _ _)); (fail_if_success (with_reducible show wpAny _ _ (eval (PySem.Expr.ListComp _ _ _ _) _) _ _ _)); (fail_if_success (with_reducible show CompPack _)); (fail_if_success (with_reducible show wpAny _ _ (call (Value.builtin "str.join") _) _ _ _)); (fail_if_success (with_reducible show wpAny _ _ (call (Value.builtin "str.split") _) _ _ _)); (fail_if_success (with_reducible show wpAny _ _ (subscriptTail _ (PySem.Expr.Slice _ _ _ _) _ _) _ _ _)); (fail_if_success (with_reducible show wpAny _ _ (binaryOp _ (Value.ref _) (Value.ref _)) _ _ _)); (fail_if_success (with_reducible show wpAny _ _ (call (Value.builtin "list.extend") _) _ _ _)); (fail_if_success (with_reducible show wpAny _ _ (call (Value.builtin "list.append") _) _ _ _)); (fail_if_success (with_reducible show wpAny _ _ (compareOp _ (Value.ref _) (Value.ref _)) _ _ _)); (first | (k_unfold; (try dsimp only)) | walk1 | (dsimp only; walk1))))
    have z := N2 _ (.tail _ (.tail _ (.head _)))
    exact hret _ _ _ _ (fun b o e h1 h2 => F2.keep _ _ (hkeep b o e h1 h2)) (none_of2 hkeep hM1 hM2 z.2.2) z.1 hvs ⟨_, (N2 _ (.head _)).1, ht1⟩ ⟨_, (N2 _ (.tail _ (.head _))).1, ht2⟩ hb2 rfl rfl
end
end Mine
end

section
-- Back
example : True := by w_top off; trivial
open PySem PySem.W PyProof.Rows PySem.Calls PySem.Spec
set_option maxRecDepth 100000
namespace Mine
theorem tail_list {prog : Program} {w : World} {A : Around} {E : Value → Shared → Prop} {s : Shared} {value slice : Expr} {o i : Value} {T id : String} {ops : List Value} {Q : Value → Shared → Prop} (hT : s.TypeIs o T)
    (hl : typeLookup (.type T) "__getitem__" = pure (some (.builtin id))) (h : wpAny (model prog w) A (getItem o i) Q E s)
    (hs : subscripted slice false o i = operate ops (getItem o i)) : wpAny (model prog w) A (subscriptTail value slice o i) Q E s := by
  unfold subscriptTail
  refine wpAny_bind ?_
  rw [getitemInPython_of_ne hT.not_modules]
  refine wpAny_bind (wpAny_specialOf hT hl ?_)
  have fin : wpAny (model prog w) A (subscripted slice false o i) (fun r s₃ => wpAny (model prog w) A (letTemporaryGo value o r >>= fun _ => pure r) Q E s₃) E s := by
    rw [hs]
    exact wpAny_operating (wpAny_mono h (fun r s₃ h₃ => wpAny_bind (wpAny_letTemporaryGo (wpAny_pure h₃))) fun _ _ x => x)
  first
    | exact wpAny_pure (wpAny_bind fin)
    | exact wpAny_bind (wpAny_pure (wpAny_bind fin))
    | exact wpAny_bind fin
/-- a slice of a list, whatever expression gives the list -/
theorem slice_any {prog : Program} {w : World} {A : Around} {E : Value → Shared → Prop} {s : Shared} {g : Heap} {L l : Addr} {m : Str → Option Value} {news : List (Addr × Obj)} {value slice : PySem.Expr} {its : Array Value} {zs : List Value} {vl vu vk : Value} {lo hi st : Option Int} {ops : List Value} {Q : Value → Shared → Prop}
    (F : Fr g L s.heap m) (N : News g L s.heap news) (hl : s.heap.IsList l its) (pl : IsPart vl lo) (pu : IsPart vu hi) (pk : IsPart vk st) (h0 : st ≠ some 0) (e : (slicePick its lo hi st).toList = zs)
    (h : ∀ D h', Fr g L h' m → News g L h' ((D, listOf zs.toArray 0) :: news) → (∀ p ∈ news, p.1 < D) → Q (.ref D) { s with heap := h' })
    (hs : subscripted slice false (.ref l) (.ref s.heap.objs.size) = operate ops (getItem (.ref l) (.ref s.heap.objs.size))) (hsz : its.size ≤ sizeLine) :
    wpAny (model prog w) A (subscriptTail value slice (.ref l) (.ref s.heap.objs.size)) Q E { s with heap := s.heap.push { cls := .type "slice", data := .fields #[vl, vu, vk] } } := by
  refine tail_list (Heap.IsList.typeIs (s := { s with heap := s.heap.push { cls := .type "slice", data := .fields #[vl, vu, vk] } }) (hl.push _)) list_getitem_lookup
    (wpAny_getItem_list_slice (hl.push _) (Heap.IsSliceOf.new ..) pl pu pk h0 ?_ hsz) hs
  have N1 := News.push (F.push { cls := .type "slice", data := .fields #[vl, vu, vk] }) (N.grown fun _ _ e => Heap.get?_push_of_some _ e) { cls := .type "list", data := .seq (slicePick its lo hi st) }
  have F1 := (F.push { cls := .type "slice", data := .fields #[vl, vu, vk] }).push { cls := .type "list", data := .seq (slicePick its lo hi st) }
  have e2 : slicePick its lo hi st = zs.toArray := by rw [← e]
  refine h _ _ F1 (by rw [← e2]; exact N1) fun p hp => ?_
  rw [Heap.size_push]
  exact Nat.lt_succ_of_lt (Heap.lt_size (N p hp).1)
noncomputable def Down (I : Nat → Shared → Prop) (n : Nat) (s : Shared) : Prop := ∃ m, m < n ∧ I m s
theorem whileD {prog : Program} {w : World} {A : Around} {R : Result → Shared → Prop} {s : Shared} {test body orelse env} (I : Nat → Shared → Prop)
    (turn : ∀ n s, I n s →
      wpAny (model prog w) A (isTrue test env (eval test env)) (fun b s₂ =>
        if b then wpAny (model prog w) A (execs body env) (fun f s₃ => match f with
            | .next => Down I n s₃
            | .cont => Down I n s₃
            | .brk => R (.ok .next) s₃
            | .ret v => R (.ok (.ret v)) s₃) (notedBy (model prog w) A env fun e s' => R (.error e) s') s₂
        else wpAny (model prog w) A (execs orelse env) (fun f s₃ => R (.ok f) s₃) (notedBy (model prog w) A env fun e s' => R (.error e) s') s₂)
        (notedBy (model prog w) A env fun e s' => R (.error e) s') s)
    (n : Nat) (h : I n s) : codeAny (model prog w) A (.whileLoop test body orelse env) R s := by
  refine codeAny_whileLoop I (fun n s hI => wpAny_mono (turn n s hI) (fun b s₂ hb => ?_) fun _ _ x => x) n h
  cases b with
  | false => exact hb
  | true =>
    refine wpAny_mono hb (fun f s₃ hf => ?_) fun _ _ x => x
    cases f <;> exact hf
theorem strs_reverse : ∀ {vs : List Value} {ss : List Str}, StrsAre vs ss → StrsAre vs.reverse ss.reverse
  | _, _, .nil => .nil
  | _, _, .cons x t r => by rw [List.reverse_cons, List.reverse_cons]; exact (strs_reverse r).append' (.cons x t .nil)
/-- what holds between the turns of the way back -/
inductive BackInv (s : Shared) (g : Heap) (L : Addr) (width : Int) (tw : Tok) (rs : List Str) (n : Nat) (s' : Shared) : Prop
  | mk (h : Heap) (gs : Array GenState) (tk : Nat) (m : Str → Option Value) (lf R : Addr) (vsl : List Value) (ls : List Str) (vsr : List Value) (rr : List Str) (nr : Nat) (tb' tc' : Array Value) (ex : List (Addr × Obj)) (e : s' = ⟨h, gs, s.drawn, tk, s.os⟩) (F : Fr g L h m) (N : News g L h ((140, tabObj tb') :: (147, tabObj tc') :: (R, listOf (List.toArray vsr) nr) :: ex)) (r1 : R ≠ 140) (r2 : R ≠ 147) (hex : ∀ q ∈ ex, q.1 ≠ 140 ∧ q.1 ≠ 147 ∧ q.1 ≠ R)
    (hlf : ∀ h m o1 o2 o3 pre, Fr g L h m → News g L h (pre ++ (140, o1) :: (147, o2) :: (R, o3) :: ex) → h.IsList lf (List.toArray vsl)) (hls : StrsAre vsl ls) (hrr : StrsAre vsr rr) (hb : rr ++ (back lastZ ls).reverse = (back lastZ rs).reverse) (hok : ∀ y ∈ ls, RowOk y) (h10 : ls.length ≤ 10) (hr : rr.length ≤ 10 - ls.length) (hn : n = ls.length)
    (m1 : m "rows" = some (.ref R)) (m2 : m "left" = some (.ref lf)) (m3 : m "width" = some (.int width tw)) (hab : AllBare gs) (t1 : TriplesOk tb'.toList) (t2 : TriplesOk tc'.toList)
section
variable {w : World} {p : Program} {loose : List Str} {mean : ExcName → Option Value} {mg mb : Str → Option Value} {G : Heap} {s : Shared} {Q E : Value → Shared → Prop}
set_option maxHeartbeats 1000000
theorem c_back {lr : Addr} {vs : List Value} {rs : List Str} {width : Int} {tw : Tok} {tb tc : Array Value} (D : Gd w p loose mean mg mb G) (St : G.StaysIn s.heap) (hl : s.heap.IsList lr vs.toArray) (hi : StrsAre vs rs) (hn : rs.length ≤ 10) (hrl : ∀ y ∈ rs, RowOk y) (hw0 : 0 ≤ width) (hw : width ≤ 23)
    (hP : s.heap.get? 140 = some (tabObj tb)) (htr : TriplesOk tb.toList) (hPG : G.get? 140 = none) (hP2 : s.heap.get? 147 = some (tabObj tc)) (htr2 : TriplesOk tc.toList) (hPG2 : G.get? 147 = none) (hbare : AllBare s.gens)
    (hret : ∀ s' R vs' n', (∀ b o, s.heap.get? b = some o → b ≠ 140 → b ≠ 147 → s'.heap.get? b = some o) → s.heap.get? R = none → s'.heap.get? R = some (listOf (List.toArray vs') n') → StrsAre vs' (back lastZ rs) → (∃ tb', s'.heap.get? 140 = some (tabObj tb') ∧ TriplesOk tb'.toList) → (∃ tc', s'.heap.get? 147 = some (tabObj tc') ∧ TriplesOk tc'.toList) →
      AllBare s'.gens → s'.drawn = s.drawn → s'.os = s.os → Q (.ref R) s') :
    wpAny (model Challenge.rw_oc0165_01.row.prog w) (Am 350 100) (call (.ref 274) [.ref lr, .int width tw]) Q E s := by
  have fill : (hd.heap_1 w.params).In G := D.X
  revert fill
  k_fill
  intro _
  refine wpAny_call ?_
  refine' enterP (binds := [("made", .ref lr), ("width", .int width tw)]) [(140, tabObj tb), (147, tabObj tc)] D St ?k3 ?k4 ?k6 ?k7 ?k8 ?k9 ?kB ?c5 ?c2 ?c3 ?c4 ?_
  case k3 => rintro q (_ | ⟨_, _ | ⟨_, hq⟩⟩); (· exact hP); (· exact hP2); cases hq
  case k4 => rintro q (_ | ⟨_, _ | ⟨_, hq⟩⟩); (· exact hPG); (· exact hPG2); cases hq
  (((case k6 => k_is); (case k7 => k_is); (case k8 => decide)))
  case k9 => exact BindsTo.of_eq rfl
  (((case kB => exact locs rfl); (case c5 => decide); (case c2 => exact rfl); (case c3 => exact rfl); (case c4 => exact rfl)))
  intro g L h hg hL F N X T l1 hkeep hst
  replace hkeep : ∀ b o, s.heap.get? b = some o → b ≠ 140 → b ≠ 147 → g.get? b = some o := fun b o e hb hb2 => hkeep b o e (by rintro q (_ | ⟨_, _ | ⟨_, hq⟩⟩); (· exact hb.symm); (· exact hb2.symm); cases hq)
  have hlg : g.IsList lr vs.toArray := by
    obtain ⟨o, ho, hc, r⟩ := hl
    exact ⟨o, hkeep _ _ ho (ne_cls ho hP (by simp [hc])) (ne_cls ho hP2 (by simp [hc])), hc, r⟩
  dsimp only
  try k_fold
  (repeat' (first | (fail_if_success (with_reducible show wpAny _ _ (exec (Stmt.For _ _ _ _ _) _) _ _ _)); (fail_if_success (with_reducible show wpAny _ _ (exec (Stmt.While _ _ _ _) _) _ _ _)); (fail_if_success (with_reducible show wpAny _ _ (eval (PySem.Expr.ListComp _ _ _ _) _) _ _ _)); (fail_if_success (with_reducible show CompPack _)); (fail_if_success (with_reducible show wpAny _ _ (call (Value.builtin "str.join") _) _ _ _)); (fail_if_success (with_reducible show wpAny _ _ (call (Value.builtin "str.split") _) _ _ _)); (fail_if_success (with_reducible show wpAny _ _ (subscriptTail _ (PySem.Expr.Slice _ _ _ _) _ _) _ _ _)); (fail_if_success (with_reducible show wpAny _ _ (binaryOp _ (Value.ref _) (Value.ref _)) _ _ _)); (fail_if_success (with_reducible show wpAny _ _ (call (Value.builtin "list.extend") _) _ _ _)); (fail_if_success (with_reducible show wpAny _ _ (call (Value.builtin "list.append") _) _ _ _)); (fail_if_success (with_reducible show wpAny _ _ (compareOp _ (Value.ref _) (Value.ref _)) _ _ _)); (first | (k_unfold; (try dsimp only)) | walk1 | (dsimp only; walk1))))
  rename Fr _ _ _ _ => F1
  rename News _ _ _ _ => N1
  rename _ < _ ∧ _ => hlt
  rename_i R0 _ _ _
  have N1' : News g L _ [(140, tabObj tb), (147, tabObj tc), (R0, listOf (List.toArray ([] : List Value)) 0)] := fun q hq => N1 q (by
    rcases hq with _ | ⟨_, _ | ⟨_, _ | ⟨_, hq⟩⟩⟩
    · exact .tail _ (.head _)
    · exact .tail _ (.tail _ (.head _))
    · exact .head _
    · cases hq)
  refine wpAny_While ?_
  refine whileD (BackInv s g L width tw rs) ?_ rs.length ?_
  · rintro n s2 ⟨h2, gs2, tk2, m2, lf, R, vsl, ls, vsr, rr, nr, tb', tc', ex, rfl, F2, N2, hR1, hR2, hex, hlf, hls, hrr, hbk, hok, hl10, hr10, rfl, hm1, hm2, hm3, hb2, ht1, ht2⟩
    clear F1 N1 N1'
    obtain ⟨m3, rfl⟩ := as_if3 hm1 hm2 hm3
    clear hm1 hm2 hm3
    (repeat' (first | (fail_if_success (with_reducible show wpAny _ _ (exec (Stmt.For _ _ _ _ _) _) _ _ _)); (fail_if_success (with_reducible show wpAny _ _ (exec (Stmt.While _ _ _ _) _) _ _ _)); (fail_if_success (with_reducible show wpAny _ _ (eval (PySem.Expr.ListComp _ _ _ _) _) _ _ _)); (fail_if_success (with_reducible show CompPack _)); (fail_if_success (with_reducible show wpAny _ _ (call (Value.builtin "str.join") _) _ _ _)); (fail_if_success (with_reducible show wpAny _ _ (call (Value.builtin "str.split") _) _ _ _)); (fail_if_success (with_reducible show wpAny _ _ (subscriptTail _ (PySem.Expr.Slice _ _ _ _) _ _) _ _ _)); (fail_if_success (with_reducible show wpAny _ _ (binaryOp _ (Value.ref _) (Value.ref _)) _ _ _)); (fail_if_success (with_reducible show wpAny _ _ (call (Value.builtin "list.extend") _) _ _ _)); (fail_if_success (with_reducible show wpAny _ _ (call (Value.builtin "list.append") _) _ _ _)); (fail_if_success (with_reducible show wpAny _ _ (compareOp _ (Value.ref _) (Value.ref _)) _ _ _)); (first | (k_unfold; (try dsimp only)) | walk1 | (dsimp only; walk1))))
    rename Fr _ _ _ _ => F3
    rename News _ _ _ _ => N3
    rename _ < _ ∧ _ => hlt3
    have hL3 := hlf _ _ _ _ _ [_] F3 N3
    have hvl := hls.length
    by_cases hne : ls = []
    · subst hne
      cases hls
      refine PySem.EqBoolInt.of_rcne (SeqAt.RcNeAt.lists (e := fun _ => true) hL3 (PySem.IsL.isList (n := 0) (N3 _ (.head _)).1) rfl (by decide) (fun j h1 => absurd h1 (Nat.not_lt_zero _))) ?_
      have hrev : rr = (back lastZ rs).reverse := by simpa [back_nil] using hbk
      have hrl10 := hrr.length
      replace N3 : News g L _ ((140, tabObj tb') :: (147, tabObj tc') :: (R, listOf vsr.toArray nr) :: ex) := fun q hq => N3 q (.tail _ hq)
      clear hL3
      (repeat' (first | (fail_if_success (with_reducible show wpAny _ _ (exec (Stmt.For _ _ _ _ _) _) _ _ _)); (fail_if_success (with_reducible show wpAny _ _ (exec (Stmt.While _ _ _ _) _) _ _ _)); (fail_if_success (with_reducible show wpAny _ _ (eval (PySem.Expr.ListComp _ _ _ _) _) _ _ _)); (fail_if_success (with_reducible show CompPack _)); (fail_if_success (with_reducible show wpAny _ _ (call (Value.builtin "str.join") _) _ _ _)); (fail_if_success (with_reducible show wpAny _ _ (call (Value.builtin "str.split") _) _ _ _)); (fail_if_success (with_reducible show wpAny _ _ (subscriptTail _ (PySem.Expr.Slice _ _ _ _) _ _) _ _ _)); (fail_if_success (with_reducible show wpAny _ _ (binaryOp _ (Value.ref _) (Value.ref _)) _ _ _)); (fail_if_success (with_reducible show wpAny _ _ (call (Value.builtin "list.extend") _) _ _ _)); (fail_if_success (with_reducible show wpAny _ _ (call (Value.builtin "list.append") _) _ _ _)); (fail_if_success (with_reducible show wpAny _ _ (compareOp _ (Value.ref _) (Value.ref _)) _ _ _)); (first | (k_unfold; (try dsimp only)) | walk1 | (dsimp only; walk1))))
      rename Fr _ _ _ _ => F4
      rename News _ _ _ _ => N4
      k_dflt (refine' slice_any (zs := vsr.reverse) F4 N4 (News.isList N4 (.tail _ (.tail _ (.head _)))) .none .none (.int (-1) _) ?s0 ?se ?_ ?s1 ?s3)
      case s0 => decide
      case se => exact (congrArg Array.toList (krv_pick _)).trans (by simp)
      case s1 => with_unfolding_all rfl
      case s3 => rw [List.size_toArray, hrl10, sizeLine_eq]; (first | lia | omega)
      intro D5 h5 F5 N5 l5
      clear F4 N4
      (repeat' (first | (fail_if_success (with_reducible show wpAny _ _ (exec (Stmt.For _ _ _ _ _) _) _ _ _)); (fail_if_success (with_reducible show wpAny _ _ (exec (Stmt.While _ _ _ _) _) _ _ _)); (fail_if_success (with_reducible show wpAny _ _ (eval (PySem.Expr.ListComp _ _ _ _) _) _ _ _)); (fail_if_success (with_reducible show CompPack _)); (fail_if_success (with_reducible show wpAny _ _ (call (Value.builtin "str.join") _) _ _ _)); (fail_if_success (with_reducible show wpAny _ _ (call (Value.builtin "str.split") _) _ _ _)); (fail_if_success (with_reducible show wpAny _ _ (subscriptTail _ (PySem.Expr.Slice _ _ _ _) _ _) _ _ _)); (fail_if_success (with_reducible show wpAny _ _ (binaryOp _ (Value.ref _) (Value.ref _)) _ _ _)); (fail_if_success (with_reducible show wpAny _ _ (call (Value.builtin "list.extend") _) _ _ _)); (fail_if_success (with_reducible show wpAny _ _ (call (Value.builtin "list.append") _) _ _ _)); (fail_if_success (with_reducible show wpAny _ _ (compareOp _ (Value.ref _) (Value.ref _)) _ _ _)); (first | (k_unfold; (try dsimp only)) | walk1 | (dsimp only; walk1))))
      have z := N5 _ (.head _)
      have l140 := l5 (140, tabObj tb') (.head _)
      have l147 := l5 (147, tabObj tc') (.tail _ (.head _))
      refine hret _ _ vsr.reverse 0 (fun b o e h1 h2 => F5.keep _ _ (hkeep b o e h1 h2)) (none_of2 hkeep (Nat.ne_of_gt l140) (Nat.ne_of_gt l147) z.2.2) z.1 ?_ ⟨_, (N5 _ (.tail _ (.head _))).1, ht1⟩ ⟨_, (N5 _ (.tail _ (.tail _ (.head _)))).1, ht2⟩ hb2 rfl rfl
      have := strs_reverse hrr
      rwa [hrev, List.reverse_reverse] at this
    · refine PySem.EqBoolInt.of_rcne (SeqAt.RcNeAt.lists_lengths hL3 (PySem.IsL.isList (n := 0) (N3 _ (.head _)).1) (by simp; intro e; apply hne; subst e; exact List.length_eq_zero_iff.mp hvl.symm) (by decide)) ?_
      obtain ⟨l0, z, rfl⟩ : ∃ l0 z, ls = l0 ++ [z] := by
        rcases List.eq_nil_or_concat ls with e | ⟨c0, z2, e⟩
        · exact absurd e hne
        · exact ⟨c0, z2, by rw [e, List.concat_eq_append]⟩
      have hzr := hok z (by simp)
      have hzd : (l0 ++ [z]).getD (-1 + ((l0 ++ [z]).length : Int)).toNat Str.empty = z := by
        have e : (-1 + ((l0 ++ [z]).length : Int)).toNat = l0.length := by simp; (first | lia | omega)
        rw [e]; simp [List.getD]
      have hpos : 0 < (l0 ++ [z]).length := by simp
      replace N3 : News g L _ ((140, tabObj tb') :: (147, tabObj tc') :: (R, listOf vsr.toArray nr) :: ex) := fun q hq => N3 q (.tail _ hq)
      (repeat' (first | (fail_if_success (with_reducible show wpAny _ _ (exec (Stmt.For _ _ _ _ _) _) _ _ _)); (fail_if_success (with_reducible show wpAny _ _ (exec (Stmt.While _ _ _ _) _) _ _ _)); (fail_if_success (with_reducible show wpAny _ _ (eval (PySem.Expr.ListComp _ _ _ _) _) _ _ _)); (fail_if_success (with_reducible show CompPack _)); (fail_if_success (with_reducible show wpAny _ _ (call (Value.builtin "str.join") _) _ _ _)); (fail_if_success (with_reducible show wpAny _ _ (call (Value.builtin "str.split") _) _ _ _)); (fail_if_success (with_reducible show wpAny _ _ (subscriptTail _ (PySem.Expr.Slice _ _ _ _) _ _) _ _ _)); (fail_if_success (with_reducible show wpAny _ _ (binaryOp _ (Value.ref _) (Value.ref _)) _ _ _)); (fail_if_success (with_reducible show wpAny _ _ (call (Value.builtin "list.extend") _) _ _ _)); (fail_if_success (with_reducible show wpAny _ _ (call (Value.builtin "list.append") _) _ _ _)); (fail_if_success (with_reducible show wpAny _ _ (compareOp _ (Value.ref _) (Value.ref _)) _ _ _)); (first | (k_unfold; (try dsimp only)) | walk1 | (dsimp only; walk1))))
      rw [hzd]
      rename Fr _ _ _ _ => F4
      rename_i tz
      have hrl10 := hrr.length
      refine append_K (its := vsr.toArray) (n := nr) F4 N3 (.tail (Ne.symm hR1) (.tail (Ne.symm hR2) (.head fun q hq => (hex q hq).2.2))) ?_ (by rw [List.size_toArray, hrl10, sizeLine_eq]; (first | lia | omega))
      intro h5 F5 N5
      rw [show vsr.toArray.push (Value.str z tz) = (vsr ++ [Value.str z tz]).toArray by simp] at N5
      clear F4 N3 hL3
      have hL5 := hlf _ _ _ _ _ [] F5 N5
      (repeat' (first | (fail_if_success (with_reducible show wpAny _ _ (exec (Stmt.For _ _ _ _ _) _) _ _ _)); (fail_if_success (with_reducible show wpAny _ _ (exec (Stmt.While _ _ _ _) _) _ _ _)); (fail_if_success (with_reducible show wpAny _ _ (eval (PySem.Expr.ListComp _ _ _ _) _) _ _ _)); (fail_if_success (with_reducible show CompPack _)); (fail_if_success (with_reducible show wpAny _ _ (call (Value.builtin "str.join") _) _ _ _)); (fail_if_success (with_reducible show wpAny _ _ (call (Value.builtin "str.split") _) _ _ _)); (fail_if_success (with_reducible show wpAny _ _ (subscriptTail _ (PySem.Expr.Slice _ _ _ _) _ _) _ _ _)); (fail_if_success (with_reducible show wpAny _ _ (binaryOp _ (Value.ref _) (Value.ref _)) _ _ _)); (fail_if_success (with_reducible show wpAny _ _ (call (Value.builtin "list.extend") _) _ _ _)); (fail_if_success (with_reducible show wpAny _ _ (call (Value.builtin "list.append") _) _ _ _)); (fail_if_success (with_reducible show wpAny _ _ (compareOp _ (Value.ref _) (Value.ref _)) _ _ _)); (first | (k_unfold; (try dsimp only)) | walk1 | (dsimp only; walk1))))
      rename Fr _ _ _ _ => F6
      rename News _ _ _ _ => N6
      k_dflt (refine' slice_any (zs := vsl.take (vsl.length - 1)) F6 N6 hL5 .none (.int (-1) _) .none (by simp) (pick_but _) ?_ ?s1 ?s3)
      case s1 => with_unfolding_all rfl
      case s3 => rw [List.size_toArray, hvl, sizeLine_eq]; (first | lia | omega)
      intro D7 h7 F7 N7 l7
      clear F6 N6 hL5
      (repeat' (first | (fail_if_success (with_reducible show wpAny _ _ (exec (Stmt.For _ _ _ _ _) _) _ _ _)); (fail_if_success (with_reducible show wpAny _ _ (exec (Stmt.While _ _ _ _) _) _ _ _)); (fail_if_success (with_reducible show wpAny _ _ (eval (PySem.Expr.ListComp _ _ _ _) _) _ _ _)); (fail_if_success (with_reducible show CompPack _)); (fail_if_success (with_reducible show wpAny _ _ (call (Value.builtin "str.join") _) _ _ _)); (fail_if_success (with_reducible show wpAny _ _ (call (Value.builtin "str.split") _) _ _ _)); (fail_if_success (with_reducible show wpAny _ _ (subscriptTail _ (PySem.Expr.Slice _ _ _ _) _ _) _ _ _)); (fail_if_success (with_reducible show wpAny _ _ (binaryOp _ (Value.ref _) (Value.ref _)) _ _ _)); (fail_if_success (with_reducible show wpAny _ _ (call (Value.builtin "list.extend") _) _ _ _)); (fail_if_success (with_reducible show wpAny _ _ (call (Value.builtin "list.append") _) _ _ _)); (fail_if_success (with_reducible show wpAny _ _ (compareOp _ (Value.ref _) (Value.ref _)) _ _ _)); (first | (k_unfold; (try dsimp only)) | walk1 | (dsimp only; walk1))))
      rename Fr _ _ _ _ => F8
      rename News _ _ _ _ => N8
      k_dflt (refine' slice_any (zs := (vsl.take (vsl.length - 1)).reverse) F8 N8 (News.isList N8 (.head _)) .none .none (.int (-1) _) ?s0 ?se ?_ ?s1 ?s3)
      case s0 => decide
      case se => exact (congrArg Array.toList (krv_pick _)).trans (by simp)
      case s1 => with_unfolding_all rfl
      case s3 => rw [List.size_toArray, List.length_take, hvl, sizeLine_eq]; (first | lia | omega)
      intro D9 h9 F9 N9 l9
      clear F8 N8
      have hL9 := hlf _ _ _ _ _ [_, _] F9 N9
      (repeat' (first | (fail_if_success (with_reducible show wpAny _ _ (exec (Stmt.For _ _ _ _ _) _) _ _ _)); (fail_if_success (with_reducible show wpAny _ _ (exec (Stmt.While _ _ _ _) _) _ _ _)); (fail_if_success (with_reducible show wpAny _ _ (eval (PySem.Expr.ListComp _ _ _ _) _) _ _ _)); (fail_if_success (with_reducible show CompPack _)); (fail_if_success (with_reducible show wpAny _ _ (call (Value.builtin "str.join") _) _ _ _)); (fail_if_success (with_reducible show wpAny _ _ (call (Value.builtin "str.split") _) _ _ _)); (fail_if_success (with_reducible show wpAny _ _ (subscriptTail _ (PySem.Expr.Slice _ _ _ _) _ _) _ _ _)); (fail_if_success (with_reducible show wpAny _ _ (binaryOp _ (Value.ref _) (Value.ref _)) _ _ _)); (fail_if_success (with_reducible show wpAny _ _ (call (Value.builtin "list.extend") _) _ _ _)); (fail_if_success (with_reducible show wpAny _ _ (call (Value.builtin "list.append") _) _ _ _)); (fail_if_success (with_reducible show wpAny _ _ (compareOp _ (Value.ref _) (Value.ref _)) _ _ _)); (first | (k_unfold; (try dsimp only)) | walk1 | (dsimp only; walk1))))
      rename Fr _ _ _ _ => F10
      rename News _ _ _ _ => N10
      rw [hzd]
      have htake : StrsAre (vsl.take (vsl.length - 1)) l0 := by
        have := hls.take' l0.length
        rw [List.take_left] at this
        rw [hvl]
        simpa using this
      have hrev := strs_reverse htake
      have hl0 : l0.length ≤ 9 := by simp at hl10; (first | lia | omega)
      have N10' : News g L _ ((140, tabObj tb') :: (147, tabObj tc') :: (R, listOf (vsr ++ [Value.str z tz]).toArray (nr + 1)) :: ex) := fun q hq => N10 q (.tail _ (.tail _ hq))
      refine u_turned F10 N10' (fun q hq => ?off) D hst rfl (by decide) (by decide) (News.isList N10 (.head _)) hrev (by simp; (first | lia | omega)) hzr (fun y hy => hok y (List.mem_append_left _ (List.mem_reverse.mp hy))) hw0 hw ht1 ht2 hb2 ?_
      case off =>
        rcases List.mem_cons.mp hq with rfl | hq
        · exact ⟨hR1, hR2⟩
        · exact ⟨(hex q hq).1, (hex q hq).2.1⟩
      intro h11 gs11 tk11 T11 vs11 n11 tb11 tc11 F11 N11 hT11 hvs11 ht11 ht11' hb11
      clear F10 N10 N10' hL9
      have hvl11 : vs11.length = l0.length := by rw [hvs11.length, turned_length, List.length_reverse]
      (repeat' (first | (fail_if_success (with_reducible show wpAny _ _ (exec (Stmt.For _ _ _ _ _) _) _ _ _)); (fail_if_success (with_reducible show wpAny _ _ (exec (Stmt.While _ _ _ _) _) _ _ _)); (fail_if_success (with_reducible show wpAny _ _ (eval (PySem.Expr.ListComp _ _ _ _) _) _ _ _)); (fail_if_success (with_reducible show CompPack _)); (fail_if_success (with_reducible show wpAny _ _ (call (Value.builtin "str.join") _) _ _ _)); (fail_if_success (with_reducible show wpAny _ _ (call (Value.builtin "str.split") _) _ _ _)); (fail_if_success (with_reducible show wpAny _ _ (subscriptTail _ (PySem.Expr.Slice _ _ _ _) _ _) _ _ _)); (fail_if_success (with_reducible show wpAny _ _ (binaryOp _ (Value.ref _) (Value.ref _)) _ _ _)); (fail_if_success (with_reducible show wpAny _ _ (call (Value.builtin "list.extend") _) _ _ _)); (fail_if_success (with_reducible show wpAny _ _ (call (Value.builtin "list.append") _) _ _ _)); (fail_if_success (with_reducible show wpAny _ _ (compareOp _ (Value.ref _) (Value.ref _)) _ _ _)); (first | (k_unfold; (try dsimp only)) | walk1 | (dsimp only; walk1))))
      rename Fr _ _ _ _ => F12
      rename News _ _ _ _ => N12
      k_dflt (refine' slice_any (zs := vs11.reverse) F12 N12 (News.isList N12 (.head _)) .none .none (.int (-1) _) ?s0 ?se ?_ ?s1 ?s3)
      case s0 => decide
      case se => exact (congrArg Array.toList (krv_pick _)).trans (by simp)
      case s1 => with_unfolding_all rfl
      case s3 => rw [List.size_toArray, hvl11, sizeLine_eq]; (first | lia | omega)
      intro D13 h13 F13 N13 l13
      clear F12 N12
      have q140 := l13 (140, tabObj tb11) (.tail _ (.head _))
      have q147 := l13 (147, tabObj tc11) (.tail _ (.tail _ (.head _)))
      have qR := l13 (R, listOf (vsr ++ [Value.str z tz]).toArray (nr + 1)) (.tail _ (.tail _ (.tail _ (.head _))))
      dsimp only at q140 q147 qR
      (repeat' (first | (fail_if_success (with_reducible show wpAny _ _ (exec (Stmt.For _ _ _ _ _) _) _ _ _)); (fail_if_success (with_reducible show wpAny _ _ (exec (Stmt.While _ _ _ _) _) _ _ _)); (fail_if_success (with_reducible show wpAny _ _ (eval (PySem.Expr.ListComp _ _ _ _) _) _ _ _)); (fail_if_success (with_reducible show CompPack _)); (fail_if_success (with_reducible show wpAny _ _ (call (Value.builtin "str.join") _) _ _ _)); (fail_if_success (with_reducible show wpAny _ _ (call (Value.builtin "str.split") _) _ _ _)); (fail_if_success (with_reducible show wpAny _ _ (subscriptTail _ (PySem.Expr.Slice _ _ _ _) _ _) _ _ _)); (fail_if_success (with_reducible show wpAny _ _ (binaryOp _ (Value.ref _) (Value.ref _)) _ _ _)); (fail_if_success (with_reducible show wpAny _ _ (call (Value.builtin "list.extend") _) _ _ _)); (fail_if_success (with_reducible show wpAny _ _ (call (Value.builtin "list.append") _) _ _ _)); (fail_if_success (with_reducible show wpAny _ _ (compareOp _ (Value.ref _) (Value.ref _)) _ _ _)); (first | (k_unfold; (try dsimp only)) | walk1 | (dsimp only; walk1))))
      rename Fr _ _ _ _ => F14
      rename News _ _ _ _ => N14
      refine ⟨l0.length, by simp, _, _, _, _, D13, R, vs11.reverse, (turned lastZ l0.reverse z).reverse, vsr ++ [Value.str z tz], rr ++ [z], nr + 1, tb11, tc11, [(D13, listOf vs11.reverse.toArray 0)], rfl, F14, ?_, hR1, hR2, ?_, ?_, strs_reverse hvs11, strs_push hrr, ?_, ?_, ?_, ?_, ?_, rfl, rfl, rfl, hb11, ht11, ht11'⟩
      · rintro q (_ | ⟨_, _ | ⟨_, _ | ⟨_, _ | ⟨_, hq⟩⟩⟩⟩)
        · exact N14 _ (.tail _ (.tail _ (.head _)))
        · exact N14 _ (.tail _ (.tail _ (.tail _ (.head _))))
        · exact N14 _ (.tail _ (.tail _ (.tail _ (.tail _ (.head _)))))
        · exact N14 _ (.head _)
        · cases hq
      · intro q hq
        rw [List.mem_singleton.mp hq]
        exact ⟨Nat.ne_of_gt q140, Nat.ne_of_gt q147, Nat.ne_of_gt qR⟩
      · intro h m o1 o2 o3 pre _ N'
        exact News.isList N' (List.mem_append_right _ (.tail _ (.tail _ (.tail _ (.head _)))))
      · rw [← hbk, back_snoc]; simp
      · intro y hy
        exact hok y (List.mem_append_left _ (List.mem_reverse.mp ((turned_perm lastZ _ _).mem_iff.mp (List.mem_reverse.mp hy))))
      · rw [List.length_reverse, turned_length, List.length_reverse]; (first | lia | omega)
      · rw [List.length_reverse, turned_length, List.length_reverse, List.length_append]; simp at hr10 hl10 ⊢; (first | lia | omega)
      · rw [List.length_reverse, turned_length, List.length_reverse]
  · refine ⟨_, _, _, _, lr, R0, vs, rs, [], [], 0, tb, tc, [], rfl, F1, N1', Nat.ne_of_gt hlt.1, Nat.ne_of_gt hlt.2, (fun _ q => nomatch q), (fun h m _ _ _ _ F' _ => hlg.at fun o e => F'.keep _ _ e), hi, .nil, rfl, hrl, hn, by simp, rfl, rfl, rfl, rfl, hbare, htr, htr2⟩
end
end Mine
end

section
-- Ub
example : True := by w_top off; trivial
open PySem PySem.W PyProof.Rows PySem.Calls PySem.Spec
set_option maxRecDepth 100000
namespace Mine
section
variable {g h h' : Heap} {L R : Addr} {m : Str → Option Value} {a b a' b' oR : Obj} {rest : List (Addr × Obj)}
theorem tabs_after (F : Fr g L h m) (N : News g L h ((140, a) :: (147, b) :: rest)) (hoff : ∀ q ∈ rest, q.1 ≠ 140 ∧ q.1 ≠ 147) (hk : ∀ b o, h.get? b = some o → b ≠ 140 → b ≠ 147 → h'.get? b = some o) (hR : h.get? R = none) (hR' : h'.get? R = some oR) (h1 : h'.get? 140 = some a') (h2 : h'.get? 147 = some b') :
    Fr g L h' m ∧ News g L h' ((R, oR) :: (140, a') :: (147, b') :: rest) ∧ ∀ q ∈ (140, a') :: (147, b') :: rest, q.1 ≠ R := by
  have z1 := N _ (.head _)
  have z2 := N _ (.tail _ (.head _))
  obtain ⟨oL, es, ep, hoL, r⟩ := F.ns
  have fz : R ≠ L ∧ g.get? R = none := by
    constructor
    · rintro rfl; rw [hoL] at hR; cases hR
    · cases e2 : g.get? R with
      | none => rfl
      | some o => rw [F.keep R o e2] at hR; cases hR
  refine ⟨⟨⟨oL, es, ep, hk _ _ hoL (Ne.symm z1.2.1) (Ne.symm z2.2.1), r⟩, fun b o e => hk b o (F.keep b o e) (fun q => by rw [q, z1.2.2] at e; cases e) (fun q => by rw [q, z2.2.2] at e; cases e), F.above⟩, ?_, fun q hq e => ?_⟩
  · rintro q (_ | ⟨_, _ | ⟨_, _ | ⟨_, hq⟩⟩⟩)
    · exact ⟨hR', fz⟩
    · exact ⟨h1, z1.2⟩
    · exact ⟨h2, z2.2⟩
    · have z := N q (.tail _ (.tail _ hq))
      exact ⟨hk _ _ z.1 (hoff q hq).1 (hoff q hq).2, z.2⟩
  · have alive : ∃ o, h.get? q.1 = some o := by
      rcases List.mem_cons.mp hq with rfl | hq
      · exact ⟨_, z1.1⟩
      · rcases List.mem_cons.mp hq with rfl | hq
        · exact ⟨_, z2.1⟩
        · exact ⟨_, (N q (.tail _ (.tail _ hq))).1⟩
    obtain ⟨o, ho⟩ := alive
    rw [e, hR] at ho; cases ho
end
section
variable {w : World} {p : Program} {loose : List Str} {mean : ExcName → Option Value} {mg mb : Str → Option Value} {G g : Heap} {L : Addr} {m : Str → Option Value} {rest : List (Addr × Obj)} {A : Around} {s : Shared} {Q E : Value → Shared → Prop}
theorem u_made {lr : Addr} {vs : List Value} {rs : List Str} {width : Int} {tw : Tok} {tb tc : Array Value} (F : Fr g L s.heap m) (N : News g L s.heap ((140, tabObj tb) :: (147, tabObj tc) :: rest)) (hoff : ∀ q ∈ rest, q.1 ≠ 140 ∧ q.1 ≠ 147) (D : Gd w p loose mean mg mb G) (hs : G.StaysIn g) (hh : A.handled = none) (hdp : A.depth ≤ 350) (hu : A.units ≤ 100)
    (hl : s.heap.IsList lr vs.toArray) (hi : StrsAre vs rs) (hn : rs.length ≤ 10) (hrl : ∀ y ∈ rs, RowOk y) (hw0 : 0 ≤ width) (hw : width ≤ 23) (htr : TriplesOk tb.toList) (htr2 : TriplesOk tc.toList) (hbare : AllBare s.gens)
    (k : ∀ h' gs' tk' R vs' n' tb' tc', Fr g L h' m → News g L h' ((R, listOf (List.toArray vs') n') :: (140, tabObj tb') :: (147, tabObj tc') :: rest) → (∀ q ∈ ((140, tabObj tb') :: (147, tabObj tc') :: rest), q.1 ≠ R) → StrsAre vs' (made lastZ rs) → TriplesOk tb'.toList → TriplesOk tc'.toList → AllBare gs' → Q (.ref R) ⟨h', gs', s.drawn, tk', s.os⟩) :
    wpAny (model Challenge.rw_oc0165_01.row.prog w) A (call (.ref 267) [.ref lr, .int width tw]) Q E s := by
  have hG : ∀ b, g.get? b = none → G.get? b = none := fun b e => by
    cases e2 : G.get? b with
    | none => rfl
    | some o => rw [hs b o e2] at e; cases e
  have z1 := N _ (.head _)
  have z2 := N _ (.tail _ (.head _))
  refine wp_up hh hdp hu (c_made D (stays_fr F hs) hl hi hn hrl hw0 hw z1.1 htr (hG _ z1.2.2) z2.1 htr2 (hG _ z2.2.2) hbare ?_)
  rintro ⟨h', gs', dr', tk', os'⟩ R vs' n' hk hR hR' hvs ⟨tb', hP, ht⟩ ⟨tc', hP2, ht2⟩ hb hdr hos
  dsimp only at hk hR' hP hP2 hb hdr hos
  subst hdr hos
  obtain ⟨F', N', hne⟩ := tabs_after F N hoff hk hR hR' hP hP2
  exact k h' gs' tk' R vs' n' tb' tc' F' N' hne hvs ht ht2 hb
theorem u_back {lr : Addr} {vs : List Value} {rs : List Str} {width : Int} {tw : Tok} {tb tc : Array Value} (F : Fr g L s.heap m) (N : News g L s.heap ((140, tabObj tb) :: (147, tabObj tc) :: rest)) (hoff : ∀ q ∈ rest, q.1 ≠ 140 ∧ q.1 ≠ 147) (D : Gd w p loose mean mg mb G) (hs : G.StaysIn g) (hh : A.handled = none) (hdp : A.depth ≤ 350) (hu : A.units ≤ 100)
    (hl : s.heap.IsList lr vs.toArray) (hi : StrsAre vs rs) (hn : rs.length ≤ 10) (hrl : ∀ y ∈ rs, RowOk y) (hw0 : 0 ≤ width) (hw : width ≤ 23) (htr : TriplesOk tb.toList) (htr2 : TriplesOk tc.toList) (hbare : AllBare s.gens)
    (k : ∀ h' gs' tk' R vs' n' tb' tc', Fr g L h' m → News g L h' ((R, listOf (List.toArray vs') n') :: (140, tabObj tb') :: (147, tabObj tc') :: rest) → (∀ q ∈ ((140, tabObj tb') :: (147, tabObj tc') :: rest), q.1 ≠ R) → StrsAre vs' (back lastZ rs) → TriplesOk tb'.toList → TriplesOk tc'.toList → AllBare gs' → Q (.ref R) ⟨h', gs', s.drawn, tk', s.os⟩) :
    wpAny (model Challenge.rw_oc0165_01.row.prog w) A (call (.ref 274) [.ref lr, .int width tw]) Q E s := by
  have hG : ∀ b, g.get? b = none → G.get? b = none := fun b e => by
    cases e2 : G.get? b with
    | none => rfl
    | some o => rw [hs b o e2] at e; cases e
  have z1 := N _ (.head _)
  have z2 := N _ (.tail _ (.head _))
  refine wp_up hh hdp hu (c_back D (stays_fr F hs) hl hi hn hrl hw0 hw z1.1 htr (hG _ z1.2.2) z2.1 htr2 (hG _ z2.2.2) hbare ?_)
  rintro ⟨h', gs', dr', tk', os'⟩ R vs' n' hk hR hR' hvs ⟨tb', hP, ht⟩ ⟨tc', hP2, ht2⟩ hb hdr hos
  dsimp only at hk hR' hP hP2 hb hdr hos
  subst hdr hos
  obtain ⟨F', N', hne⟩ := tabs_after F N hoff hk hR hR' hP hP2
  exact k h' gs' tk' R vs' n' tb' tc' F' N' hne hvs ht ht2 hb
end
end Mine
end

section
-- Falls
example : True := by w_top off; trivial
open PySem PySem.W PyProof.Rows PySem.Calls PySem.Spec
set_option maxRecDepth 100000
namespace Mine
/-- what _law_falls tells -/
noncomputable def fallsK (ns : List Int) : Int := (List.foldl (fun l' k' => if ns.getD k'.toNat 0 < ns.getD (k' - 1).toNat 0 then l' ++ [k'] else l') [] (rangeKs 1 ((ns.length : Int) - 1).toNat)).sum
section
variable {w : World} {p : Program} {loose : List Str} {mean : ExcName → Option Value} {mg mb : Str → Option Value} {G : Heap} {s : Shared} {Q E : Value → Shared → Prop}
set_option maxHeartbeats 1000000
theorem c_falls {lr : Addr} {vs : List Value} {ns : List Int} (D : Gd w p loose mean mg mb G) (St : G.StaysIn s.heap) (hl : s.heap.IsList lr vs.toArray) (hi : IntsAre vs ns) (hn : ns.length ≤ 10)
    (hret : ∀ t h' tk', (∀ b o, s.heap.get? b = some o → h'.get? b = some o) → Q (.int (fallsK ns) t) { s with heap := h', toks := tk' }) :
    wpAny (model Challenge.rw_oc0165_01.row.prog w) (Am 350 100) (call (.ref 284) [.ref lr]) Q E s := by
  have fill : (hd.heap_1 w.params).In G := D.X
  revert fill
  k_fill
  intro _
  refine wpAny_call ?_
  refine' enterC (binds := [("ranks", .ref lr)]) [] D St ?k3 ?k4 ?k6 ?k7 ?k8 ?k9 ?kB ?kD ?c2 ?c3 ?c4 ?_
  case k3 => exact fun _ q => nomatch q
  case k4 => exact fun _ q => nomatch q
  (((case k6 => k_is); (case k7 => k_is); (case k8 => decide)))
  case k9 => exact BindsTo.of_eq rfl
  case kB => exact rfl
  case kD => decide +kernel
  case c2 => exact rfl
  case c3 => exact rfl
  case c4 => exact rfl
  intro g L h tk cells hg hL F N Y X T l1 hkeep hst
  obtain ⟨o1, hE, d1⟩ := CellsAre.one Y
  subst hE
  clear Y
  dsimp only [List.cons_append, List.nil_append] at N
  have hlg : g.IsList lr vs.toArray := hl.at fun o e => hkeep _ _ e fun _ q => nomatch q
  replace d1 : o1.data = .cell (some (.ref lr)) := d1
  dsimp only
  try k_fold
  (repeat' (first | (fail_if_success (with_reducible show wpAny _ _ (exec (Stmt.For _ _ _ _ _) _) _ _ _)); (first | (k_unfold; (try dsimp only)) | walk1 | (dsimp only; walk1))))
  rename Fr _ _ _ _ => F1
  exact hret _ _ _ (fun b o e => F1.keep _ _ (hkeep _ _ e fun _ q => nomatch q))
end
end Mine
end

section
-- Cp2
example : True := by w_top off; trivial
open PySem PySem.W PyProof.Rows PySem.Calls PySem.Spec
set_option maxRecDepth 100000
namespace Mine
theorem turn2_1 (elt t1 i1 t2 i2 : Expr) (if1 ifs : List Expr) (scope : Scope) (pos : Pos) (it acc : Value) (env : Env) :
    compTurn (.ListComp elt [⟨t1, i1, if1, 0⟩, ⟨t2, i2, ifs, 0⟩] scope pos) 1 it acc env = (do
      standAt i2.pos
      match ← pyNext it with
      | none => pure (.done .next)
      | some v =>
        letOwnedTupleGo t2 it v
        assign t2 env v
        let mut ok := true
        for c in ifs do
          if ok then ok ← isTrue c env (eval c env)
        if ok then
          (do let _ ← call (.builtin "list.append") [acc, ← eval elt env])
        again (.compLoop (.ListComp elt [⟨t1, i1, if1, 0⟩, ⟨t2, i2, ifs, 0⟩] scope pos) 1 it acc env)) := by rfl
theorem turn2_0 (elt t1 i1 t2 i2 : Expr) (ifs : List Expr) (scope : Scope) (pos : Pos) (it acc : Value) (env : Env) :
    compTurn (.ListComp elt [⟨t1, i1, [], 0⟩, ⟨t2, i2, ifs, 0⟩] scope pos) 0 it acc env = (do
      standAt i1.pos
      match ← pyNext it with
      | none => pure (.done .next)
      | some v =>
        letOwnedTupleGo t1 it v
        assign t1 env v
        let x ← eval i2 env
        standAt i2.pos
        let x ← foldedSetIterable i2 env x
        let _ ← runOwn (.compStart (.ListComp elt [⟨t1, i1, [], 0⟩, ⟨t2, i2, ifs, 0⟩] scope pos) 1 (← holding [x] (pyIter x)) acc env) env
        again (.compLoop (.ListComp elt [⟨t1, i1, [], 0⟩, ⟨t2, i2, ifs, 0⟩] scope pos) 0 it acc env)) := by rfl
section
variable {prog : Program} {w : World} {A : Around} {R : Result → Shared → Prop} {s : Shared} {elt t1 i1 t2 i2 : Expr} {if1 ifs : List Expr} {scope : Scope} {pos : Pos} {it acc : Value} {env : Env}
theorem loop2_1 (I : Nat → Shared → Prop)
    (turn : ∀ n s, I n s → wpAny (model prog w) A (pyNext it) (fun r s₁ => match r with
      | none => R (.ok .next) s₁
      | some v => wpAny (model prog w) A (assign t2 env v) (fun _ s₂ =>
          wpAny (model prog w) A (forIn ifs true fun c r => if r = true then do let ok ← isTrue c env (eval c env); pure (ForInStep.yield ok) else pure (ForInStep.yield r)) (fun ok s₃ =>
            if ok = true then wpAny (model prog w) A (eval elt env) (fun x s₄ =>
              wpAny (model prog w) A (call (.builtin "list.append") [acc, x]) (fun _ s₅ => ∃ m, m < n ∧ I m s₅) (notedBy (model prog w) A env fun e s' => R (.error e) s') s₄) (notedBy (model prog w) A env fun e s' => R (.error e) s') s₃
            else ∃ m, m < n ∧ I m s₃) (notedBy (model prog w) A env fun e s' => R (.error e) s') s₂) (notedBy (model prog w) A env fun e s' => R (.error e) s') s₁) (notedBy (model prog w) A env fun e s' => R (.error e) s') s)
    (n : Nat) (h : I n s) (ht : ∀ v, letOwnedTupleGo t2 it v = pure ()) :
    codeAny (model prog w) A (.compLoop (.ListComp elt [⟨t1, i1, if1, 0⟩, ⟨t2, i2, ifs, 0⟩] scope pos) 1 it acc env) R s := by
  refine codeAny_loop rfl I (fun n s hI => ?_) n h
  show wpAny _ A ((compTurn (.ListComp elt [⟨t1, i1, if1, 0⟩, ⟨t2, i2, ifs, 0⟩] scope pos) 1 it acc env).onRaise (fun x => do noteFrame x env; theTreesLotGoes x)) _ _ s
  refine wpAny_noted ?_
  rw [turn2_1]
  refine wpAny_bind (wpAny_standAt (wpAny_bind (wpAny_mono (turn n s hI) (fun r s₁ h₁ => ?_) fun _ _ h' => h')))
  cases r with
  | none => exact wpAny_pure h₁
  | some v =>
    refine wpAny_bind (wpAny_of_eq (ht v) ?_)
    refine wpAny_bind (wpAny_mono h₁ (fun _ s₂ h₂ => wpAny_bind (wpAny_mono h₂ (fun ok s₃ h₃ => ?_) fun _ _ h' => h')) fun _ _ h' => h')
    cases ok with
    | false => exact wpAny_pure ⟨rfl, h₃⟩
    | true =>
      exact wpAny_bind (wpAny_bind (wpAny_mono h₃ (fun x s₄ h₄ => wpAny_bind (wpAny_mono h₄ (fun _ s₅ h₅ => wpAny_pure (wpAny_pure ⟨rfl, h₅⟩)) fun _ _ h' => h')) fun _ _ h' => h'))
theorem loop2_0 (I : Nat → Shared → Prop)
    (turn : ∀ n s, I n s → wpAny (model prog w) A (pyNext it) (fun r s₁ => match r with
      | none => R (.ok .next) s₁
      | some v => wpAny (model prog w) A (assign t1 env v) (fun _ s₂ =>
          wpAny (model prog w) A (eval i2 env) (fun x s₃ => wpAny (model prog w) A (pyIter x) (fun it2 s₄ =>
            codeAny (model prog w) A (.compStart (.ListComp elt [⟨t1, i1, [], 0⟩, ⟨t2, i2, ifs, 0⟩] scope pos) 1 it2 acc env) (fun r s₅ => match r with
              | .ok _ => ∃ m, m < n ∧ I m s₅
              | .error e => cameBackBy (model prog w) A env (notedBy (model prog w) A env fun e s' => R (.error e) s') e s₅) s₄)
            (notedBy (model prog w) A env fun e s' => R (.error e) s') s₃) (notedBy (model prog w) A env fun e s' => R (.error e) s') s₂) (notedBy (model prog w) A env fun e s' => R (.error e) s') s₁) (notedBy (model prog w) A env fun e s' => R (.error e) s') s)
    (n : Nat) (h : I n s) (ht : ∀ v, letOwnedTupleGo t1 it v = pure ()) (hs : ∀ x, foldedSetIterable i2 env x = pure x) :
    codeAny (model prog w) A (.compLoop (.ListComp elt [⟨t1, i1, [], 0⟩, ⟨t2, i2, ifs, 0⟩] scope pos) 0 it acc env) R s := by
  refine codeAny_loop rfl I (fun n s hI => ?_) n h
  show wpAny _ A ((compTurn (.ListComp elt [⟨t1, i1, [], 0⟩, ⟨t2, i2, ifs, 0⟩] scope pos) 0 it acc env).onRaise (fun x => do noteFrame x env; theTreesLotGoes x)) _ _ s
  refine wpAny_noted ?_
  rw [turn2_0]
  refine wpAny_bind (wpAny_standAt (wpAny_bind (wpAny_mono (turn n s hI) (fun r s₁ h₁ => ?_) fun _ _ h' => h')))
  cases r with
  | none => exact wpAny_pure h₁
  | some v =>
    refine wpAny_bind (wpAny_of_eq (ht v) ?_)
    refine wpAny_bind (wpAny_mono h₁ (fun _ s₂ h₂ => ?_) fun _ _ h' => h')
    refine wpAny_bind (wpAny_mono h₂ (fun x s₃ h₃ => wpAny_bind (wpAny_standAt (wpAny_bind (wpAny_of_eq (hs x) (wpAny_bind (wpAny_holding (wpAny_mono h₃ (fun it2 s₄ h₄ => ?_) fun _ _ h' => h'))))))) fun _ _ h' => h')
    exact wpAny_bind (wpAny_runOwn (codeAny_mono h₄ fun r s₅ h₅ => by
      cases r with
      | ok f => exact wpAny_pure ⟨rfl, h₅⟩
      | error e => exact h₅))
theorem start2_1 (h0 : codeAny (model prog w) A (.compLoop (.ListComp elt [⟨t1, i1, if1, 0⟩, ⟨t2, i2, ifs, 0⟩] scope pos) 1 it acc env) R s)
    (h : wpAny (model prog w) A (pyIter it) (fun it' s' => codeAny (model prog w) A (.compLoop (.ListComp elt [⟨t1, i1, if1, 0⟩, ⟨t2, i2, ifs, 0⟩] scope pos) 1 it' acc env) R s')
      (notedBy (model prog w) A env fun x s' => R (.error x) s') s) :
    codeAny (model prog w) A (.compStart (.ListComp elt [⟨t1, i1, if1, 0⟩, ⟨t2, i2, ifs, 0⟩] scope pos) 1 it acc env) R s := by
  refine codeAny_of_tree ?_
  show wpAny _ _ ((compStart (.ListComp elt [⟨t1, i1, if1, 0⟩, ⟨t2, i2, ifs, 0⟩] scope pos) 1 it acc env).onRaise (fun x => do noteFrame x env; standAt theWindowsPlace)) _ _ s
  refine wpAny_notedAt ?_
  unfold compStart
  show wpAny _ _ (ask >>= _) _ _ s
  refine wpAny_bind (wpAny_askSetting (wpAny_ite ?_))
  split
  · first
      | exact wpAny_bind (wpAny_pure (wpAny_pure (And.intro rfl h0)))
      | exact wpAny_pure (And.intro rfl h0)
  · first
      | exact wpAny_bind (wpAny_rule (wpAny_bind (wpAny_standAt (wpAny_bind (wpAny_mono h (fun it' s' h' => wpAny_pure (And.intro rfl h')) fun _ _ x => x)))))
      | (refine wpAny_bind (wpAny_rule ?_); show wpAny _ _ (standAt i2.pos >>= _) _ _ s; exact wpAny_bind (wpAny_standAt (wpAny_bind (wpAny_mono h (fun it' s' h' => wpAny_pure (And.intro rfl h')) fun _ _ x => x))))
end
end Mine
end

section
-- Pc
example : True := by w_top off; trivial
open PySem PySem.W PyProof.Rows PySem.Calls PySem.Spec
set_option maxRecDepth 100000
namespace Mine
/-- how many pairs below n are told so -/
noncomputable def pairCnt (pz : Nat → Nat → Bool) (n : Nat) : Nat := ((List.range n).map fun j => (List.range j).countP fun i => pz i j).sum
theorem pairCnt_succ (pz : Nat → Nat → Bool) (n : Nat) : pairCnt pz (n + 1) = pairCnt pz n + (List.range n).countP fun i => pz i n := by
  unfold pairCnt
  rw [List.range_succ, List.map_append, List.sum_append]
  simp
theorem pairCnt_le (pz : Nat → Nat → Bool) : ∀ n, pairCnt pz n ≤ n * n
  | 0 => by simp [pairCnt]
  | n + 1 => by
    rw [pairCnt_succ]
    have h1 := pairCnt_le pz n
    have h2 : (List.range n).countP (fun i => pz i n) ≤ n := by
      have := List.countP_le_length (p := fun i => pz i n) (l := List.range n)
      simpa using this
    have : (n + 1) * (n + 1) = n * n + 2 * n + 1 := by rw [Nat.mul_add, Nat.add_mul]; (first | lia | omega)
    (first | lia | omega)
theorem count_range_succ (q : Nat → Bool) (i : Nat) : (List.range (i + 1)).countP q = (List.range i).countP q + if q i = true then 1 else 0 := by
  rw [List.range_succ, List.countP_append]
  simp [List.countP_cons]
theorem ints_ones {ys : List Value} {c : Nat} {t : Tok} (h : IntsAre ys (List.replicate c 1)) : IntsAre (ys ++ [.int 1 t]) (List.replicate (c + 1) 1) := by
  rw [List.replicate_succ', ]
  exact h.append (.cons _ _ .nil)
inductive PcOut (s₁ : Shared) (pz : Nat → Nat → Bool) (n : Nat) (I D C : Addr) (k : Nat) (s' : Shared) : Prop
  | mk (j : Nat) (h : Heap) (tk : Nat) (m : Str → Option Value) (ys : Array Value) (e : s' = { s₁ with heap := h, toks := tk }) (ek : k = n + 1 - j) (hj : j ≤ n) (it : IsRangeIter h I (0 + (j : Int) * 1) ((n : Int) - (j : Int)) 1) (pl : h.PlainList D ys) (ns : h.Ns C m) (hys : IntsAre ys.toList (List.replicate (pairCnt pz j) 1)) (hk : ∀ b o, s₁.heap.get? b = some o → h.get? b = some o)
inductive PcIn (s₁ : Shared) (pz : Nat → Nat → Bool) (n : Nat) (I I2 D C : Addr) (x : Str) (j : Nat) (tj : Tok) (k : Nat) (s' : Shared) : Prop
  | mk (i : Nat) (h : Heap) (tk : Nat) (m : Str → Option Value) (ys : Array Value) (e : s' = { s₁ with heap := h, toks := tk }) (ek : k = j + 1 - i) (hi : i ≤ j) (it : IsRangeIter h I2 (0 + (i : Int) * 1) ((j : Int) - (i : Int)) 1) (ot : IsRangeIter h I (0 + ((j + 1 : Nat) : Int) * 1) ((n : Int) - ((j + 1 : Nat) : Int)) 1) (pl : h.PlainList D ys) (ns : h.Ns C m) (hm : m x = some (.int j tj))
    (hys : IntsAre ys.toList (List.replicate (pairCnt pz j + (List.range i).countP fun i => pz i j) 1)) (hk : ∀ b o, s₁.heap.get? b = some o → h.get? b = some o)
/-- what is asked of a comprehension over pairs of ranges -/
inductive PcPack (prog : Program) (w : World) (A : Around) (env : Env) (elt i2 : Expr) (ifs : List Expr) (x y : Str) (scope : Scope) (cl : List (Str × Addr)) (pz : Nat → Nat → Bool) (Q : Value → Shared → Prop) (xv : Value) (s₁ : Shared) : Prop
  | mk (r : Addr) (n : Nat) (t u v : Tok) (e : xv = .ref r) (hr : IsRange s₁.heap r 0 n 1 t u v) (hn : n ≤ 100)
      (leaf2 : ∀ C s₂ m₂ E', ∀ j : Nat, ∀ tj, s₁.heap.objs.size ≤ C → j < n → s₂.heap.Ns C m₂ → m₂ x = some (.int j tj) → (∀ b o, s₁.heap.get? b = some o → s₂.heap.get? b = some o) →
        wpAny (model prog w) A (eval i2 (compEnvC scope cl C env)) (fun xv s₃ => (∃ r2 t u v, xv = .ref r2 ∧ IsRange s₃.heap r2 0 j 1 t u v) ∧ Keeps s₂ s₃) E' s₂)
      (tests : ∀ C s₂ m₂ E', ∀ i j : Nat, ∀ ti tj, s₁.heap.objs.size ≤ C → i < j → j < n → s₂.heap.Ns C m₂ → m₂ x = some (.int j tj) → m₂ y = some (.int i ti) → (∀ b o, s₁.heap.get? b = some o → s₂.heap.get? b = some o) →
        wpAny (model prog w) A (forIn ifs true fun c r => if r = true then do let ok ← isTrue c (compEnvC scope cl C env) (eval c (compEnvC scope cl C env)); pure (ForInStep.yield ok) else pure (ForInStep.yield r))
          (fun ok s₃ => ok = pz i j ∧ Keeps s₂ s₃) E' s₂)
      (elt1 : ∀ C s₂ m₂ E', s₁.heap.objs.size ≤ C → s₂.heap.Ns C m₂ → (∀ b o, s₁.heap.get? b = some o → s₂.heap.get? b = some o) →
        wpAny (model prog w) A (eval elt (compEnvC scope cl C env)) (fun v s₃ => (∃ t, v = .int 1 t) ∧ Keeps s₂ s₃) E' s₂)
      (hQ : ∀ D ys h' tk, s₁.heap.get? D = none → h'.IsList D ys → h'.PlainList D ys → IntsAre ys.toList (List.replicate (pairCnt pz n) 1) → (∀ b o, s₁.heap.get? b = some o → h'.get? b = some o) → Q (.ref D) { s₁ with heap := h', toks := tk })
section
variable {prog : Program} {w : World} {A : Around} {E : Value → Shared → Prop} {env : Env}
theorem pairs_comp {s : Shared} {elt i1 i2 : Expr} {x y : Str} {px py : Pos} {ifs : List Expr} {scope : Scope} {cl : List (Str × Addr)} {pos : Pos} {Q : Value → Shared → Prop} (pz : Nat → Nat → Bool)
    (hh : A.handled = none) (hclos : closureFor scope env = pure cl) (hcell : ∀ z ∈ scope.names, z.2 ≠ .cell) (hkind : scope.kind = .function)
    (hnames : ∀ z ∈ scope.names, z.2 = .local → scope.names.lookup z.1 = some .local) (hx : scope.names.lookup x = some .local) (hy : scope.names.lookup y = some .local) (hxy : x ≠ y)
    (h : wpAny (model prog w) A (eval i1 env) (PcPack prog w A env elt i2 ifs x y scope cl pz Q) E s)
    (hs1 : ∀ x, foldedSetIterable i1 env x = pure x) (hs2 : ∀ C x, foldedSetIterable i2 (compEnvC scope cl C env) x = pure x) (hp0 : ∀ C, ((compEnvC scope cl C env).scope.kind == .class || ((compEnvC scope cl C env).scope.kind == .module && (compEnvC scope cl C env).locals != (compEnvC scope cl C env).globals)) = false) :
    wpAny (model prog w) A (eval (.ListComp elt [⟨.Name x px, i1, [], 0⟩, ⟨.Name y py, i2, ifs, 0⟩] scope pos) env) Q E s := by
  rw [eval_ListComp]
  refine wpAny_comprehension_free (use := none) rfl hs1 hclos hkind hnames (wpAny_mono h (fun xv s₁ h₁ => ?_) fun _ _ e => e)
  obtain ⟨r, n, t, u, v, rfl, hr, hn, leaf2, tests, elt1, hQ⟩ := h₁
  refine wpAny_pyIter_range hr (small_one (by decide) (by decide) (by (first | lia | omega)) (by (first | lia | omega))) ?_
  rw [rangeSize_nat, show ((n : Int) - 0).toNat = n by (first | lia | omega)]
  refine wpAny_newObj_type (wpAny_newFunctionEnv hcell (by intro y hy; simp at hy) (fun h₁ hns₁ hsb₁ => ?_) hkind)
  dsimp only at hns₁ hsb₁ ⊢
  have hI : s₁.heap.objs.size < s₁.heap.objs.size + 1 := Nat.lt_succ_self _
  generalize hH1 : s₁.heap.push { cls := .type "range_iterator", data := .fields #[rawInt 0, rawInt (n : Int), rawInt 1] } = H1 at hns₁ hsb₁ ⊢
  have hD0 : H1.objs.size = s₁.heap.objs.size + 1 := by rw [← hH1, Heap.size_push]
  generalize hH2 : H1.push { cls := .type "list", dict := none, data := .seq ([] : List Value).toArray } = H2 at hns₁ hsb₁ ⊢
  have hC0 : H2.objs.size = s₁.heap.objs.size + 2 := by rw [← hH2, Heap.size_push, hD0]
  generalize hIe : s₁.heap.objs.size = I at hI hD0 hC0 ⊢
  generalize hDe : H1.objs.size = D at hD0 ⊢
  generalize hCe : H2.objs.size = C at hC0 hns₁ hsb₁ ⊢
  have hDC : D ≠ C := by (first | lia | omega)
  have hID : I ≠ D := by (first | lia | omega)
  have hIC : I ≠ C := by (first | lia | omega)
  have hIle : s₁.heap.objs.size ≤ C := by (first | lia | omega)
  have below : ∀ b o, s₁.heap.get? b = some o → b ≠ I ∧ b ≠ D ∧ b ≠ C := fun b o e => by
    have hb := Heap.lt_size e
    rw [hIe] at hb
    exact ⟨Nat.ne_of_lt hb, Nat.ne_of_lt (by rw [hD0]; exact Nat.lt_succ_of_lt hb), Nat.ne_of_lt (by rw [hC0]; exact Nat.lt_succ_of_lt (Nat.lt_succ_of_lt hb))⟩
  have up1 : ∀ b o, s₁.heap.get? b = some o → h₁.get? b = some o := fun b o e => hsb₁.extBut b o (below b o e).2.2 (Heap.get?_push_of_some _ (by rw [← hH2]; exact Heap.get?_push_of_some _ (by rw [← hH1]; exact Heap.get?_push_of_some _ e)))
  have hacc : h₁.PlainList D #[] := ⟨_, hsb₁.extBut _ _ hDC (Heap.get?_push_of_some _ (by rw [← hH2, ← hDe]; exact Heap.get?_push_size _ rfl))⟩
  have W := Walks.range (prog := prog) (w := w) (A := A) hh I 0 1 n
  have hst₁ : IsRangeIter h₁ I (0 + ((0 : Nat) : Int) * 1) ((n : Int) - ((0 : Nat) : Int)) 1 := by
    refine hsb₁.extBut _ _ hIC (Heap.get?_push_of_some _ ?_)
    rw [← hH2]
    refine Heap.get?_push_of_some _ ?_
    rw [← hH1, ← hIe]
    have : ({ cls := .type "range_iterator", data := .fields #[rawInt 0, rawInt (n : Int), rawInt 1] } : Obj) = { cls := .type "range_iterator", dict := none, data := .fields #[rawInt (0 + ((0 : Nat) : Int) * 1), rawInt ((n : Int) - ((0 : Nat) : Int)), rawInt 1], slots := #[] } := by simp
    rw [this]
    exact Heap.get?_push_size _ rfl
  have hkx : (compEnvC scope cl C env).kindOf x = some .local := lookup_relabel_local hx
  have hky : (compEnvC scope cl C env).kindOf y = some .local := lookup_relabel_local hy
  have loop : ∀ s₃ : Shared, s₃ = { s₁ with heap := h₁, toks := s₁.toks + ([] : List (Str × Value)).length } →
      codeAny (model prog w) A (.compLoop (.ListComp elt [⟨.Name x px, i1, [], 0⟩, ⟨.Name y py, i2, ifs, 0⟩] scope pos) 0 (.ref I) (.ref D) (compEnvC scope cl C env)) (compPost (model prog w) A E none Q (.ref D) C) s₃ := by
    rintro s₃ rfl
    refine loop2_0 (PcOut s₁ pz n I D C) ?_ (n + 1)
      ⟨0, h₁, _, _, #[], rfl, rfl, Nat.zero_le _, hst₁, hacc, hns₁, by simpa [pairCnt] using IntsAre.nil, up1⟩ (fun _ => rfl) (fun x => hs2 C x)
    rintro k s' ⟨j, h2, tk2, m2, ys, rfl, rfl, hj, hst, hpl, hns, hys, hk⟩
    by_cases hlt : j < n
    · refine W.item j _ _ _ hlt hst fun v h3 tk3 hP hst3 hk3 => ?_
      obtain ⟨tj, rfl⟩ := hP
      replace hk3 : ∀ b o, b ≠ I → h2.get? b = some o → h3.get? b = some o := fun b o hb e => hk3 b o (by simp [hb]) e
      refine wpAny_assign_Name (wpAny_storeName_local hkx (hns.at' fun o e => hk3 _ o (Ne.symm hIC) e) (fun h4 hn4 hs4 => ?_) (hp0 C))
      have ej : (0 : Int) + (j : Int) * 1 = (j : Int) := by (first | lia | omega)
      rw [ej] at hn4
      have k24 : ∀ b o, b ≠ I → b ≠ C → h2.get? b = some o → h4.get? b = some o := fun b o h1 h2 e => hs4.extBut b o h2 (hk3 b o h1 e)
      have k4 : ∀ b o, s₁.heap.get? b = some o → h4.get? b = some o := fun b o e => k24 b o (below b o e).1 (below b o e).2.2 (hk b o e)
      have hst4 : IsRangeIter h4 I (0 + ((j + 1 : Nat) : Int) * 1) ((n : Int) - ((j + 1 : Nat) : Int)) 1 := hs4.extBut _ _ hIC hst3
      refine wpAny_mono (leaf2 C _ _ _ j tj hIle hlt hn4 (by simp) k4) (fun xv s5 h5 => ?_) fun _ _ e => e
      obtain ⟨⟨r2, t2, u2, v2, rfl, hr2⟩, H5, tk5, rfl, hk5⟩ := h5
      refine wpAny_pyIter_range hr2 (small_one (by decide) (by decide) (by (first | lia | omega)) (by (first | lia | omega))) ?_
      rw [rangeSize_nat, show ((j : Int) - 0).toNat = j by (first | lia | omega)]
      dsimp only
      have k46 : ∀ b o, h4.get? b = some o → (H5.push { cls := .type "range_iterator", data := .fields #[rawInt 0, rawInt (j : Int), rawInt 1] }).get? b = some o := fun b o e => Heap.get?_push_of_some _ (hk5 b o e)
      have hI2 : ∀ b o, h4.get? b = some o → b ≠ H5.objs.size := fun b o e => Nat.ne_of_lt (Heap.lt_size (hk5 b o e))
      have it2 : IsRangeIter (H5.push { cls := .type "range_iterator", data := .fields #[rawInt 0, rawInt (j : Int), rawInt 1] }) H5.objs.size (0 + ((0 : Nat) : Int) * 1) ((j : Int) - ((0 : Nat) : Int)) 1 := by
        have : ({ cls := .type "range_iterator", data := .fields #[rawInt 0, rawInt (j : Int), rawInt 1] } : Obj) = { cls := .type "range_iterator", dict := none, data := .fields #[rawInt (0 + ((0 : Nat) : Int) * 1), rawInt ((j : Int) - ((0 : Nat) : Int)), rawInt 1], slots := #[] } := by simp
        rw [this]
        exact Heap.get?_push_size _ rfl
      generalize H5.push { cls := .type "range_iterator", data := .fields #[rawInt 0, rawInt (j : Int), rawInt 1] } = H6 at k46 it2 ⊢
      generalize H5.objs.size = I2 at hI2 it2 ⊢
      have plD : h4.PlainList D ys := hpl.at fun o e => k24 _ _ (Ne.symm hID) hDC e
      have hI2D : I2 ≠ D := by obtain ⟨q, e⟩ := plD; exact (hI2 _ _ e).symm
      have hI2C : I2 ≠ C := by obtain ⟨o, _, _, e, _⟩ := hn4; exact (hI2 _ _ e).symm
      have hI2I : I2 ≠ I := (hI2 _ _ hst4).symm
      have W2 := Walks.range (prog := prog) (w := w) (A := A) hh I2 0 1 j
      have inner : ∀ s₇ : Shared, s₇ = { s₁ with heap := H6, toks := tk5 } →
          codeAny (model prog w) A (.compLoop (.ListComp elt [⟨.Name x px, i1, [], 0⟩, ⟨.Name y py, i2, ifs, 0⟩] scope pos) 1 (.ref I2) (.ref D) (compEnvC scope cl C env)) (fun r s₅ => match r with
              | .ok _ => ∃ m, m < n + 1 - j ∧ PcOut s₁ pz n I D C m s₅
              | .error e => cameBackBy (model prog w) A (compEnvC scope cl C env) (notedBy (model prog w) A (compEnvC scope cl C env) fun e s' => compPost (model prog w) A E none Q (.ref D) C (.error e) s') e s₅) s₇ := by
        rintro s₇ rfl
        refine loop2_1 (PcIn s₁ pz n I I2 D C x j tj) ?_ (j + 1)
          ⟨0, H6, tk5, _, ys, rfl, rfl, Nat.zero_le _, it2, k46 _ _ hst4, plD.at fun o e => k46 _ _ e, hn4.keeps k46, by simp, by simpa using hys, fun b o e => k46 b o (k4 b o e)⟩ (fun _ => rfl)
        rintro k s' ⟨i, h7, tk7, m7, ys7, rfl, rfl, hi, hst7, hsto7, hpl7, hns7, hmx, hys7, hk7⟩
        by_cases hlt2 : i < j
        · refine W2.item i _ _ _ hlt2 hst7 fun v h8 tk8 hP hst8 hk8 => ?_
          obtain ⟨ti, rfl⟩ := hP
          replace hk8 : ∀ b o, b ≠ I2 → h7.get? b = some o → h8.get? b = some o := fun b o hb e => hk8 b o (by simp [hb]) e
          refine wpAny_assign_Name (wpAny_storeName_local hky (hns7.at' fun o e => hk8 _ o (Ne.symm hI2C) e) (fun h9 hn9 hs9 => ?_) (hp0 C))
          have ei : (0 : Int) + (i : Int) * 1 = (i : Int) := by (first | lia | omega)
          rw [ei] at hn9
          have k79 : ∀ b o, b ≠ I2 → b ≠ C → h7.get? b = some o → h9.get? b = some o := fun b o h1 h2 e => hs9.extBut b o h2 (hk8 b o h1 e)
          have ns1 : ∀ b o, s₁.heap.get? b = some o → b ≠ I2 := fun b o e => hI2 b o (k4 b o e)
          have k9 : ∀ b o, s₁.heap.get? b = some o → h9.get? b = some o := fun b o e => k79 b o (ns1 b o e) (below b o e).2.2 (hk7 b o e)
          have hmx9 : (fun z => if z = y then some (Value.int (i : Int) ti) else m7 z) x = some (.int j tj) := by simp [hxy, hmx]
          refine wpAny_mono (tests C _ _ _ i j ti tj hIle hlt2 hlt hn9 hmx9 (by simp) k9) (fun ok s10 h10 => ?_) fun _ _ e => e
          obtain ⟨rfl, H10, tk10, rfl, hk10⟩ := h10
          have kA : ∀ b o, b ≠ I2 → b ≠ C → h7.get? b = some o → H10.get? b = some o := fun b o h1 h2 e => hk10 b o (k79 b o h1 h2 e)
          have stA : IsRangeIter H10 I2 (0 + ((i + 1 : Nat) : Int) * 1) ((j : Int) - ((i + 1 : Nat) : Int)) 1 := hk10 _ _ (hs9.extBut _ _ hI2C hst8)
          have stoA := kA _ _ (Ne.symm hI2I) hIC hsto7
          have plA : H10.PlainList D ys7 := hpl7.at fun o e => kA _ _ (Ne.symm hI2D) hDC e
          have nsA := hn9.keeps hk10
          cases hpv : pz i j with
          | false =>
            simp only [Bool.false_eq_true, if_false]
            refine ⟨j + 1 - (i + 1), by (first | lia | omega), i + 1, H10, tk10, _, ys7, rfl, rfl, hlt2, stA, stoA, plA, nsA, hmx9, ?_, fun b o e => hk10 b o (k9 b o e)⟩
            rw [count_range_succ, hpv]
            simpa using hys7
          | true =>
            simp only [if_true]
            refine wpAny_mono (elt1 C _ _ _ hIle nsA fun b o e => hk10 b o (k9 b o e)) (fun vv s11 h11 => ?_) fun _ _ e => e
            obtain ⟨⟨t1, rfl⟩, H11, tk11, rfl, hk11⟩ := h11
            have hsz : ys7.size ≤ sizeLine := by
              have e1 := hys7.length
              rw [List.length_replicate, Array.length_toList] at e1
              have e2 := pairCnt_le pz j
              have e3 : (List.range i).countP (fun i => pz i j) ≤ i := by
                have := List.countP_le_length (p := fun i => pz i j) (l := List.range i)
                simpa using this
              have e4 : j * j ≤ 100 * 100 := Nat.mul_le_mul (by (first | lia | omega)) (by (first | lia | omega))
              rw [sizeLine_eq]; (first | lia | omega)
            refine wpAny_list_append_plain (hsz := hsz) (plA.at fun o e => hk11 _ o e) fun H12 hl12 hs12 => ?_
            refine ⟨j + 1 - (i + 1), by (first | lia | omega), i + 1, H12, tk11, _, ys7.push (.int 1 t1), rfl, rfl, hlt2, hs12.extBut _ _ hI2D (hk11 _ _ stA), hs12.extBut _ _ hID (hk11 _ _ stoA), hl12, (nsA.keeps hk11).sameBut hs12 (Ne.symm hDC), hmx9, ?_, fun b o e => hs12.extBut b o (below b o e).2.1 (hk11 b o (hk10 b o (k9 b o e)))⟩
            rw [count_range_succ, hpv, Array.toList_push]
            exact ints_ones hys7
        · obtain rfl : i = j := by (first | lia | omega)
          refine W2.done _ _ _ hst7 fun h8 tk8 hk8 => ?_
          replace hk8 : ∀ b o, b ≠ I2 → h7.get? b = some o → h8.get? b = some o := fun b o hb e => hk8 b o (by simp [hb]) e
          refine ⟨n + 1 - (i + 1), by (first | lia | omega), i + 1, h8, tk8, m7, ys7, rfl, rfl, hlt, hk8 _ _ (Ne.symm hI2I) hsto7, hpl7.at fun o e => hk8 _ _ (Ne.symm hI2D) e, hns7.at' fun o e => hk8 _ _ (Ne.symm hI2C) e, ?_, fun b o e => hk8 b o (hI2 b o (k4 b o e)) (hk7 b o e)⟩
          rw [pairCnt_succ]; exact hys7
      exact start2_1 (inner _ rfl) (W2.self 0 _ _ _ it2 (inner _ rfl))
    · obtain rfl : j = n := by (first | lia | omega)
      refine W.done _ _ _ hst fun h3 tk3 hk3 => ?_
      replace hk3 : ∀ b o, b ≠ I → h2.get? b = some o → h3.get? b = some o := fun b o hb e => hk3 b o (by simp [hb]) e
      have pl3 : h3.PlainList D ys := hpl.at fun o e => hk3 _ _ (Ne.symm hID) e
      refine ⟨m2, hns.at' fun o e => hk3 _ _ (Ne.symm hIC) e, fun h' hs' => hQ D ys h' tk3 ?_ (pl3.isList.extBut hs'.extBut hDC) (pl3.extBut hs'.extBut hDC) hys fun b o e => hs'.extBut b o (below b o e).2.2 (hk3 b o (below b o e).1 (hk b o e))⟩
      cases e : s₁.heap.get? D with
      | none => rfl
      | some o => exact absurd rfl (below _ _ e).2.1
  exact codeAny_compStart_list (loop _ rfl) (W.self 0 _ _ _ hst₁ (loop _ rfl))
end
end Mine
end

section
-- Pairs
example : True := by w_top off; trivial
open PySem PySem.W PyProof.Rows PySem.Calls PySem.Spec
set_option maxRecDepth 100000
namespace Mine
theorem eval_range1 {prog : Program} {w : World} {A : Around} {E : Value → Shared → Prop} {s : Shared} {env : Env} {mg mb m : Str → Option Value} {xa : Str} {p0 p1 pos : Pos} {n : Int} {tn : Tok} {Q : Value → Shared → Prop} (hk : env.scope.kind = .function) (hx : env.kindOf "range" = some .globalImplicit) (hg : s.heap.Ns env.globals mg) (hmiss : mg "range" = none) (hb : s.heap.Ns env.builtins mb) (hv : mb "range" = some (.type "range"))
    (hl : env.kindOf xa = some .local) (hn : s.heap.Ns env.locals m) (hm : m xa = some (.int n tn)) (hd : (xa == ("__debug__" : Str)) = false) (h : ∀ r h' tk t u v, IsRange h' r 0 n 1 t u v → (∀ b o, s.heap.get? b = some o → h'.get? b = some o) → Q (.ref r) { s with heap := h', toks := tk }) :
    wpAny (model prog w) A (eval (.Call (.Name "range" p0) [.Name xa p1] [] pos) env) Q E s := by
  show wpAny _ A (do callWith pos (← eval (.Name "range" p0) env) [] (backTo pos (starEach [.Name xa p1] env)) (backToKw pos (keywordEach [] env))) Q E s
  refine wpAny_bind (Calls.Name_function_global hk hx (Calls.loadGlobal_builtin hg hmiss hb hv ?_) (by decide))
  rw [show backTo pos (starEach [.Name xa p1] env) = [(false, eval (.Name xa p1) env)] from rfl]
  refine PyProof.Rows.callWith_type rfl (Calls.evalArgs_plain (Calls.spliced_cons (eval_local hk hl hn hm hd (Calls.spliced_nil ?_))))
  exact call_range_1 (h _ _ _ _ _ _ (IsRange.new ..) fun b o e => Heap.get?_push_of_some _ e)
/-- what _law_pairs tells -/
noncomputable def pairsK (ns : List Int) : Int := (pairCnt (fun i j => decide (ns.getD j 0 < ns.getD i 0)) ns.length : Nat)
section
variable {w : World} {p : Program} {loose : List Str} {mean : ExcName → Option Value} {mg mb : Str → Option Value} {G : Heap} {s : Shared} {Q E : Value → Shared → Prop}
set_option maxHeartbeats 1000000
theorem c_pairs {lr : Addr} {vs : List Value} {ns : List Int} (D : Gd w p loose mean mg mb G) (St : G.StaysIn s.heap) (hl : s.heap.IsList lr vs.toArray) (hi : IntsAre vs ns) (hn : ns.length ≤ 10)
    (hret : ∀ t h' tk', (∀ b o, s.heap.get? b = some o → h'.get? b = some o) → Q (.int (pairsK ns) t) { s with heap := h', toks := tk' }) :
    wpAny (model Challenge.rw_oc0165_01.row.prog w) (Am 350 100) (call (.ref 279) [.ref lr]) Q E s := by
  have fill : (hd.heap_1 w.params).In G := D.X
  revert fill
  k_fill
  intro _
  refine wpAny_call ?_
  refine' enterC (binds := [("ranks", .ref lr)]) [] D St ?k3 ?k4 ?k6 ?k7 ?k8 ?k9 ?kB ?kD ?c2 ?c3 ?c4 ?_
  case k3 => exact fun _ q => nomatch q
  case k4 => exact fun _ q => nomatch q
  (((case k6 => k_is); (case k7 => k_is); (case k8 => decide)))
  case k9 => exact BindsTo.of_eq rfl
  case kB => exact rfl
  case kD => decide +kernel
  case c2 => exact rfl
  case c3 => exact rfl
  case c4 => exact rfl
  intro g L h tk cells hg hL F N Y X T l1 hkeep hst
  obtain ⟨o1, hE, d1⟩ := CellsAre.one Y
  subst hE
  clear Y
  dsimp only [List.cons_append, List.nil_append] at N
  have hlg : g.IsList lr vs.toArray := hl.at fun o e => hkeep _ _ e fun _ q => nomatch q
  replace d1 : o1.data = .cell (some (.ref lr)) := d1
  dsimp only
  try k_fold
  (repeat' (first | (fail_if_success (with_reducible show wpAny _ _ (exec (Stmt.For _ _ _ _ _) _) _ _ _)); (fail_if_success (with_reducible show wpAny _ _ (eval (PySem.Expr.ListComp _ _ _ _) _) _ _ _)); (fail_if_success (with_reducible show CompPack _)); (fail_if_success (with_reducible show SeqLeaf _)); (first | (k_unfold; (try dsimp only)) | walk1 | (dsimp only; walk1))))
  apply pairs_comp (pz := fun i j => decide (ns.getD j 0 < ns.getD i 0))
  case hh => with_unfolding_all rfl
  case hclos => with_unfolding_all rfl
  case hcell => decide
  case hkind => with_unfolding_all rfl
  case hnames => decide
  case hx => with_unfolding_all rfl
  case hy => with_unfolding_all rfl
  case hxy => decide
  case hs1 => intro _; with_unfolding_all rfl
  case hs2 => intro _ _; with_unfolding_all rfl
  case hp0 => intro _; with_unfolding_all rfl
  refine wpAny_compPack ?_
  (repeat' (first | (fail_if_success (with_reducible show wpAny _ _ (exec (Stmt.For _ _ _ _ _) _) _ _ _)); (fail_if_success (with_reducible show wpAny _ _ (eval (PySem.Expr.ListComp _ _ _ _) _) _ _ _)); (fail_if_success (with_reducible show CompPack _)); (fail_if_success (with_reducible show SeqLeaf _)); (first | (k_unfold; (try dsimp only)) | walk1 | (dsimp only; walk1))))
  rename IsRange _ _ _ _ _ _ _ _ => hr1
  rename Fr _ _ _ _ => F1
  rename News _ _ _ _ => N1
  have hL1 : _root_.PySem.Heap.IsList _ lr vs.toArray := hlg.at fun o e => F1.keep _ _ e
  refine CompPack.intro ⟨_, ns.length, _, _, _, rfl, hr1, by omega, ?_, ?_, ?_, ?_⟩
  · intro C s₂ m₂ E' j tj hC hj hn hm hk
    dsimp only at hC hk
    have gk : ∀ b o, g.get? b = some o → s₂.heap.get? b = some o := fun b o e => hk b o (F1.keep b o e)
    exact eval_range1 rfl rfl (T.g.keeps gk) (mg_none_of X T.g (by k_is)) (T.b.keeps gk) ((T.builtins _ (by decide +kernel)).trans (by first | boot_by_name | rfl | kernel_rfl)) rfl hn hm (by decide) fun r h' tk' t u v hr hkk => ⟨⟨r, t, u, v, rfl, hr⟩, _, _, rfl, hkk⟩
  · intro C s₂ m₂ E' i j ti tj hC hij hj hn hmj hmi hk
    dsimp only at hC hk
    have Fc := frInComp hn hk hC
    have hiI : (i : Int) < (ns.length : Int) := by omega
    have hjI : (j : Int) < (ns.length : Int) := by omega
    have hL2 : s₂.heap.IsList lr vs.toArray := hL1.at fun o e => hk _ _ e
    have hcell : s₂.heap.IsCell (L + 1) (some (.ref lr)) := ⟨o1, hk _ _ (N1 _ (.head _)).1, d1⟩
    have hgi : ∀ k : Nat, k < ns.length → ∃ tk, vs[k]? = some (.int (ns.getD k 0) tk) := fun k hk => by
      have hkv : k < vs.length := by rw [hi.length]; exact hk
      obtain ⟨z, t, e1, e2⟩ := ints_item hi (List.getElem?_eq_getElem hkv)
      refine ⟨t, ?_⟩
      rw [List.getElem?_eq_getElem hkv, e1, List.getD, e2]; rfl
    obtain ⟨tI, hIv⟩ := hgi i (by (first | lia | omega))
    obtain ⟨tJ, hJv⟩ := hgi j hj
    refine wpAny_tests_one (wpAny_isTrue_Compare1 ?_)
    refine Subscript_ (ldCellK rfl hcell (ldVarK hn hmi ?_))
    refine item_listL (k := (i : Int)) (x := .int (ns.getD i 0) tI) hL2 (Int.natCast_nonneg i) (by (first | lia | omega)) hIv ?_
    refine Subscript_ (ldCellK rfl hcell (ldVarK hn hmj ?_))
    refine item_listL (k := (j : Int)) (x := .int (ns.getD j 0) tJ) hL2 (Int.natCast_nonneg j) (by (first | lia | omega)) hJv ?_
    refine PyProof.Rows.gt_int (wpAny_truthy_bool ?_)
    exact ⟨rfl, _, _, rfl, fun _ _ e => e⟩
  · intro C s₂ m₂ E' hC hn hk
    have Fc := frInComp hn hk hC
    refine wpAny_leafK ?_
    (repeat' (first | (fail_if_success (with_reducible show wpAny _ _ (exec (Stmt.For _ _ _ _ _) _) _ _ _)); (fail_if_success (with_reducible show wpAny _ _ (eval (PySem.Expr.ListComp _ _ _ _) _) _ _ _)); (fail_if_success (with_reducible show CompPack _)); (fail_if_success (with_reducible show SeqLeaf _)); (first | (k_unfold; (try dsimp only)) | walk1 | (dsimp only; walk1))))
    exact SeqLeaf.intro ⟨⟨_, rfl⟩, _, _, rfl, fun _ _ e => e⟩
  · intro D2 ys h2 tk2 hD2 hl2 hpl2 hys2 hk2
    have F2 := frK F1 hk2
    have N2 := newsK N1 hk2
    clear F1 N1
    have hl3 : h2.IsList D2 ys.toList.toArray := hl2
    have hcnt := pairCnt_le (fun i j => decide (ns.getD j 0 < ns.getD i 0)) ns.length
    have hc100 : ns.length * ns.length ≤ 10 * 10 := Nat.mul_le_mul hn hn
    have hrl : (List.replicate (pairCnt (fun i j => decide (ns.getD j 0 < ns.getD i 0)) ns.length) (1 : Int)).length ≤ 100 := by rw [List.length_replicate]; (first | lia | omega)
    (repeat' (first | (fail_if_success (with_reducible show wpAny _ _ (exec (Stmt.For _ _ _ _ _) _) _ _ _)); (fail_if_success (with_reducible show wpAny _ _ (eval (PySem.Expr.ListComp _ _ _ _) _) _ _ _)); (fail_if_success (with_reducible show CompPack _)); (fail_if_success (with_reducible show SeqLeaf _)); (first | (k_unfold; (try dsimp only)) | walk1 | (dsimp only; walk1))))
    rename Fr _ _ _ _ => F3
    have hsum : (List.replicate (pairCnt (fun i j => decide (ns.getD j 0 < ns.getD i 0)) ns.length) (1 : Int)).sum = pairsK ns := by
      unfold pairsK
      generalize pairCnt (fun i j => decide (ns.getD j 0 < ns.getD i 0)) ns.length = c
      induction c with
      | zero => rfl
      | succ c ih => rw [List.replicate_succ, List.sum_cons, ih]; (first | lia | omega)
    rw [hsum]
    exact hret _ _ _ (fun b o e => F3.keep _ _ (hkeep _ _ e fun _ q => nomatch q))
end
section
variable {w : World} {p : Program} {loose : List Str} {mean : ExcName → Option Value} {mg mb : Str → Option Value} {G g : Heap} {L : Addr} {m : Str → Option Value} {nw : List (Addr × Obj)} {A : Around} {s : Shared} {Q E : Value → Shared → Prop}
theorem u_pairs {lr : Addr} {vs : List Value} {ns : List Int} (F : Fr g L s.heap m) (N : News g L s.heap nw) (D : Gd w p loose mean mg mb G) (hs : G.StaysIn g) (hh : A.handled = none) (hd : A.depth ≤ 350) (hu : A.units ≤ 100) (hl : s.heap.IsList lr vs.toArray) (hi : IntsAre vs ns) (hn : ns.length ≤ 10)
    (k : ∀ t h' tk', Fr g L h' m → News g L h' nw → Q (.int (pairsK ns) t) { s with heap := h', toks := tk' }) :
    wpAny (model Challenge.rw_oc0165_01.row.prog w) A (call (.ref 279) [.ref lr]) Q E s :=
  wp_up hh hd hu (c_pairs D (stays_fr F hs) hl hi hn fun t h' tk' hk => k t h' tk' (frK F hk) (newsK N hk))
theorem u_falls {lr : Addr} {vs : List Value} {ns : List Int} (F : Fr g L s.heap m) (N : News g L s.heap nw) (D : Gd w p loose mean mg mb G) (hs : G.StaysIn g) (hh : A.handled = none) (hd : A.depth ≤ 350) (hu : A.units ≤ 100) (hl : s.heap.IsList lr vs.toArray) (hi : IntsAre vs ns) (hn : ns.length ≤ 10)
    (k : ∀ t h' tk', Fr g L h' m → News g L h' nw → Q (.int (fallsK ns) t) { s with heap := h', toks := tk' }) :
    wpAny (model Challenge.rw_oc0165_01.row.prog w) A (call (.ref 284) [.ref lr]) Q E s :=
  wp_up hh hd hu (c_falls D (stays_fr F hs) hl hi hn fun t h' tk' hk => k t h' tk' (frK F hk) (newsK N hk))
end
end Mine
end

section
-- ZipD
example : True := by w_top off; trivial
open PySem PySem.W PyProof.Rows PySem.Calls PySem.Spec
set_option maxRecDepth 100000
namespace Mine
structure ZipAp (z TI TO i1 i2 : Addr) (fp1 fp2 : List Addr) : Prop where
  TIz : TI ≠ z
  TOz : TO ≠ z
  i1z : i1 ≠ z
  i2z : i2 ≠ z
  TITO : TI ≠ TO
  TIi1 : TI ≠ i1
  TIi2 : TI ≠ i2
  TOi1 : TO ≠ i1
  TOi2 : TO ≠ i2
  i12 : i1 ≠ i2
  f1 : ∀ b ∈ fp1, b ≠ z ∧ b ≠ TO ∧ b ≠ i2
  f2 : ∀ b ∈ fp2, b ≠ z ∧ b ≠ TO ∧ b ≠ i1
section
variable {prog : Program} {w : World} {A : Around} {E : Value → Shared → Prop} {s : Shared} {z TI TO i1 i2 : Addr} {fp1 fp2 : List Addr} {n1 n2 : Nat} {P1 P2 : Nat → Value → Prop} {St1 St2 : Nat → Heap → Prop} {k : Nat} {a b : Value}
theorem zipD_item {Q : Value → Shared → Prop} (D1 : Draws prog w A i1 fp1 n1 P1 St1) (D2 : Draws prog w A i2 fp2 n2 P2 St2) (D : ZipAp z TI TO i1 i2 fp1 fp2)
    (hz : IsZip s.heap z TI TO .none) (hTI : IsPair s.heap TI (.ref i1) (.ref i2)) (hTO : IsPair s.heap TO a b) (h1 : St1 k s.heap) (h2 : St2 k s.heap) (hk1 : k < n1) (hk2 : k < n2)
    (hQ : ∀ x y h' tk', P1 k x → P2 k y → IsZip h' z TI TO (rawInt s.heap.objs.size) → IsPair h' TO x y → St1 (k + 1) h' → St2 (k + 1) h' → IsPair h' s.heap.objs.size x y →
      (∀ c o, c ≠ z → c ≠ TO → c ≠ i1 → c ≠ i2 → s.heap.get? c = some o → h'.get? c = some o) → Q (.ref s.heap.objs.size) { s with heap := h', toks := tk' }) :
    wpAny (model prog w) A (Builtin.«zip.__next__» ⟨[.ref z], []⟩) (fun fin s' => ∃ v, fin = .done (.ret v) ∧ Q v s') E s := by
  show wpAny _ _ (field (.ref z) 2 >>= _) _ _ _
  refine wpAny_bind (wpAny_field hz rfl (x := .bool false) rfl ?_)
  show wpAny _ _ (field (.ref z) 3 >>= _) _ _ _
  refine wpAny_bind (wpAny_field hz rfl (x := .ref TI) rfl ?_)
  refine wpAny_bind (wpAny_seqItems hTI rfl ?_)
  show wpAny _ _ (Builtin.SmallTypes.ownedTupleIsFree (.ref z) >>= _) _ _ _
  refine wpAny_bind ?_
  unfold Builtin.SmallTypes.ownedTupleIsFree
  refine wpAny_bind (wpAny_field hz rfl (x := .none) rfl (wpAny_pure ?_))
  simp only [if_true]
  refine wpAny_bind (wpAny_rule ?_)
  refine wpAny_bind (wpAny_field hz rfl (x := .ref TO) rfl ?_)
  refine wpAny_bind (wpAny_setField_rec hz (by simp) fun h₁ hz₁ hs₁ => ?_)
  replace hz₁ : IsZip h₁ z TI TO .ellipsis := hz₁
  refine wpAny_bind ?_
  simp only [List.zipIdx_cons, List.zipIdx_nil, List.forIn_cons, List.forIn_nil]
  refine wpAny_bind (wpAny_bind (wpAny_onRaise ?_))
  show wpAny _ _ (Builtin.SmallTypes.nextOf (.ref i1) >>= _) _ _ _
  have s11 : St1 k h₁ := D1.frame _ _ _ h1 fun b hb o e => hs₁.extBut _ _ (D.f1 b hb).1 e
  have s21 : St2 k h₁ := D2.frame _ _ _ h2 fun b hb o e => hs₁.extBut _ _ (D.f2 b hb).1 e
  refine wpAny_bind (D1.item k _ _ _ hk1 s11 fun x h₂ tk₂ hPx s12 hs₂ => wpAny_pure ?_)
  have s22 : St2 k h₂ := D2.frame _ _ _ s21 fun b hb o e => hs₂.extBut _ _ (D.f2 b hb).2.2 e
  have hTO₂ : IsPair h₂ TO a b := hs₂.extBut _ _ D.TOi1 (hs₁.extBut _ _ D.TOz hTO)
  refine wpAny_bind (wpAny_seqItems hTO₂ rfl ?_)
  refine wpAny_bind (wpAny_updateSeq_pair hTO₂ fun h₃ hTO₃ hs₃ => ?_)
  replace hTO₃ : IsPair h₃ TO x b := hTO₃
  refine wpAny_bind (wpAny_letGo (wpAny_pure ?_))
  refine wpAny_bind (wpAny_bind (wpAny_onRaise ?_))
  show wpAny _ _ (Builtin.SmallTypes.nextOf (.ref i2) >>= _) _ _ _
  have s23 : St2 k h₃ := D2.frame _ _ _ s22 fun b hb o e => hs₃.extBut _ _ (D.f2 b hb).2.1 e
  have s13 : St1 (k + 1) h₃ := D1.frame _ _ _ s12 fun b hb o e => hs₃.extBut _ _ (D.f1 b hb).2.1 e
  refine wpAny_bind (D2.item k _ _ _ hk2 s23 fun y h₄ tk₄ hPy s24 hs₄ => wpAny_pure ?_)
  have s14 : St1 (k + 1) h₄ := D1.frame _ _ _ s13 fun b hb o e => hs₄.extBut _ _ (D.f1 b hb).2.2 e
  have hTO₄ : IsPair h₄ TO x b := hs₄.extBut _ _ D.TOi2 hTO₃
  refine wpAny_bind (wpAny_seqItems hTO₄ rfl ?_)
  refine wpAny_bind (wpAny_updateSeq_pair hTO₄ fun h₅ hTO₅ hs₅ => ?_)
  replace hTO₅ : IsPair h₅ TO x y := hTO₅
  refine wpAny_bind (wpAny_letGo (wpAny_pure (wpAny_pure ?_)))
  refine wpAny_bind (wpAny_seqItems hTO₅ rfl ?_)
  refine wpAny_bind (wpAny_newTuple ?_)
  have hsz : h₅.objs.size = s.heap.objs.size := by rw [hs₅.1, hs₄.1, hs₃.1, hs₂.1, hs₁.1]
  have hz₅ : IsZip h₅ z TI TO .ellipsis := hs₅.extBut _ _ D.TOz.symm (hs₄.extBut _ _ D.i2z.symm (hs₃.extBut _ _ D.TOz.symm (hs₂.extBut _ _ D.i1z.symm hz₁)))
  have hk₅ : ∀ c o, c ≠ z → c ≠ TO → c ≠ i1 → c ≠ i2 → s.heap.get? c = some o → h₅.get? c = some o := fun c o c1 c2 c3 c4 e =>
    hs₅.extBut _ _ c2 (hs₄.extBut _ _ c4 (hs₃.extBut _ _ c2 (hs₂.extBut _ _ c3 (hs₁.extBut _ _ c1 e))))
  have s15 : St1 (k + 1) h₅ := D1.frame _ _ _ s14 fun b hb o e => hs₅.extBut _ _ (D.f1 b hb).2.1 e
  have s25 : St2 (k + 1) h₅ := D2.frame _ _ _ s24 fun b hb o e => hs₅.extBut _ _ (D.f2 b hb).2.1 e
  have hzlt : z < h₅.objs.size := Heap.lt_size hz₅
  show wpAny _ _ (Builtin.SmallTypes.ownedTupleHandOut (.ref z) (.ref h₅.objs.size) >>= _) _ _ _
  refine wpAny_bind ?_
  unfold Builtin.SmallTypes.ownedTupleHandOut
  have hz₆ : IsZip (h₅.push { cls := .type "tuple", data := .seq #[x, y] }) z TI TO .ellipsis := Heap.get?_push_of_some _ hz₅
  refine wpAny_bind (wpAny_setField_rec hz₆ (by simp) fun h₇ hz₇ hs₇ => ?_)
  replace hz₇ : IsZip h₇ z TI TO (rawInt h₅.objs.size) := hz₇
  refine wpAny_setField_rec hz₇ (by simp) fun h₈ hz₈ hs₈ => ?_
  replace hz₈ : IsZip h₈ z TI TO (rawInt h₅.objs.size) := hz₈
  have up : ∀ c o, c ≠ z → h₅.get? c = some o → h₈.get? c = some o := fun c o c1 e => hs₈.extBut _ _ c1 (hs₇.extBut _ _ c1 (Heap.get?_push_of_some _ e))
  have hT₈ : IsPair h₈ h₅.objs.size x y := hs₈.extBut _ _ (Nat.ne_of_gt hzlt) (hs₇.extBut _ _ (Nat.ne_of_gt hzlt) (Heap.get?_push_size _ rfl))
  rw [hsz] at hz₈ hT₈
  refine wpAny_pure ⟨_, rfl, ?_⟩
  show Q (.ref h₅.objs.size) _
  rw [hsz]
  exact hQ x y h₈ _ hPx hPy hz₈ (up _ _ D.TOz hTO₅) (D1.frame _ _ _ s15 fun b hb o e => up _ _ (D.f1 b hb).1 e) (D2.frame _ _ _ s25 fun b hb o e => up _ _ (D.f2 b hb).1 e) hT₈ fun c o c1 c2 c3 c4 e => up c o c1 (hk₅ c o c1 c2 c3 c4 e)
theorem zipD_end {Q : Fin → Shared → Prop} (D1 : Draws prog w A i1 fp1 n1 P1 St1) (D2 : Draws prog w A i2 fp2 n2 P2 St2) (D : ZipAp z TI TO i1 i2 fp1 fp2)
    (hz : IsZip s.heap z TI TO .none) (hTI : IsPair s.heap TI (.ref i1) (.ref i2)) (hTO : IsPair s.heap TO a b) (h1 : St1 (min n1 n2) s.heap) (h2 : St2 (min n1 n2) s.heap)
    (hE : ∀ h' e tk', (∀ c o, c ≠ z → c ≠ TO → c ≠ i1 → c ≠ i2 → s.heap.get? c = some o → h'.get? c = some o) → (∃ o, h'.get? e = some o ∧ o.cls = .type "StopIteration") → E (.ref e) { s with heap := h', toks := tk' }) :
    wpAny (model prog w) A (Builtin.«zip.__next__» ⟨[.ref z], []⟩) Q E s := by
  show wpAny _ _ (field (.ref z) 2 >>= _) _ _ _
  refine wpAny_bind (wpAny_field hz rfl (x := .bool false) rfl ?_)
  show wpAny _ _ (field (.ref z) 3 >>= _) _ _ _
  refine wpAny_bind (wpAny_field hz rfl (x := .ref TI) rfl ?_)
  refine wpAny_bind (wpAny_seqItems hTI rfl ?_)
  show wpAny _ _ (Builtin.SmallTypes.ownedTupleIsFree (.ref z) >>= _) _ _ _
  refine wpAny_bind ?_
  unfold Builtin.SmallTypes.ownedTupleIsFree
  refine wpAny_bind (wpAny_field hz rfl (x := .none) rfl (wpAny_pure ?_))
  simp only [if_true]
  refine wpAny_bind (wpAny_rule ?_)
  refine wpAny_bind (wpAny_field hz rfl (x := .ref TO) rfl ?_)
  refine wpAny_bind (wpAny_setField_rec hz (by simp) fun h₁ hz₁ hs₁ => ?_)
  replace hz₁ : IsZip h₁ z TI TO .ellipsis := hz₁
  refine wpAny_bind ?_
  simp only [List.zipIdx_cons, List.zipIdx_nil, List.forIn_cons, List.forIn_nil]
  refine wpAny_bind (wpAny_bind (wpAny_onRaise ?_))
  show wpAny _ _ (Builtin.SmallTypes.nextOf (.ref i1) >>= _) _ _ _
  have s11 : St1 (min n1 n2) h₁ := D1.frame _ _ _ h1 fun b hb o e => hs₁.extBut _ _ (D.f1 b hb).1 e
  have s21 : St2 (min n1 n2) h₁ := D2.frame _ _ _ h2 fun b hb o e => hs₁.extBut _ _ (D.f2 b hb).1 e
  by_cases hle : n1 ≤ n2
  · rw [Nat.min_eq_left hle] at s11
    refine wpAny_bind (D1.done _ _ _ s11 fun h₂ e hs₂ he => ?_)
    obtain ⟨oe, hoe, hce⟩ := he
    have hz₂ : IsZip h₂ z TI TO .ellipsis := hs₂ _ _ D.i1z.symm hz₁
    have hez : e ≠ z := fun x => by subst x; rw [hz₂] at hoe; cases hoe; simp at hce
    refine wpAny_setField_rec hz₂ (by simp) fun h₃ _ hs₃ => hE h₃ e _ (fun c o c1 _ c3 _ x => hs₃.extBut _ _ c1 (hs₂ _ _ c3 (hs₁.extBut _ _ c1 x))) ⟨oe, hs₃.extBut _ _ hez hoe, hce⟩
  · have hm : min n1 n2 = n2 := Nat.min_eq_right (by (first | lia | omega))
    rw [hm] at s11 s21
    refine wpAny_bind (D1.item n2 _ _ _ (by (first | lia | omega)) s11 fun x h₂ tk₂ hPx s12 hs₂ => wpAny_pure ?_)
    have s22 : St2 n2 h₂ := D2.frame _ _ _ s21 fun b hb o e => hs₂.extBut _ _ (D.f2 b hb).2.2 e
    have hTO₂ : IsPair h₂ TO a b := hs₂.extBut _ _ D.TOi1 (hs₁.extBut _ _ D.TOz hTO)
    refine wpAny_bind (wpAny_seqItems hTO₂ rfl ?_)
    refine wpAny_bind (wpAny_updateSeq_pair hTO₂ fun h₃ hTO₃ hs₃ => ?_)
    refine wpAny_bind (wpAny_letGo (wpAny_pure ?_))
    refine wpAny_bind (wpAny_bind (wpAny_onRaise ?_))
    show wpAny _ _ (Builtin.SmallTypes.nextOf (.ref i2) >>= _) _ _ _
    have s23 : St2 n2 h₃ := D2.frame _ _ _ s22 fun b hb o e => hs₃.extBut _ _ (D.f2 b hb).2.1 e
    refine wpAny_bind (D2.done _ _ _ s23 fun h₄ e hs₄ he => ?_)
    obtain ⟨oe, hoe, hce⟩ := he
    have hz₄ : IsZip h₄ z TI TO .ellipsis := hs₄ _ _ D.i2z.symm (hs₃.extBut _ _ D.TOz.symm (hs₂.extBut _ _ D.i1z.symm hz₁))
    have hez : e ≠ z := fun x => by subst x; rw [hz₄] at hoe; cases hoe; simp at hce
    refine wpAny_setField_rec hz₄ (by simp) fun h₅ _ hs₅ => hE h₅ e _ (fun c o c1 c2 c3 c4 x => hs₅.extBut _ _ c1 (hs₄ _ _ c4 (hs₃.extBut _ _ c2 (hs₂.extBut _ _ c3 (hs₁.extBut _ _ c1 x))))) ⟨oe, hs₅.extBut _ _ hez hoe, hce⟩
end
section
variable {prog : Program} {w : World} {A : Around} {E : Value → Shared → Prop} {s : Shared} {z TI TO i1 i2 : Addr} {fp1 fp2 : List Addr} {n1 n2 : Nat} {P1 P2 : Nat → Value → Prop} {St1 St2 : Nat → Heap → Prop} {k : Nat} {a b : Value}
theorem walksT_zipD (D1 : Draws prog w A.in1 i1 fp1 n1 P1 St1) (D2 : Draws prog w A.in1 i2 fp2 n2 P2 St2) (D : ZipAp z TI TO i1 i2 fp1 fp2) :
    WalksT prog w A z (z :: TI :: TO :: i1 :: i2 :: (fp1 ++ fp2)) [z, TO, i1, i2] (min n1 n2)
      (fun i vals => ∃ x y, P1 i x ∧ P2 i y ∧ vals = #[x, y])
      (fun i h => IsZip h z TI TO .none ∧ IsPair h TI (.ref i1) (.ref i2) ∧ (∃ a b, IsPair h TO a b) ∧ St1 i h ∧ St2 i h)
      (fun i T h => IsZip h z TI TO (rawInt T) ∧ IsPair h TI (.ref i1) (.ref i2) ∧ (∃ a b, IsPair h TO a b) ∧ St1 (i + 1) h ∧ St2 (i + 1) h ∧ T ≠ z ∧ T ≠ TO ∧ T ≠ i1 ∧ T ≠ i2) where
  sub := fun c hc => by simp at hc ⊢; rcases hc with rfl | rfl | rfl | rfl <;> simp
  frame := fun i h h' hst hk => by
    obtain ⟨hz, hTI, ⟨a, b, hTO⟩, h1, h2⟩ := hst
    exact ⟨hk z (by simp) _ hz, hk TI (by simp) _ hTI, ⟨a, b, hk TO (by simp) _ hTO⟩, D1.frame _ _ _ h1 fun b hb o e => hk b (by simp [hb]) o e, D2.frame _ _ _ h2 fun b hb o e => hk b (by simp [hb]) o e⟩
  item := fun i s Q E hi hst hQ => by
    obtain ⟨hz, hTI, ⟨a, b, hTO⟩, h1, h2⟩ := hst
    have hT : s.TypeIs (.ref z) "zip" := ⟨_, hz, rfl⟩
    have lt : ∀ {c o}, s.heap.get? c = some o → s.heap.objs.size ≠ c := fun e => Nat.ne_of_gt (Heap.lt_size e)
    unfold pyNext
    refine wpAny_bind (wpAny_attempt (wpAny_callSpecial?_slot (name := Str.ofString "__next__") hT F.slot_zip_next
      (wpAny_call_entry F.slot_zip_next hT F.entry_zip_next (zipD_item D1 D2 D hz hTI hTO h1 h2 (Nat.lt_of_lt_of_le hi (Nat.min_le_left ..)) (Nat.lt_of_lt_of_le hi (Nat.min_le_right ..)) fun x y h' tk' hx hy a1 a2 a3 a4 a5 hk => wpAny_pure ?_) (F.args_zip_next_1 _))))
    exact hQ s.heap.objs.size #[x, y] h' tk' ⟨x, y, hx, hy, rfl⟩ (Nat.le_refl _) ⟨_, a5, rfl, _, rfl⟩
      ⟨a1, hk _ _ D.TIz D.TITO D.TIi1 D.TIi2 hTI, ⟨_, _, a2⟩, a3, a4, lt hz, lt hTO, (by obtain ⟨o, e⟩ := D1.live _ _ h1; exact lt e), (by obtain ⟨o, e⟩ := D2.live _ _ h2; exact lt e)⟩
      fun c o hc e => hk c o (fun x => hc (by simp [x])) (fun x => hc (by simp [x])) (fun x => hc (by simp [x])) (fun x => hc (by simp [x])) e
  go := fun elts k pos i T s Q E hm hQ => by
    obtain ⟨hz, hTI, ⟨a, b, hTO⟩, h1, h2, _⟩ := hm
    refine wpAny_letOwnedTupleGo_zip hz fun h' hz' hs' => hQ h' ⟨hz', hs'.extBut _ _ D.TIz hTI, ⟨a, b, hs'.extBut _ _ D.TOz hTO⟩, D1.frame _ _ _ h1 fun b hb o e => hs'.extBut _ _ (D.f1 b hb).1 e, D2.frame _ _ _ h2 fun b hb o e => hs'.extBut _ _ (D.f2 b hb).1 e⟩
      fun c o hc e => hs'.extBut _ _ (fun x => hc (by simp [x])) e
  apart := fun i T h hm hT => by
    obtain ⟨_, _, _, _, _, t1, t2, t3, t4⟩ := hm
    simp at hT
    rcases hT with rfl | rfl | rfl | rfl
    · exact t1 rfl
    · exact t2 rfl
    · exact t3 rfl
    · exact t4 rfl
  done := fun s Q E hst hQ => by
    obtain ⟨hz, hTI, ⟨a, b, hTO⟩, h1, h2⟩ := hst
    have hT : s.TypeIs (.ref z) "zip" := ⟨_, hz, rfl⟩
    unfold pyNext
    refine wpAny_bind (wpAny_attempt (wpAny_callSpecial?_slot (name := Str.ofString "__next__") hT F.slot_zip_next
      (wpAny_call_entry F.slot_zip_next hT F.entry_zip_next (zipD_end D1 D2 D hz hTI hTO h1 h2 fun h' e tk' hk he => ?_) (F.args_zip_next_1 _))))
    obtain ⟨o, ho, hc⟩ := he
    refine wpAny_bind (wpAny_isInstance (T := "StopIteration") (b := true) ⟨o, ho, hc⟩ isSubtype_stop ?_)
    exact wpAny_pure (hQ _ _ fun c o hc e => hk c o (fun x => hc (by simp [x])) (fun x => hc (by simp [x])) (fun x => hc (by simp [x])) (fun x => hc (by simp [x])) e)
  self := fun i s Q E hst hQ => wpAny_pyIter_zip hst.1 hQ
end
noncomputable abbrev zsH1 (h : Heap) (x : Str) (t : Tok) : Heap := h.push { cls := .type "str_ascii_iterator", data := .fields #[.str x t, .int 0 0] }
noncomputable abbrev zsH2 (h : Heap) (x : Str) (t : Tok) (l2 : Addr) : Heap := (zsH1 h x t).push { cls := .type "list_iterator", data := .fields #[.ref l2, .int 0 0] }
noncomputable abbrev zsH3 (h : Heap) (x : Str) (t : Tok) (l2 : Addr) : Heap := (zsH2 h x t l2).push { cls := .type "tuple", data := .seq #[.ref h.objs.size, .ref (zsH1 h x t).objs.size] }
noncomputable abbrev zsH4 (h : Heap) (x : Str) (t : Tok) (l2 : Addr) : Heap := (zsH3 h x t l2).push { cls := .type "tuple", data := .seq #[.none, .none] }
noncomputable abbrev zsH5 (h : Heap) (x : Str) (t : Tok) (l2 : Addr) : Heap := (zsH4 h x t l2).push { cls := .type "zip", data := .fields #[.none, .bool false, .bool false, .ref (zsH2 h x t l2).objs.size, .ref (zsH3 h x t l2).objs.size] }
set_option maxHeartbeats 1000000 in
theorem meets_zip_sl (x : Str) (t : Tok) (l2 : Addr) (ys : Array Value) (ha : x.cps.all (· < 128) = true) :
    Meets (Builtin.«zip.__new__» ⟨[.type "zip", .str x t, .ref l2], []⟩) (fun _ R s => s.heap.IsList l2 ys ∧
      R (.ok (.ret (.ref (zsH4 s.heap x t l2).objs.size))) { s with heap := zsH5 s.heap x t l2 }) :=
  .of_wp fun prog w A R s h => by
    obtain ⟨hp, g, d, tk, os⟩ := s; obtain ⟨hl2, h⟩ := h
    have hsub := sub_zip
    have hL2 : Heap.IsList (Shared.heap ⟨hp.push { cls := .type "str_ascii_iterator", data := .fields #[.str x t, .int 0 0] }, g, d, tk, os⟩) l2 ys := Heap.IsList.push hl2 _
    wp_walk using wpAny_pyIter_ascii ha, wpAny_pyIter_list hL2
    exact ⟨_, rfl, h⟩
end Mine
end

section
-- ZipC
example : True := by w_top off; trivial
open PySem PySem.W PyProof.Rows PySem.Calls PySem.Spec
set_option maxRecDepth 100000
namespace Mine
section
variable {prog : Program} {w : World} {A : Around} {E : Value → Shared → Prop} {s : Shared}
theorem call_zip_sl {x : Str} {t : Tok} {l2 : Addr} {ys : Array Value} {Q : Value → Shared → Prop} (ha : x.cps.all (· < 128) = true) (hl2 : s.heap.IsList l2 ys)
    (h : ∀ h', IsZip h' (s.heap.objs.size + 4) (s.heap.objs.size + 2) (s.heap.objs.size + 3) .none → IsPair h' (s.heap.objs.size + 2) (.ref s.heap.objs.size) (.ref (s.heap.objs.size + 1)) →
      IsPair h' (s.heap.objs.size + 3) .none .none → h'.IsStrIter s.heap.objs.size "str_ascii_iterator" x t 0 → h'.IsListIter (s.heap.objs.size + 1) l2 0 → h'.objs.size = s.heap.objs.size + 5 →
      (∀ c o, s.heap.get? c = some o → h'.get? c = some o) → Q (.ref (s.heap.objs.size + 4)) { s with heap := h' }) :
    wpAny (model prog w) A (call (.type "zip") [.str x t, .ref l2]) Q E s := by
  refine callType_new F.called_zip (by decide) (F.typeCall_zip_2 _ _) (F.newCall_zip_2 _ _) (fun obj => F.args_object_init_3 obj _ _) F.entry_zip_new
    (meets_zip_sl x t l2 ys ha) ⟨hl2, ?_⟩
  have z1 : (zsH1 s.heap x t).objs.size = s.heap.objs.size + 1 := Heap.size_push ..
  have z2 : (zsH2 s.heap x t l2).objs.size = s.heap.objs.size + 2 := by rw [Heap.size_push, z1]
  have z3 : (zsH3 s.heap x t l2).objs.size = s.heap.objs.size + 3 := by rw [Heap.size_push, z2]
  have z4 : (zsH4 s.heap x t l2).objs.size = s.heap.objs.size + 4 := by rw [Heap.size_push, z3]
  have z5 : (zsH5 s.heap x t l2).objs.size = s.heap.objs.size + 5 := by rw [Heap.size_push, z4]
  have g5 : (zsH5 s.heap x t l2).get? (zsH4 s.heap x t l2).objs.size = some _ := Heap.get?_push_size _ rfl
  have g4 : (zsH5 s.heap x t l2).get? (zsH3 s.heap x t l2).objs.size = some _ := Heap.get?_push_of_some _ (Heap.get?_push_size _ rfl)
  have g3 : (zsH5 s.heap x t l2).get? (zsH2 s.heap x t l2).objs.size = some _ := Heap.get?_push_of_some _ (Heap.get?_push_of_some _ (Heap.get?_push_size _ rfl))
  have g2 : (zsH5 s.heap x t l2).get? (zsH1 s.heap x t).objs.size = some _ := Heap.get?_push_of_some _ (Heap.get?_push_of_some _ (Heap.get?_push_of_some _ (Heap.get?_push_size _ rfl)))
  have g1 : (zsH5 s.heap x t l2).get? s.heap.objs.size = some _ := Heap.get?_push_of_some _ (Heap.get?_push_of_some _ (Heap.get?_push_of_some _ (Heap.get?_push_of_some _ (Heap.get?_push_size _ rfl))))
  show _ ∧ _
  rw [z2, z3, z4] at g5
  rw [z1, z2] at g3
  rw [z3] at g4
  rw [z1] at g2
  rw [z4]
  exact ⟨⟨_, g5, rfl⟩, h _ g5 g3 g4 ⟨_, g1, rfl, rfl⟩ ⟨_, g2, rfl, rfl⟩ z5 fun c o x =>
    Heap.get?_push_of_some _ (Heap.get?_push_of_some _ (Heap.get?_push_of_some _ (Heap.get?_push_of_some _ (Heap.get?_push_of_some _ x))))⟩
end
section
variable {prog : Program} {w : World} {A : Around} {R : Result → Shared → Prop} {s : Shared}
theorem loopP {elt target iter : Expr} {scope : Scope} {pos : Pos} {it acc : Value} {env : Env} (I : Nat → Shared → Prop)
    (turn : ∀ n s, I n s → wpAny (model prog w) A (pyNext it) (fun r s₁ => match r with
      | none => R (.ok .next) s₁
      | some v => wpAny (model prog w) A (letOwnedTupleGo target it v) (fun _ s₂ => wpAny (model prog w) A (assign target env v) (fun _ s₃ =>
          wpAny (model prog w) A (eval elt env) (fun x s₄ => wpAny (model prog w) A (call (.builtin "list.append") [acc, x]) (fun _ s₅ => ∃ m, m < n ∧ I m s₅) (notedBy (model prog w) A env fun e s' => R (.error e) s') s₄)
            (notedBy (model prog w) A env fun e s' => R (.error e) s') s₃) (notedBy (model prog w) A env fun e s' => R (.error e) s') s₂) (notedBy (model prog w) A env fun e s' => R (.error e) s') s₁) (notedBy (model prog w) A env fun e s' => R (.error e) s') s)
    (n : Nat) (h : I n s) : codeAny (model prog w) A (.compLoop (.ListComp elt [⟨target, iter, [], 0⟩] scope pos) 0 it acc env) R s := by
  refine codeAny_loop rfl I (fun n s hI => ?_) n h
  show wpAny _ A ((compTurn (.ListComp elt [⟨target, iter, [], 0⟩] scope pos) 0 it acc env).onRaise (fun x => do noteFrame x env; theTreesLotGoes x)) _ _ s
  refine wpAny_noted ?_
  rw [compTurn_list]
  refine wpAny_bind (wpAny_standAt (wpAny_bind (wpAny_mono (turn n s hI) (fun r s₁ h₁ => ?_) fun _ _ h' => h')))
  cases r with
  | none => exact wpAny_pure h₁
  | some v =>
    refine wpAny_bind (wpAny_mono h₁ (fun _ s₂ h₂ => ?_) fun _ _ h' => h')
    refine wpAny_bind (wpAny_mono h₂ (fun _ s₃ h₃ => wpAny_bind (wpAny_tests_nil ?_)) fun _ _ h' => h')
    exact wpAny_bind (wpAny_bind (wpAny_mono h₃ (fun x s₄ h₄ => wpAny_bind (wpAny_mono h₄ (fun _ s₅ h₅ => wpAny_pure (wpAny_pure ⟨rfl, h₅⟩)) fun _ _ h' => h')) fun _ _ h' => h'))
end
end Mine
end

section
-- Cpp
example : True := by w_top off; trivial
open PySem PySem.W PyProof.Rows PySem.Calls PySem.Spec
set_option maxRecDepth 100000
namespace Mine
section
variable {prog : Program} {w : World} {A : Around} {E : Value → Shared → Prop} {env : Env}
end
end Mine
end

section
-- Cps
example : True := by w_top off; trivial
open PySem PySem.W PyProof.Rows PySem.Calls PySem.Spec
set_option maxRecDepth 100000
namespace Mine
inductive CpsInv (s₂ : Shared) (wr : List Addr) (n : Nat) (St : Nat → Heap → Prop) (Fv : Nat → Value → Prop) (D C : Addr) (k : Nat) (s' : Shared) : Prop
  | mk (h : Heap) (tk : Nat) (m : Str → Option Value) (ys : List Value) (e : s' = { s₂ with heap := h, toks := tk }) (ek : k = n + 1 - ys.length) (hj : ys.length ≤ n) (st : St ys.length h) (pl : h.PlainList D ys.toArray) (ns : h.Ns C m)
    (hys : ∀ (j : Nat) y, ys[j]? = some y → Fv j y) (hk : ∀ b o, b ∉ wr → s₂.heap.get? b = some o → h.get? b = some o)
section
variable {prog : Program} {w : World} {A : Around} {E : Value → Shared → Prop} {env : Env}
theorem assign_pairs {s : Shared} {elt iter : Expr} {xa xb yn : Str} {pa pb tp py : Pos} {kt : Nat} {scope : Scope} {cl : List (Str × Addr)} {pos spos : Pos} {Q : Flow → Shared → Prop} (Fv : Nat → Value → Prop)
    (hsw : swapsWith (.ListComp elt [⟨.Tuple [.Name xa pa, .Name xb pb] kt tp, iter, [], 0⟩] scope pos) (some (.Name yn py)) spos.line env = pure true) (hy : env.kindOf yn = some .local) (hp : (env.scope.kind == .class || (env.scope.kind == .module && env.locals != env.globals)) = false)
    (hh : A.handled = none) (hclos : closureFor scope env = pure cl) (hcell : ∀ z ∈ scope.names, z.2 ≠ .cell) (hkind : scope.kind = .function)
    (hnames : ∀ z ∈ scope.names, z.2 = .local → scope.names.lookup z.1 = some .local) (hxa : scope.names.lookup xa = some .local) (hxb : scope.names.lookup xb = some .local) (hab : xa ≠ xb)
    (h : wpAny (model prog w) A (eval iter env) (fun xv s₁ => wpAny (model prog w) A (pyIter xv) (fun it s₂ => ∃ I fp wr n Pt St Mid mL, it = .ref I ∧ s₂.heap.Ns env.locals mL ∧ env.locals ∉ wr ∧ WalksT prog w A I fp wr n Pt St Mid ∧ n ≤ 1000 ∧ St 0 s₂.heap ∧ (∀ b ∈ fp, b < s₂.heap.objs.size) ∧
      (∀ i vals, i < n → Pt i vals → ∃ va vb, vals = #[va, vb]) ∧
      (∀ C i va vb s₃ m₃ E', s₂.heap.objs.size ≤ C → i < n → Pt i #[va, vb] → s₃.heap.Ns C m₃ → m₃ xa = some va → m₃ xb = some vb → (∀ b o, b ∉ wr → s₂.heap.get? b = some o → s₃.heap.get? b = some o) →
        wpAny (model prog w) A (eval elt (compEnvC scope cl C env)) (fun y s₄ => Fv i y ∧ Keeps s₃ s₄) E' s₃) ∧
      (∀ D (ys : List Value) h' tk, s₂.heap.get? D = none → h'.IsList D ys.toArray → h'.PlainList D ys.toArray → ys.length = n → (∀ j y, ys[j]? = some y → Fv j y) → h'.Ns env.locals (fun z => if z = yn then some (.ref D) else mL z) → (∀ b o, b ≠ env.locals → b ∉ wr → s₂.heap.get? b = some o → h'.get? b = some o) → Q .next { s₂ with heap := h', toks := tk })) E s₁) E s)
    (hs1 : ∀ x, foldedSetIterable iter env x = pure x) (hp0 : ∀ C, ((compEnvC scope cl C env).scope.kind == .class || ((compEnvC scope cl C env).scope.kind == .module && (compEnvC scope cl C env).locals != (compEnvC scope cl C env).globals)) = false) :
    wpAny (model prog w) A (exec (.Assign [.Name yn py] (.ListComp elt [⟨.Tuple [.Name xa pa, .Name xb pb] kt tp, iter, [], 0⟩] scope pos) spos) env) Q E s := by
  rw [exec_Assign_Name_used _ _ _ _ hsw]
  refine wpAny_bind (wpAny_standAt (wpAny_bind ?_))
  show wpAny _ A (do let _ ← comprehension (.ListComp elt [⟨.Tuple [.Name xa pa, .Name xb pb] kt tp, iter, [], 0⟩] scope pos) scope env _ (newList []) false (eval iter env) (some (assign (.Name yn py) env))) _ _ s
  refine wpAny_bind (wpAny_mono (wpAny_comprehension_free (use := some (assign (.Name yn py) env)) (Q := fun _ s' => Q .next s') rfl hs1 hclos hkind hnames (wpAny_mono h (fun xv s₁ h₁ => wpAny_mono h₁ (fun it s₂ h₂ => ?_) fun _ _ e => e) fun _ _ e => e)) (fun _ s' hq => wpAny_pure (wpAny_pure hq)) fun _ _ e => e)
  obtain ⟨I, fp, wr, n, Pt, St, Mid, mL, rfl, hnL, hLw, W, hn, hst, hfp, hpair, leaf, hQ⟩ := h₂
  refine wpAny_newObj_type (wpAny_newFunctionEnv hcell (by intro y hy; simp at hy) (fun h₁ hns₁ hsb₁ => ?_) hkind)
  dsimp only at hns₁ hsb₁ ⊢
  generalize hH2 : s₂.heap.push { cls := .type "list", dict := none, data := .seq ([] : List Value).toArray } = H2 at hns₁ hsb₁ ⊢
  have hC0 : H2.objs.size = s₂.heap.objs.size + 1 := by rw [← hH2, Heap.size_push]
  generalize hDe : s₂.heap.objs.size = D at hC0 ⊢
  generalize hCe : H2.objs.size = C at hC0 hns₁ hsb₁ ⊢
  have hDC : D ≠ C := by (first | lia | omega)
  have hDle : s₂.heap.objs.size ≤ C := by (first | lia | omega)
  have below : ∀ b, b < s₂.heap.objs.size → b ≠ D ∧ b ≠ C := fun b hb => by
    rw [hDe] at hb
    exact ⟨Nat.ne_of_lt hb, Nat.ne_of_lt (by rw [hC0]; exact Nat.lt_succ_of_lt hb)⟩
  have hDf : D ∉ fp := fun hm => (below _ (hfp _ hm)).1 rfl
  have hCf : C ∉ fp := fun hm => (below _ (hfp _ hm)).2 rfl
  have hCw : C ∉ wr := fun hm => hCf (W.sub _ hm)
  have hDw : D ∉ wr := fun hm => hDf (W.sub _ hm)
  have up1 : ∀ b o, s₂.heap.get? b = some o → h₁.get? b = some o := fun b o e => hsb₁.extBut b o (below b (Heap.lt_size e)).2 (Heap.get?_push_of_some _ (by rw [← hH2]; exact Heap.get?_push_of_some _ e))
  have hacc : h₁.PlainList D #[] := ⟨_, hsb₁.extBut _ _ hDC (Heap.get?_push_of_some _ (by rw [← hH2, ← hDe]; exact Heap.get?_push_size _ rfl))⟩
  have hst₁ : St 0 h₁ := W.frame _ _ _ hst fun b _ o e => up1 b o e
  have hka : (compEnvC scope cl C env).kindOf xa = some .local := lookup_relabel_local hxa
  have hkb : (compEnvC scope cl C env).kindOf xb = some .local := lookup_relabel_local hxb
  have loop : ∀ s₃ : Shared, s₃ = { s₂ with heap := h₁, toks := s₂.toks + ([] : List (Str × Value)).length } →
      codeAny (model prog w) A (.compLoop (.ListComp elt [⟨.Tuple [.Name xa pa, .Name xb pb] kt tp, iter, [], 0⟩] scope pos) 0 (.ref I) (.ref D) (compEnvC scope cl C env)) (compPost (model prog w) A E (some (assign (.Name yn py) env)) (fun _ s' => Q .next s') (.ref D) C) s₃ := by
    rintro s₃ rfl
    refine loopP (CpsInv s₂ wr n St Fv D C) ?_ (n + 1)
      ⟨h₁, _, _, [], rfl, rfl, Nat.zero_le _, hst₁, hacc, hns₁, fun j y e => by simp at e, fun b o _ e => up1 b o e⟩
    rintro k s' ⟨h2, tk2, m2, ys, rfl, rfl, hj, hst2, hpl, hns, hys, hk⟩
    by_cases hlt : ys.length < n
    · refine W.item ys.length _ _ _ hlt hst2 fun T vals ha tka hPt _ hT hmid hka' => ?_
      replace hka' : ∀ b o, b ∉ wr → h2.get? b = some o → ha.get? b = some o := hka'
      refine W.go _ _ _ ys.length T _ _ _ hmid fun hb hstb hkb' => ?_
      replace hkb' : ∀ b o, b ∉ wr → ha.get? b = some o → hb.get? b = some o := hkb'
      obtain ⟨va, vb, rfl⟩ := hpair ys.length _ hlt hPt
      have hTb : hb.IsTuple T #[va, vb] := by
        obtain ⟨o, ho, r⟩ := hT
        exact ⟨o, hkb' T o (W.apart _ _ _ hmid) ho, r⟩
      refine wpAny_assign_Tuple hh hTb rfl rfl fun h3 hx3 => ?_
      replace hx3 : Heap.ExtBut hb.objs.size hb h3 := hx3
      have oldb : ∀ b o, hb.get? b = some o → h3.get? b = some o := fun b o e => hx3 b o (Nat.ne_of_lt (Heap.lt_size e)) e
      have k23 : ∀ b o, b ∉ wr → h2.get? b = some o → h3.get? b = some o := fun b o hw e => oldb b o (hkb' b o hw (hka' b o hw e))
      have hst3 : St (ys.length + 1) h3 := W.frame _ _ _ hstb fun b _ o e => oldb b o e
      show wpAny _ A (do holding [vb] (assign (.Name xa pa) (compEnvC scope cl C env) va); do holding [] (assign (.Name xb pb) (compEnvC scope cl C env) vb); pure ()) _ _ _
      refine wpAny_bind (wpAny_holding (wpAny_assign_Name (wpAny_storeName_local hka (hns.at' fun o e => k23 _ o hCw e) (fun h4 hn4 hs4 => ?_) (hp0 C))))
      refine wpAny_bind (wpAny_holding (wpAny_assign_Name (wpAny_storeName_local hkb hn4 (fun h5 hn5 hs5 => wpAny_pure ?_) (hp0 C))))
      have k35 : ∀ b o, b ≠ C → h3.get? b = some o → h5.get? b = some o := fun b o hb e => hs5.extBut b o hb (hs4.extBut b o hb e)
      have hst5 : St (ys.length + 1) h5 := W.frame _ _ _ hst3 fun b hb o e => k35 b o (fun q => hCf (q ▸ hb)) e
      have k5 : ∀ b o, b ∉ wr → s₂.heap.get? b = some o → h5.get? b = some o := fun b o hw e => k35 b o (below b (Heap.lt_size e)).2 (k23 b o hw (hk b o hw e))
      refine wpAny_mono (leaf C ys.length va vb _ _ _ hDle hlt hPt hn5 (by simp [hab]) (by simp) k5) (fun y s6 h6 => ?_) fun _ _ e => e
      obtain ⟨hF, H6, tk6, rfl, hk6⟩ := h6
      have pl6 : H6.PlainList D ys.toArray := hpl.at fun o e => hk6 _ _ (k35 _ _ hDC (k23 _ _ hDw e))
      refine wpAny_list_append_plain (hsz := by rw [List.size_toArray, sizeLine_eq]; (first | lia | omega)) pl6 fun H7 hl7 hs7 => ?_
      refine ⟨n + 1 - (ys.length + 1), by (first | lia | omega), H7, tk6, _, ys ++ [y], rfl, by simp, by simp; (first | lia | omega), ?_, by simpa using hl7, (hn5.keeps hk6).sameBut hs7 (Ne.symm hDC), ?_, fun b o hw e => hs7.extBut b o (below b (Heap.lt_size e)).1 (hk6 b o (k5 b o hw e))⟩
      · have := W.frame _ _ H7 hst5 fun b hb o e => hs7.extBut b o (fun q => hDf (q ▸ hb)) (hk6 b o e)
        simpa using this
      · intro j u hj'
        rcases Nat.lt_trichotomy j ys.length with h | h | h
        · exact hys j u (by rwa [List.getElem?_append_left h] at hj')
        · subst h; simp at hj'; subst hj'; exact hF
        · have hnone : (ys ++ [y])[j]? = none := List.getElem?_eq_none (by rw [List.length_append, List.length_singleton]; (first | lia | omega))
          rw [hnone] at hj'; cases hj'
    · have hin : ys.length = n := by (first | lia | omega)
      refine W.done _ _ _ (hin ▸ hst2) fun h3 tk3 hk3 => ?_
      replace hk3 : ∀ b o, b ∉ wr → h2.get? b = some o → h3.get? b = some o := hk3
      have pl3 : h3.PlainList D ys.toArray := hpl.at fun o e => hk3 _ _ hDw e
      have hLs : env.locals < s₂.heap.objs.size := hnL.lt
      have hLC : env.locals ≠ C := (below _ hLs).2
      have hLD : env.locals ≠ D := (below _ hLs).1
      show wpAny _ A (assign (.Name yn py) env (.ref D)) _ _ _
      refine wpAny_assign_Name (wpAny_storeName_local hy (hnL.at' fun o e => hk3 _ o hLw (hk _ o hLw e)) (fun h₂ hn₂ hs₂ => ?_) hp)
      refine ⟨m2, (hns.at' fun o e => hk3 _ _ hCw e).sameBut hs₂ (Ne.symm hLC), fun h' hs' => hQ D ys h' _ ?_ ((pl3.isList.extBut hs₂.extBut (Ne.symm hLD)).extBut hs'.extBut hDC) ((pl3.extBut hs₂.extBut (Ne.symm hLD)).extBut hs'.extBut hDC) hin hys (hn₂.sameBut hs' hLC) fun b o hbL hw e => hs'.extBut b o (below b (Heap.lt_size e)).2 (hs₂.extBut b o hbL (hk3 b o hw (hk b o hw e)))⟩
      cases e : s₂.heap.get? D with
      | none => rfl
      | some o => exact absurd rfl (below _ (Heap.lt_size e)).1
  exact codeAny_compStart_list (loop _ rfl) (W.self 0 _ _ _ hst₁ (loop _ rfl))
end
end Mine
end

section
-- Zp
example : True := by w_top off; trivial
open PySem PySem.W PyProof.Rows PySem.Calls PySem.Spec
set_option maxRecDepth 100000
namespace Mine
theorem no4 {b S : Nat} (h : b < S) : b ∉ [S + 4, S + 3, S, S + 1] := by simp; (first | lia | omega)
theorem zp_ap {S l : Nat} (h : l < S) : ZipAp (S + 4) (S + 2) (S + 3) S (S + 1) [S] [S + 1, l] := by
  have f1 : ∀ b ∈ [S], b ≠ S + 4 ∧ b ≠ S + 3 ∧ b ≠ S + 1 := by intro b hb; simp at hb; (first | lia | omega)
  have f2 : ∀ b ∈ [S + 1, l], b ≠ S + 4 ∧ b ≠ S + 3 ∧ b ≠ S := by intro b hb; simp at hb; (first | lia | omega)
  exact ⟨Nat.ne_of_lt (by (first | lia | omega)), Nat.ne_of_lt (by (first | lia | omega)), Nat.ne_of_lt (by (first | lia | omega)), Nat.ne_of_lt (by (first | lia | omega)), Nat.ne_of_lt (by (first | lia | omega)), Nat.ne_of_gt (by (first | lia | omega)), Nat.ne_of_gt (by (first | lia | omega)), Nat.ne_of_gt (by (first | lia | omega)), Nat.ne_of_gt (by (first | lia | omega)), Nat.ne_of_lt (by (first | lia | omega)), f1, f2⟩
theorem zp_fp {S l H : Nat} (h : l < S) (hH : H = S + 5) : ∀ b ∈ (S + 4) :: (S + 2) :: (S + 3) :: S :: (S + 1) :: ([S] ++ [S + 1, l]), b < H := by
  intro b hb; simp at hb; (first | lia | omega)
theorem two_at {a b c d : Value} (h : #[a, b] = #[c, d]) : a = c ∧ b = d := by simpa using h
section
variable {prog : Program} {w : World} {A : Around} {E : Value → Shared → Prop} {env : Env}
theorem zip_pack {s : Shared} {elt : Expr} {xa xb yn : Str} {scope : Scope} {cl : List (Str × Addr)} {R : Addr → Heap → Nat → Shared → Prop} {g : Heap} {L : Addr} {m : Str → Option Value} {nw : List (Addr × Obj)} {x : Str} {t : Tok} {l2 : Addr} {ys : Array Value} (Fv : Nat → Value → Prop)
    (hh : A.handled = none) (hL : env.locals = L) (F : Fr g L s.heap m) (N : News g L s.heap nw) (hl : s.heap.IsList l2 ys) (ha : x.cps.all (· < 128) = true) (hx : x.cps.size ≤ 1000)
    (leaf : ∀ C i c vb u s₃ m₃ E', s.heap.objs.size ≤ C → x.cps[i]? = some c → ys[i]? = some vb → s₃.heap.Ns (compEnvC scope cl C env).locals m₃ → m₃ xa = some (.str ⟨#[c]⟩ u) → m₃ xb = some vb → (∀ b o, s.heap.get? b = some o → s₃.heap.get? b = some o) →
        wpAny (model prog w) A (eval elt (compEnvC scope cl C env)) (fun y s₄ => Fv i y ∧ Keeps s₃ s₄) E' s₃)
    (hQ : ∀ D (zs : List Value) h' tk, Fr g L h' (fun z => if z = yn then some (.ref D) else m z) → News g L h' nw → g.get? D = none → NewPlain h' nw D zs.toArray → zs.length = min x.cps.size ys.size → (∀ j y, zs[j]? = some y → Fv j y) → ∀ h0, R D h' tk { s with heap := h0 }) :
    wpAny (model prog w) A (call (.type "zip") [.str x t, .ref l2]) (fun xv s₁ => wpAny (model prog w) A (pyIter xv) (fun it s₂ => ∃ I fp wr n Pt St Mid mL, it = .ref I ∧ s₂.heap.Ns env.locals mL ∧ env.locals ∉ wr ∧ WalksT prog w A I fp wr n Pt St Mid ∧ n ≤ 1000 ∧ St 0 s₂.heap ∧ (∀ b ∈ fp, b < s₂.heap.objs.size) ∧
      (∀ i vals, i < n → Pt i vals → ∃ va vb, vals = #[va, vb]) ∧
      (∀ C i va vb s₃ m₃ E', s₂.heap.objs.size ≤ C → i < n → Pt i #[va, vb] → s₃.heap.Ns C m₃ → m₃ xa = some va → m₃ xb = some vb → (∀ b o, b ∉ wr → s₂.heap.get? b = some o → s₃.heap.get? b = some o) →
        wpAny (model prog w) A (eval elt (compEnvC scope cl C env)) (fun y s₄ => Fv i y ∧ Keeps s₃ s₄) E' s₃) ∧
      (∀ D (ys : List Value) h' tk, s₂.heap.get? D = none → h'.IsList D ys.toArray → h'.PlainList D ys.toArray → ys.length = n → (∀ j y, ys[j]? = some y → Fv j y) → h'.Ns env.locals (fun z => if z = yn then some (.ref D) else mL z) → (∀ b o, b ≠ env.locals → b ∉ wr → s₂.heap.get? b = some o → h'.get? b = some o) → R D h' tk s₂)) E s₁) E s := by
  refine call_zip_sl ha hl ?_
  intro h' hz hTI hTO hsi hli hsz hk
  refine wpAny_pyIter_zip hz ?_
  have hl2 : l2 < s.heap.objs.size := by obtain ⟨_, e, _⟩ := hl; exact Heap.lt_size e
  have hLs : L < s.heap.objs.size := F.ns.lt
  generalize hS : s.heap.objs.size = S at hz hTI hTO hsi hli hsz hl2 hLs leaf ⊢
  have old : ∀ b o, s.heap.get? b = some o → b ∉ [S + 4, S + 3, S, S + 1] := by
    intro b o e
    exact no4 (hS ▸ Heap.lt_size e)
  refine ⟨_, _, _, _, _, _, _, m, rfl, ?_, ?_, walksT_zipD (Draws.strAscii ?_ S x t) (Draws.list ?_ (S + 1) l2 (Nat.ne_of_lt (Nat.lt_succ_of_lt hl2)) ys) (zp_ap hl2), ?_, ⟨hz, hTI, ⟨_, _, hTO⟩, hsi, hli, hl.at fun o e => hk _ _ e⟩, zp_fp hl2 hsz, ?_, ?_, ?_⟩
  · rw [hL]; exact F.ns.at' fun o e => hk _ _ e
  · rw [hL]; exact no4 hLs
  · exact hh
  · exact hh
  · (first | lia | omega)
  · rintro i vals _ ⟨p, q, _, _, rfl⟩; exact ⟨p, q, rfl⟩
  · rintro C i va vb s₃ m₃ E' hC hi ⟨p, q, ⟨c, u, hc, rfl⟩, hq, hpq⟩ hn h1 h2 hk3
    obtain ⟨rfl, rfl⟩ := two_at hpq
    refine leaf C i c vb u s₃ m₃ E' ?_ hc hq hn h1 h2 fun b o e => hk3 b o (old b o e) (hk b o e)
    have : h'.objs.size ≤ C := hC
    (first | lia | omega)
  · intro D zs h2 tk hD hil hpl hlen hF hns hk2
    have hD' : s.heap.get? D = none := by
      cases e : s.heap.get? D with
      | none => rfl
      | some o => have := hk _ _ e; rw [show h'.get? D = none from hD] at this; cases this
    rw [hL] at hns hk2
    have keep : ∀ b o, b ≠ L → s.heap.get? b = some o → h2.get? b = some o := fun b o hb e => hk2 b o hb (old b o e) (hk b o e)
    refine hQ D zs h2 tk ⟨hns, fun b o e => keep b o ?_ (F.keep b o e), F.above⟩ (fun q hq => ⟨keep _ _ (N q hq).2.1 (N q hq).1, (N q hq).2⟩) ?_ ⟨hpl, fun q hq e => ?_⟩ hlen hF _
    · rintro rfl; exact Nat.lt_irrefl _ (Nat.lt_of_lt_of_le (Heap.lt_size e) F.above)
    · cases e : g.get? D with
      | none => rfl
      | some o => rw [F.keep _ _ e] at hD'; cases hD'
    · have := (N q hq).1; rw [e, hD'] at this; cases this
end
end Mine
end

section
-- Plain2
example : True := by w_top off; trivial
namespace Mine
section
variable {α β : Type}
theorem turn_map {f : α → β} {p : α → Bool} {q : β → Bool} : ∀ (l cur : List α), (∀ y ∈ l, p y = q (f y)) → turn q (cur.map f) (l.map f) = (turn p cur l).map f
  | [], cur, _ => by simp [turn]
  | x :: t, cur, h => by
    rw [List.map_cons, turn, turn, ← h x (.head _)]
    cases p x with
    | true =>
      rw [if_pos rfl, if_pos rfl]
      have := turn_map (f := f) (p := p) (q := q) t [] fun y hy => h y (.tail _ hy)
      rw [List.map_nil] at this
      rw [this]; simp
    | false =>
      rw [if_neg (by simp), if_neg (by simp)]
      have := turn_map (f := f) (p := p) (q := q) t (cur ++ [x]) fun y hy => h y (.tail _ hy)
      rw [← this]; simp
/-- two ways to rank, the same order -/
noncomputable def SameOrd (r : α → Int) (r' : β → Int) (f : α → β) (l : List α) : Prop := ∀ x ∈ l, ∀ y ∈ l, (r x < r y ↔ r' (f x) < r' (f y))
theorem turned_map {r : α → Int} {r' : β → Int} {f : α → β} {l : List α} {x : α} (h : ∀ y ∈ l, (r x < r y ↔ r' (f x) < r' (f y))) : turned r' (l.map f) (f x) = (turned r l x).map f := by
  cases e : l.getLast? with
  | none => rw [List.getLast?_eq_none_iff] at e; subst e; rfl
  | some z =>
    rw [turned_some r e, turned_some r' (z := f z) (by rw [List.getLast?_map, e]; rfl)]
    have hz : z ∈ l := List.mem_of_getLast? e
    exact turn_map (p := side r x z) (q := side r' (f x) (f z)) l [] fun y hy => by
      simp only [side]
      congr 1
      · rw [decide_eq_decide]; exact h y hy
      · rw [decide_eq_decide]; exact h z hz
theorem made_map {r : α → Int} {r' : β → Int} {f : α → β} : ∀ (l : List α), SameOrd r r' f l → made r' (l.map f) = (made r l).map f := by
  refine snoc_ind (fun _ => rfl) ?_
  intro l x ih h
  have ih' := ih fun y hy z hz => h y (List.mem_append_left _ hy) z (List.mem_append_left _ hz)
  rw [List.map_append, List.map_singleton, made_snoc, made_snoc, ih', turned_map (r := r)]
  · simp
  · intro y hy
    have hy' := (made_perm r l).mem_iff.mp hy
    exact h x (by simp) y (List.mem_append_left _ hy')
theorem back_mapN {r : α → Int} {r' : β → Int} {f : α → β} : ∀ (n : Nat) (l : List α), l.length = n → SameOrd r r' f l → back r' (l.map f) = (back r l).map f
  | 0, l, hn, _ => by rw [List.length_eq_zero_iff] at hn; subst hn; rfl
  | n + 1, l, hn, h => by
    have hne : l ≠ [] := by intro e; subst e; cases hn
    have e := List.dropLast_concat_getLast hne
    generalize hx : l.getLast hne = x at e
    generalize hd : l.dropLast = d at e
    subst e
    have hdl : d.length = n := by simpa using hn
    rw [List.map_append, List.map_singleton, back_snoc, back_snoc, ← List.map_reverse, turned_map (r := r), ← List.map_reverse, back_mapN n, List.map_append, List.map_singleton]
    · rw [List.length_reverse, turned_length, List.length_reverse, hdl]
    · intro y hy z hz
      have m1 : ∀ y ∈ (turned r d.reverse x).reverse, y ∈ d := fun y hy => List.mem_reverse.mp ((turned_perm r d.reverse x).mem_iff.mp (List.mem_reverse.mp hy))
      exact h y (List.mem_append_left _ (m1 y hy)) z (List.mem_append_left _ (m1 z hz))
    · intro y hy
      exact h x (by simp) y (List.mem_append_left _ (List.mem_reverse.mp hy))
theorem back_map {r : α → Int} {r' : β → Int} {f : α → β} (l : List α) (h : SameOrd r r' f l) : back r' (l.map f) = (back r l).map f := back_mapN _ l rfl h
theorem inv_map (r : α → Int) : ∀ l : List α, inv (fun x : Int => x) (l.map r) = inv r l
  | [] => rfl
  | x :: t => by
    rw [List.map_cons, inv, inv, inv_map r t, List.countP_map]
    rfl
section
variable {r : Nat → Int}
theorem law_a (l : List Nat) : inv (fun x : Int => x) ((made r l).map r) = maj (l.map r) := by rw [inv_map, inv_made]
theorem law_b (l : List Nat) : maj ((back r l).map r) = inv (fun x : Int => x) (l.map r) := by rw [inv_map, ← inv_made, made_back]
/-- the order: by rank, like ones by number -/
noncomputable def ordLt (r : Nat → Int) (i j : Nat) : Prop := r i < r j ∨ r i = r j ∧ i < j
/-- next to each other in the order -/
noncomputable def Next (r : Nat → Int) (n a b : Nat) : Prop := a < n ∧ b < n ∧ ordLt r a b ∧ ∀ x, x < n → ¬ (ordLt r a x ∧ ordLt r x b)
noncomputable def pick (a b : Nat) : Nat → Bool := fun y => y == a || y == b
theorem idx_filter_aux {q : Nat → Bool} {a b : Nat} (ha : q a = true) (hb : q b = true) : ∀ (l : List Nat), (l.filter q).idxOf a < (l.filter q).idxOf b ↔ l.idxOf a < l.idxOf b
  | [] => by simp
  | x :: t => by
    have ih := idx_filter_aux ha hb t
    rw [List.filter_cons]
    by_cases hq : q x = true
    · rw [if_pos hq]
      simp only [List.idxOf_cons]
      by_cases h1 : x = a
      · subst h1
        by_cases h2 : x = b
        · subst h2; simp
        · have e2 : (x == b) = false := by simpa using h2
          simp [e2]
      · by_cases h2 : x = b
        · subst h2; simp
        · have e1 : (x == a) = false := by simpa using h1
          have e2 : (x == b) = false := by simpa using h2
          simp only [e1, e2, cond_false]
          (first | lia | omega)
    · rw [if_neg hq]
      have h1 : (x == a) = false := by
        cases e : x == a with
        | false => rfl
        | true => have := eq_of_beq e; subst this; exact absurd ha hq
      have h2 : (x == b) = false := by
        cases e : x == b with
        | false => rfl
        | true => have := eq_of_beq e; subst this; exact absurd hb hq
      simp only [List.idxOf_cons, h1, h2, cond_false]
      (first | lia | omega)
theorem idx_filter {q : Nat → Bool} {a b : Nat} (ha : q a = true) (hb : q b = true) {l m : List Nat} (h : l.filter q = m.filter q) : l.idxOf a < l.idxOf b ↔ m.idxOf a < m.idxOf b := by
  rw [← idx_filter_aux ha hb l, h, idx_filter_aux ha hb m]
theorem idx_range' : ∀ (n k i : Nat), k ≤ i → i < k + n → (List.range' k n).idxOf i = i - k
  | 0, k, i, h1, h2 => by (first | lia | omega)
  | n + 1, k, i, h1, h2 => by
    rw [List.range'_succ, List.idxOf_cons]
    by_cases e : k = i
    · subst e; simp
    · have : (k == i) = false := by simpa using e
      rw [this, cond_false, idx_range' n (k + 1) i (by (first | lia | omega)) (by (first | lia | omega))]
      (first | lia | omega)
theorem idx_range {n i : Nat} (h : i < n) : (List.range n).idxOf i = i := by
  rw [List.range_eq_range', idx_range' n 0 i (by (first | lia | omega)) (by (first | lia | omega))]; (first | lia | omega)
theorem range_split {n : Nat} {u v : List Nat} {x : Nat} (h : List.range n = u ++ x :: v) : x < n ∧ ∀ y ∈ u, y < x := by
  have hp : (List.range n).Pairwise (· < ·) := List.pairwise_lt_range
  rw [h, List.pairwise_append] at hp
  refine ⟨List.mem_range.mp (by rw [h]; simp), fun y hy => hp.2.2 y hy x (.head _)⟩
theorem pick_two {a b y z : Nat} (hy : pick a b y = true) (hz : pick a b z = true) {P : Nat → Prop} (h : P a ↔ P b) : P y ↔ P z := by
  simp only [pick, Bool.or_eq_true, beq_iff_eq] at hy hz
  rcases hy with rfl | rfl <;> rcases hz with rfl | rfl
  · exact Iff.rfl
  · exact h
  · exact h.symm
  · exact Iff.rfl
theorem pick_both {a b y z : Nat} (hy : pick a b y = true) (hz : pick a b z = true) {P : Nat → Prop} (py : P y) (pz : P z) (hne : y ≠ z) : P a ∧ P b := by
  simp only [pick, Bool.or_eq_true, beq_iff_eq] at hy hz
  rcases hy with rfl | rfl <;> rcases hz with rfl | rfl
  · exact absurd rfl hne
  · exact ⟨py, pz⟩
  · exact ⟨pz, py⟩
  · exact absurd rfl hne
theorem law_c {n a b : Nat} (h : Next r n a b) : (made r (List.range n)).idxOf a < (made r (List.range n)).idxOf b ↔ a < b := by
  obtain ⟨ha, hb, hab, hno⟩ := h
  have hf : (made r (List.range n)).filter (pick a b) = (List.range n).filter (pick a b) := by
    refine made_filter r _ fun u x v e y hy z hz qy qz => ?_
    by_cases hyz : y = z
    · subst hyz; exact Iff.rfl
    obtain ⟨hxn, hxu⟩ := range_split e
    obtain ⟨hax, hbx⟩ := pick_both qy qz (P := fun y => y < x) (hxu y hy) (hxu z hz) hyz
    refine pick_two qy qz (P := fun y => r x < r y) ?_
    have := hno x hxn
    unfold ordLt at hab this
    constructor
    · intro h; (first | lia | omega)
    · intro h; (first | lia | omega)
  rw [idx_filter (by simp [pick]) (by simp [pick]) hf, idx_range ha, idx_range hb]
theorem back_like {n : Nat} {d : Int} : (back r (List.range n)).filter (fun y => decide (r y = d)) = (List.range n).filter (fun y => decide (r y = d)) := by
  have := made_filter r (q := fun y => decide (r y = d)) (back r (List.range n)) fun u x v e y hy z hz qy qz => by
    simp at qy qz
    rw [qy, qz]
  rw [made_back] at this
  exact this.symm
theorem idx_split {u v : List Nat} {x y : Nat} (hn : (u ++ x :: v).Nodup) (hy : y ∈ u) : (u ++ x :: v).idxOf y < (u ++ x :: v).idxOf x := by
  have hxu : x ∉ u := by
    rw [List.nodup_append] at hn
    exact fun h => hn.2.2 x h x (.head _) rfl
  rw [List.idxOf_append, List.idxOf_append, if_pos hy, if_neg hxu]
  have := List.idxOf_lt_length_of_mem hy
  simp
  (first | lia | omega)
theorem law_d {n a b : Nat} (h : Next r n a b) : (back r (List.range n)).idxOf a < (back r (List.range n)).idxOf b ↔ a < b := by
  obtain ⟨ha, hb, hab, hno⟩ := h
  have hp := back_perm r (List.range n)
  have hnd : (back r (List.range n)).Nodup := hp.nodup_iff.mpr List.nodup_range
  have hf : (made r (back r (List.range n))).filter (pick a b) = (back r (List.range n)).filter (pick a b) := by
    refine made_filter r _ fun u x v e y hy z hz qy qz => ?_
    by_cases hyz : y = z
    · subst hyz; exact Iff.rfl
    have hxn : x < n := by
      have : x ∈ back r (List.range n) := by rw [e]; simp
      exact List.mem_range.mp (hp.mem_iff.mp this)
    obtain ⟨hax, hbx⟩ := pick_both qy qz (P := fun y => y ∈ u) hy hz hyz
    refine pick_two qy qz (P := fun y => r x < r y) ?_
    have hnx := hno x hxn
    have like : ∀ y, y ∈ u → y < n → r y = r x → y < x := by
      intro y hy hyn he
      have h1 := idx_filter (q := fun y => decide (r y = r x)) (a := y) (b := x) (by simp [he]) (by simp) (back_like (r := r) (n := n) (d := r x))
      rw [idx_range hyn, idx_range hxn] at h1
      rw [e] at hnd h1
      exact h1.mp (idx_split hnd hy)
    have l1 := like a hax ha
    have l2 := like b hbx hb
    unfold ordLt at hab hnx
    constructor
    · intro h; (first | lia | omega)
    · intro h; (first | lia | omega)
  rw [made_back] at hf
  rw [← idx_filter (by simp [pick]) (by simp [pick]) hf, idx_range ha, idx_range hb]
/-- neighbours in the order's list -/
theorem next_of {n j a b : Nat} {ord : List Nat} (hp : ord.Perm (List.range n)) (hs : ord.Pairwise (fun i j => ordLt r i j)) (h1 : ord[j]? = some a) (h2 : ord[j + 1]? = some b) : Next r n a b := by
  have hlt : ∀ x, x ∈ ord ↔ x < n := fun x => hp.mem_iff.trans List.mem_range
  obtain ⟨j1, e1⟩ := List.getElem?_eq_some_iff.mp h1
  obtain ⟨j2, e2⟩ := List.getElem?_eq_some_iff.mp h2
  have hpw := List.pairwise_iff_getElem.mp hs
  refine ⟨(hlt a).mp (e1 ▸ List.getElem_mem _), (hlt b).mp (e2 ▸ List.getElem_mem _), e1 ▸ e2 ▸ hpw j (j + 1) j1 j2 (by (first | lia | omega)), fun x hx hh => ?_⟩
  obtain ⟨k, hk, rfl⟩ := List.getElem_of_mem ((hlt x).mpr hx)
  have asym : ∀ i j, ordLt r i j → ordLt r j i → False := by intro i j h h'; unfold ordLt at h h'; (first | lia | omega)
  rcases Nat.lt_or_ge j k with h | h
  · rcases Nat.lt_or_ge (j + 1) k with h' | h'
    · exact asym _ _ hh.2 (e2 ▸ hpw (j + 1) k j2 hk h')
    · have : k = j + 1 := by (first | lia | omega)
      subst this
      rw [e2] at hh
      exact asym _ _ hh.2 hh.2
  · rcases Nat.lt_or_ge k j with h' | h'
    · exact asym _ _ hh.1 (e1 ▸ hpw k j hk j1 h')
    · have : k = j := by (first | lia | omega)
      subst this
      rw [e1] at hh
      exact asym _ _ hh.1 hh.1
end
end
end Mine
end

section
-- Sign
example : True := by w_top off; trivial
open PySem PySem.W PyProof.Rows PySem.Calls PySem.Spec
set_option maxRecDepth 100000
namespace Mine
theorem band (n k : Nat) : Builtin.bitAnd (n : Int) (k : Int) = ((n &&& k : Nat) : Int) := by
  simp [Builtin.bitAnd]
theorem fdm2 (n k : Nat) : ((n : Int).fdiv (2 ^ k)).fmod 2 = if n.testBit k then 1 else 0 := by
  rw [Nat.testBit_eq_decide_div_mod_eq]
  have e : (n : Int).fdiv (2 ^ k) = ((n / 2 ^ k : Nat) : Int) := by
    rw [Int.fdiv_eq_ediv_of_nonneg _ (Int.pow_nonneg (by decide))]; simp
  rw [e, Int.fmod_eq_emod_of_nonneg _ (by decide)]
  generalize n / 2 ^ k = q
  by_cases h : q % 2 = 1
  · rw [if_pos (by simpa using h)]; (first | lia | omega)
  · rw [if_neg (by simpa using h)]; (first | lia | omega)
theorem and_pow (n j : Nat) : n &&& 2 ^ j = if n.testBit j then 2 ^ j else 0 := by
  apply Nat.eq_of_testBit_eq
  intro i
  rw [Nat.testBit_and, Nat.testBit_two_pow]
  by_cases h : j = i
  · subst h
    cases e : n.testBit j <;> simp
  · cases e : n.testBit j <;> simp [h]
theorem and_two (n a b : Nat) : n &&& (2 ^ a ||| 2 ^ b) = (if n.testBit a then 2 ^ a else 0) ||| (if n.testBit b then 2 ^ b else 0) := by
  rw [Nat.and_or_distrib_left, and_pow, and_pow]
theorem hit1 (n i j : Nat) (hi : i ≠ 0) {c : Int} (hc : c = ((2 ^ j : Nat) : Int)) : hitB n i c = n.testBit j := by
  subst hc
  unfold hitB
  rw [if_neg hi, band, and_pow]
  have : (0 : Nat) < 2 ^ j := Nat.two_pow_pos j
  cases n.testBit j
  · rw [if_neg (by simp), decide_eq_false_iff_not]; (first | lia | omega)
  · simp
theorem hit2 (n i a b : Nat) (hi : i ≠ 0) {c : Int} (hc : c = ((2 ^ a ||| 2 ^ b : Nat) : Int)) (h1 : 2 ^ a ||| 2 ^ b ≠ 2 ^ a) (h2 : 2 ^ a ||| 2 ^ b ≠ 2 ^ b) : hitB n i c = (n.testBit a && n.testBit b) := by
  subst hc
  unfold hitB
  rw [if_neg hi, band, and_two]
  have h3 : 2 ^ a ||| 2 ^ b ≠ 0 := by
    intro e
    have h5 := Nat.left_le_or (n := 2 ^ a) (m := 2 ^ b)
    have : (0 : Nat) < 2 ^ a := Nat.two_pow_pos a
    (first | lia | omega)
  cases n.testBit a <;> cases n.testBit b
  · exact decide_eq_false fun e => h3 (Int.ofNat.inj (by simpa using e.symm))
  · exact decide_eq_false fun e => h2 (Int.ofNat.inj (by simpa using e.symm))
  · exact decide_eq_false fun e => h1 (Int.ofNat.inj (by simpa using e.symm))
  · simp
/-- the kind's four bits -/
theorem ifmt_eq {n : Nat} (h : n < 65536) : Builtin.bitAnd (n : Int) 61440 = ((n / 4096 * 4096 : Nat) : Int) := by
  have e : (61440 : Int) = ((2 ^ 15 ||| 2 ^ 14 ||| 2 ^ 13 ||| 2 ^ 12 : Nat) : Int) := by decide
  rw [e, band, Nat.and_or_distrib_left, Nat.and_or_distrib_left, Nat.and_or_distrib_left, and_pow, and_pow, and_pow, and_pow]
  simp only [Nat.testBit_eq_decide_div_mod_eq]
  have hk : n / 4096 < 16 := by (first | lia | omega)
  have e1 : n / 2 ^ 12 = n / 4096 := by (first | lia | omega)
  have e2 : n / 2 ^ 13 = n / 4096 / 2 := by (first | lia | omega)
  have e3 : n / 2 ^ 14 = n / 4096 / 4 := by (first | lia | omega)
  have e4 : n / 2 ^ 15 = n / 4096 / 8 := by (first | lia | omega)
  rw [e1, e2, e3, e4]
  generalize n / 4096 = k at hk
  revert hk
  revert k
  decide +kernel
/-- the sign of a rank -/
noncomputable def sgn (pl : Nat) (rk : Int) : Nat :=
  if pl = 0 then [45, 63, 98, 99, 100, 108, 112, 115].getD rk.toNat 0
  else if pl % 3 = 1 then (if rk = 0 then 45 else 114)
  else if pl % 3 = 2 then (if rk = 0 then 45 else 119)
  else [45, (if pl = 9 then 84 else 83), (if pl = 9 then 116 else 115), 120].getD rk.toNat 0
theorem sgn0 {n : Nat} (h : n < 65536) : pickC n 0 (fmRows.getD 0 (0, [])).2 = sgn 0 (rankZ n (0 : Nat)) := by
  show pickC n 0 (fmRows.getD 0 (0, [])).2 = sgn 0 (rankZ n (0 : Int))
  have e : ∀ c : Int, hitB n 0 c = decide (((n / 4096 * 4096 : Nat) : Int) = c) := by
    intro c
    unfold hitB
    rw [if_pos rfl, ifmt_eq h]
  have e2 : (n : Int).fdiv 4096 = ((n / 4096 : Nat) : Int) := by rw [Int.fdiv_eq_ediv_of_nonneg _ (by decide)]; simp
  have e3 : fmRows.getD 0 (0, []) = (197, [(190, 40960, 108), (191, 49152, 115), (192, 32768, 45), (193, 24576, 98), (194, 16384, 100), (195, 8192, 99), (196, 4096, 112)]) := rfl
  rw [e3]
  simp only [pickC, e, rankZ, if_true, e2, sgn, Int.toNat_natCast]
  have hk : n / 4096 < 16 := by (first | lia | omega)
  generalize n / 4096 = k at hk
  revert hk
  revert k
  decide +kernel
theorem sgn_one {n pl j c a : Nat} {q : Int} (h0 : pl ≠ 0) (h3 : pl % 3 ≠ 0) (hp : pl + j = 9) (hq : q = ((2 ^ j : Nat) : Int)) (hc : c = if pl % 3 = 1 then 114 else 119) : pickC n pl [(a, q, c)] = sgn pl (rankZ n pl) := by
  have e : rankZ n pl = if n.testBit j then 1 else 0 := by
    unfold rankZ
    rw [if_neg (by (first | lia | omega)), if_pos (by rw [Int.fmod_eq_emod_of_nonneg _ (by decide)]; (first | lia | omega))]
    rw [show ((9 : Int) - (pl : Int)).toNat = j by (first | lia | omega)]
    exact fdm2 n j
  rw [e]
  simp only [pickC, hit1 n pl j h0 hq, if_neg h0]
  subst hc
  unfold sgn
  rw [if_neg h0]
  have : pl % 3 = 1 ∨ pl % 3 = 2 := by (first | lia | omega)
  rcases this with h | h <;> cases n.testBit j <;> simp [h]
theorem sgn_three {n pl a b : Nat} {x1 x2 x3 c1 c2 : Nat} {q1 q2 q3 : Int} (h0 : pl ≠ 0) (h3 : pl % 3 = 0) (ha : pl + a = 9) (hb : pl / 3 + b = 12) (hq1 : q1 = ((2 ^ a ||| 2 ^ b : Nat) : Int)) (hq2 : q2 = ((2 ^ b : Nat) : Int)) (hq3 : q3 = ((2 ^ a : Nat) : Int))
    (n1 : 2 ^ a ||| 2 ^ b ≠ 2 ^ a) (n2 : 2 ^ a ||| 2 ^ b ≠ 2 ^ b) (hc1 : c1 = if pl = 9 then 116 else 115) (hc2 : c2 = if pl = 9 then 84 else 83) : pickC n pl [(x1, q1, c1), (x2, q2, c2), (x3, q3, 120)] = sgn pl (rankZ n pl) := by
  have e : rankZ n pl = if n.testBit a then 3 - (if n.testBit b then 1 else 0) else (if n.testBit b then 1 else 0) := by
    unfold rankZ
    rw [if_neg (by (first | lia | omega)), if_neg (by rw [Int.fmod_eq_emod_of_nonneg _ (by decide)]; (first | lia | omega))]
    rw [show ((9 : Int) - (pl : Int)).toNat = a by (first | lia | omega), show ((12 : Int) - (pl : Int).fdiv 3).toNat = b by rw [Int.fdiv_eq_ediv_of_nonneg _ (by decide)]; (first | lia | omega)]
    rw [fdm2 n a, fdm2 n b]
    cases n.testBit a <;> simp
  rw [e]
  simp only [pickC, hit1 n pl a h0 hq3, hit1 n pl b h0 hq2, hit2 n pl a b h0 hq1 n1 n2, if_neg h0]
  subst hc1 hc2
  unfold sgn
  rw [if_neg h0, if_neg (show ¬ pl % 3 = 1 by (first | lia | omega)), if_neg (show ¬ pl % 3 = 2 by (first | lia | omega))]
  cases n.testBit a <;> cases n.testBit b <;> rfl
theorem sgn_pick {n pl : Nat} (h : n < 65536) (hp : pl < 10) : pickC n pl (fmRows.getD pl (0, [])).2 = sgn pl (rankZ n pl) := by
  have : pl = 0 ∨ pl = 1 ∨ pl = 2 ∨ pl = 3 ∨ pl = 4 ∨ pl = 5 ∨ pl = 6 ∨ pl = 7 ∨ pl = 8 ∨ pl = 9 := by (first | lia | omega)
  rcases this with rfl | rfl | rfl | rfl | rfl | rfl | rfl | rfl | rfl | rfl
  · exact sgn0 h
  · exact sgn_one (j := 8) (by decide) (by decide) rfl rfl rfl
  · exact sgn_one (j := 7) (by decide) (by decide) rfl rfl rfl
  · exact sgn_three (a := 6) (b := 11) (by decide) (by decide) rfl rfl rfl rfl rfl (by decide) (by decide) rfl rfl
  · exact sgn_one (j := 5) (by decide) (by decide) rfl rfl rfl
  · exact sgn_one (j := 4) (by decide) (by decide) rfl rfl rfl
  · exact sgn_three (a := 3) (b := 10) (by decide) (by decide) rfl rfl rfl rfl rfl (by decide) (by decide) rfl rfl
  · exact sgn_one (j := 2) (by decide) (by decide) rfl rfl rfl
  · exact sgn_one (j := 1) (by decide) (by decide) rfl rfl rfl
  · exact sgn_three (a := 0) (b := 9) (by decide) (by decide) rfl rfl rfl rfl rfl (by decide) (by decide) rfl rfl
/-- the ranks that a place has -/
theorem rank_range {n pl : Nat} (h : n < 65536) (hp : pl < 10) : 0 ≤ rankZ n pl ∧ rankZ n pl < (if pl = 0 then 8 else if pl % 3 = 0 then 4 else 2) := by
  by_cases h0 : pl = 0
  · subst h0
    show 0 ≤ rankZ n 0 ∧ rankZ n 0 < 8
    have e2 : (n : Int).fdiv 4096 = ((n / 4096 : Nat) : Int) := by rw [Int.fdiv_eq_ediv_of_nonneg _ (by decide)]; simp
    simp only [rankZ, e2, Int.toNat_natCast, if_true]
    have hk : n / 4096 < 16 := by (first | lia | omega)
    generalize n / 4096 = k at hk
    revert hk
    revert k
    decide +kernel
  · rw [if_neg h0]
    unfold rankZ
    rw [if_neg (by (first | lia | omega)), fdm2, fdm2]
    by_cases h3 : pl % 3 = 0
    · rw [if_pos h3, if_neg (by rw [Int.fmod_eq_emod_of_nonneg _ (by decide)]; (first | lia | omega))]
      cases n.testBit (9 - (pl : Int)).toNat <;> cases n.testBit (12 - (pl : Int).fdiv 3).toNat <;> decide
    · rw [if_neg h3, if_pos (by rw [Int.fmod_eq_emod_of_nonneg _ (by decide)]; (first | lia | omega))]
      cases n.testBit (9 - (pl : Int)).toNat <;> decide
theorem sgn_mono : ∀ pl : Fin 10, ∀ a b : Fin (if pl.val = 0 then 8 else if pl.val % 3 = 0 then 4 else 2), (a.val < b.val ↔ sgn pl.val (a.val : Nat) < sgn pl.val (b.val : Nat)) := by decide +kernel
theorem sgn_lt {n k pl : Nat} (h : n < 65536) (hk : k < 65536) (hp : pl < 10) : sgn pl (rankZ n pl) < sgn pl (rankZ k pl) ↔ rankZ n pl < rankZ k pl := by
  obtain ⟨a0, a1⟩ := rank_range h hp
  obtain ⟨b0, b1⟩ := rank_range hk hp
  generalize rankZ n pl = a at a0 a1
  generalize rankZ k pl = b at b0 b1
  obtain ⟨a, rfl⟩ := Int.eq_ofNat_of_zero_le a0
  obtain ⟨b, rfl⟩ := Int.eq_ofNat_of_zero_le b0
  have hx : ((if pl = 0 then 8 else if pl % 3 = 0 then 4 else 2 : Int)) = (((if pl = 0 then 8 else if pl % 3 = 0 then 4 else 2 : Nat)) : Int) := by split <;> (try split) <;> rfl
  rw [hx] at a1 b1
  have := sgn_mono ⟨pl, hp⟩ ⟨a, by simpa using Int.ofNat_lt.mp a1⟩ ⟨b, by simpa using Int.ofNat_lt.mp b1⟩
  simp only at this
  rw [← this]
  exact Int.ofNat_lt.symm
end Mine
end

section
-- Ends1
example : True := by w_top off; trivial
open PySem PySem.W PyProof.Rows PySem.Calls PySem.Spec
set_option maxRecDepth 100000
namespace Mine
theorem foldl_filter {P : Int → Prop} [DecidablePred P] : ∀ (ks acc : List Int), List.foldl (fun l' k' => if P k' then l' ++ [k'] else l') acc ks = acc ++ ks.filter (fun k => decide (P k))
  | [], acc => by simp
  | k :: ks, acc => by
    rw [List.foldl_cons, List.filter_cons, foldl_filter ks]
    by_cases h : P k <;> simp [h]
theorem sum_filter {P : Int → Prop} [DecidablePred P] : ∀ ks : List Int, (ks.filter (fun k => decide (P k))).sum = (ks.map fun k => if P k then k else 0).sum
  | [] => rfl
  | k :: ks => by
    rw [List.filter_cons, List.map_cons, List.sum_cons, ← sum_filter ks]
    by_cases h : P k <;> simp [h]
theorem natCast_sum : ∀ l : List Nat, ((l.sum : Nat) : Int) = (l.map fun n : Nat => (n : Int)).sum
  | [] => rfl
  | a :: l => by rw [List.sum_cons, List.map_cons, List.sum_cons, ← natCast_sum l]; (first | lia | omega)
theorem falls_maj (ns : List Int) : (List.foldl (fun l' k' => if ns.getD k'.toNat 0 < ns.getD (k' - 1).toNat 0 then l' ++ [k'] else l') [] (rangeKs 1 ((ns.length : Int) - 1).toNat)).sum = ((maj ns : Nat) : Int) := by
  rw [foldl_filter (P := fun k' : Int => ns.getD k'.toNat 0 < ns.getD (k' - 1).toNat 0), List.nil_append, sum_filter]
  unfold maj rangeKs
  rw [natCast_sum, List.map_map, List.map_map]
  cases hn : ns.length with
  | zero => rfl
  | succ n =>
    rw [List.range_succ_eq_map, List.map_cons, List.sum_cons, List.map_map]
    rw [show (((n + 1 : Nat) : Int) - 1).toNat = n by (first | lia | omega)]
    have e0 : ((fun n : Nat => (n : Int)) ∘ fun k => if 1 ≤ k ∧ ns.getD k 0 < ns.getD (k - 1) 0 then k else 0) 0 = 0 := rfl
    rw [e0, Int.zero_add]
    congr 1
    apply List.map_congr_left
    intro i _
    have e1 : ((1 : Int) + (i : Int)).toNat = i + 1 := by (first | lia | omega)
    have e2 : ((1 : Int) + (i : Int) - 1).toNat = i := by (first | lia | omega)
    simp only [Function.comp, e1, e2, Nat.succ_eq_add_one, Nat.add_sub_cancel]
    by_cases h : ns.getD (i + 1) 0 < ns.getD i 0
    · rw [if_pos h, if_pos ⟨by (first | lia | omega), h⟩]; (first | lia | omega)
    · rw [if_neg h, if_neg (fun x => h x.2)]; rfl
theorem countP_range {p : Int → Bool} : ∀ (u : List Int), (List.range u.length).countP (fun i => p (u.getD i 0)) = u.countP p := by
  refine snoc_ind rfl ?_
  intro u x ih
  rw [List.length_append, List.length_singleton, List.range_succ, List.countP_append, List.countP_append, ← ih]
  congr 1
  · apply List.countP_congr
    intro i hi
    rw [getD_snoc_lt u x (List.mem_range.mp hi)]
  · have e : (u ++ [x]).getD u.length 0 = x := by simp [List.getD]
    rw [List.countP_singleton, List.countP_singleton, e]
theorem pairCnt_congr {p q : Nat → Nat → Bool} : ∀ (n : Nat), (∀ i j, i < j → j < n → p i j = q i j) → pairCnt p n = pairCnt q n
  | 0, _ => by simp [pairCnt]
  | n + 1, h => by
    rw [pairCnt_succ, pairCnt_succ, pairCnt_congr n fun i j h1 h2 => h i j h1 (by (first | lia | omega))]
    congr 1
    apply List.countP_congr
    intro i hi
    rw [h i n (List.mem_range.mp hi) (by (first | lia | omega))]
theorem pairs_inv : ∀ (ns : List Int), pairCnt (fun i j => decide (ns.getD j 0 < ns.getD i 0)) ns.length = inv (fun x : Int => x) ns := by
  refine snoc_ind (by simp [pairCnt, inv]) ?_
  intro u x ih
  rw [List.length_append, List.length_singleton, pairCnt_succ, inv_snoc, ← ih]
  congr 1
  · apply pairCnt_congr
    intro i j h1 h2
    rw [getD_snoc_lt u x h2, getD_snoc_lt u x (by (first | lia | omega))]
  · rw [← countP_range (p := fun y => decide (x < y)) u]
    apply List.countP_congr
    intro i hi
    have e : (u ++ [x]).getD u.length 0 = x := by simp [List.getD]
    rw [e, getD_snoc_lt u x (List.mem_range.mp hi)]
/-- the signs that filemode may tell -/
noncomputable def okSign (c : Nat) : Bool := [63, 108, 115, 45, 98, 100, 99, 112, 114, 119, 83, 120, 116, 84].contains c
theorem pick_ok {mode : Int} {i : Nat} : ∀ {l : List (Addr × Int × Nat)}, (∀ q ∈ l, okSign q.2.2 = true) → okSign (pickC mode i l) = true
  | [], _ => by unfold pickC; split <;> rfl
  | q :: r, h => by
    unfold pickC
    split
    · exact h q (.head _)
    · exact pick_ok fun q hq => h q (.tail _ hq)
theorem rows_okSign : ∀ i, ∀ q ∈ (fmRows.getD i (0, [])).2, okSign q.2.2 = true := by
  have : ∀ i : Fin 10, ∀ q ∈ (fmRows.getD i.val (0, [])).2, okSign q.2.2 = true := by decide +kernel
  intro i
  by_cases h : i < 10
  · exact this ⟨i, h⟩
  · intro q hq
    have e : fmRows.getD i (0, []) = (0, []) := by
      rw [List.getD, List.getElem?_eq_none (by simp [fmRows]; (first | lia | omega))]; rfl
    rw [e] at hq; cases hq
theorem signs_ok (mode : Int) (n : Nat) : ∀ c ∈ fmSigns mode n, okSign c = true := by
  intro c hc
  obtain ⟨i, _, rfl⟩ := List.mem_map.mp hc
  exact pick_ok (rows_okSign i)
theorem row_cps {c : Nat} {mode : Int} {pl : Nat} (hp : pl < 10) : (rowS ⟨#[c]⟩ mode pl).cps.toList = c :: ((fmSigns mode 10).drop (pl + 1) ++ (fmSigns mode 10).take (pl + 1)) := by
  unfold rowS
  have h : (fmSigns mode 10).length = 10 := by simp [fmSigns]
  generalize fmSigns mode 10 = l at h
  have hl : (Str.mk l.toArray).cps.toList.length = 10 := by simpa using h
  have e1 : Txt.slice ⟨l.toArray⟩ (some ((pl : Int) + 1)) none = ⟨(l.drop (pl + 1)).toArray⟩ := by
    have := StrLaws.sliceText_from (x := ⟨l.toArray⟩) (i := (pl : Int) + 1) (by rw [hl]; (first | lia | omega))
    rw [show Txt.slice ⟨l.toArray⟩ (some ((pl : Int) + 1)) none = StrLaws.sliceText ⟨l.toArray⟩ (some ((pl : Int) + 1)) none from rfl, this, hl]
    rw [show ((pl : Int) + 1).toNat = pl + 1 by (first | lia | omega), show (((10 : Nat) : Int) - ((pl : Int) + 1)).toNat = 10 - (pl + 1) by (first | lia | omega)]
    rw [List.take_of_length_le (by simp [h])]
  have e2 : Txt.slice ⟨l.toArray⟩ none (some ((pl : Int) + 1)) = ⟨(l.take (pl + 1)).toArray⟩ := by
    have := StrLaws.sliceText_to (x := ⟨l.toArray⟩) (j := (pl : Int) + 1) (by rw [hl]; (first | lia | omega))
    rw [show Txt.slice ⟨l.toArray⟩ none (some ((pl : Int) + 1)) = StrLaws.sliceText ⟨l.toArray⟩ none (some ((pl : Int) + 1)) from rfl, this]
    rw [show ((pl : Int) + 1 - 0).toNat = pl + 1 by (first | lia | omega)]
    rfl
  rw [e1, e2]
  show ((#[c] ++ (l.drop (pl + 1)).toArray) ++ (l.take (pl + 1)).toArray).toList = _
  simp
theorem ok_ns {c : Nat} (h : okSign c = true ∨ (97 ≤ c ∧ c < 103)) : Unicode.isSpace c = false ∧ c ≠ 59 := by
  rcases h with h | ⟨h1, h2⟩
  · have h' : c ∈ [63, 108, 115, 45, 98, 100, 99, 112, 114, 119, 83, 120, 116, 84] := by simpa [okSign] using h
    have key : ∀ c ∈ [63, 108, 115, 45, 98, 100, 99, 112, 114, 119, 83, 120, 116, 84], Unicode.isSpace c = false ∧ c ≠ 59 := by decide +kernel
    exact key c h'
  · have h' : c ∈ [97, 98, 99, 100, 101, 102] := by
      have : c = 97 ∨ c = 98 ∨ c = 99 ∨ c = 100 ∨ c = 101 ∨ c = 102 := by (first | lia | omega)
      rcases this with rfl | rfl | rfl | rfl | rfl | rfl <;> decide
    have key : ∀ c ∈ [97, 98, 99, 100, 101, 102], Unicode.isSpace c = false ∧ c ≠ 59 := by decide +kernel
    exact key c h'
theorem row_ok {c : Nat} {mode pl : Int} (h0 : 0 ≤ pl) (h1 : pl < 10) (hc : 97 ≤ c ∧ c < 103) : RowOk (rowS ⟨#[c]⟩ mode pl) := by
  obtain ⟨p, rfl⟩ := Int.eq_ofNat_of_zero_le h0
  have hp : p < 10 := by (first | lia | omega)
  have e := row_cps (c := c) (mode := mode) hp
  have hl : (fmSigns mode 10).length = 10 := by simp [fmSigns]
  have mem : ∀ x ∈ (rowS ⟨#[c]⟩ mode (p : Int)).cps.toList, okSign x = true ∨ (97 ≤ x ∧ x < 103) := by
    intro x hx
    rw [e] at hx
    rcases List.mem_cons.mp hx with rfl | hx
    · exact .inr hc
    · left
      refine signs_ok mode 10 x ?_
      rcases List.mem_append.mp hx with hx | hx
      · exact List.mem_of_mem_drop hx
      · exact List.mem_of_mem_take hx
  refine ⟨?_, fun x hx => (ok_ns (mem x hx)).1, fun hx => (ok_ns (mem 59 hx)).2 rfl⟩
  show (rowS ⟨#[c]⟩ mode (p : Int)).cps.size = 11
  rw [← Array.length_toList, e, List.length_cons, List.length_append, List.length_drop, List.length_take, hl]
  (first | lia | omega)
theorem row_last {c : Nat} {mode pl : Int} (h0 : 0 ≤ pl) (h1 : pl < 10) (m0 : 0 ≤ mode) (m1 : mode < 65536) : lastZ (rowS ⟨#[c]⟩ mode pl) = (sgn pl.toNat (rankZ mode pl) : Nat) := by
  obtain ⟨p, rfl⟩ := Int.eq_ofNat_of_zero_le h0
  obtain ⟨n, rfl⟩ := Int.eq_ofNat_of_zero_le m0
  have hp : p < 10 := by (first | lia | omega)
  have hn : n < 65536 := by (first | lia | omega)
  have e := row_cps (c := c) (mode := (n : Int)) hp
  have hl : (fmSigns (n : Int) 10).length = 10 := by simp [fmSigns]
  unfold lastZ lastN
  rw [← Array.getLast?_toList, e]
  have e2 : (c :: ((fmSigns (n : Int) 10).drop (p + 1) ++ (fmSigns (n : Int) 10).take (p + 1))).getLast? = some (pickC n p (fmRows.getD p (0, [])).2) := by
    rw [List.getLast?_eq_getElem?]
    simp only [List.length_cons, List.length_append, List.length_drop, List.length_take, hl]
    rw [show 10 - (p + 1) + min (p + 1) 10 + 1 - 1 = (10 - (p + 1) + p) + 1 by (first | lia | omega), List.getElem?_cons_succ, List.getElem?_append_right (by simp [hl]), List.length_drop, hl]
    rw [show 10 - (p + 1) + p - (10 - (p + 1)) = p by (first | lia | omega), List.getElem?_take_of_lt (by (first | lia | omega))]
    unfold fmSigns
    rw [List.getElem?_map, List.getElem?_range hp]; rfl
  rw [e2, Option.getD_some, sgn_pick hn hp]
  rfl
/-- the last signs stand in the order of the ranks -/
theorem row_lt {c d : Nat} {a b pl : Int} (h0 : 0 ≤ pl) (h1 : pl < 10) (ha : 0 ≤ a ∧ a < 65536) (hb : 0 ≤ b ∧ b < 65536) : rankZ a pl < rankZ b pl ↔ lastZ (rowS ⟨#[c]⟩ a pl) < lastZ (rowS ⟨#[d]⟩ b pl) := by
  rw [row_last h0 h1 ha.1 ha.2, row_last h0 h1 hb.1 hb.2]
  obtain ⟨p, rfl⟩ := Int.eq_ofNat_of_zero_le h0
  obtain ⟨n, rfl⟩ := Int.eq_ofNat_of_zero_le ha.1
  obtain ⟨k, rfl⟩ := Int.eq_ofNat_of_zero_le hb.1
  have := sgn_lt (n := n) (k := k) (pl := p) (by (first | lia | omega)) (by (first | lia | omega)) (by (first | lia | omega))
  rw [Int.ofNat_lt]
  exact this.symm
end Mine
end

section
-- Abc
example : True := by w_top off; trivial
open PySem PySem.W PyProof.Rows PySem.Calls PySem.Spec PySem.Builtin.Str
set_option maxRecDepth 100000
namespace Mine
theorem occ_abc {i : Nat} (h : i < 6) : PySem.Builtin.Str.occurrences (Str.ofString "abcdef") ⟨#[97 + i]⟩ 0 (Str.ofString "abcdef").length 1 = [i] := by
  have : i = 0 ∨ i = 1 ∨ i = 2 ∨ i = 3 ∨ i = 4 ∨ i = 5 := by (first | lia | omega)
  rcases this with rfl | rfl | rfl | rfl | rfl | rfl <;> decide +kernel
theorem item_first {y : Str} {c : Nat} {l : List Nat} (h : y.cps.toList = c :: l) : Txt.item y 0 = ⟨#[c]⟩ := by
  have hs : y.cps.size = l.length + 1 := by rw [← Array.length_toList, h]; rfl
  have h0 : y.cps[0]? = some c := by rw [← Array.getElem?_toList, h]; rfl
  have e : Txt.charAt y 0 = some c := by
    unfold Txt.charAt
    simp only [Str.length, hs]
    have e0 : seqIndex? 0 (l.length + 1) = some 0 := by simp [seqIndex?]; try (first | lia | omega)
    rw [e0]
    exact h0
  unfold Txt.item
  rw [e]
  rfl
section
variable {prog : Program} {w : World} {A : Around} {E : Value → Shared → Prop} {s : Shared} {t u : Tok} {Q : Value → Shared → Prop}
theorem index_abc {i : Nat} (h : i < 6) (hQ : Q (.int (i : Nat) s.toks) { s with toks := s.toks + 1 }) : wpAny (model prog w) A (call (.builtin "str.index") [.str (Str.ofString "abcdef") t, .str ⟨#[97 + i]⟩ u]) Q E s :=
  SC.index (occ_abc h) hQ
end
end Mine
end

section
-- ForZ
example : True := by w_top off; trivial
open PySem PySem.W PyProof.Rows PySem.Calls PySem.Spec
set_option maxRecDepth 100000
namespace Mine
theorem za_ap {S l1 l2 : Nat} (h1 : l1 < S) (h2 : l2 < S) : ZipApart (S + 4) (S + 2) (S + 3) S (S + 1) l1 l2 :=
  ⟨Nat.ne_of_lt (by (first | lia | omega)), Nat.ne_of_lt (by (first | lia | omega)), Nat.ne_of_lt (by (first | lia | omega)), Nat.ne_of_lt (by (first | lia | omega)), Nat.ne_of_lt (by (first | lia | omega)), Nat.ne_of_gt (by (first | lia | omega)), Nat.ne_of_gt (by (first | lia | omega)), Nat.ne_of_gt (by (first | lia | omega)), Nat.ne_of_gt (by (first | lia | omega)), Nat.ne_of_lt (by (first | lia | omega)),
    Nat.ne_of_lt (by (first | lia | omega)), Nat.ne_of_lt (by (first | lia | omega)), Nat.ne_of_lt (by (first | lia | omega)), Nat.ne_of_lt (by (first | lia | omega)), Nat.ne_of_lt (by (first | lia | omega)), Nat.ne_of_lt (by (first | lia | omega)), Nat.ne_of_lt (by (first | lia | omega)), Nat.ne_of_lt (by (first | lia | omega))⟩
theorem za_wr {S b : Nat} (hb : b ∈ [S + 4, S + 3, S, S + 1]) : S ≤ b ∧ b ≠ S + 2 := by
  simp at hb; (first | lia | omega)
theorem za_fp {S l1 l2 b : Nat} (hb : b ∈ [S + 4, S + 2, S + 3, S, S + 1, l1, l2]) (hn : b ∉ [S + 4, S + 3, S, S + 1]) : b = S + 2 ∨ b = l1 ∨ b = l2 := by
  simp at hb hn; (first | lia | omega)
theorem za_loc {S l1 l2 L : Nat} (h : L < S) (h1 : l1 ≠ L) (h2 : l2 ≠ L) : L ∉ [S + 4, S + 2, S + 3, S, S + 1, l1, l2] := by
  simp
  exact ⟨by (first | lia | omega), by (first | lia | omega), by (first | lia | omega), by (first | lia | omega), by (first | lia | omega), h1.symm, h2.symm⟩
section
variable {prog : Program} {w : World} {A : Around} {E : Value → Shared → Prop} {s : Shared} {env : Env} {h₀ : Heap} {body orelse : List Stmt} {Q : Flow → Shared → Prop} {m₀ : Str → Option Value} {nw₀ : List (Addr × Obj)}
/-- a loop over zip of two lists of the ledger's, whose turns change nothing but the frame -/
theorem for_zip2 {xa xb : Str} {pa pb pt : Pos} {kt : Nat} {l1 l2 : Addr} {xs ys : Array Value} {e1 e2 : Nat} (P : (Str → Option Value) → Prop) (hh : A.handled = none) (hm1 : (l1, listOf xs e1) ∈ nw₀) (hm2 : (l2, listOf ys e2) ∈ nw₀)
    (F : Fr h₀ env.locals s.heap m₀) (N : News h₀ env.locals s.heap nw₀) (h0 : P m₀)
    (hxa : env.kindOf xa = some .local) (hxb : env.kindOf xb = some .local) (hp : (env.scope.kind == .class || (env.scope.kind == .module && env.locals != env.globals)) = false)
    (turn : ∀ (i : Nat) va vb TI oT m h tk own E', xs[i]? = some va → ys[i]? = some vb → P m → OwnOff own (((TI, oT) :: nw₀).map (·.1)) → Fr h₀ env.locals h (fun y => if y = xb then some vb else if y = xa then some va else m y) → News h₀ env.locals h (((TI, oT) :: nw₀) ++ own) →
      wpAny (model prog w) A (execs body env) (LoopPost h₀ env.locals own (fun m nw gs => nw = (TI, oT) :: nw₀ ∧ P m ∧ gs = s.gens) s.drawn s.os Q) E' ⟨h, s.gens, s.drawn, tk, s.os⟩)
    (done : ∀ m h tk E', P m → Fr h₀ env.locals h m → News h₀ env.locals h nw₀ → wpAny (model prog w) A (execs orelse env) Q E' ⟨h, s.gens, s.drawn, tk, s.os⟩) :
    wpAny (model prog w) A (call (.type "zip") [.ref l1, .ref l2]) (fun x s₁ => wpAny (model prog w) A (pyIter x) (fun it s₂ => codeAny (model prog w) A (.forLoop (.Tuple [.Name xa pa, .Name xb pb] kt pt) it body orelse env) (fun r s' => match r with | .ok f => Q f s' | .error e => cameBackBy (model prog w) A env E e s') s₂) E s₁) E s := by
  have ho1 := (N _ hm1).1
  have ho2 := (N _ hm2).1
  refine call_zip_2 (xs := xs) (ys := ys) ⟨_, ho1, rfl, _, rfl⟩ ⟨_, ho2, rfl, _, rfl⟩ fun h3 hz hTI hTO hi1 hi2 hsz hk => ?_
  refine wpAny_pyIter_zip hz ?_
  have hlt1 : l1 < s.heap.objs.size := Heap.lt_size ho1
  have hlt2 : l2 < s.heap.objs.size := Heap.lt_size ho2
  have hLs := F.ns.lt
  have W := (WalksT.zip2 (prog := prog) (w := w) hh _ _ _ _ _ l1 l2 (za_ap hlt1 hlt2) xs ys).toU
  refine forWU (s := { s with heap := h3 }) (nw₀ := (s.heap.objs.size + 2, { cls := .type "tuple", data := .seq #[.ref s.heap.objs.size, .ref (s.heap.objs.size + 1)] }) :: nw₀) (fun _ m nw gs => nw = (s.heap.objs.size + 2, { cls := .type "tuple", data := .seq #[.ref s.heap.objs.size, .ref (s.heap.objs.size + 1)] }) :: nw₀ ∧ P m ∧ gs = s.gens) hh W (fun i h st b hb => ?_) (fun i v hi ⟨x, y, _, _, e⟩ => ⟨_, _, e⟩) hxa hxb hp (za_loc hLs (N _ hm1).2.1 (N _ hm2).2.1) (fun b hb => fresh_base F (za_wr hb).1) (fr_push F hk)
    (fun q hq => ?_) (fun q hq hm => ?_) ⟨hz, hTI, ⟨_, _, hTO⟩, hi1, hi2, ⟨_, hk _ _ ho1, rfl, _, rfl⟩, ⟨_, hk _ _ ho2, rfl, _, rfl⟩⟩ ⟨rfl, h0, rfl⟩ (fun b hb hw => ?_) (fun i m nw gs h hJ F' N' b hb hw o e => ?_)
    (fun i va vb m nw h tk gs own E' hi hP hJ ho F' N' => ?_) (fun m nw h tk gs E' hJ F' N' => ?_)
  · obtain ⟨q1, q2, ⟨_, _, q3⟩, ⟨_, q4, _⟩, ⟨_, q5, _⟩, _⟩ := st
    rcases List.mem_cons.mp hb with rfl | hb
    · exact ⟨_, q1⟩
    rcases List.mem_cons.mp hb with rfl | hb
    · exact ⟨_, q3⟩
    rcases List.mem_cons.mp hb with rfl | hb
    · exact ⟨_, q4⟩
    rw [List.mem_singleton.mp hb]
    exact ⟨_, q5⟩
  · rcases List.mem_cons.mp hq with rfl | hq
    · exact ⟨hTI, (fresh_loc F (Nat.le_add_right _ _)).symm, fresh_base F (Nat.le_add_right _ _)⟩
    · exact ⟨hk _ _ (N q hq).1, (N q hq).2⟩
  · rcases List.mem_cons.mp hq with rfl | hq
    · exact (za_wr hm).2 rfl
    · exact fresh_news N (za_wr hm).1 q hq rfl
  · rcases za_fp hb hw with rfl | rfl | rfl
    · exact ⟨_, hTI⟩
    · exact ⟨_, hk _ _ ho1⟩
    · exact ⟨_, hk _ _ ho2⟩
  · obtain ⟨rfl, _, _⟩ := hJ
    replace e : h3.get? b = some o := e
    rcases za_fp hb hw with rfl | rfl | rfl
    · rw [hTI] at e; cases e
      exact (N' _ (.head _)).1
    · rw [hk _ _ ho1] at e; cases e
      exact (N' _ (.tail _ hm1)).1
    · rw [hk _ _ ho2] at e; cases e
      exact (N' _ (.tail _ hm2)).1
  · obtain ⟨x, y, hx, hy, e⟩ := hP
    have e' : va = x ∧ vb = y := by simpa using e
    obtain ⟨rfl, rfl⟩ := e'
    obtain ⟨rfl, hPm, rfl⟩ := hJ
    exact turn i va vb _ _ m h tk own E' hx hy hPm ho F' N'
  · obtain ⟨rfl, hPm, rfl⟩ := hJ
    exact done m h tk E' hPm F' fun q hq => N' q (.tail _ hq)
end
theorem idx_get : ∀ {ns : List Nat} {i m : Nat}, m < ns.idxOf i → ns[m]? ≠ some i
  | [], _, _, h => by simp at h
  | a :: t, i, 0, h => by
    intro e
    simp at e
    subst e
    simp at h
  | a :: t, i, m + 1, h => by
    rw [List.idxOf_cons] at h
    by_cases e : a = i
    · subst e; simp at h
    · have e' : (a == i) = false := by simpa using e
      rw [e', cond_false] at h
      simpa using idx_get (ns := t) (m := m) (by (first | lia | omega))
theorem ints_natAt {vs : List Value} {ns : List Nat} (hi : IntsAre vs (ns.map fun i : Nat => (i : Int))) {m : Nat} (hm : m < vs.length) : ∃ a t, ns[m]? = some a ∧ vs[m] = .int (a : Nat) t := by
  have key : ∀ {vs : List Value} {ks : List Int} {m : Nat} (hm : m < vs.length), IntsAre vs ks → ∃ x t, ks[m]? = some x ∧ vs[m] = .int x t := by
    intro vs ks m hm h
    induction h generalizing m with
    | nil => simp at hm
    | cons x t _ ih =>
      cases m with
      | zero => exact ⟨x, t, rfl, rfl⟩
      | succ m => simpa using ih (m := m) (by simpa using hm)
  obtain ⟨x, t, e1, e2⟩ := key hm hi
  rw [List.getElem?_map] at e1
  cases e3 : ns[m]? with
  | none => rw [e3] at e1; cases e1
  | some a => rw [e3] at e1; cases e1; exact ⟨a, t, rfl, e2⟩
section
variable {prog : Program} {w : World} {A : Around} {E : Value → Shared → Prop} {s : Shared}
theorem index_nats {l : Addr} {vs : List Value} {ns : List Nat} {e i : Nat} {u : Tok} {Q : Value → Shared → Prop} (hl : s.heap.get? l = some (listOf vs.toArray e)) (hi : IntsAre vs (ns.map fun i : Nat => (i : Int))) (hin : i ∈ ns) (hn : ns.length ≤ 100)
    (h : Q (.int (ns.idxOf i : Nat) s.toks) { s with toks := s.toks + 1 }) : wpAny (model prog w) A (call (.builtin "list.index") [.ref l, .int (i : Nat) u]) Q E s := by
  have hlt := List.idxOf_lt_length_of_mem hin
  have hlen : vs.length = ns.length := by rw [hi.length]; simp
  refine call_meets F.slot_list_index ⟨_, hl, rfl⟩ F.entry_list_index (F.args_list_index_2 _ _) (SeqAt.list_indexAt l vs.toArray e none #[] (.int (i : Nat) u) (fun y => match y with | .int a _ => a == (i : Int) | _ => false) (ns.idxOf i) (by simpa [hlen] using hlt) (by (first | lia | omega)) ?_ ?_) ⟨hl, ?_, h⟩
  · obtain ⟨a, t, e1, e2⟩ := ints_natAt hi (m := ns.idxOf i) (by (first | lia | omega))
    have e3 : vs.toArray[ns.idxOf i]'(by simpa [hlen] using hlt) = .int (a : Nat) t := by simpa using e2
    rw [e3]
    rw [List.getElem?_eq_getElem hlt, List.getElem_idxOf hlt] at e1
    cases e1
    simp
  · intro m hm hmj
    obtain ⟨a, t, e1, e2⟩ := ints_natAt hi (m := m) (by simpa using hm)
    have e3 : vs.toArray[m] = .int (a : Nat) t := by simpa using e2
    rw [e3]
    have := idx_get hmj
    rw [e1] at this
    have h9 : a ≠ i := fun e => this (by rw [e])
    simpa using fun e : (a : Int) = (i : Int) => h9 (by (first | lia | omega))
  · intro y hy
    obtain ⟨m, hm, rfl⟩ := List.getElem_of_mem (Array.mem_toList_iff.mpr hy)
    obtain ⟨a, t, e1, e2⟩ := ints_natAt hi (m := m) (by simpa using hm)
    have e3 : vs.toArray.toList[m] = .int (a : Nat) t := by simpa using e2
    rw [e3]
    exact SeqAt.EqAt.int_int _ _ _ _
end
end Mine
end

section
-- Law1
example : True := by w_top off; trivial
open PySem PySem.W PyProof.Rows PySem.Calls PySem.Spec
set_option maxRecDepth 100000
namespace Mine
theorem sub_nil' {b : List (Addr × Obj)} : ∀ q ∈ ([] : List (Addr × Obj)), q ∈ b := fun _ h => nomatch h
theorem sub_cons' {x : Addr × Obj} {a b : List (Addr × Obj)} (h : x ∈ b) (t : ∀ q ∈ a, q ∈ b) : ∀ q ∈ x :: a, q ∈ b := List.forall_mem_cons.mpr ⟨h, t⟩
theorem fr_if1 {g h : Heap} {L : Addr} {m : Str → Option Value} {x : Str} {v : Value} (F : Fr g L h m) (e : m x = some v) : ∃ m' : Str → Option Value, Fr g L h (fun y => if y = x then some v else m' y) := by
  obtain ⟨m', rfl⟩ := as_if e
  exact ⟨m', F⟩
theorem fr_law1 {g h : Heap} {L M : Addr} {m : Str → Option Value} {v : Int} {t : Tok} (F : Fr g L h m) (e1 : m "modes" = some (.ref M)) (e2 : m "width" = some (.int v t)) : ∃ (t' : Tok) (m' : Str → Option Value), Fr g L h (fun y => if y = "modes" then some (.ref M) else if y = "width" then some (.int v t') else m' y) := by
  obtain ⟨m', rfl⟩ := as_if2 e1 e2
  exact ⟨t, m', F⟩
theorem news_plain {g h : Heap} {L D : Addr} {m : Str → Option Value} {nw : List (Addr × Obj)} {ys : Array Value} (N : News g L h nw) (F : Fr g L h m) (hD : g.get? D = none) (x : NewPlain h nw D ys) : ∃ k, News g L h ((D, listOf ys k) :: nw) ∧ ∀ p ∈ nw, p.1 ≠ D := by
  have hL := x.ne_locals F
  obtain ⟨⟨k, e⟩, hne⟩ := x
  refine ⟨k, fun q hq => ?_, hne⟩
  rcases List.mem_cons.mp hq with rfl | hq
  · exact ⟨e, hL, hD⟩
  · exact N q hq
/-- the i-th row -/
noncomputable def rowAt (ms : List Int) (pl : Int) (i : Nat) : Str := rowS ⟨#[97 + i]⟩ (ms.getD i 0) pl
noncomputable def rowsOf (ms : List Int) (pl : Int) : List Str := (List.range ms.length).map (rowAt ms pl)
theorem abc_at : ∀ {i c : Nat}, ("abcdef" : Str).cps[i]? = some c → c = 97 + i ∧ i < 6 := by
  intro i c h
  have hi : i < 6 := by
    have := (Array.getElem?_eq_some_iff.mp h).1
    exact this
  have : i = 0 ∨ i = 1 ∨ i = 2 ∨ i = 3 ∨ i = 4 ∨ i = 5 := by omega
  rcases this with rfl | rfl | rfl | rfl | rfl | rfl <;> exact ⟨(Option.some.inj h).symm, by decide⟩
theorem rows_strs {ms : List Int} {pl : Int} {zs : List Value} (hl : zs.length = ms.length) (h : ∀ (j : Nat) y, zs[j]? = some y → ∃ t c x, ("abcdef" : Str).cps[j]? = some c ∧ ms[j]? = some x ∧ y = Value.str (rowS ⟨#[c]⟩ x pl) t) : StrsAre zs (rowsOf ms pl) := by
  have key : ∀ (l : List Value) (k : Nat), (∀ (j : Nat) y, l[j]? = some y → ∃ t, y = Value.str (rowAt ms pl (k + j)) t) → StrsAre l ((List.range' k l.length).map (rowAt ms pl)) := by
    intro l
    induction l with
    | nil => intro k _; exact .nil
    | cons a l ih =>
      intro k hk
      obtain ⟨t, rfl⟩ := hk 0 a rfl
      rw [List.length_cons, List.range'_succ, List.map_cons]
      exact .cons _ t (ih (k + 1) fun j y hy => by
        obtain ⟨t', e⟩ := hk (j + 1) y (by simpa using hy)
        exact ⟨t', by rw [e]; congr 2; (first | lia | omega)⟩)
  have := key zs 0 fun j y hy => by
    obtain ⟨t, c, x, h1, h2, rfl⟩ := h j y hy
    refine ⟨t, ?_⟩
    rw [(abc_at h1).1, Nat.zero_add]
    simp [rowAt, List.getD, h2]
  unfold rowsOf
  rw [← hl, List.range_eq_range']
  exact this
theorem list_off {g h : Heap} {L D P : Addr} {a t : Array Value} {k : Nat} {nw : List (Addr × Obj)} (N : News g L h nw) (h1 : (D, W.listOf a k) ∈ nw) (h2 : (P, tabObj t) ∈ nw) : D ≠ P := ne_cls (N _ h1).1 (N _ h2).1 (fun e => absurd (show Value.type "list" = (tabObj #[]).cls from e) (by decide))
theorem off_add {R : Addr} {oR a b : Obj} {rest : List (Addr × Obj)} (hne : ∀ q ∈ (140, a) :: (147, b) :: rest, q.1 ≠ R) (off : ∀ q ∈ rest, q.1 ≠ 140 ∧ q.1 ≠ 147) : ∀ q ∈ (R, oR) :: rest, q.1 ≠ 140 ∧ q.1 ≠ 147 := by
  rintro q (_ | ⟨_, hq⟩)
  · exact ⟨(hne _ (.head _)).symm, (hne _ (.tail _ (.head _))).symm⟩
  · exact off q hq
theorem strs_ne {A : Around} {s : Shared} {l b : Addr} {u v : List Value} {rs : List Str} (hl : s.heap.IsList l u.toArray) (hb : s.heap.IsList b v.toArray) (h1 : StrsAre u rs) (h2 : StrsAre v rs) (hu : A.units < cLine) : SeqAt.RcNeAt A s (.ref l) (.ref b) false := by
  have key := SeqAt.RcNeAt.lists (e := fun _ => true) hl hb (by have e1 := h1.length; have e2 := h2.length; simp; omega) hu (fun j l1 l2 => ?_)
  · have e : (!(List.range u.toArray.size).all fun _ => true) = false := by simp
    rw [e] at key
    exact key
  · obtain ⟨x, t, e1, e2⟩ := strs_item h1 (List.getElem?_eq_getElem (by simpa using l1))
    obtain ⟨x', t', e3, e4⟩ := strs_item h2 (List.getElem?_eq_getElem (by simpa using l2))
    rw [e2] at e4
    cases e4
    have e5 : u.toArray[j] = .str x t := by simpa using e1
    have e6 : v.toArray[j] = .str x t' := by simpa using e3
    rw [e5, e6]
    have := SeqAt.EqAt.str_str (A := A.in1) (s := s) x t x t'
    rwa [show (x == x) = true by simp] at this
theorem rowsOf_ok {ms : List Int} {pl : Int} (h6 : ms.length ≤ 6) (h0 : 0 ≤ pl) (h1 : pl < 10) : ∀ y ∈ rowsOf ms pl, RowOk y := by
  intro y hy
  obtain ⟨i, hi, rfl⟩ := List.mem_map.mp hy
  have := List.mem_range.mp hi
  exact row_ok h0 h1 ⟨by omega, by omega⟩
theorem fr_law2 {g h : Heap} {L a b c : Addr} {m : Str → Option Value} (F : Fr g L h m) (e1 : m "made" = some (.ref a)) (e2 : m "ahead" = some (.ref b)) (e3 : m "modes" = some (.ref c)) : ∃ (m' : Str → Option Value), Fr g L h (fun y => if y = "made" then some (.ref a) else if y = "ahead" then some (.ref b) else if y = "modes" then some (.ref c) else m' y) := by
  obtain ⟨m', rfl⟩ := as_if3 e1 e2 e3
  exact ⟨m', F⟩
theorem news_put {g h : Heap} {L : Addr} {a : Addr × Obj} {b : List (Addr × Obj)} (x : h.get? a.1 = some a.2 ∧ a.1 ≠ L ∧ g.get? a.1 = none) (N : News g L h b) : News g L h (a :: b) := fun q hq => by
  rcases List.mem_cons.mp hq with rfl | hq
  · exact x
  · exact N q hq
theorem rowAt_cps {ms : List Int} {pl : Int} {i : Nat} (h0 : 0 ≤ pl) (h1 : pl < 10) : ∃ l, (rowAt ms pl i).cps.toList = (97 + i) :: l := by
  obtain ⟨p, rfl⟩ := Int.eq_ofNat_of_zero_le h0
  exact ⟨_, row_cps (by (first | lia | omega))⟩
theorem item_rowAt {ms : List Int} {pl : Int} {i : Nat} (h0 : 0 ≤ pl) (h1 : pl < 10) : Txt.item (rowAt ms pl i) 0 = ⟨#[97 + i]⟩ := by
  obtain ⟨l, e⟩ := rowAt_cps (ms := ms) (i := i) h0 h1
  exact item_first e
/-- the i-th rank -/
noncomputable def rkOf (ms : List Int) (pl : Int) (i : Nat) : Int := rankZ (ms.getD i 0) pl
theorem ranks_map {ms : List Int} {pl : Int} : ms.map (fun a => rankZ a pl) = (List.range ms.length).map (rkOf ms pl) := by
  apply List.ext_getElem?
  intro i
  by_cases h : i < ms.length
  · simp [rkOf, h, List.getD]
  · rw [List.getElem?_eq_none (by simpa using h), List.getElem?_eq_none (by simpa using h)]
theorem sameOrd {ms : List Int} {pl : Int} (h0 : 0 ≤ pl) (h1 : pl < 10) (hm : ∀ x ∈ ms, 0 ≤ x ∧ x < 65536) : SameOrd (rkOf ms pl) lastZ (rowAt ms pl) (List.range ms.length) := by
  intro x hx y hy
  have b : ∀ x, x ∈ List.range ms.length → 0 ≤ ms.getD x 0 ∧ ms.getD x 0 < 65536 := fun x hx => by
    have h := List.mem_range.mp hx
    refine hm _ ?_
    simp [List.getD, h]
  exact row_lt h0 h1 (b x hx) (b y hy)
/-- the letter's number -/
noncomputable def firstZ (y : Str) : Int := ((y.cps.toList.headD 0 - 97 : Nat) : Int)
theorem first_rowAt {ms : List Int} {pl : Int} {i : Nat} (h0 : 0 ≤ pl) (h1 : pl < 10) : firstZ (rowAt ms pl i) = (i : Nat) := by
  obtain ⟨l, e⟩ := rowAt_cps (ms := ms) (i := i) h0 h1
  unfold firstZ
  rw [e, List.headD_cons, Nat.add_sub_cancel_left]
theorem made_nat {ms : List Int} {pl : Int} (h0 : 0 ≤ pl) (h1 : pl < 10) (hm : ∀ x ∈ ms, 0 ≤ x ∧ x < 65536) : (made lastZ (rowsOf ms pl)).map firstZ = (made (rkOf ms pl) (List.range ms.length)).map fun i : Nat => (i : Int) := by
  unfold rowsOf
  rw [made_map _ (sameOrd h0 h1 hm), List.map_map]
  apply List.map_congr_left
  intro i _
  exact first_rowAt h0 h1
theorem back_nat {ms : List Int} {pl : Int} (h0 : 0 ≤ pl) (h1 : pl < 10) (hm : ∀ x ∈ ms, 0 ≤ x ∧ x < 65536) : (back lastZ (rowsOf ms pl)).map firstZ = (back (rkOf ms pl) (List.range ms.length)).map fun i : Nat => (i : Int) := by
  unfold rowsOf
  rw [back_map _ (sameOrd h0 h1 hm), List.map_map]
  apply List.map_congr_left
  intro i _
  exact first_rowAt h0 h1
theorem ints_get {vs : List Value} {n i : Nat} {r : Nat → Int} (hi : IntsAre vs ((List.range n).map r)) (h : i < n) : ∃ t, vs[i]? = some (.int (r i) t) := by
  have hkv : i < vs.length := by rw [hi.length]; simpa using h
  obtain ⟨z, t, e1, e2⟩ := ints_item hi (List.getElem?_eq_getElem hkv)
  refine ⟨t, ?_⟩
  rw [List.getElem?_eq_getElem hkv, e1]
  simp [h] at e2
  rw [e2]
theorem idx_same {x y a b : Nat} (h : x < y ↔ a < b) : ¬ (decide ((x : Int) < (y : Int)) != decide ((a : Int) < (b : Int))) = true := by
  have e : decide ((x : Int) < (y : Int)) = decide ((a : Int) < (b : Int)) := by rw [decide_eq_decide]; (first | lia | omega)
  rw [e]; simp
theorem ints_natAt' {vs : List Value} {ns : List Nat} (hi : IntsAre vs (ns.map fun i : Nat => (i : Int))) {m : Nat} {v : Value} (hm : vs[m]? = some v) : ∃ a t, ns[m]? = some a ∧ v = .int (a : Nat) t := by
  obtain ⟨h, rfl⟩ := List.getElem?_eq_some_iff.mp hm
  exact ints_natAt hi h
theorem pairs_falls {r : Nat → Int} {n : Nat} : pairsK ((made r (List.range n)).map r) = fallsK ((List.range n).map r) := by
  unfold pairsK fallsK
  rw [pairs_inv, falls_maj, law_a]
theorem falls_pairs {r : Nat → Int} {n : Nat} : fallsK ((back r (List.range n)).map r) = pairsK ((List.range n).map r) := by
  unfold pairsK fallsK
  rw [pairs_inv, falls_maj, law_b]
section
variable {w : World} {p : Program} {loose : List Str} {mean : ExcName → Option Value} {mg mb : Str → Option Value} {G g : Heap} {L : Addr} {m : Str → Option Value} {nw : List (Addr × Obj)} {A : Around} {s : Shared} {Q E : Value → Shared → Prop}
theorem u_rankK {mode place : Int} {t1 t2 : Tok} (F : Fr g L s.heap m) (N : News g L s.heap nw) (D : Gd w p loose mean mg mb G) (hs : G.StaysIn g) (hh : A.handled = none) (hd : A.depth ≤ 800) (hu : A.units ≤ 600)
    (h1 : 0 ≤ mode) (h2 : mode < 65536) (h3 : 0 ≤ place) (h4 : place < 10)
    (k : ∀ t h' tk', (∀ b o, s.heap.get? b = some o → h'.get? b = some o) → Fr g L h' m → News g L h' nw → Q (.int (rankZ mode place) t) { s with heap := h', toks := tk' }) :
    wpAny (model Challenge.rw_oc0165_01.row.prog w) A (call (.ref 248) [.int mode t1, .int place t2]) Q E s :=
  wp_up hh hd hu (c_rank D (stays_fr F hs) h1 h2 h3 h4 fun t h' tk' hk => k t h' tk' hk (frK F hk) (newsK N hk))
theorem u_rowK {letter : Str} {mode place : Int} {t1 t2 t3 : Tok} (F : Fr g L s.heap m) (N : News g L s.heap nw) (D : Gd w p loose mean mg mb G) (hs : G.StaysIn g) (hh : A.handled = none) (hd : A.depth ≤ 600) (hu : A.units ≤ 400)
    (hl : letter.length = 1) (h1 : 0 ≤ mode) (h2 : mode < 65536) (h3 : 0 ≤ place) (h4 : place < 10)
    (k : ∀ t h' tk', (∀ b o, s.heap.get? b = some o → h'.get? b = some o) → Fr g L h' m → News g L h' nw → Q (.str (rowS letter mode place) t) { s with heap := h', toks := tk' }) :
    wpAny (model Challenge.rw_oc0165_01.row.prog w) A (call (.ref 255) [.str letter t1, .int mode t2, .int place t3]) Q E s :=
  wp_up hh hd hu (c_row D (stays_fr F hs) hl h1 h2 h3 h4 fun t h' tk' hk => k t h' tk' hk (frK F hk) (newsK N hk))
end
section
variable {w : World} {p : Program} {loose : List Str} {mean : ExcName → Option Value} {mg mb : Str → Option Value} {G : Heap} {s : Shared}
set_option maxHeartbeats 8000000
local macro_rules | `(tactic| walk_at "my steps") => `(tactic| (repeat' (first | (fail_if_success (with_reducible show wpAny _ _ (exec (Stmt.For _ _ _ _ _) _) _ _ _)); (fail_if_success (with_reducible show wpAny _ _ (exec (Stmt.While _ _ _ _) _) _ _ _)); (fail_if_success (with_reducible show wpAny _ _ (eval (PySem.Expr.ListComp _ _ _ _) _) _ _ _)); (fail_if_success (with_reducible show CompPack _)); (fail_if_success (with_reducible show wpAny _ _ (call (Value.type "zip") _) _ _ _)); (fail_if_success (with_reducible show wpAny _ _ (eval (PySem.Expr.Lambda _ _ _ _) _) _ _ _)); (fail_if_success (with_reducible show wpAny _ _ (call (Value.builtin "sorted") _ _) _ _ _)); (fail_if_success (with_reducible show wpAny _ _ (exec (Stmt.Assign _ (PySem.Expr.ListComp _ _ _ _) _) _) _ _ _)); (fail_if_success (with_reducible show wpAny _ _ (call (Value.builtin "str.join") _) _ _ _)); (fail_if_success (with_reducible show wpAny _ _ (call (Value.builtin "str.split") _) _ _ _)); (fail_if_success (with_reducible show wpAny _ _ (call (Value.builtin "str.index") _) _ _ _)); (fail_if_success (with_reducible show wpAny _ _ (subscriptTail _ (PySem.Expr.Slice _ _ _ _) _ _) _ _ _)); (fail_if_success (with_reducible show wpAny _ _ (binaryOp _ (Value.ref _) (Value.ref _)) _ _ _)); (fail_if_success (with_reducible show wpAny _ _ (call (Value.builtin "list.extend") _) _ _ _)); (fail_if_success (with_reducible show wpAny _ _ (call (Value.builtin "list.append") _) _ _ _)); (fail_if_success (with_reducible show wpAny _ _ (compareOp _ (Value.ref _) (Value.ref _)) _ _ _)); (first | (k_unfold; (try dsimp only)) | (first | ((k_here; (with_reducible show wpAny _ _ (call (Value.ref 284) _) _ _ _); k_dflt (refine' u_falls ?k1 ?k2 ?k3 ?k4 ?k5 ?k6 ?k7 ?k8 ?k9 ?k10 ?_; (case k1 => k_asm); (case k2 => k_asm); (case k3 => assumption); (case k4 => assumption); (case k5 => exact rfl); (case k6 => decide); (case k7 => decide); (case k8 => is_list); (case k9 => assumption); (case k10 => assumption)); intro t' h' tk' F' N'; (try k_sweep))) | ((k_here; (with_reducible show wpAny _ _ (call (Value.ref 279) _) _ _ _); k_dflt (refine' u_pairs ?k1 ?k2 ?k3 ?k4 ?k5 ?k6 ?k7 ?k8 ?k9 ?k10 ?_; (case k1 => k_asm); (case k2 => k_asm); (case k3 => assumption); (case k4 => assumption); (case k5 => exact rfl); (case k6 => decide); (case k7 => decide); (case k8 => is_list); (case k9 => assumption); (case k10 => assumption)); intro t' h' tk' F' N'; (try k_sweep))) | ((k_here; (with_reducible show wpAny _ _ (call (Value.ref 255) _) _ _ _); k_dflt (refine' u_rowK ?k1 ?k2 ?k3 ?k4 ?k5 ?k6 ?k7 ?k8 ?k9 ?k10 ?k11 ?k12 ?_; (case k1 => k_asm); (case k2 => k_asm); (case k3 => assumption); (case k4 => assumption); (case k5 => exact rfl); (case k6 => decide); (case k7 => decide); (case k8 => exact rfl); (case k9 => first | assumption | omega); (case k10 => first | assumption | omega); (case k11 => first | assumption | omega); (case k12 => first | assumption | omega)); intro t' h' tk' hk' F' N'; (try k_sweep))) | ((k_here; (with_reducible show wpAny _ _ (call (Value.ref 248) _) _ _ _); k_dflt (refine' u_rankK ?k1 ?k2 ?k3 ?k4 ?k5 ?k6 ?k7 ?k8 ?k9 ?k10 ?k11 ?_; (case k1 => k_asm); (case k2 => k_asm); (case k3 => assumption); (case k4 => assumption); (case k5 => exact rfl); (case k6 => decide); (case k7 => decide); (case k8 => first | assumption | omega); (case k9 => first | assumption | omega); (case k10 => first | assumption | omega); (case k11 => first | assumption | omega)); intro t' h' tk' hk' F' N'; (try k_sweep))) | walk1) | (dsimp only; (first | ((k_here; (with_reducible show wpAny _ _ (call (Value.ref 284) _) _ _ _); k_dflt (refine' u_falls ?k1 ?k2 ?k3 ?k4 ?k5 ?k6 ?k7 ?k8 ?k9 ?k10 ?_; (case k1 => k_asm); (case k2 => k_asm); (case k3 => assumption); (case k4 => assumption); (case k5 => exact rfl); (case k6 => decide); (case k7 => decide); (case k8 => is_list); (case k9 => assumption); (case k10 => assumption)); intro t' h' tk' F' N'; (try k_sweep))) | ((k_here; (with_reducible show wpAny _ _ (call (Value.ref 279) _) _ _ _); k_dflt (refine' u_pairs ?k1 ?k2 ?k3 ?k4 ?k5 ?k6 ?k7 ?k8 ?k9 ?k10 ?_; (case k1 => k_asm); (case k2 => k_asm); (case k3 => assumption); (case k4 => assumption); (case k5 => exact rfl); (case k6 => decide); (case k7 => decide); (case k8 => is_list); (case k9 => assumption); (case k10 => assumption)); intro t' h' tk' F' N'; (try k_sweep))) | ((k_here; (with_reducible show wpAny _ _ (call (Value.ref 255) _) _ _ _); k_dflt (refine' u_rowK ?k1 ?k2 ?k3 ?k4 ?k5 ?k6 ?k7 ?k8 ?k9 ?k10 ?k11 ?k12 ?_; (case k1 => k_asm); (case k2 => k_asm); (case k3 => assumption); (case k4 => assumption); (case k5 => exact rfl); (case k6 => decide); (case k7 => decide); (case k8 => exact rfl); (case k9 => first | assumption | omega); (case k10 => first | assumption | omega); (case k11 => first | assumption | omega); (case k12 => first | assumption | omega)); intro t' h' tk' hk' F' N'; (try k_sweep))) | ((k_here; (with_reducible show wpAny _ _ (call (Value.ref 248) _) _ _ _); k_dflt (refine' u_rankK ?k1 ?k2 ?k3 ?k4 ?k5 ?k6 ?k7 ?k8 ?k9 ?k10 ?k11 ?_; (case k1 => k_asm); (case k2 => k_asm); (case k3 => assumption); (case k4 => assumption); (case k5 => exact rfl); (case k6 => decide); (case k7 => decide); (case k8 => first | assumption | omega); (case k9 => first | assumption | omega); (case k10 => first | assumption | omega); (case k11 => first | assumption | omega)); intro t' h' tk' hk' F' N'; (try k_sweep))) | walk1))))))
theorem c_law {R : Result → Shared → Prop} {l : Addr} {vs : List Value} {ns : List Int} {tb tc : Array Value} (D : Gd w p loose mean mg mb G) (St : G.StaysIn s.heap) (hl : s.heap.IsList l vs.toArray) (hi : IntsAre vs ns) (hn : ns.length ≤ 63)
    (hP : s.heap.get? 140 = some (tabObj tb)) (htr : TriplesOk tb.toList) (hPG : G.get? 140 = none) (hP2 : s.heap.get? 147 = some (tabObj tc)) (htr2 : TriplesOk tc.toList) (hPG2 : G.get? 147 = none)
    (hP3 : s.heap.get? 286 = some (tabObj #[])) (hPG3 : G.get? 286 = none) (hbare : AllBare s.gens) (hret : ∀ s', (∀ b o, s.heap.get? b = some o → b ≠ 140 → b ≠ 147 → b ≠ 286 → s'.heap.get? b = some o) → (∃ t, s'.heap.get? 140 = some (tabObj t)) → (∃ t, s'.heap.get? 147 = some (tabObj t)) → (∃ t, s'.heap.get? 286 = some (tabObj t)) → AllBare s'.gens → s'.os = s.os → R (.ok (.ret (.bool true))) s') :
    codeAny (model Challenge.rw_oc0165_01.row.prog w) (Am 305 50) (.call (.ref 289) ⟨[.ref l], []⟩) R s := by
  have fill : (hd.heap_1 w.params).In G := D.X
  revert fill
  k_fill
  intro _
  refine' enterC (binds := [("script", .ref l)]) [(140, tabObj tb), (147, tabObj tc), (286, tabObj #[])] D St ?k3 ?k4 ?k6 ?k7 ?k8 ?k9 ?kB ?kD ?c2 ?c3 ?c4 ?_
  case k3 => rintro q (_ | ⟨_, _ | ⟨_, _ | ⟨_, hq⟩⟩⟩); (· exact hP); (· exact hP2); (· exact hP3); cases hq
  case k4 => rintro q (_ | ⟨_, _ | ⟨_, _ | ⟨_, hq⟩⟩⟩); (· exact hPG); (· exact hPG2); (· exact hPG3); cases hq
  (((case k6 => k_is); (case k7 => k_is); (case k8 => decide)))
  case k9 => exact BindsTo.of_eq rfl
  case kB => exact rfl
  case kD => decide +kernel
  case c2 => exact rfl
  case c3 => exact rfl
  case c4 => exact rfl
  intro g L h tk cells hg hL F N Y X T l1 hkeep hst
  obtain ⟨o1, o2, hE, d1, d2⟩ := CellsAre.two Y
  subst hE
  clear Y
  dsimp only [List.cons_append, List.nil_append] at N
  replace hkeep : ∀ b o, s.heap.get? b = some o → b ≠ 140 → b ≠ 147 → b ≠ 286 → g.get? b = some o := fun b o e hb hb2 hb3 => hkeep b o e (by rintro q (_ | ⟨_, _ | ⟨_, _ | ⟨_, hq⟩⟩⟩); (· exact hb.symm); (· exact hb2.symm); (· exact hb3.symm); cases hq)
  have hlg : g.IsList l vs.toArray := by
    obtain ⟨o, ho, hc, r⟩ := hl
    exact ⟨o, hkeep _ _ ho (ne_cls ho hP (by simp [hc])) (ne_cls ho hP2 (by simp [hc])) (ne_cls ho hP3 (by simp [hc])), hc, r⟩
  replace d1 : o1.data = .cell none := d1
  replace d2 : o2.data = .cell none := d2
  have l140 : (140 : Nat) < L := l1 (140, tabObj tb) (.head _)
  have l147 : (147 : Nat) < L := l1 (147, tabObj tc) (.tail _ (.head _))
  have l286 : (286 : Nat) < L := l1 (286, tabObj #[]) (.tail _ (.tail _ (.head _)))
  obtain ⟨m0, F0⟩ := fr_if1 (x := "script") (v := .ref l) F rfl
  clear F
  try dsimp only
  try k_fold
  walk_at "my steps"
  rename Fr _ _ _ _ => F1
  rename News _ _ _ _ => N1
  refine u_cells F1 N1 D hst rfl (by decide) (by decide) hlg hi hn ?_
  intro T2 M2 f2 tf2 ys ms k2 h2 tk2 F2 N2 hms hm5 hm6 hmb
  clear F1 N1
  walk_at "my steps"
  rename Fr _ _ _ _ => F3
  rename News _ _ _ _ => N3
  rename _ = Data.cell (some _) => d3
  rename Obj => o3
  obtain ⟨tw, m1, F4⟩ := fr_law1 F3 rfl rfl
  clear F3
  dsimp only [List.cons_append, List.nil_append] at N3
  refine wpAny_Assign_Name ?_
  have hpl0 : 0 ≤ f2.fmod 10 := by rw [Int.fmod_eq_emod_of_nonneg _ (by decide)]; (first | lia | omega)
  have hpl1 : f2.fmod 10 < 10 := by rw [Int.fmod_eq_emod_of_nonneg _ (by decide)]; (first | lia | omega)
  have hwd0 : 0 ≤ (f2.fdiv 10).fmod 24 := by rw [Int.fmod_eq_emod_of_nonneg _ (by decide)]; (first | lia | omega)
  have hwd1 : (f2.fdiv 10).fmod 24 ≤ 23 := by rw [Int.fmod_eq_emod_of_nonneg _ (by decide)]; (first | lia | omega)
  generalize (f2.fdiv 10).fmod 24 = wd at F4 hwd0 hwd1
  generalize f2.fmod 10 = pl at d3 hpl0 hpl1
  apply ListComp_DCnk (h₀ := g) (L := L) (m := fun y => if y = "modes" then some (.ref M2) else if y = "width" then some (.int wd tw) else m1 y) (K := ItemKind.int) (pz := fun _ => true) (d := fun a => .int (rankZ a pl))
  case hany => decide
  case hh => with_unfolding_all rfl
  case hclos => with_unfolding_all rfl
  case hcell => decide
  case hkind => with_unfolding_all rfl
  case hnames => decide
  case hx => with_unfolding_all rfl
  case hs => intro _; with_unfolding_all rfl
  refine wpAny_compPack ?_
  walk_at "my steps"
  rename Fr _ _ _ _ => F5
  rename News _ _ _ _ => N5
  refine CompPack.intro ⟨_, _, ys, ms, rfl, (N5.isList (.tail _ (.head _))), hms.areOf, (by rw [sizeLine_eq]; omega), F5, N5, ?_, ?_, ?_⟩
  · intro C a v s₂ m₂ E' hC ha hv hn hm hk
    obtain ⟨t, rfl⟩ := ItemKind.int_is hv
    have Fc := frInComp hn hk hC
    refine wpAny_leafK ?_
    walk_at "my steps"
  · intro C a v s₂ m₂ E' hC ha hv hpz hn hm hk
    obtain ⟨t, rfl⟩ := ItemKind.int_is hv
    obtain ⟨ha0, ha1⟩ := hmb a ha
    have Fc := frInComp hn hk hC
    refine wpAny_leafK ?_
    walk_at "my steps"
  intro D4 ys4 h4 tk4 F6 N6 hD4 hl4 hnp4 hc4
  clear F5 N5
  obtain ⟨k4, N7, hne4⟩ := news_plain N6 F6 hD4 hnp4
  replace N7 : News g L h4 [(140, tabObj tb), (147, tabObj tc), (L + 1 + 1, o1), (L + 1, o3), (D4, listOf ys4.toArray k4), (M2, listOf ys.toArray k2), (286, tabObj #[])] := news_sub N7 (by ((repeat' (first | exact sub_nil' | refine sub_cons' ?_ ?_ | exact List.Mem.head _ | refine List.Mem.tail _ ?_))))
  have hr4 : IntsAre ys4 (ms.map (fun a => rankZ a pl)) := by
    rw [List.filter_eq_self.mpr (fun _ _ => rfl)] at hc4
    exact hc4.intsOf
  clear N6 hnp4 hc4 hne4 hl4
  with_unfolding_all refine stCNk (own := [(140, _), (147, _)]) (rest := [(L + 1, _), (D4, _), (M2, _), (286, _)]) F6 N7 rfl d1 (by cells_apart) (by cells_apart) ?_
  clear F6 N7
  intro h5 o5 F7 N7 d5
  walk_at "my steps"
  apply assign_pairs (fun i y => ∃ t c x, ("abcdef" : Str).cps[i]? = some c ∧ ms[i]? = some x ∧ y = .str (rowS ⟨#[c]⟩ x pl) t)
  case hsw => with_unfolding_all rfl
  case hy => with_unfolding_all rfl
  case hp => with_unfolding_all rfl
  case hh => with_unfolding_all rfl
  case hclos => with_unfolding_all rfl
  case hcell => decide
  case hkind => with_unfolding_all rfl
  case hnames => decide
  case hxa => with_unfolding_all rfl
  case hxb => with_unfolding_all rfl
  case hab => decide
  case hs1 => intro _; with_unfolding_all rfl
  case hp0 => intro _; with_unfolding_all rfl
  walk_at "my steps"
  rename Fr _ _ _ _ => F8
  rename News _ _ _ _ => N8
  have hlM := N8.isList (.tail _ (.tail _ (.tail _ (.tail _ (.tail _ (.head _))))))
  refine' zip_pack (g := g) (L := L) (ys := ys.toArray) _ ?zh ?zL ?zF ?zN ?zl ?za ?zx ?zleaf ?zQ
  case zF => exact F8
  case zN => exact N8
  case zl => exact hlM
  case zh => exact rfl
  case zL => exact rfl
  case za => decide +kernel
  case zx => decide +kernel
  · intro C i c vb u s₃ m₃ E' hC hc hvb hn h1 h2 hk
    obtain ⟨x, hx, t, rfl⟩ := ints_at hms (by simpa using hvb)
    obtain ⟨ha0, ha1⟩ := hmb x (List.mem_of_getElem? hx)
    replace hk : ∀ b o, h5.get? b = some o → s₃.heap.get? b = some o := hk
    replace hC : h5.objs.size ≤ C := hC
    have Fc := frInComp hn hk hC
    refine wpAny_leafK ?_
    walk_at "my steps"
    rename_i hk7 _ _
    exact SeqLeaf.intro ⟨⟨_, c, x, hc, hx, rfl⟩, ⟨_, _, rfl, by assumption⟩⟩
  intro D5 zs h6 tk6 F9 N9 hD5 hnp5 hlen5 hz5
  clear F8 N8
  obtain ⟨k5, N10, hne5⟩ := news_plain N9 F9 hD5 hnp5
  have hlen6 : zs.length = ms.length := by
    have e1 := hms.length
    rw [hlen5, show (Str.ofString "abcdef").cps.size = 6 from rfl, List.size_toArray, e1]
    (first | lia | omega)
  have hrs := rows_strs hlen6 hz5
  have hrok := rowsOf_ok hm6 hpl0 hpl1
  have hrl : (rowsOf ms pl).length = ms.length := by simp [rowsOf]
  generalize hrse : rowsOf ms pl = rs at hrs hrok hrl
  clear hz5 hlen5 hlM
  replace N10 : News g L h6 [(140, tabObj tb), (147, tabObj tc), (D5, listOf zs.toArray k5), (L + 1 + 1, o5), (L + 1, o3), (D4, listOf ys4.toArray k4), (M2, listOf ys.toArray k2), (286, tabObj #[])] := news_sub N10 (by ((repeat' (first | exact sub_nil' | refine sub_cons' ?_ ?_ | exact List.Mem.head _ | refine List.Mem.tail _ ?_))))
  clear N9 hnp5 hne5
  intro h0
  walk_at "my steps"
  have off10 : ∀ q ∈ [(D5, listOf zs.toArray k5), (L + 1 + 1, o5), (L + 1, o3), (D4, listOf ys4.toArray k4), (M2, listOf ys.toArray k2), (286, tabObj #[])], q.1 ≠ 140 ∧ q.1 ≠ 147 := by
    have x5 : D5 ≠ 140 ∧ D5 ≠ 147 := ⟨list_off N10 (.tail _ (.tail _ (.head _))) (.head _), list_off N10 (.tail _ (.tail _ (.head _))) (.tail _ (.head _))⟩
    have x4 : D4 ≠ 140 ∧ D4 ≠ 147 := ⟨list_off N10 (.tail _ (.tail _ (.tail _ (.tail _ (.tail _ (.head _)))))) (.head _), list_off N10 (.tail _ (.tail _ (.tail _ (.tail _ (.tail _ (.head _)))))) (.tail _ (.head _))⟩
    have x2 : M2 ≠ 140 ∧ M2 ≠ 147 := ⟨list_off N10 (.tail _ (.tail _ (.tail _ (.tail _ (.tail _ (.tail _ (.head _))))))) (.head _), list_off N10 (.tail _ (.tail _ (.tail _ (.tail _ (.tail _ (.tail _ (.head _))))))) (.tail _ (.head _))⟩
    have y1 : L + 1 ≠ 140 ∧ L + 1 ≠ 147 := ⟨by omega, by omega⟩
    have y2 : L + 1 + 1 ≠ 140 ∧ L + 1 + 1 ≠ 147 := ⟨by omega, by omega⟩
    rintro q (_ | ⟨_, _ | ⟨_, _ | ⟨_, _ | ⟨_, _ | ⟨_, _ | ⟨_, hq⟩⟩⟩⟩⟩⟩)
    · exact x5
    · exact y2
    · exact y1
    · exact x4
    · exact x2
    · exact ⟨by decide, by decide⟩
    · cases hq
  refine u_made F9 N10 off10 D hst rfl (by decide) (by decide) (N10.isList (.tail _ (.tail _ (.head _)))) hrs (by (first | lia | omega)) hrok hwd0 hwd1 htr htr2 hbare ?_
  intro h7 gs7 tk7 R7 vs7 n7 tb7 tc7 F11 N11 hne7 hvs7 htr7 htr7' hbare7
  walk_at "my steps"
  rename Fr _ _ _ _ => F12
  rename News _ _ _ _ => N12
  have off12 := off_add (oR := listOf vs7.toArray n7) hne7 off10
  replace N12 := news_sub N12 (b := [(140, tabObj tb7), (147, tabObj tc7), (R7, listOf vs7.toArray n7), (D5, listOf zs.toArray k5), (L + 1 + 1, o5), (L + 1, o3), (D4, listOf ys4.toArray k4), (M2, listOf ys.toArray k2), (286, tabObj #[])]) (by ((repeat' (first | exact sub_nil' | refine sub_cons' ?_ ?_ | exact List.Mem.head _ | refine List.Mem.tail _ ?_))))
  refine u_back F12 N12 off12 D hst rfl (by decide) (by decide) (N12.isList (.tail _ (.tail _ (.tail _ (.head _))))) hrs (by (first | lia | omega)) hrok hwd0 hwd1 htr7 htr7' hbare7 ?_
  clear F12 N12
  intro h8 gs8 tk8 R8 vs8 n8 tb8 tc8 F13 N13 hne8 hvs8 htr8 htr8' hbare8
  walk_at "my steps"
  rename Fr _ _ _ _ => F14
  rename News _ _ _ _ => N14
  have off14 := off_add (oR := listOf vs8.toArray n8) hne8 off12
  replace N14 := news_sub N14 (b := [(140, tabObj tb8), (147, tabObj tc8), (R8, listOf vs8.toArray n8), (R7, listOf vs7.toArray n7), (D5, listOf zs.toArray k5), (L + 1 + 1, o5), (L + 1, o3), (D4, listOf ys4.toArray k4), (M2, listOf ys.toArray k2), (286, tabObj #[])]) (by ((repeat' (first | exact sub_nil' | refine sub_cons' ?_ ?_ | exact List.Mem.head _ | refine List.Mem.tail _ ?_))))
  have hpm := made_perm lastZ rs
  have hpb := back_perm lastZ rs
  have hrow : ∀ y ∈ rs, ∃ i, i < 6 ∧ y = rowAt ms pl i := fun y hy => by
    rw [← hrse] at hy
    obtain ⟨i, hi, rfl⟩ := List.mem_map.mp hy
    have := List.mem_range.mp hi
    exact ⟨i, by omega, rfl⟩
  have hmrow : ∀ y ∈ made lastZ rs, ∃ i, i < 6 ∧ y = rowAt ms pl i := fun y hy => hrow y (hpm.mem_iff.mp hy)
  have hbrow : ∀ y ∈ back lastZ rs, ∃ i, i < 6 ∧ y = rowAt ms pl i := fun y hy => hrow y (hpb.mem_iff.mp hy)
  have hmok : ∀ y ∈ made lastZ rs, RowOk y := fun y hy => hrok y (hpm.mem_iff.mp hy)
  have hbok : ∀ y ∈ back lastZ rs, RowOk y := fun y hy => hrok y (hpb.mem_iff.mp hy)
  refine u_back F14 N14 off14 D hst rfl (by decide) (by decide) (N14.isList (.tail _ (.tail _ (.tail _ (.head _))))) hvs7 (by rw [hpm.length_eq]; omega) hmok hwd0 hwd1 htr8 htr8' hbare8 ?_
  clear F14 N14
  intro h9 gs9 tk9 R9 vs9 n9 tb9 tc9 F15 N15 hne9 hvs9 htr9 htr9' hbare9
  rw [back_made] at hvs9
  walk_at "my steps"
  rename Fr _ _ _ _ => F16
  rename News _ _ _ _ => N16
  have off16 := off_add (oR := listOf vs9.toArray n9) hne9 off14
  refine PySem.EqBoolInt.of_rcne (strs_ne (N16.isList (.head _)) (N16.isList (.tail _ (.tail _ (.tail _ (.tail _ (.tail _ (.head _))))))) hvs9 hrs (by decide)) ?_
  walk_at "my steps"
  rename Fr _ _ _ _ => F17
  rename News _ _ _ _ => N17
  replace N17 := news_sub N17 (b := [(140, tabObj tb9), (147, tabObj tc9), (R8, listOf vs8.toArray n8), (R7, listOf vs7.toArray n7), (D5, listOf zs.toArray k5), (L + 1 + 1, o5), (L + 1, o3), (D4, listOf ys4.toArray k4), (M2, listOf ys.toArray k2), (286, tabObj #[])]) (by ((repeat' (first | exact sub_nil' | refine sub_cons' ?_ ?_ | exact List.Mem.head _ | refine List.Mem.tail _ ?_))))
  refine u_made F17 N17 off14 D hst rfl (by decide) (by decide) (N17.isList (.tail _ (.tail _ (.head _)))) hvs8 (by rw [hpb.length_eq]; omega) hbok hwd0 hwd1 htr9 htr9' hbare9 ?_
  clear F17 N17
  intro h10 gs10 tk10 R10 vs10 n10 tb10 tc10 F18 N18 hne10 hvs10 htr10 htr10' hbare10
  rw [made_back] at hvs10
  walk_at "my steps"
  rename Fr _ _ _ _ => F19
  rename News _ _ _ _ => N19
  refine PySem.EqBoolInt.of_rcne (strs_ne (N19.isList (.head _)) (N19.isList (.tail _ (.tail _ (.tail _ (.tail _ (.tail _ (.head _))))))) hvs10 hrs (by decide)) ?_
  walk_at "my steps"
  have N20 := news_sub N19 (b := [(L + 1 + 1, o5), (D4, listOf ys4.toArray k4), (M2, listOf ys.toArray k2), (286, tabObj #[]), (R7, listOf vs7.toArray n7), (R8, listOf vs8.toArray n8), (140, tabObj tb10), (147, tabObj tc10)]) (by ((repeat' (first | exact sub_nil' | refine sub_cons' ?_ ?_ | exact List.Mem.head _ | refine List.Mem.tail _ ?_))))
  obtain ⟨m2, F21⟩ := fr_law2 F19 rfl rfl rfl
  clear F19 N19
  apply Assign_ListComp_DCn (h₀ := g) (L := L) (m := fun y => if y = "made" then some (.ref R7) else if y = "ahead" then some (.ref R8) else if y = "modes" then some (.ref M2) else m2 y) (K := ItemKind.str) (pz := fun _ => true) (d := fun a => .int (firstZ a))
  case hsw => with_unfolding_all rfl
  case hL => with_unfolding_all rfl
  case hh => with_unfolding_all rfl
  case hclos => with_unfolding_all rfl
  case hcell => decide
  case hkind => with_unfolding_all rfl
  case hnames => decide
  case hx => with_unfolding_all rfl
  case hy => with_unfolding_all rfl
  case hp => with_unfolding_all rfl
  case hs => intro _; with_unfolding_all rfl
  refine wpAny_compPack ?_
  walk_at "my steps"
  have hl7 := N20.isList (.tail _ (.tail _ (.tail _ (.tail _ (.head _)))))
  refine CompPack.intro ⟨_, _, vs7, made lastZ rs, rfl, hl7, hvs7.areOf, (by rw [hpm.length_eq, sizeLine_eq]; omega), F21, N20, ?_, ?_, ?_⟩
  · intro C a v s₂ m₂ E' hC ha hv hn hm hk
    obtain ⟨t, rfl⟩ := ItemKind.str_is hv
    have Fc := frInComp hn hk hC
    refine wpAny_leafK ?_
    walk_at "my steps"
  · intro C a v s₂ m₂ E' hC ha hv hpz hn hm hk
    obtain ⟨t, rfl⟩ := ItemKind.str_is hv
    obtain ⟨i, hi6, rfl⟩ := hmrow a ha
    have hla := (hmok _ ha).len
    have Fc := frInComp hn hk hC
    refine wpAny_leafK ?_
    walk_at "my steps"
    rw [item_rowAt hpl0 hpl1]
    refine index_abc hi6 ?_
    try k_unfold
    refine SeqLeaf.intro ⟨?_, _, _, rfl, fun _ _ e => e⟩
    rw [first_rowAt hpl0 hpl1]
    exact Carried.int _ _
  intro D6 as6 h11 tk11 F22 N22 hD6 hl6 hnp6 hc6
  clear F21 N20
  obtain ⟨k6, N23, hne6⟩ := news_plain N22 F22 hD6 hnp6
  have hr6 : IntsAre as6 ((made lastZ rs).map firstZ) := by
    rw [List.filter_eq_self.mpr (fun _ _ => rfl)] at hc6
    exact hc6.intsOf
  clear N22 hnp6 hc6 hne6 hl6
  walk_at "my steps"
  apply Assign_ListComp_DCn (h₀ := g) (L := L) (m := fun y => if y = "after" then some (.ref D6) else if y = "made" then some (.ref R7) else if y = "ahead" then some (.ref R8) else if y = "modes" then some (.ref M2) else m2 y) (K := ItemKind.str) (pz := fun _ => true) (d := fun a => .int (firstZ a))
  case hsw => with_unfolding_all rfl
  case hL => with_unfolding_all rfl
  case hh => with_unfolding_all rfl
  case hclos => with_unfolding_all rfl
  case hcell => decide
  case hkind => with_unfolding_all rfl
  case hnames => decide
  case hx => with_unfolding_all rfl
  case hy => with_unfolding_all rfl
  case hp => with_unfolding_all rfl
  case hs => intro _; with_unfolding_all rfl
  refine wpAny_compPack ?_
  walk_at "my steps"
  have hl8 := N23.isList (.tail _ (.tail _ (.tail _ (.tail _ (.tail _ (.tail _ (.head _)))))))
  refine CompPack.intro ⟨_, _, vs8, back lastZ rs, rfl, hl8, hvs8.areOf, (by rw [hpb.length_eq, sizeLine_eq]; omega), F22, N23, ?_, ?_, ?_⟩
  · intro C a v s₂ m₂ E' hC ha hv hn hm hk
    obtain ⟨t, rfl⟩ := ItemKind.str_is hv
    have Fc := frInComp hn hk hC
    refine wpAny_leafK ?_
    walk_at "my steps"
  · intro C a v s₂ m₂ E' hC ha hv hpz hn hm hk
    obtain ⟨t, rfl⟩ := ItemKind.str_is hv
    obtain ⟨i, hi6, rfl⟩ := hbrow a ha
    have hla := (hbok _ ha).len
    have Fc := frInComp hn hk hC
    refine wpAny_leafK ?_
    walk_at "my steps"
    rw [item_rowAt hpl0 hpl1]
    refine index_abc hi6 ?_
    try k_unfold
    refine SeqLeaf.intro ⟨?_, _, _, rfl, fun _ _ e => e⟩
    rw [first_rowAt hpl0 hpl1]
    exact Carried.int _ _
  intro D7 bs7 h12 tk12 F24 N24 hD7 hl7' hnp7 hc7
  clear F22 N23
  obtain ⟨k7, N25, hne7'⟩ := news_plain N24 F24 hD7 hnp7
  have hr7 : IntsAre bs7 ((back lastZ rs).map firstZ) := by
    rw [List.filter_eq_self.mpr (fun _ _ => rfl)] at hc7
    exact hc7.intsOf
  clear N24 hnp7 hc7 hne7' hl7'
  walk_at "my steps"
  generalize hre : rkOf ms pl = r at *
  have hn0 : (List.range ms.length).length = ms.length := List.length_range
  rw [← hrse, made_nat hpl0 hpl1 hmb, hre] at hr6
  rw [← hrse, back_nat hpl0 hpl1 hmb, hre] at hr7
  rw [ranks_map, hre] at hr4
  have hpr := made_perm r (List.range ms.length)
  have hqr := back_perm r (List.range ms.length)
  generalize hnm : ms.length = n at *
  have hlr : ((List.range n).map r).length ≤ 10 := by simp; (first | lia | omega)
  apply ListComp_DCnk (h₀ := g) (L := L) (m := fun y => if y = "before" then some (.ref D7) else if y = "after" then some (.ref D6) else if y = "made" then some (.ref R7) else if y = "ahead" then some (.ref R8) else if y = "modes" then some (.ref M2) else m2 y) (K := ItemKind.int) (pz := fun _ => true) (d := fun a => .int (r a.toNat))
  case hany => decide
  case hh => with_unfolding_all rfl
  case hclos => with_unfolding_all rfl
  case hcell => decide
  case hkind => with_unfolding_all rfl
  case hnames => decide
  case hx => with_unfolding_all rfl
  case hs => intro _; with_unfolding_all rfl
  refine wpAny_compPack ?_
  walk_at "my steps"
  have hc5 := N25 (L + 1 + 1, o5) (by ((repeat' (first | exact sub_nil' | refine sub_cons' ?_ ?_ | exact List.Mem.head _ | refine List.Mem.tail _ ?_))))
  have hc4 := N25.isList (.tail _ (.tail _ (.tail _ (.head _))))
  refine CompPack.intro ⟨_, _, as6, _, rfl, N25.isList (.tail _ (.head _)), hr6.areOf, (by rw [List.length_map, hpr.length_eq, sizeLine_eq]; simp; omega), F24, N25, ?_, ?_, ?_⟩
  · intro C a v s₂ m₂ E' hC ha hv hn hm hk
    obtain ⟨t, rfl⟩ := ItemKind.int_is hv
    have Fc := frInComp hn hk hC
    refine wpAny_leafK ?_
    walk_at "my steps"
  · intro C a v s₂ m₂ E' hC ha hv hpz hn hm hk
    obtain ⟨t, rfl⟩ := ItemKind.int_is hv
    obtain ⟨i, hi, rfl⟩ := List.mem_map.mp ha
    have hin := List.mem_range.mp (hpr.mem_iff.mp hi)
    obtain ⟨ti, hgi⟩ := ints_get hr4 hin
    have Fc := frInComp hn hk hC
    have hcell : s₂.heap.IsCell (L + 1 + 1) (some (.ref D4)) := ⟨o5, hk _ _ hc5.1, d5⟩
    refine Subscript_ (ldCellK rfl hcell (ldVarK hn hm ?_))
    refine item_listL (k := (i : Int)) (x := .int (r i) ti) (hc4.at fun o e => hk _ _ e) (Int.natCast_nonneg i) (by (first | lia | omega)) hgi ?_
    exact ⟨Carried.int _ _, _, _, rfl, fun _ _ e => e⟩
  intro D8 as8 h13 tk13 F26 N26 hD8 hl8' hnp8 hc8
  clear F24 N25
  obtain ⟨k8, N27, hne8'⟩ := news_plain N26 F26 hD8 hnp8
  have hr8 : IntsAre as8 ((made r (List.range n)).map r) := by
    rw [List.filter_eq_self.mpr (fun _ _ => rfl)] at hc8
    have := hc8.intsOf
    rwa [List.map_map] at this
  have hlr8 : ((made r (List.range n)).map r).length ≤ 10 := by rw [List.length_map, hpr.length_eq]; simp; (first | lia | omega)
  clear N26 hnp8 hc8 hne8' hl8'
  have hpf := pairs_falls (r := r) (n := n)
  have hfp := falls_pairs (r := r) (n := n)
  walk_at "my steps"
  all_goals try exact absurd hpf (by assumption)
  rename Fr _ _ _ _ => F28
  rename News _ _ _ _ => N28
  have N29 := news_sub N28 (b := [(D7, listOf bs7.toArray k7), (D6, listOf as6.toArray k6), (L + 1 + 1, o5), (D4, listOf ys4.toArray k4), (M2, listOf ys.toArray k2), (286, tabObj #[]), (140, tabObj tb10), (147, tabObj tc10)]) (by ((repeat' (first | exact sub_nil' | refine sub_cons' ?_ ?_ | exact List.Mem.head _ | refine List.Mem.tail _ ?_))))
  clear N28
  apply ListComp_DCnk (h₀ := g) (L := L) (m := fun y => if y = "before" then some (.ref D7) else if y = "after" then some (.ref D6) else if y = "made" then some (.ref R7) else if y = "ahead" then some (.ref R8) else if y = "modes" then some (.ref M2) else m2 y) (K := ItemKind.int) (pz := fun _ => true) (d := fun a => .int (r a.toNat))
  case hany => decide
  case hh => with_unfolding_all rfl
  case hclos => with_unfolding_all rfl
  case hcell => decide
  case hkind => with_unfolding_all rfl
  case hnames => decide
  case hx => with_unfolding_all rfl
  case hs => intro _; with_unfolding_all rfl
  refine wpAny_compPack ?_
  walk_at "my steps"
  have hc5 := N29 (L + 1 + 1, o5) (by ((repeat' (first | exact sub_nil' | refine sub_cons' ?_ ?_ | exact List.Mem.head _ | refine List.Mem.tail _ ?_))))
  have hc4 := N29.isList (.tail _ (.tail _ (.tail _ (.head _))))
  refine CompPack.intro ⟨_, _, bs7, _, rfl, N29.isList (.head _), hr7.areOf, (by rw [List.length_map, hqr.length_eq, sizeLine_eq]; simp; omega), F28, N29, ?_, ?_, ?_⟩
  · intro C a v s₂ m₂ E' hC ha hv hn hm hk
    obtain ⟨t, rfl⟩ := ItemKind.int_is hv
    have Fc := frInComp hn hk hC
    refine wpAny_leafK ?_
    walk_at "my steps"
  · intro C a v s₂ m₂ E' hC ha hv hpz hn hm hk
    obtain ⟨t, rfl⟩ := ItemKind.int_is hv
    obtain ⟨i, hi, rfl⟩ := List.mem_map.mp ha
    have hin := List.mem_range.mp (hqr.mem_iff.mp hi)
    obtain ⟨ti, hgi⟩ := ints_get hr4 hin
    have Fc := frInComp hn hk hC
    have hcell : s₂.heap.IsCell (L + 1 + 1) (some (.ref D4)) := ⟨o5, hk _ _ hc5.1, d5⟩
    refine Subscript_ (ldCellK rfl hcell (ldVarK hn hm ?_))
    refine item_listL (k := (i : Int)) (x := .int (r i) ti) (hc4.at fun o e => hk _ _ e) (Int.natCast_nonneg i) (by (first | lia | omega)) hgi ?_
    exact ⟨Carried.int _ _, _, _, rfl, fun _ _ e => e⟩
  intro D9 as9 h14 tk14 F30 N30 hD9 hl9' hnp9 hc9
  clear F28 N29
  obtain ⟨k9, N31, hne9'⟩ := news_plain N30 F30 hD9 hnp9
  have hr9 : IntsAre as9 ((back r (List.range n)).map r) := by
    rw [List.filter_eq_self.mpr (fun _ _ => rfl)] at hc9
    have := hc9.intsOf
    rwa [List.map_map] at this
  have hlr9 : ((back r (List.range n)).map r).length ≤ 10 := by rw [List.length_map, hqr.length_eq]; simp; (first | lia | omega)
  clear N30 hnp9 hc9 hne9' hl9'
  walk_at "my steps"
  all_goals try exact absurd hfp (by assumption)
  rename Fr _ _ _ _ => F32
  rename News _ _ _ _ => N32
  rename IsRange _ _ _ _ _ _ _ _ => hrg
  rw [hnm] at hrg
  have N32b := news_more (b := _) N32 (by assumption) (Heap.get?_none_of_le (Nat.le_refl _)) hrg
  have N33 := news_put (N32 (286, tabObj #[]) (by ((repeat' (first | exact sub_nil' | refine sub_cons' ?_ ?_ | exact List.Mem.head _ | refine List.Mem.tail _ ?_))))) (news_put (N32b _ (.head _)) (news_sub N32 (b := [(D7, listOf bs7.toArray k7), (D6, listOf as6.toArray k6), (L + 1 + 1, o5), (D4, listOf ys4.toArray k4), (M2, listOf ys.toArray k2), (140, tabObj tb10), (147, tabObj tc10)]) (by ((repeat' (first | exact sub_nil' | refine sub_cons' ?_ ?_ | exact List.Mem.head _ | refine List.Mem.tail _ ?_))))))
  clear N32 N32b
  have hcd6 : CodeHd g 288 286 := codeHd_in X (by kernel_rfl) (by decide)
  refine kla_eval rfl ?_
  refine kla_nest F32 N33 T hcd6 rfl (.head fun q hq => ?_) ?_ rfl rfl ?_
  · rcases hq with _ | ⟨_, _ | ⟨_, _ | ⟨_, _ | ⟨_, _ | ⟨_, _ | ⟨_, _ | ⟨_, _ | ⟨_, hq⟩⟩⟩⟩⟩⟩⟩⟩
    · exact ne_cls hrg (N33 _ (.head _)).1 (fun e => absurd (show Value.type "range" = (tabObj #[]).cls from e) (by decide))
    · exact list_off N33 (.tail _ (.tail _ (.head _))) (.head _)
    · exact list_off N33 (.tail _ (.tail _ (.tail _ (.head _)))) (.head _)
    · show L + 1 + 1 ≠ 286
      (first | lia | omega)
    · exact list_off N33 (.tail _ (.tail _ (.tail _ (.tail _ (.tail _ (.head _)))))) (.head _)
    · exact list_off N33 (.tail _ (.tail _ (.tail _ (.tail _ (.tail _ (.tail _ (.head _))))))) (.head _)
    · show (140 : Nat) ≠ 286
      decide
    · show (147 : Nat) ≠ 286
      decide
    · cases hq
  · exact True.intro
  intro f c' oc vs' t ctv h15 tk15 F34 N34 hd1 hd2 lt1 lt2
  clear F32 N33
  dsimp only at N34
  obtain ⟨td2, N34⟩ : ∃ td2, News g L h15 (_ :: _ :: (286, tabObj td2) :: _) := ⟨_, N34⟩
  have hrg2 := (N34 _ (.tail _ (.tail _ (.tail _ (.head _))))).1
  walk_at "my steps"
  show wpAny _ _ (call (.builtin "sorted") [.ref _] [(Str.ofString "key", .ref f)]) _ _ _
  refine sortedT (rk := r) rfl F34 N34 hrg2 (by (first | lia | omega)) (by (first | lia | omega)) ?_ ?_
  · intro i ti h16 tk16 own hi F35 N35
    have m5 := N35 (L + 1 + 1, o5) (by ((repeat' (first | exact sub_nil' | refine sub_cons' ?_ ?_ | exact List.Mem.head _ | refine List.Mem.tail _ ?_))))
    have m4 := N35 (D4, listOf ys4.toArray k4) (by ((repeat' (first | exact sub_nil' | refine sub_cons' ?_ ?_ | exact List.Mem.head _ | refine List.Mem.tail _ ?_))))
    obtain ⟨tI, hgi⟩ := ints_get hr4 hi
    have hGn : ∀ b, g.get? b = none → G.get? b = none := fun b e => by
      cases e2 : G.get? b with
      | none => rfl
      | some o => rw [hst b o e2] at e; cases e
    refine wp_up (D := 400) (U := 200) rfl (by decide) (by decide) (wpAny_call ?_)
    refine' enterL (binds := [("k", .int (i : Nat) ti)]) [(L + 1 + 1, o5), (D4, listOf ys4.toArray k4)] D (stays_fr F35 hst) ?k3 ?k4 (N35 _ (.head _)).1 ⟨c', oc, vs', t, rfl, (N35 (c', oc) (by ((repeat' (first | exact sub_nil' | refine sub_cons' ?_ ?_ | exact List.Mem.head _ | refine List.Mem.tail _ ?_))))).1, hd1, hd2⟩ (by decide) rfl ?kB (by decide) rfl rfl rfl ?_
    case k3 => rintro q (_ | ⟨_, _ | ⟨_, hq⟩⟩); (· exact m5.1); (· exact m4.1); cases hq
    case k4 => rintro q (_ | ⟨_, _ | ⟨_, hq⟩⟩); (· exact hGn _ m5.2.2); (· exact hGn _ m4.2.2); cases hq
    case kB => exact locs rfl
    intro g2 L2 h17 hg2 hL2 F36 N36 X2 T2 l2 hk2 st2
    dsimp only
    walk_at "my steps"
    rename Fr _ _ _ _ => F37
    rename News _ _ _ _ => N37
    have e1 : ((List.range n).map r).getD (((i : Nat) : Int)).toNat 0 = r i := by simp [List.getD, hi]
    rw [e1] at N37
    refine kt_end F35 N35 ?_ hk2 F37 N37 rfl ⟨_, _, _, rfl⟩ ?_
    · rintro q (_ | ⟨_, _ | ⟨_, hq⟩⟩); (· exact m5.1); (· exact m4.1); cases hq
    · rintro q (_ | ⟨_, _ | ⟨_, hq⟩⟩)
      · intro e
        have := congrArg Obj.data e
        dsimp only at this
        rw [d5] at this
        cases this
      · intro e
        exact absurd (show Value.type "list" = Value.type "tuple" from congrArg Obj.cls e) (by decide)
      · cases hq
  intro Do os co h18 tk18 ord F38 N38 hDo hos hpo hpw
  walk_at "my steps"
  rename Fr _ _ _ _ => F39
  rename News _ _ _ _ => N39
  have N40 := news_sub N39 (b := [(Do, listOf os.toArray co), (D7, listOf bs7.toArray k7), (D6, listOf as6.toArray k6), (286, tabObj td2), (140, tabObj tb10), (147, tabObj tc10)]) (by ((repeat' (first | exact sub_nil' | refine sub_cons' ?_ ?_ | exact List.Mem.head _ | refine List.Mem.tail _ ?_))))
  have F40 := F39
  clear N39 F39
  refine wpAny_For ?_ (fun _ => rfl)
  (repeat' (first | (fail_if_success (with_reducible show wpAny _ _ (exec (Stmt.For _ _ _ _ _) _) _ _ _)); (fail_if_success (with_reducible show wpAny _ _ (exec (Stmt.While _ _ _ _) _) _ _ _)); (fail_if_success (with_reducible show wpAny _ _ (eval (PySem.Expr.ListComp _ _ _ _) _) _ _ _)); (fail_if_success (with_reducible show CompPack _)); (fail_if_success (with_reducible show wpAny _ _ (call (Value.type "zip") _) _ _ _)); (fail_if_success (with_reducible show wpAny _ _ (eval (PySem.Expr.Lambda _ _ _ _) _) _ _ _)); (fail_if_success (with_reducible show wpAny _ _ (call (Value.builtin "sorted") _ _) _ _ _)); (fail_if_success (with_reducible show wpAny _ _ (exec (Stmt.Assign _ (PySem.Expr.ListComp _ _ _ _) _) _) _ _ _)); (fail_if_success (with_reducible show wpAny _ _ (call (Value.builtin "str.join") _) _ _ _)); (fail_if_success (with_reducible show wpAny _ _ (call (Value.builtin "str.split") _) _ _ _)); (fail_if_success (with_reducible show wpAny _ _ (call (Value.builtin "list.index") _) _ _ _)); (fail_if_success (with_reducible show wpAny _ _ (binaryOp _ (Value.ref _) (Value.ref _)) _ _ _)); (fail_if_success (with_reducible show wpAny _ _ (call (Value.builtin "list.extend") _) _ _ _)); (fail_if_success (with_reducible show wpAny _ _ (call (Value.builtin "list.append") _) _ _ _)); (fail_if_success (with_reducible show wpAny _ _ (compareOp _ (Value.ref _) (Value.ref _)) _ _ _)); (first | (k_unfold; (try dsimp only)) | (first | ((k_here; (with_reducible show wpAny _ _ (call (Value.ref 284) _) _ _ _); k_dflt (refine' u_falls ?k1 ?k2 ?k3 ?k4 ?k5 ?k6 ?k7 ?k8 ?k9 ?k10 ?_; (case k1 => k_asm); (case k2 => k_asm); (case k3 => assumption); (case k4 => assumption); (case k5 => exact rfl); (case k6 => decide); (case k7 => decide); (case k8 => is_list); (case k9 => assumption); (case k10 => assumption)); intro t' h' tk' F' N'; (try k_sweep))) | ((k_here; (with_reducible show wpAny _ _ (call (Value.ref 279) _) _ _ _); k_dflt (refine' u_pairs ?k1 ?k2 ?k3 ?k4 ?k5 ?k6 ?k7 ?k8 ?k9 ?k10 ?_; (case k1 => k_asm); (case k2 => k_asm); (case k3 => assumption); (case k4 => assumption); (case k5 => exact rfl); (case k6 => decide); (case k7 => decide); (case k8 => is_list); (case k9 => assumption); (case k10 => assumption)); intro t' h' tk' F' N'; (try k_sweep))) | ((k_here; (with_reducible show wpAny _ _ (call (Value.ref 255) _) _ _ _); k_dflt (refine' u_rowK ?k1 ?k2 ?k3 ?k4 ?k5 ?k6 ?k7 ?k8 ?k9 ?k10 ?k11 ?k12 ?_; (case k1 => k_asm); (case k2 => k_asm); (case k3 => assumption); (case k4 => assumption); (case k5 => exact rfl); (case k6 => decide); (case k7 => decide); (case k8 => exact rfl); (case k9 => first | assumption | omega); (case k10 => first | assumption | omega); (case k11 => first | assumption | omega); (case k12 => first | assumption | omega)); intro t' h' tk' hk' F' N'; (try k_sweep))) | ((k_here; (with_reducible show wpAny _ _ (call (Value.ref 248) _) _ _ _); k_dflt (refine' u_rankK ?k1 ?k2 ?k3 ?k4 ?k5 ?k6 ?k7 ?k8 ?k9 ?k10 ?k11 ?_; (case k1 => k_asm); (case k2 => k_asm); (case k3 => assumption); (case k4 => assumption); (case k5 => exact rfl); (case k6 => decide); (case k7 => decide); (case k8 => first | assumption | omega); (case k9 => first | assumption | omega); (case k10 => first | assumption | omega); (case k11 => first | assumption | omega)); intro t' h' tk' hk' F' N'; (try k_sweep))) | walk1) | (dsimp only; (first | ((k_here; (with_reducible show wpAny _ _ (call (Value.ref 284) _) _ _ _); k_dflt (refine' u_falls ?k1 ?k2 ?k3 ?k4 ?k5 ?k6 ?k7 ?k8 ?k9 ?k10 ?_; (case k1 => k_asm); (case k2 => k_asm); (case k3 => assumption); (case k4 => assumption); (case k5 => exact rfl); (case k6 => decide); (case k7 => decide); (case k8 => is_list); (case k9 => assumption); (case k10 => assumption)); intro t' h' tk' F' N'; (try k_sweep))) | ((k_here; (with_reducible show wpAny _ _ (call (Value.ref 279) _) _ _ _); k_dflt (refine' u_pairs ?k1 ?k2 ?k3 ?k4 ?k5 ?k6 ?k7 ?k8 ?k9 ?k10 ?_; (case k1 => k_asm); (case k2 => k_asm); (case k3 => assumption); (case k4 => assumption); (case k5 => exact rfl); (case k6 => decide); (case k7 => decide); (case k8 => is_list); (case k9 => assumption); (case k10 => assumption)); intro t' h' tk' F' N'; (try k_sweep))) | ((k_here; (with_reducible show wpAny _ _ (call (Value.ref 255) _) _ _ _); k_dflt (refine' u_rowK ?k1 ?k2 ?k3 ?k4 ?k5 ?k6 ?k7 ?k8 ?k9 ?k10 ?k11 ?k12 ?_; (case k1 => k_asm); (case k2 => k_asm); (case k3 => assumption); (case k4 => assumption); (case k5 => exact rfl); (case k6 => decide); (case k7 => decide); (case k8 => exact rfl); (case k9 => first | assumption | omega); (case k10 => first | assumption | omega); (case k11 => first | assumption | omega); (case k12 => first | assumption | omega)); intro t' h' tk' hk' F' N'; (try k_sweep))) | ((k_here; (with_reducible show wpAny _ _ (call (Value.ref 248) _) _ _ _); k_dflt (refine' u_rankK ?k1 ?k2 ?k3 ?k4 ?k5 ?k6 ?k7 ?k8 ?k9 ?k10 ?k11 ?_; (case k1 => k_asm); (case k2 => k_asm); (case k3 => assumption); (case k4 => assumption); (case k5 => exact rfl); (case k6 => decide); (case k7 => decide); (case k8 => first | assumption | omega); (case k9 => first | assumption | omega); (case k10 => first | assumption | omega); (case k11 => first | assumption | omega)); intro t' h' tk' hk' F' N'; (try k_sweep))) | walk1)))))
  k_dflt (refine' slice_any (zs := (slicePick os.toArray (some 1) none none).toList) F40 N40 (News.isList N40 (.head _)) (.int 1 _) .none .none ?s0 rfl ?_ ?s1 ?s3)
  case s0 => decide
  case s1 => with_unfolding_all rfl
  case s3 => rw [List.size_toArray, hos.length, sizeLine_eq, List.length_map, hpo.length_eq]; simp; (first | lia | omega)
  have hzs := kmk_from hos (x := 1) (by decide)
  generalize (slicePick os.toArray (some 1) none none).toList = zs2 at hzs ⊢
  intro D10 h19 F41 N41 l10
  clear F40 N40
  (repeat' (first | (fail_if_success (with_reducible show wpAny _ _ (exec (Stmt.For _ _ _ _ _) _) _ _ _)); (fail_if_success (with_reducible show wpAny _ _ (exec (Stmt.While _ _ _ _) _) _ _ _)); (fail_if_success (with_reducible show wpAny _ _ (eval (PySem.Expr.ListComp _ _ _ _) _) _ _ _)); (fail_if_success (with_reducible show CompPack _)); (fail_if_success (with_reducible show wpAny _ _ (call (Value.type "zip") _) _ _ _)); (fail_if_success (with_reducible show wpAny _ _ (eval (PySem.Expr.Lambda _ _ _ _) _) _ _ _)); (fail_if_success (with_reducible show wpAny _ _ (call (Value.builtin "sorted") _ _) _ _ _)); (fail_if_success (with_reducible show wpAny _ _ (exec (Stmt.Assign _ (PySem.Expr.ListComp _ _ _ _) _) _) _ _ _)); (fail_if_success (with_reducible show wpAny _ _ (call (Value.builtin "str.join") _) _ _ _)); (fail_if_success (with_reducible show wpAny _ _ (call (Value.builtin "str.split") _) _ _ _)); (fail_if_success (with_reducible show wpAny _ _ (call (Value.builtin "list.index") _) _ _ _)); (fail_if_success (with_reducible show wpAny _ _ (binaryOp _ (Value.ref _) (Value.ref _)) _ _ _)); (fail_if_success (with_reducible show wpAny _ _ (call (Value.builtin "list.extend") _) _ _ _)); (fail_if_success (with_reducible show wpAny _ _ (call (Value.builtin "list.append") _) _ _ _)); (fail_if_success (with_reducible show wpAny _ _ (compareOp _ (Value.ref _) (Value.ref _)) _ _ _)); (first | (k_unfold; (try dsimp only)) | (first | ((k_here; (with_reducible show wpAny _ _ (call (Value.ref 284) _) _ _ _); k_dflt (refine' u_falls ?k1 ?k2 ?k3 ?k4 ?k5 ?k6 ?k7 ?k8 ?k9 ?k10 ?_; (case k1 => k_asm); (case k2 => k_asm); (case k3 => assumption); (case k4 => assumption); (case k5 => exact rfl); (case k6 => decide); (case k7 => decide); (case k8 => is_list); (case k9 => assumption); (case k10 => assumption)); intro t' h' tk' F' N'; (try k_sweep))) | ((k_here; (with_reducible show wpAny _ _ (call (Value.ref 279) _) _ _ _); k_dflt (refine' u_pairs ?k1 ?k2 ?k3 ?k4 ?k5 ?k6 ?k7 ?k8 ?k9 ?k10 ?_; (case k1 => k_asm); (case k2 => k_asm); (case k3 => assumption); (case k4 => assumption); (case k5 => exact rfl); (case k6 => decide); (case k7 => decide); (case k8 => is_list); (case k9 => assumption); (case k10 => assumption)); intro t' h' tk' F' N'; (try k_sweep))) | ((k_here; (with_reducible show wpAny _ _ (call (Value.ref 255) _) _ _ _); k_dflt (refine' u_rowK ?k1 ?k2 ?k3 ?k4 ?k5 ?k6 ?k7 ?k8 ?k9 ?k10 ?k11 ?k12 ?_; (case k1 => k_asm); (case k2 => k_asm); (case k3 => assumption); (case k4 => assumption); (case k5 => exact rfl); (case k6 => decide); (case k7 => decide); (case k8 => exact rfl); (case k9 => first | assumption | omega); (case k10 => first | assumption | omega); (case k11 => first | assumption | omega); (case k12 => first | assumption | omega)); intro t' h' tk' hk' F' N'; (try k_sweep))) | ((k_here; (with_reducible show wpAny _ _ (call (Value.ref 248) _) _ _ _); k_dflt (refine' u_rankK ?k1 ?k2 ?k3 ?k4 ?k5 ?k6 ?k7 ?k8 ?k9 ?k10 ?k11 ?_; (case k1 => k_asm); (case k2 => k_asm); (case k3 => assumption); (case k4 => assumption); (case k5 => exact rfl); (case k6 => decide); (case k7 => decide); (case k8 => first | assumption | omega); (case k9 => first | assumption | omega); (case k10 => first | assumption | omega); (case k11 => first | assumption | omega)); intro t' h' tk' hk' F' N'; (try k_sweep))) | walk1) | (dsimp only; (first | ((k_here; (with_reducible show wpAny _ _ (call (Value.ref 284) _) _ _ _); k_dflt (refine' u_falls ?k1 ?k2 ?k3 ?k4 ?k5 ?k6 ?k7 ?k8 ?k9 ?k10 ?_; (case k1 => k_asm); (case k2 => k_asm); (case k3 => assumption); (case k4 => assumption); (case k5 => exact rfl); (case k6 => decide); (case k7 => decide); (case k8 => is_list); (case k9 => assumption); (case k10 => assumption)); intro t' h' tk' F' N'; (try k_sweep))) | ((k_here; (with_reducible show wpAny _ _ (call (Value.ref 279) _) _ _ _); k_dflt (refine' u_pairs ?k1 ?k2 ?k3 ?k4 ?k5 ?k6 ?k7 ?k8 ?k9 ?k10 ?_; (case k1 => k_asm); (case k2 => k_asm); (case k3 => assumption); (case k4 => assumption); (case k5 => exact rfl); (case k6 => decide); (case k7 => decide); (case k8 => is_list); (case k9 => assumption); (case k10 => assumption)); intro t' h' tk' F' N'; (try k_sweep))) | ((k_here; (with_reducible show wpAny _ _ (call (Value.ref 255) _) _ _ _); k_dflt (refine' u_rowK ?k1 ?k2 ?k3 ?k4 ?k5 ?k6 ?k7 ?k8 ?k9 ?k10 ?k11 ?k12 ?_; (case k1 => k_asm); (case k2 => k_asm); (case k3 => assumption); (case k4 => assumption); (case k5 => exact rfl); (case k6 => decide); (case k7 => decide); (case k8 => exact rfl); (case k9 => first | assumption | omega); (case k10 => first | assumption | omega); (case k11 => first | assumption | omega); (case k12 => first | assumption | omega)); intro t' h' tk' hk' F' N'; (try k_sweep))) | ((k_here; (with_reducible show wpAny _ _ (call (Value.ref 248) _) _ _ _); k_dflt (refine' u_rankK ?k1 ?k2 ?k3 ?k4 ?k5 ?k6 ?k7 ?k8 ?k9 ?k10 ?k11 ?_; (case k1 => k_asm); (case k2 => k_asm); (case k3 => assumption); (case k4 => assumption); (case k5 => exact rfl); (case k6 => decide); (case k7 => decide); (case k8 => first | assumption | omega); (case k9 => first | assumption | omega); (case k10 => first | assumption | omega); (case k11 => first | assumption | omega)); intro t' h' tk' hk' F' N'; (try k_sweep))) | walk1)))))
  refine for_zip2 (fun m => m "after" = some (.ref D6) ∧ m "before" = some (.ref D7)) rfl (.tail _ (.head _)) (.head _) F41 N41 ⟨rfl, rfl⟩ rfl rfl rfl ?_ ?_
  · rintro i va vb TI oT m h tk own E' hva hvb ⟨hm1, hm2⟩ hoff F42 N42
    clear F41 N41
    obtain ⟨m3, rfl⟩ := as_if2 hm1 hm2
    clear hm1 hm2
    obtain ⟨a, ta, ea, rfl⟩ := ints_natAt' hos (show os[i]? = some va by simpa using hva)
    obtain ⟨b, tb', eb, rfl⟩ := ints_natAt' (ns := ord.drop 1) (by simpa [List.map_drop] using hzs) (show zs2[i]? = some vb by simpa using hvb)
    have hnx : Next r n a b := next_of hpo hpw ea (by simpa [Nat.add_comm] using eb)
    have hma := hpr.mem_iff.mpr (List.mem_range.mpr hnx.1)
    have hmb' := hpr.mem_iff.mpr (List.mem_range.mpr hnx.2.1)
    have hqa := hqr.mem_iff.mpr (List.mem_range.mpr hnx.1)
    have hqb := hqr.mem_iff.mpr (List.mem_range.mpr hnx.2.1)
    have hlcb := idx_same (law_c hnx)
    have hldb := idx_same (law_d hnx)
    have hlm : (made r (List.range n)).length ≤ 100 := by rw [hpr.length_eq]; simp; (first | lia | omega)
    have hlb : (back r (List.range n)).length ≤ 100 := by rw [hqr.length_eq]; simp; (first | lia | omega)
    have h6 := (N42 (D6, listOf as6.toArray k6) (by ((repeat' (first | exact sub_nil' | refine sub_cons' ?_ ?_ | exact List.Mem.head _ | refine List.Mem.tail _ ?_))))).1
    have h7 := (N42 (D7, listOf bs7.toArray k7) (by ((repeat' (first | exact sub_nil' | refine sub_cons' ?_ ?_ | exact List.Mem.head _ | refine List.Mem.tail _ ?_))))).1
    (repeat' (first | (fail_if_success (with_reducible show wpAny _ _ (exec (Stmt.For _ _ _ _ _) _) _ _ _)); (fail_if_success (with_reducible show wpAny _ _ (exec (Stmt.While _ _ _ _) _) _ _ _)); (fail_if_success (with_reducible show wpAny _ _ (eval (PySem.Expr.ListComp _ _ _ _) _) _ _ _)); (fail_if_success (with_reducible show CompPack _)); (fail_if_success (with_reducible show wpAny _ _ (call (Value.type "zip") _) _ _ _)); (fail_if_success (with_reducible show wpAny _ _ (eval (PySem.Expr.Lambda _ _ _ _) _) _ _ _)); (fail_if_success (with_reducible show wpAny _ _ (call (Value.builtin "sorted") _ _) _ _ _)); (fail_if_success (with_reducible show wpAny _ _ (exec (Stmt.Assign _ (PySem.Expr.ListComp _ _ _ _) _) _) _ _ _)); (fail_if_success (with_reducible show wpAny _ _ (call (Value.builtin "str.join") _) _ _ _)); (fail_if_success (with_reducible show wpAny _ _ (call (Value.builtin "str.split") _) _ _ _)); (fail_if_success (with_reducible show wpAny _ _ (call (Value.builtin "list.index") _) _ _ _)); (fail_if_success (with_reducible show wpAny _ _ (binaryOp _ (Value.ref _) (Value.ref _)) _ _ _)); (fail_if_success (with_reducible show wpAny _ _ (call (Value.builtin "list.extend") _) _ _ _)); (fail_if_success (with_reducible show wpAny _ _ (call (Value.builtin "list.append") _) _ _ _)); (fail_if_success (with_reducible show wpAny _ _ (compareOp _ (Value.ref _) (Value.ref _)) _ _ _)); (first | (k_unfold; (try dsimp only)) | (first | ((k_here; (with_reducible show wpAny _ _ (call (Value.ref 284) _) _ _ _); k_dflt (refine' u_falls ?k1 ?k2 ?k3 ?k4 ?k5 ?k6 ?k7 ?k8 ?k9 ?k10 ?_; (case k1 => k_asm); (case k2 => k_asm); (case k3 => assumption); (case k4 => assumption); (case k5 => exact rfl); (case k6 => decide); (case k7 => decide); (case k8 => is_list); (case k9 => assumption); (case k10 => assumption)); intro t' h' tk' F' N'; (try k_sweep))) | ((k_here; (with_reducible show wpAny _ _ (call (Value.ref 279) _) _ _ _); k_dflt (refine' u_pairs ?k1 ?k2 ?k3 ?k4 ?k5 ?k6 ?k7 ?k8 ?k9 ?k10 ?_; (case k1 => k_asm); (case k2 => k_asm); (case k3 => assumption); (case k4 => assumption); (case k5 => exact rfl); (case k6 => decide); (case k7 => decide); (case k8 => is_list); (case k9 => assumption); (case k10 => assumption)); intro t' h' tk' F' N'; (try k_sweep))) | ((k_here; (with_reducible show wpAny _ _ (call (Value.ref 255) _) _ _ _); k_dflt (refine' u_rowK ?k1 ?k2 ?k3 ?k4 ?k5 ?k6 ?k7 ?k8 ?k9 ?k10 ?k11 ?k12 ?_; (case k1 => k_asm); (case k2 => k_asm); (case k3 => assumption); (case k4 => assumption); (case k5 => exact rfl); (case k6 => decide); (case k7 => decide); (case k8 => exact rfl); (case k9 => first | assumption | omega); (case k10 => first | assumption | omega); (case k11 => first | assumption | omega); (case k12 => first | assumption | omega)); intro t' h' tk' hk' F' N'; (try k_sweep))) | ((k_here; (with_reducible show wpAny _ _ (call (Value.ref 248) _) _ _ _); k_dflt (refine' u_rankK ?k1 ?k2 ?k3 ?k4 ?k5 ?k6 ?k7 ?k8 ?k9 ?k10 ?k11 ?_; (case k1 => k_asm); (case k2 => k_asm); (case k3 => assumption); (case k4 => assumption); (case k5 => exact rfl); (case k6 => decide); (case k7 => decide); (case k8 => first | assumption | omega); (case k9 => first | assumption | omega); (case k10 => first | assumption | omega); (case k11 => first | assumption | omega)); intro t' h' tk' hk' F' N'; (try k_sweep))) | walk1) | (dsimp only; (first | ((k_here; (with_reducible show wpAny _ _ (call (Value.ref 284) _) _ _ _); k_dflt (refine' u_falls ?k1 ?k2 ?k3 ?k4 ?k5 ?k6 ?k7 ?k8 ?k9 ?k10 ?_; (case k1 => k_asm); (case k2 => k_asm); (case k3 => assumption); (case k4 => assumption); (case k5 => exact rfl); (case k6 => decide); (case k7 => decide); (case k8 => is_list); (case k9 => assumption); (case k10 => assumption)); intro t' h' tk' F' N'; (try k_sweep))) | ((k_here; (with_reducible show wpAny _ _ (call (Value.ref 279) _) _ _ _); k_dflt (refine' u_pairs ?k1 ?k2 ?k3 ?k4 ?k5 ?k6 ?k7 ?k8 ?k9 ?k10 ?_; (case k1 => k_asm); (case k2 => k_asm); (case k3 => assumption); (case k4 => assumption); (case k5 => exact rfl); (case k6 => decide); (case k7 => decide); (case k8 => is_list); (case k9 => assumption); (case k10 => assumption)); intro t' h' tk' F' N'; (try k_sweep))) | ((k_here; (with_reducible show wpAny _ _ (call (Value.ref 255) _) _ _ _); k_dflt (refine' u_rowK ?k1 ?k2 ?k3 ?k4 ?k5 ?k6 ?k7 ?k8 ?k9 ?k10 ?k11 ?k12 ?_; (case k1 => k_asm); (case k2 => k_asm); (case k3 => assumption); (case k4 => assumption); (case k5 => exact rfl); (case k6 => decide); (case k7 => decide); (case k8 => exact rfl); (case k9 => first | assumption | omega); (case k10 => first | assumption | omega); (case k11 => first | assumption | omega); (case k12 => first | assumption | omega)); intro t' h' tk' hk' F' N'; (try k_sweep))) | ((k_here; (with_reducible show wpAny _ _ (call (Value.ref 248) _) _ _ _); k_dflt (refine' u_rankK ?k1 ?k2 ?k3 ?k4 ?k5 ?k6 ?k7 ?k8 ?k9 ?k10 ?k11 ?_; (case k1 => k_asm); (case k2 => k_asm); (case k3 => assumption); (case k4 => assumption); (case k5 => exact rfl); (case k6 => decide); (case k7 => decide); (case k8 => first | assumption | omega); (case k9 => first | assumption | omega); (case k10 => first | assumption | omega); (case k11 => first | assumption | omega)); intro t' h' tk' hk' F' N'; (try k_sweep))) | walk1)))))
    refine index_nats h6 hr6 hma hlm ?_
    (repeat' (first | (fail_if_success (with_reducible show wpAny _ _ (exec (Stmt.For _ _ _ _ _) _) _ _ _)); (fail_if_success (with_reducible show wpAny _ _ (exec (Stmt.While _ _ _ _) _) _ _ _)); (fail_if_success (with_reducible show wpAny _ _ (eval (PySem.Expr.ListComp _ _ _ _) _) _ _ _)); (fail_if_success (with_reducible show CompPack _)); (fail_if_success (with_reducible show wpAny _ _ (call (Value.type "zip") _) _ _ _)); (fail_if_success (with_reducible show wpAny _ _ (eval (PySem.Expr.Lambda _ _ _ _) _) _ _ _)); (fail_if_success (with_reducible show wpAny _ _ (call (Value.builtin "sorted") _ _) _ _ _)); (fail_if_success (with_reducible show wpAny _ _ (exec (Stmt.Assign _ (PySem.Expr.ListComp _ _ _ _) _) _) _ _ _)); (fail_if_success (with_reducible show wpAny _ _ (call (Value.builtin "str.join") _) _ _ _)); (fail_if_success (with_reducible show wpAny _ _ (call (Value.builtin "str.split") _) _ _ _)); (fail_if_success (with_reducible show wpAny _ _ (call (Value.builtin "list.index") _) _ _ _)); (fail_if_success (with_reducible show wpAny _ _ (binaryOp _ (Value.ref _) (Value.ref _)) _ _ _)); (fail_if_success (with_reducible show wpAny _ _ (call (Value.builtin "list.extend") _) _ _ _)); (fail_if_success (with_reducible show wpAny _ _ (call (Value.builtin "list.append") _) _ _ _)); (fail_if_success (with_reducible show wpAny _ _ (compareOp _ (Value.ref _) (Value.ref _)) _ _ _)); (first | (k_unfold; (try dsimp only)) | (first | ((k_here; (with_reducible show wpAny _ _ (call (Value.ref 284) _) _ _ _); k_dflt (refine' u_falls ?k1 ?k2 ?k3 ?k4 ?k5 ?k6 ?k7 ?k8 ?k9 ?k10 ?_; (case k1 => k_asm); (case k2 => k_asm); (case k3 => assumption); (case k4 => assumption); (case k5 => exact rfl); (case k6 => decide); (case k7 => decide); (case k8 => is_list); (case k9 => assumption); (case k10 => assumption)); intro t' h' tk' F' N'; (try k_sweep))) | ((k_here; (with_reducible show wpAny _ _ (call (Value.ref 279) _) _ _ _); k_dflt (refine' u_pairs ?k1 ?k2 ?k3 ?k4 ?k5 ?k6 ?k7 ?k8 ?k9 ?k10 ?_; (case k1 => k_asm); (case k2 => k_asm); (case k3 => assumption); (case k4 => assumption); (case k5 => exact rfl); (case k6 => decide); (case k7 => decide); (case k8 => is_list); (case k9 => assumption); (case k10 => assumption)); intro t' h' tk' F' N'; (try k_sweep))) | ((k_here; (with_reducible show wpAny _ _ (call (Value.ref 255) _) _ _ _); k_dflt (refine' u_rowK ?k1 ?k2 ?k3 ?k4 ?k5 ?k6 ?k7 ?k8 ?k9 ?k10 ?k11 ?k12 ?_; (case k1 => k_asm); (case k2 => k_asm); (case k3 => assumption); (case k4 => assumption); (case k5 => exact rfl); (case k6 => decide); (case k7 => decide); (case k8 => exact rfl); (case k9 => first | assumption | omega); (case k10 => first | assumption | omega); (case k11 => first | assumption | omega); (case k12 => first | assumption | omega)); intro t' h' tk' hk' F' N'; (try k_sweep))) | ((k_here; (with_reducible show wpAny _ _ (call (Value.ref 248) _) _ _ _); k_dflt (refine' u_rankK ?k1 ?k2 ?k3 ?k4 ?k5 ?k6 ?k7 ?k8 ?k9 ?k10 ?k11 ?_; (case k1 => k_asm); (case k2 => k_asm); (case k3 => assumption); (case k4 => assumption); (case k5 => exact rfl); (case k6 => decide); (case k7 => decide); (case k8 => first | assumption | omega); (case k9 => first | assumption | omega); (case k10 => first | assumption | omega); (case k11 => first | assumption | omega)); intro t' h' tk' hk' F' N'; (try k_sweep))) | walk1) | (dsimp only; (first | ((k_here; (with_reducible show wpAny _ _ (call (Value.ref 284) _) _ _ _); k_dflt (refine' u_falls ?k1 ?k2 ?k3 ?k4 ?k5 ?k6 ?k7 ?k8 ?k9 ?k10 ?_; (case k1 => k_asm); (case k2 => k_asm); (case k3 => assumption); (case k4 => assumption); (case k5 => exact rfl); (case k6 => decide); (case k7 => decide); (case k8 => is_list); (case k9 => assumption); (case k10 => assumption)); intro t' h' tk' F' N'; (try k_sweep))) | ((k_here; (with_reducible show wpAny _ _ (call (Value.ref 279) _) _ _ _); k_dflt (refine' u_pairs ?k1 ?k2 ?k3 ?k4 ?k5 ?k6 ?k7 ?k8 ?k9 ?k10 ?_; (case k1 => k_asm); (case k2 => k_asm); (case k3 => assumption); (case k4 => assumption); (case k5 => exact rfl); (case k6 => decide); (case k7 => decide); (case k8 => is_list); (case k9 => assumption); (case k10 => assumption)); intro t' h' tk' F' N'; (try k_sweep))) | ((k_here; (with_reducible show wpAny _ _ (call (Value.ref 255) _) _ _ _); k_dflt (refine' u_rowK ?k1 ?k2 ?k3 ?k4 ?k5 ?k6 ?k7 ?k8 ?k9 ?k10 ?k11 ?k12 ?_; (case k1 => k_asm); (case k2 => k_asm); (case k3 => assumption); (case k4 => assumption); (case k5 => exact rfl); (case k6 => decide); (case k7 => decide); (case k8 => exact rfl); (case k9 => first | assumption | omega); (case k10 => first | assumption | omega); (case k11 => first | assumption | omega); (case k12 => first | assumption | omega)); intro t' h' tk' hk' F' N'; (try k_sweep))) | ((k_here; (with_reducible show wpAny _ _ (call (Value.ref 248) _) _ _ _); k_dflt (refine' u_rankK ?k1 ?k2 ?k3 ?k4 ?k5 ?k6 ?k7 ?k8 ?k9 ?k10 ?k11 ?_; (case k1 => k_asm); (case k2 => k_asm); (case k3 => assumption); (case k4 => assumption); (case k5 => exact rfl); (case k6 => decide); (case k7 => decide); (case k8 => first | assumption | omega); (case k9 => first | assumption | omega); (case k10 => first | assumption | omega); (case k11 => first | assumption | omega)); intro t' h' tk' hk' F' N'; (try k_sweep))) | walk1)))))
    refine index_nats h6 hr6 hmb' hlm ?_
    (repeat' (first | (fail_if_success (with_reducible show wpAny _ _ (exec (Stmt.For _ _ _ _ _) _) _ _ _)); (fail_if_success (with_reducible show wpAny _ _ (exec (Stmt.While _ _ _ _) _) _ _ _)); (fail_if_success (with_reducible show wpAny _ _ (eval (PySem.Expr.ListComp _ _ _ _) _) _ _ _)); (fail_if_success (with_reducible show CompPack _)); (fail_if_success (with_reducible show wpAny _ _ (call (Value.type "zip") _) _ _ _)); (fail_if_success (with_reducible show wpAny _ _ (eval (PySem.Expr.Lambda _ _ _ _) _) _ _ _)); (fail_if_success (with_reducible show wpAny _ _ (call (Value.builtin "sorted") _ _) _ _ _)); (fail_if_success (with_reducible show wpAny _ _ (exec (Stmt.Assign _ (PySem.Expr.ListComp _ _ _ _) _) _) _ _ _)); (fail_if_success (with_reducible show wpAny _ _ (call (Value.builtin "str.join") _) _ _ _)); (fail_if_success (with_reducible show wpAny _ _ (call (Value.builtin "str.split") _) _ _ _)); (fail_if_success (with_reducible show wpAny _ _ (call (Value.builtin "list.index") _) _ _ _)); (fail_if_success (with_reducible show wpAny _ _ (binaryOp _ (Value.ref _) (Value.ref _)) _ _ _)); (fail_if_success (with_reducible show wpAny _ _ (call (Value.builtin "list.extend") _) _ _ _)); (fail_if_success (with_reducible show wpAny _ _ (call (Value.builtin "list.append") _) _ _ _)); (fail_if_success (with_reducible show wpAny _ _ (compareOp _ (Value.ref _) (Value.ref _)) _ _ _)); (first | (k_unfold; (try dsimp only)) | (first | ((k_here; (with_reducible show wpAny _ _ (call (Value.ref 284) _) _ _ _); k_dflt (refine' u_falls ?k1 ?k2 ?k3 ?k4 ?k5 ?k6 ?k7 ?k8 ?k9 ?k10 ?_; (case k1 => k_asm); (case k2 => k_asm); (case k3 => assumption); (case k4 => assumption); (case k5 => exact rfl); (case k6 => decide); (case k7 => decide); (case k8 => is_list); (case k9 => assumption); (case k10 => assumption)); intro t' h' tk' F' N'; (try k_sweep))) | ((k_here; (with_reducible show wpAny _ _ (call (Value.ref 279) _) _ _ _); k_dflt (refine' u_pairs ?k1 ?k2 ?k3 ?k4 ?k5 ?k6 ?k7 ?k8 ?k9 ?k10 ?_; (case k1 => k_asm); (case k2 => k_asm); (case k3 => assumption); (case k4 => assumption); (case k5 => exact rfl); (case k6 => decide); (case k7 => decide); (case k8 => is_list); (case k9 => assumption); (case k10 => assumption)); intro t' h' tk' F' N'; (try k_sweep))) | ((k_here; (with_reducible show wpAny _ _ (call (Value.ref 255) _) _ _ _); k_dflt (refine' u_rowK ?k1 ?k2 ?k3 ?k4 ?k5 ?k6 ?k7 ?k8 ?k9 ?k10 ?k11 ?k12 ?_; (case k1 => k_asm); (case k2 => k_asm); (case k3 => assumption); (case k4 => assumption); (case k5 => exact rfl); (case k6 => decide); (case k7 => decide); (case k8 => exact rfl); (case k9 => first | assumption | omega); (case k10 => first | assumption | omega); (case k11 => first | assumption | omega); (case k12 => first | assumption | omega)); intro t' h' tk' hk' F' N'; (try k_sweep))) | ((k_here; (with_reducible show wpAny _ _ (call (Value.ref 248) _) _ _ _); k_dflt (refine' u_rankK ?k1 ?k2 ?k3 ?k4 ?k5 ?k6 ?k7 ?k8 ?k9 ?k10 ?k11 ?_; (case k1 => k_asm); (case k2 => k_asm); (case k3 => assumption); (case k4 => assumption); (case k5 => exact rfl); (case k6 => decide); (case k7 => decide); (case k8 => first | assumption | omega); (case k9 => first | assumption | omega); (case k10 => first | assumption | omega); (case k11 => first | assumption | omega)); intro t' h' tk' hk' F' N'; (try k_sweep))) | walk1) | (dsimp only; (first | ((k_here; (with_reducible show wpAny _ _ (call (Value.ref 284) _) _ _ _); k_dflt (refine' u_falls ?k1 ?k2 ?k3 ?k4 ?k5 ?k6 ?k7 ?k8 ?k9 ?k10 ?_; (case k1 => k_asm); (case k2 => k_asm); (case k3 => assumption); (case k4 => assumption); (case k5 => exact rfl); (case k6 => decide); (case k7 => decide); (case k8 => is_list); (case k9 => assumption); (case k10 => assumption)); intro t' h' tk' F' N'; (try k_sweep))) | ((k_here; (with_reducible show wpAny _ _ (call (Value.ref 279) _) _ _ _); k_dflt (refine' u_pairs ?k1 ?k2 ?k3 ?k4 ?k5 ?k6 ?k7 ?k8 ?k9 ?k10 ?_; (case k1 => k_asm); (case k2 => k_asm); (case k3 => assumption); (case k4 => assumption); (case k5 => exact rfl); (case k6 => decide); (case k7 => decide); (case k8 => is_list); (case k9 => assumption); (case k10 => assumption)); intro t' h' tk' F' N'; (try k_sweep))) | ((k_here; (with_reducible show wpAny _ _ (call (Value.ref 255) _) _ _ _); k_dflt (refine' u_rowK ?k1 ?k2 ?k3 ?k4 ?k5 ?k6 ?k7 ?k8 ?k9 ?k10 ?k11 ?k12 ?_; (case k1 => k_asm); (case k2 => k_asm); (case k3 => assumption); (case k4 => assumption); (case k5 => exact rfl); (case k6 => decide); (case k7 => decide); (case k8 => exact rfl); (case k9 => first | assumption | omega); (case k10 => first | assumption | omega); (case k11 => first | assumption | omega); (case k12 => first | assumption | omega)); intro t' h' tk' hk' F' N'; (try k_sweep))) | ((k_here; (with_reducible show wpAny _ _ (call (Value.ref 248) _) _ _ _); k_dflt (refine' u_rankK ?k1 ?k2 ?k3 ?k4 ?k5 ?k6 ?k7 ?k8 ?k9 ?k10 ?k11 ?_; (case k1 => k_asm); (case k2 => k_asm); (case k3 => assumption); (case k4 => assumption); (case k5 => exact rfl); (case k6 => decide); (case k7 => decide); (case k8 => first | assumption | omega); (case k9 => first | assumption | omega); (case k10 => first | assumption | omega); (case k11 => first | assumption | omega)); intro t' h' tk' hk' F' N'; (try k_sweep))) | walk1)))))
    all_goals try exact absurd (by assumption) hlcb
    refine index_nats h7 hr7 hqa hlb ?_
    (repeat' (first | (fail_if_success (with_reducible show wpAny _ _ (exec (Stmt.For _ _ _ _ _) _) _ _ _)); (fail_if_success (with_reducible show wpAny _ _ (exec (Stmt.While _ _ _ _) _) _ _ _)); (fail_if_success (with_reducible show wpAny _ _ (eval (PySem.Expr.ListComp _ _ _ _) _) _ _ _)); (fail_if_success (with_reducible show CompPack _)); (fail_if_success (with_reducible show wpAny _ _ (call (Value.type "zip") _) _ _ _)); (fail_if_success (with_reducible show wpAny _ _ (eval (PySem.Expr.Lambda _ _ _ _) _) _ _ _)); (fail_if_success (with_reducible show wpAny _ _ (call (Value.builtin "sorted") _ _) _ _ _)); (fail_if_success (with_reducible show wpAny _ _ (exec (Stmt.Assign _ (PySem.Expr.ListComp _ _ _ _) _) _) _ _ _)); (fail_if_success (with_reducible show wpAny _ _ (call (Value.builtin "str.join") _) _ _ _)); (fail_if_success (with_reducible show wpAny _ _ (call (Value.builtin "str.split") _) _ _ _)); (fail_if_success (with_reducible show wpAny _ _ (call (Value.builtin "list.index") _) _ _ _)); (fail_if_success (with_reducible show wpAny _ _ (binaryOp _ (Value.ref _) (Value.ref _)) _ _ _)); (fail_if_success (with_reducible show wpAny _ _ (call (Value.builtin "list.extend") _) _ _ _)); (fail_if_success (with_reducible show wpAny _ _ (call (Value.builtin "list.append") _) _ _ _)); (fail_if_success (with_reducible show wpAny _ _ (compareOp _ (Value.ref _) (Value.ref _)) _ _ _)); (first | (k_unfold; (try dsimp only)) | (first | ((k_here; (with_reducible show wpAny _ _ (call (Value.ref 284) _) _ _ _); k_dflt (refine' u_falls ?k1 ?k2 ?k3 ?k4 ?k5 ?k6 ?k7 ?k8 ?k9 ?k10 ?_; (case k1 => k_asm); (case k2 => k_asm); (case k3 => assumption); (case k4 => assumption); (case k5 => exact rfl); (case k6 => decide); (case k7 => decide); (case k8 => is_list); (case k9 => assumption); (case k10 => assumption)); intro t' h' tk' F' N'; (try k_sweep))) | ((k_here; (with_reducible show wpAny _ _ (call (Value.ref 279) _) _ _ _); k_dflt (refine' u_pairs ?k1 ?k2 ?k3 ?k4 ?k5 ?k6 ?k7 ?k8 ?k9 ?k10 ?_; (case k1 => k_asm); (case k2 => k_asm); (case k3 => assumption); (case k4 => assumption); (case k5 => exact rfl); (case k6 => decide); (case k7 => decide); (case k8 => is_list); (case k9 => assumption); (case k10 => assumption)); intro t' h' tk' F' N'; (try k_sweep))) | ((k_here; (with_reducible show wpAny _ _ (call (Value.ref 255) _) _ _ _); k_dflt (refine' u_rowK ?k1 ?k2 ?k3 ?k4 ?k5 ?k6 ?k7 ?k8 ?k9 ?k10 ?k11 ?k12 ?_; (case k1 => k_asm); (case k2 => k_asm); (case k3 => assumption); (case k4 => assumption); (case k5 => exact rfl); (case k6 => decide); (case k7 => decide); (case k8 => exact rfl); (case k9 => first | assumption | omega); (case k10 => first | assumption | omega); (case k11 => first | assumption | omega); (case k12 => first | assumption | omega)); intro t' h' tk' hk' F' N'; (try k_sweep))) | ((k_here; (with_reducible show wpAny _ _ (call (Value.ref 248) _) _ _ _); k_dflt (refine' u_rankK ?k1 ?k2 ?k3 ?k4 ?k5 ?k6 ?k7 ?k8 ?k9 ?k10 ?k11 ?_; (case k1 => k_asm); (case k2 => k_asm); (case k3 => assumption); (case k4 => assumption); (case k5 => exact rfl); (case k6 => decide); (case k7 => decide); (case k8 => first | assumption | omega); (case k9 => first | assumption | omega); (case k10 => first | assumption | omega); (case k11 => first | assumption | omega)); intro t' h' tk' hk' F' N'; (try k_sweep))) | walk1) | (dsimp only; (first | ((k_here; (with_reducible show wpAny _ _ (call (Value.ref 284) _) _ _ _); k_dflt (refine' u_falls ?k1 ?k2 ?k3 ?k4 ?k5 ?k6 ?k7 ?k8 ?k9 ?k10 ?_; (case k1 => k_asm); (case k2 => k_asm); (case k3 => assumption); (case k4 => assumption); (case k5 => exact rfl); (case k6 => decide); (case k7 => decide); (case k8 => is_list); (case k9 => assumption); (case k10 => assumption)); intro t' h' tk' F' N'; (try k_sweep))) | ((k_here; (with_reducible show wpAny _ _ (call (Value.ref 279) _) _ _ _); k_dflt (refine' u_pairs ?k1 ?k2 ?k3 ?k4 ?k5 ?k6 ?k7 ?k8 ?k9 ?k10 ?_; (case k1 => k_asm); (case k2 => k_asm); (case k3 => assumption); (case k4 => assumption); (case k5 => exact rfl); (case k6 => decide); (case k7 => decide); (case k8 => is_list); (case k9 => assumption); (case k10 => assumption)); intro t' h' tk' F' N'; (try k_sweep))) | ((k_here; (with_reducible show wpAny _ _ (call (Value.ref 255) _) _ _ _); k_dflt (refine' u_rowK ?k1 ?k2 ?k3 ?k4 ?k5 ?k6 ?k7 ?k8 ?k9 ?k10 ?k11 ?k12 ?_; (case k1 => k_asm); (case k2 => k_asm); (case k3 => assumption); (case k4 => assumption); (case k5 => exact rfl); (case k6 => decide); (case k7 => decide); (case k8 => exact rfl); (case k9 => first | assumption | omega); (case k10 => first | assumption | omega); (case k11 => first | assumption | omega); (case k12 => first | assumption | omega)); intro t' h' tk' hk' F' N'; (try k_sweep))) | ((k_here; (with_reducible show wpAny _ _ (call (Value.ref 248) _) _ _ _); k_dflt (refine' u_rankK ?k1 ?k2 ?k3 ?k4 ?k5 ?k6 ?k7 ?k8 ?k9 ?k10 ?k11 ?_; (case k1 => k_asm); (case k2 => k_asm); (case k3 => assumption); (case k4 => assumption); (case k5 => exact rfl); (case k6 => decide); (case k7 => decide); (case k8 => first | assumption | omega); (case k9 => first | assumption | omega); (case k10 => first | assumption | omega); (case k11 => first | assumption | omega)); intro t' h' tk' hk' F' N'; (try k_sweep))) | walk1)))))
    refine index_nats h7 hr7 hqb hlb ?_
    (repeat' (first | (fail_if_success (with_reducible show wpAny _ _ (exec (Stmt.For _ _ _ _ _) _) _ _ _)); (fail_if_success (with_reducible show wpAny _ _ (exec (Stmt.While _ _ _ _) _) _ _ _)); (fail_if_success (with_reducible show wpAny _ _ (eval (PySem.Expr.ListComp _ _ _ _) _) _ _ _)); (fail_if_success (with_reducible show CompPack _)); (fail_if_success (with_reducible show wpAny _ _ (call (Value.type "zip") _) _ _ _)); (fail_if_success (with_reducible show wpAny _ _ (eval (PySem.Expr.Lambda _ _ _ _) _) _ _ _)); (fail_if_success (with_reducible show wpAny _ _ (call (Value.builtin "sorted") _ _) _ _ _)); (fail_if_success (with_reducible show wpAny _ _ (exec (Stmt.Assign _ (PySem.Expr.ListComp _ _ _ _) _) _) _ _ _)); (fail_if_success (with_reducible show wpAny _ _ (call (Value.builtin "str.join") _) _ _ _)); (fail_if_success (with_reducible show wpAny _ _ (call (Value.builtin "str.split") _) _ _ _)); (fail_if_success (with_reducible show wpAny _ _ (call (Value.builtin "list.index") _) _ _ _)); (fail_if_success (with_reducible show wpAny _ _ (binaryOp _ (Value.ref _) (Value.ref _)) _ _ _)); (fail_if_success (with_reducible show wpAny _ _ (call (Value.builtin "list.extend") _) _ _ _)); (fail_if_success (with_reducible show wpAny _ _ (call (Value.builtin "list.append") _) _ _ _)); (fail_if_success (with_reducible show wpAny _ _ (compareOp _ (Value.ref _) (Value.ref _)) _ _ _)); (first | (k_unfold; (try dsimp only)) | (first | ((k_here; (with_reducible show wpAny _ _ (call (Value.ref 284) _) _ _ _); k_dflt (refine' u_falls ?k1 ?k2 ?k3 ?k4 ?k5 ?k6 ?k7 ?k8 ?k9 ?k10 ?_; (case k1 => k_asm); (case k2 => k_asm); (case k3 => assumption); (case k4 => assumption); (case k5 => exact rfl); (case k6 => decide); (case k7 => decide); (case k8 => is_list); (case k9 => assumption); (case k10 => assumption)); intro t' h' tk' F' N'; (try k_sweep))) | ((k_here; (with_reducible show wpAny _ _ (call (Value.ref 279) _) _ _ _); k_dflt (refine' u_pairs ?k1 ?k2 ?k3 ?k4 ?k5 ?k6 ?k7 ?k8 ?k9 ?k10 ?_; (case k1 => k_asm); (case k2 => k_asm); (case k3 => assumption); (case k4 => assumption); (case k5 => exact rfl); (case k6 => decide); (case k7 => decide); (case k8 => is_list); (case k9 => assumption); (case k10 => assumption)); intro t' h' tk' F' N'; (try k_sweep))) | ((k_here; (with_reducible show wpAny _ _ (call (Value.ref 255) _) _ _ _); k_dflt (refine' u_rowK ?k1 ?k2 ?k3 ?k4 ?k5 ?k6 ?k7 ?k8 ?k9 ?k10 ?k11 ?k12 ?_; (case k1 => k_asm); (case k2 => k_asm); (case k3 => assumption); (case k4 => assumption); (case k5 => exact rfl); (case k6 => decide); (case k7 => decide); (case k8 => exact rfl); (case k9 => first | assumption | omega); (case k10 => first | assumption | omega); (case k11 => first | assumption | omega); (case k12 => first | assumption | omega)); intro t' h' tk' hk' F' N'; (try k_sweep))) | ((k_here; (with_reducible show wpAny _ _ (call (Value.ref 248) _) _ _ _); k_dflt (refine' u_rankK ?k1 ?k2 ?k3 ?k4 ?k5 ?k6 ?k7 ?k8 ?k9 ?k10 ?k11 ?_; (case k1 => k_asm); (case k2 => k_asm); (case k3 => assumption); (case k4 => assumption); (case k5 => exact rfl); (case k6 => decide); (case k7 => decide); (case k8 => first | assumption | omega); (case k9 => first | assumption | omega); (case k10 => first | assumption | omega); (case k11 => first | assumption | omega)); intro t' h' tk' hk' F' N'; (try k_sweep))) | walk1) | (dsimp only; (first | ((k_here; (with_reducible show wpAny _ _ (call (Value.ref 284) _) _ _ _); k_dflt (refine' u_falls ?k1 ?k2 ?k3 ?k4 ?k5 ?k6 ?k7 ?k8 ?k9 ?k10 ?_; (case k1 => k_asm); (case k2 => k_asm); (case k3 => assumption); (case k4 => assumption); (case k5 => exact rfl); (case k6 => decide); (case k7 => decide); (case k8 => is_list); (case k9 => assumption); (case k10 => assumption)); intro t' h' tk' F' N'; (try k_sweep))) | ((k_here; (with_reducible show wpAny _ _ (call (Value.ref 279) _) _ _ _); k_dflt (refine' u_pairs ?k1 ?k2 ?k3 ?k4 ?k5 ?k6 ?k7 ?k8 ?k9 ?k10 ?_; (case k1 => k_asm); (case k2 => k_asm); (case k3 => assumption); (case k4 => assumption); (case k5 => exact rfl); (case k6 => decide); (case k7 => decide); (case k8 => is_list); (case k9 => assumption); (case k10 => assumption)); intro t' h' tk' F' N'; (try k_sweep))) | ((k_here; (with_reducible show wpAny _ _ (call (Value.ref 255) _) _ _ _); k_dflt (refine' u_rowK ?k1 ?k2 ?k3 ?k4 ?k5 ?k6 ?k7 ?k8 ?k9 ?k10 ?k11 ?k12 ?_; (case k1 => k_asm); (case k2 => k_asm); (case k3 => assumption); (case k4 => assumption); (case k5 => exact rfl); (case k6 => decide); (case k7 => decide); (case k8 => exact rfl); (case k9 => first | assumption | omega); (case k10 => first | assumption | omega); (case k11 => first | assumption | omega); (case k12 => first | assumption | omega)); intro t' h' tk' hk' F' N'; (try k_sweep))) | ((k_here; (with_reducible show wpAny _ _ (call (Value.ref 248) _) _ _ _); k_dflt (refine' u_rankK ?k1 ?k2 ?k3 ?k4 ?k5 ?k6 ?k7 ?k8 ?k9 ?k10 ?k11 ?_; (case k1 => k_asm); (case k2 => k_asm); (case k3 => assumption); (case k4 => assumption); (case k5 => exact rfl); (case k6 => decide); (case k7 => decide); (case k8 => first | assumption | omega); (case k9 => first | assumption | omega); (case k10 => first | assumption | omega); (case k11 => first | assumption | omega)); intro t' h' tk' hk' F' N'; (try k_sweep))) | walk1)))))
    all_goals try exact absurd (by assumption) hldb
    exact ⟨_, _, _, (TI, oT) :: _, _, rfl, F42, N42, hoff, rfl, ⟨rfl, rfl⟩, rfl⟩
  · rintro m h tk E' ⟨hm1, hm2⟩ F42 N42
    clear F41 N41
    (repeat' (first | (fail_if_success (with_reducible show wpAny _ _ (exec (Stmt.For _ _ _ _ _) _) _ _ _)); (fail_if_success (with_reducible show wpAny _ _ (exec (Stmt.While _ _ _ _) _) _ _ _)); (fail_if_success (with_reducible show wpAny _ _ (eval (PySem.Expr.ListComp _ _ _ _) _) _ _ _)); (fail_if_success (with_reducible show CompPack _)); (fail_if_success (with_reducible show wpAny _ _ (call (Value.type "zip") _) _ _ _)); (fail_if_success (with_reducible show wpAny _ _ (eval (PySem.Expr.Lambda _ _ _ _) _) _ _ _)); (fail_if_success (with_reducible show wpAny _ _ (call (Value.builtin "sorted") _ _) _ _ _)); (fail_if_success (with_reducible show wpAny _ _ (exec (Stmt.Assign _ (PySem.Expr.ListComp _ _ _ _) _) _) _ _ _)); (fail_if_success (with_reducible show wpAny _ _ (call (Value.builtin "str.join") _) _ _ _)); (fail_if_success (with_reducible show wpAny _ _ (call (Value.builtin "str.split") _) _ _ _)); (fail_if_success (with_reducible show wpAny _ _ (call (Value.builtin "list.index") _) _ _ _)); (fail_if_success (with_reducible show wpAny _ _ (binaryOp _ (Value.ref _) (Value.ref _)) _ _ _)); (fail_if_success (with_reducible show wpAny _ _ (call (Value.builtin "list.extend") _) _ _ _)); (fail_if_success (with_reducible show wpAny _ _ (call (Value.builtin "list.append") _) _ _ _)); (fail_if_success (with_reducible show wpAny _ _ (compareOp _ (Value.ref _) (Value.ref _)) _ _ _)); (first | (k_unfold; (try dsimp only)) | (first | ((k_here; (with_reducible show wpAny _ _ (call (Value.ref 284) _) _ _ _); k_dflt (refine' u_falls ?k1 ?k2 ?k3 ?k4 ?k5 ?k6 ?k7 ?k8 ?k9 ?k10 ?_; (case k1 => k_asm); (case k2 => k_asm); (case k3 => assumption); (case k4 => assumption); (case k5 => exact rfl); (case k6 => decide); (case k7 => decide); (case k8 => is_list); (case k9 => assumption); (case k10 => assumption)); intro t' h' tk' F' N'; (try k_sweep))) | ((k_here; (with_reducible show wpAny _ _ (call (Value.ref 279) _) _ _ _); k_dflt (refine' u_pairs ?k1 ?k2 ?k3 ?k4 ?k5 ?k6 ?k7 ?k8 ?k9 ?k10 ?_; (case k1 => k_asm); (case k2 => k_asm); (case k3 => assumption); (case k4 => assumption); (case k5 => exact rfl); (case k6 => decide); (case k7 => decide); (case k8 => is_list); (case k9 => assumption); (case k10 => assumption)); intro t' h' tk' F' N'; (try k_sweep))) | ((k_here; (with_reducible show wpAny _ _ (call (Value.ref 255) _) _ _ _); k_dflt (refine' u_rowK ?k1 ?k2 ?k3 ?k4 ?k5 ?k6 ?k7 ?k8 ?k9 ?k10 ?k11 ?k12 ?_; (case k1 => k_asm); (case k2 => k_asm); (case k3 => assumption); (case k4 => assumption); (case k5 => exact rfl); (case k6 => decide); (case k7 => decide); (case k8 => exact rfl); (case k9 => first | assumption | omega); (case k10 => first | assumption | omega); (case k11 => first | assumption | omega); (case k12 => first | assumption | omega)); intro t' h' tk' hk' F' N'; (try k_sweep))) | ((k_here; (with_reducible show wpAny _ _ (call (Value.ref 248) _) _ _ _); k_dflt (refine' u_rankK ?k1 ?k2 ?k3 ?k4 ?k5 ?k6 ?k7 ?k8 ?k9 ?k10 ?k11 ?_; (case k1 => k_asm); (case k2 => k_asm); (case k3 => assumption); (case k4 => assumption); (case k5 => exact rfl); (case k6 => decide); (case k7 => decide); (case k8 => first | assumption | omega); (case k9 => first | assumption | omega); (case k10 => first | assumption | omega); (case k11 => first | assumption | omega)); intro t' h' tk' hk' F' N'; (try k_sweep))) | walk1) | (dsimp only; (first | ((k_here; (with_reducible show wpAny _ _ (call (Value.ref 284) _) _ _ _); k_dflt (refine' u_falls ?k1 ?k2 ?k3 ?k4 ?k5 ?k6 ?k7 ?k8 ?k9 ?k10 ?_; (case k1 => k_asm); (case k2 => k_asm); (case k3 => assumption); (case k4 => assumption); (case k5 => exact rfl); (case k6 => decide); (case k7 => decide); (case k8 => is_list); (case k9 => assumption); (case k10 => assumption)); intro t' h' tk' F' N'; (try k_sweep))) | ((k_here; (with_reducible show wpAny _ _ (call (Value.ref 279) _) _ _ _); k_dflt (refine' u_pairs ?k1 ?k2 ?k3 ?k4 ?k5 ?k6 ?k7 ?k8 ?k9 ?k10 ?_; (case k1 => k_asm); (case k2 => k_asm); (case k3 => assumption); (case k4 => assumption); (case k5 => exact rfl); (case k6 => decide); (case k7 => decide); (case k8 => is_list); (case k9 => assumption); (case k10 => assumption)); intro t' h' tk' F' N'; (try k_sweep))) | ((k_here; (with_reducible show wpAny _ _ (call (Value.ref 255) _) _ _ _); k_dflt (refine' u_rowK ?k1 ?k2 ?k3 ?k4 ?k5 ?k6 ?k7 ?k8 ?k9 ?k10 ?k11 ?k12 ?_; (case k1 => k_asm); (case k2 => k_asm); (case k3 => assumption); (case k4 => assumption); (case k5 => exact rfl); (case k6 => decide); (case k7 => decide); (case k8 => exact rfl); (case k9 => first | assumption | omega); (case k10 => first | assumption | omega); (case k11 => first | assumption | omega); (case k12 => first | assumption | omega)); intro t' h' tk' hk' F' N'; (try k_sweep))) | ((k_here; (with_reducible show wpAny _ _ (call (Value.ref 248) _) _ _ _); k_dflt (refine' u_rankK ?k1 ?k2 ?k3 ?k4 ?k5 ?k6 ?k7 ?k8 ?k9 ?k10 ?k11 ?_; (case k1 => k_asm); (case k2 => k_asm); (case k3 => assumption); (case k4 => assumption); (case k5 => exact rfl); (case k6 => decide); (case k7 => decide); (case k8 => first | assumption | omega); (case k9 => first | assumption | omega); (case k10 => first | assumption | omega); (case k11 => first | assumption | omega)); intro t' h' tk' hk' F' N'; (try k_sweep))) | walk1)))))
    rename Fr _ _ _ _ => F43
    exact hret _ (fun b o e h1 h2 h3 => F43.keep _ _ (hkeep b o e h1 h2 h3)) ⟨tb10, (N42 (140, _) (by ((repeat' (first | exact sub_nil' | refine sub_cons' ?_ ?_ | exact List.Mem.head _ | refine List.Mem.tail _ ?_))))).1⟩ ⟨tc10, (N42 (147, _) (by ((repeat' (first | exact sub_nil' | refine sub_cons' ?_ ?_ | exact List.Mem.head _ | refine List.Mem.tail _ ?_))))).1⟩ ⟨td2, (N42 (286, _) (by ((repeat' (first | exact sub_nil' | refine sub_cons' ?_ ?_ | exact List.Mem.head _ | refine List.Mem.tail _ ?_))))).1⟩ hbare10 rfl
end
end Mine
end

section
-- EndT
example : True := by w_top off; trivial
open PySem PySem.W PyProof.Rows PySem.Calls PySem.Spec
set_option maxRecDepth 100000
namespace Mine
/-- how the claim's end is met -/
theorem good_end {claim : ClaimW} {cl : Str → Option Addr} {mean : ExcName → Option Value} {args : List WData} {s s' : Shared} {P1 P2 P3 c1 c2 c3 : Addr} (hr : ∀ cls, claim.raises args cls = false) (hp : claim.post args (.bool true) args = true)
    (T1 : CodeHd s.heap c1 P1) (T2 : CodeHd s.heap c2 P2) (T3 : CodeHd s.heap c3 P3) (h1 : s.heap.get? P1 = some (tabObj #[])) (h2 : s.heap.get? P2 = some (tabObj #[])) (h3 : s.heap.get? P3 = some (tabObj #[]))
    (hk : ∀ b o, s.heap.get? b = some o → b ≠ P1 → b ≠ P2 → b ≠ P3 → s'.heap.get? b = some o) (k1 : ∃ t, s'.heap.get? P1 = some (tabObj t)) (k2 : ∃ t, s'.heap.get? P2 = some (tabObj t)) (k3 : ∃ t, s'.heap.get? P3 = some (tabObj t)) (hb : AllBare s'.gens) (ho : s'.os = s.os) :
    GoodWG claim cl mean args s (.ok (.ret (.bool true))) s' := by
  have old : ∀ P c, CodeHd s.heap c P → s.heap.get? P = some (tabObj #[]) → (∃ t, s'.heap.get? P = some (tabObj t)) → ∀ o, s.heap.get? P = some o → asItWas s.heap s'.heap P o ∧ ∃ o', s'.heap.get? P = some o' := by
    intro P c T h k o e
    obtain ⟨t, k⟩ := k
    rw [h] at e
    cases e
    exact ⟨.inr (.inl ⟨(T.tab h).isCodeTable, rfl, #[], t, rfl, by rw [Array.empty_append]; exact k⟩), _, k⟩
  have all : ∀ b o, s.heap.get? b = some o → asItWas s.heap s'.heap b o ∧ ∃ o', s'.heap.get? b = some o' := by
    intro b o e
    by_cases e1 : b = P1
    · subst e1; exact old _ _ T1 h1 k1 o e
    by_cases e2 : b = P2
    · subst e2; exact old _ _ T2 h2 k2 o e
    by_cases e3 : b = P3
    · subst e3; exact old _ _ T3 h3 k3 o e
    exact ⟨.inl (hk b o e e1 e2 e3), _, hk b o e e1 e2 e3⟩
  exact ⟨.inl ⟨.bool true, .bool true, [], rfl, hr, .bool true, hp, fun _ => ⟨.nil, fun _ h => nomatch h⟩⟩, ⟨fun b o e => (all b o e).1, fun b o e => (all b o e).2⟩, ho, hb⟩
theorem post_ok (x y : List WData) : Challenge.rw_oc0165_01.row.claim.post x (.bool true) y = true := by
  unfold RowW.claim
  dsimp only [OpenLaw.row]
  rw [Bool.and_eq_true]
  refine ⟨by decide +kernel, ?_⟩
  have e : W.same (.bool true) (.bool true) = true := by decide +kernel
  simp [WTm.holds, WTm.value, e]
end Mine
end

open PySem PySem.W PyProof.Rows PySem.Calls PySem.Spec
set_option maxRecDepth 100000
set_option maxRecDepth 100000 in
set_option maxHeartbeats 8000000 in
theorem PySem.Challenge.cw_oc0165_01_holds : PySem.Challenge.rw_oc0165_01.Holds :=
  Mine.hd (by
    k_fill
    intro w s₀ s₁ mg mb G Y fa o pm cd doc dV kV ho hd hcd hD hmg hg args vals as hpre hlay hrd hwl hlo
    have KX := km_in_of Y
    have hT8 := km_tabs_of Y
    refine Ground.open G ?_
    intro T B D TE TW
    try (refine guard_noD D (by decide +kernel) ?_; clear D)
    have hfa := mg_of (n := Str.ofString "law") (v := .ref 289) KX T.g (by kernel_rfl)
    rw [hmg] at hfa
    cases hfa
    clear hd
    wrow_args hpre hlay hrd hwl hlo
    first | refine callC_kw (enter_call ?_) | refine enter_call ?_
    w_top on
    rename Heap.IsList _ _ _ => hL
    rename IntsAre _ _ => hI
    rename ¬ _ < _ => hlen
    have C1 : CodeHd s₁.heap 144 140 := Mine.codeHd_in KX (by kernel_rfl) (by decide)
    have C2 : CodeHd s₁.heap 151 147 := Mine.codeHd_in KX (by kernel_rfl) (by decide)
    have C3 : CodeHd s₁.heap 288 286 := Mine.codeHd_in KX (by kernel_rfl) (by decide)
    have h1 := hT8 140 (by decide)
    have h2 := hT8 147 (by decide)
    have h3 := hT8 286 (by decide)
    have hT : TabsAt [(144, 140), (151, 147), (288, 286)] s₁.heap := by
      rintro q (_ | ⟨_, _ | ⟨_, _ | ⟨_, hq⟩⟩⟩)
      · exact ⟨C1, h1⟩
      · exact ⟨C2, h2⟩
      · exact ⟨C3, h3⟩
      · cases hq
    have GK := ghost_K hT KX (by kernel_rfl)
    have GT := ghost_top hT T
    refine Mine.code_up (D := 305) (U := 50) rfl (by decide) (by decide) (Mine.c_law ⟨GK, GT⟩ (fun b o e => of_hideAll _ e) hL hI (by omega) h1 True.intro (hideAll_none _ (by decide)) h2 True.intro (hideAll_none _ (by decide)) h3 (hideAll_none _ (by decide)) (AllBare.of_eq hg) ?_)
    intro s' hk k1 k2 k3 hb hos
    exact Mine.good_end (fun _ => rfl) (Mine.post_ok _ _) C1 C2 C3 h1 h2 h3 hk k1 k2 k3 hb hos)
