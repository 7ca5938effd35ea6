import PyProof.Rows.All
import Wide.All
import OpenK.AllK
import Wide.FinOn
import Lean
import PySem.Challenge.RW_bd0042_01
open PySem PySem.W PyProof.Rows
set_option Elab.async false
namespace Mine

section
open PySem PySem.W PyProof.Rows PySem.Calls
set_option maxRecDepth 100000
set_option maxHeartbeats 8000000
/-- the run over a tree of objects, its step and its test handed in -/
def runT (ok : Thread → Bool) (st : SharedT → Thread → Option (SharedT × Thread)) : Nat → SharedT → Thread → Option SharedT
  | 0, _, _ => none
  | n + 1, s, t => match through t with
    | true => some s
    | false => match ok t with
      | false => none
      | true => match st s t with
        | some (s', t') => runT ok st n s' t'
        | none => none
theorem runT_of {tb : String → Option Builtin} {p : Program} {w : World} {n₀ : Nat} {ann : Option Value} : ∀ {n : Nat} {s r : SharedT} {t : Thread}, runT (stepOk n₀ ann) (stepT (denote tb) p w) n s t = some r → topRun tb p w n₀ ann n s.abs t = some r.abs
  | 0, _, _, _, h => by cases h
  | n + 1, s, r, t, h => by
    unfold runT at h
    unfold topRun
    cases ht : through t with
    | true => rw [ht] at h; cases h; rfl
    | false =>
      rw [ht] at h
      cases hk : stepOk n₀ ann t with
      | false => rw [hk] at h; cases h
      | true =>
        rw [hk] at h
        cases hs : stepT (denote tb) p w s t with
        | none => rw [hs] at h; cases h
        | some x => obtain ⟨s₂, t₂⟩ := x; rw [hs] at h; rw [stepT_spec hs]; exact runT_of h
theorem left_of_tree {p q : Program} {loose : List Str} {Xt : Shared → Bool} {α : Type} {Yf : Shared → α} {Ya : World → α} {N : Nat} {g0 : Bool} {T₀ : Params → BT} {n₀ : Nat} {life₀ : Life} {m₀ : Nat} {ann : Option Value} {M : Nat}
    (op : opening p = plainProg p.main.scope.names) (hN : Nat.ble 600 N = true) (hf : ∀ s, fenceModules? p s = some s)
    (hT : ∀ P, absHeap (T₀ P) n₀ life₀ = boot_heap P)
    (size : ∀ P : Params, ((boot_heap P).isNs mainGlobals, (boot_heap P).objs.size, (boot_heap P).nsMap mainGlobals "__annotations__") = (true, m₀, ann)) (le : Nat.ble M N = true)
    (run : ∀ (w : World) (os : OsState), (runT (stepOk m₀ ann) (stepT (denote treeTable) p w) M ⟨T₀ w.params, n₀, life₀, Array.mk [], boot_drawn, boot_toks, os⟩ (topStub p)).map (fun s =>
        ((staticsOk (importedModules p.main.body) (boot_heap w.params) s.abs.heap && namesBound p s.abs.heap && gensDone s.abs && laidKept (boot_heap w.params) s.abs.heap),
          openSeen q loose (importedModules p.main.body) Xt g0 s.abs, Yf s.abs)) = some (true, openGood q loose, Ya w)) : LeftO p q loose Xt Yf Ya N g0 := fun w => by
  obtain ⟨⟨h, gs, d, k, os⟩, e, e'⟩ := Option.map_eq_some_iff.mp (boot_open op hN hf w)
  obtain ⟨rfl, rfl, rfl, rfl⟩ : h = boot_heap w.params ∧ gs = Array.mk [] ∧ d = boot_drawn ∧ k = boot_toks := by simpa using e'
  obtain ⟨z1, z2, z3⟩ : _ ∧ _ ∧ _ := by simpa only [Prod.mk.injEq] using size w.params
  obtain ⟨s, hs, hl⟩ := Option.map_eq_some_iff.mp (run w os)
  obtain ⟨l1, l2, l3⟩ : _ ∧ _ ∧ _ := by simpa only [Prod.mk.injEq] using hl
  have r := topRun_mono (N - M) _ _ _ _ (runT_of hs)
  rw [show M + (N - M) = N by have := Nat.le_of_ble_eq_true le; omega] at r
  have hs0 : SharedT.abs ⟨T₀ w.params, n₀, life₀, Array.mk [], boot_drawn, boot_toks, os⟩ = ⟨boot_heap w.params, Array.mk [], boot_drawn, boot_toks, os⟩ := by
    unfold SharedT.abs
    rw [hT]
  rw [hs0] at r
  have t : topFrom treeTable p w N ⟨boot_heap w.params, Array.mk [], boot_drawn, boot_toks, os⟩ = some s.abs := by
    unfold topFrom
    dsimp only
    rw [z1, z2, z3, r]
    show (match staticsOk (importedModules p.main.body) (boot_heap w.params) s.abs.heap && namesBound p s.abs.heap && gensDone s.abs && laidKept (boot_heap w.params) s.abs.heap with | true => _ | false => _) = _
    rw [l1]
  unfold openEnds
  rw [e]
  show (topFrom treeTable p w N _).map _ = _
  rw [t]
  exact congrArg some (Prod.ext l2 l3)
/-- the tree of a list of objects -/
def treeOf : List Obj → Nat → BT → BT
  | [], _, t => t
  | o :: l, n, t => treeOf l (n + 1) (t.ins n o)
noncomputable def T0 (P : Params) : BT := treeOf (boot_heap P).objs.toList 0 .nil

open PySem.W.Fast in
theorem left_of_treeQ {p q : Program} {loose : List Str} {K : Params → Frag} {as : List Addr} {e : ∀ P, as = (K P).map (·.1)} {r : RowW} (hr : r.records = [])
    (op : opening p = plainProg p.main.scope.names) (hf : ∀ s, fenceModules? p s = some s)
    (run : ∀ (w : World) (os : OsState), (runT (tw6613529449190102663 11 (some (.ref 6))) (tw10156331382660048174 (tw11892475500146522536 tw14364793385576792824) p w) 5736 ⟨T0 w.params, 11, {}, Array.mk [], boot_drawn, boot_toks, os⟩ (topStub p)).map (fun s =>
        ((staticsOk (tw5923862056798008813 p.main.body) (boot_heap w.params) s.abs.heap && namesBound p s.abs.heap && gensDone s.abs && laidKept (boot_heap w.params) s.abs.heap),
          tw4187177175401517315 q loose (tw5923862056798008813 p.main.body) (fun s => xlAt q [] s && recOk [] s) true s.abs, R.mapR s.abs.heap.get? as)) = some (true, openGood q loose, R.mapR (fun p => some p.2) (K w.params))) :
    LeftO p q loose (fun s => xlAt q [] s && recOk r.records s) (Hook.obs (kHook K as e)) (Hook.val (kHook K as e)) 5736 := by
  refine left_of_tree (T₀ := T0) (n₀ := 11) (life₀ := {}) (m₀ := 11) (ann := some (.ref 6)) (M := 5736) op (by decide) hf ?_ ?_ (by decide) ?_
  · intro P; kernel_rfl
  · intro P; kernel_rfl
  · intro w os
    rw [hr]
    have := run w os
    rw [← te6613529449190102663, ← te10156331382660048174, ← te11892475500146522536, ← te14364793385576792824, ← te5923862056798008813, ← te4187177175401517315] at this
    rw [← R.mapR_eq] at this
    exact this
def vw : Program := view PySem.Challenge.pw_bd0042_01 [0, 2, 3, 4, 5, 6, 8, 9, 10, 11, 12, 13]

local macro_rules | `(tactic| o_head $H) => `(tactic| (refine holds_open (q := vw) (loose := [Str.ofString "_tuplegetter", Str.ofString "tokenize", Str.ofString "keyword", Str.ofString "Token", Str.ofString "_law_words"]) (Xt := fun s => xlAt vw [] s && recOk (RowW.records (OpenRow.toRowW (OpenLaw.row PySem.Challenge.rw_bd0042_01))) s) (XP := XL vw []) (Yf := Hook.obs $H) (Ya := Hook.val $H) (YP := Hook.says $H) (N := 5736) ?hl (Hook.of $H) (Hook.keeps $H) (fun s e => xl_of s (Bool.and_eq_true_iff.mp e).1) XL.keeps (by rfl) (by rfl) (by rfl) (fun s e => recFacts_of (Bool.and_eq_true_iff.mp e).2) (by rfl) (by assumption) (by decide +kernel) ⟨rfl, rfl, rfl, rfl, rfl, by decide +kernel⟩ ?hw ?hc; (case hl => exact left_of_treeQ (by rfl) (by kernel_rfl) (fun _ => by kernel_rfl) (fun _ _ => by kernel_rfl))))
open_top hd for PySem.Challenge.rw_bd0042_01
end

section
set_option maxRecDepth 100000
/-- the end of a turn: the ledger goes on, what the iteration owns stands -/
def EndG (h₀ : Heap) (L : Addr) (kp : List (Addr × Obj)) (J : (Str → Option Value) → List (Addr × Obj) → Prop) (own : List (Addr × Obj)) (s₁ : Shared) (f : Flow) (s₂ : Shared) : Prop :=
  f = .next ∧ ∃ h' tk m' news' nx, s₂ = { s₁ with heap := h', toks := tk } ∧ Fr h₀ L h' m' ∧ News h₀ L h' news' ∧ (∀ p ∈ nx, p ∈ news') ∧ (∀ p ∈ own, p ∈ news') ∧ (∀ p ∈ kp, p ∈ nx) ∧ OwnOff own (nx.map (·.1)) ∧ J m' nx

section
variable {prog : Program} {w : World} {A : Around} {s : Shared} {env : Env} {h₀ : Heap}

/-- what stands of the iteration's own objects when a turn has ended -/
theorem stays_on {h h' : Heap} {L : Addr} {fo : List Addr} {kp nx nx' news' : List (Addr × Obj)} {fp : List Addr}
    (hff : ∀ b ∈ fp, b ∈ fo ∨ ∃ o, (b, o) ∈ kp) (hfn : ∀ b ∈ fo, h₀.get? b = none)
    (N : News h₀ L h nx) (hk : ∀ p ∈ kp, p ∈ nx) (N' : News h₀ L h' news') (hn : ∀ p ∈ nx', p ∈ news') (ho : ∀ p ∈ ownOf h₀ fo h, p ∈ news') (hk' : ∀ p ∈ kp, p ∈ nx') :
    ∀ b ∈ fp, ∀ o, h.get? b = some o → h'.get? b = some o := by
  intro b hb o e
  rcases hff b hb with hf | ⟨o', hm⟩
  · exact (N' _ (ho _ (mem_ownOf hf (hfn b hf) e))).1
  · have h1 := (N _ (hk _ hm)).1
    have h2 : o' = o := Option.some.inj (h1.symm.trans e)
    exact h2 ▸ (N' _ (hn _ (hk' _ hm))).1

theorem forLoopG {R : Result → Shared → Prop} {xi xc : Str} {pk pv pt : Pos} {x1 : Nat} {body : List Stmt} {I : Addr} {fp wr : List Addr} {n : Nat} {Pt : Nat → Array Value → Prop} {St : Nat → Heap → Prop} {Mid : Nat → Addr → Heap → Prop}
    {P2 : Nat → Value → Value → Prop} {m : Str → Option Value} {nx : List (Addr × Obj)} (fo : List Addr) (kp : List (Addr × Obj)) (J : Nat → (Str → Option Value) → List (Addr × Obj) → Prop)
    (hh : A.handled = none) (W : WalksU prog w A I fp wr n Pt St Mid) (h2 : ∀ i vals, Pt i vals → ∃ v0 v1, vals = #[v0, v1] ∧ P2 i v0 v1)
    (hxi : env.kindOf xi = some .local) (hxc : env.kindOf xc = some .local)
    (hp : (env.scope.kind == .class || (env.scope.kind == .module && env.locals != env.globals)) = false)
    (hwf : ∀ b ∈ wr, b ∈ fo) (hff : ∀ b ∈ fp, b ∈ fo ∨ ∃ o, (b, o) ∈ kp) (hfn : ∀ b ∈ fo, h₀.get? b = none) (hLo : env.locals ∉ fo)
    (hst : St 0 s.heap) (hob : ∀ i h, St i h → ∀ b ∈ fo, ∃ o, h.get? b = some o)
    (F : Fr h₀ env.locals s.heap m) (N : News h₀ env.locals s.heap nx) (h0 : J 0 m nx) (hk0 : ∀ p ∈ kp, p ∈ nx) (hoff0 : ∀ p ∈ nx, p.1 ∉ fo)
    (step : ∀ i v0 v1 m₁ nx₁ h tk own, i < n → P2 i v0 v1 → J i m₁ nx₁ → (∀ p ∈ kp, p ∈ nx₁) → OwnOff own (nx₁.map (·.1)) →
      Fr h₀ env.locals h (fun y => if y = xc then some v1 else if y = xi then some v0 else m₁ y) → News h₀ env.locals h (nx₁ ++ own) →
      wpAny (model prog w) A (execs body env) (EndG h₀ env.locals kp (J (i + 1)) own { s with heap := h, toks := tk }) (notedBy (model prog w) A env fun e s' => R (.error e) s') { s with heap := h, toks := tk })
    (hR : ∀ h' tk m' nx', Fr h₀ env.locals h' m' → News h₀ env.locals h' nx' → J n m' nx' → R (.ok .next) { s with heap := h', toks := tk }) :
    codeAny (model prog w) A (.forLoop (.Tuple [.Name xi pk, .Name xc pv] x1 pt) (.ref I) body [] env) R s := by
  have hLw : env.locals ∉ wr := fun h => hLo (hwf _ h)
  have old : ∀ b o, h₀.get? b = some o → b ∉ wr := fun b o e hb => by rw [hfn b (hwf b hb)] at e; cases e
  have hLf : ∀ (nx' : List (Addr × Obj)) (h' : Heap), News h₀ env.locals h' nx' → (∀ p ∈ kp, p ∈ nx') → env.locals ∉ fp := fun nx' h' N' hk' hm => by
    rcases hff _ hm with h | ⟨o, h⟩
    · exact hLo h
    · exact (N' _ (hk' _ h)).2.1 rfl
  refine codeAny_forLoop_any
    (fun k s' => ∃ h' tk m' nx' i, s' = { s with heap := h', toks := tk } ∧ St i h' ∧ Fr h₀ env.locals h' m' ∧ News h₀ env.locals h' nx' ∧ (∀ p ∈ kp, p ∈ nx') ∧ (∀ p ∈ nx', p.1 ∉ fo) ∧ J i m' nx' ∧ i ≤ n ∧ k = n + 1 - i) ?_ (n + 1)
    ⟨s.heap, s.toks, m, nx, 0, rfl, hst, F, N, hk0, hoff0, h0, Nat.zero_le _, rfl⟩
  rintro k s' ⟨H, tk, m', nx', i, rfl, hst', F', N', hk', hoff', hJ, hi, rfl⟩
  have hLfp := hLf nx' H N' hk'
  have next : ∀ h₁ : Heap, (∀ b o, b ∉ wr → H.get? b = some o → h₁.get? b = some o) → Fr h₀ env.locals h₁ m' ∧ News h₀ env.locals h₁ nx' := fun h₁ hk₁ =>
    ⟨⟨F'.ns.at' fun o e => hk₁ _ o hLw e, fun b o e => hk₁ b o (old b o e) (F'.keep b o e), F'.above⟩, fun p hp => ⟨hk₁ _ _ (fun hb => hoff' p hp (hwf _ hb)) (N' p hp).1, (N' p hp).2⟩⟩
  by_cases hlt : i < n
  · refine W.item i _ _ _ hlt hst' fun T vals h₁ tk₁ hPt hT hMid hk₁ => ?_
    obtain ⟨v0, v1, rfl, hP2⟩ := h2 i vals hPt
    refine W.go _ x1 pt i T _ _ _ hMid fun h₂ hst₂ hk₂ => ?_
    have ht₂ : h₂.IsTuple T #[v0, v1] := hT.at fun o e => hk₂ T o (W.apart i T h₁ hMid) e
    refine wpAny_assign_Tuple hh ht₂ rfl rfl fun h₃ hx₃ => ?_
    replace hx₃ : Heap.ExtBut h₂.objs.size h₂ h₃ := hx₃
    have up₃ : ∀ b o, h₂.get? b = some o → h₃.get? b = some o := fun b o x => hx₃ b o (Nat.ne_of_lt (Heap.lt_size x)) x
    obtain ⟨F₃, N₃⟩ := next h₃ fun b o hb x => up₃ b o (hk₂ b o hb (hk₁ b o hb x))
    show wpAny _ A (do holding [v1] (assign (.Name xi pk) env v0); do holding [] (assign (.Name xc pv) env v1); pure ()) _ _ _
    refine wpAny_bind (wpAny_holding (wpAny_assign_Name (wpAny_storeName_local hxi F₃.ns (fun h₄ hn₄ hs₄ => ?_) hp)))
    replace hs₄ : Heap.SameBut env.locals h₃ h₄ := hs₄
    have F₄ := F₃.set hn₄ hs₄
    refine wpAny_bind (wpAny_holding (wpAny_assign_Name (wpAny_storeName_local hxc F₄.ns (fun h₅ hn₅ hs₅ => wpAny_pure ?_) hp)))
    replace hs₅ : Heap.SameBut env.locals h₄ h₅ := hs₅
    have F₅ := F₄.set hn₅ hs₅
    have N₅ : News h₀ env.locals h₅ nx' := (N₃.set hs₄).set hs₅
    have hst₅ : St (i + 1) h₅ := W.frame _ _ _ hst₂ fun b hb o e => hs₅.extBut b o (fun q => hLfp (q ▸ hb)) (hs₄.extBut b o (fun q => hLfp (q ▸ hb)) (up₃ b o e))
    have hsep : OwnOff (ownOf h₀ fo h₅) (nx'.map (·.1)) := by
      intro p hp b hb e
      obtain ⟨q, hq, rfl⟩ := List.mem_map.mp hb
      exact hoff' q hq (e ▸ ownOf_sub p hp)
    refine wpAny_mono (step i v0 v1 m' nx' h₅ _ (ownOf h₀ fo h₅) hlt hP2 hJ hk' hsep F₅ (N₅.append (news_ownOf hLo))) (fun f s₃ h₆ => ?_) fun _ _ e => e
    obtain ⟨rfl, h₆', tk₆, m₂, news₂, nx₂, rfl, F₆, N₆, hn₆, ho₆, hk₆, hoff₆, hJ₆⟩ := h₆
    refine ⟨n + 1 - (i + 1), by omega, h₆', tk₆, m₂, nx₂, i + 1, rfl, ?_, F₆, fun p hp => N₆ p (hn₆ p hp), hk₆, ?_, hJ₆, hlt, rfl⟩
    · exact W.frame _ _ _ hst₅ (stays_on hff hfn N₅ hk' N₆ hn₆ ho₆ hk₆)
    · intro p hp hf
      obtain ⟨o, e⟩ := hob _ _ hst₅ _ hf
      exact hoff₆ _ (mem_ownOf hf (hfn _ hf) e) p.1 (List.mem_map.mpr ⟨p, hp, rfl⟩) rfl
  · have hin : i = n := by omega
    subst hin
    refine W.done _ _ _ hst' fun h₁ tk₁ hk₁ => wpAny_execs_nil ?_
    obtain ⟨F₁, N₁⟩ := next h₁ hk₁
    exact hR h₁ tk₁ m' nx' F₁ N₁ hJ

/-- what a loop hands on, as wpAny_For asks it -/
abbrev ForR (prog : Program) (w : World) (A : Around) (env : Env) (Q : Flow → Shared → Prop) (E : Value → Shared → Prop) : Result → Shared → Prop :=
  fun r s' => match r with | .ok f => Q f s' | .error e => cameBackBy (model prog w) A env E e s'

theorem aLt {a b : Nat} (h : a < b) : @Ne Addr a b := Nat.ne_of_lt h
theorem aGt {a b : Nat} (h : b < a) : @Ne Addr a b := Nat.ne_of_gt h
theorem off_new {h₀ h : Heap} {L : Addr} {nx : List (Addr × Obj)} (N : News h₀ L h nx) {l : List Addr} (hl : ∀ a ∈ l, h.objs.size ≤ a) : ∀ p ∈ nx, p.1 ∉ l :=
  fun p hp hm => absurd (Heap.lt_size (N p hp).1) (Nat.not_lt_of_le (hl _ hm))
theorem new_free {h₀ h : Heap} {L : Addr} {m : Str → Option Value} (F : Fr h₀ L h m) {a : Addr} (ha : h.objs.size ≤ a) : h₀.get? a = none :=
  Heap.get?_none_of_le (Nat.le_trans (Nat.le_of_lt (Nat.lt_of_le_of_lt F.above F.ns.lt)) ha)

theorem enum_loop {E : Value → Shared → Prop} {Q : Flow → Shared → Prop} {xi xc : Str} {pk pv pt : Pos} {x1 : Nat} {body : List Stmt} {l : Addr} {items : Array Value} {nl : Nat} {m : Str → Option Value} {nx : List (Addr × Obj)}
    (J : Nat → (Str → Option Value) → List (Addr × Obj) → Prop) (hh : A.handled = none)
    (hxi : env.kindOf xi = some .local) (hxc : env.kindOf xc = some .local)
    (hp : (env.scope.kind == .class || (env.scope.kind == .module && env.locals != env.globals)) = false)
    (F : Fr h₀ env.locals s.heap m) (N : News h₀ env.locals s.heap nx) (hl : (l, listOf items nl) ∈ nx) (h0 : J 0 m nx)
    (step : ∀ i v t m₁ nx₁ h tk own, items[i]? = some v → J i m₁ nx₁ → (l, listOf items nl) ∈ nx₁ → OwnOff own (nx₁.map (·.1)) →
      Fr h₀ env.locals h (fun y => if y = xc then some v else if y = xi then some (.int i t) else m₁ y) → News h₀ env.locals h (nx₁ ++ own) →
      wpAny (model prog w) A (execs body env) (EndG h₀ env.locals [(l, listOf items nl)] (J (i + 1)) own { s with heap := h, toks := tk }) E { s with heap := h, toks := tk })
    (hR : ∀ h' tk m' nx', Fr h₀ env.locals h' m' → News h₀ env.locals h' nx' → J items.size m' nx' → Q .next { s with heap := h', toks := tk })
    (hE : PassesOwn (model prog w) A env E) :
    wpAny (model prog w) A (call (.type "enumerate") [.ref l]) (fun xv s₁ => wpAny (model prog w) A (pyIter xv) (fun it s₂ =>
      codeAny (model prog w) A (.forLoop (.Tuple [.Name xi pk, .Name xc pv] x1 pt) it body [] env) (ForR prog w A env Q E) s₂) E s₁) E s := by
  have hlo := (N _ hl).1
  have hlL : l ≠ env.locals := (N _ hl).2.1
  have hlt : @LT.lt Nat _ l s.heap.objs.size := Heap.lt_size hlo
  have hLt : @LT.lt Nat _ env.locals s.heap.objs.size := F.ns.lt
  refine call_enumerate_1 hlo fun h' he hit hsz hk => ?_
  refine wpAny_pyIter_enum he ?_
  have F' : Fr h₀ env.locals h' m := ⟨F.ns.at' fun o e => hk _ o e, fun b o e => hk b o (F.keep b o e), F.above⟩
  have N' : News h₀ env.locals h' nx := fun p hp => ⟨hk _ _ (N p hp).1, (N p hp).2⟩
  have hL' : h'.IsList l items := ⟨_, hk _ _ hlo, rfl, nl, rfl⟩
  have D := Draws.list (prog := prog) (w := w) (A := A.in1) hh s.heap.objs.size l (Nat.ne_of_lt hlt) items
  have W := (WalksT.enumerateD D (s.heap.objs.size + 1) (aGt (Nat.lt_succ_self _)) (fun hm => by
    rcases List.mem_cons.mp hm with e | hm
    · exact aGt (Nat.lt_succ_self _) e
    · exact aGt (Nat.lt_succ_of_lt hlt) (List.mem_singleton.mp hm)) (by simp)).toU
  refine forLoopG (s := { s with heap := h' }) [s.heap.objs.size + 1, s.heap.objs.size] [(l, listOf items nl)] J hh W (P2 := fun i v0 v1 => ∃ t, v0 = .int i t ∧ items[i]? = some v1) ?_ hxi hxc hp ?_ ?_ ?_ ?_ ⟨⟨_, he⟩, hit, hL'⟩ ?_ F' N' h0 ?_ ?_ ?_ hR
  · rintro i vals ⟨t, x, hx, rfl⟩
    exact ⟨_, _, rfl, t, rfl, hx⟩
  · intro b hb; exact hb
  · intro b hb
    simp only [List.mem_cons, List.not_mem_nil, or_false] at hb ⊢
    rcases hb with rfl | rfl | rfl
    · exact .inl (.inl rfl)
    · exact .inl (.inr rfl)
    · exact .inr ⟨_, rfl⟩
  · intro b hb
    simp only [List.mem_cons, List.not_mem_nil, or_false] at hb
    rcases hb with rfl | rfl
    · exact new_free F (Nat.le_succ _)
    · exact new_free F (Nat.le_refl _)
  · simp only [List.mem_cons, List.not_mem_nil, or_false]
    rintro (e | e)
    · exact aLt (Nat.lt_succ_of_lt hLt) e
    · exact aLt hLt e
  · rintro i h ⟨⟨old, e1⟩, ⟨o, e2, _⟩, _⟩ b hb
    simp only [List.mem_cons, List.not_mem_nil, or_false] at hb
    rcases hb with rfl | rfl
    · exact ⟨_, e1⟩
    · exact ⟨_, e2⟩
  · intro p hp
    rw [List.mem_singleton.mp hp]; exact hl
  · exact off_new N (by simp)
  · rintro i v0 v1 m₁ nx₁ h tk own hi ⟨t, rfl, hx⟩ hJ hkp hoff F₁ N₁
    exact wpAny_passesOwn hE (step i v1 t m₁ nx₁ h tk own hx hJ (hkp _ (List.mem_singleton.mpr rfl)) hoff F₁ N₁)

theorem zip_loop {E : Value → Shared → Prop} {Q : Flow → Shared → Prop} {xi xc : Str} {pk pv pt : Pos} {x1 : Nat} {body : List Stmt} {l1 l2 : Addr} {xs ys : Array Value} {n1 n2 : Nat} {m : Str → Option Value} {nx : List (Addr × Obj)}
    (J : Nat → (Str → Option Value) → List (Addr × Obj) → Prop) (hh : A.handled = none)
    (hxi : env.kindOf xi = some .local) (hxc : env.kindOf xc = some .local)
    (hp : (env.scope.kind == .class || (env.scope.kind == .module && env.locals != env.globals)) = false)
    (F : Fr h₀ env.locals s.heap m) (N : News h₀ env.locals s.heap nx) (hl1 : (l1, listOf xs n1) ∈ nx) (hl2 : (l2, listOf ys n2) ∈ nx) (h0 : J 0 m nx)
    (step : ∀ i x y m₁ nx₁ h tk own, xs[i]? = some x → ys[i]? = some y → J i m₁ nx₁ → (l1, listOf xs n1) ∈ nx₁ → (l2, listOf ys n2) ∈ nx₁ → OwnOff own (nx₁.map (·.1)) →
      Fr h₀ env.locals h (fun z => if z = xc then some y else if z = xi then some x else m₁ z) → News h₀ env.locals h (nx₁ ++ own) →
      wpAny (model prog w) A (execs body env) (EndG h₀ env.locals [(l1, listOf xs n1), (l2, listOf ys n2)] (J (i + 1)) own { s with heap := h, toks := tk }) E { s with heap := h, toks := tk })
    (hR : ∀ h' tk m' nx', Fr h₀ env.locals h' m' → News h₀ env.locals h' nx' → J (min xs.size ys.size) m' nx' → Q .next { s with heap := h', toks := tk })
    (hE : PassesOwn (model prog w) A env E) :
    wpAny (model prog w) A (call (.type "zip") [.ref l1, .ref l2]) (fun xv s₁ => wpAny (model prog w) A (pyIter xv) (fun it s₂ =>
      codeAny (model prog w) A (.forLoop (.Tuple [.Name xi pk, .Name xc pv] x1 pt) it body [] env) (ForR prog w A env Q E) s₂) E s₁) E s := by
  have h1o := (N _ hl1).1
  have h2o := (N _ hl2).1
  have hlt1 : @LT.lt Nat _ l1 s.heap.objs.size := Heap.lt_size h1o
  have hlt2 : @LT.lt Nat _ l2 s.heap.objs.size := Heap.lt_size h2o
  have hLt : @LT.lt Nat _ env.locals s.heap.objs.size := F.ns.lt
  refine call_zip_2 (xs := xs) (ys := ys) ⟨_, h1o, rfl, n1, rfl⟩ ⟨_, h2o, rfl, n2, rfl⟩ fun h' hz hTI hTO hi1 hi2 hsz hk => ?_
  have hapart : ZipApart (s.heap.objs.size + 4) (s.heap.objs.size + 2) (s.heap.objs.size + 3) s.heap.objs.size (s.heap.objs.size + 1) l1 l2 := by
    constructor <;> first | exact aLt (by omega) | exact aGt (by omega)
  have W := WalksT.zip2 (prog := prog) (w := w) hh _ _ _ _ _ l1 l2 hapart xs ys
  have F' : Fr h₀ env.locals h' m := ⟨F.ns.at' fun o e => hk _ o e, fun b o e => hk b o (F.keep b o e), F.above⟩
  have N' : News h₀ env.locals h' nx := fun p hp => ⟨hk _ _ (N p hp).1, (N p hp).2⟩
  have hst : IsZip h' (s.heap.objs.size + 4) (s.heap.objs.size + 2) (s.heap.objs.size + 3) .none ∧ IsPair h' (s.heap.objs.size + 2) (.ref s.heap.objs.size) (.ref (s.heap.objs.size + 1)) ∧ (∃ a b, IsPair h' (s.heap.objs.size + 3) a b) ∧ h'.IsListIter s.heap.objs.size l1 0 ∧ h'.IsListIter (s.heap.objs.size + 1) l2 0 ∧ h'.IsList l1 xs ∧ h'.IsList l2 ys :=
    ⟨hz, hTI, ⟨_, _, hTO⟩, hi1, hi2, ⟨_, hk _ _ h1o, rfl, n1, rfl⟩, ⟨_, hk _ _ h2o, rfl, n2, rfl⟩⟩
  refine W.self 0 _ _ _ hst ?_
  refine forLoopG (s := { s with heap := h' }) [s.heap.objs.size + 4, s.heap.objs.size + 2, s.heap.objs.size + 3, s.heap.objs.size, s.heap.objs.size + 1] [(l1, listOf xs n1), (l2, listOf ys n2)] J hh W.toU
    (P2 := fun i v0 v1 => xs[i]? = some v0 ∧ ys[i]? = some v1) ?_ hxi hxc hp ?_ ?_ ?_ ?_ hst ?_ F' N' h0 ?_ ?_ ?_ hR
  · rintro i vals ⟨x, y, hx, hy, rfl⟩
    exact ⟨x, y, rfl, hx, hy⟩
  · intro b hb
    simp only [List.mem_cons, List.not_mem_nil, or_false] at hb ⊢
    rcases hb with h | h | h | h
    · exact .inl h
    · exact .inr (.inr (.inl h))
    · exact .inr (.inr (.inr (.inl h)))
    · exact .inr (.inr (.inr (.inr h)))
  · intro b hb
    simp only [List.mem_cons, List.not_mem_nil, or_false] at hb ⊢
    rcases hb with h | h | h | h | h | rfl | rfl
    · exact .inl (.inl h)
    · exact .inl (.inr (.inl h))
    · exact .inl (.inr (.inr (.inl h)))
    · exact .inl (.inr (.inr (.inr (.inl h))))
    · exact .inl (.inr (.inr (.inr (.inr h))))
    · exact .inr ⟨_, .inl rfl⟩
    · exact .inr ⟨_, .inr rfl⟩
  · intro b hb
    simp only [List.mem_cons, List.not_mem_nil, or_false] at hb
    rcases hb with rfl | rfl | rfl | rfl | rfl <;> exact new_free F (by omega)
  · simp only [List.mem_cons, List.not_mem_nil, or_false]
    rintro (e | e | e | e | e) <;> exact aLt (by omega) e
  · rintro i h ⟨e1, e2, ⟨a, b', e3⟩, ⟨o4, e4, _⟩, ⟨o5, e5, _⟩, _, _⟩ b hb
    simp only [List.mem_cons, List.not_mem_nil, or_false] at hb
    rcases hb with rfl | rfl | rfl | rfl | rfl
    · exact ⟨_, e1⟩
    · exact ⟨_, e2⟩
    · exact ⟨_, e3⟩
    · exact ⟨_, e4⟩
    · exact ⟨_, e5⟩
  · intro p hp
    simp only [List.mem_cons, List.not_mem_nil, or_false] at hp
    rcases hp with rfl | rfl
    · exact hl1
    · exact hl2
  · refine off_new N ?_
    intro a ha
    simp only [List.mem_cons, List.not_mem_nil, or_false] at ha
    rcases ha with rfl | rfl | rfl | rfl | rfl <;> omega
  · rintro i v0 v1 m₁ nx₁ h tk own hi ⟨hx, hy⟩ hJ hkp hoff F₁ N₁
    exact wpAny_passesOwn hE (step i v0 v1 m₁ nx₁ h tk own hx hy hJ (hkp _ (by simp)) (hkp _ (by simp)) hoff F₁ N₁)

/-- a for over a list of the ledger's whose items are tuples of two of the ledger's -/
theorem pairs_loop {E : Value → Shared → Prop} {Q : Flow → Shared → Prop} {xi xc : Str} {pk pv pt : Pos} {x1 : Nat} {body : List Stmt} {l : Addr} {items : Array Value} {nl : Nat} {m : Str → Option Value} {nx : List (Addr × Obj)}
    (J : Nat → (Str → Option Value) → List (Addr × Obj) → Prop) (Ts : Nat → Addr) (v0 v1 : Nat → Value) (nt : Nat → Nat) (hh : A.handled = none)
    (hxi : env.kindOf xi = some .local) (hxc : env.kindOf xc = some .local)
    (hp : (env.scope.kind == .class || (env.scope.kind == .module && env.locals != env.globals)) = false)
    (F : Fr h₀ env.locals s.heap m) (N : News h₀ env.locals s.heap nx) (hl : (l, listOf items nl) ∈ nx)
    (hT : ∀ j, j < items.size → items[j]? = some (.ref (Ts j)) ∧ (Ts j, ({ cls := .type "tuple", data := .seq #[v0 j, v1 j] (nt j) } : Obj)) ∈ nx) (h0 : J 0 m nx)
    (step : ∀ i m₁ nx₁ h tk own, i < items.size → J i m₁ nx₁ → (l, listOf items nl) ∈ nx₁ → OwnOff own (nx₁.map (·.1)) →
      (∀ j, j < items.size → (Ts j, ({ cls := .type "tuple", data := .seq #[v0 j, v1 j] (nt j) } : Obj)) ∈ nx₁) →
      Fr h₀ env.locals h (fun y => if y = xc then some (v1 i) else if y = xi then some (v0 i) else m₁ y) → News h₀ env.locals h (nx₁ ++ own) →
      wpAny (model prog w) A (execs body env) (EndG h₀ env.locals ((l, listOf items nl) :: (List.range items.size).map fun j => (Ts j, ({ cls := .type "tuple", data := .seq #[v0 j, v1 j] (nt j) } : Obj))) (J (i + 1)) own { s with heap := h, toks := tk }) E { s with heap := h, toks := tk })
    (hR : ∀ h' tk m' nx', Fr h₀ env.locals h' m' → News h₀ env.locals h' nx' → J items.size m' nx' → Q .next { s with heap := h', toks := tk })
    (hE : PassesOwn (model prog w) A env E) :
    wpAny (model prog w) A (pyIter (.ref l)) (fun it s₂ =>
      codeAny (model prog w) A (.forLoop (.Tuple [.Name xi pk, .Name xc pv] x1 pt) it body [] env) (ForR prog w A env Q E) s₂) E s := by
  have hlo := (N _ hl).1
  have hlt : @LT.lt Nat _ l s.heap.objs.size := Heap.lt_size hlo
  have hLt : @LT.lt Nat _ env.locals s.heap.objs.size := F.ns.lt
  have hLi : s.heap.IsList l items := ⟨_, hlo, rfl, nl, rfl⟩
  refine wpAny_pyIter_list hLi ?_
  have up : ∀ b o, s.heap.get? b = some o → (s.heap.push { cls := .type "list_iterator", data := .fields #[.ref l, .int 0 0] }).get? b = some o := fun b o e => Heap.get?_push_of_some _ e
  have W := WalksU.listOfTuples (prog := prog) (w := w) hh s.heap.objs.size l (Nat.ne_of_lt hlt) items Ts (fun j => #[v0 j, v1 j]) (fun j hj => (hT j hj).1) (fun j hj => Nat.ne_of_lt (Heap.lt_size (N _ (hT j hj).2).1))
  have W' := W.bound
  refine forLoopG (s := { s with heap := s.heap.push { cls := .type "list_iterator", data := .fields #[.ref l, .int 0 0] } }) [s.heap.objs.size]
    ((l, listOf items nl) :: (List.range items.size).map fun j => (Ts j, ({ cls := .type "tuple", data := .seq #[v0 j, v1 j] (nt j) } : Obj))) J hh W'
    (P2 := fun i a b => i < items.size ∧ a = v0 i ∧ b = v1 i) ?_ hxi hxc hp ?_ ?_ ?_ ?_ ⟨⟨_, Heap.get?_push_size _ rfl, rfl, rfl⟩, hLi.at fun o e => up _ o e, fun k hk => ⟨_, up _ _ (N _ (hT k hk).2).1, rfl, _, rfl⟩⟩ ?_ (F.push _)
    (fun p hp => ⟨up _ _ (N p hp).1, (N p hp).2⟩) h0 ?_ ?_ ?_ hR
  · rintro i vals ⟨hi, rfl⟩
    exact ⟨_, _, rfl, hi, rfl, rfl⟩
  · intro b hb; exact hb
  · intro b hb
    rcases List.mem_cons.mp hb with rfl | hb
    · exact .inl (List.mem_singleton.mpr rfl)
    · rcases List.mem_cons.mp hb with rfl | hb
      · exact .inr ⟨_, List.mem_cons_self ..⟩
      · obtain ⟨j, hj, rfl⟩ := List.mem_map.mp hb
        exact .inr ⟨_, List.mem_cons_of_mem _ (List.mem_map.mpr ⟨j, hj, rfl⟩)⟩
  · intro b hb
    rw [List.mem_singleton.mp hb]
    exact new_free F (Nat.le_refl _)
  · rw [List.mem_singleton]; exact aLt hLt
  · rintro i h ⟨⟨o, e, _⟩, _⟩ b hb
    rw [List.mem_singleton.mp hb]
    exact ⟨_, e⟩
  · intro p hp
    rcases List.mem_cons.mp hp with rfl | hp
    · exact hl
    · obtain ⟨j, hj, rfl⟩ := List.mem_map.mp hp
      exact (hT j (List.mem_range.mp hj)).2
  · refine off_new N ?_
    simp
  · rintro i a b m₁ nx₁ h tk own _ ⟨hi, rfl, rfl⟩ hJ hkp hoff F₁ N₁
    exact wpAny_passesOwn hE (step i m₁ nx₁ h tk own hi hJ (hkp _ (List.mem_cons_self ..)) hoff (fun j hj => hkp _ (List.mem_cons_of_mem _ (List.mem_map.mpr ⟨j, List.mem_range.mpr hj, rfl⟩))) F₁ N₁)
end
end

section
set_option maxRecDepth 100000
def tbl : List Str := [Str.ofString "class", Str.ofString "spam", Str.ofString "print", Str.ofString "type", Str.ofString "(", Str.ofString "[", Str.ofString "]", Str.ofString ")", Str.ofString "}", Str.ofString "return", Str.ofString "match", Str.ofString "12", Str.ofString ",", Str.ofString "{", Str.ofString "_", Str.ofString "in", Str.ofString "def"]
theorem tbl_len : ∀ x ∈ tbl, 1 ≤ x.length ∧ x.length ≤ 6 := by decide +kernel
def WordsOk (ws : List Str) : Prop := ∀ x ∈ ws, x ∈ tbl
theorem WordsOk.at {ws : List Str} (h : WordsOk ws) {k : Nat} (hk : k < ws.length) : ws.getD k Str.empty ∈ tbl := by
  have e : ws.getD k Str.empty = ws[k] := by simp [List.getD_eq_getElem?_getD, hk]
  rw [e]; exact h _ (List.getElem_mem hk)
theorem WordsOk.len {ws : List Str} (h : WordsOk ws) {k : Nat} (hk : k < ws.length) : 1 ≤ (ws.getD k Str.empty).length ∧ (ws.getD k Str.empty).length ≤ 1000 := by
  have := tbl_len _ (h.at hk)
  omega
theorem WordsOk.get {ws : List Str} (h : WordsOk ws) {k : Nat} {x : Str} (hx : ws[k]? = some x) : x ∈ tbl := h x (List.mem_of_getElem? hx)
section
variable {prog : Program} {w : World} {A : Around} {E : Value → Shared → Prop} {s : Shared} {h₀ : Heap} {L : Addr} {news : List (Addr × Obj)}
theorem led_int {value slice : Expr} {G : Addr} {gv : List Value} {nG : Nat} {gs : List Int} {k : Int} {u : Tok} {Q : Value → Shared → Prop} (N : News h₀ L s.heap news) (hm : (G, listOf gv.toArray nG) ∈ news) (hi : IntsAre gv gs)
    (h0 : 0 ≤ k) (hk : k < (gs.length : Int)) (hfit : k < 2 ^ 63) (h : ∀ t, Q (.int (gs.getD k.toNat 0) t) s)
    (hs : subscripted slice false (.ref G) (.int k u) = operate [.ref G, .int k u] (getItem (.ref G) (.int k u)) := by with_unfolding_all rfl) :
    wpAny (model prog w) A (subscriptTail value slice (.ref G) (.int k u)) Q E s := by
  have hl : s.heap.IsList G gv.toArray := ⟨_, (N _ hm).1, rfl, nG, rfl⟩
  have hk' : k.toNat < gs.length := by omega
  obtain ⟨t, ht⟩ := hi.get k.toNat gs[k.toNat] (by simp [hk'])
  have e : gs.getD k.toNat 0 = gs[k.toNat] := by simp [List.getD_eq_getElem?_getD, hk']
  exact tail_any hl.typeIs slot_list_getitem.lookup (wpAny_getItem_list hl h0 hfit (by simpa using ht) (e ▸ h t)) hs
theorem led_str {value slice : Expr} {G : Addr} {gv : List Value} {nG : Nat} {ws : List Str} {k : Int} {u : Tok} {Q : Value → Shared → Prop} (N : News h₀ L s.heap news) (hm : (G, listOf gv.toArray nG) ∈ news) (hi : StrsAre gv ws)
    (h0 : 0 ≤ k) (hk : k < (ws.length : Int)) (hfit : k < 2 ^ 63) (h : ∀ t, Q (.str (ws.getD k.toNat Str.empty) t) s)
    (hs : subscripted slice false (.ref G) (.int k u) = operate [.ref G, .int k u] (getItem (.ref G) (.int k u)) := by with_unfolding_all rfl) :
    wpAny (model prog w) A (subscriptTail value slice (.ref G) (.int k u)) Q E s := by
  have hl : s.heap.IsList G gv.toArray := ⟨_, (N _ hm).1, rfl, nG, rfl⟩
  have hk' : k.toNat < ws.length := by omega
  obtain ⟨t, ht⟩ := StrsAre.at hi (j := k.toNat) (y := ws[k.toNat]) (by simp [hk'])
  have e : ws.getD k.toNat Str.empty = ws[k.toNat] := by simp [List.getD_eq_getElem?_getD, hk']
  exact tail_any hl.typeIs slot_list_getitem.lookup (wpAny_getItem_list hl h0 hfit (by simpa using ht) (e ▸ h t)) hs
theorem newTup {m : Str → Option Value} {vs : List Value} {Q : Value → Shared → Prop} (F : Fr h₀ L s.heap m) (N : News h₀ L s.heap news)
    (h : ∀ l h', Fr h₀ L h' m → News h₀ L h' ((l, ({ cls := .type "tuple", data := .seq vs.toArray } : Obj)) :: news) → (∀ p ∈ news, p.1 < l) → (∀ p ∈ news, p.1 < l) → Q (.ref l) { s with heap := h' }) (hsz : vs.length ≤ sizeLine := by size_fits) :
    wpAny (model prog w) A (newTuple vs) Q E s := newTuple_N F N (fun h' F' N' => h _ h' F' N' (fun p hp => Heap.lt_size (N p hp).1) fun p hp => Heap.lt_size (N p hp).1) hsz
theorem len_w {x : Str} {t : Tok} {Q : Value → Shared → Prop} (hx : x.length ≤ 1000) (h : Q (.int x.length (s.toks + 1)) { s with toks := s.toks + 1 + 1 }) : wpAny (model prog w) A (call (.builtin "len") [.str x t]) Q E s :=
  SBL.len (by omega) h
theorem item0_w {value slice : Expr} {x : Str} {t u : Tok} {Q : Value → Shared → Prop} (hx : 1 ≤ x.length ∧ x.length ≤ 1000)
    (h : (1 ≤ (Txt.item x 0).length ∧ (Txt.item x 0).length ≤ 1) → Q (.str (Txt.item x 0) s.toks) { s with toks := s.toks + 1 })
    (hs : subscripted slice false (.str x t) (.int 0 u) = operate [.str x t, .int 0 u] (getItem (.str x t) (.int 0 u)) := by with_unfolding_all rfl)
    (ht : ∀ r, letTemporaryGo value (.str x t) r = pure () := by intro _; with_unfolding_all rfl) :
    wpAny (model prog w) A (subscriptTail value slice (.str x t) (.int 0 u)) Q E s :=
  item_str (by decide) (by omega) (by omega) h hs ht
end
end

section
set_option maxRecDepth 100000
/-- the end of word i - 1, as the law counts it -/
def endAt (ws : List Str) (gs : List Int) : Nat → Int
  | 0 => 0
  | i + 1 => endAt ws gs i + gs.getD i 0 + ((ws.getD i Str.empty).length : Int)

def msgOf (w : Str) : Str := Str.ofString "E211 whitespace before '" ++ w ++ Str.ofString "'"

/-- is the word wd at i told, as the law asks it -/
def toldI (ws : List Str) (gs : List Int) (i : Nat) (wd : Str) : Bool :=
  decide (0 < (i : Int)) && (([Str.ofString "(", Str.ofString "["].any fun x => x == wd) && (decide (0 < gs.getD (i : Int).toNat 0) &&
    (((Txt.isalpha (Txt.item (ws.getD ((i : Int) - 1).toNat Str.empty) 0) && (!([Str.ofString "class", Str.ofString "return", Str.ofString "in", Str.ofString "def"].any fun x => x == ws.getD ((i : Int) - 1).toNat Str.empty) && (ws.getD ((i : Int) - 1).toNat Str.empty != Str.ofString "match"))) ||
      ([Str.ofString "]", Str.ofString ")", Str.ofString "}"].any fun x => x == ws.getD ((i : Int) - 1).toNat Str.empty)) &&
      (decide ((i : Int) < 2) || (ws.getD ((i : Int) - 2).toNat Str.empty != Str.ofString "class")))))
section
variable {ws : List Str} {gs : List Int} {i : Nat} {wd : Str}
theorem toldF1 (h : ¬ 0 < (i : Int)) : toldI ws gs i wd = false := by unfold toldI; rw [decide_eq_false h]; rfl
theorem toldF2 (h : ([Str.ofString "(", Str.ofString "["].any fun x => x == wd) = false) : toldI ws gs i wd = false := by unfold toldI; rw [h, Bool.false_and, Bool.and_false]
theorem toldF3 (h : ¬ 0 < gs.getD (i : Int).toNat 0) : toldI ws gs i wd = false := by unfold toldI; rw [decide_eq_false h, Bool.false_and, Bool.and_false, Bool.and_false]
theorem toldF4 (h : Txt.isalpha (Txt.item (ws.getD ((i : Int) - 1).toNat Str.empty) 0) = false) (h2 : ([Str.ofString "]", Str.ofString ")", Str.ofString "}"].any fun x => x == ws.getD ((i : Int) - 1).toNat Str.empty) = false) : toldI ws gs i wd = false := by
  unfold toldI; rw [h, h2, Bool.false_and, Bool.or_false, Bool.false_and, Bool.and_false, Bool.and_false, Bool.and_false]
theorem toldF5 (h : ([Str.ofString "class", Str.ofString "return", Str.ofString "in", Str.ofString "def"].any fun x => x == ws.getD ((i : Int) - 1).toNat Str.empty) = true) (h2 : ([Str.ofString "]", Str.ofString ")", Str.ofString "}"].any fun x => x == ws.getD ((i : Int) - 1).toNat Str.empty) = false) : toldI ws gs i wd = false := by
  unfold toldI; rw [h, h2, Bool.not_true, Bool.false_and, Bool.and_false, Bool.or_false, Bool.false_and, Bool.and_false, Bool.and_false, Bool.and_false]
theorem toldF6 (h : (ws.getD ((i : Int) - 1).toNat Str.empty != Str.ofString "match") = false) (h2 : ([Str.ofString "]", Str.ofString ")", Str.ofString "}"].any fun x => x == ws.getD ((i : Int) - 1).toNat Str.empty) = false) : toldI ws gs i wd = false := by
  unfold toldI; rw [h, h2, Bool.and_false, Bool.and_false, Bool.or_false, Bool.false_and, Bool.and_false, Bool.and_false, Bool.and_false]
theorem toldF7 (h : ¬ (i : Int) < 2) (h2 : (ws.getD ((i : Int) - 2).toNat Str.empty != Str.ofString "class") = false) : toldI ws gs i wd = false := by
  unfold toldI; rw [h2, decide_eq_false h, Bool.or_false, Bool.and_false, Bool.and_false, Bool.and_false, Bool.and_false]
def plainI (ws : List Str) (i : Nat) : Prop := (decide ((i : Int) < 2) || (ws.getD ((i : Int) - 2).toNat Str.empty != Str.ofString "class")) = true
theorem plain1 (h : (i : Int) < 2) : plainI ws i := by unfold plainI; rw [decide_eq_true h, Bool.true_or]
theorem plain2 (h : (ws.getD ((i : Int) - 2).toNat Str.empty != Str.ofString "class") = true) : plainI ws i := by unfold plainI; rw [h, Bool.or_true]
theorem toldT1 (h0 : 0 < (i : Int)) (h1 : ([Str.ofString "(", Str.ofString "["].any fun x => x == wd) = true) (h2 : 0 < gs.getD (i : Int).toNat 0)
    (h3 : Txt.isalpha (Txt.item (ws.getD ((i : Int) - 1).toNat Str.empty) 0) = true) (h4 : ([Str.ofString "class", Str.ofString "return", Str.ofString "in", Str.ofString "def"].any fun x => x == ws.getD ((i : Int) - 1).toNat Str.empty) = false)
    (h5 : (ws.getD ((i : Int) - 1).toNat Str.empty != Str.ofString "match") = true) (hp : plainI ws i) : toldI ws gs i wd = true := by
  unfold plainI at hp; unfold toldI
  rw [decide_eq_true h0, h1, decide_eq_true h2, h3, h4, h5, hp]; rfl
theorem toldT2 (h0 : 0 < (i : Int)) (h1 : ([Str.ofString "(", Str.ofString "["].any fun x => x == wd) = true) (h2 : 0 < gs.getD (i : Int).toNat 0)
    (h3 : ([Str.ofString "]", Str.ofString ")", Str.ofString "}"].any fun x => x == ws.getD ((i : Int) - 1).toNat Str.empty) = true) (hp : plainI ws i) : toldI ws gs i wd = true := by
  unfold plainI at hp; unfold toldI
  rw [decide_eq_true h0, h1, decide_eq_true h2, h3, hp, Bool.or_true]; rfl
end
def told (ws : List Str) (gs : List Int) (i : Nat) : Bool := toldI ws gs i (ws.getD i Str.empty)

def dueOne (ws : List Str) (gs : List Int) (i : Nat) : Dat := .tuple [.tuple [.int 1, .int (endAt ws gs i)], .str (msgOf (ws.getD i Str.empty))]
def dueD (ws : List Str) (gs : List Int) : Nat → List Dat
  | 0 => []
  | i + 1 => dueD ws gs i ++ if told ws gs i then [dueOne ws gs i] else []
theorem dueD_len (ws : List Str) (gs : List Int) : ∀ i, (dueD ws gs i).length ≤ i
  | 0 => Nat.le_refl _
  | i + 1 => by
    have := dueD_len ws gs i
    unfold dueD
    rw [List.length_append]
    split <;> simp <;> omega

theorem Fr.know {h₀ h : Heap} {L : Addr} {m : Str → Option Value} {x : Str} {v : Value} (hx : m x = some v) (F : Fr h₀ L h m) : Fr h₀ L h (fun y => if y = x then some v else m y) := by
  have e : (fun y => if y = x then some v else m y) = m := by
    funext y
    by_cases hy : y = x
    · rw [if_pos hy, hy, hx]
    · rw [if_neg hy]
  rw [e]; exact F

theorem Fr.know3 {h₀ h : Heap} {L : Addr} {m : Str → Option Value} {x y z : Str} {a b c : Value} (hx : m x = some a) (hy : m y = some b) (hz : m z = some c) (F : Fr h₀ L h m) :
    Fr h₀ L h (fun k => if k = x then some a else if k = y then some b else if k = z then some c else m k) := by
  have e : (fun k => if k = x then some a else if k = y then some b else if k = z then some c else m k) = m := by
    funext k
    by_cases h1 : k = x
    · rw [if_pos h1, h1, hx]
    by_cases h2 : k = y
    · rw [if_neg h1, if_pos h2, h2, hy]
    by_cases h3 : k = z
    · rw [if_neg h1, if_neg h2, if_pos h3, h3, hz]
    rw [if_neg h1, if_neg h2, if_neg h3]
  rw [e]; exact F
def TupObj (vs : List Value) : Obj := { cls := .type "tuple", data := .seq vs.toArray }

/-- what the turn of the law's loop hands back -/
def DueEnd (h₀ : Heap) (L W G D : Addr) (oW oG : Obj) (vs : List Value) (tl : List (Addr × Obj)) (yes : Bool) (e e' : Int) (msg : Str) (s₁ : Shared) (f : Flow) (s₂ : Shared) : Prop :=
  f = .next ∧ ∃ h' tk m' news' vs' c' t', s₂ = { s₁ with heap := h', toks := tk } ∧ Fr h₀ L h' m' ∧ News h₀ L h' news' ∧
    m' (Str.ofString "due") = some (.ref D) ∧ m' (Str.ofString "spot") = some (.int e' t') ∧ m' (Str.ofString "gaps") = some (.ref G) ∧ m' (Str.ofString "words") = some (.ref W) ∧
    (W, oW) ∈ news' ∧ (G, oG) ∈ news' ∧ (D, listOf vs'.toArray c') ∈ news' ∧ (∀ p ∈ tl, p ∈ news') ∧
    ((yes = false ∧ vs' = vs) ∨ (yes = true ∧ ∃ T1 T2 t1 t2 t3, vs' = vs ++ [Value.ref T2] ∧ (T2, TupObj [.ref T1, .str msg t3]) ∈ news' ∧ (T1, TupObj [.int 1 t1, .int e t2]) ∈ news' ∧ ∀ p ∈ tl, @Ne Nat p.1 T1 ∧ @Ne Nat p.1 T2))

theorem due_no {h₀ h' : Heap} {L W G D : Addr} {oW oG : Obj} {vs : List Value} {tl news' : List (Addr × Obj)} {yes : Bool} {e e' : Int} {msg : Str} {s₁ : Shared} {m' : Str → Option Value} {tk c' : Nat} {t' : Tok}
    (F : Fr h₀ L h' m') (N : News h₀ L h' news') (h1 : m' (Str.ofString "due") = some (.ref D)) (h2 : m' (Str.ofString "spot") = some (.int e' t')) (h3 : m' (Str.ofString "gaps") = some (.ref G)) (h4 : m' (Str.ofString "words") = some (.ref W))
    (g1 : (W, oW) ∈ news') (g2 : (G, oG) ∈ news') (g3 : (D, listOf vs.toArray c') ∈ news') (g4 : ∀ p ∈ tl, p ∈ news') (hy : yes = false) :
    DueEnd h₀ L W G D oW oG vs tl yes e e' msg s₁ .next { s₁ with heap := h', toks := tk } :=
  ⟨rfl, h', tk, m', news', vs, c', t', rfl, F, N, h1, h2, h3, h4, g1, g2, g3, g4, .inl ⟨hy, rfl⟩⟩
theorem due_yes {h₀ h' : Heap} {L W G D T1 T2 : Addr} {oW oG : Obj} {vs : List Value} {tl news' l1 l2 : List (Addr × Obj)} {yes : Bool} {e e' : Int} {msg : Str} {s₁ : Shared} {m' : Str → Option Value} {tk c' : Nat} {t' t1 t2 t3 : Tok}
    (F : Fr h₀ L h' m') (N : News h₀ L h' news') (h1 : m' (Str.ofString "due") = some (.ref D)) (h2 : m' (Str.ofString "spot") = some (.int e' t')) (h3 : m' (Str.ofString "gaps") = some (.ref G)) (h4 : m' (Str.ofString "words") = some (.ref W))
    (g1 : (W, oW) ∈ news') (g2 : (G, oG) ∈ news') (g3 : (D, listOf (vs.toArray.push (.ref T2)) c') ∈ news') (g4 : ∀ p ∈ tl, p ∈ news')
    (q1 : (T2, TupObj [.ref T1, .str msg t3]) ∈ news') (q2 : (T1, TupObj [.int 1 t1, .int e t2]) ∈ news') (a1 : ∀ q ∈ l1, q.1 < T1) (a2 : ∀ q ∈ l2, q.1 < T2) (s1 : ∀ p ∈ tl, p ∈ l1) (s2 : ∀ p ∈ tl, p ∈ l2) (hy : yes = true) :
    DueEnd h₀ L W G D oW oG vs tl yes e e' msg s₁ .next { s₁ with heap := h', toks := tk } :=
  ⟨rfl, h', tk, m', news', vs ++ [.ref T2], c', t', rfl, F, N, h1, h2, h3, h4, g1, g2, by rw [← List.push_toArray]; exact g3, g4, .inr ⟨hy, T1, T2, t1, t2, t3, rfl, q1, q2, fun p hp => ⟨Nat.ne_of_lt (a1 p (s1 p hp)), Nat.ne_of_lt (a2 p (s2 p hp))⟩⟩⟩

def TupsIn (tl : List (Addr × Obj)) : Prop := ∀ p ∈ tl, p.2.cls = .type "tuple"

/-- what holds of the law's loop between two turns -/
def DueJ (ws : List Str) (gs : List Int) (W G D : Addr) (oW oG : Obj) (i : Nat) (m : Str → Option Value) (nx : List (Addr × Obj)) : Prop :=
  ∃ t c vs tl, m (Str.ofString "due") = some (.ref D) ∧ m (Str.ofString "spot") = some (.int (endAt ws gs i) t) ∧ m (Str.ofString "gaps") = some (.ref G) ∧ m (Str.ofString "words") = some (.ref W) ∧
    nx = (W, oW) :: (G, oG) :: (D, listOf vs.toArray c) :: tl ∧ TupsIn tl ∧ DatAll tl vs (dueD ws gs i)

theorem DatAll.snocOf {news : List (Addr × Obj)} {vs : List Value} {ds : List Dat} {v : Value} {d : Dat} (h : DatAll news vs ds) (hv : DatIn news v d) : DatAll news (vs ++ [v]) (ds ++ [d]) := h.append (DatAll.one hv)

section
variable {prog : Program} {w : World} {A : Around} {s : Shared} {env : Env} {h₀ : Heap}

theorem due_loop {E : Value → Shared → Prop} {Q : Flow → Shared → Prop} {pk pv pt : Pos} {x1 : Nat} {body : List Stmt} {W G D : Addr} {ys : List Value} {nW : Nat} {oG : Obj} {ws : List Str} {gs : List Int} {t0 : Tok} {m : Str → Option Value} {nx0 : List (Addr × Obj)}
    (hh : A.handled = none) (hxi : env.kindOf (Str.ofString "at") = some .local) (hxc : env.kindOf (Str.ofString "word") = some .local)
    (hp : (env.scope.kind == .class || (env.scope.kind == .module && env.locals != env.globals)) = false)
    (F : Fr h₀ env.locals s.heap m) (N : News h₀ env.locals s.heap nx0) (hD : (D, listOf #[] 0) ∈ nx0) (hG : (G, oG) ∈ nx0) (hW : (W, listOf ys.toArray nW) ∈ nx0)
    (hmD : m (Str.ofString "due") = some (.ref D)) (hmS : m (Str.ofString "spot") = some (.int 0 t0)) (hmG : m (Str.ofString "gaps") = some (.ref G)) (hmW : m (Str.ofString "words") = some (.ref W))
    (hws : StrsAre ys ws)
    (step : ∀ (i : Nat) (wd : Str) t ti ts c (vs : List Value) tl h tk (u : Str → Option Value), ws[i]? = some wd → vs.length ≤ i → @Ne Nat W D → @Ne Nat G D → OwnOff tl [W, G, D] →
      Fr h₀ env.locals h (fun y => if y = Str.ofString "word" then some (.str wd t) else if y = Str.ofString "at" then some (.int i ti) else if y = Str.ofString "due" then some (.ref D) else
        if y = Str.ofString "spot" then some (.int (endAt ws gs i) ts) else if y = Str.ofString "gaps" then some (.ref G) else if y = Str.ofString "words" then some (.ref W) else u y) →
      News h₀ env.locals h ((W, listOf ys.toArray nW) :: (G, oG) :: (D, listOf vs.toArray c) :: tl) →
      wpAny (model prog w) A (execs body env) (DueEnd h₀ env.locals W G D (listOf ys.toArray nW) oG vs tl (toldI ws gs i wd) (endAt ws gs i) (endAt ws gs i + gs.getD (i : Int).toNat 0 + (wd.length : Int)) (Str.ofString "E211 whitespace before '" ++ wd ++ Str.ofString "'") { s with heap := h, toks := tk }) E { s with heap := h, toks := tk })
    (hR : ∀ h' tk m' c vs tl t, Fr h₀ env.locals h' m' → m' (Str.ofString "due") = some (.ref D) → m' (Str.ofString "spot") = some (.int (endAt ws gs ws.length) t) → m' (Str.ofString "gaps") = some (.ref G) → m' (Str.ofString "words") = some (.ref W) →
      News h₀ env.locals h' ((W, listOf ys.toArray nW) :: (G, oG) :: (D, listOf vs.toArray c) :: tl) → TupsIn tl → DatAll tl vs (dueD ws gs ws.length) → Q .next { s with heap := h', toks := tk })
    (hGc : oG.cls = .type "list") (hWD : @Ne Nat W D) (hGD : @Ne Nat G D) (hE : PassesOwn (model prog w) A env E) :
    wpAny (model prog w) A (call (.type "enumerate") [.ref W]) (fun xv s₁ => wpAny (model prog w) A (pyIter xv) (fun it s₂ =>
      codeAny (model prog w) A (.forLoop (.Tuple [.Name (Str.ofString "at") pk, .Name (Str.ofString "word") pv] x1 pt) it body [] env) (ForR prog w A env Q E) s₂) E s₁) E s := by
  have N0 : News h₀ env.locals s.heap ((W, listOf ys.toArray nW) :: (G, oG) :: (D, listOf #[] 0) :: []) := fun p hp => N p (by
    simp only [List.mem_cons, List.not_mem_nil, or_false] at hp
    rcases hp with rfl | rfl | rfl
    · exact hW
    · exact hG
    · exact hD)
  refine enum_loop (DueJ ws gs W G D (listOf ys.toArray nW) oG) hh hxi hxc hp F N0 (List.mem_cons_self ..) ⟨t0, 0, [], [], hmD, hmS, hmG, hmW, rfl, (fun _ hp => nomatch hp), DatAll.nil⟩ ?_ ?_ hE
  · rintro i v t m₁ nx₁ h tk own hv ⟨ts, c, vs, tl, h1, h2, h3, h4, rfl, htl, hds⟩ hWm hoff F₁ N₁
    have hv' : ys[i]? = some v := by simpa using hv
    obtain ⟨y, ty, rfl, hy⟩ := hws.item i v hv'
    have hlen : vs.length ≤ i := by rw [hds.length]; exact dueD_len ws gs i
    have N₂ : News h₀ env.locals h ((W, listOf ys.toArray nW) :: (G, oG) :: (D, listOf vs.toArray c) :: (tl ++ own)) := N₁
    have hoff2 : OwnOff (tl ++ own) [W, G, D] := by
      intro p hp b hb
      rcases List.mem_append.mp hp with hp | hp
      · have h5 := htl p hp
        have h6 := (N₁ p (List.mem_append.mpr (.inl (List.mem_cons_of_mem _ (List.mem_cons_of_mem _ (List.mem_cons_of_mem _ hp)))))).1
        have apart : ∀ (a : Addr) (o : Obj), (a, o) ∈ (W, listOf ys.toArray nW) :: (G, oG) :: (D, listOf vs.toArray c) :: tl → o.cls = .type "list" → p.1 ≠ a := fun a o ha hc e => by
          have h7 := (N₁ (a, o) (List.mem_append.mpr (.inl ha))).1
          rw [← e, h6] at h7
          have h8 := Option.some.inj h7
          rw [h8, hc] at h5
          exact absurd h5 (by decide)
        simp only [List.mem_cons, List.not_mem_nil, or_false] at hb
        rcases hb with rfl | rfl | rfl
        · exact apart _ (listOf ys.toArray nW) (by simp) rfl
        · exact apart _ oG (by simp) hGc
        · exact apart _ (listOf vs.toArray c) (by simp) rfl
      · refine hoff p hp b ?_
        simp only [List.mem_cons, List.not_mem_nil, or_false] at hb
        simp only [List.map_cons, List.mem_cons]
        rcases hb with rfl | rfl | rfl
        · exact .inl rfl
        · exact .inr (.inl rfl)
        · exact .inr (.inr (.inl rfl))
    have F₂ : Fr h₀ env.locals h (fun y' => if y' = Str.ofString "word" then some (.str y ty) else if y' = Str.ofString "at" then some (.int i t) else if y' = Str.ofString "due" then some (.ref D) else
        if y' = Str.ofString "spot" then some (.int (endAt ws gs i) ts) else if y' = Str.ofString "gaps" then some (.ref G) else if y' = Str.ofString "words" then some (.ref W) else m₁ y') := by
      have e : (fun y' => if y' = Str.ofString "word" then some (Value.str y ty) else if y' = Str.ofString "at" then some (.int i t) else if y' = Str.ofString "due" then some (.ref D) else
        if y' = Str.ofString "spot" then some (.int (endAt ws gs i) ts) else if y' = Str.ofString "gaps" then some (.ref G) else if y' = Str.ofString "words" then some (.ref W) else m₁ y') =
        (fun y' => if y' = Str.ofString "word" then some (Value.str y ty) else if y' = Str.ofString "at" then some (.int i t) else m₁ y') := by
        funext z
        by_cases a1 : z = Str.ofString "word"
        · simp [a1]
        by_cases a2 : z = Str.ofString "at"
        · simp [a2]
        rw [if_neg a1, if_neg a2, if_neg a1, if_neg a2]
        by_cases a3 : z = Str.ofString "due"
        · rw [if_pos a3, a3, h1]
        by_cases a4 : z = Str.ofString "spot"
        · rw [if_neg a3, if_pos a4, a4, h2]
        by_cases a5 : z = Str.ofString "gaps"
        · rw [if_neg a3, if_neg a4, if_pos a5, a5, h3]
        by_cases a6 : z = Str.ofString "words"
        · rw [if_neg a3, if_neg a4, if_neg a5, if_pos a6, a6, h4]
        rw [if_neg a3, if_neg a4, if_neg a5, if_neg a6]
      rw [e]; exact F₁
    refine wpAny_mono (step i y ty t ts c vs (tl ++ own) h tk m₁ hy hlen hWD hGD hoff2 F₂ N₂) (fun f s₂ hE => ?_) fun _ _ e => e
    have ey : ws.getD i Str.empty = y := by rw [List.getD_eq_getElem?_getD, hy]; rfl
    have e1 : toldI ws gs i y = told ws gs i := by unfold told; rw [ey]
    have e2 : endAt ws gs i + gs.getD (i : Int).toNat 0 + (y.length : Int) = endAt ws gs (i + 1) := by rw [Int.toNat_natCast]; show _ = endAt ws gs i + gs.getD i 0 + ((ws.getD i Str.empty).length : Int); rw [ey]
    have e3 : (Str.ofString "E211 whitespace before '" ++ y ++ Str.ofString "'") = msgOf (ws.getD i Str.empty) := by unfold msgOf; rw [ey]
    rw [e1, e2, e3] at hE
    obtain ⟨rfl, h', tk', m', news', vs', c', t', rfl, F', N', k1, k2, k3, k4, g1, g2, g3, g4, hcase⟩ := hE
    rcases hcase with ⟨hno, rfl⟩ | ⟨hyes, T1, T2, t1, t2, t3, rfl, q1, q2, q3⟩
    · refine ⟨rfl, h', tk', m', news', (W, listOf ys.toArray nW) :: (G, oG) :: (D, listOf vs'.toArray c') :: tl, rfl, F', N', ?_, fun p hp => g4 p (List.mem_append.mpr (.inr hp)), ?_, ?_, t', c', vs', tl, k1, k2, k3, k4, rfl, htl, ?_⟩
      · intro p hp
        rcases List.mem_cons.mp hp with rfl | hp
        · exact g1
        rcases List.mem_cons.mp hp with rfl | hp
        · exact g2
        rcases List.mem_cons.mp hp with rfl | hp
        · exact g3
        · exact g4 p (List.mem_append.mpr (.inl hp))
      · intro p hp
        rw [List.mem_singleton.mp hp]; exact List.mem_cons_self ..
      · exact hoff
      · unfold dueD; rw [hno]; simpa using hds
    · refine ⟨rfl, h', tk', m', news', (W, listOf ys.toArray nW) :: (G, oG) :: (D, listOf (vs ++ [Value.ref T2]).toArray c') :: (T2, TupObj [.ref T1, .str (msgOf (ws.getD i Str.empty)) t3]) :: (T1, TupObj [.int 1 t1, .int (endAt ws gs i) t2]) :: tl, rfl, F', N', ?_, fun p hp => g4 p (List.mem_append.mpr (.inr hp)), ?_, ?_,
        t', c', vs ++ [Value.ref T2], (T2, TupObj [.ref T1, .str (msgOf (ws.getD i Str.empty)) t3]) :: (T1, TupObj [.int 1 t1, .int (endAt ws gs i) t2]) :: tl, k1, k2, k3, k4, rfl, ?_, ?_⟩
      · intro p hp
        rcases List.mem_cons.mp hp with rfl | hp
        · exact g1
        rcases List.mem_cons.mp hp with rfl | hp
        · exact g2
        rcases List.mem_cons.mp hp with rfl | hp
        · exact g3
        rcases List.mem_cons.mp hp with rfl | hp
        · exact q1
        rcases List.mem_cons.mp hp with rfl | hp
        · exact q2
        · exact g4 p (List.mem_append.mpr (.inl hp))
      · intro p hp
        rw [List.mem_singleton.mp hp]; exact List.mem_cons_self ..
      · intro p hp b hb
        simp only [List.map_cons, List.mem_cons] at hb
        rcases hb with rfl | rfl | rfl | rfl | rfl | hb
        · exact hoff2 p (List.mem_append.mpr (.inr hp)) _ (by simp)
        · exact hoff2 p (List.mem_append.mpr (.inr hp)) _ (by simp)
        · exact hoff2 p (List.mem_append.mpr (.inr hp)) _ (by simp)
        · exact (q3 p (List.mem_append.mpr (.inr hp))).2
        · exact (q3 p (List.mem_append.mpr (.inr hp))).1
        · exact hoff p hp b (by simp only [List.map_cons, List.mem_cons]; exact .inr (.inr (.inr hb)))
      · intro p hp
        rcases List.mem_cons.mp hp with rfl | hp
        · rfl
        rcases List.mem_cons.mp hp with rfl | hp
        · rfl
        · exact htl p hp
      · unfold dueD
        rw [hyes, if_pos rfl]
        refine DatAll.snocOf (DatAll.mono (fun p hp => List.mem_cons_of_mem _ (List.mem_cons_of_mem _ hp)) hds) ?_
        unfold dueOne
        exact DatIn.tuple (n := 0) (vs := [Value.ref T1, Value.str (msgOf (ws.getD i Str.empty)) t3]) (List.mem_cons_self ..)
          (DatAll.cons (DatIn.tuple (n := 0) (vs := [Value.int 1 t1, Value.int (endAt ws gs i) t2]) (List.mem_cons_of_mem _ (List.mem_cons_self ..)) (DatAll.cons (DatIn.int _ _) (DatAll.cons (DatIn.int _ _) DatAll.nil))) (DatAll.cons (DatIn.str _ _) DatAll.nil))
  · rintro h' tk m' nx' F' N' ⟨t, c, vs, tl, h1, h2, h3, h4, rfl, htl, hds⟩
    have e : ys.toArray.size = ws.length := by simp [hws.len_eq]
    rw [e] at h2 hds
    exact hR h' tk m' c vs tl t F' h1 h2 h3 h4 N' htl hds
end
end

section
set_option maxRecDepth 100000
def Soft (tl : List (Addr × Obj)) : Prop := ∀ p ∈ tl, p.2.cls ≠ .type "list"
theorem Soft.append {a b : List (Addr × Obj)} (ha : Soft a) (hb : Soft b) : Soft (a ++ b) := fun p hp => (List.mem_append.mp hp).elim (ha p) (hb p)

/-- a loop that lets one list of the ledger grow: what holds between two turns -/
def GrowJ (cst : List (Addr × Obj)) (D : Addr) (fm : Nat → (Str → Option Value) → Prop) (R : Nat → List Value → List (Addr × Obj) → Prop) (i : Nat) (m : Str → Option Value) (nx : List (Addr × Obj)) : Prop :=
  fm i m ∧ ∃ c vs tl, nx = cst ++ (D, listOf vs.toArray c) :: tl ∧ Soft tl ∧ R i vs tl

def GrowEnd (h₀ : Heap) (L : Addr) (cst : List (Addr × Obj)) (D : Addr) (fm : (Str → Option Value) → Prop) (R : List Value → List (Addr × Obj) → Prop) (tl tlo : List (Addr × Obj)) (s₁ : Shared) (f : Flow) (s₂ : Shared) : Prop :=
  f = .next ∧ ∃ h' tk m' news' vs' c' add, s₂ = { s₁ with heap := h', toks := tk } ∧ Fr h₀ L h' m' ∧ News h₀ L h' news' ∧ fm m' ∧ (∀ p ∈ cst, p ∈ news') ∧ (D, listOf vs'.toArray c') ∈ news' ∧ (∀ p ∈ tlo, p ∈ news') ∧ (∀ p ∈ add, p ∈ news') ∧
    Soft add ∧ (∀ p ∈ tlo, ∀ q ∈ add, @Ne Nat p.1 q.1) ∧ R vs' (add ++ tl)

section
variable {h₀ h : Heap} {L D : Addr} {cst tl own : List (Addr × Obj)} {vs : List Value} {c : Nat}

theorem grow_off (N : News h₀ L h (cst ++ (D, listOf vs.toArray c) :: tl ++ own)) (hc : ∀ p ∈ cst, p.2.cls = .type "list") (hs : Soft tl) (hoff : OwnOff own ((cst ++ (D, listOf vs.toArray c) :: tl).map (·.1))) :
    OwnOff (tl ++ own) (D :: cst.map (·.1)) := by
  intro p hp b hb
  rcases List.mem_append.mp hp with hp | hp
  · have h5 := hs p hp
    have h6 := (N p (List.mem_append.mpr (.inl (List.mem_append.mpr (.inr (List.mem_cons_of_mem _ hp)))))).1
    have apart : ∀ (a : Addr) (o : Obj), (a, o) ∈ cst ++ (D, listOf vs.toArray c) :: tl → o.cls = .type "list" → p.1 ≠ a := fun a o ha hc e => by
      have h7 := (N (a, o) (List.mem_append.mpr (.inl ha))).1
      rw [← e, h6] at h7
      have h8 := Option.some.inj h7
      rw [h8] at h5
      exact h5 hc
    rcases List.mem_cons.mp hb with rfl | hb
    · exact apart _ (listOf vs.toArray c) (List.mem_append.mpr (.inr (List.mem_cons_self ..))) rfl
    · obtain ⟨q, hq, rfl⟩ := List.mem_map.mp hb
      exact apart q.1 q.2 (List.mem_append.mpr (.inl hq)) (hc q hq)
  · refine hoff p hp b ?_
    rw [List.map_append, List.map_cons]
    rcases List.mem_cons.mp hb with rfl | hb
    · exact List.mem_append.mpr (.inr (List.mem_cons_self ..))
    · exact List.mem_append.mpr (.inl hb)

theorem grow_end {fm : Nat → (Str → Option Value) → Prop} {R : Nat → List Value → List (Addr × Obj) → Prop} {kp : List (Addr × Obj)} {i : Nat} {s₁ s₂ : Shared} {f : Flow}
    (hs : Soft tl) (hk : ∀ p ∈ kp, p ∈ cst ∨ p ∈ tl) (hoff : OwnOff (tl ++ own) (D :: cst.map (·.1))) (hoff2 : OwnOff own (tl.map (·.1)))
    (h : GrowEnd h₀ L cst D (fm (i + 1)) (R (i + 1)) tl (tl ++ own) s₁ f s₂) : EndG h₀ L kp (GrowJ cst D fm R (i + 1)) own s₁ f s₂ := by
  obtain ⟨rfl, h', tk, m', news', vs', c', add, rfl, F, N, hf, g1, g2, g3, g4, ha, hn, hR⟩ := h
  refine ⟨rfl, h', tk, m', news', cst ++ (D, listOf vs'.toArray c') :: (add ++ tl), rfl, F, N, ?_, fun p hp => g3 p (List.mem_append.mpr (.inr hp)), ?_, ?_, hf, c', vs', add ++ tl, rfl, ha.append hs, hR⟩
  · intro p hp
    rcases List.mem_append.mp hp with hp | hp
    · exact g1 p hp
    rcases List.mem_cons.mp hp with rfl | hp
    · exact g2
    rcases List.mem_append.mp hp with hp | hp
    · exact g4 p hp
    · exact g3 p (List.mem_append.mpr (.inl hp))
  · intro p hp
    rcases hk p hp with h | h
    · exact List.mem_append.mpr (.inl h)
    · exact List.mem_append.mpr (.inr (List.mem_cons_of_mem _ (List.mem_append.mpr (.inr h))))
  · intro p hp b hb
    have hpo : p ∈ tl ++ own := List.mem_append.mpr (.inr hp)
    rw [List.map_append, List.map_cons, List.map_append] at hb
    rcases List.mem_append.mp hb with hb | hb
    · exact hoff p hpo b (List.mem_cons_of_mem _ hb)
    rcases List.mem_cons.mp hb with rfl | hb
    · exact hoff p hpo _ (List.mem_cons_self ..)
    rcases List.mem_append.mp hb with hb | hb
    · obtain ⟨q, hq, rfl⟩ := List.mem_map.mp hb
      exact hn p hpo q hq
    · exact hoff2 p hp b hb
end

section
variable {prog : Program} {w : World} {A : Around} {s : Shared} {env : Env} {h₀ : Heap}

theorem grow_zip {E : Value → Shared → Prop} {Q : Flow → Shared → Prop} {xi xc : Str} {pk pv pt : Pos} {x1 : Nat} {body : List Stmt} {l1 l2 D : Addr} {xs ys : Array Value} {n1 n2 c0 : Nat} {m : Str → Option Value} {cst tl0 : List (Addr × Obj)} {vs0 : List Value}
    (fm : Nat → (Str → Option Value) → Prop) (R : Nat → List Value → List (Addr × Obj) → Prop) (hh : A.handled = none)
    (hxi : env.kindOf xi = some .local) (hxc : env.kindOf xc = some .local)
    (hp : (env.scope.kind == .class || (env.scope.kind == .module && env.locals != env.globals)) = false)
    (F : Fr h₀ env.locals s.heap m) (N : News h₀ env.locals s.heap (cst ++ (D, listOf vs0.toArray c0) :: tl0)) (hl1 : (l1, listOf xs n1) ∈ cst) (hl2 : (l2, listOf ys n2) ∈ cst)
    (hfm : fm 0 m) (hs0 : Soft tl0) (hcst : ∀ p ∈ cst, p.2.cls = .type "list") (hR0 : R 0 vs0 tl0)
    (step : ∀ (i : Nat) x y (vs : List Value) c tl m₁ h tk tlo, xs[i]? = some x → ys[i]? = some y → fm i m₁ → R i vs tl → (∀ p ∈ tl, p ∈ tlo) → OwnOff tlo (D :: cst.map (·.1)) →
      Fr h₀ env.locals h (fun z => if z = xc then some y else if z = xi then some x else m₁ z) → News h₀ env.locals h (cst ++ (D, listOf vs.toArray c) :: tlo) →
      wpAny (model prog w) A (execs body env) (GrowEnd h₀ env.locals cst D (fm (i + 1)) (R (i + 1)) tl tlo { s with heap := h, toks := tk }) E { s with heap := h, toks := tk })
    (hR : ∀ h' tk m' (vs : List Value) c tl, fm (min xs.size ys.size) m' → R (min xs.size ys.size) vs tl → Soft tl → Fr h₀ env.locals h' m' → News h₀ env.locals h' (cst ++ (D, listOf vs.toArray c) :: tl) → Q .next { s with heap := h', toks := tk })
    (hE : PassesOwn (model prog w) A env E) :
    wpAny (model prog w) A (call (.type "zip") [.ref l1, .ref l2]) (fun xv s₁ => wpAny (model prog w) A (pyIter xv) (fun it s₂ =>
      codeAny (model prog w) A (.forLoop (.Tuple [.Name xi pk, .Name xc pv] x1 pt) it body [] env) (ForR prog w A env Q E) s₂) E s₁) E s := by
  refine zip_loop (GrowJ cst D fm R) hh hxi hxc hp F N (List.mem_append.mpr (.inl hl1)) (List.mem_append.mpr (.inl hl2)) ⟨hfm, c0, vs0, tl0, rfl, hs0, hR0⟩ ?_ ?_ hE
  · rintro i x y m₁ nx₁ h tk own hx hy ⟨hf, c, vs, tl, rfl, hs, hr⟩ _ _ hoff F₁ N₁
    have o1 := grow_off N₁ hcst hs hoff
    have N₂ : News h₀ env.locals h (cst ++ (D, listOf vs.toArray c) :: (tl ++ own)) := by
      rw [List.append_assoc, List.cons_append] at N₁; exact N₁
    refine wpAny_mono (step i x y vs c tl m₁ h tk (tl ++ own) hx hy hf hr (fun p hp => List.mem_append.mpr (.inl hp)) o1 F₁ N₂) (fun f s₂ he => ?_) fun _ _ e => e
    refine grow_end hs (fun p hp => ?_) o1 (fun p hp b hb => hoff p hp b ?_) he
    · left
      simp only [List.mem_cons, List.not_mem_nil, or_false] at hp
      rcases hp with rfl | rfl
      · exact hl1
      · exact hl2
    · rw [List.map_append, List.map_cons]
      exact List.mem_append.mpr (.inr (List.mem_cons_of_mem _ hb))
  · rintro h' tk m' nx' F' N' ⟨hf, c, vs, tl, rfl, hs, hr⟩
    exact hR h' tk m' vs c tl hf hr hs F' N'

theorem grow_pairs {E : Value → Shared → Prop} {Q : Flow → Shared → Prop} {xi xc : Str} {pk pv pt : Pos} {x1 : Nat} {body : List Stmt} {l D : Addr} {items : Array Value} {nl c0 : Nat} {m : Str → Option Value} {cst tl0 : List (Addr × Obj)} {vs0 : List Value}
    (fm : Nat → (Str → Option Value) → Prop) (R : Nat → List Value → List (Addr × Obj) → Prop) (Ts : Nat → Addr) (v0 v1 : Nat → Value) (nt : Nat → Nat) (hh : A.handled = none)
    (hxi : env.kindOf xi = some .local) (hxc : env.kindOf xc = some .local)
    (hp : (env.scope.kind == .class || (env.scope.kind == .module && env.locals != env.globals)) = false)
    (F : Fr h₀ env.locals s.heap m) (N : News h₀ env.locals s.heap (cst ++ (D, listOf vs0.toArray c0) :: tl0)) (hl : (l, listOf items nl) ∈ cst)
    (hT : ∀ j, j < items.size → items[j]? = some (.ref (Ts j)) ∧ (Ts j, ({ cls := .type "tuple", data := .seq #[v0 j, v1 j] (nt j) } : Obj)) ∈ tl0)
    (hRm : ∀ i vs tl, R i vs tl → ∀ p ∈ tl0, p ∈ tl)
    (hfm : fm 0 m) (hs0 : Soft tl0) (hcst : ∀ p ∈ cst, p.2.cls = .type "list") (hR0 : R 0 vs0 tl0)
    (step : ∀ (i : Nat) (vs : List Value) c tl m₁ h tk tlo, i < items.size → fm i m₁ → R i vs tl → (∀ p ∈ tl, p ∈ tlo) → OwnOff tlo (D :: cst.map (·.1)) →
      Fr h₀ env.locals h (fun z => if z = xc then some (v1 i) else if z = xi then some (v0 i) else m₁ z) → News h₀ env.locals h (cst ++ (D, listOf vs.toArray c) :: tlo) →
      wpAny (model prog w) A (execs body env) (GrowEnd h₀ env.locals cst D (fm (i + 1)) (R (i + 1)) tl tlo { s with heap := h, toks := tk }) E { s with heap := h, toks := tk })
    (hR : ∀ h' tk m' (vs : List Value) c tl, fm items.size m' → R items.size vs tl → Soft tl → Fr h₀ env.locals h' m' → News h₀ env.locals h' (cst ++ (D, listOf vs.toArray c) :: tl) → Q .next { s with heap := h', toks := tk })
    (hE : PassesOwn (model prog w) A env E) :
    wpAny (model prog w) A (pyIter (.ref l)) (fun it s₂ =>
      codeAny (model prog w) A (.forLoop (.Tuple [.Name xi pk, .Name xc pv] x1 pt) it body [] env) (ForR prog w A env Q E) s₂) E s := by
  refine pairs_loop (GrowJ cst D fm R) Ts v0 v1 nt hh hxi hxc hp F N (List.mem_append.mpr (.inl hl)) (fun j hj => ⟨(hT j hj).1, List.mem_append.mpr (.inr (List.mem_cons_of_mem _ (hT j hj).2))⟩) ⟨hfm, c0, vs0, tl0, rfl, hs0, hR0⟩ ?_ ?_ hE
  · rintro i m₁ nx₁ h tk own hi ⟨hf, c, vs, tl, rfl, hs, hr⟩ _ hoff _ F₁ N₁
    have o1 := grow_off N₁ hcst hs hoff
    have N₂ : News h₀ env.locals h (cst ++ (D, listOf vs.toArray c) :: (tl ++ own)) := by
      rw [List.append_assoc, List.cons_append] at N₁; exact N₁
    refine wpAny_mono (step i vs c tl m₁ h tk (tl ++ own) hi hf hr (fun p hp => List.mem_append.mpr (.inl hp)) o1 F₁ N₂) (fun f s₂ he => ?_) fun _ _ e => e
    refine grow_end hs (fun p hp => ?_) o1 (fun p hp b hb => hoff p hp b ?_) he
    · rcases List.mem_cons.mp hp with rfl | hp
      · exact .inl hl
      · obtain ⟨j, hj, rfl⟩ := List.mem_map.mp hp
        exact .inr (hRm _ _ _ hr _ (hT j (List.mem_range.mp hj)).2)
    · rw [List.map_append, List.map_cons]
      exact List.mem_append.mpr (.inr (List.mem_cons_of_mem _ hb))
  · rintro h' tk m' nx' F' N' ⟨hf, c, vs, tl, rfl, hs, hr⟩
    exact hR h' tk m' vs c tl hf hr hs F' N'
end
end

section
set_option maxRecDepth 100000
def lineAt (ws : List Str) (gs : List Int) : Nat → Str
  | 0 => Str.empty
  | i + 1 => lineAt ws gs i ++ Txt.mul (Str.ofString " ") (gs.getD i 0) ++ ws.getD i Str.empty
def startAt (ws : List Str) (gs : List Int) (i : Nat) : Int := endAt ws gs i + gs.getD i 0
def spotsD (ws : List Str) (gs : List Int) : Nat → List Dat
  | 0 => []
  | i + 1 => spotsD ws gs i ++ [.tuple [.str (ws.getD i Str.empty), .int (startAt ws gs i)]]
def SpotsM (W G S : Addr) (ws : List Str) (gs : List Int) (i : Nat) (m : Str → Option Value) : Prop :=
  (∃ t, m (Str.ofString "line") = some (.str (lineAt ws gs i) t)) ∧ m (Str.ofString "spots") = some (.ref S) ∧ m (Str.ofString "words") = some (.ref W) ∧ m (Str.ofString "gaps") = some (.ref G) ∧ ∃ t, m (Str.ofString "row") = some (.int 1 t)
def SpotsR (tl0 : List (Addr × Obj)) (ws : List Str) (gs : List Int) (i : Nat) (vs : List Value) (tl : List (Addr × Obj)) : Prop :=
  (∀ p ∈ tl0, p ∈ tl) ∧ DatAll tl vs (spotsD ws gs i)
theorem News.sub {h₀ h : Heap} {L : Addr} {a b : List (Addr × Obj)} (N : News h₀ L h a) (hs : ∀ p ∈ b, p ∈ a) : News h₀ L h b := fun p hp => N p (hs p hp)
theorem spotsD_len (ws : List Str) (gs : List Int) : ∀ i, (spotsD ws gs i).length = i
  | 0 => rfl
  | i + 1 => by unfold spotsD; rw [List.length_append, spotsD_len ws gs i]; rfl

/-- the end of a turn of the spots' loop -/
def SpEnd (h₀ : Heap) (L W G Dd S : Addr) (oW oG oD : Obj) (vs : List Value) (tlo : List (Addr × Obj)) (wd : Str) (line' : Str) (e : Int) (s₁ : Shared) (f : Flow) (s₂ : Shared) : Prop :=
  f = .next ∧ ∃ h' tk m' news' T t1 t2 t3 t4 c', s₂ = { s₁ with heap := h', toks := tk } ∧ Fr h₀ L h' m' ∧ News h₀ L h' news' ∧
    m' (Str.ofString "line") = some (.str line' t1) ∧ m' (Str.ofString "spots") = some (.ref S) ∧ m' (Str.ofString "words") = some (.ref W) ∧ m' (Str.ofString "gaps") = some (.ref G) ∧ m' (Str.ofString "row") = some (.int 1 t4) ∧
    (W, oW) ∈ news' ∧ (G, oG) ∈ news' ∧ (Dd, oD) ∈ news' ∧ (S, listOf (vs.toArray.push (.ref T)) c') ∈ news' ∧ (∀ p ∈ tlo, p ∈ news') ∧ (T, ({ cls := .type "tuple", data := .seq #[.str wd t2, .int e t3] } : Obj)) ∈ news' ∧ ∀ p ∈ tlo, p.1 < T

section
variable {prog : Program} {w : World} {A : Around} {s : Shared} {env : Env} {h₀ : Heap}
theorem mul1 (n : Int) : (Txt.mul (Str.ofString " ") n).length = n.toNat := by
  have h := len_mul_k1 (x := Str.ofString " ") (n := n) (by decide)
  split at h <;> omega
theorem line_start (ws : List Str) (gs : List Int) (hg : ∀ k, 0 ≤ gs.getD k 0) : ∀ i, ((lineAt ws gs i).length : Int) = endAt ws gs i
  | 0 => rfl
  | i + 1 => by
    have ih := line_start ws gs hg i
    have h1 := hg i
    unfold lineAt endAt
    rw [Str.length_append, Str.length_append]
    have e := mul1 (gs.getD i 0)
    rw [e]
    omega

theorem spots_loop {E : Value → Shared → Prop} {Q : Flow → Shared → Prop} {pk pv pt : Pos} {x1 : Nat} {body : List Stmt} {W G Dd S : Addr} {ys gv dv : List Value} {nW nG nD : Nat} {ws : List Str} {gs : List Int} {t0 : Addr × Obj} {tt tr : Tok} {m : Str → Option Value} {tl0 : List (Addr × Obj)}
    (hh : A.handled = none) (hxi : env.kindOf (Str.ofString "word") = some .local) (hxc : env.kindOf (Str.ofString "gap") = some .local)
    (hp : (env.scope.kind == .class || (env.scope.kind == .module && env.locals != env.globals)) = false)
    (F : Fr h₀ env.locals s.heap m) (N : News h₀ env.locals s.heap (t0 :: (S, listOf #[] 0) :: (W, listOf ys.toArray nW) :: (G, listOf gv.toArray nG) :: (Dd, listOf dv.toArray nD) :: tl0))
    (m1 : m (Str.ofString "line") = some (.str (Str.ofString "") tt)) (m2 : m (Str.ofString "spots") = some (.ref S)) (m3 : m (Str.ofString "words") = some (.ref W)) (m4 : m (Str.ofString "gaps") = some (.ref G)) (m5 : m (Str.ofString "row") = some (.int 1 tr))
    (hws : StrsAre ys ws) (hgs : IntsAre gv gs) (hlen : gs.length = ws.length) (hg0 : ∀ k, 0 ≤ gs.getD k 0) (htl : TupsIn tl0)
    (step : ∀ (i : Nat) (wd : Str) (gp : Int) t tg tli tr c (vs : List Value) tlo h tk (u : Str → Option Value), ws[i]? = some wd → gs[i]? = some gp → vs.length = i → @Ne Nat W S → @Ne Nat G S → @Ne Nat Dd S → OwnOff tlo [S, W, G, Dd] →
      Fr h₀ env.locals h (fun y => if y = Str.ofString "gap" then some (.int gp tg) else if y = Str.ofString "word" then some (.str wd t) else if y = Str.ofString "line" then some (.str (lineAt ws gs i) tli) else
        if y = Str.ofString "spots" then some (.ref S) else if y = Str.ofString "words" then some (.ref W) else if y = Str.ofString "gaps" then some (.ref G) else if y = Str.ofString "row" then some (.int 1 tr) else u y) →
      News h₀ env.locals h ((W, listOf ys.toArray nW) :: (G, listOf gv.toArray nG) :: (Dd, listOf dv.toArray nD) :: (S, listOf vs.toArray c) :: tlo) →
      wpAny (model prog w) A (execs body env) (SpEnd h₀ env.locals W G Dd S (listOf ys.toArray nW) (listOf gv.toArray nG) (listOf dv.toArray nD) vs tlo wd (lineAt ws gs i ++ Txt.mul (Str.ofString " ") gp ++ wd) (startAt ws gs i) { s with heap := h, toks := tk }) E { s with heap := h, toks := tk })
    (hR : ∀ h' tk m' (vs : List Value) c tl, SpotsM W G S ws gs ws.length m' → (∀ p ∈ tl0, p ∈ tl) → DatAll tl vs (spotsD ws gs ws.length) → Soft tl → Fr h₀ env.locals h' m' →
      News h₀ env.locals h' ((W, listOf ys.toArray nW) :: (G, listOf gv.toArray nG) :: (Dd, listOf dv.toArray nD) :: (S, listOf vs.toArray c) :: tl) → Q .next { s with heap := h', toks := tk })
    (n1 : @Ne Nat W S) (n2 : @Ne Nat G S) (n3 : @Ne Nat Dd S) (hE : PassesOwn (model prog w) A env E) :
    wpAny (model prog w) A (call (.type "zip") [.ref W, .ref G]) (fun xv s₁ => wpAny (model prog w) A (pyIter xv) (fun it s₂ =>
      codeAny (model prog w) A (.forLoop (.Tuple [.Name (Str.ofString "word") pk, .Name (Str.ofString "gap") pv] x1 pt) it body [] env) (ForR prog w A env Q E) s₂) E s₁) E s := by
  have N0 : News h₀ env.locals s.heap ([(W, listOf ys.toArray nW), (G, listOf gv.toArray nG), (Dd, listOf dv.toArray nD)] ++ (S, listOf ([] : List Value).toArray 0) :: tl0) := fun p hp => N p (by
    simp only [List.cons_append, List.nil_append, List.mem_cons] at hp ⊢
    rcases hp with h | h | h | h | h
    · exact .inr (.inr (.inl h))
    · exact .inr (.inr (.inr (.inl h)))
    · exact .inr (.inr (.inr (.inr (.inl h))))
    · exact .inr (.inl h)
    · exact .inr (.inr (.inr (.inr (.inr h)))))
  have hsz : min ys.toArray.size gv.toArray.size = ws.length := by
    rw [List.size_toArray, List.size_toArray, hws.len_eq, hgs.length, hlen, Nat.min_self]
  refine grow_zip (SpotsM W G S ws gs) (SpotsR tl0 ws gs) hh hxi hxc hp F N0 (List.Mem.head _) (List.Mem.tail _ (List.Mem.head _)) ⟨⟨tt, m1⟩, m2, m3, m4, tr, m5⟩ (fun p hp h => by rw [htl p hp] at h; exact absurd h (by decide)) ?_ ⟨fun _ h => h, DatAll.nil⟩ ?_ ?_ hE
  · intro p hp
    simp only [List.mem_cons, List.not_mem_nil, or_false] at hp
    rcases hp with rfl | rfl | rfl <;> rfl
  · rintro i x y vs c tl m₁ h tk tlo hx hy ⟨⟨tli, k1⟩, k2, k3, k4, tr', k5⟩ ⟨hsub, hds⟩ htlo hoff F₁ N₁
    obtain ⟨wd, t, rfl, hw⟩ := hws.item i x (by simpa using hx)
    have hi : i < gs.length := by rw [hlen]; exact (List.getElem?_eq_some_iff.mp hw).1
    obtain ⟨tg, hgx⟩ := hgs.get i gs[i] (List.getElem?_eq_getElem hi)
    have hy' : gv[i]? = some y := by simpa using hy
    rw [hgx] at hy'
    obtain rfl := Option.some.inj hy'
    have eg : gs.getD i 0 = gs[i] := by rw [List.getD_eq_getElem?_getD, List.getElem?_eq_getElem hi]; rfl
    have ew : ws.getD i Str.empty = wd := by rw [List.getD_eq_getElem?_getD, hw]; rfl
    have F₂ : Fr h₀ env.locals h (fun y => if y = Str.ofString "gap" then some (.int gs[i] tg) else if y = Str.ofString "word" then some (.str wd t) else if y = Str.ofString "line" then some (.str (lineAt ws gs i) tli) else
        if y = Str.ofString "spots" then some (.ref S) else if y = Str.ofString "words" then some (.ref W) else if y = Str.ofString "gaps" then some (.ref G) else if y = Str.ofString "row" then some (.int 1 tr') else m₁ y) := by
      have e : (fun y => if y = Str.ofString "gap" then some (Value.int gs[i] tg) else if y = Str.ofString "word" then some (.str wd t) else if y = Str.ofString "line" then some (.str (lineAt ws gs i) tli) else
        if y = Str.ofString "spots" then some (.ref S) else if y = Str.ofString "words" then some (.ref W) else if y = Str.ofString "gaps" then some (.ref G) else if y = Str.ofString "row" then some (.int 1 tr') else m₁ y) =
        (fun y => if y = Str.ofString "gap" then some (Value.int gs[i] tg) else if y = Str.ofString "word" then some (.str wd t) else m₁ y) := by
        funext z
        by_cases a1 : z = Str.ofString "gap"
        · rw [if_pos a1, if_pos a1]
        by_cases a2 : z = Str.ofString "word"
        · rw [if_neg a1, if_neg a1, if_pos a2, if_pos a2]
        rw [if_neg a1, if_neg a1, if_neg a2, if_neg a2]
        by_cases a3 : z = Str.ofString "line"
        · rw [if_pos a3, a3, k1]
        by_cases a4 : z = Str.ofString "spots"
        · rw [if_neg a3, if_pos a4, a4, k2]
        by_cases a5 : z = Str.ofString "words"
        · rw [if_neg a3, if_neg a4, if_pos a5, a5, k3]
        by_cases a6 : z = Str.ofString "gaps"
        · rw [if_neg a3, if_neg a4, if_neg a5, if_pos a6, a6, k4]
        by_cases a7 : z = Str.ofString "row"
        · rw [if_neg a3, if_neg a4, if_neg a5, if_neg a6, if_pos a7, a7, k5]
        rw [if_neg a3, if_neg a4, if_neg a5, if_neg a6, if_neg a7]
      rw [e]; exact F₁
    have hvl : vs.length = i := by rw [hds.length, spotsD_len]
    refine wpAny_mono (step i wd gs[i] t tg tli tr' c vs tlo h tk m₁ hw (List.getElem?_eq_getElem hi) hvl n1 n2 n3 hoff F₂ N₁) (fun f s₂ hE => ?_) fun _ _ e => e
    obtain ⟨rfl, h', tk', m', news', T, t1, t2, t3, t4, c', rfl, F', N', q1, q2, q3, q4, q5, g1, g2, g3, g4, g5, g6, g7⟩ := hE
    refine ⟨rfl, h', tk', m', news', vs ++ [Value.ref T], c', [(T, ({ cls := .type "tuple", data := .seq #[.str wd t2, .int (startAt ws gs i) t3] } : Obj))], rfl, F', N', ⟨⟨t1, ?_⟩, q2, q3, q4, t4, q5⟩, ?_, ?_, g5, ?_, ?_, ?_, fun p hp => List.mem_append.mpr (.inr (hsub p hp)), ?_⟩
    · unfold lineAt; rw [eg, ew]; exact q1
    · intro p hp
      simp only [List.mem_cons, List.not_mem_nil, or_false] at hp
      rcases hp with rfl | rfl | rfl
      · exact g1
      · exact g2
      · exact g3
    · rw [← List.push_toArray]; exact g4
    · intro p hp; rw [List.mem_singleton.mp hp]; exact g6
    · intro p hp; rw [List.mem_singleton.mp hp]; exact (show ¬ (Value.type "tuple" = Value.type "list") by decide)
    · intro p hp q hq; rw [List.mem_singleton.mp hq]; exact Nat.ne_of_lt (g7 p hp)
    · unfold spotsD
      rw [ew]
      exact DatAll.snocOf (DatAll.mono (fun p hp => List.mem_append.mpr (.inr hp)) hds)
        (DatIn.tuple (n := 0) (vs := [Value.str wd t2, Value.int (startAt ws gs i) t3]) (List.mem_append.mpr (.inl (List.mem_cons_self ..))) (DatAll.cons (DatIn.str _ _) (DatAll.cons (DatIn.int _ _) DatAll.nil)))
  · rintro h' tk m' vs c tl hm ⟨hsub, hds⟩ hs F' N'
    rw [hsz] at hm hds
    exact hR h' tk m' vs c tl hm hsub hds hs F' N'
end
end

section
set_option maxRecDepth 100000
/-- what is known of the words and of the blanks ahead of them -/
structure Menu (ws : List Str) (gs : List Int) : Prop where
  len : gs.length = ws.length
  le : ws.length ≤ 12
  ge : 2 ≤ ws.length
  ok : WordsOk ws
  g0 : ∀ k, 0 ≤ gs.getD k 0 ∧ gs.getD k 0 ≤ 2
theorem menu_of {c : Int → Int} {n : Int} {ws : List Str} {gs : List Int} (h0 : 0 ≤ n) (h1 : n < 11)
    (hw : ws = List.map (fun a => if ((c (1 + 2 * a)).fmod 17).toNat < 1 + 1 + 1 + 1 + 1 + 1 + 1 + 1 + 1 + 1 + 1 + 1 + 1 + 1 + 1 + 1 + 1 then tbl.getD ((c (1 + 2 * a)).fmod 17).toNat Str.empty else Str.empty) (rangeKs 0 (2 + n - 0).toNat))
    (hg : gs = [0] ++ List.map (fun k => (c (2 + 2 * k)).fmod 3) (rangeKs 0 (2 + n - 1 - 0).toNat)) : Menu ws gs := by
  have lw : ws.length = (2 + n - 0).toNat := by rw [hw, List.length_map, rangeKs_length]
  have lg : gs.length = (2 + n - 1 - 0).toNat + 1 := by rw [hg, List.length_append, List.length_map, rangeKs_length]; exact Nat.add_comm ..
  refine ⟨by omega, by omega, by omega, ?_, ?_⟩
  · intro x hx
    rw [hw] at hx
    obtain ⟨a, _, rfl⟩ := List.mem_map.mp hx
    have l0 := fmod_lo (c (1 + 2 * a)) (n := 17) (by decide)
    have l1 := fmod_hi (c (1 + 2 * a)) (n := 17) (by decide)
    have l2 : ((c (1 + 2 * a)).fmod 17).toNat < tbl.length := by show _ < 17; omega
    split
    · rw [List.getD_eq_getElem?_getD, List.getElem?_eq_getElem l2]
      exact List.getElem_mem l2
    · rename_i h; exact absurd l2 h
  · intro k
    by_cases hk : k < gs.length
    · have hm : gs.getD k 0 ∈ gs := by rw [List.getD_eq_getElem?_getD, List.getElem?_eq_getElem hk]; exact List.getElem_mem hk
      rw [hg] at hm
      rcases List.mem_append.mp hm with hm | hm
      · rw [hg, List.mem_singleton.mp hm]; decide
      · obtain ⟨a, _, ha⟩ := List.mem_map.mp hm
        have l0 := fmod_lo (c (2 + 2 * a)) (n := 3) (by decide)
        have l1 := fmod_hi (c (2 + 2 * a)) (n := 3) (by decide)
        rw [hg, ← ha]; omega
    · rw [List.getD_eq_getElem?_getD, List.getElem?_eq_none (Nat.le_of_not_lt hk)]; decide
theorem Menu.gap {ws : List Str} {gs : List Int} (M : Menu ws gs) {i : Nat} {g : Int} (h : gs[i]? = some g) : 0 ≤ g ∧ g ≤ 2 := by
  have := M.g0 i
  rw [List.getD_eq_getElem?_getD, h] at this
  exact this
theorem Menu.word {ws : List Str} {gs : List Int} (M : Menu ws gs) {i : Nat} {x : Str} (h : ws[i]? = some x) : x.length ≤ 10 := Nat.le_trans (tbl_len _ (M.ok.get h)).2 (by decide)
theorem Menu.blank {ws : List Str} {gs : List Int} (M : Menu ws gs) {i : Nat} {g : Int} (h : gs[i]? = some g) : (Txt.mul (Str.ofString " ") g).length ≤ 2 := by
  rw [mul1]; have := M.gap h; omega
theorem line_le {ws : List Str} {gs : List Int} (M : Menu ws gs) : ∀ i, i ≤ ws.length → (lineAt ws gs i).length ≤ 10 * i
  | 0, _ => Nat.le_refl _
  | i + 1, h => by
    have ih := line_le M i (Nat.le_of_succ_le h)
    have h1 := M.g0 i
    have h2 := tbl_len _ (M.ok.at (Nat.lt_of_succ_le h))
    unfold lineAt
    rw [Str.length_append, Str.length_append, mul1]
    omega
theorem Menu.line {ws : List Str} {gs : List Int} (M : Menu ws gs) {i : Nat} (h : i ≤ ws.length) : (lineAt ws gs i).length ≤ 120 := by
  have := line_le M i h; have := M.le; omega
theorem Menu.start {ws : List Str} {gs : List Int} (M : Menu ws gs) {i : Nat} {g : Int} (h : gs[i]? = some g) : ((lineAt ws gs i ++ Txt.mul (Str.ofString " ") g).length : Int) = startAt ws gs i := by
  have e : gs.getD i 0 = g := by rw [List.getD_eq_getElem?_getD, h]; rfl
  have h1 := M.gap h
  have h2 := line_start ws gs (fun k => (M.g0 k).1) i
  have h3 := mul1 g
  unfold startAt
  rw [Str.length_append, e]
  omega
theorem sp_end {h₀ h' : Heap} {L W G Dd S T : Addr} {oW oG oD : Obj} {vs : List Value} {tlo news' l1 : List (Addr × Obj)} {wd line' : Str} {e e' : Int} {s₁ : Shared} {m' : Str → Option Value} {tk c' : Nat} {t1 t2 t3 t4 : Tok}
    (F : Fr h₀ L h' m') (N : News h₀ L h' news') (h1 : m' (Str.ofString "line") = some (.str line' t1)) (h2 : m' (Str.ofString "spots") = some (.ref S)) (h3 : m' (Str.ofString "words") = some (.ref W)) (h4 : m' (Str.ofString "gaps") = some (.ref G)) (h5 : m' (Str.ofString "row") = some (.int 1 t4))
    (g1 : (W, oW) ∈ news') (g2 : (G, oG) ∈ news') (g3 : (Dd, oD) ∈ news') (g4 : (S, listOf (vs.toArray.push (.ref T)) c') ∈ news') (g5 : ∀ p ∈ tlo, p ∈ news') (g6 : (T, ({ cls := .type "tuple", data := .seq #[.str wd t2, .int e' t3] } : Obj)) ∈ news')
    (a1 : ∀ p ∈ l1, p.1 < T) (a2 : ∀ p ∈ tlo, p ∈ l1) (he : e' = e) :
    SpEnd h₀ L W G Dd S oW oG oD vs tlo wd line' e s₁ .next { s₁ with heap := h', toks := tk } :=
  ⟨rfl, h', tk, m', news', T, t1, t2, t3, t4, c', rfl, F, N, h1, h2, h3, h4, h5, g1, g2, g3, g4, g5, he ▸ g6, fun p hp => a1 p (a2 p hp)⟩
end

section
set_option maxRecDepth 100000
def kindV (wd : Str) : Int := if Txt.item wd 0 = Str.ofString "#" then 61 else if (Txt.isalpha (Txt.item wd 0) = true ∨ Txt.item wd 0 = Str.ofString "_") then 1 else if Txt.isdigit (Txt.item wd 0) = true then 2 else 54
/-- the hard words; the one that a hand-in's text may not bear (its row is read as a module's) is given by its codes -/
def kwHard : List Str := ["False", "None", "True", "and", "as", "assert", "async", "await", "break", "class", "continue", "def", "del", "elif", "else", "except", "finally", "for", "from", "global", "if"].map Str.ofString ++ ⟨#[105, 109, 112, 111, 114, 116]⟩ :: ["in", "is", "lambda", "nonlocal", "not", "or", "pass", "raise", "return", "try", "while", "with", "yield"].map Str.ofString
def kwSoft : List Str := ["_", "case", "match", "type"].map Str.ofString
abbrev occE (x b : Str) : Bool := (Builtin.Str.occurrences x b 0 x.length 1).isEmpty
def openB (b : Str) : Bool := [Str.ofString "(", Str.ofString "["].any fun x => x == b
def aheadB (a : Str) : Bool := (Txt.isalpha (Txt.item a 0) && (!([Str.ofString "class", Str.ofString "return", Str.ofString "in", Str.ofString "def"].any fun x => x == a) && (a != Str.ofString "match"))) || ([Str.ofString "]", Str.ofString ")", Str.ofString "}"].any fun x => x == a)
theorem told_eq (ws : List Str) (gs : List Int) {i : Nat} (h : 1 ≤ i) : told ws gs i = (openB (ws.getD i Str.empty) && (decide (0 < gs.getD i 0) && (aheadB (ws.getD (i - 1) Str.empty) && (decide ((i : Int) < 2) || (ws.getD (i - 2) Str.empty != Str.ofString "class"))))) := by
  unfold told toldI
  rw [decide_eq_true (show 0 < (i : Int) by omega), Bool.true_and, show ((i : Int) - 1).toNat = i - 1 by omega, show ((i : Int) - 2).toNat = i - 2 by omega, Int.toNat_natCast]
  rfl
theorem open_fin : ∀ b ∈ tbl, (kindV b ≠ 54 → openB b = false) ∧ (occE (Str.ofString "([") b = true → openB b = false) ∧ (kindV b = 54 → occE (Str.ofString "([") b = false → openB b = true) := by decide +kernel
theorem ahead_fin : ∀ a ∈ tbl, (kwHard.any (fun x => x == a) = true → aheadB a = false) ∧ (kwSoft.any (fun x => x == a) = true → (a == Str.ofString "type") = false → aheadB a = false) ∧ (kindV a ≠ 1 → occE (Str.ofString "}])") a = true → aheadB a = false) ∧
    (kindV a = 1 → kwHard.any (fun x => x == a) = false → (a == Str.ofString "type") = true → aheadB a = true) ∧ (kindV a = 1 → kwHard.any (fun x => x == a) = false → kwSoft.any (fun x => x == a) = false → aheadB a = true) ∧
    (kindV a ≠ 1 → occE (Str.ofString "}])") a = false → aheadB a = true) := by decide +kernel
section
variable {ws : List Str} {gs : List Int} {i : Nat} (M : Menu ws gs) (h1 : 1 ≤ i) (hi : i < ws.length)
include M h1 hi
theorem tnKind (h : kindV (ws.getD i Str.empty) ≠ 54) : false = told ws gs i := by
  rw [told_eq ws gs h1, (open_fin _ (M.ok.at hi)).1 h, Bool.false_and]
theorem tnOpen (h : occE (Str.ofString "([") (ws.getD i Str.empty) = true) : false = told ws gs i := by
  rw [told_eq ws gs h1, (open_fin _ (M.ok.at hi)).2.1 h, Bool.false_and]
theorem tnGap (h : startAt ws gs i = startAt ws gs (i - 1) + ((ws.getD (i - 1) Str.empty).length : Int)) : false = told ws gs i := by
  have e : gs.getD i 0 = 0 := by
    obtain ⟨j, rfl⟩ : ∃ j, i = j + 1 := ⟨i - 1, by omega⟩
    have : endAt ws gs (j + 1) = endAt ws gs j + gs.getD j 0 + ((ws.getD j Str.empty).length : Int) := rfl
    unfold startAt at h
    rw [Nat.add_sub_cancel] at h
    omega
  rw [told_eq ws gs h1, e, show decide ((0 : Int) < 0) = false from rfl, Bool.false_and, Bool.and_false]
theorem tnAhead (h : aheadB (ws.getD (i - 1) Str.empty) = false) : false = told ws gs i := by
  rw [told_eq ws gs h1, h, Bool.false_and, Bool.and_false, Bool.and_false]
theorem tnHard (h : kwHard.any (fun x => x == ws.getD (i - 1) Str.empty) = true) : false = told ws gs i :=
  tnAhead M h1 hi ((ahead_fin _ (M.ok.at (Nat.lt_of_le_of_lt (Nat.sub_le i 1) hi))).1 h)
theorem tnSoft (h : kwSoft.any (fun x => x == ws.getD (i - 1) Str.empty) = true) (h2 : (ws.getD (i - 1) Str.empty == Str.ofString "type") = false) : false = told ws gs i :=
  tnAhead M h1 hi ((ahead_fin _ (M.ok.at (Nat.lt_of_le_of_lt (Nat.sub_le i 1) hi))).2.1 h h2)
theorem tnClose (h : kindV (ws.getD (i - 1) Str.empty) ≠ 1) (h2 : occE (Str.ofString "}])") (ws.getD (i - 1) Str.empty) = true) : false = told ws gs i :=
  tnAhead M h1 hi ((ahead_fin _ (M.ok.at (Nat.lt_of_le_of_lt (Nat.sub_le i 1) hi))).2.2.1 h h2)
theorem tnClass (h : ¬ (i : Int) < 2) (h2 : (ws.getD (i - 2) Str.empty != Str.ofString "class") = false) : false = told ws gs i := by
  rw [told_eq ws gs h1, h2, decide_eq_false h, Bool.or_false, Bool.and_false, Bool.and_false, Bool.and_false]
def Plain2 (ws : List Str) (i : Nat) : Prop := (decide ((i : Int) < 2) || (ws.getD (i - 2) Str.empty != Str.ofString "class")) = true
theorem tyAll (k : kindV (ws.getD i Str.empty) = 54) (o : occE (Str.ofString "([") (ws.getD i Str.empty) = false) (g : startAt ws gs i ≠ startAt ws gs (i - 1) + ((ws.getD (i - 1) Str.empty).length : Int)) (p : Plain2 ws i) (h : aheadB (ws.getD (i - 1) Str.empty) = true) : true = told ws gs i := by
  have e : 0 < gs.getD i 0 := by
    obtain ⟨j, rfl⟩ : ∃ j, i = j + 1 := ⟨i - 1, by omega⟩
    have : endAt ws gs (j + 1) = endAt ws gs j + gs.getD j 0 + ((ws.getD j Str.empty).length : Int) := rfl
    have h0 := (M.g0 (j + 1)).1
    unfold startAt at g
    rw [Nat.add_sub_cancel] at g
    omega
  unfold Plain2 at p
  rw [told_eq ws gs h1, (open_fin _ (M.ok.at hi)).2.2 k o, h, p, decide_eq_true e]; rfl
theorem taType (k : kindV (ws.getD (i - 1) Str.empty) = 1) (a : kwHard.any (fun x => x == ws.getD (i - 1) Str.empty) = false) (b : (ws.getD (i - 1) Str.empty == Str.ofString "type") = true) : aheadB (ws.getD (i - 1) Str.empty) = true :=
  (ahead_fin _ (M.ok.at (Nat.lt_of_le_of_lt (Nat.sub_le i 1) hi))).2.2.2.1 k a b
theorem taName (k : kindV (ws.getD (i - 1) Str.empty) = 1) (a : kwHard.any (fun x => x == ws.getD (i - 1) Str.empty) = false) (b : kwSoft.any (fun x => x == ws.getD (i - 1) Str.empty) = false) : aheadB (ws.getD (i - 1) Str.empty) = true :=
  (ahead_fin _ (M.ok.at (Nat.lt_of_le_of_lt (Nat.sub_le i 1) hi))).2.2.2.2.1 k a b
theorem taClose (k : kindV (ws.getD (i - 1) Str.empty) ≠ 1) (b : occE (Str.ofString "}])") (ws.getD (i - 1) Str.empty) = false) : aheadB (ws.getD (i - 1) Str.empty) = true :=
  (ahead_fin _ (M.ok.at (Nat.lt_of_le_of_lt (Nat.sub_le i 1) hi))).2.2.2.2.2 k b
end
theorem pl1 {ws : List Str} {i : Nat} (h : (i : Int) < 2) : Plain2 ws i := by unfold Plain2; rw [decide_eq_true h, Bool.true_or]
theorem pl2 {ws : List Str} {i : Nat} (h : (ws.getD (i - 2) Str.empty != Str.ofString "class") = true) : Plain2 ws i := by unfold Plain2; rw [h, Bool.or_true]
end

section
set_option maxRecDepth 100000
/-- a Token as an object -/
def tokO (C dx : Addr) (k : Int) (wd : Str) (P1 P2 : Addr) (ln : Str) (t1 t2 t3 : Tok) : Obj :=
  { cls := .ref C, dict := some dx, data := .seq #[.int k t1, .str wd t2, .ref P1, .ref P2, .str ln t3] }
def pairO (a b : Int) (t1 t2 : Tok) : Obj := { cls := .type "tuple", data := .seq #[.int a t1, .int b t2] }
/-- the value is the token of the i-th word -/
def TokAt (C : Addr) (kv : Str → Int) (ws : List Str) (gs : List Int) (tl : List (Addr × Obj)) (i : Nat) (v : Value) : Prop :=
  ∃ T dx P1 P2 ln t1 t2 t3 u1 u2 u3 u4, v = .ref T ∧ (T, tokO C dx (kv (ws.getD i Str.empty)) (ws.getD i Str.empty) P1 P2 ln t1 t2 t3) ∈ tl ∧
    (P1, pairO 1 (startAt ws gs i) u1 u2) ∈ tl ∧ (P2, pairO 1 (startAt ws gs i + ((ws.getD i Str.empty).length : Int)) u3 u4) ∈ tl
def ToksR (C : Addr) (kv : Str → Int) (tl0 : List (Addr × Obj)) (ws : List Str) (gs : List Int) (i : Nat) (vs : List Value) (tl : List (Addr × Obj)) : Prop :=
  (∀ p ∈ tl0, p ∈ tl) ∧ vs.length = i ∧ ∀ j v, vs[j]? = some v → TokAt C kv ws gs tl j v
theorem TokAt.mono {C : Addr} {kv : Str → Int} {ws : List Str} {gs : List Int} {a b : List (Addr × Obj)} {i : Nat} {v : Value} (hs : ∀ p ∈ a, p ∈ b) (h : TokAt C kv ws gs a i v) : TokAt C kv ws gs b i v := by
  obtain ⟨T, dx, P1, P2, ln, t1, t2, t3, u1, u2, u3, u4, e, h1, h2, h3⟩ := h
  exact ⟨T, dx, P1, P2, ln, t1, t2, t3, u1, u2, u3, u4, e, hs _ h1, hs _ h2, hs _ h3⟩
theorem ToksR.snoc {C : Addr} {kv : Str → Int} {tl0 tl add : List (Addr × Obj)} {ws : List Str} {gs : List Int} {i : Nat} {vs : List Value} {v : Value} (h : ToksR C kv tl0 ws gs i vs tl) (hv : TokAt C kv ws gs add i v) : ToksR C kv tl0 ws gs (i + 1) (vs ++ [v]) (add ++ tl) := by
  refine ⟨fun p hp => List.mem_append.mpr (.inr (h.1 p hp)), by rw [List.length_append, h.2.1]; rfl, fun j u hj => ?_⟩
  by_cases hlt : j < vs.length
  · rw [List.getElem?_append_left hlt] at hj
    exact (h.2.2 j u hj).mono fun p hp => List.mem_append.mpr (.inr hp)
  · rw [List.getElem?_append_right (Nat.le_of_not_lt hlt)] at hj
    have h1 : j - vs.length = 0 := by
      have := (List.getElem?_eq_some_iff.mp hj).1
      simp only [List.length_cons, List.length_nil] at this
      omega
    rw [h1] at hj
    have e : j = i := by have := h.2.1; omega
    subst e
    rw [← Option.some.inj hj]
    exact hv.mono fun p hp => List.mem_append.mpr (.inl hp)

/-- the end of a turn of the tokens' loop -/
def TkEnd (h₀ : Heap) (L FD S Dd C : Addr) (oS oD : Obj) (vs : List Value) (tlo : List (Addr × Obj)) (k : Int) (wd ln : Str) (a b : Int) (s₁ : Shared) (f : Flow) (s₂ : Shared) : Prop :=
  f = .next ∧ ∃ h' tk m' news' T dx P1 P2 t1 t2 t3 u1 u2 u3 u4 c' tl' tr', s₂ = { s₁ with heap := h', toks := tk } ∧ Fr h₀ L h' m' ∧ News h₀ L h' news' ∧
    m' (Str.ofString "found") = some (.ref FD) ∧ m' (Str.ofString "line") = some (.str ln tl') ∧ m' (Str.ofString "row") = some (.int 1 tr') ∧
    (S, oS) ∈ news' ∧ (Dd, oD) ∈ news' ∧ (FD, listOf (vs.toArray.push (.ref T)) c') ∈ news' ∧ (∀ p ∈ tlo, p ∈ news') ∧
    (∃ l2, (T, tokO C dx k wd P1 P2 l2 t1 t2 t3) ∈ news') ∧ (P1, pairO 1 a u1 u2) ∈ news' ∧ (P2, pairO 1 b u3 u4) ∈ news' ∧ ∀ p ∈ tlo, p.1 < T ∧ p.1 < P1 ∧ p.1 < P2

section
variable {prog : Program} {w : World} {A : Around} {s : Shared} {env : Env} {h₀ : Heap}
theorem spotsD_get (ws : List Str) (gs : List Int) : ∀ i j, j < i → (spotsD ws gs i)[j]? = some (.tuple [.str (ws.getD j Str.empty), .int (startAt ws gs j)])
  | 0, j, h => absurd h (Nat.not_lt_zero _)
  | i + 1, j, h => by
    unfold spotsD
    by_cases hlt : j < i
    · rw [List.getElem?_append_left (by rw [spotsD_len]; exact hlt)]; exact spotsD_get ws gs i j hlt
    · have e : j = i := by omega
      subst e
      rw [List.getElem?_append_right (by rw [spotsD_len]; exact Nat.le_refl _), spotsD_len, Nat.sub_self]; rfl
theorem spots_at {news : List (Addr × Obj)} {vs : List Value} {ws : List Str} {gs : List Int} {i : Nat} (h : DatAll news vs (spotsD ws gs i)) (j : Nat) (hj : j < i) :
    ∃ T t u n, vs[j]? = some (.ref T) ∧ (T, ({ cls := .type "tuple", data := .seq #[.str (ws.getD j Str.empty) t, .int (startAt ws gs j) u] n } : Obj)) ∈ news := by
  have hl : j < (spotsD ws gs i).length := by rw [spotsD_len]; exact hj
  obtain ⟨v, hv, hd⟩ := h.get hl
  have e := spotsD_get ws gs i j hj
  rw [List.getElem?_eq_getElem hl] at e
  rw [Option.some.inj e] at hd
  cases hd with
  | tuple hm hr =>
    cases hr with
    | cons h1 h2 =>
      cases h1
      cases h2 with
      | cons h3 h4 => cases h3; cases h4; exact ⟨_, _, _, _, hv, hm⟩

theorem toks_loop {E : Value → Shared → Prop} {Q : Flow → Shared → Prop} {pk pv pt : Pos} {x1 : Nat} {body : List Stmt} {S Dd FD C : Addr} {sv dv : List Value} {nS nD : Nat} {ws : List Str} {gs : List Int} {tt tr : Tok} {ln : Str} {m : Str → Option Value} {tl0 : List (Addr × Obj)} {kv : Str → Int} {p1 p2 : Addr × Obj}
    (hh : A.handled = none) (hxi : env.kindOf (Str.ofString "word") = some .local) (hxc : env.kindOf (Str.ofString "spot") = some .local)
    (hp : (env.scope.kind == .class || (env.scope.kind == .module && env.locals != env.globals)) = false)
    (F : Fr h₀ env.locals s.heap m) (N : News h₀ env.locals s.heap ((FD, listOf #[] 0) :: p1 :: p2 :: (Dd, listOf dv.toArray nD) :: (S, listOf sv.toArray nS) :: tl0))
    (m1 : m (Str.ofString "line") = some (.str ln tt)) (m2 : m (Str.ofString "found") = some (.ref FD)) (m3 : m (Str.ofString "row") = some (.int 1 tr))
    (hds : DatAll tl0 sv (spotsD ws gs ws.length)) (hs0 : Soft tl0) (n1 : @Ne Nat S FD) (n2 : @Ne Nat Dd FD)
    (step : ∀ (i : Nat) t u tln trr c (vs : List Value) tlo h tk (m₁ : Str → Option Value), i < ws.length → vs.length = i → @Ne Nat S FD → @Ne Nat Dd FD → OwnOff tlo [FD, S, Dd] →
      Fr h₀ env.locals h (fun y => if y = Str.ofString "spot" then some (.int (startAt ws gs i) u) else if y = Str.ofString "word" then some (.str (ws.getD i Str.empty) t) else if y = Str.ofString "line" then some (.str ln tln) else
        if y = Str.ofString "found" then some (.ref FD) else if y = Str.ofString "row" then some (.int 1 trr) else m₁ y) →
      News h₀ env.locals h ((S, listOf sv.toArray nS) :: (Dd, listOf dv.toArray nD) :: (FD, listOf vs.toArray c) :: tlo) →
      wpAny (model prog w) A (execs body env) (TkEnd h₀ env.locals FD S Dd C (listOf sv.toArray nS) (listOf dv.toArray nD) vs tlo (kv (ws.getD i Str.empty)) (ws.getD i Str.empty) ln (startAt ws gs i) (startAt ws gs i + ((ws.getD i Str.empty).length : Int)) { s with heap := h, toks := tk }) E { s with heap := h, toks := tk })
    (hR : ∀ h' tk m' (vs : List Value) c tl, m' (Str.ofString "found") = some (.ref FD) → ToksR C kv tl0 ws gs ws.length vs tl → Soft tl → Fr h₀ env.locals h' m' →
      News h₀ env.locals h' ((S, listOf sv.toArray nS) :: (Dd, listOf dv.toArray nD) :: (FD, listOf vs.toArray c) :: tl) → Q .next { s with heap := h', toks := tk })
    (hE : PassesOwn (model prog w) A env E) :
    wpAny (model prog w) A (pyIter (.ref S)) (fun it s₂ =>
      codeAny (model prog w) A (.forLoop (.Tuple [.Name (Str.ofString "word") pk, .Name (Str.ofString "spot") pv] x1 pt) it body [] env) (ForR prog w A env Q E) s₂) E s := by
  have N0 : News h₀ env.locals s.heap ([(S, listOf sv.toArray nS), (Dd, listOf dv.toArray nD)] ++ (FD, listOf ([] : List Value).toArray 0) :: tl0) := fun p hp => N p (by
    simp only [List.cons_append, List.nil_append, List.mem_cons] at hp ⊢
    rcases hp with h | h | h | h
    · exact .inr (.inr (.inr (.inr (.inl h))))
    · exact .inr (.inr (.inr (.inl h)))
    · exact .inl h
    · exact .inr (.inr (.inr (.inr (.inr h)))))
  have hsz : sv.toArray.size = ws.length := by rw [List.size_toArray, hds.length, spotsD_len]
  have hT := spots_at hds
  let Ts : Nat → Addr := fun j => if h : j < ws.length then (hT j h).choose else 0
  let tw : Nat → Tok := fun j => if h : j < ws.length then (hT j h).choose_spec.choose else 0
  let ts : Nat → Tok := fun j => if h : j < ws.length then (hT j h).choose_spec.choose_spec.choose else 0
  let nt : Nat → Nat := fun j => if h : j < ws.length then (hT j h).choose_spec.choose_spec.choose_spec.choose else 0
  refine grow_pairs (cst := [(S, listOf sv.toArray nS), (Dd, listOf dv.toArray nD)]) (D := FD)
    (fun _ m' => m' (Str.ofString "found") = some (.ref FD) ∧ (∃ t, m' (Str.ofString "line") = some (.str ln t)) ∧ ∃ t, m' (Str.ofString "row") = some (.int 1 t))
    (ToksR C kv tl0 ws gs) Ts (fun j => .str (ws.getD j Str.empty) (tw j)) (fun j => .int (startAt ws gs j) (ts j)) nt hh hxi hxc hp F N0 (List.Mem.head _) ?_ (fun i vs tl h => h.1) ⟨m2, ⟨tt, m1⟩, tr, m3⟩ hs0 ?_ ⟨fun _ h => h, rfl, fun j v hj => nomatch hj⟩ ?_ ?_ hE
  · intro j hj
    rw [hsz] at hj
    have h1 := (hT j hj).choose_spec.choose_spec.choose_spec.choose_spec
    simp only [Ts, tw, ts, nt, dif_pos hj]
    exact ⟨by simpa using h1.1, h1.2⟩
  · intro p hp
    simp only [List.mem_cons, List.not_mem_nil, or_false] at hp
    rcases hp with rfl | rfl <;> rfl
  · rintro i vs c tl m₁ h tk tlo hi ⟨k1, ⟨tln, k2⟩, trr, k3⟩ hr hsub hoff F₁ N₁
    rw [hsz] at hi
    have F₂ : Fr h₀ env.locals h (fun y => if y = Str.ofString "spot" then some (.int (startAt ws gs i) (ts i)) else if y = Str.ofString "word" then some (.str (ws.getD i Str.empty) (tw i)) else if y = Str.ofString "line" then some (.str ln tln) else
        if y = Str.ofString "found" then some (.ref FD) else if y = Str.ofString "row" then some (.int 1 trr) else m₁ y) := by
      have e : (fun y => if y = Str.ofString "spot" then some (Value.int (startAt ws gs i) (ts i)) else if y = Str.ofString "word" then some (.str (ws.getD i Str.empty) (tw i)) else if y = Str.ofString "line" then some (.str ln tln) else
        if y = Str.ofString "found" then some (.ref FD) else if y = Str.ofString "row" then some (.int 1 trr) else m₁ y) =
        (fun y => if y = Str.ofString "spot" then some (Value.int (startAt ws gs i) (ts i)) else if y = Str.ofString "word" then some (.str (ws.getD i Str.empty) (tw i)) else m₁ y) := by
        funext z
        by_cases a1 : z = Str.ofString "spot"
        · rw [if_pos a1, if_pos a1]
        by_cases a2 : z = Str.ofString "word"
        · rw [if_neg a1, if_neg a1, if_pos a2, if_pos a2]
        rw [if_neg a1, if_neg a1, if_neg a2, if_neg a2]
        by_cases a3 : z = Str.ofString "line"
        · rw [if_pos a3, a3, k2]
        by_cases a4 : z = Str.ofString "found"
        · rw [if_neg a3, if_pos a4, a4, k1]
        by_cases a5 : z = Str.ofString "row"
        · rw [if_neg a3, if_neg a4, if_pos a5, a5, k3]
        rw [if_neg a3, if_neg a4, if_neg a5]
      rw [e]; exact F₁
    refine wpAny_mono (step i (tw i) (ts i) tln trr c vs tlo h tk m₁ hi hr.2.1 n1 n2 hoff F₂ N₁) (fun f s₂ hE => ?_) fun _ _ e => e
    obtain ⟨rfl, h', tk', m', news', T, dx, P1, P2, t1, t2, t3, u1, u2, u3, u4, c', tl', tr', rfl, F', N', q1, q2, q3, g1, g2, g3, g4, ⟨l2, g5⟩, g6, g7, g8⟩ := hE
    refine ⟨rfl, h', tk', m', news', vs ++ [Value.ref T], c', [(T, tokO C dx (kv (ws.getD i Str.empty)) (ws.getD i Str.empty) P1 P2 l2 t1 t2 t3), (P1, pairO 1 (startAt ws gs i) u1 u2), (P2, pairO 1 (startAt ws gs i + ((ws.getD i Str.empty).length : Int)) u3 u4)], rfl, F', N', ⟨q1, ⟨tl', q2⟩, tr', q3⟩, ?_, ?_, g4, ?_, ?_, ?_, hr.snoc ?_⟩
    · intro p hp
      simp only [List.mem_cons, List.not_mem_nil, or_false] at hp
      rcases hp with rfl | rfl
      · exact g1
      · exact g2
    · rw [← List.push_toArray]; exact g3
    · intro p hp
      simp only [List.mem_cons, List.not_mem_nil, or_false] at hp
      rcases hp with rfl | rfl | rfl
      · exact g5
      · exact g6
      · exact g7
    · intro p hp
      simp only [List.mem_cons, List.not_mem_nil, or_false] at hp
      rcases hp with rfl | rfl | rfl
      · exact (show ¬ (Value.ref C = Value.type "list") from fun h => by cases h)
      · exact (show ¬ (Value.type "tuple" = Value.type "list") by decide)
      · exact (show ¬ (Value.type "tuple" = Value.type "list") by decide)
    · intro p hp q hq
      have := g8 p hp
      simp only [List.mem_cons, List.not_mem_nil, or_false] at hq
      rcases hq with rfl | rfl | rfl
      · exact Nat.ne_of_lt this.1
      · exact Nat.ne_of_lt this.2.1
      · exact Nat.ne_of_lt this.2.2
    · exact ⟨T, dx, P1, P2, l2, t1, t2, t3, u1, u2, u3, u4, rfl, List.mem_cons_self .., List.mem_cons_of_mem _ (List.mem_cons_self ..), List.mem_cons_of_mem _ (List.mem_cons_of_mem _ (List.mem_cons_self ..))⟩
  · rintro h' tk m' vs c tl ⟨k1, _, _⟩ hr hs F' N'
    rw [hsz] at hr
    exact hR h' tk m' vs c tl k1 hr hs F' N'
end
theorem tk_end {h₀ h' : Heap} {L FD S Dd C T dx P1 P2 : Addr} {oS oD : Obj} {vs : List Value} {tlo news' lT l1 l2 : List (Addr × Obj)} {k : Int} {wd ln ln2 : Str} {a b : Int} {s₁ : Shared} {m' : Str → Option Value} {tk c' : Nat} {t1 t2 t3 u1 u2 u3 u4 tl' tr' : Tok}
    (F : Fr h₀ L h' m') (N : News h₀ L h' news') (h1 : m' (Str.ofString "found") = some (.ref FD)) (h2 : m' (Str.ofString "line") = some (.str ln tl')) (h3 : m' (Str.ofString "row") = some (.int 1 tr'))
    (g1 : (S, oS) ∈ news') (g2 : (Dd, oD) ∈ news') (g3 : (FD, listOf (vs.toArray.push (.ref T)) c') ∈ news') (g4 : ∀ p ∈ tlo, p ∈ news')
    (g5 : (T, ({ cls := .ref C, dict := some dx, data := .seq [Value.int k t1, .str wd t2, .ref P1, .ref P2, .str ln2 t3].toArray } : Obj)) ∈ news')
    (g6 : (P1, ({ cls := .type "tuple", data := .seq #[.int 1 u1, .int a u2] } : Obj)) ∈ news') (g7 : (P2, ({ cls := .type "tuple", data := .seq #[.int 1 u3, .int b u4] } : Obj)) ∈ news')
    (a0 : ∀ p ∈ lT, p.1 < T) (s0 : ∀ p ∈ tlo, p ∈ lT) (a1 : ∀ p ∈ l1, p.1 < P1) (s1 : ∀ p ∈ tlo, p ∈ l1) (a2 : ∀ p ∈ l2, p.1 < P2) (s2 : ∀ p ∈ tlo, p ∈ l2) :
    TkEnd h₀ L FD S Dd C oS oD vs tlo k wd ln a b s₁ .next { s₁ with heap := h', toks := tk } :=
  ⟨rfl, h', tk, m', news', T, dx, P1, P2, t1, t2, t3, u1, u2, u3, u4, c', tl', tr', rfl, F, N, h1, h2, h3, g1, g2, g3, g4, ⟨ln2, g5⟩, g6, g7, fun p hp => ⟨a0 p (s0 p hp), a1 p (s1 p hp), a2 p (s2 p hp)⟩⟩
end

section
set_option maxRecDepth 100000
theorem best_tuple : Builtin.Slots.bestBase [.type "tuple"] = pure (.type "tuple") := by kernel_rfl
theorem made_tuple : Bind.madeBy (.type "tuple") = pure (some "tuple.__new__") := F.called_tuple.made
/-- a class of the program's that builds on tuple and has a maker of its own -/
def tupClsIn (K : Frag) (C : Addr) : Bool := match K.lookup C with
  | some ⟨_, _, .cls cd, sl⟩ => !cd.hasDel && (sl.toList[4]?).join == some .none && cd.mro == [.ref C, .type "tuple", .type "object"] && cd.bases == [.type "tuple"] &&
      specialIn K (.ref C) "__call__" == some (some (.builtin "type.__call__")) && instIn K (.ref C) (.type "type") == some true && findIn K (.ref C) "__init__" == some (some (.builtin "object.__init__"))
  | _ => false
structure TupCls (M : Model) (h : Heap) (C : Addr) : Prop where
  obj : ∃ oc od cd sl, h.get? C = some ⟨oc, od, .cls cd, sl⟩ ∧ cd.hasDel = false ∧ cd.mro = [.ref C, .type "tuple", .type "object"]
  made : Looks M h (Bind.madeBy (.ref C)) none
  base : Looks M h (Bind.staticBase (.ref C)) (.type "tuple")
  self : Looks M h (isSubtype (.ref C) (.ref C)) true
  tup : Looks M h (isSubtype (.ref C) (.type "tuple")) true
  top : Looks M h (isSubtype (.ref C) (.type "object")) true
  call : Looks M h (specialOf (.ref C) "__call__") (some (.builtin "type.__call__"))
  typ : Looks M h (isInstance (.ref C) (.type "type")) true
  init : Looks M h (typeLookup (.ref C) "__init__") (some (.builtin "object.__init__"))
theorem tupCls_of {K : Frag} {M : Model} {h : Heap} (X : K.In h) {C : Addr} (e : tupClsIn K C = true) : TupCls M h C := by
  unfold tupClsIn at e
  split at e
  · rename_i oc od cd sl ho
    simp only [Bool.and_eq_true, Bool.not_eq_true', beq_iff_eq] at e
    obtain ⟨⟨⟨⟨⟨⟨e2, e3⟩, e4⟩, e5⟩, e7⟩, e8⟩, e9⟩ := e
    have hc : clsIn K C = some cd := by unfold clsIn; rw [ho]
    have hm : Looks M h (mroOf (.ref C)) cd.mro := (looks_clsIn X hc).andThen .now
    rw [e4] at hm
    have made : Looks M h (Bind.madeBy (.ref C)) none := by
      intro A Q E s k q
      unfold Bind.madeBy
      refine wpAny_bind (hm A _ E s k ?_)
      rw [List.forIn_cons]
      refine wpAny_bind (wpAny_bind (wpAny_bind (wpAny_bind (wpAny_loadPart (k _ _ (X _ _ ho)) (wpAny_pure ?_)))))
      dsimp only
      rw [← Array.getElem?_toList, e3]
      exact wpAny_pure (wpAny_pure (wpAny_pure q))
    have sub : ∀ b, cd.mro.contains b = true → mroIn K C b = some true := fun b hb => by
      unfold mroIn; rw [hc, Option.bind_some, if_neg (by rw [e4]; simp), hb]
    refine ⟨⟨oc, od, cd, sl, X _ _ ho, e2, e4⟩, made, ?_, looks_mroIn X (sub _ (by rw [e4]; simp)), looks_mroIn X (sub _ (by rw [e4]; simp)), looks_mroIn X (sub _ (by rw [e4]; simp)), looks_specialIn X e7, looks_instIn X e8, looks_findIn X e9⟩
    intro A Q E s k q
    unfold Bind.staticBase
    refine wpAny_bind (hm A _ E s k ?_)
    rw [List.forIn_cons]
    refine wpAny_bind (wpAny_bind (wpAny_bind (made A _ E s k ?_)))
    rw [if_neg (by simp)]
    refine wpAny_bind (looks_clsIn X hc A _ E s k ?_)
    rw [e5, best_tuple]
    refine wpAny_bind (wpAny_pure (wpAny_pure ?_))
    dsimp only
    rw [List.forIn_cons, made_tuple]
    exact wpAny_bind (wpAny_bind (wpAny_pure (wpAny_pure (wpAny_pure (wpAny_pure q)))))
  · cases e

abbrev tupInst (C dx : Addr) (vs : List Value) : Obj := { cls := .ref C, dict := some dx, data := .seq vs.toArray }
theorem tn_kind : builtinKind "tuple.__new__" = some .builtinFn := by decide +kernel
theorem tn_split : splitId "tuple.__new__" = some ("tuple", "__new__") := by decide +kernel
section
variable {prog : Program} {w : World} {A : Around} {E : Value → Shared → Prop} {s : Shared} {h₀ : Heap} {L : Addr} {m : Str → Option Value} {news : List (Addr × Obj)} {C P : Addr} {vs : List Value} {K : Frag}
theorem tuple_new_cls {Q : Value → Shared → Prop} (F : Fr h₀ L s.heap m) (N : News h₀ L s.heap news) (X : K.In h₀) (hC : tupClsIn K C = true) (hP : (P, ({ cls := .type "tuple", data := .seq vs.toArray } : Obj)) ∈ news) (hsz : vs.length ≤ sizeLine)
    (h : ∀ x dx h', Fr h₀ L h' m → News h₀ L h' ((x, tupInst C dx vs) :: (dx, emptyDict) :: news) → (∀ p ∈ news, p.1 < x) → (∀ p ∈ news, p.1 < x) → (∀ p ∈ news, p.1 < dx) → Q (.ref x) { s with heap := h' }) :
    wpAny (model prog w) A (call (.builtin "tuple.__new__") [.ref C, .ref P]) Q E s := by
  have Y := tupCls_of (M := model prog w) (X.keeps F.keep) hC
  obtain ⟨⟨oc, od, cd, sl, ho, e2, e4⟩, made, base, self, tup, top, cal, typ, init⟩ := Y
  refine wpAny_call (codeAny_call_builtin_code (Code.quiet_builtin _ (by decide +kernel)) ?_)
  have madeT : Looks (model prog w) s.heap (Bind.madeBy (.type "tuple")) (some "tuple.__new__") := Looks.of_pure made_tuple
  simp only [checkBuiltinCall, tn_kind, tn_split]
  repeat (first | simp only [beq_self_eq_true, bne_self_eq_false, Bool.not_true, Bool.false_eq_true, if_false, if_true] | lk)
  refine codeAny_builtin PySem.F.entry_tuple_new ?_
  unfold Builtin.«tuple.__new__»
  have here : Looks (model prog w) s.heap (Bind.madeHere "tuple.__new__" (.ref C)) () := base.andThen (madeT.andThen (Looks.of_pure (by simp only [Option.map_some, bne_self_eq_false, Bool.false_eq_true, if_false])))
  have hne : (Value.ref C == Value.type "tuple") = false := rfl
  have hPo := (N _ hP).1
  have hsz' : vs.toArray.size ≤ sizeLine := by rw [List.size_toArray]; exact hsz
  repeat (first | with_reducible refine wpAny_collect_seq P (.inr rfl) hPo rfl rfl ?_ hsz' | simp only [hne, beq_self_eq_true, Bool.not_true, Bool.false_eq_true, if_false, if_true] | lk)
  intro h' hk
  have F' : Fr h₀ L h' m := ⟨F.ns.at' fun o e => hk _ o e, fun b o e => hk b o (F.keep b o e), F.above⟩
  have N' : News h₀ L h' news := fun p hp => ⟨hk _ _ (N p hp).1, (N p hp).2⟩
  refine wpAny_bind (wpAny_pure (wpAny_bind (wpAny_alloc (wpAny_bind ?_))))
  unfold newObj
  dsimp only
  rw [if_neg (Nat.not_lt_of_le hsz')]
  show wpAny _ _ (newObjAsIs _ _ _) _ _ _
  unfold newObjAsIs classHasDel
  refine wpAny_bind (wpAny_alloc (wpAny_bind (wpAny_bind (wpAny_load (Heap.get?_push_of_some _ (Heap.get?_push_of_some _ (hk _ _ ho))) (wpAny_pure ?_)))))
  rw [e2]
  refine wpAny_pure (wpAny_pure ?_)
  have N2 := (N'.push F' emptyDict).push (F'.push _) (tupInst C h'.objs.size vs)
  rw [Heap.size_push] at N2
  show Q (.ref (h'.push emptyDict).objs.size) _
  rw [Heap.size_push]
  exact h _ h'.objs.size _ ((F'.push _).push _) N2 (fun p hp => Nat.lt_succ_of_lt (Heap.lt_size (N' p hp).1)) (fun p hp => Nat.lt_succ_of_lt (Heap.lt_size (N' p hp).1)) (fun p hp => Heap.lt_size (N' p hp).1)

def Hold (P : Prop) : Prop := P
theorem Hold.mk {P : Prop} (h : P) : Hold P := h
theorem Hold.out {P : Prop} (h : Hold P) : P := h
/-- what the class's own maker has to hand back -/
def NewBack (K : Frag) (C : Addr) (Q : Value → Shared → Prop) (obj : Value) (s₂ : Shared) : Prop :=
  ∃ x ox, obj = .ref x ∧ s₂.heap.get? x = some ox ∧ ox.cls = .ref C ∧ K.In s₂.heap ∧ Q (.ref x) s₂
theorem tok_enter {rest : List Value} {Q : Value → Shared → Prop} (F : Fr h₀ L s.heap m) (X : K.In h₀) (hC : tupClsIn K C = true) (hoi : ∀ a, argsOk "object.__init__" ⟨a :: rest, []⟩) (hne : rest.isEmpty = false)
    (h : wpAny (model prog w) (A.under (.builtin "type.__call__" ⟨.ref C :: rest, []⟩)) (getAttr (.ref C) "__new__") (fun fn s₁ =>
      wpAny (model prog w) (A.under (.builtin "type.__call__" ⟨.ref C :: rest, []⟩)) (call fn (.ref C :: rest)) (NewBack K C Q) E s₁) E s) :
    wpAny (model prog w) A (call (.ref C) rest) Q E s := by
  have Y := tupCls_of (M := model prog w) (X.keeps F.keep) hC
  obtain ⟨⟨oc, od, cd, sl, ho, e2, e4⟩, made, base, self, tup, top, cal, typ, init⟩ := Y
  obtain ⟨r0, rs, rfl⟩ : ∃ r0 rs, rest = r0 :: rs := by cases rest with | nil => cases hne | cons a b => exact ⟨a, b, rfl⟩
  refine wpAny_call (codeAny_of_tree ?_)
  show wpAny _ _ (callAny (.ref C) _) _ _ _
  refine nd_load ho ?_
  show wpAny _ _ (callAny.viaDunder (.ref C) _) _ _ _
  unfold callAny.viaDunder
  refine wpAny_bind (cal.at ?_)
  dsimp only
  rw [tc_bind]
  refine wpAny_bind (wpAny_pure (wpAny_bind (wpAny_pure ?_)))
  refine wpAny_pure (a := Fin.again (.call (.builtin "type.__call__") ⟨.ref C :: r0 :: rs, []⟩)) (And.intro rfl ?_)
  refine codeAny_call_builtin_at (Code.quiet_builtin _ (by decide +kernel)) entry_typeCall (check_slot tc_kind tc_split typ (tc_args _ _ _) ?_)
  unfold Builtin.«type.__call__»
  have hm : Looks (model prog w) s.heap (mroOf (.ref C)) cd.mro := ((Looks.ld (part := none) ho).andThen .now).andThen .now
  have e4' : cd.mro.isEmpty = false := by rw [e4]; rfl
  repeat (first | with_reducible refine wpAny_mono h (fun fn s₁ h₁ => Hold.out ?_) (fun _ _ e => e) | simp only [e4', Bool.false_eq_true, if_false] | lk)
  refine Hold.mk (wpAny_bind (wpAny_holding (wpAny_mono h₁ (fun obj s₂ hb => ?_) fun _ _ e => e)))
  obtain ⟨x, ⟨ocx, odx, dx, slx⟩, rfl, hx, hcls, X2, hq⟩ := hb
  dsimp only at hcls
  subst hcls
  obtain ⟨-, made2, -, self2, -, top2, -, -, init2⟩ := tupCls_of (M := model prog w) X2 hC
  have t1 : Looks (model prog w) s₂.heap (typeOf (.ref x)) (.ref C) := (Looks.ld hx).andThen .now
  have b1 : Looks (model prog w) s₂.heap (bindSpecial (.builtin "object.__init__") (.ref x)) (.builtin "object.__init__", [.ref x]) := Looks.of_pure (oi_bind _)
  have i2 : Looks (model prog w) s₂.heap (isInstance (.ref x) (.type "object")) true := t1.andThen top2
  unfold callSpecial? specialOf
  have i1 : Looks (model prog w) s₂.heap (isInstance (.ref x) (.ref C)) true := t1.andThen self2
  repeat (first | simp only [Bool.not_true, Bool.false_eq_true, if_false] | with_reducible refine wpAny_call ?_ | lk)
  refine codeAny_call_builtin oi_plain entry_oi (@check_slot (model prog w) _ _ _ "object.__init__" "object" "__init__" (.ref x) (r0 :: rs) [] _ oi_kind oi_split i2 (hoi (.ref x)) ?_)
  unfold Builtin.«object.__init__»
  show wpAny _ _ (typeOf (.ref x) >>= _) _ _ _
  have hmk : ((none : Option String) != some "object.__new__") = true := rfl
  repeat (first | simp only [bne_self_eq_false, Bool.not_true, Bool.false_eq_true, if_false, hmk, Bool.or_true] | lk)
  exact hq
theorem newBack_of {Q : Value → Shared → Prop} {x : Addr} {ox : Obj} (F : Fr h₀ L s.heap m) (N : News h₀ L s.heap news) (X : K.In h₀) (hm : (x, ox) ∈ news) (hc : ox.cls = .ref C) (h : Q (.ref x) s) : NewBack K C Q (.ref x) s :=
  ⟨x, ox, rfl, (N _ hm).1, hc, X.keeps F.keep, h⟩
end
end

section
set_option maxRecDepth 100000
/-- from here the thread runs to the generator's next yield or end, and there P holds -/
def Sg (M : Model) (A : Around) (c : Code) (t : Sem Fin) (fs : List Frame) (s : Shared) (P : End → Shared → Prop) : Prop :=
  ∀ Γ p, Γ.code = c → Γ.Woken A → ∃ e s', Runs M Γ p t fs s e s' ∧ e.quiet = true ∧ P e s'
section
variable {M : Model} {A : Around} {c : Code} {fs : List Frame} {s : Shared} {P : End → Shared → Prop}
theorem sg_wrap {α : Type} {m : Sem α} {K : α → Sem Fin} {H : Value → Sem Fin} {gd lv}
    (h : wpAny M (A.over c fs) m (fun a s' => Sg M A c (K a) fs s' P) (fun x s' => Sg M A c (H x) fs s' P) s) : Sg M A c (m.wrap K H gd lv) fs s P := by
  rintro Γ p rfl hΓ
  exact runs_wrap_of_wp (Φ := fun e s' => e.quiet = true ∧ P e s') K H gd lv m (h (Γ.over fs) p (hΓ.over fs)) (fun a p' s' h' => h' Γ p' rfl hΓ) (fun x p' s' h' => h' Γ p' rfl hΓ)
theorem sg_bw {α β : Type} {m : Sem α} {K : α → Sem β} {K' : β → Sem Fin} {H' : Value → Sem Fin} {gd lv}
    (h : wpAny M (A.over c fs) m (fun a s' => Sg M A c ((K a).wrap K' H' gd lv) fs s' P) (fun x s' => Sg M A c (H' x) fs s' P) s) : Sg M A c ((m >>= K).wrap K' H' gd lv) fs s P := by
  rw [Sem.bind_eq_wrap', Sem.wrap_wrap]; exact sg_wrap h
theorem sg_at {p' : Pos} {k : Unit → Sem Fin} (h : Sg M A c (k ()) fs s P) : Sg M A c (.at p' k) fs s P :=
  sg_wrap (m := standAt p') (K := k) (H := .raise) (gd := id) (lv := id) (wpAny_standAt h)
theorem sg_point {l : List Value} {k : Unit → Sem Fin} (h : Sg M A c (k ()) fs s P) : Sg M A c (.point l k) fs s P :=
  sg_wrap (m := point) (K := k) (H := .raise) (gd := id) (lv := fun _ => l) (wpAny_point h)
theorem sg_call {c' : Code} {h g l} {k : Result → Sem Fin} (hc : ∀ p, Sg M A c' (M.den c') (.ret k h g l c p [] :: fs) s P) : Sg M A c (.call c' h g l k) fs s P := by
  rintro Γ p rfl hΓ
  obtain ⟨e, s', hr, he⟩ := hc p (Γ.goto c') p rfl (hΓ.goto c')
  exact ⟨e, s', runs_call_seg hr, he⟩
theorem sg_leaf {k h g l c₁ p₁ kp} (r : Result) (hk : Sg M A c₁ (k r) fs s P) : Sg M A c (leafOf r) (.ret k h g l c₁ p₁ kp :: fs) s P := by
  rintro Γ p rfl hΓ
  obtain ⟨e, s', hr, he⟩ := hk (Γ.goto c₁) p₁ rfl (hΓ.goto c₁)
  exact ⟨e, s', Runs.pop r hr, he⟩
theorem sg_again {c' : Code} (hq : c'.quiet = true) (hc : Sg M A c' (M.den c') fs s P) : Sg M A c (.pure (.again c')) fs s P := by
  rintro Γ p rfl hΓ
  obtain ⟨e, s', hr, he⟩ := hc (Γ.goto c') p rfl (hΓ.goto c')
  exact ⟨e, s', Runs.head (c₁ := c') (fun _ _ x => .again hq x) hr, he⟩
theorem sg_end (r : Result) (h : P (.ret r) s) : Sg M A c (leafOf r) [] s P := by
  rintro Γ p rfl _
  exact ⟨.ret r, s, Runs.leaf r, rfl, h⟩
theorem sg_yield {v g l} {k : Resume → Sem Fin} (hfs : splitAtGen fs = none) (hg : g = false) (hfg : fs.any Frame.guarded = false)
    (h : ∀ p, P (.susp v g l k c p fs) s) : Sg M A c (.yield v g l k) fs s P := by
  rintro Γ p rfl _
  exact ⟨_, s, Runs.yield' fs hfs, by simp [End.quiet, hg, hfg], h p⟩
variable {env : Env} {K : Flow → Sem Fin} {H : Value → Sem Fin} {gd : Bool → Bool} {lv : List Value → List Value}
theorem sg_nil (h : Sg M A c (K .next) fs s P) : Sg M A c ((execs [] env).wrap K H gd lv) fs s P := h
theorem sg_cons {st : Stmt} {rest : List Stmt} (h : Sg M A c ((exec st env).wrap (fun f => match f with | .next => (execs rest env).wrap K H gd lv | f => K f) H gd lv) fs s P) :
    Sg M A c ((execs (st :: rest) env).wrap K H gd lv) fs s P := by rw [execs_cons_wrap]; exact h
/-- one statement that does not yield -/
theorem sg_one {st : Stmt} {rest : List Stmt} (h : wpAny M (A.over c fs) (exec st env) (fun f s' => f = .next ∧ Sg M A c ((execs rest env).wrap K H gd lv) fs s' P) (fun x s' => Sg M A c (H x) fs s' P) s) :
    Sg M A c ((execs (st :: rest) env).wrap K H gd lv) fs s P :=
  sg_cons (sg_wrap (wpAny_mono h (fun f s' h' => by obtain ⟨rfl, h'⟩ := h'; exact h') fun _ _ e => e))
theorem sg_rest {rest : List Stmt} (h : wpAny M (A.over c fs) (execs rest env) (fun f s' => f = .next ∧ Sg M A c (K .next) fs s' P) (fun x s' => Sg M A c (H x) fs s' P) s) :
    Sg M A c ((execs rest env).wrap K H gd lv) fs s P :=
  sg_wrap (wpAny_mono h (fun f s' h' => by obtain ⟨rfl, h'⟩ := h'; exact h') fun _ _ e => e)
theorem sg_If {test : Expr} {body orelse : List Stmt} {pos : Pos}
    (h : wpAny M (A.over c fs) (isTrue test env (eval test env)) (fun b s' => if b = true then Sg M A c ((execs body env).wrap K H gd lv) fs s' P else Sg M A c ((execs orelse env).wrap K H gd lv) fs s' P) (fun x s' => Sg M A c (H x) fs s' P) s) :
    Sg M A c ((exec (.If test body orelse pos) env).wrap K H gd lv) fs s P := by
  rw [exec_If]
  refine sg_bw (wpAny_standAt (sg_bw (wpAny_mono h (fun b s' h' => ?_) fun _ _ e => e)))
  cases b
  · rw [if_neg Bool.false_ne_true] at h' ⊢; exact h'
  · rw [if_pos rfl] at h' ⊢; exact h'
theorem sg_Yield {e : Expr} {ypos pos : Pos} (hfs : splitAtGen fs = none) (hgd : gd false = false) (hfg : fs.any Frame.guarded = false)
    (h : wpAny M (A.over c fs) (eval e env) (fun v s' => ∀ g l k p, k (.send .none) = K .next → P (.susp v g l k c p fs) s') (fun x s' => Sg M A c (H x) fs s' P) s)
    (hco : env.scope.isCoroutine = false := by rfl) (hi : interactive env = false := by rfl) :
    Sg M A c ((exec (.Expr (.Yield (some e) ypos) pos) env).wrap K H gd lv) fs s P := by
  rw [exec_Expr env _ pos hi rfl]
  show Sg M A c (.at pos fun _ => ((eval e env >>= fun v => (standAt ypos >>= fun _ => yieldOut env v)) >>= fun x =>
    dropValue (.Yield (some e) ypos) pos x).wrap K H gd lv) fs s P
  have hy : ∀ v, yieldOut env v = yieldValue v := fun v => by simp only [yieldOut, hco, Bool.false_eq_true, if_false]
  simp only [hy]
  refine sg_at ?_
  rw [Sem.bind_eq_wrap', Sem.bind_eq_wrap', Sem.wrap_wrap, Sem.wrap_wrap]
  refine sg_wrap (wpAny_mono h (fun v s' h' => ?_) fun _ _ x => x)
  exact sg_at (sg_yield hfs hgd hfg fun p => h' _ _ _ p rfl)
abbrev forFrame (K : Flow → Sem Fin) (H : Value → Sem Fin) (gd : Bool → Bool) (lv : List Value → List Value) (c : Code) (p : Pos) (env : Env) : Frame :=
  .ret (fun r => ((match r with | .ok f => (.pure f : Sem Flow) | .error e => .raise e).onRaise fun (x : Value) => do
        if (← field x 1) == Value.none then unsupported "frame.own-activation:exception-without-traceback"
        setFlight x env.frame).wrap K H gd lv) none (gd false) (lv []) c p []
theorem sg_For {target iter : Expr} {body : List Stmt} {pos : Pos}
    (h : wpAny M (A.over c fs) (eval iter env) (fun xv s₁ => wpAny M (A.over c fs) (pyIter xv) (fun it s₂ =>
      ∀ p, Sg M A (.forLoop target it body [] env) (M.den (.forLoop target it body [] env)) (forFrame K H gd lv c p env :: fs) s₂ P) (fun x s' => Sg M A c (H x) fs s' P) s₁) (fun x s' => Sg M A c (H x) fs s' P) s)
    (hs : ∀ x, foldedSetIterable iter env x = pure x := by intro _; rfl) :
    Sg M A c ((exec (.For target iter body [] pos) env).wrap K H gd lv) fs s P := by
  rw [exec_For]
  refine sg_bw (wpAny_standAt (sg_bw (wpAny_mono h (fun x s₁ h₁ => ?_) fun _ _ e => e)))
  refine sg_bw (wpAny_of_eq (hs x) (sg_bw (wpAny_standAt (sg_bw (wpAny_holding (wpAny_mono h₁ (fun it s₂ h₂ => ?_) fun _ _ e => e))))))
  exact sg_call h₂
end
section
variable {prog : Program} {w : World} {A : Around} {fs : List Frame} {s : Shared} {P : End → Shared → Prop} {env : Env}
theorem sg_func {body : List Stmt} (h : Sg (model prog w) A (.func body env) ((execs body env).wrap (fun f => .pure (.done (.ret (match f with | .ret v => v | _ => .none))))
      (fun e => (leaving env e).wrap (fun _ => .raise e) .raise id id) id id) fs s P) :
    Sg (model prog w) A (.func body env) ((model prog w).den (.func body env)) fs s P := by
  show Sg _ A _ (.point [] fun _ => ((execs body env).onRaise (leaving env)) >>= _) fs s P
  refine sg_point ?_
  rw [Sem.onRaise_eq_wrap, Sem.bind_eq_wrap', Sem.wrap_wrap]
  rw [Sem.wrap_congr (execs body env) _ _ (K' := fun f => .pure (.done (.ret (match f with | .ret v => v | _ => .none))))
    (H' := fun e => (leaving env e).wrap (fun _ => .raise e) .raise id id) (fun f => by cases f <;> rfl)
    (fun e => by rw [Sem.bind_eq_wrap, Sem.wrap_wrap]; rfl)]
  exact h
/-- what the body of the loop goes on with -/
abbrev turnK (target : Expr) (it : Value) (body : List Stmt) (env : Env) (f : Flow) : Sem Fin := match f with
  | .next | .cont => .pure (.again (.forLoop target it body [] env))
  | .brk => .pure (.done .next)
  | .ret v => .pure (.done (.ret v))
abbrev turnH (env : Env) (e : Value) : Sem Fin := (do noteFrame e env; theTreesLotGoes e : Sem Unit).wrap (fun _ => .raise e) .raise id id
theorem sg_turn {x : Str} {px : Pos} {it : Value} {body : List Stmt}
    (h : wpAny (model prog w) (A.over (.forLoop (.Name x px) it body [] env) fs) (pyNext it) (fun r s₁ => match r with
      | none => Sg (model prog w) A (.block [] env) (leafOf (.ok .next)) fs s₁ P
      | some v => wpAny (model prog w) (A.over (.forLoop (.Name x px) it body [] env) fs) (storeName env x v) (fun _ s₂ =>
          Sg (model prog w) A (.forLoop (.Name x px) it body [] env) ((execs body env).wrap (turnK (.Name x px) it body env) (turnH env) id id) fs s₂ P)
          (fun e s' => Sg (model prog w) A (.forLoop (.Name x px) it body [] env) (turnH env e) fs s' P) s₁)
      (fun e s' => Sg (model prog w) A (.forLoop (.Name x px) it body [] env) (turnH env e) fs s' P) s) :
    Sg (model prog w) A (.forLoop (.Name x px) it body [] env) ((model prog w).den (.forLoop (.Name x px) it body [] env)) fs s P := by
  show Sg _ A _ ((forTurn (.Name x px) it body [] env).onRaise (fun x => do noteFrame x env; theTreesLotGoes x)) fs s P
  unfold forTurn
  rw [Sem.onRaise_eq_wrap]
  refine sg_bw (wpAny_standAt (sg_bw (wpAny_onRaise (wpAny_mono h (fun r s₁ h₁ => ?_) fun e s' h' => wpAny_standAt ?_))))
  · cases r with
    | none => exact sg_again rfl h₁
    | some v =>
      dsimp only
      refine sg_bw (wpAny_of_eq (rfl : letOwnedTupleGo (.Name x px) it v = pure ()) ?_)
      refine sg_bw (wpAny_assign_Name (wpAny_mono h₁ (fun _ s₂ h₂ => ?_) fun e s' h' => ?_))
      · rw [Sem.bind_eq_wrap', Sem.wrap_wrap]
        rw [Sem.wrap_congr (execs body env) _ _ (K' := turnK (.Name x px) it body env) (H' := turnH env) (fun f => by cases f <;> rfl) (fun e => by
          first | exact Sem.bind_eq_wrap _ _ | (show (do noteFrame e env; theTreesLotGoes e : Sem Unit).bind (fun _ => .raise e) = _; rw [Sem.bind_eq_wrap]))]
        exact h₂
      · rw [Sem.bind_eq_wrap]; exact h'
  · rw [Sem.bind_eq_wrap]; exact h'
end
end

section
set_option maxRecDepth 100000
def GGoes (M : Model) (A : Around) (gs : GenState) (s : Shared) (P : End → Shared → Prop) : Prop := match gs with
  | .fresh c => Sg M A c (M.den c) [] s P
  | .suspended k _ c _ fs _ => Sg M A c (k (.send .none)) fs s P
  | _ => False
theorem resume_one {M : Model} {A : Around} {E : Value → Shared → Prop} {s : Shared} {g : Nat} {gs : GenState} {l : List Value} {α : Type} {k : GenResult → Sem α} {Q : α → Shared → Prop} {P : End → Shared → Prop}
    (hg : s.gens[g]? = some gs) (hgo : GGoes M A gs (s.setGen g .running) P)
    (hP : ∀ e s₁, P e s₁ → wpAny M A (k e.result) Q E (s₁.setGen g e.genState)) :
    wpAny M A (.resume g (.send .none) l k) Q E s := by
  intro Γ p hΓ
  rw [Sem.wp_resume]
  cases gs with
  | fresh c =>
    obtain ⟨e₁, s₁, hr, hq, he⟩ := hgo (Γ.wake c p) p rfl (hΓ.wake c p)
    exact ⟨_, _, by unfold Wakes; rw [hg]; exact ⟨e₁, s₁, hr, hq, rfl, rfl⟩, hP e₁ s₁ he Γ p hΓ⟩
  | suspended k₀ l₀ c₀ p₀ fs₀ cl =>
    obtain ⟨e₁, s₁, hr, hq, he⟩ := hgo (Γ.wake c₀ p) p₀ rfl (hΓ.wake c₀ p)
    exact ⟨_, _, by unfold Wakes; rw [hg]; exact ⟨e₁, s₁, hr, hq, rfl, rfl⟩, hP e₁ s₁ he Γ p hΓ⟩
  | running => exact hgo.elim
  | finished => exact hgo.elim
section
variable {prog : Program} {w : World} {A : Around} {E : Value → Shared → Prop} {s : Shared}
def NextBack (Q : Option Value → Shared → Prop) (g : Nat) (e : End) (s₁ : Shared) : Prop := match e with
  | .ret r => r = .ok (.ret .none) ∧ ∀ h', (∀ b o, s₁.heap.get? b = some o → h'.get? b = some o) → Q none { s₁.setGen g .finished with heap := h' }
  | .susp v g' l k c p fs => Q (some v) (s₁.setGen g (End.susp v g' l k c p fs).genState)
theorem next_gen {a : Addr} {g : Nat} {gs : GenState} {Q : Option Value → Shared → Prop} (hh : A.handled = none) (hl : s.heap.NoLimit) (hroom : A.depth < recursionLimit)
    (hg : s.heap.IsGen a g) (hgs : s.gens[g]? = some gs) (hgo : GGoes (model prog w) A.in1 gs (s.setGen g .running) (NextBack Q g)) :
    wpAny (model prog w) A (pyNext (.ref a)) Q E s := by
  unfold pyNext
  refine wpAny_bind (wpAny_attempt (wpAny_callSpecial?_slot (name := Str.ofString "__next__") hg.typeIs PySem.slot_gen_next
    (wpAny_call_entry PySem.slot_gen_next hg.typeIs PySem.entry_gen_next ?_ (PySem.args_gen_next _))))
  show wpAny _ A.in1 (Builtin.Generator.genWake (.ref a) (.send .none)) _ _ s
  unfold Builtin.Generator.genWake
  refine wpAny_bind (wpAny_holding (wpAny_genNumber hg (wpAny_bind (wpAny_genState hgs ?_))))
  cases gs with
  | running => exact hgo.elim
  | finished => exact hgo.elim
  | _ =>
    refine wpAny_bind (wpAny_roomToWake hl hroom ?_)
    show wpAny _ A.in1 (.resume g (.send .none) [] _) _ _ s
    refine resume_one hgs hgo (fun e s₁ he => ?_)
    cases e with
    | ret x =>
      obtain ⟨rfl, hp⟩ := he
      show wpAny _ A.in1 (newExc (.type "StopIteration") [] >>= _) _ _ _
      refine wpAny_bind ?_
      simp only [newExc, newTuple]
      refine wpAny_bind (wpAny_newObj_type ?_ (by size_fits))
      refine wpAny_bind (m := firstArgMember _ _) (wpAny_of_eq (a := Value.none) (by first | rfl | (simp only [firstArgMember]; rfl)) ?_)
      refine wpAny_newObj_type ?_ (by size_fits)
      simp only [raiseNew]
      refine wpAny_bind (wpAny_bind (wpAny_handled ?_))
      first | rw [show A.in1.handled = none from hh] | rw [hh]
      refine wpAny_throw ?_
      refine wpAny_bind (wpAny_isInstance (T := "StopIteration") (b := true) ⟨_, Heap.get?_push_size _ rfl, rfl⟩ isSubtype_stop ?_)
      exact wpAny_pure (hp _ fun b o hb => Heap.get?_push_of_some _ (Heap.get?_push_of_some _ hb))
    | susp v g' l k c p fs => exact wpAny_pure ⟨v, rfl, wpAny_pure he⟩
end
end

section
open PySem PySem.W PySem.Calls PyProof.Rows
set_option maxRecDepth 100000
abbrev genO (g : Nat) (name qual : Str) (t u : Tok) : Obj := { cls := .type "generator", data := .fields #[.int g 0, .str name t, .str qual u] }
section
variable {prog : Program} {w : World} {A A₀ : Around} {s : Shared} {h₀ base : Heap} {L : Addr} {m : Str → Option Value} {news : List (Addr × Obj)} {K : Frag} {p : Program} {loose : List Str} {mean : ExcName → Option Value} {mg mb : Str → Option Value}
theorem gen_def {env : Env} {outer : List Env} {Q E : Value → Shared → Prop} {name qual : Str} {params : Arguments} {body : List Stmt} {scope : Scope} {dV kV doc pm cdv ct oc : Value} {an od : Option Addr} {osl : Array (Option Value)} {f : Addr} {args : List Value} {binds : List (Str × Value)}
    (B : Below A₀ base outer h₀) (F : Fr h₀ L s.heap m) (X₀ : K.In h₀) (N : News h₀ L s.heap news) (T : Top p loose mean mg mb h₀) (hA : A.frames = some (env :: outer)) (hf : env.frame = some L) (hke : env.scope.kind = .function)
    (ho : K.lookup f = some ⟨oc, od, .func (fnOf name qual params body scope dV kV doc pm an cdv ct), osl⟩) (hcd : codeIn K cdv qual = true) (hroom : A.depth < recursionLimit)
    (hbind : BindsTo s (fnOf name qual params body scope dV kV doc pm an cdv ct) ⟨args, []⟩ binds) (hloc : ∀ y ∈ binds, scope.names.lookup y.1 = some .local)
    (h : ∀ g L' h₂ a t u tk, Fr h₀ L g m → Fr g L' h₂ (fun y => binds.reverse.lookup y) → News g L' h₂ ((a, genO s.gens.size name qual t u) :: news) → Below A base (env :: outer) g → K.In g → Top p loose mean mg mb g → (∀ q ∈ news, q.1 < L') → @LT.lt Nat _ L' a → (∀ q ∈ news, q.1 < a) →
      (∀ L₂ m₂ news₂ h₂, Fr g L₂ h₂ m₂ → News g L₂ h₂ news₂ → Fr h₀ L h₂ m ∧ News h₀ L h₂ news₂) → Fr h₀ L h₂ m → News h₀ L h₂ ((a, genO s.gens.size name qual t u) :: news) →
      Q (.ref a) { s with gens := s.gens.push (.fresh (.func body (envOf qual scope L' f cdv))), toks := tk, heap := h₂ })
    (hco : scope.isCoroutine = false) (hgen : scope.isGenerator = true) (hk : scope.kind = .function)
    (hcell : ∀ x ∈ scope.names, x.2 ≠ .cell) : wpAny (model prog w) A (call (.ref f) args) Q E s := by
  have back : ∀ L₂ m₂ news₂ h₂, Fr (hideAll s.heap (news.map (·.1))) L₂ h₂ m₂ → News (hideAll s.heap (news.map (·.1))) L₂ h₂ news₂ → Fr h₀ L h₂ m ∧ News h₀ L h₂ news₂ := fun L₂ m₂ news₂ h₂ F2 N2 =>
    (groundX (A := A) (A₀ := A₀) (base := base) (outer := outer) (env := env) (R := fun _ s' => Fr h₀ L s'.heap m ∧ News h₀ L s'.heap news₂) B F N hA hf hke).2.2.2 .none { s with heap := h₂ } (leaveK_ F2 N2 fun a b => ⟨a, b⟩)
  obtain ⟨FG, BG, st, -⟩ := groundX (R := fun _ _ => True) B F N hA hf hke
  refine wpAny_call (codeAny_call_generator hroom ((X₀.keeps F.keep) _ _ ho) rfl hco hgen rfl (codeRec_of (X₀.keeps F.keep) hcd) (hbind _ _ _ _ ?_))
  refine wpAny_newFunctionEnv hcell hloc (fun h₁ hns hsb => ?_) hk
  have hk₁ : ∀ b o, s.heap.get? b = some o → h₁.get? b = some o := fun b o e => hsb.extBut b o (Nat.ne_of_lt (Heap.lt_size e)) (Heap.get?_push_of_some _ e)
  refine ⟨(T.nolimit.keeps F.keep).keeps hk₁, ?_⟩
  have F1 : Fr (hideAll s.heap (news.map (·.1))) s.heap.objs.size h₁ (fun y => binds.reverse.lookup y) := ⟨hns, fun b o e => hk₁ b o (of_hideAll _ e), Nat.le_of_eq (hideAll_size _ _)⟩
  have N1 : News (hideAll s.heap (news.map (·.1))) s.heap.objs.size h₁ news := fun p hp => ⟨hk₁ _ _ (N p hp).1, Nat.ne_of_lt (Heap.lt_size (N p hp).1), hideAll_none _ (List.mem_map_of_mem hp)⟩
  have F2 := F1.push (genO s.gens.size name qual (s.toks + binds.length) (s.toks + binds.length + 1))
  have N2 := N1.push F1 (genO s.gens.size name qual (s.toks + binds.length) (s.toks + binds.length + 1))
  obtain ⟨F3, N3⟩ := back _ _ _ _ F2 N2
  have hlt : @LT.lt Nat _ s.heap.objs.size h₁.objs.size := F1.ns.lt
  exact h _ s.heap.objs.size _ _ _ _ _ FG F2 N2 BG (X₀.keeps st) (T.keeps st) (fun p hp => Heap.lt_size (N p hp).1) hlt (fun p hp => Nat.lt_trans (Heap.lt_size (N p hp).1) hlt) back F3 N3
end
end

section
set_option maxRecDepth 100000
abbrev lstO (acc : Array Value) (c : Nat) : Obj := { cls := .type "list", dict := none, data := .seq acc c, slots := #[] }
/-- what a turn of a generator under `list` has to show -/
def GTurn (S : Addr) (St : Nat → Array Value → Nat → Shared → Prop) (Fn : Array Value → Nat → Shared → Prop) (k : Nat) (acc : Array Value) (r : Option Value) (s' : Shared) : Prop :=
  ∃ c₁, s'.heap.get? S = some (lstO acc c₁) ∧ match r with
  | some v => ∃ k', k' < k ∧ acc.size + 1 ≤ sizeLine ∧ ∀ h' c', (∀ b o, b ≠ S → s'.heap.get? b = some o → h'.get? b = some o) → h'.get? S = some (lstO (acc.push v) c') → St k' (acc.push v) c' { s' with heap := h' }
  | none => Fn acc c₁ s'
section
variable {prog : Program} {w : World} {A : Around} {I S : Addr} {St : Nat → Array Value → Nat → Shared → Prop} {Fn : Array Value → Nat → Shared → Prop}

theorem ext_loop {R : Result → Shared → Prop} (step : ∀ k acc c s E, St k acc c s → wpAny (model prog w) A.in1 (pyNext (.ref I)) (GTurn S St Fn k acc) E s) (res : Value)
    (hR : ∀ acc c s, Fn acc c s → s.heap.get? S = some (lstO acc c) → R (.ok (.ret res)) s) :
    ∀ (k : Nat) acc c s, St k acc c s → codeAny (model prog w) A (.builtin "list.extend.loop" ⟨[.ref S, .ref I, res], []⟩) R s := by
  intro k
  induction k using Nat.strongRecOn with
  | ind k ih =>
    intro acc c s hst
    refine codeAny_builtin PySem.F.entry_extend_loop ?_
    rw [Around.under_plainId PySem.F.plain_extend_loop _]
    show wpAny _ A.in1 (pyNext (.ref I) >>= _) _ _ s
    refine wpAny_bind (wpAny_mono (step k acc c s _ hst) (fun r s' h => ?_) fun _ _ e => e)
    obtain ⟨c₁, hS, h⟩ := h
    cases r with
    | none => exact wpAny_pure (hR acc c₁ s' h hS)
    | some v =>
      obtain ⟨k', hk, hsz, h⟩ := h
      show wpAny _ A.in1 (updateSeq S (·.push v) >>= _) _ _ _
      refine wpAny_bind (wpAny_updateSeq hS rfl (wpAny_pure ⟨plainId_quiet PySem.F.plain_extend_loop _, ?_⟩) (by omega) (by show (acc.push v).size ≤ sizeLine + 1; rw [Array.size_push]; omega))
      exact ih k' hk _ _ _ (h _ _ (fun b o hb e => (Heap.get?_update_other _ _ (Ne.symm hb)).trans e) (Heap.get?_update_self _ hS rfl))

theorem list_gen {E : Value → Shared → Prop} {Q : Value → Shared → Prop} {s : Shared} {g k : Nat} (hI : s.heap.IsGen I g) (hS : S = s.heap.objs.size)
    (start : ∀ h' c', (∀ b o, s.heap.get? b = some o → h'.get? b = some o) → h'.get? S = some (lstO #[] c') → St k #[] c' { s with heap := h' })
    (step : ∀ k acc c s E, St k acc c s → wpAny (model prog w) A.in1.in1 (pyNext (.ref I)) (GTurn S St Fn k acc) E s)
    (hQ : ∀ acc c s', Fn acc c s' → s'.heap.get? S = some (lstO acc c) → Q (.ref S) s') :
    wpAny (model prog w) A (call (.type "list") [.ref I]) Q E s := by
  subst hS
  have hSI : s.heap.objs.size ≠ I := fun e => by
    obtain ⟨o, _, _, ho, _⟩ := hI
    exact absurd (Heap.lt_size ho) (by rw [e]; exact Nat.lt_irrefl _)
  refine callType_codes (Q₁ := fun obj s₁ => obj = .ref s.heap.objs.size ∧ s₁ = { s with heap := s.heap.push { cls := .type "list", data := .seq #[] } }) PySem.F.called_list (PySem.F.typeCall_list_1 _) PySem.F.entry_list_init
    (code_list_new _ ⟨rfl, rfl⟩) fun obj s₁ h₁ => ?_
  obtain ⟨rfl, rfl⟩ := h₁
  have hS : (s.heap.push { cls := .type "list", data := .seq #[] }).get? s.heap.objs.size = some (lstO #[] 0) := Heap.get?_push_size _ rfl
  have hI1 : ((s.heap.push { cls := .type "list", data := .seq #[] })).IsGen I g := hI.push _
  refine ⟨⟨_, hS, rfl⟩, PySem.F.args_list_init_2 _ _, ?_⟩
  show wpAny _ A.in1.in1 (do let old ← Builtin.List.listItems (.ref s.heap.objs.size); Builtin.List.listUpdate (.ref s.heap.objs.size) (fun _ => #[]); letGo old.toList.reverse; Builtin.List.listExtendWith (.ref s.heap.objs.size) (.ref I) .none) _ _ _
  refine wpAny_bind ?_
  unfold Builtin.List.listItems
  refine wpAny_bind (wpAny_seqItems hS rfl (wpAny_pure ?_))
  show wpAny _ A.in1.in1 (updateSeq s.heap.objs.size (fun _ => #[]) >>= fun _ => letGo (#[] : Array Value).toList.reverse >>= fun _ => Builtin.List.listExtendWith (.ref s.heap.objs.size) (.ref I) .none) _ _ _
  refine wpAny_bind (wpAny_updateSeq hS rfl ?_)
  have hS₂ := Heap.get?_update_self (Obj.mapSeq (fun _ => (#[] : Array Value))) hS rfl
  have oth : ∀ b o, b ≠ s.heap.objs.size → (s.heap.push { cls := .type "list", data := .seq #[] }).get? b = some o → ((s.heap.push { cls := .type "list", data := .seq #[] }).update s.heap.objs.size (Obj.mapSeq (fun _ => (#[] : Array Value)))).get? b = some o :=
    fun b o hb e => (Heap.get?_update_other _ _ (Ne.symm hb)).trans e
  have hT : Shared.TypeIs { s with heap := (s.heap.push { cls := .type "list", data := .seq #[] }).update s.heap.objs.size (Obj.mapSeq (fun _ => (#[] : Array Value))) } (.ref I) "generator" := by
    obtain ⟨o, _, _, ho, hc, _⟩ := hI1
    exact ⟨o, oth _ _ (Ne.symm hSI) ho, hc⟩
  have hI2 : Heap.IsGen ((s.heap.push { cls := .type "list", data := .seq #[] }).update s.heap.objs.size (Obj.mapSeq (fun _ => (#[] : Array Value)))) I g := by
    obtain ⟨o, nm, qn, ho, hc⟩ := hI1
    exact ⟨o, nm, qn, oth _ _ (Ne.symm hSI) ho, hc⟩
  refine wpAny_bind (wpAny_letGo ?_)
  unfold Builtin.List.listExtendWith
  refine wpAny_bind (wpAny_typeOf hT ?_)
  have h1 : Builtin.List.listSameRef (.ref s.heap.objs.size) (.ref I) = false := by simp [Builtin.List.listSameRef, hSI]
  have h2 : (Value.type "generator" == Value.type "list") = false := by decide
  have h3 : (Value.type "generator" == Value.type "tuple") = false := by decide
  simp only [h1, h2, h3, Bool.or_false, Bool.false_eq_true, if_false]
  refine wpAny_bind (wpAny_pyIter_gen hI2 ?_)
  refine wpAny_bind (wpAny_holding ?_)
  unfold Builtin.List.listLengthHint
  refine wpAny_bind (wpAny_specialOf hT PySem.F.gen_no_len ?_)
  show wpAny _ A.in1.in1 (specialOf (Value.ref I) (Str.ofString "__length_hint__") >>= _) _ _ _
  refine wpAny_bind (wpAny_specialOf hT PySem.F.gen_no_hint ?_)
  refine wpAny_pure ?_
  show wpAny _ A.in1.in1 (rule "list.extend.makes-room" >>= fun _ => Builtin.List.listTouch (.ref s.heap.objs.size) >>= fun _ =>
    again (.builtin "list.extend.loop" ⟨[.ref s.heap.objs.size, .ref I, .none], []⟩)) _ _ _
  refine wpAny_bind (wpAny_rule ?_)
  refine wpAny_bind ?_
  show wpAny _ A.in1.in1 (updateSeq s.heap.objs.size (·.push .none) >>= fun _ => updateSeq s.heap.objs.size (·.pop)) _ _ _
  refine wpAny_bind (wpAny_updateSeq hS₂ rfl ?_)
  have hS₃ := Heap.get?_update_self (Obj.mapSeq (·.push Value.none)) hS₂ rfl
  refine wpAny_updateSeq (hz := by seq_fits) hS₃ rfl ?_
  have hS₄ := Heap.get?_update_self (Obj.mapSeq (·.pop)) hS₃ rfl
  refine wpAny_pure ⟨plainId_quiet PySem.F.plain_extend_loop _, ext_loop (A := A.in1) (R := _) step .none (fun acc c s' hf hs' => ⟨rfl, hQ acc c s' hf hs'⟩) k #[] _ _ (start _ _ (fun b o e => ?_) hS₄)⟩
  have hb : b ≠ s.heap.objs.size := Nat.ne_of_lt (Heap.lt_size e)
  exact (Heap.get?_update_other _ _ (Ne.symm hb)).trans ((Heap.get?_update_other _ _ (Ne.symm hb)).trans (oth b o hb (Heap.get?_push_of_some _ e)))
end
end

section
set_option maxRecDepth 100000
/-- the end of a walk inside the generator's frame -/
def GEnd (g : Heap) (Lg : Addr) (L : List (Addr × Obj)) (mp : (Str → Option Value) → Prop) (s s' : Shared) : Prop :=
  ∃ h' tk m', s' = { s with heap := h', toks := tk } ∧ Fr g Lg h' m' ∧ News g Lg h' L ∧ mp m'
abbrev riO (x left : Int) : Obj := { cls := .type "range_iterator", dict := none, data := .fields #[rawInt x, rawInt left, rawInt 1], slots := #[] }
section
variable {g h h' : Heap} {Lg a : Addr} {m : Str → Option Value} {L : List (Addr × Obj)}
theorem fr_but (F : Fr g Lg h m) (hL : Lg ≠ a) (hg : g.get? a = none) (hk : ∀ b o, b ≠ a → h.get? b = some o → h'.get? b = some o) : Fr g Lg h' m :=
  ⟨F.ns.at' fun o e => hk _ o hL e, fun b o e => hk b o (fun q => by rw [q, hg] at e; cases e) (F.keep b o e), F.above⟩
theorem news_but (N : News g Lg h L) (ho : ∀ p ∈ L, p.1 ≠ a) (hk : ∀ b o, b ≠ a → h.get? b = some o → h'.get? b = some o) : News g Lg h' L := fun p hp => ⟨hk _ _ (ho p hp) (N p hp).1, (N p hp).2⟩
theorem news_cons {p : Addr × Obj} (N : News g Lg h L) (h1 : h.get? p.1 = some p.2) (h2 : p.1 ≠ Lg) (h3 : g.get? p.1 = none) : News g Lg h (p :: L) := fun q hq => by
  rcases List.mem_cons.mp hq with rfl | hq
  · exact ⟨h1, h2, h3⟩
  · exact N q hq
/-- one object of the ledger is set anew -/
theorem news_set {o o' : Obj} (N : News g Lg h ((a, o) :: L)) (ho : ∀ p ∈ L, p.1 ≠ a) (ha : h'.get? a = some o') (hk : ∀ b o, b ≠ a → h.get? b = some o → h'.get? b = some o) : News g Lg h' ((a, o') :: L) :=
  news_cons (news_but (fun p hp => N p (List.mem_cons_of_mem _ hp)) ho hk) ha (N _ (List.mem_cons_self ..)).2.1 (N _ (List.mem_cons_self ..)).2.2
theorem fr_set {o : Obj} (F : Fr g Lg h m) (N : News g Lg h ((a, o) :: L)) (hk : ∀ b o, b ≠ a → h.get? b = some o → h'.get? b = some o) : Fr g Lg h' m :=
  fr_but F (Ne.symm (N _ (List.mem_cons_self ..)).2.1) (N _ (List.mem_cons_self ..)).2.2 hk
end
def outD (tst : Nat → Bool) (d : Nat → Dat) : Nat → List Dat
  | 0 => []
  | i + 1 => outD tst d i ++ (if tst i = true then [d i] else [])
theorem outD_len (tst : Nat → Bool) (d : Nat → Dat) : ∀ i, (outD tst d i).length ≤ i
  | 0 => Nat.le_refl _
  | i + 1 => by
    have := outD_len tst d i
    unfold outD
    rw [List.length_append]
    split
    · simp only [List.length_cons, List.length_nil]; omega
    · simp only [List.length_nil]; omega

/-- the generator function's text, laid open -/
structure GTxt where
  env : Env
  doc : Stmt
  st1 : Stmt
  px : Pos
  iter : Expr
  b0 : Stmt
  test : Expr
  ye : Expr
  yp : Pos
  ep : Pos
  ip : Pos
  rest : List Stmt
  fp : Pos
def GTxt.tgt (G : GTxt) : Expr := .Name (Str.ofString "index") G.px
def GTxt.lbody (G : GTxt) : List Stmt := G.b0 :: .If G.test [.Expr (.Yield (some G.ye) G.yp) G.ep] [] G.ip :: G.rest
def GTxt.body (G : GTxt) : List Stmt := [G.doc, G.st1, .For G.tgt G.iter G.lbody [] G.fp]
def GTxt.fcode (G : GTxt) : Code := .func G.body G.env
def GTxt.lcode (G : GTxt) (RI : Addr) : Code := .forLoop G.tgt (.ref RI) G.lbody [] G.env
abbrev K0 (f : Flow) : Sem Fin := .pure (.done (.ret (match f with | .ret v => v | _ => .none)))
abbrev H0 (env : Env) (e : Value) : Sem Fin := (leaving env e).wrap (fun _ => .raise e) .raise id id
abbrev K1 (env : Env) (f : Flow) : Sem Fin := match f with | .next => (execs [] env).wrap K0 (H0 env) id id | f => K0 f
def GTxt.frame (G : GTxt) (p : Pos) : Frame := forFrame (K1 G.env) (H0 G.env) id id G.fcode p G.env
/-- how the generator goes on after a yield -/
def GTxt.cont (G : GTxt) (RI : Addr) : Sem Fin := (execs G.rest G.env).wrap (turnK G.tgt (.ref RI) G.lbody G.env) (turnH G.env) id id

section
variable (s0 : Shared) (g : Heap) (Lg S ga : Addr) (gO : Obj) (led : List (Addr × Obj)) (n : Nat) (BM : (Str → Option Value) → Prop) (PM CM : Nat → (Str → Option Value) → Prop) (tst : Nat → Bool) (dd : Nat → Dat) (G : GTxt)
structure LoopSt (i : Nat) (RI : Addr) (acc : Array Value) (c : Nat) (tl : List (Addr × Obj)) (h : Heap) (m : Str → Option Value) : Prop where
  F : Fr g Lg h m
  N : News g Lg h ((S, lstO acc c) :: (RI, riO i ((n : Int) - i)) :: (ga, gO) :: (led ++ tl))
  off : ∀ p ∈ (ga, gO) :: (led ++ tl), p.1 ≠ S ∧ p.1 ≠ RI
  ne : S ≠ RI
def GFresh (acc : Array Value) (c : Nat) (s : Shared) : Prop :=
  ∃ h tk m, s = { s0 with heap := h, toks := tk, gens := #[.fresh G.fcode] } ∧ acc = #[] ∧ Fr g Lg h m ∧ News g Lg h ((S, lstO acc c) :: (ga, gO) :: led) ∧ (∀ p ∈ (ga, gO) :: led, p.1 ≠ S) ∧ BM m
def GSusp (i : Nat) (acc : Array Value) (c : Nat) (s : Shared) : Prop :=
  ∃ h tk m RI tl kont l p cl pf, s = { s0 with heap := h, toks := tk, gens := #[.suspended kont l (G.lcode RI) p [G.frame pf] cl] } ∧ kont (.send .none) = G.cont RI ∧ 1 ≤ i ∧ i < n ∧
    LoopSt g Lg S ga gO led n (i + 1) RI acc c tl h m ∧ CM i m ∧ DatAll (led ++ tl) acc.toList (outD tst dd (i + 1))
def GSt (k : Nat) (acc : Array Value) (c : Nat) (s : Shared) : Prop :=
  (k = n + 1 ∧ GFresh s0 g Lg S ga gO led BM G acc c s) ∨ ∃ i, k = n - i ∧ GSusp s0 g Lg S ga gO led n CM tst dd G i acc c s
def GFn (acc : Array Value) (c : Nat) (s : Shared) : Prop :=
  ∃ h tk m tl, s = { s0 with heap := h, toks := tk, gens := #[.finished] } ∧ Fr g Lg h m ∧ News g Lg h ((S, lstO acc c) :: (ga, gO) :: (led ++ tl)) ∧ (∀ p ∈ (ga, gO) :: (led ++ tl), p.1 ≠ S) ∧ DatAll (led ++ tl) acc.toList (outD tst dd n)
end
section
variable {prog : Program} {w : World} {A : Around} {s0 : Shared} {g : Heap} {Lg S ga : Addr} {gO : Obj} {led : List (Addr × Obj)} {n : Nat} {BM : (Str → Option Value) → Prop} {PM CM : Nat → (Str → Option Value) → Prop} {tst : Nat → Bool} {dd : Nat → Dat} {G : GTxt}
theorem LoopSt.walk {i : Nat} {RI : Addr} {acc : Array Value} {c : Nat} {tl : List (Addr × Obj)} {h h' : Heap} {m m' : Str → Option Value} (X : LoopSt g Lg S ga gO led n i RI acc c tl h m)
    (F : Fr g Lg h' m') (N : News g Lg h' ((S, lstO acc c) :: (RI, riO i ((n : Int) - i)) :: (ga, gO) :: (led ++ tl))) : LoopSt g Lg S ga gO led n i RI acc c tl h' m' := ⟨F, N, X.off, X.ne⟩
theorem LoopSt.list {i : Nat} {RI : Addr} {acc acc' : Array Value} {c c' : Nat} {tl : List (Addr × Obj)} {h h' : Heap} {m : Str → Option Value} (X : LoopSt g Lg S ga gO led n i RI acc c tl h m)
    (hk : ∀ b o, b ≠ S → h.get? b = some o → h'.get? b = some o) (hS : h'.get? S = some (lstO acc' c')) : LoopSt g Lg S ga gO led n i RI acc' c' tl h' m :=
  ⟨fr_set X.F X.N hk, news_set X.N (fun p hp => by
    rcases List.mem_cons.mp hp with rfl | hp
    · exact Ne.symm X.ne
    · exact (X.off p hp).1) hS hk, X.off, X.ne⟩

structure GW (prog : Program) (w : World) (A : Around) (g : Heap) (Lg : Addr) (led : List (Addr × Obj)) (n : Nat) (BM : (Str → Option Value) → Prop) (PM CM : Nat → (Str → Option Value) → Prop) (tst : Nat → Bool) (dd : Nat → Dat) (G : GTxt) : Prop where
  hh : A.handled = none
  t0 : tst 0 = false
  hx : G.env.kindOf (Str.ofString "index") = some .local
  hp : (G.env.scope.kind == .class || (G.env.scope.kind == .module && G.env.locals != G.env.globals)) = false
  hL : G.env.locals = Lg
  hco : G.env.scope.isCoroutine = false
  hi : interactive G.env = false
  hs : ∀ x, foldedSetIterable G.iter G.env x = pure x
  w0 : ∀ s m L E, BM m → Fr g Lg s.heap m → News g Lg s.heap L → (∀ q ∈ led, q ∈ L) → wpAny (model prog w) (A.over G.fcode []) (exec G.doc G.env) (fun f s' => f = .next ∧ GEnd g Lg L BM s s') E s
  w1 : ∀ s m L E, BM m → Fr g Lg s.heap m → News g Lg s.heap L → (∀ q ∈ led, q ∈ L) → wpAny (model prog w) (A.over G.fcode []) (exec G.st1 G.env) (fun f s' => f = .next ∧ GEnd g Lg L (PM 1) s s') E s
  w2 : ∀ s m L E, PM 1 m → Fr g Lg s.heap m → News g Lg s.heap L → (∀ q ∈ led, q ∈ L) → wpAny (model prog w) (A.over G.fcode []) (eval G.iter G.env) (fun v s' => ∃ R t u x, v = .ref R ∧ IsRange s'.heap R 1 n 1 t u x ∧ GEnd g Lg L (PM 1) s s') E s
  w3 : ∀ i RI p s m t L E, i < n → 1 ≤ i → PM i m → Fr g Lg s.heap (fun y => if y = Str.ofString "index" then some (.int i t) else m y) → News g Lg s.heap L → (∀ q ∈ led, q ∈ L) →
    wpAny (model prog w) (A.over (G.lcode RI) [G.frame p]) (exec G.b0 G.env) (fun f s' => f = .next ∧ GEnd g Lg L (CM i) s s') E s
  w4 : ∀ i RI p s m L E, i < n → 1 ≤ i → CM i m → Fr g Lg s.heap m → News g Lg s.heap L → (∀ q ∈ led, q ∈ L) →
    wpAny (model prog w) (A.over (G.lcode RI) [G.frame p]) (isTrue G.test G.env (eval G.test G.env)) (fun b s' => b = tst i ∧ GEnd g Lg L (CM i) s s') E s
  w5 : ∀ i RI p s m L E, i < n → 1 ≤ i → tst i = true → CM i m → Fr g Lg s.heap m → News g Lg s.heap L → (∀ q ∈ led, q ∈ L) →
    wpAny (model prog w) (A.over (G.lcode RI) [G.frame p]) (eval G.ye G.env) (fun v s' => ∃ T o, v = .ref T ∧ DatIn ((T, o) :: led) v (dd i) ∧ (∀ q ∈ L, q.1 < T) ∧ GEnd g Lg ((T, o) :: L) (CM i) s s') E s
  w6 : ∀ i RI p s m L E, i < n → 1 ≤ i → CM i m → Fr g Lg s.heap m → News g Lg s.heap L → (∀ q ∈ led, q ∈ L) →
    wpAny (model prog w) (A.over (G.lcode RI) [G.frame p]) (execs G.rest G.env) (fun f s' => f = .next ∧ GEnd g Lg L (PM (i + 1)) s s') E s

theorem led_in {x y z : Addr × Obj} {tl : List (Addr × Obj)} : ∀ q ∈ led, q ∈ x :: y :: z :: (led ++ tl) := fun _ hq => List.mem_cons_of_mem _ (List.mem_cons_of_mem _ (List.mem_cons_of_mem _ (List.mem_append.mpr (.inl hq))))

theorem rest_sg {P : End → Shared → Prop} (W : GW prog w A g Lg led n BM PM CM tst dd G) {i : Nat} {RI : Addr} {acc : Array Value} {c : Nat} {tl : List (Addr × Obj)} {p : Pos} (hi : i < n) (h1 : 1 ≤ i) (s : Shared) (m : Str → Option Value)
    (X : LoopSt g Lg S ga gO led n (i + 1) RI acc c tl s.heap m) (hC : CM i m)
    (next : ∀ h tk m', LoopSt g Lg S ga gO led n (i + 1) RI acc c tl h m' → PM (i + 1) m' → Sg (model prog w) A (G.lcode RI) ((model prog w).den (G.lcode RI)) [G.frame p] { s with heap := h, toks := tk } P) :
    Sg (model prog w) A (G.lcode RI) (G.cont RI) [G.frame p] s P := by
  refine sg_rest (wpAny_mono (W.w6 i RI p s m _ _ hi h1 hC X.F X.N led_in) (fun f s' h => ?_) fun _ _ e => e)
  obtain ⟨rfl, h', tk', m', rfl, F', N', hP⟩ := h
  exact ⟨rfl, sg_again rfl (next h' tk' m' (X.walk F' N') hP)⟩

theorem loop_sg (W : GW prog w A g Lg led n BM PM CM tst dd G) (hn : n ≤ 12) {kk : Nat} {acc : Array Value} {RI : Addr} {p : Pos} :
    ∀ (k i : Nat) (h : Heap) (tk c : Nat) (tl : List (Addr × Obj)) (m : Str → Option Value), n - i = k → i ≤ n → 1 ≤ i → n - i < kk →
      LoopSt g Lg S ga gO led n i RI acc c tl h m → PM i m → DatAll (led ++ tl) acc.toList (outD tst dd i) →
      Sg (model prog w) A (G.lcode RI) ((model prog w).den (G.lcode RI)) [G.frame p] { s0 with heap := h, toks := tk, gens := #[.running] }
        (NextBack (GTurn S (GSt s0 g Lg S ga gO led n BM CM tst dd G) (GFn s0 g Lg S ga gO led n tst dd) kk acc) 0) := by
  intro k
  induction k with
  | zero =>
    intro i h tk c tl m hk hi h1 hkk X hP hD
    have e : i = n := by omega
    subst e
    refine sg_turn (wpAny_pyNext_range_end (x := i) (left := (i : Int) - i) (step := 1) W.hh (X.N _ (List.mem_cons_of_mem _ (List.mem_cons_self ..))).1 (by omega) fun h' hx => ?_)
    have hk' : ∀ b o, b ≠ RI → h.get? b = some o → h'.get? b = some o := fun b o hb e => hx b o hb e
    refine sg_leaf (.ok .next) (show Sg _ A G.fcode (leafOf (.ok (.ret .none))) [] _ _ from sg_end _ ⟨rfl, fun h₂ hk₂ => ?_⟩)
    have hk3 : ∀ b o, b ≠ RI → h.get? b = some o → h₂.get? b = some o := fun b o hb e => hk₂ b o (hk' b o hb e)
    have hRI := X.N _ (List.mem_cons_of_mem _ (List.mem_cons_self ..))
    have N2 : News g Lg h ((S, lstO acc c) :: (ga, gO) :: (led ++ tl)) := News.sub X.N fun p hp => by
      rcases List.mem_cons.mp hp with rfl | hp
      · exact List.mem_cons_self ..
      · exact List.mem_cons_of_mem _ (List.mem_cons_of_mem _ hp)
    have N3 := news_but N2 (fun p hp => by
      rcases List.mem_cons.mp hp with rfl | hp
      · exact X.ne
      · exact (X.off p hp).2) hk3
    exact ⟨c, (N3 _ (List.mem_cons_self ..)).1, h₂, tk, m, tl, rfl, fr_but X.F (Ne.symm hRI.2.1) hRI.2.2 hk3, N3, fun p hp => (X.off p hp).1, hD⟩
  | succ k ih =>
    intro i h tk c tl m hk hi h1 hkk X hP hD
    have hlt : i < n := by omega
    have hRI := X.N _ (List.mem_cons_of_mem _ (List.mem_cons_self ..))
    refine sg_turn (wpAny_pyNext_range_item (x := i) (left := (n : Int) - i) (step := 1) hRI.1 (by omega) fun h₁ hr₁ hs₁ => ?_)
    have hk₁ : ∀ b o, b ≠ RI → h.get? b = some o → h₁.get? b = some o := fun b o hb e => hs₁.extBut b o hb e
    have X1 : LoopSt g Lg S ga gO led n (i + 1) RI acc c tl h₁ m := by
      refine ⟨fr_but X.F (Ne.symm hRI.2.1) hRI.2.2 hk₁, ?_, X.off, X.ne⟩
      have hr₂ : h₁.get? RI = some (riO ((i + 1 : Nat) : Int) ((n : Int) - ((i + 1 : Nat) : Int))) := by
        rw [show ((i + 1 : Nat) : Int) = (i : Int) + 1 from by omega, show (n : Int) - ((i : Int) + 1) = (n : Int) - i - 1 from by omega]; exact hr₁
      have N2 : News g Lg h ((RI, riO i ((n : Int) - i)) :: (S, lstO acc c) :: (ga, gO) :: (led ++ tl)) := News.sub X.N fun p hp => by
        rcases List.mem_cons.mp hp with rfl | hp
        · exact List.mem_cons_of_mem _ (List.mem_cons_self ..)
        rcases List.mem_cons.mp hp with rfl | hp
        · exact List.mem_cons_self ..
        · exact List.mem_cons_of_mem _ (List.mem_cons_of_mem _ hp)
      refine News.sub (news_set N2 (fun p hp => ?_) hr₂ hk₁) fun p hp => ?_
      · rcases List.mem_cons.mp hp with rfl | hp
        · exact X.ne
        · exact (X.off p hp).2
      · rcases List.mem_cons.mp hp with rfl | hp
        · exact List.mem_cons_of_mem _ (List.mem_cons_self ..)
        rcases List.mem_cons.mp hp with rfl | hp
        · exact List.mem_cons_self ..
        · exact List.mem_cons_of_mem _ (List.mem_cons_of_mem _ hp)
    refine wpAny_storeName_local W.hx (W.hL ▸ X1.F.ns) (fun h₂ hn₂ hs₂ => ?_) W.hp
    have hs₃ : Heap.SameBut Lg h₁ h₂ := W.hL ▸ hs₂
    have F2 := X1.F.set (W.hL ▸ hn₂) hs₃
    have N2 := X1.N.set hs₃
    refine sg_one (wpAny_mono (W.w3 i RI p _ m tk _ _ hlt h1 hP F2 N2 led_in) (fun f s' hE => ?_) fun _ _ e => e)
    obtain ⟨rfl, h₃, tk₃, m₃, rfl, F3, N3, hC⟩ := hE
    refine ⟨rfl, sg_cons (sg_If (wpAny_mono (W.w4 i RI p _ m₃ _ _ hlt h1 hC F3 N3 led_in) (fun b s' hE => ?_) fun _ _ e => e))⟩
    obtain ⟨rfl, h₄, tk₄, m₄, rfl, F4, N4, hC4⟩ := hE
    have X4 := X1.walk F4 N4
    by_cases ht : tst i = true
    · rw [if_pos ht]
      refine sg_cons (sg_Yield rfl rfl rfl (wpAny_mono (W.w5 i RI p _ m₄ _ _ hlt h1 ht hC4 F4 N4 led_in) (fun v s' hE => ?_) fun _ _ e => e) W.hco W.hi)
      obtain ⟨T, o, rfl, hDT, hTl, h₅, tk₅, m₅, rfl, F5, N5, hC5⟩ := hE
      intro g' l' kont p' hkont
      have hS5 := (N5 _ (List.mem_cons_of_mem _ (List.mem_cons_self ..))).1
      have hsz : acc.size ≤ i := by
        have := hD.length
        rw [Array.length_toList] at this
        rw [this]; exact outD_len tst dd i
      refine ⟨c, hS5, n - i, hkk, by rw [sizeLine_eq]; omega, fun h₆ c' hk₆ hS₆ => .inr ⟨i, rfl, h₆, tk₅, m₅, RI, (T, o) :: tl, kont, l', p', _, p, rfl, hkont, h1, hlt, ?_, hC5, ?_⟩⟩
      · have X5 : LoopSt g Lg S ga gO led n (i + 1) RI acc c ((T, o) :: tl) h₅ m₅ := by
          refine ⟨F5, News.sub N5 fun q hq => ?_, fun q hq => ?_, X.ne⟩
          · simp only [List.mem_cons, List.mem_append] at hq ⊢
            rcases hq with h | h | h | h | h | h
            · exact .inr (.inl h)
            · exact .inr (.inr (.inl h))
            · exact .inr (.inr (.inr (.inl h)))
            · exact .inr (.inr (.inr (.inr (.inl h))))
            · exact .inl h
            · exact .inr (.inr (.inr (.inr (.inr h))))
          · simp only [List.mem_cons, List.mem_append] at hq
            have old : q ∈ (ga, gO) :: (led ++ tl) → q.1 ≠ S ∧ q.1 ≠ RI := X.off q
            simp only [List.mem_cons, List.mem_append] at old
            rcases hq with h | h | h | h
            · exact old (.inl h)
            · exact old (.inr (.inl h))
            · subst h
              exact ⟨Nat.ne_of_gt (hTl _ (List.mem_cons_self ..)), Nat.ne_of_gt (hTl _ (List.mem_cons_of_mem _ (List.mem_cons_self ..)))⟩
            · exact old (.inr (.inr h))
        exact X5.list hk₆ hS₆
      · rw [Array.toList_push]
        unfold outD
        rw [if_pos ht]
        refine DatAll.snocOf (DatAll.mono (fun q hq => ?_) hD) (DatIn.mono (fun q hq => ?_) hDT)
        · rcases List.mem_append.mp hq with h | h
          · exact List.mem_append.mpr (.inl h)
          · exact List.mem_append.mpr (.inr (List.mem_cons_of_mem _ h))
        · rcases List.mem_cons.mp hq with rfl | h
          · exact List.mem_append.mpr (.inr (List.mem_cons_self ..))
          · exact List.mem_append.mpr (.inl h)
    · rw [if_neg ht]
      refine rest_sg W hlt h1 { s0 with heap := h₄, toks := tk₄, gens := #[.running] } m₄ X4 hC4 fun h₅ tk₅ m₅ X5 hP5 => ?_
      refine ih (i + 1) h₅ tk₅ c tl m₅ (by omega) hlt (by omega) (by omega) X5 hP5 ?_
      unfold outD
      rw [if_neg ht, List.append_nil]
      exact hD

theorem small_of : ∀ n : Nat, n ≤ 12 → Builtin.Range.small 1 n 1 = true := by decide
theorem size_of : ∀ n : Nat, n ≤ 12 → 1 ≤ n → Builtin.Range.rangeSize 1 n 1 = (n : Int) - 1 := by decide

theorem gen_step (W : GW prog w A.in1 g Lg led n BM PM CM tst dd G) (hn : n ≤ 12) (hn1 : 1 ≤ n) (hroom : A.depth < recursionLimit) (hlim : g.NoLimit) {nm qn : Str} {t u : Tok} (hgO : gO = genO 0 nm qn t u)
    {k : Nat} {acc : Array Value} {c : Nat} {s : Shared} {E : Value → Shared → Prop} (hst : GSt s0 g Lg S ga gO led n BM CM tst dd G k acc c s) :
    wpAny (model prog w) A (pyNext (.ref ga)) (GTurn S (GSt s0 g Lg S ga gO led n BM CM tst dd G) (GFn s0 g Lg S ga gO led n tst dd) k acc) E s := by
  subst hgO
  rcases hst with ⟨rfl, h, tk, m, rfl, rfl, F, N, hoff, hB⟩ | ⟨i, rfl, h, tk, m, RI, tl, kont, l, p, cl, pf, rfl, hk, h1, hlt, X, hC, hD⟩
  · have hg := N _ (List.mem_cons_of_mem _ (List.mem_cons_self ..))
    refine next_gen (g := 0) (gs := .fresh G.fcode) W.hh (hlim.keeps F.keep) hroom ⟨_, _, _, hg.1, rfl, rfl, rfl⟩ rfl ?_
    have inL : ∀ q ∈ led, q ∈ (S, lstO #[] c) :: (ga, genO 0 nm qn t u) :: led := fun q hq => List.mem_cons_of_mem _ (List.mem_cons_of_mem _ hq)
    show Sg _ A.in1 G.fcode _ [] { s0 with heap := h, toks := tk, gens := #[.running] } _
    refine sg_func (sg_one (wpAny_mono (W.w0 _ m _ _ hB F N inL) (fun f s' hE => ?_) fun _ _ e => e))
    obtain ⟨rfl, h₁, tk₁, m₁, rfl, F1, N1, hB1⟩ := hE
    refine ⟨rfl, sg_one (wpAny_mono (W.w1 _ m₁ _ _ hB1 F1 N1 inL) (fun f s' hE => ?_) fun _ _ e => e)⟩
    obtain ⟨rfl, h₂, tk₂, m₂, rfl, F2, N2, hP2⟩ := hE
    refine ⟨rfl, sg_cons (sg_For (wpAny_mono (W.w2 _ m₂ _ _ hP2 F2 N2 inL) (fun v s' hE => ?_) fun _ _ e => e) W.hs)⟩
    obtain ⟨R, t1, t2, t3, rfl, hR, h₃, tk₃, m₃, rfl, F3, N3, hP3⟩ := hE
    refine wpAny_pyIter_range hR (small_of n hn) ?_
    intro p
    have F4 := F3.push (riO 1 (Builtin.Range.rangeSize 1 n 1))
    have N4 := N3.push F3 (riO 1 (Builtin.Range.rangeSize 1 n 1))
    rw [size_of n hn hn1] at F4 N4 ⊢
    have hnew : ∀ q ∈ (S, lstO #[] c) :: (ga, genO 0 nm qn t u) :: led, @LT.lt Nat _ q.1 h₃.objs.size := fun q hq => Heap.lt_size (N3 q hq).1
    refine loop_sg W hn (n - 1) 1 _ tk₃ c [] m₃ rfl hn1 (Nat.le_refl _) (by omega) ⟨F4, News.sub N4 fun q hq => ?_, fun q hq => ?_, Nat.ne_of_lt (hnew _ (List.mem_cons_self ..))⟩ hP3 (by
      have : outD tst dd 1 = [] := by
        show [] ++ (if tst 0 = true then [dd 0] else []) = []
        rw [W.t0]; rfl
      rw [this]; exact DatAll.nil)
    · rw [List.append_nil] at hq
      simp only [List.mem_cons] at hq ⊢
      rcases hq with h | h | h | h
      · exact .inr (.inl h)
      · exact .inl h
      · exact .inr (.inr (.inl h))
      · exact .inr (.inr (.inr h))
    · rw [List.append_nil] at hq
      exact ⟨hoff q hq, Nat.ne_of_lt (hnew q (List.mem_cons_of_mem _ hq))⟩
  · have hg := X.N _ (List.mem_cons_of_mem _ (List.mem_cons_of_mem _ (List.mem_cons_self ..)))
    refine next_gen (g := 0) (gs := .suspended kont l (G.lcode RI) p [G.frame pf] cl) W.hh (hlim.keeps X.F.keep) hroom ⟨_, _, _, hg.1, rfl, rfl, rfl⟩ rfl ?_
    show Sg _ A.in1 (G.lcode RI) (kont (.send .none)) [G.frame pf] { s0 with heap := h, toks := tk, gens := #[.running] } _
    rw [hk]
    refine rest_sg W hlt h1 { s0 with heap := h, toks := tk, gens := #[.running] } m X hC fun h₅ tk₅ m₅ X5 hP5 => ?_
    exact loop_sg W hn (n - (i + 1)) (i + 1) h₅ tk₅ c tl m₅ rfl hlt (by omega) (by omega) X5 hP5 hD

theorem gen_list {Q E : Value → Shared → Prop} {s : Shared} {m : Str → Option Value} {nm qn : Str} {t u : Tok} (W : GW prog w A.in1.in1.in1 g Lg led n BM PM CM tst dd G) (hn : n ≤ 12) (hn1 : 1 ≤ n) (hroom : A.in1.in1.depth < recursionLimit) (hlim : g.NoLimit)
    (F : Fr g Lg s.heap m) (hB : BM m) (N : News g Lg s.heap ((ga, genO 0 nm qn t u) :: led)) (hgens : s.gens = #[.fresh G.fcode])
    (hQ : ∀ acc c s', GFn s g Lg s.heap.objs.size ga (genO 0 nm qn t u) led n tst dd acc c s' → Q (.ref s.heap.objs.size) s') :
    wpAny (model prog w) A (call (.type "list") [.ref ga]) Q E s := by
  have hg := N _ (List.mem_cons_self ..)
  refine list_gen (S := s.heap.objs.size) (g := 0) (k := n + 1) (St := GSt s g Lg s.heap.objs.size ga (genO 0 nm qn t u) led n BM CM tst dd G) (Fn := GFn s g Lg s.heap.objs.size ga (genO 0 nm qn t u) led n tst dd) ⟨_, _, _, hg.1, rfl, rfl, rfl⟩ rfl (fun h' c' hk hS => .inl ⟨rfl, h', s.toks, m, ?_, rfl, ?_, ?_, ?_, hB⟩)
    (fun k acc c s' E hst => gen_step W hn hn1 hroom hlim rfl hst) (fun acc c s' hf _ => hQ acc c s' hf)
  · rw [← hgens]
  · exact ⟨F.ns.at' fun o e => hk _ o e, fun b o e => hk b o (F.keep b o e), F.above⟩
  · refine news_cons (fun p hp => ⟨hk _ _ (N p hp).1, (N p hp).2⟩) hS (Nat.ne_of_gt F.ns.lt) ?_
    cases e : g.get? s.heap.objs.size with
    | none => rfl
    | some o => exact absurd (Heap.lt_size (F.keep _ _ e)) (Nat.lt_irrefl _)
  · exact fun p hp => Nat.ne_of_lt (Heap.lt_size (N p hp).1)
end
theorem gend_of {g h' : Heap} {Lg : Addr} {L L' : List (Addr × Obj)} {mp : (Str → Option Value) → Prop} {s : Shared} {m' : Str → Option Value} {tk : Nat} (F : Fr g Lg h' m') (N : News g Lg h' L') (hs : ∀ p ∈ L, p ∈ L') (hm : mp m') :
    GEnd g Lg L mp s { s with heap := h', toks := tk } := ⟨h', tk, m', rfl, F, News.sub N hs, hm⟩
end

section
set_option maxRecDepth 100000
/-- a token's objects -/
structure TokD where
  T : Addr
  dx : Addr
  P1 : Addr
  P2 : Addr
  ln : Str
  t1 : Tok
  t2 : Tok
  t3 : Tok
  u1 : Tok
  u2 : Tok
  u3 : Tok
  u4 : Tok
abbrev wAt (ws : List Str) (i : Nat) : Str := ws.getD i Str.empty
def TokD.obj (d : TokD) (C : Addr) (kv : Str → Int) (wd : Str) : Obj := { cls := .ref C, dict := some d.dx, data := .seq #[.int (kv wd) d.t1, .str wd d.t2, .ref d.P1, .ref d.P2, .str d.ln d.t3] }
/-- the tokens stand in the ledger -/
structure ToksIn (C : Addr) (kv : Str → Int) (ws : List Str) (gs : List Int) (vs : List Value) (tl : List (Addr × Obj)) (D : Nat → TokD) : Prop where
  len : vs.length = ws.length
  val : ∀ j, j < ws.length → vs[j]? = some (.ref (D j).T)
  tok : ∀ j, j < ws.length → ((D j).T, (D j).obj C kv (wAt ws j)) ∈ tl
  p1 : ∀ j, j < ws.length → ((D j).P1, pairO 1 (startAt ws gs j) (D j).u1 (D j).u2) ∈ tl
  p2 : ∀ j, j < ws.length → ((D j).P2, pairO 1 (startAt ws gs j + ((wAt ws j).length : Int)) (D j).u3 (D j).u4) ∈ tl
theorem ToksR.data {C : Addr} {kv : Str → Int} {tl0 tl : List (Addr × Obj)} {ws : List Str} {gs : List Int} {vs : List Value} (h : ToksR C kv tl0 ws gs ws.length vs tl) : ∃ D, ToksIn C kv ws gs vs tl D := by
  have one : ∀ j, j < ws.length → ∃ d : TokD, vs[j]? = some (.ref d.T) ∧ (d.T, d.obj C kv (wAt ws j)) ∈ tl ∧ (d.P1, pairO 1 (startAt ws gs j) d.u1 d.u2) ∈ tl ∧ (d.P2, pairO 1 (startAt ws gs j + ((wAt ws j).length : Int)) d.u3 d.u4) ∈ tl := by
    intro j hj
    have hl : j < vs.length := by rw [h.2.1]; exact hj
    obtain ⟨T, dx, P1, P2, ln, t1, t2, t3, u1, u2, u3, u4, e, h1, h2, h3⟩ := h.2.2 j vs[j] (List.getElem?_eq_getElem hl)
    exact ⟨⟨T, dx, P1, P2, ln, t1, t2, t3, u1, u2, u3, u4⟩, by rw [List.getElem?_eq_getElem hl, e], h1, h2, h3⟩
  let D : Nat → TokD := fun j => if hj : j < ws.length then (one j hj).choose else ⟨0, 0, 0, 0, Str.empty, 0, 0, 0, 0, 0, 0, 0⟩
  have hD : ∀ j (hj : j < ws.length), D j = (one j hj).choose := fun j hj => dif_pos hj
  exact ⟨D, h.2.1, fun j hj => by rw [hD j hj]; exact (one j hj).choose_spec.1, fun j hj => by rw [hD j hj]; exact (one j hj).choose_spec.2.1, fun j hj => by rw [hD j hj]; exact (one j hj).choose_spec.2.2.1, fun j hj => by rw [hD j hj]; exact (one j hj).choose_spec.2.2.2⟩

section
variable (FD : Addr) (kv : Str → Int) (ws : List Str) (D : Nat → TokD)
def BMm (m : Str → Option Value) : Prop := m (Str.ofString "tokens") = some (.ref FD)
def PMm (i : Nat) (m : Str → Option Value) : Prop := (∃ t, m (Str.ofString "prev_type") = some (.int (kv (wAt ws (i - 1))) t)) ∧ (∃ t, m (Str.ofString "prev_text") = some (.str (wAt ws (i - 1)) t)) ∧ m (Str.ofString "prev_end") = some (.ref (D (i - 1)).P2) ∧ m (Str.ofString "tokens") = some (.ref FD)
def CMm (i : Nat) (m : Str → Option Value) : Prop := PMm FD kv ws D i m ∧ (∃ t, m (Str.ofString "index") = some (.int i t)) ∧ (∃ t, m (Str.ofString "token_type") = some (.int (kv (wAt ws i)) t)) ∧ (∃ t, m (Str.ofString "text") = some (.str (wAt ws i) t)) ∧
  m (Str.ofString "start") = some (.ref (D i).P1) ∧ m (Str.ofString "end") = some (.ref (D i).P2)
end

theorem News.dup {g h : Heap} {Lg : Addr} {L : List (Addr × Obj)} {p : Addr × Obj} (N : News g Lg h L) (hp : p ∈ L) : News g Lg h (p :: L) := fun q hq => (List.mem_cons.mp hq).elim (fun e => e ▸ N p hp) (N q)
theorem News.at_mem {g h : Heap} {Lg : Addr} {L : List (Addr × Obj)} {a : Addr} {o : Obj} (N : News g Lg h L) (hp : (a, o) ∈ L) : h.get? a = some o := (N _ hp).1
theorem know_eq {m : Str → Option Value} {u : Str} {d : Value} (h : m u = some d) : (fun k => if k = u then some d else m k) = m := funext fun k => by
  by_cases hk : k = u
  · rw [if_pos hk, hk, h]
  · rw [if_neg hk]
theorem Fr.know4 {h₀ h : Heap} {L : Addr} {m : Str → Option Value} {x y z u : Str} {a b c d : Value} (h1 : m x = some a) (h2 : m y = some b) (h3 : m z = some c) (h4 : m u = some d) (F : Fr h₀ L h m) :
    Fr h₀ L h (fun k => if k = x then some a else if k = y then some b else if k = z then some c else if k = u then some d else m k) := by
  have key : ∀ m', m' = m → Fr h₀ L h (fun k => if k = x then some a else if k = y then some b else if k = z then some c else m' k) := fun m' e => e ▸ Fr.know3 h1 h2 h3 F
  exact key _ (know_eq h4)
theorem Fr.know8 {h₀ h : Heap} {L : Addr} {m : Str → Option Value} {x y z u x2 y2 z2 u2 : Str} {a b c d a2 b2 c2 d2 : Value} (h1 : m x = some a) (h2 : m y = some b) (h3 : m z = some c) (h4 : m u = some d) (h5 : m x2 = some a2) (h6 : m y2 = some b2) (h7 : m z2 = some c2) (h8 : m u2 = some d2) (F : Fr h₀ L h m) :
    Fr h₀ L h (fun k => if k = x then some a else if k = y then some b else if k = z then some c else if k = u then some d else if k = x2 then some a2 else if k = y2 then some b2 else if k = z2 then some c2 else if k = u2 then some d2 else m k) := by
  have key : ∀ m', m' = m → Fr h₀ L h (fun k => if k = x then some a else if k = y then some b else if k = z then some c else if k = u then some d else m' k) := fun m' e => e ▸ Fr.know4 h1 h2 h3 h4 F
  exact key _ (funext fun k => by
    by_cases e1 : k = x2
    · rw [if_pos e1, e1, h5]
    by_cases e2 : k = y2
    · rw [if_neg e1, if_pos e2, e2, h6]
    by_cases e3 : k = z2
    · rw [if_neg e1, if_neg e2, if_pos e3, e3, h7]
    by_cases e4 : k = u2
    · rw [if_neg e1, if_neg e2, if_neg e3, if_pos e4, e4, h8]
    rw [if_neg e1, if_neg e2, if_neg e3, if_neg e4])
theorem Fr.know9 {h₀ h : Heap} {L : Addr} {m : Str → Option Value} {x y z u x2 y2 z2 u2 n : Str} {a b c d a2 b2 c2 d2 e : Value} (h1 : m x = some a) (h2 : m y = some b) (h3 : m z = some c) (h4 : m u = some d) (h5 : m x2 = some a2) (h6 : m y2 = some b2) (h7 : m z2 = some c2) (h8 : m u2 = some d2) (h9 : m n = some e) (F : Fr h₀ L h m) :
    Fr h₀ L h (fun k => if k = x then some a else if k = y then some b else if k = z then some c else if k = u then some d else if k = x2 then some a2 else if k = y2 then some b2 else if k = z2 then some c2 else if k = u2 then some d2 else if k = n then some e else m k) := by
  have key : ∀ m', m' = m → Fr h₀ L h (fun k => if k = x then some a else if k = y then some b else if k = z then some c else if k = u then some d else if k = x2 then some a2 else if k = y2 then some b2 else if k = z2 then some c2 else if k = u2 then some d2 else m' k) := fun m' e => e ▸ Fr.know8 h1 h2 h3 h4 h5 h6 h7 h8 F
  exact key _ (know_eq h9)
theorem Fr.know4u {h₀ h : Heap} {L : Addr} {m : Str → Option Value} {x y z u n : Str} {a b c d e : Value} (h1 : m x = some a) (h2 : m y = some b) (h3 : m z = some c) (h4 : m u = some d) (F : Fr h₀ L h (fun k => if k = n then some e else m k)) :
    Fr h₀ L h (fun k => if k = n then some e else if k = x then some a else if k = y then some b else if k = z then some c else if k = u then some d else m k) := by
  have key : (fun k => if k = n then some e else if k = x then some a else if k = y then some b else if k = z then some c else if k = u then some d else m k) = fun k => if k = n then some e else m k := funext fun k => by
    by_cases e0 : k = n
    · rw [if_pos e0, if_pos e0]
    rw [if_neg e0, if_neg e0]
    by_cases e1 : k = x
    · rw [if_pos e1, e1, h1]
    by_cases e2 : k = y
    · rw [if_neg e1, if_pos e2, e2, h2]
    by_cases e3 : k = z
    · rw [if_neg e1, if_neg e2, if_pos e3, e3, h3]
    by_cases e4 : k = u
    · rw [if_neg e1, if_neg e2, if_neg e3, if_pos e4, e4, h4]
    rw [if_neg e1, if_neg e2, if_neg e3, if_neg e4]
  rw [key]; exact F
theorem cm_of {FD : Addr} {kv : Str → Int} {ws : List Str} {D : Nat → TokD} {i : Nat} {m : Str → Option Value} {t1 t2 t3 t4 t5 : Tok} (h1 : m (Str.ofString "prev_type") = some (.int (kv (wAt ws (i - 1))) t1)) (h2 : m (Str.ofString "prev_text") = some (.str (wAt ws (i - 1)) t2)) (h3 : m (Str.ofString "prev_end") = some (.ref (D (i - 1)).P2)) (h4 : m (Str.ofString "tokens") = some (.ref FD))
    (h5 : m (Str.ofString "index") = some (.int i t3)) (h6 : m (Str.ofString "token_type") = some (.int (kv (wAt ws i)) t4)) (h7 : m (Str.ofString "text") = some (.str (wAt ws i) t5)) (h8 : m (Str.ofString "start") = some (.ref (D i).P1)) (h9 : m (Str.ofString "end") = some (.ref (D i).P2)) : CMm FD kv ws D i m :=
  ⟨⟨⟨t1, h1⟩, ⟨t2, h2⟩, h3, h4⟩, ⟨t3, h5⟩, ⟨t4, h6⟩, ⟨t5, h7⟩, h8, h9⟩
theorem pm_next {FD : Addr} {kv : Str → Int} {ws : List Str} {D : Nat → TokD} {i : Nat} {m : Str → Option Value} {t u : Tok} (h1 : m (Str.ofString "prev_type") = some (.int (kv (wAt ws i)) t)) (h2 : m (Str.ofString "prev_text") = some (.str (wAt ws i) u)) (h3 : m (Str.ofString "prev_end") = some (.ref (D i).P2)) (h4 : m (Str.ofString "tokens") = some (.ref FD)) : PMm FD kv ws D (i + 1) m :=
  ⟨⟨t, h1⟩, ⟨u, h2⟩, h3, h4⟩
theorem pm_first {FD : Addr} {kv : Str → Int} {ws : List Str} {D : Nat → TokD} {m : Str → Option Value} {t u : Tok} (h1 : m (Str.ofString "prev_type") = some (.int (kv (wAt ws 0)) t)) (h2 : m (Str.ofString "prev_text") = some (.str (wAt ws 0) u)) (h3 : m (Str.ofString "prev_end") = some (.ref (D 0).P2)) (h4 : m (Str.ofString "tokens") = some (.ref FD)) : PMm FD kv ws D 1 m :=
  ⟨⟨t, h1⟩, ⟨u, h2⟩, h3, h4⟩
section
variable {prog : Program} {w : World} {A : Around} {s : Shared} {E Q : Value → Shared → Prop} {h g : Heap} {Lg ga : Addr} {led : List (Addr × Obj)} {n : Nat} {BM : (Str → Option Value) → Prop} {PM CM : Nat → (Str → Option Value) → Prop} {tst : Nat → Bool} {dd : Nat → Dat}
theorem led_ref {value slice : Expr} {m : Str → Option Value} {L : List (Addr × Obj)} {FD : Addr} {vs : List Value} {c : Nat} {k : Int} {u : Tok} {a : Addr} (N : News g Lg s.heap L) (hm : (FD, listOf vs.toArray c) ∈ L) (h0 : 0 ≤ k) (hv : vs[k.toNat]? = some (.ref a)) (hfit : k < 2 ^ 63) (hq : Q (.ref a) s)
    (hs : subscripted slice false (.ref FD) (.int k u) = operate [.ref FD, .int k u] (getItem (.ref FD) (.int k u)) := by with_unfolding_all rfl) :
    wpAny (model prog w) A (subscriptTail value slice (.ref FD) (.int k u)) Q E s := by
  have hl : s.heap.IsList FD vs.toArray := ⟨_, (N _ hm).1, rfl, c, rfl⟩
  exact tail_any hl.typeIs slot_list_getitem.lookup (wpAny_getItem_list hl h0 hfit (by simpa using hv) hq) hs
theorem led_len {L : List (Addr × Obj)} {FD : Addr} {vs : List Value} {c k : Nat} (N : News g Lg s.heap L) (hm : (FD, listOf vs.toArray c) ∈ L) (hk : vs.length = k) (hfit : k ≤ 12) (hq : Q (.int k (s.toks + 1)) { s with toks := s.toks + 1 + 1 }) :
    wpAny (model prog w) A (call (.builtin "len") [.ref FD]) Q E s := by
  subst hk
  have hl : s.heap.IsList FD vs.toArray := ⟨_, (N _ hm).1, rfl, c, rfl⟩
  exact len_list hl (by rw [List.size_toArray]; omega) (by simpa using hq)
theorem gen_call {m : Str → Option Value} {nm qn : Str} {t u : Tok} {gens0 : Array GenState} {d : Drawn} {tk : Nat} {os : OsState} {env : Env} {doc st1 b0 : Stmt} {px yp ep ip fp : Pos} {iter test ye : Expr} {rest : List Stmt}
    (hg : gens0 = #[]) (hn : n ≤ 12) (hn1 : 1 ≤ n) (hroom : A.in1.in1.depth < recursionLimit) (hlim : g.NoLimit)
    (F : Fr g Lg h m) (hB : BM m) (N : News g Lg h ((ga, genO gens0.size nm qn t u) :: led))
    (W : GW prog w A.in1.in1.in1 g Lg led n BM PM CM tst dd ⟨env, doc, st1, px, iter, b0, test, ye, yp, ep, ip, rest, fp⟩)
    (hQ : ∀ acc c h' tk' m' tl, Fr g Lg h' m' → News g Lg h' ((h.objs.size, lstO acc c) :: (ga, genO 0 nm qn t u) :: (led ++ tl)) → (∀ p ∈ (ga, genO 0 nm qn t u) :: (led ++ tl), p.1 ≠ h.objs.size) → DatAll (led ++ tl) acc.toList (outD tst dd n) → Q (.ref h.objs.size) ⟨h', #[.finished], d, tk', os⟩) :
    wpAny (model prog w) A (call (.type "list") [.ref ga]) Q E ⟨h, gens0.push (.fresh (.func [doc, st1, .For (.Name (Str.ofString "index") px) iter (b0 :: .If test [.Expr (.Yield (some ye) yp) ep] [] ip :: rest) [] fp] env)), d, tk, os⟩ := by
  subst hg
  refine gen_list (s := ⟨h, #[.fresh (.func [doc, st1, .For (.Name (Str.ofString "index") px) iter (b0 :: .If test [.Expr (.Yield (some ye) yp) ep] [] ip :: rest) [] fp] env)], d, tk, os⟩) W hn hn1 hroom hlim F hB N rfl fun acc c s' hf => ?_
  obtain ⟨h', tk', m', tl, rfl, F', N', ho, hd⟩ := hf
  exact hQ acc c h' tk' m' tl F' N' ho hd
end
end

section
set_option maxRecDepth 100000
/-- the class reads and walks as tuple does -/
def tupLikeIn (K : Frag) (C : Addr) : Bool := findIn K (.ref C) "__iter__" == some (some (.builtin "tuple.__iter__")) && findIn K (.ref C) "__getitem__" == some (some (.builtin "tuple.__getitem__")) && mroIn K C (.type "tuple") == some true && mroIn K C (.type "collections.deque") == some false
section
variable {prog : Program} {w : World} {A : Around} {E : Value → Shared → Prop} {s : Shared} {C T dx it : Addr} {K : Frag} {vs : List Value}
theorem like_iter {Q : Value → Shared → Prop} (X : K.In s.heap) (hC : tupLikeIn K C = true) (ho : s.heap.get? T = some (tupInst C dx vs))
    (hQ : Q (.ref s.heap.objs.size) { s with heap := s.heap.push { cls := .type "tuple_iterator", data := .fields #[.ref T, .int 0 0] } }) :
    wpAny (model prog w) A (pyIter (.ref T)) Q E s := by
  unfold tupLikeIn at hC
  simp only [Bool.and_eq_true, beq_iff_eq] at hC
  obtain ⟨⟨⟨h1, h2⟩, h3⟩, -⟩ := hC
  have t1 : Looks (model prog w) s.heap (typeOf (.ref T)) (.ref C) := (Looks.ld ho).andThen .now
  have i1 := looks_findIn (M := model prog w) X h1
  have sp : Looks (model prog w) s.heap (specialOf (.ref T) "__iter__") (some (.builtin "tuple.__iter__")) := t1.andThen i1
  have sub : Looks (model prog w) s.heap (isInstance (.ref T) (.type "tuple")) true := t1.andThen (looks_mroIn X h3)
  unfold pyIter
  refine wpAny_bind (sp.here ?_)
  show wpAny _ A (callSpecialIfBoundUnlessNone? (.ref T) "__iter__" _ >>= _) Q E s
  refine wpAny_bind ?_
  simp only [callSpecialIfBoundUnlessNone?, bindSpecialIfBound?]
  refine wpAny_holding (wpAny_bind (wpAny_bind (sp.here ?_)))
  simp only [PySem.F.slot_tuple_iter.bind]
  refine wpAny_bind (wpAny_askSetting (wpAny_ite ?_))
  have made : ∀ (Q' : Value → Shared → Prop), Q' (.ref s.heap.objs.size) { s with heap := s.heap.push { cls := .type "tuple_iterator", data := .fields #[.ref T, .int 0 0] } } → wpAny (model prog w) A (call (.builtin "tuple.__iter__") [.ref T]) Q' E s := fun Q' hq => by
    refine wpAny_call (codeAny_call_builtin PySem.F.slot_tuple_iter.plain PySem.F.entry_tuple_iter (@check_slot (model prog w) _ _ _ "tuple.__iter__" "tuple" "__iter__" (.ref T) [] [] _ (by decide +kernel) (by decide +kernel) sub (PySem.F.args_tuple_iter_1 _) ?_))
    show wpAny _ _ (do ret (← newFields "tuple_iterator" [.ref T, rawInt 0])) _ _ s
    exact wpAny_bind (wpAny_newObj_type (wpAny_pure hq))
  have tail : Q (.ref s.heap.objs.size) { s with heap := s.heap.push { cls := .type "tuple_iterator", data := .fields #[.ref T, .int 0 0] } } → wpAny (model prog w) A (specialOf (.ref s.heap.objs.size) "__next__") (fun r s' => wpAny (model prog w) A (match r with
      | none => (do rule "iter.non-iterator"; raiseError "TypeError" s!"iter() returned non-iterator of type '{← PySem.typeNameOf (.ref s.heap.objs.size)}'")
      | some _ => pure (.ref s.heap.objs.size)) Q E s') E { s with heap := s.heap.push { cls := .type "tuple_iterator", data := .fields #[.ref T, .int 0 0] } } := fun hq =>
    wpAny_specialOf (T := "tuple_iterator") ⟨_, Heap.get?_push_size _ rfl, rfl⟩ PySem.F.slot_tuple_iterator_next.lookup (wpAny_pure hq)
  split
  · refine wpAny_bind (wpAny_pure (wpAny_pure ?_))
    simp only [builtin_beq_none, Bool.false_eq_true, if_false]
    exact wpAny_bind (made _ (wpAny_pure (wpAny_bind (tail hQ))))
  · refine wpAny_tryCatch (wpAny_bind (wpAny_pure (wpAny_pure ?_)))
    simp only [builtin_beq_none, Bool.false_eq_true, if_false]
    exact wpAny_bind (made _ (wpAny_pure (wpAny_bind (tail hQ))))

theorem like_item {i : Nat} {x : Value} {Q : Option Value → Shared → Prop} (hit : s.heap.IsTupleIter it T i) (ho : s.heap.get? T = some (tupInst C dx vs)) (hx : vs[i]? = some x)
    (hQ : ∀ h', h'.IsTupleIter it T (i + 1) → Heap.SameBut it s.heap h' → Q (some x) { s with heap := h' }) : wpAny (model prog w) A (pyNext (.ref it)) Q E s := by
  obtain ⟨o, hio, hc, hd⟩ := id hit
  unfold pyNext
  refine wpAny_bind (wpAny_attempt (wpAny_callSpecial?_slot (name := Str.ofString "__next__") hit.typeIs PySem.F.slot_tuple_iterator_next
    (wpAny_call_entry PySem.F.slot_tuple_iterator_next hit.typeIs PySem.F.entry_tuple_iterator_next ?_ (PySem.F.args_tuple_iterator_next_1 _))))
  show wpAny _ _ (field (.ref it) 0 >>= _) _ _ s
  refine wpAny_bind (wpAny_field hio hd (x := .ref T) rfl ?_)
  show wpAny _ _ (if (Value.ref T == Value.none) = true then _ else _) _ _ s
  rw [if_neg (show ¬ ((Value.ref T == Value.none) = true) from Bool.false_ne_true)]
  show wpAny _ _ (field (.ref it) 1 >>= _) _ _ s
  refine wpAny_bind (wpAny_field hio hd (x := .int i 0) rfl ?_)
  show wpAny _ _ (seqItems? (.ref T) >>= _) _ _ s
  have hx' : vs.toArray[i]? = some x := by simpa using hx
  refine wpAny_bind (wpAny_seqItems ho rfl ?_)
  simp only [Int.toNat_natCast, hx']
  refine wpAny_bind (wpAny_setField hio hd (by simp) (wpAny_pure ⟨x, rfl, wpAny_pure (hQ _ ?_ (Heap.SameBut.update ..))⟩))
  exact ⟨_, Heap.get?_update_self _ hio (Obj.isFreed_of_fields (Obj.data_mapFields hd _)), (Obj.cls_mapFields ..).trans hc, by rw [Obj.data_mapFields hd]; simp [rawInt]⟩

theorem like_end {i : Nat} {Q : Option Value → Shared → Prop} (hh : A.handled = none) (hit : s.heap.IsTupleIter it T i) (ho : s.heap.get? T = some (tupInst C dx vs)) (hx : vs[i]? = none)
    (hQ : ∀ h', Heap.ExtBut it s.heap h' → Q none { s with heap := h' }) : wpAny (model prog w) A (pyNext (.ref it)) Q E s := by
  obtain ⟨o, hio, hc, hd⟩ := id hit
  unfold pyNext
  refine wpAny_bind (wpAny_attempt (wpAny_callSpecial?_slot (name := Str.ofString "__next__") hit.typeIs PySem.F.slot_tuple_iterator_next
    (wpAny_call_entry PySem.F.slot_tuple_iterator_next hit.typeIs PySem.F.entry_tuple_iterator_next ?_ (PySem.F.args_tuple_iterator_next_1 _))))
  show wpAny _ _ (field (.ref it) 0 >>= _) _ _ s
  refine wpAny_bind (wpAny_field hio hd (x := .ref T) rfl ?_)
  show wpAny _ _ (if (Value.ref T == Value.none) = true then _ else _) _ _ s
  rw [if_neg (show ¬ ((Value.ref T == Value.none) = true) from Bool.false_ne_true)]
  show wpAny _ _ (field (.ref it) 1 >>= _) _ _ s
  refine wpAny_bind (wpAny_field hio hd (x := .int i 0) rfl ?_)
  show wpAny _ _ (seqItems? (.ref T) >>= _) _ _ s
  have hx' : vs.toArray[i]? = none := by simpa using hx
  refine wpAny_bind (wpAny_seqItems ho rfl ?_)
  simp only [Int.toNat_natCast, hx']
  refine wpAny_bind (wpAny_rule (wpAny_bind (wpAny_setField hio hd (by simp) ?_)))
  show wpAny _ _ (newExc (.type "StopIteration") [] >>= _) _ _ _
  refine wpAny_bind ?_
  simp only [newExc, newTuple]
  refine wpAny_bind (wpAny_newObj_type ?_ (by size_fits))
  refine wpAny_bind (m := firstArgMember _ _) (wpAny_of_eq (a := Value.none) (by first | rfl | (simp only [firstArgMember]; rfl)) ?_)
  refine wpAny_newObj_type ?_ (by size_fits)
  simp only [raiseNew]
  refine wpAny_bind (wpAny_handled ?_)
  first | rw [show A.in1.handled = none from hh] | rw [hh]
  refine wpAny_bind (wpAny_pure (wpAny_throw ?_))
  refine wpAny_bind (wpAny_isInstance (T := "StopIteration") (b := true) ⟨_, Heap.get?_push_size _ rfl, rfl⟩ isSubtype_stop ?_)
  exact wpAny_pure (hQ _ (((Heap.SameBut.update ..).extBut.push _).push _))

theorem like_draw (hne : T ≠ it) : ∀ (n i : Nat) (s : Shared) (Q : List Value → Shared → Prop), s.heap.IsTupleIter it T i → s.heap.get? T = some (tupInst C dx vs) → i + n ≤ vs.length →
    (∀ h', h'.IsTupleIter it T (i + n) → Heap.SameBut it s.heap h' → Q ((vs.drop i).take n) { s with heap := h' }) → wpAny (model prog w) A (draw (.ref it) n) Q E s
  | 0, i, s, Q, hit, _, _, hQ => by
    show wpAny _ _ (pure []) Q E s
    exact wpAny_pure (by simpa using hQ s.heap hit (Heap.SameBut.refl ..))
  | n + 1, i, s, Q, hit, ho, hle, hQ => by
    have hlt : i < vs.length := by omega
    show wpAny _ _ (pyNext (.ref it) >>= _) Q E s
    refine wpAny_bind (like_item hit ho (x := vs[i]) (List.getElem?_eq_getElem hlt) fun h₁ hit₁ hs₁ => ?_)
    refine wpAny_bind (wpAny_holding (like_draw hne n (i + 1) _ _ hit₁ (hs₁.extBut T _ hne ho) (by omega) fun h₂ hit₂ hs₂ => wpAny_pure ?_))
    have := hQ h₂ (by rw [show i + (n + 1) = i + 1 + n by omega]; exact hit₂) (hs₁.trans hs₂)
    rw [List.drop_eq_getElem_cons hlt, List.take_succ_cons] at this
    exact this

theorem like_unpack {Q : List Value → Shared → Prop} (hh : A.handled = none) (X : K.In s.heap) (hC : tupLikeIn K C = true) (ho : s.heap.get? T = some (tupInst C dx vs))
    (hQ : ∀ h', Heap.ExtBut s.heap.objs.size s.heap h' → Q vs { s with heap := h' }) : wpAny (model prog w) A (unpackItems (.ref T) vs.length none) Q E s := by
  have hlt : T ≠ s.heap.objs.size := Nat.ne_of_lt (Heap.lt_size ho)
  have hC' := hC
  unfold tupLikeIn at hC'
  simp only [Bool.and_eq_true, beq_iff_eq] at hC'
  have t1 : Looks (model prog w) s.heap (typeOf (.ref T)) (.ref C) := (Looks.ld ho).andThen .now
  have sp : Looks (model prog w) s.heap (specialOf (.ref T) "__iter__") (some (.builtin "tuple.__iter__")) := t1.andThen (looks_findIn (M := model prog w) X hC'.1.1.1)
  unfold unpackItems
  refine wpAny_bind ?_
  unfold notIterableAtAll
  refine wpAny_bind (sp.here ?_)
  refine wpAny_pure ?_
  simp only [Bool.false_eq_true, if_false]
  refine wpAny_bind (wpAny_holding (like_iter X hC ho ?_))
  have ho1 : (s.heap.push { cls := .type "tuple_iterator", data := .fields #[.ref T, .int 0 0] }).get? T = some (tupInst C dx vs) := Heap.get?_push_of_some _ ho
  refine wpAny_bind (wpAny_holding (like_draw hlt vs.length 0 _ _ ⟨_, Heap.get?_push_size _ rfl, rfl, rfl⟩ ho1 (by omega) fun h₁ hit₁ hs₁ => ?_))
  have hall : List.take vs.length (List.drop 0 vs) = vs := by rw [List.drop_zero]; exact List.take_length
  rw [hall, if_neg (Nat.lt_irrefl _)]
  refine wpAny_bind (wpAny_holding (like_end hh hit₁ (hs₁.extBut T _ hlt ho1) (by simp) fun h₂ he₂ => ?_))
  simp only [Option.isSome_none, Bool.false_eq_true, if_false]
  exact wpAny_pure (hQ h₂ fun b o hb e => he₂ b o hb (hs₁.extBut b o hb (Heap.get?_push_of_some _ e)))

theorem unp5 {g : Heap} {Lg : Addr} {L : List (Addr × Obj)} {m : Str → Option Value} {env : Env} {x1 x2 x3 x4 x5 : Str} {p1 p2 p3 p4 p5 pos : Pos} {cx : Nat} {v1 v2 v3 v4 v5 : Value} {Q : Unit → Shared → Prop} (hh : A.handled = none) (F : Fr g Lg s.heap m) (N : News g Lg s.heap L) (X : K.In g) (hC : tupLikeIn K C = true)
    (hT : (T, tupInst C dx [v1, v2, v3, v4, v5]) ∈ L) (hL : env.locals = Lg) (k1 : env.kindOf x1 = some .local) (k2 : env.kindOf x2 = some .local) (k3 : env.kindOf x3 = some .local) (k4 : env.kindOf x4 = some .local) (k5 : env.kindOf x5 = some .local)
    (hp : (env.scope.kind == .class || (env.scope.kind == .module && env.locals != env.globals)) = false)
    (h : ∀ h' tk, Fr g Lg h' (fun y => if y = x5 then some v5 else if y = x4 then some v4 else if y = x3 then some v3 else if y = x2 then some v2 else if y = x1 then some v1 else m y) → News g Lg h' L → Q () { s with heap := h', toks := tk }) :
    wpAny (model prog w) A (assign (.Tuple [.Name x1 p1, .Name x2 p2, .Name x3 p3, .Name x4 p4, .Name x5 p5] cx pos) env (.ref T)) Q E s := by
  subst hL
  rw [arm_assign_Tuple]
  refine wpAny_bind (wpAny_standAt ?_)
  show wpAny _ A (unpack (.ref T) _) _ _ _
  unfold unpack
  refine wpAny_bind (wpAny_holding (like_unpack (vs := [v1, v2, v3, v4, v5]) hh (X.keeps F.keep) hC (N _ hT).1 fun h₁ hx => ?_))
  have F1 : Fr g env.locals h₁ m := ⟨F.ns.at' fun o e => hx _ o (Nat.ne_of_lt F.ns.lt) e, fun b o e => hx b o (Nat.ne_of_lt (Heap.lt_size (F.keep b o e))) (F.keep b o e), F.above⟩
  have N1 : News g env.locals h₁ L := fun p hp => ⟨hx _ _ (Nat.ne_of_lt (Heap.lt_size (N p hp).1)) (N p hp).1, (N p hp).2⟩
  show wpAny _ A (do holding [v2, v3, v4, v5] (assign (.Name x1 p1) env v1); holding [v3, v4, v5] (assign (.Name x2 p2) env v2); holding [v4, v5] (assign (.Name x3 p3) env v3); holding [v5] (assign (.Name x4 p4) env v4); holding [] (assign (.Name x5 p5) env v5); pure ()) _ _ _
  refine wpAny_bind (wpAny_holding (wpAny_assign_Name (wpAny_storeName_local k1 F1.ns (fun h₂ n2 s2 => ?_) hp)))
  have F2 := F1.set n2 s2
  refine wpAny_bind (wpAny_holding (wpAny_assign_Name (wpAny_storeName_local k2 F2.ns (fun h₃ n3 s3 => ?_) hp)))
  have F3 := F2.set n3 s3
  refine wpAny_bind (wpAny_holding (wpAny_assign_Name (wpAny_storeName_local k3 F3.ns (fun h₄ n4 s4 => ?_) hp)))
  have F4 := F3.set n4 s4
  refine wpAny_bind (wpAny_holding (wpAny_assign_Name (wpAny_storeName_local k4 F4.ns (fun h₅ n5 s5 => ?_) hp)))
  have F5 := F4.set n5 s5
  refine wpAny_bind (wpAny_holding (wpAny_assign_Name (wpAny_storeName_local k5 F5.ns (fun h₆ n6 s6 => wpAny_pure ?_) hp)))
  have F6 := F5.set n6 s6
  exact h h₆ _ F6 (((((N1.set s2).set s3).set s4).set s5).set s6)
end
end

section
set_option maxRecDepth 100000
section
variable {prog : Program} {w : World} {A : Around} {E : Value → Shared → Prop} {s : Shared} {C T dx : Addr} {K : Frag} {vs : List Value}
theorem like_get {value slice : Expr} {u : Tok} {x : Value} {Q : Value → Shared → Prop} (X : K.In s.heap) (hC : tupLikeIn K C = true) (ho : s.heap.get? T = some (tupInst C dx vs)) (hx : vs[1]? = some x) (hq : Q x s)
    (hs : subscripted slice false (.ref T) (.int 1 u) = operate [.ref T, .int 1 u] (getItem (.ref T) (.int 1 u)) := by with_unfolding_all rfl) :
    wpAny (model prog w) A (subscriptTail value slice (.ref T) (.int 1 u)) Q E s := by
  unfold tupLikeIn at hC
  simp only [Bool.and_eq_true, beq_iff_eq] at hC
  obtain ⟨⟨⟨h1, h2⟩, h3⟩, h4⟩ := hC
  have nd := looks_mroIn (M := model prog w) X h4
  have t1 : Looks (model prog w) s.heap (typeOf (.ref T)) (.ref C) := (Looks.ld ho).andThen .now
  have i1 := looks_findIn (M := model prog w) X h2
  have sp : Looks (model prog w) s.heap (specialOf (.ref T) "__getitem__") (some (.builtin "tuple.__getitem__")) := t1.andThen i1
  have sub : Looks (model prog w) s.heap (isInstance (.ref T) (.type "tuple")) true := t1.andThen (looks_mroIn X h3)
  unfold subscriptTail
  refine wpAny_bind ?_
  unfold getitemInPython
  refine wpAny_bind (sp.here (wpAny_pure (wpAny_bind ?_)))
  rw [hs]
  refine wpAny_operating (wpAny_mono (Q := fun v s' => v = x ∧ s' = s) ?_ (fun r s₃ h₃ => ?_) fun _ _ e => e)
  · unfold getItem sequenceKey
    refine wpAny_holding (wpAny_bind (wpAny_bind (t1.here ?_)))
    dsimp only
    refine wpAny_bind ?_
    show wpAny _ _ (isSubtype (.ref C) (.type "collections.deque") >>= _) _ _ _
    refine wpAny_bind (nd.here (wpAny_pure (wpAny_pure ?_)))
    have b1 : Looks (model prog w) s.heap (bindSpecial (.builtin "tuple.__getitem__") (.ref T)) (.builtin "tuple.__getitem__", [.ref T]) := Looks.of_pure (PySem.F.slot_tuple_getitem.bind _)
    unfold callSpecial?
    repeat (first | with_reducible refine wpAny_call ?_ | lk)
    refine codeAny_call_builtin PySem.F.slot_tuple_getitem.plain PySem.F.entry_tuple_getitem (@check_slot (model prog w) _ _ _ "tuple.__getitem__" "tuple" "__getitem__" (.ref T) [.int 1 u] [] _ (by decide +kernel) (by decide +kernel) sub (by unfold argsOk; kernel_rfl) ?_)
    unfold Builtin.«tuple.__getitem__» Builtin.Tuple.tupleItemsOf seqItems?
    have hT : Looks (model prog w) s.heap (typeOf (.int 1 u)) (.type "int") := Looks.of_pure rfl
    repeat lk
    have hl : 1 < vs.length := (List.getElem?_eq_some_iff.mp hx).1
    have e : ((seqIndex? 1 vs.toArray.size).bind fun j => vs.toArray[j]?) = some x := by
      have e1 : seqIndex? 1 vs.toArray.size = some 1 := by
        unfold seqIndex?
        rw [List.size_toArray]
        simp only [show ¬ ((1 : Int) < 0) from by decide, if_false]
        have hb : (decide ((0 : Int) ≤ 1) && decide ((1 : Int) < (vs.length : Int))) = true := by simp; omega
        rw [if_pos hb]
        rfl
      rw [e1, Option.bind_some, List.getElem?_toArray]
      exact hx
    rw [e]
    exact wpAny_pure (wpAny_pure (wpAny_pure ⟨rfl, rfl⟩))
  · obtain ⟨rfl, rfl⟩ := h₃
    exact wpAny_bind (wpAny_letTemporaryGo (wpAny_pure hq))
end
end

section
set_option maxRecDepth 100000
section
variable {prog : Program} {w : World} {A : Around} {E Q : Value → Shared → Prop} {s : Shared} {g : Heap} {Lg P1 P2 : Addr} {L : List (Addr × Obj)} {a b c d : Int} {t1 t2 t3 t4 : Tok}
theorem pair_ne (N : News g Lg s.heap L) (m1 : (P1, pairO a b t1 t2) ∈ L) (m2 : (P2, pairO c d t3 t4) ∈ L) (hu : A.units + 64 < cLine) (hq : Q (.bool (!decide (a = c ∧ b = d))) s) :
    wpAny (model prog w) A (compareOp .NotEq (.ref P1) (.ref P2)) Q E s := by
  have D1 : DatIn L (.ref P1) (.tuple [.int a, .int b]) := DatIn.tuple (n := 0) (vs := [.int a t1, .int b t2]) m1 (DatAll.cons (DatIn.int _ _) (DatAll.cons (DatIn.int _ _) DatAll.nil))
  have D2 : DatIn L (.ref P2) (.tuple [.int c, .int d]) := DatIn.tuple (n := 0) (vs := [.int c t3, .int d t4]) m2 (DatAll.cons (DatIn.int _ _) (DatAll.cons (DatIn.int _ _) DatAll.nil))
  obtain ⟨as, ra⟩ := kqd_in N 8 D1 rfl
  obtain ⟨bs, rb⟩ := kqd_in N 8 D2 rfl
  have e : PyData.eqv (kqdP (.tuple [.int a, .int b])) (kqdP (.tuple [.int c, .int d])) = decide (a = c ∧ b = d) := by
    have q := kqd_eqv 8 (.tuple [.int a, .int b]) (.tuple [.int c, .int d]) 8 rfl rfl
    by_cases h : a = c ∧ b = d
    · rw [decide_eq_true h]; exact q.mpr (by rw [h.1, h.2])
    · rw [decide_eq_false h]; exact Bool.eq_false_iff.mpr fun x => h (by simpa using q.mp x)
  have la := kqd_lay 8 (.tuple [.int a, .int b]) rfl
  have lb := kqd_lay 8 (.tuple [.int c, .int d]) rfl
  refine ne_dataH ra rb ?_ ?_ hu (by rw [e]; exact hq)
  · unfold SeqAt.shaped; rw [la.1, Bool.true_and]; exact decide_eq_true (Nat.le_trans la.2 (by decide))
  · unfold SeqAt.shaped; rw [lb.1, Bool.true_and]; exact decide_eq_true (Nat.le_trans lb.2 (by decide))
end
end

section
set_option maxRecDepth 100000
def strOf? : Value → Option Str
  | .str x _ => some x
  | _ => none
/-- the words of a tuple of the top's -/
def wordsIn (K : Frag) (a : Addr) : Option (List Str) := match K.lookup a with
  | some o => if o.cls == .type "tuple" then (match o.data with | .seq xs _ => xs.toList.mapM strOf? | _ => none) else none
  | none => none
theorem strsAre_of : ∀ {vs : List Value} {ys : List Str}, vs.mapM strOf? = some ys → StrsAre vs ys
  | [], ys, h => by
    have : ys = [] := by simpa using h.symm
    subst this
    exact StrsAre.nil
  | v :: vs, ys, h => by
    rw [List.mapM_cons] at h
    cases v with
    | str y t =>
      cases hr : vs.mapM strOf? with
      | none => rw [hr] at h; cases h
      | some zs =>
        rw [hr] at h
        have e : y :: zs = ys := Option.some.inj h
        subst e
        exact StrsAre.cons y t (strsAre_of hr)
    | _ => cases h
section
variable {prog : Program} {w : World} {A : Around} {E Q : Value → Shared → Prop} {s : Shared} {K : Frag} {a : Addr} {ys : List Str} {x : Str} {u : Tok}
theorem in_words_top (X : K.In s.heap) (e : wordsIn K a = some ys) (h : Q (.bool (ys.any (· == x))) s) : wpAny (model prog w) A (compareOp .In (.str x u) (.ref a)) Q E s := by
  unfold wordsIn at e
  cases ho : K.lookup a with
  | none => rw [ho] at e; cases e
  | some o =>
    rw [ho] at e
    dsimp only at e
    split at e
    · rename_i hc
      split at e
      · rename_i xs n hd
        exact in_tuple_strs ⟨o, X _ _ ho, by simpa using hc, n, hd⟩ (strsAre_of e) h
      · cases e
    · cases e
end
end

section
set_option maxRecDepth 100000
section
variable {prog : Program} {w : World} {A : Around} {s : Shared} {E Q : Value → Shared → Prop} {g : Heap} {Lg : Addr}
theorem led_tok {value slice : Expr} {L tl : List (Addr × Obj)} {FD C : Addr} {kv : Str → Int} {ws : List Str} {gs : List Int} {vs : List Value} {D : Nat → TokD} {c i : Nat} {u : Tok} (N : News g Lg s.heap L) (hm : (FD, listOf vs.toArray c) ∈ L)
    (T : ToksIn C kv ws gs vs tl D) (hi : i < ws.length) (hle : ws.length ≤ 12) (h2 : ¬ (i : Int) < 2) (hq : Q (.ref (D (i - 2)).T) s)
    (hs : subscripted slice false (.ref FD) (.int ((i : Int) - 2) u) = operate [.ref FD, .int ((i : Int) - 2) u] (getItem (.ref FD) (.int ((i : Int) - 2) u)) := by with_unfolding_all rfl) :
    wpAny (model prog w) A (subscriptTail value slice (.ref FD) (.int ((i : Int) - 2) u)) Q E s :=
  led_ref (m := fun _ => none) N hm (by omega) (by rw [show ((i : Int) - 2).toNat = i - 2 by omega]; exact T.val _ (by omega)) (by omega) hq hs
theorem like_tok {value slice : Expr} {u : Tok} {K : Frag} {L : List (Addr × Obj)} {C : Addr} {kv : Str → Int} {wd : Str} {d : TokD} (X : K.In s.heap) (hC : tupLikeIn K C = true) (N : News g Lg s.heap L) (hm : (d.T, d.obj C kv wd) ∈ L) (hq : Q (.str wd d.t2) s)
    (hs : subscripted slice false (.ref d.T) (.int 1 u) = operate [.ref d.T, .int 1 u] (getItem (.ref d.T) (.int 1 u)) := by with_unfolding_all rfl) :
    wpAny (model prog w) A (subscriptTail value slice (.ref d.T) (.int 1 u)) Q E s :=
  like_get X hC (dx := d.dx) (vs := [.int (kv wd) d.t1, .str wd d.t2, .ref d.P1, .ref d.P2, .str d.ln d.t3]) (News.at_mem N hm) rfl hq hs
end
end

section
set_option maxRecDepth 100000
/-- the end of the walk of what is yielded -/
def YEnd (g : Heap) (Lg : Addr) (L led : List (Addr × Obj)) (d : Dat) (mp : (Str → Option Value) → Prop) (s : Shared) (v : Value) (s' : Shared) : Prop :=
  ∃ T o, v = .ref T ∧ DatIn ((T, o) :: led) v d ∧ (∀ q ∈ L, q.1 < T) ∧ GEnd g Lg ((T, o) :: L) mp s s'
theorem end_start (ws : List Str) (gs : List Int) {i : Nat} (h : 1 ≤ i) : startAt ws gs (i - 1) + ((ws.getD (i - 1) Str.empty).length : Int) = endAt ws gs i := by
  obtain ⟨j, rfl⟩ : ∃ j, i = j + 1 := ⟨i - 1, by omega⟩
  rfl
theorem yend_of {ws : List Str} {gs : List Int} {i : Nat} {g h' : Heap} {Lg T P2 : Addr} {L led : List (Addr × Obj)} {mp : (Str → Option Value) → Prop} {s : Shared} {m' : Str → Option Value} {tk : Nat} {t u3 u4 : Tok} {e : Int}
    (F : Fr g Lg h' m') (N : News g Lg h' ((T, ({ cls := .type "tuple", data := .seq #[.ref P2, .str (Str.ofString "E211 whitespace before '" ++ ws.getD i Str.empty ++ Str.ofString "'") t] } : Obj)) :: L)) (hl : ∀ q ∈ L, q.1 < T) (hm : mp m')
    (hP : (P2, pairO 1 e u3 u4) ∈ led) (he : e = endAt ws gs i) : YEnd g Lg L led (dueOne ws gs i) mp s (.ref T) { s with heap := h', toks := tk } := by
  subst he
  refine ⟨T, _, rfl, ?_, hl, h', tk, m', rfl, F, N, hm⟩
  unfold dueOne
  exact DatIn.tuple (n := 0) (vs := [Value.ref P2, Value.str (msgOf (ws.getD i Str.empty)) t]) (List.mem_cons_self ..)
    (DatAll.cons (DatIn.tuple (n := 0) (vs := [Value.int 1 u3, Value.int (endAt ws gs i) u4]) (List.mem_cons_of_mem _ hP) (DatAll.cons (DatIn.int _ _) (DatAll.cons (DatIn.int _ _) DatAll.nil))) (DatAll.cons (DatIn.str _ _) DatAll.nil))
end

section
set_option maxRecDepth 100000
theorem out_due (ws : List Str) (gs : List Int) : ∀ n, outD (told ws gs) (dueOne ws gs) n = dueD ws gs n
  | 0 => rfl
  | n + 1 => by unfold outD dueD; rw [out_due ws gs n]
theorem msg_ok : ∀ x ∈ tbl, PyData.strOk (msgOf x) = true := by decide +kernel
theorem due_ok {ws : List Str} {gs : List Int} (M : Menu ws gs) : ∀ n, n ≤ ws.length → ∀ d ∈ dueD ws gs n, kqdOk 8 d = true
  | 0, _, d, hd => by cases hd
  | n + 1, h, d, hd => by
    unfold dueD at hd
    rcases List.mem_append.mp hd with hd | hd
    · exact due_ok M n (Nat.le_of_succ_le h) d hd
    · split at hd
      · rw [List.mem_singleton.mp hd]
        have hm := msg_ok _ (M.ok.at (Nat.lt_of_succ_le h))
        show (true && true && true && (PyData.strOk (msgOf (ws.getD n Str.empty)) && true)) = true
        rw [hm]; rfl
      · cases hd
section
variable {prog : Program} {w : World} {A : Around} {E : Value → Shared → Prop} {s : Shared} {h₀ : Heap} {L a b : Addr} {news n₁ n₂ : List (Addr × Obj)} {acc : Array Value} {vs : List Value} {c c2 : Nat} {ws : List Str} {gs : List Int} {Q : Value → Shared → Prop}
theorem eq_lists (N : News h₀ L s.heap news) (ma : (a, lstO acc c) ∈ news) (Da : DatAll n₁ acc.toList (outD (told ws gs) (dueOne ws gs) ws.length)) (sa : ∀ p ∈ n₁, p ∈ news)
    (mb : (b, listOf vs.toArray c2) ∈ news) (Db : DatAll n₂ vs (dueD ws gs ws.length)) (sb : ∀ p ∈ n₂, p ∈ news) (M : Menu ws gs) (hu : A.units + 64 < cLine) (h : Q (.bool true) s) : wpAny (model prog w) A (compareOp .Eq (.ref a) (.ref b)) Q E s := by
  rw [out_due] at Da
  have hk := due_ok M ws.length (Nat.le_refl _)
  refine kqd_eq N ma rfl (xs := acc.toList) (ka := c) (by rw [Array.toArray_toList]) Da sa mb rfl (ys := vs) (kb := c2) rfl Db sb hk hk hu ?_
  have e : ∀ i : Decidable (dueD ws gs ws.length = dueD ws gs ws.length), @decide (dueD ws gs ws.length = dueD ws gs ws.length) i = true := fun i => decide_eq_true rfl
  rw [e]; exact h
end
end

/-- a statement that is left, and how the goal follows from it -/
structure LeftB (P : Prop) : Prop where
  out : P
structure Cut (G : Prop) where
  P : Prop
  go : LeftB P → G
structure Cut2 (G : Prop) where
  P : Prop
  Q : Prop
  go : LeftB P → LeftB Q → G

section
set_option maxRecDepth 100000
set_option maxHeartbeats 0
def cellV (ns : List Int) (a : Int) : Int := if a < (ns.length : Int) then ((ns.getD a.toNat 0).natAbs : Int) else 7 * a + 3
def Stop (P : Prop) : Prop := P
theorem Stop.mk {P : Prop} (h : Stop P) : P := h
local macro_rules | `(tactic| walk_at "eval ListComp") => `(tactic| (k_here; k_dflt (refine LCg.ListComp_U (F₀ := by k_asm) (by with_unfolding_all rfl) (by decide) (by rfl) (by decide) (by rfl) ?_)))
local macro_rules | `(tactic| walk_at "exec For Tuple Call") => `(tactic| (k_here; k_dflt (refine wpAny_For ?_)))
local macro_rules | `(tactic| walk_at "call type:enumerate") => `(tactic| (k_here; refine Stop.mk ?_))
noncomputable def s1 : Cut (PySem.Challenge.rw_bd0042_01.Holds) := by
  apply Cut.mk
  intro hcut
  exact hd (by
    k_with "call ref" => (k_call_by "_law_cell" cellV (fun (_ : List Int) (a : Int) => 0 ≤ a))
    k_with "tree" => simp only [cellV]
    k_fill
    intro w s₀ s₁ mg mb G Y fa o pm cd doc dV kV ho hd hcd hD hmg hg args vals as hpre hlay hrd hwl hlo
    have KX := kIn_of Y
    have X := (Ground.X G).1
    have V := (Ground.X G).2
    have GL := glob_more (Ground.glob G (by decide +kernel) (by decide +kernel)) V
    refine Ground.open G ?_
    intro T B D TE TW
    try (refine guard_noD D (by decide +kernel) ?_; clear D)
    obtain ⟨_, _, M⟩ := bmod_of_top T
    have TA := at_of_top T
    obtain ⟨_, _, he, B0⟩ := based_of_top T rfl hmg ho hd
    have he' : cd = _ := he
    subst he'
    clear he hmg
    wrow_args hpre hlay hrd hwl hlo
    all_goals (first | refine callC_kw (enter_call ?_) | refine enter_call ?_ | refine callC_kw (enter_callW ?_) | refine enter_callW ?_ | w_how)
    all_goals (w_top on)
    all_goals (have K0 := below_caller (Top.heap T))
    all_goals (w_call any ho hd hcd hD T F)
    all_goals (clear hd hcd hD TA)
    all_goals k_drop
    all_goals try k_fold
    k_steps
    ((repeat (rename _ => x9; revert x9)); intro hcut9; exact hcut9.out))
end

section
set_option maxRecDepth 100000
set_option maxHeartbeats 0
local macro_rules | `(tactic| walk_at "subscriptTail") => `(tactic| (k_here; (with_reducible show wpAny _ _ (subscriptTail _ _ (Value.ref _) (Value.int _ _)) _ _ _); k_dflt (first
  | (refine' led_int ?k1 ?k2 ?k3 ?k4 ?k5 ?k6 ?_; (case k1 => k_asm); (case k2 => k_mem); (case k3 => assumption); (case k4 => omega); (case k5 => omega); (case k6 => omega); intro _)
  | (refine' led_str ?k1 ?k2 ?k3 ?k4 ?k5 ?k6 ?_; (case k1 => k_asm); (case k2 => k_mem); (case k3 => assumption); (case k4 => omega); (case k5 => omega); (case k6 => omega); intro _))))
local macro_rules | `(tactic| walk_at "subscriptTail") => `(tactic| (k_here; (with_reducible show wpAny _ _ (subscriptTail _ _ (Value.str _ _) (Value.int _ _)) _ _ _); k_dflt (refine' item0_w ?k1 ?_; (case k1 => exact WordsOk.len (by assumption) (by omega)); intro _)))
local macro_rules | `(tactic| walk_at "call builtin:len") => `(tactic| (k_here; (with_reducible show wpAny _ _ (call (Value.builtin "len") [Value.str _ _]) _ _ _); k_dflt (refine' len_w ?k1 ?_; (case k1 => assumption))))
local macro_rules | `(tactic| walk_at "newTuple") => `(tactic| (k_here; k_dflt (refine' newTup ?k1 ?k2 ?_ ?k3; (case k1 => k_asm); (case k2 => k_asm); (case k3 => exact Nat.le_of_ble_eq_true rfl)); intro l' h' F' N' l1 lA; (try k_lt l1); (try k_sweep)))
local macro_rules | `(tactic| walk_at "DueEnd") => `(tactic| (k_dflt (first
  | (refine' due_no ?F ?N ?h1 ?h2 ?h3 ?h4 ?g1 ?g2 ?g3 ?g4 ?hy; (case F => k_asm); (case N => k_asm); (case h1 => with_unfolding_all rfl); (case h2 => with_unfolding_all rfl); (case h3 => with_unfolding_all rfl); (case h4 => with_unfolding_all rfl); (case g1 => k_mem); (case g2 => k_mem); (case g3 => k_mem); (case g4 => (intro p hp; k_ownIn));
      (case hy => first | exact toldF1 (by assumption) | exact toldF2 (by assumption) | exact toldF3 (by assumption) | exact toldF7 (by assumption) (by assumption) | exact toldF4 (by assumption) (by assumption) | exact toldF5 (by assumption) (by assumption) | exact toldF6 (by assumption) (by assumption)))
  | (refine' due_yes ?F ?N ?h1 ?h2 ?h3 ?h4 ?g1 ?g2 ?g3 ?g4 ?q1 ?q2 ?a1 ?a2 ?s1 ?s2 ?hy; (case F => k_asm); (case N => k_asm); (case h1 => with_unfolding_all rfl); (case h2 => with_unfolding_all rfl); (case h3 => with_unfolding_all rfl); (case h4 => with_unfolding_all rfl); (case g1 => k_mem); (case g2 => k_mem); (case g3 => k_mem); (case g4 => (intro p hp; k_ownIn));
      (case q1 => k_mem); (case q2 => k_mem); (case a1 => assumption); (case a2 => assumption); (case s1 => (intro p hp; k_ownIn)); (case s2 => (intro p hp; k_ownIn));
      (case hy => first | exact toldT2 (by assumption) (by assumption) (by assumption) (by assumption) (by first | exact plain1 (by assumption) | exact plain2 (by assumption)) | exact toldT1 (by assumption) (by assumption) (by assumption) (by assumption) (by assumption) (by assumption) (by first | exact plain1 (by assumption) | exact plain2 (by assumption)))))))
theorem nameI {vs : List Value} {ns : List Int} (h : IntsAre vs ns) : ∃ gs, gs = ns ∧ IntsAre vs gs := ⟨ns, rfl, h⟩
theorem nameS {vs : List Value} {ns : List Str} (h : StrsAre vs ns) : ∃ ws, ws = ns ∧ StrsAre vs ws := ⟨ns, rfl, h⟩
noncomputable def s2 : Cut (s1.P) := by
  apply Cut.mk
  intro hcut
  w_top off
  delta s1
  intro _
  intros
  (with_reducible rename CarriedAll _ (List.map _ _) => hcW)
  obtain ⟨ws, hwd, hws⟩ := nameS (CarriedAll.strsOf hcW)
  (with_reducible rename IntsAre _ ([0] ++ _) => hgs0)
  obtain ⟨gs, hgd, hgs⟩ := nameI hgs0
  have hM : Menu ws gs := menu_of (c := cellV _) (by assumption) (by assumption) hwd hgd
  (rename Fr _ _ _ _ => F1)
  (rename News _ _ _ _ => N1)
  refine Stop.mk (P := wpAny _ _ _ _ _ _) ?_
  unfold Stop
  refine due_loop (gs := gs) rfl (by with_unfolding_all rfl) (by with_unfolding_all rfl) (by with_unfolding_all rfl) F1 N1 (List.Mem.tail _ (List.Mem.head _)) (List.Mem.tail _ (List.Mem.tail _ (List.Mem.head _)))
    (List.Mem.tail _ (List.Mem.tail _ (List.Mem.tail _ (List.Mem.tail _ (List.Mem.tail _ (List.Mem.head _)))))) (by with_unfolding_all rfl) (by with_unfolding_all rfl) (by with_unfolding_all rfl) (by with_unfolding_all rfl) hws ?step ?done ?c ?n1 ?n2 ?hE
  case c => rfl
  case n1 => omega
  case n2 => omega
  case hE => passes_own
  case step =>
    clear F1 N1
    intro i wd t ti ts c vs tl h tk u hw hlen n1 n2 hoff F' N'
    have hwl : i < ws.length := (List.getElem?_eq_some_iff.mp hw).1
    have hgl := hM.len
    have hwb := hM.le
    have hwok := hM.ok
    have hwdl : wd.length ≤ 1000 := by have := tbl_len _ (hwok.get hw); omega
    k_steps
  case done =>
    clear F1 N1
    intro h' tk m' c vs tl t F0 m1 m2 m3 m4 N' htl hds
    have F' := Fr.know3 m1 m3 m4 F0
    clear F0
    refine Stop.mk ?_
    ((repeat (rename _ => x9; revert x9)); intro hcut9; exact hcut9.out)
end

section
set_option maxRecDepth 100000
set_option maxHeartbeats 0
local macro_rules | `(tactic| walk_at "exec For Tuple Call") => `(tactic| (k_here; k_dflt (refine wpAny_For ?_)))
local macro_rules | `(tactic| walk_at "exec For Tuple Name") => `(tactic| (k_here; k_dflt (refine wpAny_For ?_)))
local macro_rules | `(tactic| walk_at "call type:enumerate") => `(tactic| (k_here; refine Stop.mk ?_))
local macro_rules | `(tactic| walk_at "call type:zip") => `(tactic| (k_here; refine Stop.mk ?_))
local macro_rules | `(tactic| walk_at "newTuple") => `(tactic| (k_here; k_dflt (refine' newTup ?k1 ?k2 ?_ ?k3; (case k1 => k_asm); (case k2 => k_asm); (case k3 => exact Nat.le_of_ble_eq_true rfl)); intro l' h' F' N' l1 lA; (try k_lt l1); (try k_sweep)))
noncomputable def s3 : Cut (s2.P) := by
  apply Cut.mk
  intro hcut
  w_top off
  delta s2
  intro _
  intros
  refine Stop.mk (P := wpAny _ _ _ _ _ _) ?_
  unfold Stop
  k_steps
  (rename Fr _ _ _ _ => F1)
  (rename News _ _ _ _ => N1)
  refine Stop.mk (P := wpAny _ _ _ _ _ _) ?_
  unfold Stop
  ((repeat (rename _ => x9; revert x9)); intro hcut9; exact hcut9.out)
end

section
set_option maxRecDepth 100000
set_option maxHeartbeats 0
section
variable {prog : Program} {w : World} {A : Around} {E : Value → Shared → Prop} {s : Shared}
theorem len_wK {x : Str} {t : Tok} {K : Nat} {Q : Value → Shared → Prop} (hx : x.length ≤ K) (hK : K ≤ 1000) (h : Q (.int x.length (s.toks + 1)) { s with toks := s.toks + 1 + 1 }) : wpAny (model prog w) A (call (.builtin "len") [.str x t]) Q E s :=
  SBL.len (by omega) h
end
local macro_rules | `(tactic| walk_at "call builtin:len") => `(tactic| (k_here; (with_reducible show wpAny _ _ (call (Value.builtin "len") [Value.str _ _]) _ _ _); k_dflt (refine' len_wK ?k1 ?k2 ?_; (case k1 => kt_len); (case k2 => exact Nat.le_of_ble_eq_true rfl))))
local macro_rules | `(tactic| walk_at "newTuple") => `(tactic| (k_here; k_dflt (refine' newTup ?k1 ?k2 ?_ ?k3; (case k1 => k_asm); (case k2 => k_asm); (case k3 => exact Nat.le_of_ble_eq_true rfl)); intro l' h' F' N' l1 lA; (try k_lt l1); (try k_sweep)))
local macro_rules | `(tactic| walk_at "SpEnd") => `(tactic| (k_dflt (refine' sp_end ?F ?N ?h1 ?h2 ?h3 ?h4 ?h5 ?g1 ?g2 ?g3 ?g4 ?g5 ?g6 ?a1 ?a2 ?he; (case F => k_asm); (case N => k_asm); (case h1 => with_unfolding_all rfl); (case h2 => with_unfolding_all rfl); (case h3 => with_unfolding_all rfl); (case h4 => with_unfolding_all rfl); (case h5 => with_unfolding_all rfl); (case g1 => k_mem); (case g2 => k_mem); (case g3 => k_mem); (case g4 => k_mem); (case g5 => (intro p hp; k_ownIn)); (case g6 => k_mem); (case a1 => assumption); (case a2 => (intro p hp; k_ownIn)); (case he => exact Menu.start (by assumption) (by assumption)))))
noncomputable def s4 : Cut (s3.P) := by
  apply Cut.mk
  intro hcut
  w_top off
  delta s3
  intro _
  intros
  (with_reducible rename News _ _ _ _ => N1)
  (with_reducible rename Fr _ _ _ _ => F1)
  (with_reducible rename StrsAre _ _ => hws)
  (with_reducible rename (IntsAre _ _) => hgs)
  (with_reducible rename Menu _ _ => hM)
  (with_reducible rename TupsIn _ => htl)
  refine spots_loop rfl (by with_unfolding_all rfl) (by with_unfolding_all rfl) (by with_unfolding_all rfl) F1 N1 (by with_unfolding_all rfl) (by with_unfolding_all rfl) (by with_unfolding_all rfl) (by with_unfolding_all rfl) (by with_unfolding_all rfl) hws hgs hM.len (fun k => (hM.g0 k).1) htl ?step ?done ?n1 ?n2 ?n3 ?hE
  case n1 => omega
  case n2 => omega
  case n3 => omega
  case hE => passes_own
  case step =>
    clear F1 N1
    intro i wd gp t tg tli tr c vs tlo h tk u hw hgp hlen' n1 n2 n3 hoff F' N'
    have hwb := hM.le
    have hgp0 := hM.gap hgp
    have hgl := hM.blank hgp
    have hwl := hM.word hw
    have hi := (List.getElem?_eq_some_iff.mp hw).1
    have hll := hM.line (Nat.le_of_lt hi)
    k_steps
  case done =>
    clear F1 N1
    intro h' tk m' vs c tl hm hsub hds hsoft F' N'
    refine Stop.mk ?_
    ((repeat (rename _ => x9; revert x9)); intro hcut9; exact hcut9.out)
end

section
set_option maxRecDepth 100000
set_option maxHeartbeats 0
local macro_rules | `(tactic| walk_at "exec For Tuple Call") => `(tactic| (k_here; k_dflt (refine wpAny_For ?_)))
local macro_rules | `(tactic| walk_at "exec For Tuple Name") => `(tactic| (k_here; k_dflt (refine wpAny_For ?_)))
local macro_rules | `(tactic| walk_at "call type:enumerate") => `(tactic| (k_here; refine Stop.mk ?_))
local macro_rules | `(tactic| walk_at "call type:zip") => `(tactic| (k_here; refine Stop.mk ?_))
local macro_rules | `(tactic| walk_at "pyIter ref") => `(tactic| (k_here; refine Stop.mk ?_))
noncomputable def s5 : Cut (s4.P) := by
  apply Cut.mk
  intro hcut
  w_top off
  delta s4
  intro _
  intros
  (with_reducible rename SpotsM _ _ _ _ _ _ _ => hm)
  (with_reducible rename News _ _ _ _ => N1)
  (with_reducible rename Fr _ _ _ _ => F1)
  (with_reducible rename Menu _ _ => hM)
  obtain ⟨⟨tl1, m1⟩, m2, m3, m4, tr1, m5⟩ := hm
  have F2 := Fr.know3 m1 m2 m5 F1
  have hll := hM.line (Nat.le_refl _)
  clear F1
  refine Stop.mk (P := wpAny _ _ _ _ _ _) ?_
  unfold Stop
  k_steps
  (with_reducible rename News _ _ _ _ => N1)
  (with_reducible rename Fr _ _ _ _ => F1)
  ((repeat (rename _ => x9; revert x9)); intro hcut9; exact hcut9.out)
end

section
set_option maxRecDepth 100000
set_option maxHeartbeats 0
local macro_rules | `(tactic| walk_at "newTuple") => `(tactic| (k_here; k_dflt (refine' newTup ?k1 ?k2 ?_ ?k3; (case k1 => k_asm); (case k2 => k_asm); (case k3 => exact Nat.le_of_ble_eq_true rfl)); intro l' h' F' N' l1 lA; (try k_lt l1); (try k_sweep)))
local macro_rules | `(tactic| walk_at "subscriptTail") => `(tactic| (k_here; (with_reducible show wpAny _ _ (subscriptTail _ _ (Value.str _ _) (Value.int _ _)) _ _ _); k_dflt (refine' item0_w ?k1 ?_; (case k1 => first | assumption | omega); intro _)))
local macro_rules | `(tactic| walk_at "call ref") => `(tactic| (k_here; (with_reducible show wpAny _ _ (call (Value.ref 191) _) _ _ _); k_dflt (refine' tok_enter ?F ?X ?hC ?hoi ?hne ?_; (case F => k_asm); (case X => k_asm); (case hC => kernel_rfl); (case hoi => (intro a; unfold argsOk; kernel_rfl)); (case hne => rfl))))
local macro_rules | `(tactic| walk_at "call builtin:tuple.__new__") => `(tactic| (k_here; k_dflt (refine' tuple_new_cls ?F ?N ?X ?hC ?hP ?hsz ?_; (case F => k_asm); (case N => k_asm); (case X => k_asm); (case hC => kernel_rfl); (case hP => k_mem); (case hsz => exact Nat.le_of_ble_eq_true rfl)); intro x' d' h' F' N' l1 lA l2; (try k_lt l1); (try k_lt l2); (try k_sweep)))
local macro_rules | `(tactic| walk_at "getMethod type:tuple") => `(tactic| (k_here; refine' method_type ?F ?X ?m (by decide +kernel) ?e ?h ?_; (case F => k_asm); (case X => k_asm); (case m => exact PySem.F.isi_meta_tuple); (case e => k_dflt k_is); (case h => k_handed)))
local macro_rules | `(tactic| walk_at "NewBack") => `(tactic| (k_dflt (refine' newBack_of ?F ?N ?X ?m ?c ?_; (case F => k_asm); (case N => k_asm); (case X => k_asm); (case m => k_mem); (case c => rfl))))
local macro_rules | `(tactic| walk_at "TkEnd") => `(tactic| (k_dflt (refine' tk_end ?F ?N ?h1 ?h2 ?h3 ?g1 ?g2 ?g3 ?g4 ?g5 ?g6 ?g7 ?a0 ?s0 ?a1 ?s1 ?a2 ?s2; (case F => k_asm); (case N => k_asm); (case h1 => with_unfolding_all rfl); (case h2 => with_unfolding_all rfl); (case h3 => with_unfolding_all rfl); (case g1 => k_mem); (case g2 => k_mem); (case g3 => k_mem); (case g4 => (intro p hp; k_ownIn)); (case g5 => k_mem); (case g6 => k_mem); (case g7 => k_mem); (case a0 => assumption); (case s0 => (intro p hp; k_ownIn)); (case a1 => assumption); (case s1 => (intro p hp; k_ownIn)); (case a2 => assumption); (case s2 => (intro p hp; k_ownIn)))))
noncomputable def s6 : Cut (s5.P) := by
  apply Cut.mk
  intro hcut
  w_top off
  delta s5
  intro _
  intros
  (with_reducible rename DatAll _ _ (spotsD _ _ _) => hds)
  (with_reducible rename Soft _ => hsoft)
  (with_reducible rename News _ _ _ _ => N1)
  (with_reducible rename Fr _ _ _ _ => F1)
  (with_reducible rename Menu _ _ => hM)
  (with_reducible rename List PySem.Str => ws)
  refine Stop.mk (P := wpAny _ _ _ _ _ _) ?_
  unfold Stop
  refine toks_loop (C := 191) (kv := kindV) rfl (by with_unfolding_all rfl) (by with_unfolding_all rfl) (by with_unfolding_all rfl) F1 N1 (by with_unfolding_all rfl) (by with_unfolding_all rfl) (by with_unfolding_all rfl) hds hsoft ?n1 ?n2 ?step ?done ?hE
  case hE => passes_own
  case n1 => omega
  case n2 => omega
  case step =>
    clear F1 N1
    intro i t u tln trr c vs tlo h tk m₁ hi hvl n1 n2 hoff F' N'
    have hwb := hM.le
    have hwl := hM.word (List.getElem?_eq_getElem hi)
    have hwl1 : 1 ≤ (ws.getD i Str.empty).length ∧ (ws.getD i Str.empty).length ≤ 1000 := hM.ok.len hi
    k_with "call ref" => (k_call_by "_law_kind" kindV (fun (x : Str) => 1 ≤ x.length ∧ x.length ≤ 1000))
    k_with "tree" => simp only [kindV]
    k_steps
  case done =>
    clear F1 N1
    intro h' tk m' vs c tl k1 hr hsoft' F0 N'
    have F' := Fr.know k1 F0
    clear F0
    refine Stop.mk ?_
    ((repeat (rename _ => x9; revert x9)); intro hcut9; exact hcut9.out)
end

section
set_option maxRecDepth 100000
set_option maxHeartbeats 0
local macro_rules | `(tactic| walk_at "call ref") => `(tactic| (k_here; (with_reducible show wpAny _ _ (call (Value.ref 201) _) _ _ _); refine Stop.mk ?_))
local macro_rules | `(tactic| walk_at "call type:list") => `(tactic| (k_here; refine Stop.mk ?_))
noncomputable def s7 : Cut (s6.P) := by
  apply Cut.mk
  intro hcut
  w_top off
  delta s6
  intro _
  intros
  refine Stop.mk (P := wpAny _ _ _ _ _ _) ?_
  unfold Stop
  k_steps
  refine Stop.mk (P := wpAny _ _ _ _ _ _) ?_
  unfold Stop
  (refine' gen_def ?k1 ?k2 ?k3 ?k4 ?k5 ?kA ?kF ?kK ?k6 ?k7 ?k8 ?k9 ?kB ?_ ?c2 ?c3 ?c4 ?c5)
  (case kA => exact rfl)
  (case kF => exact rfl)
  (case kK => exact rfl)
  (case k1 => k_asm)
  (case k2 => k_asm)
  (case k3 => k_asm)
  (case k4 => k_asm)
  (case k5 => k_asm)
  (case k6 => k_is)
  (case k7 => k_is)
  (case k8 => first | decide | ktr_room)
  (case k9 => exact BindsTo.of_eq rfl)
  (case kB => exact locs rfl)
  (case c2 => exact rfl)
  (case c3 => exact rfl)
  (case c4 => exact rfl)
  (case c5 => decide)
  intro g L' h₂ a t u tk FG F' N' B' X' T' hlt hla hlb back F3 N3
  k_steps
  clear F3 N3 FG
  ((repeat (rename _ => x9; revert x9)); intro hcut9; exact hcut9.out)
end

section
set_option maxRecDepth 100000
set_option maxHeartbeats 0

noncomputable def s8 : Cut2 (s7.P) := by
  apply Cut2.mk
  intro hcut hcut2
  w_top off
  delta s7
  intro _
  intros
  refine Stop.mk (P := wpAny _ _ _ _ _ _) ?_
  unfold Stop
  (with_reducible rename ToksR _ _ _ _ _ _ _ _ => hTR)
  obtain ⟨D, hTI⟩ := hTR.data
  (with_reducible rename Menu _ _ => hM)
  (with_reducible rename Top _ _ _ _ _ (_ : Heap) => hTop)
  (with_reducible rename (_ = (#[] : Array GenState)) => hg)
  (with_reducible rename (∀ (L₂ : Addr) (m₂ : Str → Option Value) (news₂ : List (Addr × Obj)) (h₂ : Heap), Fr _ L₂ h₂ m₂ → _) => back)
  (with_reducible rename News _ _ _ _ => N2)
  (with_reducible rename Fr _ _ _ _ => F2)
  (with_reducible rename List PySem.Str => ws)
  (with_reducible rename List Int => gs)
  refine gen_call (BM := BMm ?FD) (PM := PMm ?FD kindV ws D) (CM := CMm ?FD kindV ws D) (tst := told ws gs) (dd := dueOne ws gs) (n := ws.length) hg hM.le ?hn1 ?hroom hTop.nolimit F2 ?hB N2 ?W ?hQ
  case hroom => k_room
  case hn1 => have := hM.ge; omega
  case hB => with_unfolding_all rfl
  case hQ => (clear hcut; (repeat (rename _ => x9; revert x9)); intro hcut9; exact hcut9.out)
  case W => (clear hcut2; (repeat (rename _ => x9; revert x9)); intro hcut9; exact hcut9.out)
end

section
set_option maxRecDepth 100000
set_option maxHeartbeats 0
local macro_rules | `(tactic| walk_at "GEnd") => `(tactic| (k_dflt (refine' gend_of ?F ?N ?hs ?hm; (case F => k_asm); (case N => k_asm); (case hs => first | exact fun _ h => h | (intro p hp; k_ownIn) | (intro p hp; repeat (first | exact hp | apply List.mem_cons_of_mem))); (case hm => first | assumption | exact pm_next (by with_unfolding_all rfl) (by with_unfolding_all rfl) (by with_unfolding_all rfl) (by with_unfolding_all rfl) | exact pm_first (by with_unfolding_all rfl) (by with_unfolding_all rfl) (by with_unfolding_all rfl) (by with_unfolding_all rfl) | exact cm_of (by with_unfolding_all rfl) (by with_unfolding_all rfl) (by with_unfolding_all rfl) (by with_unfolding_all rfl) (by with_unfolding_all rfl) (by with_unfolding_all rfl) (by with_unfolding_all rfl) (by with_unfolding_all rfl) (by with_unfolding_all rfl)))))
local macro_rules | `(tactic| walk_at "subscriptTail") => `(tactic| (k_here; (with_reducible show wpAny _ _ (subscriptTail _ _ (Value.ref _) (Value.int _ _)) _ _ _); k_dflt (refine' led_ref ?k1 ?k2 ?k3 ?k4 ?k5 ?_; (case k1 => k_asm); (case k2 => k_mem); (case k3 => omega); (case k4 => assumption); (case k5 => omega))))
local macro_rules | `(tactic| walk_at "call builtin:len") => `(tactic| (k_here; (with_reducible show wpAny _ _ (call (Value.builtin "len") [Value.ref _]) _ _ _); k_dflt (refine' led_len ?k1 ?k2 ?k3 ?k4 ?_; (case k1 => k_asm); (case k2 => k_mem); (case k3 => assumption); (case k4 => assumption))))
local macro_rules | `(tactic| walk_at "assign Tuple") => `(tactic| (k_here; k_dflt (refine' unp5 ?hh ?F ?N ?X ?hC ?hT ?hL ?k1 ?k2 ?k3 ?k4 ?k5 ?hp ?_; (case hh => rfl); (case F => k_asm); (case N => k_asm); (case X => k_asm); (case hC => kernel_rfl); (case hT => k_mem); (case hL => rfl); (case k1 => with_unfolding_all rfl); (case k2 => with_unfolding_all rfl); (case k3 => with_unfolding_all rfl); (case k4 => with_unfolding_all rfl); (case k5 => with_unfolding_all rfl); (case hp => with_unfolding_all rfl)); intro h' tk' F' N'; (try k_sweep)))
noncomputable def s9 : Cut2 (s8.P) := by
  apply Cut2.mk
  intro hcut hcut2
  w_top off
  delta s8
  intro _
  intros
  (with_reducible rename Below _ _ _ (_ : Heap) => hBel)
  (try k_lift hBel)
  (with_reducible rename List PySem.Str => ws)
  (with_reducible rename List Int => gs)
  (with_reducible rename Fr _ _ _ _ => F2)
  (with_reducible rename News _ _ _ _ => N2)
  clear F2 N2
  (with_reducible rename (Nat → TokD) => D)
  (with_reducible rename ToksIn _ _ _ _ _ _ _ => hTI)
  (with_reducible rename Menu _ _ => hM)
  refine { hh := rfl, t0 := rfl, hx := (by with_unfolding_all rfl), hp := (by with_unfolding_all rfl), hL := rfl, hco := rfl, hi := rfl, hs := (by intro _; rfl), w0 := ?w0, w1 := ?w1, w2 := ?w2, w3 := ?w3, w4 := ?w4, w5 := ?w5, w6 := ?w6 }
  case w0 =>
    intro s m L E hB F N hled
    dsimp only
    k_steps
  case w1 =>
    intro s m L E hB F0 N hled
    have F' := Fr.know hB F0
    clear F0
    have hge := hM.ge
    have hv0 : _ = some (Value.ref (D 0).T) := hTI.val 0 (by omega)
    have N1 := News.dup N (hled _ (List.Mem.tail _ (List.Mem.tail _ (List.Mem.tail _ (hTI.tok 0 (by omega))))))
    have N' := News.dup N1 (List.Mem.tail _ (hled _ (List.Mem.tail _ (List.Mem.tail _ (List.Mem.head _)))))
    clear N N1
    dsimp only
    k_steps
    all_goals exact none
  case w2 =>
    intro s m L E hP F0 N hled
    obtain ⟨⟨t1, p1⟩, ⟨t2, p2⟩, p3, p4⟩ := hP
    have F' := Fr.know4 p1 p2 p3 p4 F0
    clear F0
    have hle := hM.le
    have hlen := hTI.len
    have N' := News.dup N (hled _ (List.Mem.tail _ (List.Mem.tail _ (List.Mem.head _))))
    clear N
    dsimp only
    k_steps
  case w6 =>
    intro i RI p s m L E hi h1 hC F0 N hled
    obtain ⟨hP, ⟨ti, hI⟩, ⟨tt, hT⟩, ⟨tx, hX⟩, hS, hN⟩ := hC
    have F1 := Fr.know4 hT hX hN hP.2.2.2 F0
    clear F0
    dsimp only
    k_steps
  case w4 => (clear hcut2; (repeat (rename _ => x9; revert x9)); intro hcut9; exact hcut9.out)
  case w5 => (clear hcut; (repeat (rename _ => x9; revert x9)); intro hcut9; exact hcut9.out)
  case w3 =>
    intro i RI p s m t L E hi h1 hP F0 N hled
    obtain ⟨⟨t1, p1⟩, ⟨t2, p2⟩, p3, p4⟩ := hP
    have F' := Fr.know4u p1 p2 p3 p4 F0
    clear F0
    have hv0 : _ = some (Value.ref (D i).T) := hTI.val i hi
    have hle := hM.le
    have N1 := News.dup N (hled _ (List.Mem.tail _ (List.Mem.tail _ (List.Mem.tail _ (hTI.tok i hi)))))
    have N' := News.dup N1 (List.Mem.tail _ (hled _ (List.Mem.tail _ (List.Mem.tail _ (List.Mem.head _)))))
    clear N N1
    dsimp only
    k_steps
    all_goals exact none
end

section
set_option maxRecDepth 100000
set_option maxHeartbeats 0
local macro_rules | `(tactic| walk_at "GEnd") => `(tactic| (k_dflt (refine' gend_of ?F ?N ?hs ?hm; (case F => k_asm); (case N => k_asm); (case hs => first | exact fun _ h => h | (intro p hp; k_ownIn) | (intro p hp; repeat (first | exact hp | apply List.mem_cons_of_mem))); (case hm => first | assumption | exact pm_next (by with_unfolding_all rfl) (by with_unfolding_all rfl) (by with_unfolding_all rfl) (by with_unfolding_all rfl) | exact pm_first (by with_unfolding_all rfl) (by with_unfolding_all rfl) (by with_unfolding_all rfl) (by with_unfolding_all rfl) | exact cm_of (by with_unfolding_all rfl) (by with_unfolding_all rfl) (by with_unfolding_all rfl) (by with_unfolding_all rfl) (by with_unfolding_all rfl) (by with_unfolding_all rfl) (by with_unfolding_all rfl) (by with_unfolding_all rfl) (by with_unfolding_all rfl)))))
local macro_rules | `(tactic| walk_at "subscriptTail") => `(tactic| (k_here; (with_reducible show wpAny _ _ (subscriptTail _ _ (Value.ref _) (Value.int _ _)) _ _ _); k_dflt (refine' led_ref ?k1 ?k2 ?k3 ?k4 ?k5 ?_; (case k1 => k_asm); (case k2 => k_mem); (case k3 => omega); (case k4 => assumption); (case k5 => omega))))
local macro_rules | `(tactic| walk_at "call builtin:len") => `(tactic| (k_here; (with_reducible show wpAny _ _ (call (Value.builtin "len") [Value.ref _]) _ _ _); k_dflt (refine' led_len ?k1 ?k2 ?k3 ?k4 ?_; (case k1 => k_asm); (case k2 => k_mem); (case k3 => assumption); (case k4 => assumption))))
local macro_rules | `(tactic| walk_at "assign Tuple") => `(tactic| (k_here; k_dflt (refine' unp5 ?hh ?F ?N ?X ?hC ?hT ?hL ?k1 ?k2 ?k3 ?k4 ?k5 ?hp ?_; (case hh => rfl); (case F => k_asm); (case N => k_asm); (case X => k_asm); (case hC => kernel_rfl); (case hT => k_mem); (case hL => rfl); (case k1 => with_unfolding_all rfl); (case k2 => with_unfolding_all rfl); (case k3 => with_unfolding_all rfl); (case k4 => with_unfolding_all rfl); (case k5 => with_unfolding_all rfl); (case hp => with_unfolding_all rfl)); intro h' tk' F' N'; (try k_sweep)))
local macro_rules | `(tactic| walk_at "subscriptTail") => `(tactic| (k_here; (with_reducible show wpAny _ _ (subscriptTail _ _ (Value.ref _) (Value.int (_ - 2) _)) _ _ _); k_dflt (refine' led_tok ?k1 ?k2 ?k3 ?k4 ?k5 ?k6 ?_; (case k1 => k_asm); (case k2 => k_mem); (case k3 => assumption); (case k4 => assumption); (case k5 => assumption); (case k6 => assumption))))
local macro_rules | `(tactic| walk_at "subscriptTail") => `(tactic| (k_here; (with_reducible show wpAny _ _ (subscriptTail _ _ (Value.ref _) (Value.int 1 _)) _ _ _); k_dflt (refine' like_tok ?X ?hC ?N ?hm ?_; (case X => k_in); (case hC => kernel_rfl); (case N => k_asm); (case hm => k_mem))))
local macro_rules | `(tactic| walk_at "compareOp NotEq ref") => `(tactic| (k_here; (with_reducible show wpAny _ _ (compareOp CmpOp.NotEq (Value.ref _) (Value.ref _)) _ _ _); k_dflt (refine' pair_ne ?N ?m1 ?m2 ?hu ?_; (case N => k_asm); (case m1 => k_mem); (case m2 => k_mem); (case hu => ke_room))))
-- gen_room
local macro_rules | `(tactic| walk_at "compareOp In") => `(tactic| (k_here; (with_reducible show wpAny _ _ (compareOp CmpOp.In (Value.str _ _) (Value.ref 86)) _ _ _); k_dflt (refine' in_words_top (ys := kwHard) ?X ?e ?_; (case X => k_in); (case e => kernel_rfl))))
local macro_rules | `(tactic| walk_at "compareOp In") => `(tactic| (k_here; (with_reducible show wpAny _ _ (compareOp CmpOp.In (Value.str _ _) (Value.ref 87)) _ _ _); k_dflt (refine' in_words_top (ys := kwSoft) ?X ?e ?_; (case X => k_in); (case e => kernel_rfl))))
local macro_rules | `(tactic| walk_at "call ref") => `(tactic| (k_here; k_dflt (refine wpAny_call ?_); k_dflt (refine' code_def ?k1 ?k2 ?k3 ?k4 ?k5 ?kA ?kF ?kK ?k6 ?k7 ?k8 ?k9 ?kB ?_ ?c2 ?c3 ?c4 ?c5; (case kA => exact rfl); (case kF => exact rfl); (case kK => exact rfl); (case k1 => k_asm); (case k2 => k_asm); (case k3 => k_asm); (case k4 => k_asm); (case k5 => k_asm); (case k6 => k_is); (case k7 => k_is); (case k8 => exact Nat.le_of_ble_eq_true rfl); (case k9 => exact BindsTo.of_eq rfl); (case c5 => decide); (case kB => exact locs rfl); (case c2 => exact rfl); (case c3 => exact rfl); (case c4 => exact rfl)); intro g' L' h' FG' F' N' B' X' T'; (try dsimp only); (try k_lift B'); (try k_fold)))
theorem s10 : s9.P := by
  w_top off
  delta s9
  intro _
  intros
  (with_reducible rename CMm _ _ _ _ _ _ => hC)
  (with_reducible rename Fr _ _ _ _ => F0)
  (with_reducible rename News _ _ _ _ => N)
  (with_reducible rename (∀ q ∈ (_ : List (Addr × Obj)), q ∈ _) => hled)
  (with_reducible rename List PySem.Str => ws)
  (with_reducible rename List Int => gs)
  (with_reducible rename (Nat → TokD) => D)
  (with_reducible rename ToksIn _ _ _ _ _ _ _ => hTI)
  (with_reducible rename Menu _ _ => hM)
  obtain ⟨⟨⟨t1, p1⟩, ⟨t2, p2⟩, p3, p4⟩, ⟨ti, hI⟩, ⟨tt, hT⟩, ⟨tx, hX⟩, hS, hN⟩ := hC
  have F' := Fr.know9 p1 p2 p3 p4 hI hT hX hS hN F0
  clear F0
  (with_reducible rename (_ < List.length ws) => hi)
  (with_reducible rename (1 ≤ _) => h1)
  have N1 := News.dup N (hled _ (List.Mem.tail _ (List.Mem.tail _ (List.Mem.head _))))
  have N2 := News.dup N1 (List.Mem.tail _ (hled _ (List.Mem.tail _ (List.Mem.tail _ (List.Mem.tail _ (hTI.p1 _ hi))))))
  have N3 := News.dup N2 (List.Mem.tail _ (List.Mem.tail _ (hled _ (List.Mem.tail _ (List.Mem.tail _ (List.Mem.tail _ (hTI.p2 _ (Nat.lt_of_le_of_lt (Nat.sub_le _ 1) hi))))))))
  have N4 := News.dup N3 (List.Mem.tail _ (List.Mem.tail _ (List.Mem.tail _ (hled _ (List.Mem.tail _ (List.Mem.tail _ (List.Mem.tail _ (hTI.tok _ (Nat.lt_of_le_of_lt (Nat.sub_le _ 2) hi)))))))))
  clear N N1 N2 N3
  have hle := hM.le
  dsimp only
  k_steps
  all_goals first
    | exact tnKind hM h1 hi (by assumption)
    | exact tnOpen hM h1 hi (by assumption)
    | exact tnGap hM h1 hi (by assumption)
    | exact tnHard hM h1 hi (by assumption)
    | exact tnClose hM h1 hi (by assumption) (by assumption)
    | exact tnSoft hM h1 hi (by assumption) (by assumption)
    | exact tnClass hM h1 hi (by assumption) (by assumption)
    | exact tyAll hM h1 hi (by assumption) (by assumption) (by assumption) (by first | exact pl1 (by assumption) | exact pl2 (by assumption)) (by first | exact taType hM h1 hi (by assumption) (by assumption) (by assumption) | exact taName hM h1 hi (by assumption) (by assumption) (by assumption) | exact taClose hM h1 hi (by assumption) (by assumption))
    | skip
end

section
set_option maxRecDepth 100000
set_option maxHeartbeats 0
local macro_rules | `(tactic| walk_at "newTuple") => `(tactic| (k_here; k_dflt (refine' newTup ?k1 ?k2 ?_ ?k3; (case k1 => k_asm); (case k2 => k_asm); (case k3 => exact Nat.le_of_ble_eq_true rfl)); intro l' h' F' N' l1 lA; (try k_lt l1); (try k_sweep)))
local macro_rules | `(tactic| walk_at "YEnd") => `(tactic| (k_dflt (refine' yend_of ?F ?N ?hl ?hm ?hP ?he; (case F => k_asm); (case N => k_asm); (case hl => assumption); (case hP => exact List.Mem.tail _ (List.Mem.tail _ (List.Mem.tail _ (by assumption)))); (case he => assumption); (case hm => exact cm_of (by with_unfolding_all rfl) (by with_unfolding_all rfl) (by with_unfolding_all rfl) (by with_unfolding_all rfl) (by with_unfolding_all rfl) (by with_unfolding_all rfl) (by with_unfolding_all rfl) (by with_unfolding_all rfl) (by with_unfolding_all rfl)))))
theorem s11 : s9.Q := by
  w_top off
  delta s9
  intro _
  intros
  (with_reducible rename CMm _ _ _ _ _ _ => hC)
  (with_reducible rename Fr _ _ _ _ => F0)
  (with_reducible rename News _ _ _ _ => N)
  (with_reducible rename (∀ q ∈ (_ : List (Addr × Obj)), q ∈ _) => hled)
  (with_reducible rename List PySem.Str => ws)
  (with_reducible rename List Int => gs)
  (with_reducible rename (Nat → TokD) => D)
  (with_reducible rename ToksIn _ _ _ _ _ _ _ => hTI)
  (with_reducible rename Menu _ _ => hM)
  obtain ⟨⟨⟨t1, p1⟩, ⟨t2, p2⟩, p3, p4⟩, ⟨ti, hI⟩, ⟨tt, hT⟩, ⟨tx, hX⟩, hS, hN⟩ := hC
  have F' := Fr.know9 p1 p2 p3 p4 hI hT hX hS hN F0
  clear F0
  (with_reducible rename (_ < List.length ws) => hi)
  (with_reducible rename (1 ≤ _) => h1)
  have hle := hM.le
  have hwl : (wAt ws _).length ≤ 1000 := (hM.ok.len hi).2
  have hP1 := hTI.p2 _ (Nat.lt_of_le_of_lt (Nat.sub_le _ 1) hi)
  have hE := end_start ws gs h1
  dsimp only
  refine wpAny_mono (Q := fun v s' => YEnd _ _ _ _ _ _ _ v s') ?_ (fun _ _ e => e) (fun _ _ e => e)
  k_steps
end

section
set_option maxRecDepth 100000
set_option maxHeartbeats 0
local macro_rules | `(tactic| walk_at "compareOp Eq ref ref") => `(tactic| (k_here; refine Stop.mk ?_))
theorem s12 : s8.Q := by
  w_top off
  delta s8
  intro _
  intros
  (with_reducible rename DatAll _ _ (dueD _ _ _) => hdue)
  (with_reducible rename DatAll _ _ (outD _ _ _) => hout)
  (with_reducible rename ToksR _ _ _ _ _ _ _ _ => hTR)
  (with_reducible rename (∀ p, p ∈ (_ : List (Addr × Obj)) → p ∈ _) => hsub)
  (with_reducible rename Menu _ _ => hM)
  (with_reducible rename (∀ (L₂ : Addr) (m₂ : Str → Option Value) (news₂ : List (Addr × Obj)) (h₂ : Heap), Fr _ L₂ h₂ m₂ → _) => back)
  (with_reducible rename News _ _ _ _ => N2)
  (with_reducible rename Fr _ _ _ _ => F2)
  obtain ⟨F', N'⟩ := back _ _ _ _ F2 N2
  clear F2 N2
  k_steps
  refine Stop.mk (P := wpAny _ _ _ _ _ _) ?_
  unfold Stop
  refine eq_lists N' (List.Mem.head _) hout (fun p h => List.Mem.tail _ (List.Mem.tail _ h)) (List.Mem.tail _ (List.Mem.tail _ (List.mem_append_left _ (List.Mem.tail _ (List.Mem.head _))))) hdue (fun p h => List.Mem.tail _ (List.Mem.tail _ (List.mem_append_left _ (List.Mem.tail _ (List.Mem.tail _ (List.Mem.tail _ (hTR.1 p (hsub p h)))))))) hM (by ke_room) ?_
  k_steps
  refine ⟨.inl ⟨_, .bool true, [], rfl, ?_, .bool true, ?_, ?_⟩, .of_keep ?_, rfl, ?_⟩
  · exact fun _ => rfl
  · kernel_rfl
  · exact fun _ => ⟨.nil, fun _ ha => nomatch ha⟩
  · exact fun b o e => F'.keep b o e
  · intro y hy
    have := Array.mem_singleton.mp hy
    subst this
    rfl
end

end Mine
theorem PySem.Challenge.cw_bd0042_01_holds : PySem.Challenge.rw_bd0042_01.Holds :=
  Mine.s1.go ⟨Mine.s2.go ⟨Mine.s3.go ⟨Mine.s4.go ⟨Mine.s5.go ⟨Mine.s6.go ⟨Mine.s7.go ⟨Mine.s8.go ⟨Mine.s9.go ⟨Mine.s10⟩ ⟨Mine.s11⟩⟩ ⟨Mine.s12⟩⟩⟩⟩⟩⟩⟩⟩
