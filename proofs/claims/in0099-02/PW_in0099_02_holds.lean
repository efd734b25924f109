import PyProof.Rows.All
import Wide.All
import OpenK.AllK
import Wide.FinOn
import PySem.Challenge.RW_in0099_02
open PySem PySem.W PyProof.Rows PySem.Calls PySem.Spec
set_option Elab.async false
set_option maxRecDepth 100000
set_option maxHeartbeats 8000000
set_option linter.unusedVariables false
namespace Mine
/-! the top's run over a tree of objects, in one check -/
def treeOf (f : Nat → Obj) (n : Nat) : Nat → Nat → Nat → BT
  | 0, _, _ => .nil
  | k + 1, a, b => match Nat.blt b n with
    | true => .node (f b) (treeOf f n k (2 * a) (a + b)) (treeOf f n k (2 * a) (2 * a + b))
    | false => .nil
theorem treeOf_get (f : Nat → Obj) (n : Nat) : ∀ (k a b i : Nat), 1 ≤ a → a * i + b < n → i < k → (treeOf f n k a b).get i = some (f (a * i + b)) := by
  intro k
  induction k with
  | zero => intro a b i _ _ h; omega
  | succ k ih =>
    intro a b i ha hi hk
    have hb : Nat.blt b n = true := by
      have : a * i + b < n := hi
      exact Nat.ble_eq_true_of_le (by show b + 1 ≤ n; omega)
    unfold treeOf
    rw [hb]
    show (BT.node (f b) (treeOf f n k (2 * a) (a + b)) (treeOf f n k (2 * a) (2 * a + b))).get i = _
    rw [BT.get_node]
    by_cases h0 : i = 0
    · subst h0; simp
    · rw [if_neg h0]
      by_cases h1 : i % 2 = 1
      · rw [if_pos h1]
        obtain ⟨j, hj⟩ : ∃ j, i = 2 * j + 1 := ⟨i / 2, by omega⟩
        have e1 : i / 2 = j := by omega
        have e2 : a * i + b = 2 * a * j + (a + b) := by rw [hj, Nat.mul_add, Nat.mul_one, ← Nat.mul_assoc, Nat.mul_comm a 2]; omega
        rw [e1, e2]
        exact ih (2 * a) (a + b) j (by omega) (by rw [← e2]; exact hi) (by omega)
      · rw [if_neg h1]
        obtain ⟨j, hj⟩ : ∃ j, i = 2 * j + 2 := ⟨i / 2 - 1, by omega⟩
        have e1 : i / 2 - 1 = j := by omega
        have e2 : a * i + b = 2 * a * j + (2 * a + b) := by rw [hj, Nat.mul_add, ← Nat.mul_assoc, Nat.mul_comm a 2]; omega
        rw [e1, e2]
        exact ih (2 * a) (2 * a + b) j (by omega) (by rw [← e2]; exact hi) (by omega)
def toT (s : Shared) : SharedT := ⟨treeOf (fun i => (s.heap.objs[i]?).getD default) s.heap.objs.size s.heap.objs.size 1 0, s.heap.objs.size, s.heap.life, s.gens, s.drawn, s.toks, s.os⟩
theorem toT_abs (s : Shared) : (toT s).abs = s := by
  obtain ⟨⟨objs, life⟩, gens, drawn, toks, os⟩ := s
  have e : absHeap (treeOf (fun i => (objs[i]?).getD default) objs.size objs.size 1 0) objs.size life = ⟨objs, life⟩ := by
    have : (absHeap (treeOf (fun i => (objs[i]?).getD default) objs.size objs.size 1 0) objs.size life).objs = objs := by
      apply Array.ext_getElem?
      intro i
      rw [absHeap_at]
      by_cases h : i < objs.size
      · rw [if_pos h, treeOf_get _ _ _ _ _ _ (Nat.le_refl _) (by omega) h]
        simp [h]
      · rw [if_neg h]
        exact (Array.getElem?_eq_none (by omega)).symm
    show Heap.mk _ _ = Heap.mk _ _
    exact congrArg (Heap.mk · life) this
  exact congrArg (fun h : Heap => (⟨h, gens, drawn, toks, os⟩ : Shared)) e
abbrev StepFn : Type := Program → World → SharedT → Thread → Option (SharedT × Thread)
def impEndsT (st : StepFn) (p : Program) (w : World) : Nat → SharedT → Thread → Option SharedT
  | 0, _, _ => none
  | n + 1, s, t => match t.atExitBegin with
    | some [] => some s
    | some (_ :: _) => none
    | none => match st p w s t with
      | some (s', t') => impEndsT st p w n s' t'
      | none => none
theorem impEnds_of {tb : String → Option Builtin} {p : Program} {w : World} : ∀ {n : Nat} {s s' : SharedT} {t : Thread}, impEndsT (stepT (denote tb)) p w n s t = some s' → importEnds tb p w n s.abs t = some s'.abs
  | 0, _, _, _, h => by cases h
  | n + 1, s, s', t, h => by
    unfold impEndsT at h
    unfold importEnds
    cases he : t.atExitBegin with
    | some x =>
      rw [he] at h
      cases x with
      | nil => cases h; rfl
      | cons a r => cases h
    | none =>
      rw [he] at h
      cases hs : stepT (denote tb) p w s t with
      | none => rw [hs] at h; cases h
      | some r => obtain ⟨s₂, t₂⟩ := r; rw [hs] at h; dsimp only; rw [stepT_spec hs]; exact impEnds_of h
def topRunT (st : StepFn) (p : Program) (w : World) (n₀ : Nat) (ann : Option Value) : Nat → SharedT → Thread → Option SharedT
  | 0, _, _ => none
  | n + 1, s, t => match through t with
    | true => some s
    | false => match stepOk n₀ ann t with
      | false => none
      | true => match st p w s t with
        | some (s', t') => topRunT st p w n₀ ann n s' t'
        | none => none
theorem topRun_of {tb : String → Option Builtin} {p : Program} {w : World} {n₀ : Nat} {ann : Option Value} : ∀ {n : Nat} {s s' : SharedT} {t : Thread}, topRunT (stepT (denote tb)) p w n₀ ann n s t = some s' → topRun tb p w n₀ ann n s.abs t = some s'.abs
  | 0, _, _, _, h => by cases h
  | n + 1, s, s', t, h => by
    unfold topRunT at h
    unfold topRun
    cases he : through t with
    | true => rw [he] at h; cases h; rfl
    | false =>
      rw [he] at h
      cases hk : stepOk n₀ ann t with
      | false => rw [hk] at h; cases h
      | true =>
        rw [hk] at h
        cases hs : stepT (denote tb) p w s t with
        | none => rw [hs] at h; cases h
        | some r => obtain ⟨s₂, t₂⟩ := r; rw [hs] at h; dsimp only; rw [stepT_spec hs]; exact topRun_of h
def fencedT (st : StepFn) (p : Program) (w : World) (N : Nat) (x : Shared × Thread) (fence : Program → Shared → Option Shared) : Option Shared :=
  (impEndsT st (opening p) w N (toT x.1) x.2).bind fun s => fence p s.abs
def topFromT (st : StepFn) (p : Program) (w : World) (N : Nat) (stub : Thread) (look : Shared → Shared → Bool) (s₀ : Shared) : Option Shared :=
  match s₀.heap.isNs mainGlobals && s₀.gens.size == 0 with
  | true => (topRunT st p w s₀.heap.objs.size (s₀.heap.nsMap mainGlobals "__annotations__") N (toT s₀) stub).bind fun s₁ => match look s₀ s₁.abs with
      | true => some s₁.abs
      | false => none
  | false => none
abbrev lookB (p : Program) (s₀ s₁ : Shared) : Bool := staticsOk (importedModules p.main.body) s₀.heap s₁.heap && namesBound p s₁.heap && gensDone s₁ && laidKept s₀.heap s₁.heap
def openEndsT (st : StepFn) (p : Program) (w : World) (N : Nat) (x : Shared × Thread) (fence : Program → Shared → Option Shared) (stub : Thread) (look : Shared → Shared → Bool) : Option Shared := (fencedT st p w N x fence).bind (topFromT st p w N stub look)
theorem fenced_of {tb : String → Option Builtin} {p : Program} {w : World} {N : Nat} {s : Shared} (h : fencedT (stepT (denote tb)) p w N (start (opening p)) fenceModules? = some s) : fencedOpening tb p w N = some s := by
  unfold fencedT at h
  unfold fencedOpening
  obtain ⟨a, ha, hb⟩ := Option.bind_eq_some_iff.mp h
  have q := impEnds_of ha
  rw [toT_abs] at q
  rw [q]
  exact hb
theorem topFrom_of {tb : String → Option Builtin} {p : Program} {w : World} {N : Nat} {s₀ s : Shared} (h : topFromT (stepT (denote tb)) p w N (topStub p) (lookB p) s₀ = some s) : topFrom tb p w N s₀ = some s := by
  unfold topFromT at h
  unfold topFrom
  cases hc : (s₀.heap.isNs mainGlobals && s₀.gens.size == 0) with
  | false => rw [hc] at h; cases h
  | true =>
    rw [hc] at h
    dsimp only at h ⊢
    obtain ⟨a, ha, hb⟩ := Option.bind_eq_some_iff.mp h
    have q := topRun_of ha
    rw [toT_abs] at q
    rw [q]
    exact hb
theorem left_of_T {p q : Program} {loose : List Str} {Xt : Shared → Bool} {α : Type} {Yf : Shared → α} {Ya : World → α} {N : Nat} {g0 : Bool}
    (h : ∀ w : World, (openEndsT (stepT (denote treeTable)) p w N (start (opening p)) fenceModules? (topStub p) (lookB p)).map (fun s => (openSeen q loose (importedModules p.main.body) Xt g0 s, Yf s)) = some (openGood q loose, Ya w)) : LeftO p q loose Xt Yf Ya N g0 := fun w => by
  obtain ⟨s, a, b⟩ := Option.map_eq_some_iff.mp (h w)
  unfold openEndsT at a
  obtain ⟨s₀, a0, a1⟩ := Option.bind_eq_some_iff.mp a
  unfold openEnds
  rw [fenced_of a0]
  show (topFrom treeTable p w N s₀).map _ = _
  rw [topFrom_of a1]
  exact congrArg some b
end Mine
namespace Mine
def v1 : Program := { PySem.Challenge.pw_in0099_02 with main := { (PySem.Challenge.pw_in0099_02).main with body := (PySem.Challenge.pw_in0099_02).main.body.drop ((PySem.Challenge.pw_in0099_02).main.body.length - 1) } }
def lo1 : List Str := (PySem.Challenge.pw_in0099_02).boundNames.filter fun x => !(x == Str.ofString "law")
section
/-- the library writes the objects out; nothing is shown here -/
local macro_rules | `(tactic| o_head $H) => `(tactic| exact False.elim (by assumption))
theorem k0 : False → (OpenLaw.row PySem.Challenge.rw_in0099_02).Holds := by
  intro hf
  k_head
end
def keys : List Addr := [2, 3, 6, 11, 12, 55, 57, 58, 60, 61, 63, 65, 66, 68, 69, 70, 72, 73, 75, 76, 77, 79, 83, 87, 88, 89, 91, 92, 94, 95, 96, 98, 99, 101, 102, 103, 105, 106, 108, 109, 110, 112, 113, 115, 116, 120, 121, 125, 126, 130, 131, 132, 134, 135, 137, 138, 139, 141, 142, 144, 145, 146, 148, 149, 151, 152, 153, 155, 156, 158, 159, 160, 162, 163, 165, 166, 167, 169, 170, 172, 173, 174, 176, 177, 179, 180, 181, 184, 185]
theorem keys_eq (P : Params) : keys = (k0.heap_1 P).map fun x => x.1 := by kernel_rfl
noncomputable def kh : Hook := kHook k0.heap_1 keys keys_eq
def LeftAt (w : World) : Prop := (openEndsT (stepT (denote treeTable)) PySem.Challenge.pw_in0099_02 w 4366 (start (opening PySem.Challenge.pw_in0099_02)) fenceModules? (topStub PySem.Challenge.pw_in0099_02) (lookB PySem.Challenge.pw_in0099_02)).map (fun s => (openSeen v1 lo1 (importedModules (PySem.Challenge.pw_in0099_02).main.body) (fun s => recOk (PySem.Challenge.rw_in0099_02).row.records s) true s, kh.obs s)) = some (openGood v1 lo1, kh.val w)
theorem said : OpenLaw.wellSaid PySem.Challenge.rw_in0099_02 = true := by
  rw [PySem.W.Fast.te9446332074065402090]; kernel_rfl
theorem left1 : ∀ w : World, LeftAt ((w.withFollow "special-get-raises" false).withFollow "comprehension-iter-twice" false) := by
  intro w; delta LeftAt kh; (try dsimp only); (try delta topStub); (try delta lookB); (try delta staticsOk); (try delta namesBound); (try delta laidKept); (try dsimp only); (try rw [PySem.W.Fast.te10156331382660048174]); (try rw [PySem.W.Fast.te11892475500146522536]); (try rw [PySem.W.Fast.te14364793385576792824]); (try rw [PySem.W.Fast.te14289696077712309145]); (try rw [PySem.W.Fast.te4187177175401517315]); (try rw [PySem.W.Fast.te17154629097778926822]); (try rw [PySem.W.Fast.te12822647523644345616]); (try rw [PySem.W.Fast.te1435165496053646825]); (try rw [PySem.W.Fast.te5923862056798008813]); (try rw [PySem.W.Fast.te1584917186373303978]); (try rw [PySem.W.Fast.te14846217769314788766]); (try rw [PySem.W.Fast.te4857012375875476094]); (try rw [PySem.W.Fast.te8920871248978507458]); (try rw [PySem.W.Fast.te12749700546528644094]); (try rw [PySem.W.Fast.te18344453789297297638]); kernel_rfl
theorem left2 : ∀ w : World, LeftAt ((w.withFollow "special-get-raises" true).withFollow "comprehension-iter-twice" false) := by
  intro w; delta LeftAt kh; (try dsimp only); (try delta topStub); (try delta lookB); (try delta staticsOk); (try delta namesBound); (try delta laidKept); (try dsimp only); (try rw [PySem.W.Fast.te10156331382660048174]); (try rw [PySem.W.Fast.te11892475500146522536]); (try rw [PySem.W.Fast.te14364793385576792824]); (try rw [PySem.W.Fast.te14289696077712309145]); (try rw [PySem.W.Fast.te4187177175401517315]); (try rw [PySem.W.Fast.te17154629097778926822]); (try rw [PySem.W.Fast.te12822647523644345616]); (try rw [PySem.W.Fast.te1435165496053646825]); (try rw [PySem.W.Fast.te5923862056798008813]); (try rw [PySem.W.Fast.te1584917186373303978]); (try rw [PySem.W.Fast.te14846217769314788766]); (try rw [PySem.W.Fast.te4857012375875476094]); (try rw [PySem.W.Fast.te8920871248978507458]); (try rw [PySem.W.Fast.te12749700546528644094]); (try rw [PySem.W.Fast.te18344453789297297638]); kernel_rfl
theorem left3 : ∀ w : World, LeftAt ((w.withFollow "special-get-raises" false).withFollow "comprehension-iter-twice" true) := by
  intro w; delta LeftAt kh; (try dsimp only); (try delta topStub); (try delta lookB); (try delta staticsOk); (try delta namesBound); (try delta laidKept); (try dsimp only); (try rw [PySem.W.Fast.te10156331382660048174]); (try rw [PySem.W.Fast.te11892475500146522536]); (try rw [PySem.W.Fast.te14364793385576792824]); (try rw [PySem.W.Fast.te14289696077712309145]); (try rw [PySem.W.Fast.te4187177175401517315]); (try rw [PySem.W.Fast.te17154629097778926822]); (try rw [PySem.W.Fast.te12822647523644345616]); (try rw [PySem.W.Fast.te1435165496053646825]); (try rw [PySem.W.Fast.te5923862056798008813]); (try rw [PySem.W.Fast.te1584917186373303978]); (try rw [PySem.W.Fast.te14846217769314788766]); (try rw [PySem.W.Fast.te4857012375875476094]); (try rw [PySem.W.Fast.te8920871248978507458]); (try rw [PySem.W.Fast.te12749700546528644094]); (try rw [PySem.W.Fast.te18344453789297297638]); kernel_rfl
theorem left4 : ∀ w : World, LeftAt ((w.withFollow "special-get-raises" true).withFollow "comprehension-iter-twice" true) := by
  intro w; delta LeftAt kh; (try dsimp only); (try delta topStub); (try delta lookB); (try delta staticsOk); (try delta namesBound); (try delta laidKept); (try dsimp only); (try rw [PySem.W.Fast.te10156331382660048174]); (try rw [PySem.W.Fast.te11892475500146522536]); (try rw [PySem.W.Fast.te14364793385576792824]); (try rw [PySem.W.Fast.te14289696077712309145]); (try rw [PySem.W.Fast.te4187177175401517315]); (try rw [PySem.W.Fast.te17154629097778926822]); (try rw [PySem.W.Fast.te12822647523644345616]); (try rw [PySem.W.Fast.te1435165496053646825]); (try rw [PySem.W.Fast.te5923862056798008813]); (try rw [PySem.W.Fast.te1584917186373303978]); (try rw [PySem.W.Fast.te14846217769314788766]); (try rw [PySem.W.Fast.te4857012375875476094]); (try rw [PySem.W.Fast.te8920871248978507458]); (try rw [PySem.W.Fast.te12749700546528644094]); (try rw [PySem.W.Fast.te18344453789297297638]); kernel_rfl
theorem left : LeftO PySem.Challenge.pw_in0099_02 v1 lo1 (fun s => recOk (PySem.Challenge.rw_in0099_02).row.records s) kh.obs kh.val 4366 true :=
  left_of_T (byRow2 "comprehension-iter-twice" (byRow2 "special-get-raises" left1 left2) (byRow2 "special-get-raises" left3 left4))
end Mine
namespace Mine
section
variable {prog : Program} {w : World} {A : Around} {E : Value → Shared → Prop} {s : Shared} {env : Env} {h₀ : Heap} {body : List Stmt} {Q : Flow → Shared → Prop}
/-- for xi, xc in enumerate(a list of the ledger) -/
theorem enum_loop {xi xc : Str} {pi pc pt : Pos} {x1 : Nat} {l : Addr} {vs : List Value} {nn : Nat} {m₀ : Str → Option Value} {news : List (Addr × Obj)} (J : Nat → (Str → Option Value) → List (Addr × Obj) → Prop)
    (hE : PassesOwn (model prog w) A env E) (hh : A.handled = none) (hxi : env.kindOf xi = some .local) (hxc : env.kindOf xc = some .local)
    (hp : (env.scope.kind == .class || (env.scope.kind == .module && env.locals != env.globals)) = false)
    (hl : (l, listOf vs.toArray nn) ∈ news) (F : Fr h₀ env.locals s.heap m₀) (N : News h₀ env.locals s.heap news) (hj : J 0 m₀ news)
    (turn : ∀ i v t m₁ news₁ h tk own, vs[i]? = some v → OwnOff own (news₁.map (·.1)) → (l, listOf vs.toArray nn) ∈ news₁ → J i m₁ news₁ →
      Fr h₀ env.locals h (fun y => if y = xc then some v else if y = xi then some (.int (i : Int) t) else m₁ y) → News h₀ env.locals h (news₁ ++ own) →
      wpAny (model prog w) A (execs body env) (InvPostG h₀ env.locals (fun m' nx => (l, listOf vs.toArray nn) ∈ nx ∧ J (i + 1) m' nx) own { s with heap := h, toks := tk } Q) E { s with heap := h, toks := tk })
    (done : ∀ m₁ news₁ h tk, J vs.length m₁ news₁ → Fr h₀ env.locals h m₁ → News h₀ env.locals h news₁ → Q .next { s with heap := h, toks := tk }) :
    wpAny (model prog w) A (call (.type "enumerate") [.ref l]) (fun xv s₁ => wpAny (model prog w) A (pyIter xv) (fun it s₂ =>
      codeAny (model prog w) A (.forLoop (.Tuple [.Name xi pi, .Name xc pc] x1 pt) it body [] env) (fun r s' => match r with | .ok f => Q f s' | .error e => cameBackBy (model prog w) A env E e s') s₂) E s₁) E s := by
  have hol : s.heap.get? l = some (listOf vs.toArray nn) := (N _ hl).1
  have hls : s.heap.IsList l vs.toArray := ⟨_, hol, rfl, nn, rfl⟩
  have hLs : @LT.lt Nat _ env.locals s.heap.objs.size := F.ns.lt
  have hab : @LE.le Nat _ h₀.objs.size env.locals := F.above
  have hll : @LT.lt Nat _ l s.heap.objs.size := Heap.lt_size hol
  refine call_enumerate_list hls fun h' he hit hsz hk => ?_
  have F' : Fr h₀ env.locals h' m₀ := ⟨F.ns.keeps hk, fun b o e => hk b o (F.keep b o e), F.above⟩
  have N' : News h₀ env.locals h' news := fun p hp => ⟨hk _ _ (N p hp).1, (N p hp).2⟩
  have hfresh : ∀ q ∈ news, q.1 ≠ s.heap.objs.size + 1 ∧ q.1 ≠ s.heap.objs.size := fun q hq => by
    have := Heap.lt_size (N q hq).1
    exact ⟨fun e => by rw [e] at this; exact absurd this (Nat.not_lt.mpr (Nat.le_succ _)), fun e => by rw [e] at this; exact absurd this (Nat.lt_irrefl _)⟩
  obtain ⟨e, he0⟩ : ∃ e : Nat, e = s.heap.objs.size + 1 := ⟨_, rfl⟩
  obtain ⟨it, hi0⟩ : ∃ e : Nat, e = s.heap.objs.size := ⟨_, rfl⟩
  rw [← he0, ← hi0] at he
  rw [← hi0] at hit
  rw [← he0, ← hi0] at hfresh
  rw [← he0]
  have hei : @Ne Nat e it := by omega
  have heL : @Ne Nat e env.locals := by omega
  have hiL : @Ne Nat it env.locals := by omega
  have hne : h₀.get? e = none := Heap.get?_none_of_le (by omega)
  have hni : h₀.get? it = none := Heap.get?_none_of_le (by omega)
  have hle : @Ne Nat l e := by omega
  have hli : @Ne Nat l it := by omega
  refine wpAny_pyIter_enum he ?_
  have W := WalksT.enumerate (prog := prog) (w := w) hh e it l hei hle hli vs.toArray
  have hn : vs.toArray.size = vs.length := by simp
  rw [hn] at W
  refine codeAny_forLoop_any (R := fun r s' => match r with | .ok f => Q f s' | .error e => cameBackBy (model prog w) A env E e s')
    (fun k s' => ∃ h' tk m' nx i, s' = { s with heap := h', toks := tk } ∧ ((∃ old, IsEnum h' e it ((i : Nat) : Int) old) ∧ h'.IsListIter it l i ∧ h'.IsList l vs.toArray) ∧ Fr h₀ env.locals h' m' ∧ News h₀ env.locals h' nx ∧
      (∀ q ∈ nx, q.1 ≠ e ∧ q.1 ≠ it) ∧ (l, listOf vs.toArray nn) ∈ nx ∧ J i m' nx ∧ i ≤ vs.length ∧ k = vs.length + 1 - i) ?_ (vs.length + 1)
    ⟨h', s.toks, m₀, news, 0, rfl, ⟨⟨_, he⟩, hit, hls.at fun o x => hk l o x⟩, F', N', hfresh, hl, hj, Nat.zero_le _, rfl⟩
  rintro k s' ⟨H, tk, m', nx, i, rfl, hst, F₁, N₁, hoff, hl₁, hJ, hi, rfl⟩
  by_cases hlt : i < vs.length
  · refine W.item i _ _ _ hlt hst fun T vals h₁ tk₁ hP hT hIT hmid hk₁ => ?_
    obtain ⟨t, v, hv, rfl⟩ := hP
    have hv' : vs[i]? = some v := by simpa using hv
    refine W.go _ _ _ i T _ _ _ hmid fun h₂ hst₂ hk₂ => ?_
    have k12 : ∀ b o, b ≠ e → b ≠ it → H.get? b = some o → h₂.get? b = some o := fun b o h1 h2 x => hk₂ b o (by simp [h1, h2]) (hk₁ b o (by simp [h1, h2]) x)
    have hIT₂ : h₂.IsTuple T #[.int i t, v] := hIT.at fun o x => hk₂ T o (W.apart i T _ hmid) x
    refine wpAny_assign_Tuple hh hIT₂ rfl rfl fun h₃ hx₃ => ?_
    replace hx₃ : Heap.ExtBut h₂.objs.size h₂ h₃ := hx₃
    have k23 : ∀ b o, h₂.get? b = some o → h₃.get? b = some o := fun b o x => hx₃ b o (Nat.ne_of_lt (Heap.lt_size x)) x
    have hL₃ : h₃.Ns env.locals m' := (F₁.ns.at' fun o x => k23 _ o (k12 _ o (Ne.symm heL) (Ne.symm hiL) x))
    show wpAny _ A (do holding [v] (assign (.Name xi pi) env (.int i t)); do holding [] (assign (.Name xc pc) env v); pure ()) _ _ _
    refine wpAny_bind (wpAny_holding (wpAny_assign_Name (wpAny_storeName_local hxi hL₃ (fun h₄ hn₄ hs₄ => ?_) hp)))
    replace hs₄ : Heap.SameBut env.locals h₃ h₄ := hs₄
    refine wpAny_bind (wpAny_holding (wpAny_assign_Name (wpAny_storeName_local hxc hn₄ (fun h₅ hn₅ hs₅ => wpAny_pure ?_) hp)))
    replace hs₅ : Heap.SameBut env.locals h₄ h₅ := hs₅
    have k25 : ∀ b o, b ≠ env.locals → h₂.get? b = some o → h₅.get? b = some o := fun b o hb x => hs₅.extBut b o hb (hs₄.extBut b o hb (k23 b o x))
    have k15 : ∀ b o, b ≠ env.locals → b ≠ e → b ≠ it → H.get? b = some o → h₅.get? b = some o := fun b o hb h1 h2 x => k25 b o hb (k12 b o h1 h2 x)
    obtain ⟨⟨old₂, he₂⟩, ⟨oi, hoi, hci, hdi⟩, hls₂⟩ := hst₂
    obtain ⟨oe, he₂, hback⟩ : ∃ oe, h₂.get? e = some oe ∧ ∀ h : Heap, h.get? e = some oe → IsEnum h e it (((i + 1 : Nat) : Nat) : Int) old₂ := ⟨_, he₂, fun _ x => by simpa using x⟩
    have F₅ : Fr h₀ env.locals h₅ (fun y => if y = xc then some v else if y = xi then some (.int (i : Int) t) else m' y) :=
      ⟨hn₅, fun b o x => by
        have hb : @LT.lt Nat _ b h₀.objs.size := Heap.lt_size x
        exact k15 b o (by show @Ne Nat b env.locals; omega) (by rintro rfl; rw [hne] at x; cases x) (by rintro rfl; rw [hni] at x; cases x) (F₁.keep b o x), F₁.above⟩
    have he₅ := k25 e _ heL he₂
    have hi₅ := k25 it _ hiL hoi
    have N₅ : News h₀ env.locals h₅ (nx ++ [(e, oe), (it, oi)]) := fun p hp => by
      rcases List.mem_append.mp hp with hp | hp
      · exact ⟨k15 _ _ (N₁ p hp).2.1 (hoff p hp).1 (hoff p hp).2 (N₁ p hp).1, (N₁ p hp).2⟩
      · rcases List.mem_cons.mp hp with rfl | hp
        · exact ⟨he₅, heL, hne⟩
        · rw [List.mem_singleton.mp hp]
          exact ⟨hi₅, hiL, hni⟩
    have hown : OwnOff [(e, oe), (it, oi)] (nx.map (·.1)) := fun p hp b hb => by
      obtain ⟨q, hq, rfl⟩ := List.mem_map.mp hb
      rcases List.mem_cons.mp hp with rfl | hp
      · exact (hoff q hq).1.symm
      · rw [List.mem_singleton.mp hp]; exact (hoff q hq).2.symm
    refine wpAny_mono (wpAny_passesOwn hE (turn i v t m' nx h₅ _ _ hv' hown hl₁ hJ F₅ N₅)) (fun f s₃ hf => ?_) fun _ _ x => x
    cases f with
    | ret v => exact hf
    | brk => exact hf
    | next =>
      obtain ⟨h₆, tk₆, m₆, n₆, nx₆, rfl, F₆, N₆, hn₆, ho₆, ha₆, hl₆, hJ₆⟩ := hf
      refine ⟨vs.length + 1 - (i + 1), by omega, h₆, tk₆, m₆, nx₆, i + 1, rfl, ⟨⟨old₂, hback _ (N₆ _ (ho₆ _ (List.mem_cons_self ..))).1⟩, ⟨oi, (N₆ _ (ho₆ _ (List.mem_cons_of_mem _ (List.mem_singleton.mpr rfl)))).1, hci, hdi⟩, ⟨_, (N₆ _ (hn₆ _ hl₆)).1, rfl, nn, rfl⟩⟩, F₆, fun p hp => N₆ p (hn₆ p hp), fun q hq => ⟨?_, ?_⟩, hl₆, hJ₆, hlt, rfl⟩
      · exact fun x => ha₆ _ (List.mem_cons_self ..) q.1 (List.mem_map.mpr ⟨q, hq, rfl⟩) x.symm
      · exact fun x => ha₆ _ (List.mem_cons_of_mem _ (List.mem_singleton.mpr rfl)) q.1 (List.mem_map.mpr ⟨q, hq, rfl⟩) x.symm
    | cont =>
      obtain ⟨h₆, tk₆, m₆, n₆, nx₆, rfl, F₆, N₆, hn₆, ho₆, ha₆, hl₆, hJ₆⟩ := hf
      refine ⟨vs.length + 1 - (i + 1), by omega, h₆, tk₆, m₆, nx₆, i + 1, rfl, ⟨⟨old₂, hback _ (N₆ _ (ho₆ _ (List.mem_cons_self ..))).1⟩, ⟨oi, (N₆ _ (ho₆ _ (List.mem_cons_of_mem _ (List.mem_singleton.mpr rfl)))).1, hci, hdi⟩, ⟨_, (N₆ _ (hn₆ _ hl₆)).1, rfl, nn, rfl⟩⟩, F₆, fun p hp => N₆ p (hn₆ p hp), fun q hq => ⟨?_, ?_⟩, hl₆, hJ₆, hlt, rfl⟩
      · exact fun x => ha₆ _ (List.mem_cons_self ..) q.1 (List.mem_map.mpr ⟨q, hq, rfl⟩) x.symm
      · exact fun x => ha₆ _ (List.mem_cons_of_mem _ (List.mem_singleton.mpr rfl)) q.1 (List.mem_map.mpr ⟨q, hq, rfl⟩) x.symm
  · have hin : i = vs.length := by omega
    subst hin
    refine W.done _ _ _ hst fun h₁ tk₁ hk₁ => wpAny_execs_nil ?_
    have k1 : ∀ b o, b ≠ e → b ≠ it → H.get? b = some o → h₁.get? b = some o := fun b o h1 h2 x => hk₁ b o (by simp [h1, h2]) x
    exact done m' nx h₁ tk₁ hJ ⟨F₁.ns.at' fun o x => k1 _ o (Ne.symm heL) (Ne.symm hiL) x, fun b o x => k1 b o (by rintro rfl; rw [hne] at x; cases x) (by rintro rfl; rw [hni] at x; cases x) (F₁.keep b o x), F₁.above⟩
      fun p hp => ⟨k1 _ _ (hoff p hp).1 (hoff p hp).2 (N₁ p hp).1, (N₁ p hp).2⟩
theorem strSub_le (x : Str) (i j : Nat) : (Builtin.Str.strSub x i j).length ≤ x.length := by
  unfold Builtin.Str.strSub Str.length
  simp only [Array.size_extract]
  omega
theorem part_len1 (x y : Str) : (Txt.partition x y).1.length ≤ x.length := by
  unfold Txt.partition
  split
  · exact strSub_le ..
  · exact Nat.le_refl _
theorem part_len3 (x y : Str) : (Txt.partition x y).2.2.length ≤ x.length := by
  unfold Txt.partition
  split
  · exact strSub_le ..
  · exact Nat.zero_le _
theorem part_K {L : Addr} {m : Str → Option Value} {news : List (Addr × Obj)} {x y : Str} {t u : Tok} {Q : Value → Shared → Prop} (hF : Fr h₀ L s.heap m) (hN : News h₀ L s.heap news) (hy : (y.length == 0) = false)
    (hsz : x.length ≤ sizeLine)
    (h : ∀ D ta tb tc h' k, (Txt.partition x y).1.length ≤ x.length → (Txt.partition x y).2.2.length ≤ x.length → Fr h₀ L h' m → News h₀ L h' ((D, { cls := .type "tuple", data := .seq [.str (Txt.partition x y).1 ta, .str (Txt.partition x y).2.1 tb, .str (Txt.partition x y).2.2 tc].toArray }) :: news) → (∀ a ∈ news, a.1 < D) → Q (.ref D) { s with heap := h', toks := k }) :
    wpAny (model prog w) A (call (.builtin "str.partition") [.str x t, .str y u]) Q E s :=
  KXpa.partition hF hN hy rfl rfl rfl hsz fun D ta tb tc h' k => h D ta tb tc h' k (part_len1 x y) (part_len3 x y)
/-- the seven known names, as the tuple holds them -/
abbrev kaObj (a : Nat) : Obj := { cls := .type "tuple", data := .seq #[.str (Str.ofString "expires") a, .str (Str.ofString "domain") (a + 1), .str (Str.ofString "path") (a + 1 + 1), .str (Str.ofString "secure") (a + 1 + 1 + 1), .str (Str.ofString "version") (a + 1 + 1 + 1 + 1), .str (Str.ofString "port") (a + 1 + 1 + 1 + 1 + 1), .str (Str.ofString "max-age") (a + 1 + 1 + 1 + 1 + 1 + 1)] }
def knownL : List Str := [Str.ofString "expires", Str.ofString "domain", Str.ofString "path", Str.ofString "secure", Str.ofString "version", Str.ofString "port", Str.ofString "max-age"]
def isKnown (x : Str) : Bool := knownL.any (· == x)
theorem in_ka {L : Addr} {news : List (Addr × Obj)} {D : Addr} {a : Nat} {x : Str} {t : Tok} {Q : Value → Shared → Prop} (hN : News h₀ L s.heap news) (hm : (D, kaObj a) ∈ news)
    (h : Q (.bool (isKnown x)) s) : wpAny (model prog w) A (compareOp .In (.str x t) (.ref D)) Q E s := by
  refine SeqAt.in_tupleAt (fun v => match v with | .str z _ => z == x | _ => false) ⟨_, (hN _ hm).1, rfl, _, rfl⟩ ?_ ?_
  · intro y hy
    simp only [List.mem_toArray, List.mem_cons, List.not_mem_nil, or_false] at hy
    rcases hy with rfl | rfl | rfl | rfl | rfl | rfl | rfl <;> exact SeqAt.EqAt.str_str _ _ _ _
  · have e : Array.any #[Value.str (Str.ofString "expires") a, .str (Str.ofString "domain") (a + 1), .str (Str.ofString "path") (a + 1 + 1), .str (Str.ofString "secure") (a + 1 + 1 + 1), .str (Str.ofString "version") (a + 1 + 1 + 1 + 1), .str (Str.ofString "port") (a + 1 + 1 + 1 + 1 + 1), .str (Str.ofString "max-age") (a + 1 + 1 + 1 + 1 + 1 + 1)]
      (fun v => match v with | .str z _ => z == x | _ => false) = isKnown x := by
      simp [isKnown, knownL]
    rw [e]; exact h
theorem truthy_L {L : Addr} {news : List (Addr × Obj)} {l : Addr} {vs : List Value} {k : Nat} {Q : Bool → Shared → Prop} (hN : News h₀ L s.heap news) (hm : (l, listOf vs.toArray k) ∈ news) (hfit : vs.length ≤ 1000000)
    (h : ∀ tk, Q (!vs.isEmpty) { s with toks := tk }) : wpAny (model prog w) A (truthy (.ref l)) Q E s := by
  refine wpAny_truthy_list ⟨_, (hN _ hm).1, rfl, k, rfl⟩ (by simp only [List.size_toArray]; omega) ?_
  have := h (s.toks + 1 + 1)
  simpa using this
end
/-! what parse_ns_headers reckons, in plain words -/
def keyOf (y : Str) : Str := Txt.strip (Txt.partition (Txt.strip y) (Str.ofString "=")).1
def sepOf (y : Str) : Str := (Txt.partition (Txt.strip y) (Str.ofString "=")).2.1
def valOf (y : Str) : Str := Txt.strip (Txt.partition (Txt.strip y) (Str.ofString "=")).2.2
def strD : Option Str → Dat
  | none => .none
  | some x => .str x
def pairD (k : Str) (v : Option Str) : Dat := .tuple [.str k, strD v]
def stripQ (x : Str) : Str :=
  let y := if Txt.startswith x (Str.ofString "\"") = true then Txt.slice x (some 1) none else x
  if Txt.endswith y (Str.ofString "\"") = true then Txt.slice y none (some (-1)) else y
def val1 (y : Str) : Option Str := if ((sepOf y).length : Int) = 0 then none else some (valOf y)
def key1 (y : Str) : Str := if isKnown (Txt.lower (keyOf y)) = true then Txt.lower (keyOf y) else keyOf y
def stp (first : Bool) (y : Str) (st : List Dat × Bool) : Option (List Dat × Bool) :=
  if ((keyOf y).length : Int) = 0 then (if first = true then none else some st)
  else if first = true then some (st.1 ++ [pairD (keyOf y) (val1 y)], st.2)
  else if (key1 y == Str.ofString "version") = true then some (st.1 ++ [pairD (key1 y) ((val1 y).map stripQ)], true)
  else some (st.1 ++ [pairD (key1 y) (val1 y)], st.2)
/-- a part behind the first that does not reach the dates -/
def expOk (y : Str) : Prop := key1 y = Str.ofString "expires" → ((sepOf y).length : Int) = 0
def runFrom : Nat → List Str → List Dat × Bool → Option (List Dat × Bool)
  | _, [], st => some st
  | i, y :: r, st => (stp (i == 0) y st).bind (runFrom (i + 1) r)
theorem runFrom_snoc : ∀ (ys : List Str) (i : Nat) (y : Str) (st : List Dat × Bool), runFrom i (ys ++ [y]) st = (runFrom i ys st).bind (stp (i + ys.length == 0) y)
  | [], i, y, st => by
    show (stp (i == 0) y st).bind some = _
    simp [runFrom]
  | z :: r, i, y, st => by
    show (stp (i == 0) z st).bind (runFrom (i + 1) (r ++ [y])) = ((stp (i == 0) z st).bind (runFrom (i + 1) r)).bind _
    rw [Option.bind_assoc]
    congr 1
    funext st'
    rw [runFrom_snoc r (i + 1) y st', List.length_cons, Nat.add_assoc, Nat.add_comm 1]
def runHdr (ys : List Str) : Option (List Dat × Bool) := runFrom 0 ys ([], false)
theorem runHdr_next {ys : List Str} {i : Nat} {y : Str} {st : List Dat × Bool} (hi : ys[i]? = some y) (h : runHdr (ys.take i) = some st) : runHdr (ys.take (i + 1)) = stp (i == 0) y st := by
  have hl : i < ys.length := (List.getElem?_eq_some_iff.mp hi).1
  have e : ys.take (i + 1) = ys.take i ++ [y] := by rw [List.take_add_one, hi]; rfl
  unfold runHdr at h ⊢
  rw [e, runFrom_snoc, h, List.length_take, Nat.min_eq_left (Nat.le_of_lt hl), Nat.zero_add]
  rfl
/-- what one header gives -/
def hdrD (x : Str) : Option Dat := match runHdr (Txt.split x (Str.ofString ";")) with
  | none => none
  | some (ds, b) => if ds.isEmpty = true then none else some (.list (if b = true then ds else ds ++ [pairD (Str.ofString "version") (some (Str.ofString "0"))]))
def allD (xs : List Str) : List Dat := xs.filterMap hdrD
end Mine
namespace Mine
/-! the ledger: what is new lies above what was there -/
def Over (new old : List (Addr × Obj)) : Prop := ∀ q ∈ new, ∀ z ∈ old, @LT.lt Nat _ z.1 q.1
theorem Over.nil {old : List (Addr × Obj)} : Over [] old := fun _ h => nomatch h
theorem Over.cons {q : Addr × Obj} {new old : List (Addr × Obj)} (h : ∀ z ∈ old, @LT.lt Nat _ z.1 q.1) (o : Over new old) : Over (q :: new) old := fun x hx z hz => by
  rcases List.mem_cons.mp hx with rfl | hx
  · exact h z hz
  · exact o x hx z hz
theorem Over.append {a b old : List (Addr × Obj)} (h : Over a old) (o : Over b old) : Over (a ++ b) old := fun x hx z hz => (List.mem_append.mp hx).elim (fun h1 => h x h1 z hz) fun h1 => o x h1 z hz
theorem Over.mono {new old old' : List (Addr × Obj)} (o : Over new old) (h : ∀ z ∈ old', z ∈ old) : Over new old' := fun x hx z hz => o x hx z (h z hz)
theorem allLt_out {d : Addr} {l : List (Addr × Obj)} (h : AllLt d l) : ∀ p ∈ l, @LT.lt Nat _ p.1 d := by
  induction l with
  | nil => intro p hp; cases hp
  | cons q r ih =>
    intro p hp
    rcases List.mem_cons.mp hp with e | hp
    · rw [e]; exact h.1
    · exact ih h.2 p hp
section
variable {h₀ : Heap} {L : Addr}
theorem news_re {h : Heap} {news news' : List (Addr × Obj)} (N : News h₀ L h news) (hs : ∀ q ∈ news', q ∈ news) : News h₀ L h news' := fun q hq => N q (hs q hq)
def Jin (p r : Addr) (ro : Obj) (ka : Addr) (rest0 : List (Addr × Obj)) (P : Nat → Option (List Dat × Bool)) (i : Nat) (m : Str → Option Value) (nx : List (Addr × Obj)) : Prop :=
  ∃ (ps : List Value) (k : Nat) (tn : List (Addr × Obj)) (ds : List Dat) (b : Bool), P i = some (ds, b) ∧ nx = (p, listOf ps.toArray k) :: (r, ro) :: (tn ++ rest0) ∧ Over tn rest0 ∧ (∀ q ∈ tn, @LT.lt Nat _ r q.1 ∧ @LT.lt Nat _ p q.1) ∧ DatAll tn ps ds ∧ ds.length ≤ i ∧
    m (Str.ofString "pairs") = some (.ref p) ∧ m (Str.ofString "version_set") = some (.bool b) ∧ m (Str.ofString "result") = some (.ref r) ∧ m (Str.ofString "known_attrs") = some (.ref ka)
theorem in_end_skip {p r ka l : Addr} {ro lo xo : Obj} {rest0 own tn : List (Addr × Obj)} {P : Nat → Option (List Dat × Bool)} {i tk k : Nat} {m' : Str → Option Value} {h' : Heap} {s₁ : Shared} {x : Addr} {ps : List Value} {ds : List Dat} {b : Bool}
    (F : Fr h₀ L h' m') (N : News h₀ L h' ((x, xo) :: (p, listOf ps.toArray k) :: (r, ro) :: (tn ++ (rest0 ++ own)))) (hl : (l, lo) ∈ rest0) (hoff : OwnOff own (((p, listOf ps.toArray k) :: (r, ro) :: (tn ++ rest0)).map (·.1)))
    (h1 : P (i + 1) = some (ds, b)) (h2 : Over tn rest0) (h3 : ∀ q ∈ tn, @LT.lt Nat _ r q.1 ∧ @LT.lt Nat _ p q.1) (h4 : DatAll tn ps ds) (h5 : ds.length ≤ i)
    (m1 : m' (Str.ofString "pairs") = some (.ref p)) (m2 : m' (Str.ofString "version_set") = some (.bool b)) (m3 : m' (Str.ofString "result") = some (.ref r)) (m4 : m' (Str.ofString "known_attrs") = some (.ref ka)) :
    InvEndG h₀ L (fun m' nx => (l, lo) ∈ nx ∧ Jin p r ro ka rest0 P (i + 1) m' nx) own s₁ { s₁ with heap := h', toks := tk } := by
  refine ⟨h', tk, m', _, (p, listOf ps.toArray k) :: (r, ro) :: (tn ++ rest0), rfl, F, N, ?_, ?_, hoff, ?_, ps, k, tn, ds, b, h1, rfl, h2, h3, h4, Nat.le_succ_of_le h5, m1, m2, m3, m4⟩
  · intro q hq
    simp only [List.mem_cons, List.mem_append] at hq ⊢
    rcases hq with h | h | h | h
    · exact .inr (.inl h)
    · exact .inr (.inr (.inl h))
    · exact .inr (.inr (.inr (.inl h)))
    · exact .inr (.inr (.inr (.inr (.inl h))))
  · intro q hq
    simp only [List.mem_cons, List.mem_append]
    exact .inr (.inr (.inr (.inr (.inr hq))))
  · simp only [List.mem_cons, List.mem_append]
    exact .inr (.inr (.inr hl))
theorem in_end_put {p r ka l : Addr} {ro lo xo to : Obj} {rest0 own tn : List (Addr × Obj)} {P : Nat → Option (List Dat × Bool)} {i tk k : Nat} {m' : Str → Option Value} {h' : Heap} {s₁ : Shared} {x t : Addr} {ps : List Value} {ds : List Dat} {d : Dat} {b' : Bool}
    (F : Fr h₀ L h' m') (N : News h₀ L h' ((t, to) :: (x, xo) :: (p, listOf (ps.toArray.push (.ref t)) (k + 1)) :: (r, ro) :: (tn ++ (rest0 ++ own)))) (hl : (l, lo) ∈ rest0) (hoff : OwnOff own (((p, listOf ps.toArray k) :: (r, ro) :: (tn ++ rest0)).map (·.1)))
    (hlts : @LT.lt Nat _ x t ∧ @LT.lt Nat _ p t ∧ @LT.lt Nat _ r t ∧ AllLt t (tn ++ (rest0 ++ own))) (hd : DatIn [(t, to)] (.ref t) d)
    (h1 : P (i + 1) = some (ds ++ [d], b')) (h2 : Over tn rest0) (h3 : ∀ q ∈ tn, @LT.lt Nat _ r q.1 ∧ @LT.lt Nat _ p q.1) (h4 : DatAll tn ps ds) (h5 : ds.length ≤ i)
    (m1 : m' (Str.ofString "pairs") = some (.ref p)) (m2 : m' (Str.ofString "version_set") = some (.bool b')) (m3 : m' (Str.ofString "result") = some (.ref r)) (m4 : m' (Str.ofString "known_attrs") = some (.ref ka)) :
    InvEndG h₀ L (fun m' nx => (l, lo) ∈ nx ∧ Jin p r ro ka rest0 P (i + 1) m' nx) own s₁ { s₁ with heap := h', toks := tk } := by
  obtain ⟨_, hpt, hrt, hlt⟩ := hlts
  have hlt' := allLt_out hlt
  refine ⟨h', tk, m', _, (p, listOf (ps ++ [Value.ref t]).toArray (k + 1)) :: (r, ro) :: (((t, to) :: tn) ++ rest0), rfl, F, N, ?_, ?_, ?_, ?_, ps ++ [Value.ref t], k + 1, (t, to) :: tn, ds ++ [d], b', h1, rfl, ?_, ?_, ?_, ?_, m1, m2, m3, m4⟩
  · intro q hq
    simp only [List.mem_cons, List.mem_append, List.cons_append, List.push_toArray] at hq ⊢
    rcases hq with h | h | h | h | h
    · exact .inr (.inr (.inl h))
    · exact .inr (.inr (.inr (.inl h)))
    · exact .inl h
    · exact .inr (.inr (.inr (.inr (.inl h))))
    · exact .inr (.inr (.inr (.inr (.inr (.inl h)))))
  · intro q hq
    simp only [List.mem_cons, List.mem_append]
    exact .inr (.inr (.inr (.inr (.inr (.inr hq)))))
  · intro q hq a ha
    simp only [List.map_cons, List.map_append, List.cons_append, List.mem_cons, List.mem_append] at ha
    have ho := hoff q hq a
    simp only [List.map_cons, List.map_append, List.mem_cons, List.mem_append] at ho
    rcases ha with h | h | h | h | h
    · exact ho (.inl h)
    · exact ho (.inr (.inl h))
    · subst h
      exact Nat.ne_of_lt (hlt' q (List.mem_append.mpr (.inr (List.mem_append.mpr (.inr hq)))))
    · exact ho (.inr (.inr (.inl h)))
    · exact ho (.inr (.inr (.inr h)))
  · simp only [List.mem_cons, List.mem_append]
    exact .inr (.inr (.inr hl))
  · exact h2.cons fun z hz => hlt' z (List.mem_append.mpr (.inr (List.mem_append.mpr (.inl hz))))
  · intro q hq
    rcases List.mem_cons.mp hq with rfl | hq
    · exact ⟨hrt, hpt⟩
    · exact h3 q hq
  · exact (h4.mono fun _ h => .tail _ h).append (.one (hd.mono fun q hq => by rw [List.mem_singleton.mp hq]; exact .head _))
  · rw [List.length_append]; exact Nat.succ_le_succ h5
def Jout (r ka : Addr) (rest0 : List (Addr × Obj)) (P : Nat → List Dat) (i : Nat) (m : Str → Option Value) (nx : List (Addr × Obj)) : Prop :=
  ∃ (rs : List Value) (k : Nat) (tn : List (Addr × Obj)), nx = (r, listOf rs.toArray k) :: (tn ++ rest0) ∧ Over tn rest0 ∧ (∀ q ∈ tn, @LT.lt Nat _ r q.1) ∧ DatAll tn rs (P i) ∧ (P i).length ≤ i ∧ m (Str.ofString "result") = some (.ref r) ∧ m (Str.ofString "known_attrs") = some (.ref ka)
theorem out_end {r ka l : Addr} {lo : Obj} {rest0 own tn news' : List (Addr × Obj)} {P : Nat → List Dat} {i tk k k0 : Nat} {m' : Str → Option Value} {h' : Heap} {s₁ : Shared} {rs rs0 : List Value} (add : List (Addr × Obj))
    (F : Fr h₀ L h' m') (N : News h₀ L h' news') (hl : (l, lo) ∈ rest0) (hoff : OwnOff own (((r, listOf rs0.toArray k0) :: (tn ++ rest0)).map (·.1)))
    (hr : (r, listOf rs.toArray k) ∈ news') (hadd : ∀ q ∈ add, q ∈ news') (hold : ∀ q ∈ tn ++ (rest0 ++ own), q ∈ news')
    (ho1 : Over add (tn ++ (rest0 ++ own))) (ho2 : ∀ q ∈ add, @LT.lt Nat _ r q.1) (h2 : Over tn rest0) (h3 : ∀ q ∈ tn, @LT.lt Nat _ r q.1)
    (hD : DatAll (add ++ tn) rs (P (i + 1))) (hlen : (P (i + 1)).length ≤ i + 1)
    (m3 : m' (Str.ofString "result") = some (.ref r)) (m4 : m' (Str.ofString "known_attrs") = some (.ref ka)) :
    InvEndG h₀ L (fun m' nx => (l, lo) ∈ nx ∧ Jout r ka rest0 P (i + 1) m' nx) own s₁ { s₁ with heap := h', toks := tk } := by
  refine ⟨h', tk, m', _, (r, listOf rs.toArray k) :: ((add ++ tn) ++ rest0), rfl, F, N, ?_, ?_, ?_, ?_, rs, k, add ++ tn, rfl, ?_, ?_, hD, hlen, m3, m4⟩
  · intro q hq
    rcases List.mem_cons.mp hq with e | hq
    · rw [e]; exact hr
    · rcases List.mem_append.mp hq with hq | hq
      · rcases List.mem_append.mp hq with hq | hq
        · exact hadd q hq
        · exact hold q (List.mem_append.mpr (.inl hq))
      · exact hold q (List.mem_append.mpr (.inr (List.mem_append.mpr (.inl hq))))
  · exact fun q hq => hold q (List.mem_append.mpr (.inr (List.mem_append.mpr (.inr hq))))
  · intro q hq a ha
    obtain ⟨z, hz, e⟩ := List.mem_map.mp ha
    subst e
    rcases List.mem_cons.mp hz with e | hz
    · rw [e]; exact hoff q hq _ (List.mem_cons_self ..)
    · rcases List.mem_append.mp hz with hz | hz
      · rcases List.mem_append.mp hz with hz | hz
        · exact Nat.ne_of_lt (ho1 z hz q (List.mem_append.mpr (.inr (List.mem_append.mpr (.inr hq)))))
        · exact hoff q hq _ (List.mem_map.mpr ⟨z, List.mem_cons_of_mem _ (List.mem_append.mpr (.inl hz)), rfl⟩)
      · exact hoff q hq _ (List.mem_map.mpr ⟨z, List.mem_cons_of_mem _ (List.mem_append.mpr (.inr hz)), rfl⟩)
  · exact List.mem_cons_of_mem _ (List.mem_append.mpr (.inr hl))
  · exact (ho1.mono fun z hz => List.mem_append.mpr (.inr (List.mem_append.mpr (.inl hz)))).append h2
  · intro q hq
    rcases List.mem_append.mp hq with hq | hq
    · exact ho2 q hq
    · exact h3 q hq
end
section
variable {h₀ : Heap} {L : Addr}
theorem out_app {p r ka l : Addr} {lo : Obj} {rest0 rest2 own tn news' : List (Addr × Obj)} {P : Nat → List Dat} {i tk k k0 kp : Nat} {m' : Str → Option Value} {h' : Heap} {s₁ : Shared} {rs pv : List Value} {ds dp : List Dat} (add : List (Addr × Obj))
    (F : Fr h₀ L h' m') (N : News h₀ L h' news') (hl : (l, lo) ∈ rest0) (hoff : OwnOff own (((r, listOf rs.toArray k0) :: (tn ++ rest0)).map (·.1)))
    (hr : (r, listOf (rs.toArray.push (.ref p)) k) ∈ news') (hp : (p, listOf pv.toArray kp) ∈ news') (hadd : ∀ q ∈ add, q ∈ news') (hold : ∀ q ∈ tn ++ (rest0 ++ own), q ∈ rest2) (hold2 : ∀ q ∈ rest2, q ∈ news')
    (ho1 : Over add rest2) (ho2 : ∀ q ∈ add, @LT.lt Nat _ r q.1) (hpo : ∀ z ∈ tn ++ (rest0 ++ own), @LT.lt Nat _ z.1 p) (hrp : @LT.lt Nat _ r p) (h2 : Over tn rest0) (h3 : ∀ q ∈ tn, @LT.lt Nat _ r q.1)
    (hD : DatAll tn rs ds) (hd : DatAll add pv dp) (hP : P (i + 1) = ds ++ [.list dp]) (hlen : ds.length ≤ i)
    (m3 : m' (Str.ofString "result") = some (.ref r)) (m4 : m' (Str.ofString "known_attrs") = some (.ref ka)) :
    InvEndG h₀ L (fun m' nx => (l, lo) ∈ nx ∧ Jout r ka rest0 P (i + 1) m' nx) own s₁ { s₁ with heap := h', toks := tk } := by
  rw [List.push_toArray] at hr
  refine out_end (rs := rs ++ [.ref p]) ((p, listOf pv.toArray kp) :: add) F N hl hoff hr ?_ (fun q hq => hold2 q (hold q hq)) ?_ ?_ h2 h3 ?_ ?_ m3 m4
  · intro q hq
    rcases List.mem_cons.mp hq with e | hq
    · rw [e]; exact hp
    · exact hadd q hq
  · exact Over.cons hpo (ho1.mono hold)
  · intro q hq
    rcases List.mem_cons.mp hq with e | hq
    · rw [e]; exact hrp
    · exact ho2 q hq
  · rw [hP]
    exact (hD.mono fun q hq => List.mem_append.mpr (.inr hq)).append (.one (DatIn.list (List.mem_cons_self ..) (hd.mono fun q hq => List.mem_cons_of_mem _ (List.mem_append.mpr (.inl hq)))))
  · rw [hP, List.length_append]; exact Nat.succ_le_succ hlen
end
section
variable {h₀ : Heap} {L : Addr}
theorem out_app2 {p r ka l t : Addr} {lo to : Obj} {rest0 rest2 own tn tn2 : List (Addr × Obj)} {P : Nat → List Dat} {i tk k k0 kp : Nat} {m' : Str → Option Value} {h' : Heap} {s₁ : Shared} {rs pv : List Value} {ds dp : List Dat} {d : Dat}
    (F : Fr h₀ L h' m') (N : News h₀ L h' ((t, to) :: (p, listOf (pv.toArray.push (.ref t)) kp) :: (r, listOf (rs.toArray.push (.ref p)) k) :: (tn2 ++ rest2))) (hlts : @LT.lt Nat _ p t ∧ @LT.lt Nat _ r t ∧ AllLt t (tn2 ++ rest2)) (hdt : DatIn [(t, to)] (.ref t) d)
    (hl : (l, lo) ∈ rest0) (hoff : OwnOff own (((r, listOf rs.toArray k0) :: (tn ++ rest0)).map (·.1))) (hold : ∀ q ∈ tn ++ (rest0 ++ own), q ∈ rest2)
    (ho1 : Over tn2 rest2) (ho2 : ∀ q ∈ tn2, @LT.lt Nat _ r q.1 ∧ @LT.lt Nat _ p q.1) (hpo : ∀ z ∈ tn ++ (rest0 ++ own), @LT.lt Nat _ z.1 p) (hrp : @LT.lt Nat _ r p) (h2 : Over tn rest0) (h3 : ∀ q ∈ tn, @LT.lt Nat _ r q.1)
    (hD : DatAll tn rs ds) (hd : DatAll tn2 pv dp) (hP : P (i + 1) = ds ++ [.list (dp ++ [d])]) (hlen : ds.length ≤ i)
    (m3 : m' (Str.ofString "result") = some (.ref r)) (m4 : m' (Str.ofString "known_attrs") = some (.ref ka)) :
    InvEndG h₀ L (fun m' nx => (l, lo) ∈ nx ∧ Jout r ka rest0 P (i + 1) m' nx) own s₁ { s₁ with heap := h', toks := tk } := by
  obtain ⟨hpt, hrt, hlt⟩ := hlts
  have hlt' := allLt_out hlt
  have hp' : (p, listOf (pv ++ [Value.ref t]).toArray kp) ∈ (t, to) :: (p, listOf (pv.toArray.push (.ref t)) kp) :: (r, listOf (rs.toArray.push (.ref p)) k) :: (tn2 ++ rest2) := by
    rw [List.push_toArray]; exact List.mem_cons_of_mem _ (List.mem_cons_self ..)
  refine out_app ((t, to) :: tn2) F N hl hoff (List.mem_cons_of_mem _ (List.mem_cons_of_mem _ (List.mem_cons_self ..))) hp' ?_ hold (fun q hq => List.mem_cons_of_mem _ (List.mem_cons_of_mem _ (List.mem_cons_of_mem _ (List.mem_append.mpr (.inr hq))))) ?_ ?_ hpo hrp h2 h3 hD ?_ hP hlen m3 m4
  · intro q hq
    rcases List.mem_cons.mp hq with e | hq
    · rw [e]; exact List.mem_cons_self ..
    · exact List.mem_cons_of_mem _ (List.mem_cons_of_mem _ (List.mem_cons_of_mem _ (List.mem_append.mpr (.inl hq))))
  · exact Over.cons (fun z hz => hlt' z (List.mem_append.mpr (.inr hz))) ho1
  · intro q hq
    rcases List.mem_cons.mp hq with e | hq
    · rw [e]; exact hrt
    · exact (ho2 q hq).1
  · exact (hd.mono fun q hq => List.mem_cons_of_mem _ hq).append (.one (hdt.mono fun q hq => by rw [List.mem_singleton.mp hq]; exact List.mem_cons_self ..))
end
theorem runHdr_break {ys : List Str} {y : Str} (hy : ys[0]? = some y) (hk : ((keyOf y).length : Int) = 0) : runHdr ys = none := by
  cases ys with
  | nil => cases hy
  | cons z r =>
    have : z = y := by simpa using hy
    subst this
    unfold runHdr runFrom stp
    rw [if_pos hk, if_pos (by rfl)]
    rfl
theorem allD_take {hs : List Str} {i : Nat} {x : Str} (hx : hs[i]? = some x) : allD (hs.take (i + 1)) = allD (hs.take i) ++ (hdrD x).toList := by
  have e : hs.take (i + 1) = hs.take i ++ [x] := by rw [List.take_add_one, hx]; rfl
  unfold allD
  rw [e, List.filterMap_append]
  cases h : hdrD x <;> simp [h]
section
variable {prog : Program} {w : World} {A : Around} {E : Value → Shared → Prop} {s : Shared} {env : Env} {h₀ : Heap} {body : List Stmt} {Q : Flow → Shared → Prop}
/-- for xi, xc in a list of pairs that the ledger bears -/
theorem pair_loop {xi xc : Str} {pi pc pt : Pos} {x1 : Nat} {l : Addr} {vs : List Value} {nn : Nat} {m₀ : Str → Option Value} {news : List (Addr × Obj)} (keep : List (Addr × Obj)) (PP : Nat → Value → Value → Prop) (J : Nat → (Str → Option Value) → List (Addr × Obj) → Prop)
    (hE : PassesOwn (model prog w) A env E) (hh : A.handled = none) (hxi : env.kindOf xi = some .local) (hxc : env.kindOf xc = some .local)
    (hp : (env.scope.kind == .class || (env.scope.kind == .module && env.locals != env.globals)) = false)
    (hl : (l, listOf vs.toArray nn) ∈ keep) (hkeep : ∀ q ∈ keep, q ∈ news) (hpair : ∀ (i : Nat) (v : Value), vs[i]? = some v → ∃ t a b n, v = Value.ref t ∧ (t, ({ cls := .type "tuple", data := .seq [a, b].toArray n } : Obj)) ∈ keep ∧ PP i a b)
    (F : Fr h₀ env.locals s.heap m₀) (N : News h₀ env.locals s.heap news) (hj : J 0 m₀ news)
    (turn : ∀ i a b m₁ news₁ h tk own, i < vs.length → PP i a b → OwnOff own (news₁.map (·.1)) → (∀ q ∈ keep, q ∈ news₁) → J i m₁ news₁ →
      Fr h₀ env.locals h (fun y => if y = xc then some b else if y = xi then some a else m₁ y) → News h₀ env.locals h (news₁ ++ own) →
      wpAny (model prog w) A (execs body env) (InvPostG h₀ env.locals (fun m' nx => (∀ q ∈ keep, q ∈ nx) ∧ J (i + 1) m' nx) own { s with heap := h, toks := tk } Q) E { s with heap := h, toks := tk })
    (done : ∀ m₁ news₁ h tk, (∀ q ∈ keep, q ∈ news₁) → J vs.length m₁ news₁ → Fr h₀ env.locals h m₁ → News h₀ env.locals h news₁ → Q .next { s with heap := h, toks := tk }) :
    wpAny (model prog w) A (pyIter (.ref l)) (fun it s₂ =>
      codeAny (model prog w) A (.forLoop (.Tuple [.Name xi pi, .Name xc pc] x1 pt) it body [] env) (fun r s' => match r with | .ok f => Q f s' | .error e => cameBackBy (model prog w) A env E e s') s₂) E s := by
  have hol : s.heap.get? l = some (listOf vs.toArray nn) := (N _ (hkeep _ hl)).1
  have hls : s.heap.IsList l vs.toArray := ⟨_, hol, rfl, nn, rfl⟩
  have hLs : @LT.lt Nat _ env.locals s.heap.objs.size := F.ns.lt
  have hab : @LE.le Nat _ h₀.objs.size env.locals := F.above
  have hll : @LT.lt Nat _ l s.heap.objs.size := Heap.lt_size hol
  have hfresh : ∀ q ∈ news, q.1 ≠ s.heap.objs.size := fun q hq => Nat.ne_of_lt (Heap.lt_size (N q hq).1)
  have hne : l ≠ s.heap.objs.size := Nat.ne_of_lt hll
  refine wpAny_pyIter_list hls ?_
  have W := Walks.list (prog := prog) (w := w) hh s.heap.objs.size l hne vs.toArray
  obtain ⟨it, hi0⟩ : ∃ e : Nat, e = s.heap.objs.size := ⟨_, rfl⟩
  have st0 : (s.heap.push { cls := .type "list_iterator", data := .fields #[.ref l, .int 0 0] }).IsListIter s.heap.objs.size l 0 := ⟨_, Heap.get?_push_size _ rfl, rfl, rfl⟩
  rw [← hi0] at W hfresh st0
  rw [← hi0]
  have hiL : @Ne Nat it env.locals := by omega
  have hni : h₀.get? it = none := Heap.get?_none_of_le (by omega)
  have hli : @Ne Nat l it := by omega
  have hn : vs.toArray.size = vs.length := by simp
  rw [hn] at W
  have F' : Fr h₀ env.locals (s.heap.push { cls := .type "list_iterator", data := .fields #[.ref l, .int 0 0] }) m₀ := F.push _
  refine codeAny_forLoop_any (R := fun r s' => match r with | .ok f => Q f s' | .error e => cameBackBy (model prog w) A env E e s')
    (fun k s' => ∃ h' tk m' nx i, s' = { s with heap := h', toks := tk } ∧ (h'.IsListIter it l i ∧ h'.IsList l vs.toArray) ∧ Fr h₀ env.locals h' m' ∧ News h₀ env.locals h' nx ∧
      (∀ q ∈ nx, q.1 ≠ it) ∧ (∀ q ∈ keep, q ∈ nx) ∧ J i m' nx ∧ i ≤ vs.length ∧ k = vs.length + 1 - i) ?_ (vs.length + 1)
    ⟨_, s.toks, m₀, news, 0, rfl, ⟨st0, hls.at fun o x => Heap.get?_push_of_some _ x⟩, F', fun p hp => ⟨Heap.get?_push_of_some _ (N p hp).1, (N p hp).2⟩, hfresh, hkeep, hj, Nat.zero_le _, rfl⟩
  rintro k s' ⟨H, tk, m', nx, i, rfl, hst, F₁, N₁, hoff, hl₁, hJ, hi, rfl⟩
  by_cases hlt : i < vs.length
  · refine W.item i _ _ _ hlt hst fun v h₁ tk₁ hP hst₁ hk₁ => ?_
    have hv' : vs[i]? = some v := by simpa using hP
    obtain ⟨t, a, b, n, rfl, hm, hPP⟩ := hpair i v hv'
    refine letGo_listiter hst₁.1 ?_
    have k1 : ∀ b o, b ≠ it → H.get? b = some o → h₁.get? b = some o := fun b o h1 x => hk₁ b o (by simp [h1]) x
    have hIT : h₁.IsTuple t [a, b].toArray := ⟨_, k1 t _ (hoff _ (hl₁ _ hm)) (N₁ _ (hl₁ _ hm)).1, rfl, _, rfl⟩
    refine wpAny_assign_Tuple hh hIT rfl rfl fun h₃ hx₃ => ?_
    replace hx₃ : Heap.ExtBut h₁.objs.size h₁ h₃ := hx₃
    have k23 : ∀ b o, h₁.get? b = some o → h₃.get? b = some o := fun b o x => hx₃ b o (Nat.ne_of_lt (Heap.lt_size x)) x
    have hL₃ : h₃.Ns env.locals m' := (F₁.ns.at' fun o x => k23 _ o (k1 _ o (Ne.symm hiL) x))
    show wpAny _ A (do holding [b] (assign (.Name xi pi) env a); do holding [] (assign (.Name xc pc) env b); pure ()) _ _ _
    refine wpAny_bind (wpAny_holding (wpAny_assign_Name (wpAny_storeName_local hxi hL₃ (fun h₄ hn₄ hs₄ => ?_) hp)))
    replace hs₄ : Heap.SameBut env.locals h₃ h₄ := hs₄
    refine wpAny_bind (wpAny_holding (wpAny_assign_Name (wpAny_storeName_local hxc hn₄ (fun h₅ hn₅ hs₅ => wpAny_pure ?_) hp)))
    replace hs₅ : Heap.SameBut env.locals h₄ h₅ := hs₅
    have k25 : ∀ b o, b ≠ env.locals → h₁.get? b = some o → h₅.get? b = some o := fun b o hb x => hs₅.extBut b o hb (hs₄.extBut b o hb (k23 b o x))
    have k15 : ∀ b o, b ≠ env.locals → b ≠ it → H.get? b = some o → h₅.get? b = some o := fun b o hb h1 x => k25 b o hb (k1 b o h1 x)
    obtain ⟨⟨oi, hoi, hci, hdi⟩, hls₂⟩ := hst₁
    have F₅ : Fr h₀ env.locals h₅ (fun y => if y = xc then some b else if y = xi then some a else m' y) :=
      ⟨hn₅, fun b o x => by
        have hb : @LT.lt Nat _ b h₀.objs.size := Heap.lt_size x
        exact k15 b o (by show @Ne Nat b env.locals; omega) (by rintro rfl; rw [hni] at x; cases x) (F₁.keep b o x), F₁.above⟩
    have hi₅ := k25 it _ hiL hoi
    have N₅ : News h₀ env.locals h₅ (nx ++ [(it, oi)]) := fun p hp => by
      rcases List.mem_append.mp hp with hp | hp
      · exact ⟨k15 _ _ (N₁ p hp).2.1 (hoff p hp) (N₁ p hp).1, (N₁ p hp).2⟩
      · rw [List.mem_singleton.mp hp]
        exact ⟨hi₅, hiL, hni⟩
    have hown : OwnOff [(it, oi)] (nx.map (·.1)) := fun p hp b hb => by
      obtain ⟨q, hq, rfl⟩ := List.mem_map.mp hb
      rw [List.mem_singleton.mp hp]; exact (hoff q hq).symm
    refine wpAny_mono (wpAny_passesOwn hE (turn i a b m' nx h₅ _ _ hlt hPP hown hl₁ hJ F₅ N₅)) (fun f s₃ hf => ?_) fun _ _ x => x
    have fin : InvEndG h₀ env.locals (fun m' nx => (∀ q ∈ keep, q ∈ nx) ∧ J (i + 1) m' nx) [(it, oi)] { s with heap := h₅, toks := tk₁ + 1 + 1 } s₃ →
        ∃ m, m < vs.length + 1 - i ∧ ∃ h' tk m' nx i, s₃ = { s with heap := h', toks := tk } ∧ (h'.IsListIter it l i ∧ h'.IsList l vs.toArray) ∧ Fr h₀ env.locals h' m' ∧ News h₀ env.locals h' nx ∧
      (∀ q ∈ nx, q.1 ≠ it) ∧ (∀ q ∈ keep, q ∈ nx) ∧ J i m' nx ∧ i ≤ vs.length ∧ m = vs.length + 1 - i := by
      rintro ⟨h₆, tk₆, m₆, n₆, nx₆, rfl, F₆, N₆, hn₆, ho₆, ha₆, hl₆, hJ₆⟩
      refine ⟨vs.length + 1 - (i + 1), by omega, h₆, tk₆, m₆, nx₆, i + 1, rfl, ⟨⟨oi, (N₆ _ (ho₆ _ (List.mem_singleton.mpr rfl))).1, hci, hdi⟩, ⟨_, (N₆ _ (hn₆ _ (hl₆ _ hl))).1, rfl, nn, rfl⟩⟩, F₆, fun p hp => N₆ p (hn₆ p hp), fun q hq => ?_, hl₆, hJ₆, hlt, rfl⟩
      exact fun x => ha₆ _ (List.mem_singleton.mpr rfl) q.1 (List.mem_map.mpr ⟨q, hq, rfl⟩) x.symm
    cases f with
    | ret v => exact hf
    | brk => exact hf
    | next => exact fin hf
    | cont => exact fin hf
  · have hin : i = vs.length := by omega
    subst hin
    refine W.done _ _ _ hst fun h₁ tk₁ hk₁ => wpAny_execs_nil ?_
    have k1 : ∀ b o, b ≠ it → H.get? b = some o → h₁.get? b = some o := fun b o h1 x => hk₁ b o (by simp [h1]) x
    exact done m' nx h₁ tk₁ hl₁ hJ ⟨F₁.ns.at' fun o x => k1 _ o (Ne.symm hiL) x, fun b o x => k1 b o (by rintro rfl; rw [hni] at x; cases x) (F₁.keep b o x), F₁.above⟩
      fun p hp => ⟨k1 _ _ (hoff p hp) (N₁ p hp).1, (N₁ p hp).2⟩
end
theorem ne_grow1 {e : Addr × Obj} {tn rest new : List (Addr × Obj)} (hne : ∀ q ∈ tn ++ rest, q.1 ≠ e.1) (ho : Over new (e :: (tn ++ rest))) : ∀ q ∈ (new ++ tn) ++ rest, q.1 ≠ e.1 := by
  intro q hq
  rw [List.append_assoc] at hq
  rcases List.mem_append.mp hq with hq | hq
  · exact Nat.ne_of_gt (ho q hq e (List.mem_cons_self ..))
  · exact hne q hq
theorem ne_grow2 {e e2 : Addr × Obj} {tn rest new : List (Addr × Obj)} (hne : ∀ q ∈ tn ++ rest, q.1 ≠ e.1) (ho : Over new (e :: e2 :: (tn ++ rest))) : ∀ q ∈ (new ++ tn) ++ rest, q.1 ≠ e.1 := by
  intro q hq
  rw [List.append_assoc] at hq
  rcases List.mem_append.mp hq with hq | hq
  · exact Nat.ne_of_gt (ho q hq e (List.mem_cons_self ..))
  · exact hne q hq
theorem sub_grow1 (e : Addr × Obj) (tn rest new : List (Addr × Obj)) : ∀ q ∈ e :: ((new ++ tn) ++ rest), q ∈ new ++ (e :: (tn ++ rest)) := by
  intro q hq
  simp only [List.mem_cons, List.mem_append] at hq ⊢
  rcases hq with h | (h | h) | h
  · exact .inr (.inl h)
  · exact .inl h
  · exact .inr (.inr (.inl h))
  · exact .inr (.inr (.inr h))
theorem sub_grow2 (e e2 : Addr × Obj) (tn rest new : List (Addr × Obj)) : ∀ q ∈ e :: e2 :: ((new ++ tn) ++ rest), q ∈ new ++ (e :: e2 :: (tn ++ rest)) := by
  intro q hq
  simp only [List.mem_cons, List.mem_append] at hq ⊢
  rcases hq with h | h | (h | h) | h
  · exact .inr (.inl h)
  · exact .inr (.inr (.inl h))
  · exact .inl h
  · exact .inr (.inr (.inr (.inl h)))
  · exact .inr (.inr (.inr (.inr h)))
section
variable {h₀ h : Heap} {L : Addr}
theorem shp_skip {x p r : Addr} {xo ro : Obj} {A : Array Value} {k : Nat} {rest : List (Addr × Obj)} (N : News h₀ L h ((x, xo) :: (p, listOf A k) :: (r, ro) :: rest)) : True := trivial
theorem shp_some {t x p : Addr} {xo : Obj} {A : Array Value} {k : Nat} {v : Value} {rest : List (Addr × Obj)} {a b : Str} {ta tb : Tok} {n : Nat} (N : News h₀ L h ((t, { cls := .type "tuple", data := .seq #[.str a ta, .str b tb] n }) :: (x, xo) :: (p, listOf (A.push v) k) :: rest)) : True := trivial
theorem shp_none {t x p : Addr} {xo : Obj} {A : Array Value} {k : Nat} {v : Value} {rest : List (Addr × Obj)} {a : Str} {ta : Tok} {n : Nat} (N : News h₀ L h ((t, { cls := .type "tuple", data := .seq #[.str a ta, .none] n }) :: (x, xo) :: (p, listOf (A.push v) k) :: rest)) : True := trivial
theorem ld_hyp {M : Model} {A : Around} {E : Value → Shared → Prop} {s : Shared} {name : Str} {scope : Scope} {a : Addr} {cd : Value} {m m₂ : Str → Option Value} {x : Str} {pos : Pos} {v : Value} {Q : Value → Shared → Prop} (F : Fr h₀ L s.heap m) (hv : m₂ x = some v) (he : m x = m₂ x) (h : Q v s)
    (hk : scope.kind = .function := by rfl) (hl : (envOf name scope L a cd).kindOf x = some .local := by rfl)
    (hd : (x == ("__debug__" : Str)) = false := by decide) :
    wpAny M A (eval (.Name x pos) (envOf name scope L a cd)) Q E s := ld F (he.trans hv) h hk hl hd
end
theorem flag_k_ver {y : Str} (hn : isKnown (Txt.lower (Txt.strip (Txt.partition (Txt.strip y) (Str.ofString "=")).1)) = true) (hv : ((Txt.lower (Txt.strip (Txt.partition (Txt.strip y) (Str.ofString "=")).1)) == Str.ofString "version") = true) : True := trivial
theorem flag_k_oth {y : Str} (hn : isKnown (Txt.lower (Txt.strip (Txt.partition (Txt.strip y) (Str.ofString "=")).1)) = true) (hv : ((Txt.lower (Txt.strip (Txt.partition (Txt.strip y) (Str.ofString "=")).1)) == Str.ofString "version") = false) : True := trivial
theorem flag_u_ver {y : Str} (hn : isKnown (Txt.lower (Txt.strip (Txt.partition (Txt.strip y) (Str.ofString "=")).1)) = false) (hv : ((Txt.strip (Txt.partition (Txt.strip y) (Str.ofString "=")).1) == Str.ofString "version") = true) : True := trivial
theorem flag_u_oth {y : Str} (hn : isKnown (Txt.lower (Txt.strip (Txt.partition (Txt.strip y) (Str.ofString "=")).1)) = false) (hv : ((Txt.strip (Txt.partition (Txt.strip y) (Str.ofString "=")).1) == Str.ofString "version") = false) : True := trivial
theorem nodates {y : Str} (he : expOk y) (hs : ((Txt.partition (Txt.strip y) (Str.ofString "=")).2.1.length : Int) ≠ 0) (hk : key1 y = Str.ofString "expires") : False := hs (he hk)
theorem pair_str {t : Addr} {k v : Str} {a b : Tok} {n : Nat} : DatIn [(t, ({ cls := .type "tuple", data := .seq #[.str k a, .str v b] n } : Obj))] (.ref t) (pairD k (some v)) :=
  DatIn.tuple (List.mem_singleton.mpr rfl) (.cons (.str _ _) (.cons (.str _ _) .nil))
theorem pair_none {t : Addr} {k : Str} {a : Tok} {n : Nat} : DatIn [(t, ({ cls := .type "tuple", data := .seq #[.str k a, .none] n } : Obj))] (.ref t) (pairD k none) :=
  DatIn.tuple (List.mem_singleton.mpr rfl) (.cons (.str _ _) (.cons .none .nil))
section
variable {ys : List Str} {y : Str} {i : Nat} {ds : List Dat} {b : Bool}
theorem rk_first_some (hy : ys[0]? = some y) (hP : runHdr (ys.take 0) = some (ds, b)) (hk : ((Txt.strip (Txt.partition (Txt.strip y) (Str.ofString "=")).1).length : Int) ≠ 0) (hs : ((Txt.partition (Txt.strip y) (Str.ofString "=")).2.1.length : Int) ≠ 0) : runHdr (ys.take (0 + 1)) = some (ds ++ [pairD (Txt.strip (Txt.partition (Txt.strip y) (Str.ofString "=")).1) (some (Txt.strip (Txt.partition (Txt.strip y) (Str.ofString "=")).2.2))], b) := by
  have e : val1 y = some (Txt.strip (Txt.partition (Txt.strip y) (Str.ofString "=")).2.2) := if_neg hs
  rw [runHdr_next hy hP]
  show stp true y (ds, b) = _
  unfold stp
  rw [if_neg (show ¬ ((keyOf y).length : Int) = 0 from hk), if_pos rfl, e]
  rfl
theorem rk_k_ver_some (hy : ys[i]? = some y) (hP : runHdr (ys.take i) = some (ds, b)) (hi : ¬ i = 0) (hk : ((Txt.strip (Txt.partition (Txt.strip y) (Str.ofString "=")).1).length : Int) ≠ 0) (hs : ((Txt.partition (Txt.strip y) (Str.ofString "=")).2.1.length : Int) ≠ 0) (hn : isKnown (Txt.lower (Txt.strip (Txt.partition (Txt.strip y) (Str.ofString "=")).1)) = true) (hv : ((Txt.lower (Txt.strip (Txt.partition (Txt.strip y) (Str.ofString "=")).1)) == Str.ofString "version") = true) : runHdr (ys.take (i + 1)) = some (ds ++ [pairD (Txt.lower (Txt.strip (Txt.partition (Txt.strip y) (Str.ofString "=")).1)) (some (stripQ (Txt.strip (Txt.partition (Txt.strip y) (Str.ofString "=")).2.2)))], true) := by
  have e : val1 y = some (Txt.strip (Txt.partition (Txt.strip y) (Str.ofString "=")).2.2) := if_neg hs
  have ek : key1 y = (Txt.lower (Txt.strip (Txt.partition (Txt.strip y) (Str.ofString "=")).1)) := if_pos hn
  rw [runHdr_next hy hP, beq_false_of_ne hi]
  unfold stp
  rw [if_neg (show ¬ ((keyOf y).length : Int) = 0 from hk), if_neg Bool.false_ne_true, ek, e, if_pos hv]
  rfl
theorem rk_k_oth_some (hy : ys[i]? = some y) (hP : runHdr (ys.take i) = some (ds, b)) (hi : ¬ i = 0) (hk : ((Txt.strip (Txt.partition (Txt.strip y) (Str.ofString "=")).1).length : Int) ≠ 0) (hs : ((Txt.partition (Txt.strip y) (Str.ofString "=")).2.1.length : Int) ≠ 0) (hn : isKnown (Txt.lower (Txt.strip (Txt.partition (Txt.strip y) (Str.ofString "=")).1)) = true) (hv : ((Txt.lower (Txt.strip (Txt.partition (Txt.strip y) (Str.ofString "=")).1)) == Str.ofString "version") = false) : runHdr (ys.take (i + 1)) = some (ds ++ [pairD (Txt.lower (Txt.strip (Txt.partition (Txt.strip y) (Str.ofString "=")).1)) (some (Txt.strip (Txt.partition (Txt.strip y) (Str.ofString "=")).2.2))], b) := by
  have e : val1 y = some (Txt.strip (Txt.partition (Txt.strip y) (Str.ofString "=")).2.2) := if_neg hs
  have ek : key1 y = (Txt.lower (Txt.strip (Txt.partition (Txt.strip y) (Str.ofString "=")).1)) := if_pos hn
  rw [runHdr_next hy hP, beq_false_of_ne hi]
  unfold stp
  rw [if_neg (show ¬ ((keyOf y).length : Int) = 0 from hk), if_neg Bool.false_ne_true, ek, e, if_neg (by rw [hv]; exact Bool.false_ne_true)]
theorem rk_u_ver_some (hy : ys[i]? = some y) (hP : runHdr (ys.take i) = some (ds, b)) (hi : ¬ i = 0) (hk : ((Txt.strip (Txt.partition (Txt.strip y) (Str.ofString "=")).1).length : Int) ≠ 0) (hs : ((Txt.partition (Txt.strip y) (Str.ofString "=")).2.1.length : Int) ≠ 0) (hn : isKnown (Txt.lower (Txt.strip (Txt.partition (Txt.strip y) (Str.ofString "=")).1)) = false) (hv : ((Txt.strip (Txt.partition (Txt.strip y) (Str.ofString "=")).1) == Str.ofString "version") = true) : runHdr (ys.take (i + 1)) = some (ds ++ [pairD (Txt.strip (Txt.partition (Txt.strip y) (Str.ofString "=")).1) (some (stripQ (Txt.strip (Txt.partition (Txt.strip y) (Str.ofString "=")).2.2)))], true) := by
  have e : val1 y = some (Txt.strip (Txt.partition (Txt.strip y) (Str.ofString "=")).2.2) := if_neg hs
  have ek : key1 y = (Txt.strip (Txt.partition (Txt.strip y) (Str.ofString "=")).1) := if_neg (by rw [show isKnown (Txt.lower (keyOf y)) = false from hn]; exact Bool.false_ne_true)
  rw [runHdr_next hy hP, beq_false_of_ne hi]
  unfold stp
  rw [if_neg (show ¬ ((keyOf y).length : Int) = 0 from hk), if_neg Bool.false_ne_true, ek, e, if_pos hv]
  rfl
theorem rk_u_oth_some (hy : ys[i]? = some y) (hP : runHdr (ys.take i) = some (ds, b)) (hi : ¬ i = 0) (hk : ((Txt.strip (Txt.partition (Txt.strip y) (Str.ofString "=")).1).length : Int) ≠ 0) (hs : ((Txt.partition (Txt.strip y) (Str.ofString "=")).2.1.length : Int) ≠ 0) (hn : isKnown (Txt.lower (Txt.strip (Txt.partition (Txt.strip y) (Str.ofString "=")).1)) = false) (hv : ((Txt.strip (Txt.partition (Txt.strip y) (Str.ofString "=")).1) == Str.ofString "version") = false) : runHdr (ys.take (i + 1)) = some (ds ++ [pairD (Txt.strip (Txt.partition (Txt.strip y) (Str.ofString "=")).1) (some (Txt.strip (Txt.partition (Txt.strip y) (Str.ofString "=")).2.2))], b) := by
  have e : val1 y = some (Txt.strip (Txt.partition (Txt.strip y) (Str.ofString "=")).2.2) := if_neg hs
  have ek : key1 y = (Txt.strip (Txt.partition (Txt.strip y) (Str.ofString "=")).1) := if_neg (by rw [show isKnown (Txt.lower (keyOf y)) = false from hn]; exact Bool.false_ne_true)
  rw [runHdr_next hy hP, beq_false_of_ne hi]
  unfold stp
  rw [if_neg (show ¬ ((keyOf y).length : Int) = 0 from hk), if_neg Bool.false_ne_true, ek, e, if_neg (by rw [hv]; exact Bool.false_ne_true)]
theorem rk_first_none (hy : ys[0]? = some y) (hP : runHdr (ys.take 0) = some (ds, b)) (hk : ((Txt.strip (Txt.partition (Txt.strip y) (Str.ofString "=")).1).length : Int) ≠ 0) (hs : ((Txt.partition (Txt.strip y) (Str.ofString "=")).2.1.length : Int) = 0) : runHdr (ys.take (0 + 1)) = some (ds ++ [pairD (Txt.strip (Txt.partition (Txt.strip y) (Str.ofString "=")).1) (none)], b) := by
  have e : val1 y = none := if_pos hs
  rw [runHdr_next hy hP]
  show stp true y (ds, b) = _
  unfold stp
  rw [if_neg (show ¬ ((keyOf y).length : Int) = 0 from hk), if_pos rfl, e]
  rfl
theorem rk_k_ver_none (hy : ys[i]? = some y) (hP : runHdr (ys.take i) = some (ds, b)) (hi : ¬ i = 0) (hk : ((Txt.strip (Txt.partition (Txt.strip y) (Str.ofString "=")).1).length : Int) ≠ 0) (hs : ((Txt.partition (Txt.strip y) (Str.ofString "=")).2.1.length : Int) = 0) (hn : isKnown (Txt.lower (Txt.strip (Txt.partition (Txt.strip y) (Str.ofString "=")).1)) = true) (hv : ((Txt.lower (Txt.strip (Txt.partition (Txt.strip y) (Str.ofString "=")).1)) == Str.ofString "version") = true) : runHdr (ys.take (i + 1)) = some (ds ++ [pairD (Txt.lower (Txt.strip (Txt.partition (Txt.strip y) (Str.ofString "=")).1)) (none)], true) := by
  have e : val1 y = none := if_pos hs
  have ek : key1 y = (Txt.lower (Txt.strip (Txt.partition (Txt.strip y) (Str.ofString "=")).1)) := if_pos hn
  rw [runHdr_next hy hP, beq_false_of_ne hi]
  unfold stp
  rw [if_neg (show ¬ ((keyOf y).length : Int) = 0 from hk), if_neg Bool.false_ne_true, ek, e, if_pos hv]
  rfl
theorem rk_k_oth_none (hy : ys[i]? = some y) (hP : runHdr (ys.take i) = some (ds, b)) (hi : ¬ i = 0) (hk : ((Txt.strip (Txt.partition (Txt.strip y) (Str.ofString "=")).1).length : Int) ≠ 0) (hs : ((Txt.partition (Txt.strip y) (Str.ofString "=")).2.1.length : Int) = 0) (hn : isKnown (Txt.lower (Txt.strip (Txt.partition (Txt.strip y) (Str.ofString "=")).1)) = true) (hv : ((Txt.lower (Txt.strip (Txt.partition (Txt.strip y) (Str.ofString "=")).1)) == Str.ofString "version") = false) : runHdr (ys.take (i + 1)) = some (ds ++ [pairD (Txt.lower (Txt.strip (Txt.partition (Txt.strip y) (Str.ofString "=")).1)) (none)], b) := by
  have e : val1 y = none := if_pos hs
  have ek : key1 y = (Txt.lower (Txt.strip (Txt.partition (Txt.strip y) (Str.ofString "=")).1)) := if_pos hn
  rw [runHdr_next hy hP, beq_false_of_ne hi]
  unfold stp
  rw [if_neg (show ¬ ((keyOf y).length : Int) = 0 from hk), if_neg Bool.false_ne_true, ek, e, if_neg (by rw [hv]; exact Bool.false_ne_true)]
theorem rk_u_ver_none (hy : ys[i]? = some y) (hP : runHdr (ys.take i) = some (ds, b)) (hi : ¬ i = 0) (hk : ((Txt.strip (Txt.partition (Txt.strip y) (Str.ofString "=")).1).length : Int) ≠ 0) (hs : ((Txt.partition (Txt.strip y) (Str.ofString "=")).2.1.length : Int) = 0) (hn : isKnown (Txt.lower (Txt.strip (Txt.partition (Txt.strip y) (Str.ofString "=")).1)) = false) (hv : ((Txt.strip (Txt.partition (Txt.strip y) (Str.ofString "=")).1) == Str.ofString "version") = true) : runHdr (ys.take (i + 1)) = some (ds ++ [pairD (Txt.strip (Txt.partition (Txt.strip y) (Str.ofString "=")).1) (none)], true) := by
  have e : val1 y = none := if_pos hs
  have ek : key1 y = (Txt.strip (Txt.partition (Txt.strip y) (Str.ofString "=")).1) := if_neg (by rw [show isKnown (Txt.lower (keyOf y)) = false from hn]; exact Bool.false_ne_true)
  rw [runHdr_next hy hP, beq_false_of_ne hi]
  unfold stp
  rw [if_neg (show ¬ ((keyOf y).length : Int) = 0 from hk), if_neg Bool.false_ne_true, ek, e, if_pos hv]
  rfl
theorem rk_u_oth_none (hy : ys[i]? = some y) (hP : runHdr (ys.take i) = some (ds, b)) (hi : ¬ i = 0) (hk : ((Txt.strip (Txt.partition (Txt.strip y) (Str.ofString "=")).1).length : Int) ≠ 0) (hs : ((Txt.partition (Txt.strip y) (Str.ofString "=")).2.1.length : Int) = 0) (hn : isKnown (Txt.lower (Txt.strip (Txt.partition (Txt.strip y) (Str.ofString "=")).1)) = false) (hv : ((Txt.strip (Txt.partition (Txt.strip y) (Str.ofString "=")).1) == Str.ofString "version") = false) : runHdr (ys.take (i + 1)) = some (ds ++ [pairD (Txt.strip (Txt.partition (Txt.strip y) (Str.ofString "=")).1) (none)], b) := by
  have e : val1 y = none := if_pos hs
  have ek : key1 y = (Txt.strip (Txt.partition (Txt.strip y) (Str.ofString "=")).1) := if_neg (by rw [show isKnown (Txt.lower (keyOf y)) = false from hn]; exact Bool.false_ne_true)
  rw [runHdr_next hy hP, beq_false_of_ne hi]
  unfold stp
  rw [if_neg (show ¬ ((keyOf y).length : Int) = 0 from hk), if_neg Bool.false_ne_true, ek, e, if_neg (by rw [hv]; exact Bool.false_ne_true)]
theorem rk_skip (hy : ys[i]? = some y) (hP : runHdr (ys.take i) = some (ds, b)) (hi : ¬ i = 0) (hk : ((Txt.strip (Txt.partition (Txt.strip y) (Str.ofString "=")).1).length : Int) = 0) : runHdr (ys.take (i + 1)) = some (ds, b) := by
  rw [runHdr_next hy hP, beq_false_of_ne hi]
  unfold stp
  rw [if_pos (show ((keyOf y).length : Int) = 0 from hk), if_neg Bool.false_ne_true]
end
end Mine
namespace Mine
/-- a value that a for runs through: n items, of which P is told; what lies in keep stands -/
def Iterates (prog : Program) (w : World) (xv : Value) (keep : List (Addr × Obj)) (n : Nat) (P : Nat → Value → Prop) : Prop :=
  ∀ {A : Around} {E : Value → Shared → Prop} {s : Shared} {env : Env} {h₀ : Heap} {x : Str} {body : List Stmt} {Q : Flow → Shared → Prop} {m₀ : Str → Option Value} {news : List (Addr × Obj)} (J : Nat → (Str → Option Value) → List (Addr × Obj) → Prop),
    A.handled = none → (∀ i m nx, J i m nx → ∀ q ∈ keep, q ∈ nx) → Fr h₀ env.locals s.heap m₀ → News h₀ env.locals s.heap news → J 0 m₀ news →
    (∀ i v m₁ news₁ h tk own, i < n → P i v → OwnOff own (news₁.map (·.1)) → J i m₁ news₁ → Fr h₀ env.locals h (fun y => if y = x then some v else m₁ y) → News h₀ env.locals h (news₁ ++ own) →
      wpAny (model prog w) A (execs body env) (InvPostG h₀ env.locals (J (i + 1)) own { s with heap := h, toks := tk } Q) E { s with heap := h, toks := tk }) →
    (∀ m₁ news₁ h tk, J n m₁ news₁ → Fr h₀ env.locals h m₁ → News h₀ env.locals h news₁ → Q .next { s with heap := h, toks := tk }) →
    wpAny (model prog w) A (pyIter xv) (fun it s₂ => LoopAtV prog w A h₀ env x body Q E it s₂) E s
theorem post_keep {h₀ : Heap} {L : Addr} {J : (Str → Option Value) → List (Addr × Obj) → Prop} {p : Addr × Obj} {own : List (Addr × Obj)} {s₁ s₂ : Shared} {Q : Flow → Shared → Prop} {f : Flow} (hk : ∀ m nx, J m nx → p ∈ nx)
    (h : InvPostG h₀ L J own s₁ Q f s₂) : InvPostG h₀ L (fun m nx => p ∈ nx ∧ J m nx) own s₁ Q f s₂ := by
  have go : InvEndG h₀ L J own s₁ s₂ → InvEndG h₀ L (fun m nx => p ∈ nx ∧ J m nx) own s₁ s₂ := by
    rintro ⟨h', tk, m', news', nx, e, F', N', hn, ho, ha, hm⟩
    exact ⟨h', tk, m', news', nx, e, F', N', hn, ho, ha, hk _ _ hm, hm⟩
  cases f with
  | ret v => exact h
  | brk => exact h
  | next => exact go h
  | cont => exact go h
section
variable {prog : Program} {w : World}
theorem it_list {l : Addr} {vs : List Value} {nn : Nat} {keep : List (Addr × Obj)} (hl : (l, listOf vs.toArray nn) ∈ keep) : Iterates prog w (.ref l) keep vs.length (fun i v => vs[i]? = some v) := by
  intro A E s env h₀ x body Q m₀ news J hh hk F N hj turn done
  refine kdl_iter J hh (hk _ _ _ hj _ hl) F N hj ?_ done
  intro i v m₁ nx h tk own hv hoff _ hJ F₁ N₁
  exact wpAny_mono (turn i v m₁ nx h tk own (List.getElem?_eq_some_iff.mp hv).1 hv hoff hJ F₁ N₁) (fun f s₂ h2 => post_keep (fun m nx hJ => hk _ _ _ hJ _ hl) h2) fun _ _ e => e
theorem it_tup {a : Addr} {vs : List Value} {nn : Nat} {keep : List (Addr × Obj)} (hl : (a, ({ cls := .type "tuple", data := .seq vs.toArray nn } : Obj)) ∈ keep) : Iterates prog w (.ref a) keep vs.length (fun i v => vs[i]? = some v) := by
  intro A E s env h₀ x body Q m₀ news J hh hk F N hj turn done
  have hm := hk _ _ _ hj _ hl
  have hol := (N _ hm).1
  have hls : s.heap.IsTuple a vs.toArray := ⟨_, hol, rfl, nn, rfl⟩
  have hne : a ≠ s.heap.objs.size := Nat.ne_of_lt (Heap.lt_size hol)
  refine wpAny_pyIter_tuple hls ?_
  have W := Walks.tuple (prog := prog) (w := w) hh s.heap.objs.size a hne vs.toArray
  have hlen : vs.toArray.size = vs.length := by simp
  rw [hlen] at W
  have N0 : News h₀ env.locals (s.heap.push { cls := .type "tuple_iterator", data := .fields #[.ref a, .int 0 0] }) news := fun p hp => ⟨Heap.get?_push_of_some _ (N p hp).1, (N p hp).2⟩
  refine ⟨_, _, _, vs.length, _, _, m₀, news, J, rfl, W, ?_, ?_, ?_, ⟨⟨_, Heap.get?_push_size _ rfl, rfl, rfl⟩, hls.at fun o e => Heap.get?_push_of_some _ e⟩, F.push _, N0, hj, ?_, ?_⟩
  · intro hm'
    rcases List.mem_cons.mp hm' with e | hm'
    · exact absurd F.ns.lt (e ▸ Nat.lt_irrefl _)
    · exact (N _ hm).2.1 ((List.mem_singleton.mp hm').symm)
  · intro b hb
    rw [List.mem_singleton.mp hb]
    exact next_is_new F
  · intro p hp hI
    exact absurd (Heap.lt_size (N p hp).1) ((List.mem_singleton.mp hI) ▸ Nat.lt_irrefl _)
  · rintro i v m₁ nx s₁ own ⟨hh', tk', rfl⟩ hin hP hJ hoff hown hget hfp hst F₁ N₁
    have hP' : vs[i]? = some v := by simpa using hP
    obtain ⟨⟨oI, hoI, _⟩, _⟩ := id hst
    have hma := hk _ _ _ hJ _ hl
    have hao : hh'.get? a = some ({ cls := .type "tuple", data := .seq vs.toArray nn } : Obj) := (N₁ _ (List.mem_append.mpr (.inr hma))).1
    have hIin : (s.heap.objs.size, oI) ∈ own := hfp _ (List.mem_cons_self ..) (next_is_new F) _ hoI
    have hor : ∀ p ∈ own, p = (s.heap.objs.size, oI) ∨ p = (a, ({ cls := .type "tuple", data := .seq vs.toArray nn } : Obj)) := fun p hp => by
      have h2 := hget p hp
      rcases List.mem_cons.mp (hown p hp) with h1 | h1
      · rw [h1, hoI] at h2
        exact .inl (Prod.ext h1 (Option.some.inj h2).symm)
      · rw [List.mem_singleton.mp h1, hao] at h2
        exact .inr (Prod.ext (List.mem_singleton.mp h1) (Option.some.inj h2).symm)
    have hsep : OwnOff [(s.heap.objs.size, oI)] (nx.map (·.1)) := fun p hp b hb e => by
      rw [List.mem_singleton.mp hp] at e
      obtain ⟨q, hq, e2⟩ := List.mem_map.mp hb
      exact hoff q hq (List.mem_singleton.mpr (e2.trans e.symm))
    have N₂ : News h₀ env.locals hh' (nx ++ [(s.heap.objs.size, oI)]) := fun p hp => (List.mem_append.mp hp).elim (fun h => N₁ p (List.mem_append.mpr (.inr h))) fun h => by
      rw [List.mem_singleton.mp h]; exact N₁ _ (List.mem_append.mpr (.inl hIin))
    have fin : ∀ s₂, InvEndG h₀ env.locals (J (i + 1)) [(s.heap.objs.size, oI)] { s with heap := hh', toks := tk' } s₂ → LoopStepU h₀ env.locals [s.heap.objs.size] own (J (i + 1)) { s with heap := hh', toks := tk' } .next s₂ := by
      rintro s₂ ⟨h', tk, m', news', nx', e, F', N', hn, ho, ha, hm'⟩
      refine ⟨rfl, h', tk, m', nx', e, F', fun p hp => ?_, fun p hp hq => ha _ (List.mem_singleton.mpr rfl) p.1 (List.mem_map.mpr ⟨p, hp, rfl⟩) (List.mem_singleton.mp hq).symm, hm'⟩
      rcases List.mem_append.mp hp with h | h
      · rcases hor p h with e1 | e1
        · exact e1 ▸ N' _ (ho _ (List.mem_singleton.mpr rfl))
        · exact e1 ▸ N' _ (hn _ (hk _ _ _ hm' _ hl))
      · exact N' p (hn p h)
    refine wpAny_mono (turn i v m₁ nx hh' tk' _ (by simpa using hin) hP' hsep hJ F₁ N₂) (fun f s₂ p => ?_) fun _ _ e => e
    cases f with
    | ret v => exact .ret p
    | brk => exact .brk p
    | next => exact .next (fin _ p)
    | cont => exact .cont (fin _ p)
  · intro h' tk m' news' F' N' _ hJ
    exact done m' news' h' tk hJ F' N'
theorem it_str {z : Str} {t : Tok} {keep : List (Addr × Obj)} : Iterates prog w (.str z t) keep z.cps.size (SignAt z) := by
  intro A E s env h₀ x body Q m₀ news J hh hk F N hj turn done
  cases ha : z.cps.all (· < 128)
  · refine wpAny_pyIter_wide ha ?_
    refine kdr_loop J (Walks.strWide hh s.heap.objs.size z t) (fun _ h => h) (fun _ h => h) ?_ ?_ ?_ ?_ ⟨_, Heap.get?_push_size _ rfl, rfl, rfl⟩ (F.push _) (fun p hp => ⟨Heap.get?_push_of_some _ (N p hp).1, (N p hp).2⟩) hj turn done
    · intro i h hi b hb
      rw [List.mem_singleton.mp hb]
      obtain ⟨o, ho, _⟩ := hi
      exact ⟨o, ho⟩
    · intro hm
      exact absurd F.ns.lt ((List.mem_singleton.mp hm) ▸ Nat.lt_irrefl _)
    · intro b hb
      rw [List.mem_singleton.mp hb]
      exact next_is_new F
    · intro p hp hI
      exact absurd (Heap.lt_size (N p hp).1) ((List.mem_singleton.mp hI) ▸ Nat.lt_irrefl _)
  · refine wpAny_pyIter_ascii ha ?_
    refine kdr_loop J (Walks.strAscii hh s.heap.objs.size z t) (fun _ h => h) (fun _ h => h) ?_ ?_ ?_ ?_ ⟨_, Heap.get?_push_size _ rfl, rfl, rfl⟩ (F.push _) (fun p hp => ⟨Heap.get?_push_of_some _ (N p hp).1, (N p hp).2⟩) hj turn done
    · intro i h hi b hb
      rw [List.mem_singleton.mp hb]
      obtain ⟨o, ho, _⟩ := hi
      exact ⟨o, ho⟩
    · intro hm
      exact absurd F.ns.lt ((List.mem_singleton.mp hm) ▸ Nat.lt_irrefl _)
    · intro b hb
      rw [List.mem_singleton.mp hb]
      exact next_is_new F
    · intro p hp hI
      exact absurd (Heap.lt_size (N p hp).1) ((List.mem_singleton.mp hI) ▸ Nat.lt_irrefl _)
theorem it_bytes {b : Array UInt8} {t : Tok} {keep : List (Addr × Obj)} : Iterates prog w (.bytes b t) keep b.size (fun i v => ∃ c u, b[i]? = some c ∧ v = .int (c.toNat : Int) u) := by
  intro A E s env h₀ x body Q m₀ news J hh hk F N hj turn done
  refine KBw.pyIter_bytes ?_
  refine kdr_loop J (KBw.walks hh s.heap.objs.size b t) (fun _ h => h) (fun _ h => h) ?_ ?_ ?_ ?_ ⟨_, Heap.get?_push_size _ rfl, rfl, rfl⟩ (F.push _) (fun p hp => ⟨Heap.get?_push_of_some _ (N p hp).1, (N p hp).2⟩) hj turn done
  · intro i h hi b hb
    rw [List.mem_singleton.mp hb]
    obtain ⟨o, ho, _⟩ := hi
    exact ⟨o, ho⟩
  · intro hm
    exact absurd F.ns.lt ((List.mem_singleton.mp hm) ▸ Nat.lt_irrefl _)
  · intro b hb
    rw [List.mem_singleton.mp hb]
    exact next_is_new F
  · intro p hp hI
    exact absurd (Heap.lt_size (N p hp).1) ((List.mem_singleton.mp hI) ▸ Nat.lt_irrefl _)
end
end Mine
namespace Mine
section
variable {prog : Program} {w : World} {A : Around} {E : Value → Shared → Prop} {s : Shared} {Q : Value × List Value → Shared → Prop} {pl : Sem Bool}
theorem miss_none : typeLookup (.type "NoneType") (Str.ofString "split") = pure none := am_miss_of_fast (by decide +kernel)
theorem miss_int : typeLookup (.type "int") (Str.ofString "split") = pure none := am_miss_of_fast (by decide +kernel)
theorem miss_bool : typeLookup (.type "bool") (Str.ofString "split") = pure none := am_miss_of_fast (by decide +kernel)
theorem miss_list : typeLookup (.type "list") (Str.ofString "split") = pure none := am_miss_of_fast (by decide +kernel)
theorem miss_tuple : typeLookup (.type "tuple") (Str.ofString "split") = pure none := am_miss_of_fast (by decide +kernel)
theorem miss_dict : typeLookup (.type "dict") (Str.ofString "split") = pure none := am_miss_of_fast (by decide +kernel)
theorem split_fits : (Str.ofString "split").length + 100 ≤ sizeLine := by decide +kernel
theorem gm_usual {v : Value} {T : String} {name : Str} (hT : s.TypeIs v T) (pa : PlainAttrs T) (miss : typeLookup (.type T) name = pure none) (h : wpAny (model prog w) A (getAttr v name) (fun x s' => Q (x, []) s') E s) : wpAny (model prog w) A (getMethod v name pl) Q E s := by
  obtain ⟨g, hg, hcan⟩ := pa.ga
  unfold getMethod
  refine wpAny_bind (wpAny_specialOf hT hg ?_)
  show wpAny _ A (if (Manifest.canonical g != "object.__getattribute__") = true then _ else _) Q E s
  rw [hcan, if_neg Bool.false_ne_true]
  refine wpAny_bind (wpAny_specialOf hT pa.noGetattr ?_)
  refine wpAny_bind (wpAny_specialOf hT miss ?_)
  exact wpAny_bind (wpAny_mono h (fun x s' hq => wpAny_pure hq) fun _ _ e => e)
theorem split_plain : (["__module__", "__name__", "__qualname__", "__doc__", "__annotations__"] : List Str).contains (Str.ofString "split") = false := by decide +kernel
/-- a thing without the name: the lookup of each kind, once for all -/
theorem ga_gen {v : Value} {T id : String} {S : PySem.Spec} {Q : Value → Shared → Prop} (slot : Slot T (dunder "getattribute") id) (en : entryFor table id = some Builtin.«object.__getattribute__») (ar : ∀ b, argsOk id ⟨[v, b], []⟩) (nog : typeLookup (.type T) "__getattr__" = pure none)
    (mt : ∀ u, Meets (Builtin.«object.__getattribute__» ⟨[v, .str (Str.ofString "split") u], []⟩) S) (hT : ∀ tk, ({ s with toks := tk } : Shared).TypeIs v T)
    (hS : ∀ tk R, raisesAttr v (Str.ofString "split") A R { s with toks := tk } → S A R { s with toks := tk }) (hA : A.handled = none)
    (h : ∀ h' tk e, Heap.NewExcOf s.heap h' e "AttributeError" → E (.ref e) { s with heap := h', toks := tk }) : wpAny (model prog w) A (getAttr v (Str.ofString "split")) Q E s := by
  obtain ⟨hp, g, d, tk, os⟩ := s
  have f1 := sub_AttributeError
  have f3 : typeLookup (.type T) (Str.ofString "__getattribute__") = pure (some (.builtin id)) := slot.lookup
  have f4 := slot.bind v
  unfold getAttr getAttrBy
  repeat (any_goals (first | assumption | exact hT _ | ((with_reducible show wpAny _ _ (typeOf v) _ _ _); refine wpAny_typeOf (hT _) ?_) | ((with_reducible show wpAny _ _ (call (Value.builtin id) _) _ _ _); refine call_meets slot (hT _) en (ar _) (mt _) (hS _ _ ⟨hA, fun h' tk' e hx' => ?_⟩)) | wp_step))
  obtain ⟨t', u', he⟩ := hx'.there
  show wpAny _ _ (getattributeRaised _ _ _ _ _ _ _) _ _ _
  unfold getattributeRaised hookOrError
  repeat (any_goals (first | assumption | wp_step))
  exact h _ _ _ hx'.of
theorem gm_none (hA : A.handled = none) (h : ∀ h' tk e, Heap.NewExcOf s.heap h' e "AttributeError" → E (.ref e) { s with heap := h', toks := tk }) : wpAny (model prog w) A (getMethod .none (Str.ofString "split") pl) Q E s :=
  gm_usual rfl F.plainAttrs_NoneType miss_none (ga_gen F.slot_NoneType_getattribute F.entry_object_getattribute (F.args_object_getattribute_2 _) am_none_getattr_none (fun u => meets_getattribute_miss_none (Str.ofString "split") u miss_none split_fits) (fun _ => rfl) (fun _ _ r => r) hA h)
theorem gm_int {n : Int} {t : Tok} (hA : A.handled = none) (h : ∀ h' tk e, Heap.NewExcOf s.heap h' e "AttributeError" → E (.ref e) { s with heap := h', toks := tk }) : wpAny (model prog w) A (getMethod (.int n t) (Str.ofString "split") pl) Q E s :=
  gm_usual rfl F.plainAttrs_int miss_int (ga_gen F.slot_int_getattribute am_entry_int_getattribute (F.args_int_getattribute_2 _) am_int_getattr_none (fun u => meets_getattribute_miss_int n t (Str.ofString "split") u miss_int split_fits) (fun _ => rfl) (fun _ _ r => r) hA h)
theorem gm_bool {b : Bool} (hA : A.handled = none) (h : ∀ h' tk e, Heap.NewExcOf s.heap h' e "AttributeError" → E (.ref e) { s with heap := h', toks := tk }) : wpAny (model prog w) A (getMethod (.bool b) (Str.ofString "split") pl) Q E s :=
  gm_usual rfl F.plainAttrs_bool miss_bool (ga_gen F.slot_bool_getattribute am_entry_int_getattribute (F.args_int_getattribute_2 _) am_bool_getattr_none (fun u => meets_getattribute_miss_bool b (Str.ofString "split") u miss_bool split_fits) (fun _ => rfl) (fun _ _ r => r) hA h)
theorem gm_list {a : Addr} {xs : Array Value} {k : Nat} {sl : Array (Option Value)} (hx : s.heap.get? a = some ({ cls := .type "list", dict := none, data := .seq xs k, slots := sl } : Obj)) (hA : A.handled = none) (h : ∀ h' tk e, Heap.NewExcOf s.heap h' e "AttributeError" → E (.ref e) { s with heap := h', toks := tk }) : wpAny (model prog w) A (getMethod (.ref a) (Str.ofString "split") pl) Q E s :=
  gm_usual ⟨_, hx, rfl⟩ F.plainAttrs_list miss_list (ga_gen F.slot_list_getattribute am_entry_list_getattribute (F.args_list_getattribute_2 _) am_list_getattr_none (fun u => meets_getattribute_miss_list a xs k sl (Str.ofString "split") u miss_list split_plain split_fits) (fun _ => ⟨_, hx, rfl⟩) (fun _ _ r => ⟨hx, r⟩) hA h)
theorem gm_tuple {a : Addr} {xs : Array Value} {k : Nat} {sl : Array (Option Value)} (hx : s.heap.get? a = some ({ cls := .type "tuple", dict := none, data := .seq xs k, slots := sl } : Obj)) (hA : A.handled = none) (h : ∀ h' tk e, Heap.NewExcOf s.heap h' e "AttributeError" → E (.ref e) { s with heap := h', toks := tk }) : wpAny (model prog w) A (getMethod (.ref a) (Str.ofString "split") pl) Q E s :=
  gm_usual ⟨_, hx, rfl⟩ F.plainAttrs_tuple miss_tuple (ga_gen F.slot_tuple_getattribute am_entry_tuple_getattribute (F.args_tuple_getattribute_2 _) am_tuple_getattr_none (fun u => meets_getattribute_miss_tuple a xs k sl (Str.ofString "split") u miss_tuple split_plain split_fits) (fun _ => ⟨_, hx, rfl⟩) (fun _ _ r => ⟨hx, r⟩) hA h)
theorem gm_dict {a : Addr} {xs : Array DictEntry} {k : Nat} {sl : Array (Option Value)} (hx : s.heap.get? a = some ({ cls := .type "dict", dict := none, data := .dict xs k, slots := sl } : Obj)) (hA : A.handled = none) (h : ∀ h' tk e, Heap.NewExcOf s.heap h' e "AttributeError" → E (.ref e) { s with heap := h', toks := tk }) : wpAny (model prog w) A (getMethod (.ref a) (Str.ofString "split") pl) Q E s :=
  gm_usual ⟨_, hx, rfl⟩ F.plainAttrs_dict miss_dict (ga_gen F.slot_dict_getattribute am_entry_dict_getattribute (F.args_dict_getattribute_2 _) am_dict_getattr_none (fun u => meets_getattribute_miss_dict a xs k sl (Str.ofString "split") u miss_dict split_plain split_fits) (fun _ => ⟨_, hx, rfl⟩) (fun _ _ r => ⟨hx, r⟩) hA h)
end
end Mine
namespace Mine
section
variable {M : Model} {A : Around} {E : Value → Shared → Prop} {s' : Shared} {base g h : Heap} {outer : List Env} {L a e : Addr} {m : Str → Option Value} {name : Str} {scope : Scope} {cd : Value} {Q : Unit → Shared → Prop} {news : List (Addr × Obj)}
theorem raisedSN_sub {base G : Heap} {l : List Env} {e : Addr} {cls : Value} {news news' : List (Addr × Obj)} {h : Heap} (R : RaisedSN base G l e cls news h) (hs : ∀ q ∈ news', q ∈ news) : RaisedSN base G l e cls news' h := by
  obtain ⟨B, a0, h1, h2, h3, h4⟩ := R
  exact ⟨B, a0, h1, h2, fun q hq => h3 q (hs q hq), h4⟩
/-- a new exception, whatever its own members, leaves the frame that raised it -/
theorem leave_attr {cls : String} (K : Below A base outer g) (hx : Heap.NewExcOf h s'.heap e cls) (F : Fr g L h m) (N : News g L h news)
    (hQ : ∀ h', RaisedSN base g outer e (.type cls) news h' → g.UpToSlots h' → Q () { s' with heap := h' }) (hk : scope.kind = .function := by rfl) :
    wpAny M (A.deeper (envOf name scope L a cd)) (leaving (envOf name scope L a cd) (.ref e)) Q E s' := by
  have K' := K.push (name := name) (a := a) (cd := cd) F hk
  obtain ⟨fs, hfs⟩ : ∃ z, z = (envOf name scope L a cd :: outer).filterMap (·.frame) := ⟨_, rfl⟩
  have hin : ∀ env ∈ (envOf name scope L a cd :: outer), ∀ b, env.frame = some b → b ∈ fs := fun env he b hb => hfs ▸ List.mem_filterMap.mpr ⟨env, he, hb⟩
  have hout : ∀ b, b ∈ fs → b = L ∨ b ∈ outer.filterMap (·.frame) := fun b hb => kts_mem (hfs ▸ hb)
  have hmem : ∀ b, b ∈ fs → base.get? b = none := fun b hb => (K'.frames.mem (hfs ▸ hb)).1
  have st : base.StaysIn (hideAll h fs) := fun b o q => hideAll_get _ (K'.stays b o q) fun hm => by rw [hmem b hm] at q; cases q
  have sg : ∀ b o, g.get? b = some o → b ∉ outer.filterMap (·.frame) → (hideAll h fs).get? b = some o := fun b o q nm => hideAll_get _ (F.keep b o q) fun hm => by
    rcases hout b hm with z | z
    · rw [z, kts_self F] at q; cases q
    · exact nm z
  have hl : ∀ q ∈ news, (hideAll h fs).get? q.1 = some q.2 ∧ g.get? q.1 = none ∧ base.get? q.1 = none := fun q hq => by
    refine ⟨hideAll_get _ (N q hq).1 fun hm => ?_, (N q hq).2.2, fresh_of_stays K.stays (N q hq).2.2⟩
    rcases hout q.1 hm with z | z
    · exact (N q hq).2.1 z
    · obtain ⟨o, ho, _⟩ := (K.frames.mem z).2
      rw [(N q hq).2.2] at ho; cases ho
  obtain ⟨ob, vs, he, hcls, hd, h1⟩ := hx.there
  have hen : (hideAll h fs).get? e = none := by
    cases q : (hideAll h fs).get? e with
    | none => rfl
    | some o => have := of_hideAll _ q; rw [hx.new] at this; cases this
  have hsz : 0 < vs.size := Nat.lt_of_lt_of_le (by decide) (Nat.le_of_lt (Array.getElem?_eq_some_iff.mp h1).1)
  refine wpAny_leaving_firstW (base := hideAll h fs) (a0 := vs[0]) K'.stack ((funFrames_hide K'.frames hin).of_keeps fun b o hb _ => ⟨o, hx.keeps b o hb, rfl⟩) rfl he (fun b o hb => hx.keeps b o (of_hideAll _ hb)) hen hd h1 (by simp [hsz]) fun h' hL => ?_
  obtain ⟨k1, ⟨_, _, k2⟩, k3, k4⟩ := hL
  exact hQ h' ⟨_, _, st, sg, hl, k1, hen, k2, by rw [← hcls]; exact k3⟩ (((Heap.UpToSlots.of_keeps F.keep).trans (Heap.UpToSlots.of_keeps hx.keeps)).trans k4)
end
end Mine
namespace Mine
theorem slot_bsplit : Slot "bytes" "split" "bytes.split" :=
  .of (owner := "bytes") (n := "split") (by rw [typeLookup_type, builtinLookup_eq_fast]; kernel_rfl) (by decide +kernel) (by decide +kernel) (by decide +kernel)
    (by first | exact .inl (by decide +kernel) | exact .inr (by decide +kernel)) (by rw [isSubtype_type]; kernel_rfl)
theorem entry_bsplit : entryFor table "bytes.split" = some Builtin.«bytes.split» := entryFor_of_tree (by kernel_rfl)
theorem args_bsplit (a b : Value) : argsOk "bytes.split" ⟨[a, b], []⟩ := by unfold argsOk; kernel_rfl
theorem type_bsplit : typeOf (.builtin "bytes.split") = pure (.type "method_descriptor") := by kernel_rfl
section
variable {prog : Program} {w : World} {A : Around} {E : Value → Shared → Prop} {s : Shared} {pl : Sem Bool}
theorem gm_bytes {b : Array UInt8} {t : Tok} {Q : Value × List Value → Shared → Prop} (h : Q (.builtin "bytes.split", [.bytes b t]) s) : wpAny (model prog w) A (getMethod (.bytes b t) (Str.ofString "split") pl) Q E s :=
  getMethod_builtin (T := "bytes") rfl FB.plainAttrs_bytes slot_bsplit type_bsplit (fun a h => nomatch h) h
theorem bs_raise {b : Array UInt8} {t u : Tok} {x : Str} {Q : Value → Shared → Prop} (hA : A.handled = none) (h : ∀ h' tk e, Heap.NewExc s.heap h' e "TypeError" → E (.ref e) { s with heap := h', toks := tk }) :
    wpAny (model prog w) A (call (.builtin "bytes.split") [.bytes b t, .str x u]) Q E s := by
  obtain ⟨hp, g, d, tk, os⟩ := s
  refine wpAny_call_entry slot_bsplit rfl entry_bsplit ?_ (args_bsplit _ _)
  have f1 : typeLookup (.type "str") (Str.ofString "__buffer__") = pure none := am_miss_of_fast (by decide +kernel)
  have f2 : typeLookup (.type "str") (Str.ofString "__release_buffer__") = pure none := am_miss_of_fast (by decide +kernel)
  unfold Builtin.«bytes.split» Builtin.Bytes.splitM
  repeat (any_goals (first | assumption | wp_step))
  all_goals exact wpAny_raiseErrorMade plainExc_TypeError hA (fun h' tk' e X => h h' tk' e X) (by decide +kernel)
end
end Mine
namespace Mine
/-- a value that a for refuses -/
def NoIter (prog : Program) (w : World) (xv : Value) : Prop := ∀ {A : Around} {E : Value → Shared → Prop} {s : Shared} {Q : Value → Shared → Prop}, A.handled = none →
  (∀ h' tk e, Heap.NewExc s.heap h' e "TypeError" → E (.ref e) { s with heap := h', toks := tk }) → wpAny (model prog w) A (pyIter xv) Q E s
section
variable {prog : Program} {w : World}
theorem noiter_none  : NoIter prog w .none := by
  intro A E s Q hA h
  obtain ⟨hp', g, d, tk, os⟩ := s
  have hT : ∀ s' : Shared, s'.TypeIs .none "NoneType" := fun _ => rfl
  have l1 : typeLookup (.type "NoneType") (Str.ofString "__iter__") = pure none := am_miss_of_fast (by decide +kernel)
  have l2 : typeLookup (.type "NoneType") (Str.ofString "__getitem__") = pure none := am_miss_of_fast (by decide +kernel)
  unfold pyIter
  refine wpAny_bind (wpAny_specialOf (hT _) l1 ?_)
  refine wpAny_bind (wpAny_specialOf (hT _) l2 ?_)
  repeat (any_goals (first | assumption | exact hT _ | exact wpAny_raiseErrorMade plainExc_TypeError hA (fun h' tk' e X => h h' tk' e X) (by decide +kernel) | wp_step))
theorem noiter_int {n : Int} {t : Tok} : NoIter prog w (.int n t) := by
  intro A E s Q hA h
  obtain ⟨hp', g, d, tk, os⟩ := s
  have hT : ∀ s' : Shared, s'.TypeIs (.int n t) "int" := fun _ => rfl
  have l1 : typeLookup (.type "int") (Str.ofString "__iter__") = pure none := am_miss_of_fast (by decide +kernel)
  have l2 : typeLookup (.type "int") (Str.ofString "__getitem__") = pure none := am_miss_of_fast (by decide +kernel)
  unfold pyIter
  refine wpAny_bind (wpAny_specialOf (hT _) l1 ?_)
  refine wpAny_bind (wpAny_specialOf (hT _) l2 ?_)
  repeat (any_goals (first | assumption | exact hT _ | exact wpAny_raiseErrorMade plainExc_TypeError hA (fun h' tk' e X => h h' tk' e X) (by decide +kernel) | wp_step))
theorem noiter_bool {b : Bool} : NoIter prog w (.bool b) := by
  intro A E s Q hA h
  obtain ⟨hp', g, d, tk, os⟩ := s
  have hT : ∀ s' : Shared, s'.TypeIs (.bool b) "bool" := fun _ => rfl
  have l1 : typeLookup (.type "bool") (Str.ofString "__iter__") = pure none := am_miss_of_fast (by decide +kernel)
  have l2 : typeLookup (.type "bool") (Str.ofString "__getitem__") = pure none := am_miss_of_fast (by decide +kernel)
  unfold pyIter
  refine wpAny_bind (wpAny_specialOf (hT _) l1 ?_)
  refine wpAny_bind (wpAny_specialOf (hT _) l2 ?_)
  repeat (any_goals (first | assumption | exact hT _ | exact wpAny_raiseErrorMade plainExc_TypeError hA (fun h' tk' e X => h h' tk' e X) (by decide +kernel) | wp_step))
theorem it_dict {a : Addr} {o : Obj} {keep : List (Addr × Obj)} (hl : (a, o) ∈ keep) (ho : Obj.IsDictOf (PySem.strKind prog w) o []) (hs : (a == sysModules) = false) : Iterates prog w (.ref a) keep 0 (fun _ _ => False) := by
  intro A E s env h₀ x body Q m₀ news J hh hk F N hj turn done
  have hm := hk _ _ _ hj _ hl
  have hol := (N _ hm).1
  obtain ⟨es, ep, h1, h2, h3, h4, h5⟩ := ho
  have hD : s.heap.DictAt (PySem.strKind prog w) a [] ep := ⟨o, es, hol, h1, h2, h3, h4, h5⟩
  have hne : a ≠ s.heap.objs.size := Nat.ne_of_lt (Heap.lt_size hol)
  refine wpAny_pyIter_dict hs hD ?_
  have W := Walks.dictKeys (knd := PySem.strKind prog w) hh s.heap.objs.size a hne [] ep
  have N0 : ∀ ob : Obj, ob.isFreed = false → News h₀ env.locals (s.heap.push ob) news := fun ob _ p hp => ⟨Heap.get?_push_of_some _ (N p hp).1, (N p hp).2⟩
  refine ⟨_, _, _, 0, _, _, m₀, news, J, rfl, W, ?_, ?_, ?_, ⟨⟨_, Heap.get?_push_size _ rfl, rfl, rfl⟩, hD.at' fun o e => Heap.get?_push_of_some _ e⟩, F.push _, N0 _ rfl, hj, ?_, ?_⟩
  · intro hm'
    rcases List.mem_cons.mp hm' with e | hm'
    · exact absurd F.ns.lt (e ▸ Nat.lt_irrefl _)
    · exact (N _ hm).2.1 ((List.mem_singleton.mp hm').symm)
  · intro b hb
    rw [List.mem_singleton.mp hb]
    exact next_is_new F
  · intro p hp hI
    exact absurd (Heap.lt_size (N p hp).1) ((List.mem_singleton.mp hI) ▸ Nat.lt_irrefl _)
  · intro i v m₁ nx s₁ own _ hin
    exact absurd hin (Nat.not_lt_zero i)
  · intro h' tk m' news' F' N' _ hJ
    exact done m' news' h' tk hJ F' N'
end
end Mine
namespace Mine
/-! the sixteen things of claim 02, what is due of each in a row and alone -/
abbrev T2 (x : String) : Str := Str.ofString x
def thingTxt : List Str := [T2 "a=1", T2 "", T2 " ; ", T2 "b; Version=\"2\"", T2 "=x; path=/", T2 "c;secure;;PATH= / ", T2 "=", T2 "z"]
def noughtD : Dat := pairD (T2 "version") (some (T2 "0"))
def bareD (x : Str) : Dat := .list [pairD x none, noughtD]
def attrD : Dat := .str (T2 "attribute")
def typeD : Dat := .str (T2 "type")
def dueK : Nat → Dat
  | 0 => .list [.list [pairD (T2 "a") (some (T2 "1")), noughtD]]
  | 1 => .list []
  | 2 => .list []
  | 3 => .list [.list [pairD (T2 "b") none, pairD (T2 "version") (some (T2 "2"))]]
  | 4 => .list []
  | 5 => .list [.list [pairD (T2 "c") none, pairD (T2 "secure") none, pairD (T2 "path") (some (T2 "/")), noughtD]]
  | 6 => .list []
  | 7 => .list [bareD (T2 "z")]
  | 11 => typeD
  | 12 => typeD
  | _ => attrD
def aloneK : Nat → Dat
  | 0 => .list [bareD (T2 "a"), bareD (T2 "1")]
  | 1 => .list []
  | 2 => .list []
  | 6 => .list []
  | 7 => .list [bareD (T2 "z")]
  | 8 => typeD
  | 9 => typeD
  | 10 => typeD
  | 11 => attrD
  | 12 => .list []
  | 13 => .list [bareD (T2 "a")]
  | 14 => .list []
  | 15 => .list [bareD (T2 "a"), .list [pairD (T2 "b") (some (T2 "c")), noughtD]]
  | _ => .none
inductive ThingIn (prog : Program) (w : World) (new : List (Addr × Obj)) : Value → Nat → Prop
  | text {k : Nat} {x : Str} (t : Tok) (h : thingTxt[k]? = some x) : ThingIn prog w new (.str x t) k
  | none : ThingIn prog w new .none 8
  | int (t : Tok) : ThingIn prog w new (.int 5 t) 9
  | bool : ThingIn prog w new (.bool true) 10
  | bytes (t : Tok) : ThingIn prog w new (.bytes #[97, 61, 49] t) 11
  | empty (t : Tok) : ThingIn prog w new (.bytes #[] t) 12
  | list {a : Addr} {vs : List Value} {n : Nat} (h : (a, listOf vs.toArray n) ∈ new) (hv : StrsAre vs [T2 "a"]) : ThingIn prog w new (.ref a) 13
  | dict {a : Addr} {o : Obj} (h : (a, o) ∈ new) (ho : Obj.IsDictOf (PySem.strKind prog w) o []) (hs : (a == sysModules) = false) : ThingIn prog w new (.ref a) 14
  | tup {a : Addr} {vs : List Value} {n : Nat} (h : (a, ({ cls := .type "tuple", data := .seq vs.toArray n } : Obj)) ∈ new) (hv : StrsAre vs [T2 "a", T2 "b=c"]) : ThingIn prog w new (.ref a) 15
def CellIn (prog : Program) (w : World) (new : List (Addr × Obj)) (v : Value) (k : Nat) : Prop :=
  ∃ (t : Addr) (a b c : Value) (n : Nat), v = .ref t ∧ (t, ({ cls := .type "tuple", data := .seq [a, b, c].toArray n } : Obj)) ∈ new ∧ ThingIn prog w new a k ∧ DatIn new b (dueK k) ∧ DatIn new c (aloneK k)
inductive CellsAre (prog : Program) (w : World) (new : List (Addr × Obj)) : List Value → List Nat → Prop
  | nil : CellsAre prog w new [] []
  | cons {v : Value} {k : Nat} {vs : List Value} {ks : List Nat} (h : CellIn prog w new v k) (r : CellsAre prog w new vs ks) : CellsAre prog w new (v :: vs) (k :: ks)
/-- each entry of a list stands in X -/
def EachIn (X : List (Addr × Obj)) : List (Addr × Obj) → Prop
  | [] => True
  | q :: r => q ∈ X ∧ EachIn X r
theorem eachIn_of {X : List (Addr × Obj)} : ∀ l : List (Addr × Obj), (∀ q ∈ l, q ∈ X) → EachIn X l
  | [], _ => trivial
  | q :: r, h => ⟨h q (List.mem_cons_self ..), eachIn_of r fun z hz => h z (List.mem_cons_of_mem _ hz)⟩
theorem CellsAre.via {prog : Program} {w : World} {new : List (Addr × Obj)} {vs : List Value} {ks : List Nat} (h : ∀ X, EachIn X new → CellsAre prog w X vs ks) : CellsAre prog w new vs ks := h new (eachIn_of new fun _ h => h)
theorem Over.chain {q r : Addr × Obj} {new old : List (Addr × Obj)} (h : @LT.lt Nat _ r.1 q.1) (o : Over (r :: new) old) : Over (q :: r :: new) old :=
  Over.cons (fun z hz => Nat.lt_trans (o r (List.mem_cons_self ..) z hz) h) o
end Mine
namespace Mine
/-! claim 02: the plain law -/
def dueRow : List Dat → List Nat → Dat
  | acc, [] => .list acc
  | acc, k :: r => match dueK k with
    | .list ds => dueRow (acc ++ ds) r
    | d => d
theorem dueK_cases (k : Nat) : (∃ ds, dueK k = .list ds ∧ ds.length ≤ 1 ∧ ds.all (kqdOk 8) = true) ∨ dueK k = attrD ∨ dueK k = typeD := by
  unfold dueK
  split <;> first | exact .inr (.inl rfl) | exact .inr (.inr rfl) | exact .inl ⟨_, rfl, by decide, by decide +kernel⟩
theorem dueRow_list {acc ds : List Dat} {k : Nat} {r : List Nat} (h : dueK k = .list ds) : dueRow acc (k :: r) = dueRow (acc ++ ds) r := by
  rw [dueRow, h]
theorem dueRow_attr {acc : List Dat} {k : Nat} {r : List Nat} (h : dueK k = attrD) : dueRow acc (k :: r) = attrD := by
  rw [dueRow, h]; rfl
theorem dueRow_type {acc : List Dat} {k : Nat} {r : List Nat} (h : dueK k = typeD) : dueRow acc (k :: r) = typeD := by
  rw [dueRow, h]; rfl
/-- what may be compared: a list of plain data, or a text -/
def Cmp (d : Dat) : Prop := (∃ ds, d = .list ds ∧ ds.all (kqdOk 8) = true) ∨ ∃ x, d = .str x
theorem dueRow_cmp : ∀ (ks : List Nat) (acc : List Dat), acc.all (kqdOk 8) = true → Cmp (dueRow acc ks)
  | [], acc, h => .inl ⟨acc, rfl, h⟩
  | k :: r, acc, h => by
    rcases dueK_cases k with ⟨ds, e, _, h2⟩ | e | e
    · rw [dueRow_list e]; exact dueRow_cmp r _ (by rw [List.all_append, h, h2]; rfl)
    · rw [dueRow_attr e]; exact .inr ⟨_, rfl⟩
    · rw [dueRow_type e]; exact .inr ⟨_, rfl⟩
def txtK (k : Nat) : Str := thingTxt.getD k (T2 "")
def heads : List Nat → List Str
  | [] => []
  | k :: r => if k < 8 then txtK k :: heads r else []
def badOf : List Nat → String
  | [] => "AttributeError"
  | k :: r => if k < 8 then badOf r else if k = 11 ∨ k = 12 then "TypeError" else "AttributeError"
theorem badOf_or : ∀ ks : List Nat, badOf ks = "AttributeError" ∨ badOf ks = "TypeError"
  | [] => .inl rfl
  | k :: r => by
    unfold badOf
    split
    · exact badOf_or r
    · split
      · exact .inr rfl
      · exact .inl rfl
theorem heads_le : ∀ ks : List Nat, (heads ks).length ≤ ks.length
  | [] => Nat.le_refl _
  | k :: r => by
    unfold heads
    split
    · rw [List.length_cons, List.length_cons]; exact Nat.succ_le_succ (heads_le r)
    · exact Nat.zero_le _
theorem heads_get : ∀ (ks : List Nat) (i : Nat) (x : Str), (heads ks)[i]? = some x → ∃ k, ks[i]? = some k ∧ k < 8 ∧ x = txtK k
  | [], i, x, h => by simp [heads] at h
  | k :: r, i, x, h => by
    unfold heads at h
    split at h
    · rename_i hk
      cases i with
      | zero => exact ⟨k, rfl, hk, by simpa using h.symm⟩
      | succ j => exact heads_get r j x (by simpa using h)
    · simp at h
theorem heads_bad : ∀ (ks : List Nat), (heads ks).length < ks.length → ∃ k, ks[(heads ks).length]? = some k ∧ 8 ≤ k ∧ badOf ks = (if k = 11 ∨ k = 12 then "TypeError" else "AttributeError")
  | [], h => absurd h (Nat.lt_irrefl _)
  | k :: r, h => by
    unfold heads at h ⊢
    unfold badOf
    split
    · rename_i hk
      rw [if_pos hk] at h
      obtain ⟨k', h1, h2, h3⟩ := heads_bad r (by simpa using h)
      exact ⟨k', by simpa using h1, h2, h3⟩
    · rename_i hk
      exact ⟨k, rfl, by omega, rfl⟩
theorem due_hdr : ∀ k, k < 8 → dueK k = .list (hdrD (txtK k)).toList
  | 0, _ => by kernel_rfl
  | 1, _ => by kernel_rfl
  | 2, _ => by kernel_rfl
  | 3, _ => by kernel_rfl
  | 4, _ => by kernel_rfl
  | 5, _ => by kernel_rfl
  | 6, _ => by kernel_rfl
  | 7, _ => by kernel_rfl
theorem due_bad {k : Nat} (h : 8 ≤ k) : dueK k = if k = 11 ∨ k = 12 then typeD else attrD := by
  unfold dueK
  split <;> first | omega | rfl | skip
  rename_i h11 h12
  rw [if_neg (fun e => e.elim h11 h12)]
theorem told_due : ∀ (ks : List Nat) (acc : List Dat), dueRow acc ks = if (heads ks).length = ks.length then .list (acc ++ allD (heads ks)) else if badOf ks = "AttributeError" then attrD else typeD
  | [], acc => by simp [dueRow, heads, allD]
  | k :: r, acc => by
    by_cases hk : k < 8
    · rw [dueRow_list (due_hdr k hk), told_due r, heads, if_pos hk, badOf, if_pos hk]
      have e : allD (txtK k :: heads r) = (hdrD (txtK k)).toList ++ allD (heads r) := by
        unfold allD
        cases h : hdrD (txtK k) <;> simp [h]
      rw [e, List.append_assoc, List.length_cons, List.length_cons]
      by_cases h2 : (heads r).length = r.length
      · rw [if_pos h2, if_pos (congrArg (· + 1) h2)]
      · rw [if_neg h2, if_neg (fun x => h2 (Nat.succ.inj x))]
    · have e := due_bad (Nat.not_lt.mp hk)
      rw [heads, if_neg hk, badOf, if_neg hk, if_neg (by simp)]
      by_cases h2 : k = 11 ∨ k = 12
      · rw [if_pos h2] at e
        rw [dueRow_type e, if_pos h2, if_neg (by decide)]
      · rw [if_neg h2] at e
        rw [dueRow_attr e, if_neg h2, if_pos rfl]
/-! a text read sign by sign -/
def signsOf (z : Str) : List Str := z.cps.toList.map fun c => ⟨#[c]⟩
def signD (c : Nat) : List Dat := if c = 32 ∨ c = 59 ∨ c = 61 then [] else [bareD ⟨#[c]⟩]
def signsL (z : Str) : List Dat := z.cps.toList.flatMap signD
def aloneD (k : Nat) : Dat := match aloneK k with
  | .none => .list (signsL (txtK k))
  | d => d
theorem alone_text : ∀ k, k < 8 → aloneD k = .list (allD (signsOf (txtK k)))
  | 0, _ => by kernel_rfl
  | 1, _ => by kernel_rfl
  | 2, _ => by kernel_rfl
  | 3, _ => by kernel_rfl
  | 4, _ => by kernel_rfl
  | 5, _ => by kernel_rfl
  | 6, _ => by kernel_rfl
  | 7, _ => by kernel_rfl
theorem alone_list : aloneD 13 = .list (allD [T2 "a"]) := by kernel_rfl
theorem alone_tup : aloneD 15 = .list (allD [T2 "a", T2 "b=c"]) := by kernel_rfl
theorem aloneD_cmp (k : Nat) (h : k < 16) : Cmp (aloneD k) := by
  have q : ∀ k < 16, (match aloneD k with | .list ds => ds.all (kqdOk 8) | .str _ => true | _ => false) = true := by decide +kernel
  have q2 := q k h
  unfold Cmp
  cases e : aloneD k with
  | list ds => rw [e] at q2; exact .inl ⟨ds, rfl, q2⟩
  | str x => exact .inr ⟨x, rfl⟩
  | _ => rw [e] at q2; exact absurd q2 Bool.false_ne_true
/-- a header that does not reach the dates, and is short -/
def okHdr (x : Str) : Bool := decide (x.length ≤ 2000) && (Txt.split x (Str.ofString ";")).tail.all fun y => !(key1 y == Str.ofString "expires") || decide (((sepOf y).length : Int) = 0)
theorem okHdr_len {x : Str} (h : okHdr x = true) : x.length ≤ 2000 := by
  unfold okHdr at h
  rw [Bool.and_eq_true] at h
  exact of_decide_eq_true h.1
theorem okHdr_exp {x : Str} (h : okHdr x = true) : ∀ y ∈ (Txt.split x (Str.ofString ";")).tail, expOk y := by
  unfold okHdr at h
  rw [Bool.and_eq_true] at h
  intro y hy e
  have q := List.all_eq_true.mp h.2 y hy
  rw [e] at q
  simpa using q
theorem ok_txt : ∀ k < 8, okHdr (txtK k) = true := by decide +kernel
theorem ok_signs : ∀ k < 8, (signsOf (txtK k)).all okHdr = true := by decide +kernel
theorem ok_more : [T2 "a", T2 "b=c"].all okHdr = true := by decide +kernel
theorem len_txt : ∀ k < 8, (txtK k).cps.size ≤ 100 := by decide +kernel
theorem heads_ok (ks : List Nat) : ∀ x ∈ heads ks, okHdr x = true := by
  intro x hx
  obtain ⟨i, hi⟩ := List.mem_iff_getElem?.mp hx
  obtain ⟨k, _, hk, rfl⟩ := heads_get ks i x hi
  exact ok_txt k hk
end Mine
namespace Mine
/-! claim 02: cells and rows in the ledger -/
section
variable {prog : Program} {w : World} {new : List (Addr × Obj)}
theorem ThingIn.mono {v : Value} {k : Nat} {nw : List (Addr × Obj)} (hs : ∀ q ∈ new, q ∈ nw) (h : ThingIn prog w new v k) : ThingIn prog w nw v k := by
  cases h with
  | text t h => exact .text t h
  | none => exact .none
  | int t => exact .int t
  | bool => exact .bool
  | bytes t => exact .bytes t
  | empty t => exact .empty t
  | list h hv => exact .list (hs _ h) hv
  | dict h ho hz => exact .dict (hs _ h) ho hz
  | tup h hv => exact .tup (hs _ h) hv
theorem txt_get {k : Nat} {x : Str} (h : thingTxt[k]? = some x) : k < 8 ∧ x = txtK k := by
  have h1 : k < thingTxt.length := (List.getElem?_eq_some_iff.mp h).1
  refine ⟨h1, ?_⟩
  unfold txtK
  rw [List.getD_eq_getElem?_getD, h]; rfl
theorem ThingIn.text_of {v : Value} {k : Nat} (h : ThingIn prog w new v k) (hk : k < 8) : ∃ t, v = .str (txtK k) t := by
  cases h with
  | text t h => exact ⟨t, by rw [(txt_get h).2]⟩
  | _ => exact absurd hk (by decide)
theorem CellIn.mono {v : Value} {k : Nat} {nw : List (Addr × Obj)} (hs : ∀ q ∈ new, q ∈ nw) (h : CellIn prog w new v k) : CellIn prog w nw v k := by
  obtain ⟨t, a, b, c, n, e, h1, h2, h3, h4⟩ := h
  exact ⟨t, a, b, c, n, e, hs _ h1, h2.mono hs, h3.mono hs, h4.mono hs⟩
/-- item by item -/
def Alike (R : Value → Nat → Prop) (vs : List Value) (ks : List Nat) : Prop := vs.length = ks.length ∧ ∀ (i : Nat) (v : Value), vs[i]? = some v → ∃ k : Nat, ks[i]? = some k ∧ R v k
theorem Alike.drop {R : Value → Nat → Prop} {vs : List Value} {ks : List Nat} (h : Alike R vs ks) (n : Nat) : Alike R (vs.drop n) (ks.drop n) := by
  refine ⟨by rw [List.length_drop, List.length_drop, h.1], fun i v hv => ?_⟩
  rw [List.getElem?_drop] at hv ⊢
  exact h.2 _ _ hv
theorem Alike.mono {R R' : Value → Nat → Prop} {vs : List Value} {ks : List Nat} (h : Alike R vs ks) (f : ∀ v k, R v k → R' v k) : Alike R' vs ks :=
  ⟨h.1, fun i v hv => let ⟨k, h1, h2⟩ := h.2 i v hv; ⟨k, h1, f v k h2⟩⟩
theorem Alike.nil {R : Value → Nat → Prop} : Alike R [] [] := ⟨rfl, fun i v h => by simp at h⟩
theorem Alike.cons {R : Value → Nat → Prop} {v : Value} {k : Nat} {vs : List Value} {ks : List Nat} (h : R v k) (r : Alike R vs ks) : Alike R (v :: vs) (k :: ks) := by
  refine ⟨congrArg (· + 1) r.1, fun i x hx => ?_⟩
  cases i with
  | zero =>
    have e : v = x := by simpa using hx
    exact ⟨k, rfl, e ▸ h⟩
  | succ j => exact r.2 j x (by simpa using hx)
theorem Alike.snoc {R : Value → Nat → Prop} {v : Value} {k : Nat} {vs : List Value} {ks : List Nat} (h : Alike R vs ks) (r : R v k) : Alike R (vs ++ [v]) (ks ++ [k]) := by
  refine ⟨by rw [List.length_append, List.length_append, h.1]; rfl, fun i x hx => ?_⟩
  by_cases hi : i < vs.length
  · rw [List.getElem?_append_left hi] at hx
    rw [List.getElem?_append_left (h.1 ▸ hi)]
    exact h.2 i x hx
  · rw [List.getElem?_append_right (Nat.not_lt.mp hi)] at hx
    have hi2 : ks.length ≤ i := h.1 ▸ Nat.not_lt.mp hi
    rw [List.getElem?_append_right hi2]
    have h0 : i - vs.length = 0 := by
      have := (List.getElem?_eq_some_iff.mp hx).1
      simpa using this
    rw [h0] at hx
    have e : v = x := by simpa using hx
    exact ⟨k, by rw [← h.1, h0]; rfl, e ▸ r⟩
theorem CellsAre.alike {vs : List Value} {ks : List Nat} (h : CellsAre prog w new vs ks) : Alike (CellIn prog w new) vs ks := by
  induction h with
  | nil => exact .nil
  | cons h _ ih => exact .cons h ih
/-- what is no text is refused -/
theorem ThingIn.bad {v : Value} {k : Nat} {keep : List (Addr × Obj)} {B : Value → String → Prop} (h : ThingIn prog w new v k) (hk : 8 ≤ k)
    (bn : B .none "AttributeError") (bi : ∀ i t, B (.int i t) "AttributeError") (bb : ∀ b, B (.bool b) "AttributeError") (by' : ∀ b t, B (.bytes b t) "TypeError")
    (bl : ∀ (a : Addr) (vs : List Value) (n : Nat), (a, listOf vs.toArray n) ∈ new → B (.ref a) "AttributeError") (bt : ∀ (a : Addr) (vs : List Value) (n : Nat), (a, ({ cls := .type "tuple", data := .seq vs.toArray n } : Obj)) ∈ new → B (.ref a) "AttributeError")
    (bd : ∀ (a : Addr) (es : Array DictEntry) (n : Nat), (a, ({ cls := .type "dict", data := .dict es n } : Obj)) ∈ new → B (.ref a) "AttributeError") :
    B v (if k = 11 ∨ k = 12 then "TypeError" else "AttributeError") := by
  cases h with
  | text t h => exact absurd (txt_get h).1 (Nat.not_lt.mpr hk)
  | none => exact bn
  | int t => exact bi _ _
  | bool => exact bb _
  | bytes t => exact by' _ _
  | empty t => exact by' _ _
  | list h hv => exact bl _ _ _ h
  | dict h ho hz =>
    rename_i a o
    obtain ⟨es, ep, ⟨h1, h2, h3⟩, h4, _⟩ := ho
    obtain ⟨c, dd, dt, sl⟩ := o
    change c = _ at h1
    change dd = _ at h2
    change sl = _ at h3
    change dt = _ at h4
    subst h1 h2 h3 h4
    exact bd _ _ _ h
  | tup h hv => exact bt _ _ _ h
end
section
variable {prog : Program} {w : World} {A : Around} {E : Value → Shared → Prop} {s : Shared} {h₀ : Heap} {L : Addr} {m : Str → Option Value} {news : List (Addr × Obj)}
/-- the same data on both sides: != answers no -/
theorem ne_dat {n₁ n₂ : List (Addr × Obj)} {a b : Value} {d : Dat} {Q : Value → Shared → Prop} (N : News h₀ L s.heap news) (ha : DatIn n₁ a d) (sa : ∀ q ∈ n₁, q ∈ news) (hb : DatIn n₂ b d) (sb : ∀ q ∈ n₂, q ∈ news)
    (hd : Cmp d) (hu : A.units + 64 < cLine) (h : Q (.bool false) s) : wpAny (model prog w) A (compareOp .NotEq a b) Q E s := by
  rcases hd with ⟨ds, rfl, hk⟩ | ⟨x, rfl⟩
  · cases ha with
    | list ma Da =>
    cases hb with
    | list mb Db =>
    have hk2 : ∀ e ∈ ds, kqdOk 8 e = true := fun e he => List.all_eq_true.mp hk e he
    refine kqd_ne N (sa _ ma) rfl rfl Da sa (sb _ mb) rfl rfl Db sb hk2 hk2 hu ?_
    simpa using h
  · cases ha
    cases hb
    refine ne_str ?_
    simpa using h
/-- two lists of the very same values: != answers no -/
theorem ne_same {a b : Addr} {vs : List Value} {k1 k2 : Nat} {Q : Value → Shared → Prop} (N : News h₀ L s.heap news) (ma : (a, listOf vs.toArray k1) ∈ news) (mb : (b, listOf vs.toArray k2) ∈ news) (hu : A.units < cLine) (h : Q (.bool false) s) :
    wpAny (model prog w) A (compareOp .NotEq (.ref a) (.ref b)) Q E s := by
  have ha : s.heap.IsList a vs.toArray := ⟨_, (N _ ma).1, rfl, k1, rfl⟩
  have hb : s.heap.IsList b vs.toArray := ⟨_, (N _ mb).1, rfl, k2, rfl⟩
  have q : SeqAt.RcNeAt A s (.ref a) (.ref b) (!(List.range vs.toArray.size).all fun _ => true) := SeqAt.RcNeAt.lists ha hb rfl hu fun j h1 h2 => SeqAt.EqAt.same _
  have e : (!(List.range vs.toArray.size).all fun _ => true) = false := by simp
  rw [e] at q
  exact q prog w E Q h
def TurnVal (h₀ : Heap) (L : Addr) (m : Str → Option Value) (s : Shared) (all : List (Addr × Obj)) (R : Value → Prop) (y : Value) (s₂ : Shared) : Prop :=
  ∃ h' tk', s₂ = { s with heap := h', toks := tk' } ∧ Fr h₀ L h' m ∧ News h₀ L h' all ∧ R y
variable {env : Env}
theorem lc_vals {elt : PySem.Expr} {x : Str} {scope : Scope} {cl : List (Str × Addr)} {S : List (Addr × Obj) → Prop} {P : Nat → Value → Prop} {Fin : List Value → List (Addr × Obj) → Prop} {n : Nat} {news : List (Addr × Obj)} (R : Nat → Value → Prop) (hS : S news)
    (turn : ∀ i v I oI C oC D m₂ h tk (E' : Value → Shared → Prop) ys, i < n → P i v → LCg.NsObj oC m₂ → m₂ x = some v → Fr h₀ L h m → News h₀ L h ((I, oI) :: (C, oC) :: (D, LCg.lst ys) :: news) → LCg.Off3 I C D news → ((@Ne Nat I C) ∧ (@Ne Nat I D) ∧ (@Ne Nat C D)) →
      wpAny (model prog w) A (eval elt (compEnvC scope cl C env)) (TurnVal h₀ L m s ((I, oI) :: (C, oC) :: (D, LCg.lst ys) :: news) (R i)) E' { s with heap := h, toks := tk })
    (fin : ∀ ys, ys.length = n → (∀ i y, ys[i]? = some y → R i y) → Fin ys news) :
    ∀ k i ys, i + k = n → ys.length = i → (∀ j y, ys[j]? = some y → R j y) → LCg.CompRest prog w A h₀ L m env elt x scope cl s S P Fin k i ys news := by
  intro k
  induction k with
  | zero => intro i ys e hl hs; rw [Nat.add_zero] at e; subst e; exact LCg.CompRest.zero (fin ys hl hs)
  | succ j ih =>
    intro i ys e hl hs
    refine LCg.CompRest.succ fun v I oI C oC D m₂ h tk E' hP hC hx F N off ne => ?_
    refine wpAny_mono (turn i v I oI C oC D m₂ h tk E' ys (by omega) hP hC hx F N off ne) (fun y s₂ h2 => ?_) fun _ _ e => e
    obtain ⟨h', tk', rfl, F', N', hR⟩ := h2
    refine LCg.CompEnd.intro F' N' news (fun _ h => h) off hS (ih (i + 1) _ (by omega) (by rw [List.length_append, hl]; rfl) ?_)
    intro q z hz
    by_cases hq : q < ys.length
    · rw [List.getElem?_append_left hq] at hz
      exact hs q z hz
    · have hq2 := Nat.not_lt.mp hq
      rw [List.getElem?_append_right hq2] at hz
      have h0 : q - ys.length = 0 := by
        have := (List.getElem?_eq_some_iff.mp hz).1
        simpa using this
      rw [h0] at hz
      have e2 : y = z := by simpa using hz
      have e3 : q = i := by omega
      rw [← e2, e3]; exact hR
end
section
variable {h₀ : Heap} {L : Addr}
/-- a loop that only adds to the ledger -/
def Jadd (base : List (Addr × Obj)) (R : Nat → List (Addr × Obj) → (Str → Option Value) → Prop) (i : Nat) (m : Str → Option Value) (nx : List (Addr × Obj)) : Prop :=
  ∃ tn, nx = tn ++ base ∧ Over tn base ∧ R i tn m
theorem add_end {base own tn add news' : List (Addr × Obj)} {R : Nat → List (Addr × Obj) → (Str → Option Value) → Prop} {p : Addr × Obj} {i tk : Nat} {m' : Str → Option Value} {h' : Heap} {s₁ : Shared}
    (F : Fr h₀ L h' m') (N : News h₀ L h' news') (hs : ∀ q ∈ add ++ (tn ++ (base ++ own)), q ∈ news') (hoff : OwnOff own ((tn ++ base).map (·.1))) (hp : p ∈ base) (ho : Over add (tn ++ (base ++ own))) (h2 : Over tn base) (hR : R (i + 1) (add ++ tn) m') :
    InvEndG h₀ L (fun m' nx => p ∈ nx ∧ Jadd base R (i + 1) m' nx) own s₁ { s₁ with heap := h', toks := tk } := by
  refine ⟨h', tk, m', _, (add ++ tn) ++ base, rfl, F, N, ?_, ?_, ?_, List.mem_append.mpr (.inr hp), add ++ tn, rfl, ?_, hR⟩
  · intro q hq
    refine hs q ?_
    rcases List.mem_append.mp hq with hq | hq
    · rcases List.mem_append.mp hq with hq | hq
      · exact List.mem_append.mpr (.inl hq)
      · exact List.mem_append.mpr (.inr (List.mem_append.mpr (.inl hq)))
    · exact List.mem_append.mpr (.inr (List.mem_append.mpr (.inr (List.mem_append.mpr (.inl hq)))))
  · exact fun q hq => hs q (List.mem_append.mpr (.inr (List.mem_append.mpr (.inr (List.mem_append.mpr (.inr hq))))))
  · intro q hq a ha
    obtain ⟨z, hz, e⟩ := List.mem_map.mp ha
    subst e
    rcases List.mem_append.mp hz with hz | hz
    · rcases List.mem_append.mp hz with hz | hz
      · exact Nat.ne_of_lt (ho z hz q (List.mem_append.mpr (.inr (List.mem_append.mpr (.inr hq)))))
      · exact hoff q hq _ (List.mem_map.mpr ⟨z, List.mem_append.mpr (.inl hz), rfl⟩)
    · exact hoff q hq _ (List.mem_map.mpr ⟨z, List.mem_append.mpr (.inr hz), rfl⟩)
  · exact (ho.mono fun z hz => List.mem_append.mpr (.inr (List.mem_append.mpr (.inl hz)))).append h2
end
section
variable {prog : Program} {w : World} {A : Around} {E : Value → Shared → Prop} {s : Shared} {h₀ : Heap} {L : Addr} {m : Str → Option Value} {news : List (Addr × Obj)}
theorem isi_lst {a : Addr} {vs : List Value} {n : Nat} {Q : Value → Shared → Prop} (N : News h₀ L s.heap news) (hm : (a, listOf vs.toArray n) ∈ news) (h : Q (.bool true) s) :
    wpAny (model prog w) A (call (.builtin "isinstance") [.ref a, .type "list"]) Q E s := IsiPair.list_list (N _ hm).1 rfl h
theorem cat_L {a b : Addr} {vs ws : List Value} {n k : Nat} {Q : Value → Shared → Prop} (F : Fr h₀ L s.heap m) (N : News h₀ L s.heap news) (ha : (a, listOf vs.toArray n) ∈ news) (hb : (b, listOf ws.toArray k) ∈ news)
    (h : ∀ D h', Fr h₀ L h' m → News h₀ L h' ((D, listOf (vs ++ ws).toArray 0) :: news) → (∀ q ∈ news, @LT.lt Nat _ q.1 D) → Q (.ref D) { s with heap := h' }) (hz : vs.length + ws.length ≤ sizeLine) :
    wpAny (model prog w) A (binaryOp .Add (.ref a) (.ref b)) Q E s :=
  add_lists F N ⟨_, (N _ ha).1, rfl, n, rfl⟩ ⟨_, (N _ hb).1, rfl, k, rfl⟩ (fun h' F' N' => h _ h' F' N' fun q hq => Heap.lt_size (N q hq).1) hz
theorem slc_L {value slice : PySem.Expr} {l : Addr} {vs : List Value} {n : Nat} {x : Int} {u : Tok} {Q : Value → Shared → Prop} (F : Fr h₀ L s.heap m) (N : News h₀ L s.heap news) (hl : (l, listOf vs.toArray n) ∈ news) (h0 : 0 ≤ x)
    (h : ∀ D h', Fr h₀ L h' m → News h₀ L h' ((D, listOf (vs.drop x.toNat).toArray 0) :: news) → (∀ q ∈ news, @LT.lt Nat _ q.1 D) → Q (.ref D) { s with heap := h' })
    (hs : subscripted slice false (.ref l) (.ref s.heap.objs.size) = operate [.ref s.heap.objs.size, .ref l] (getItem (.ref l) (.ref s.heap.objs.size))) (ht : ∀ r, letTemporaryGo value (.ref l) r = pure ()) (hz : vs.length ≤ sizeLine) :
    wpAny (model prog w) A (subscriptTail value slice (.ref l) (.ref s.heap.objs.size)) Q E { s with heap := s.heap.push { cls := .type "slice", data := .fields #[.int x u, .none, .none] } } := by
  refine kms_slice_lit F N ⟨_, (N _ hl).1, rfl, n, rfl⟩ (lo := some x) (hi := none) (.int x u) .none ?_ h hs ht (by simpa using hz)
  unfold kms_pick kms_lo kms_hi
  have e : ¬ x < 0 := by omega
  simp only [if_neg e]
  show (vs.drop (min x.toNat vs.length)).take (vs.length - min x.toNat vs.length) = vs.drop x.toNat
  rw [kmk_drop_min, List.take_of_length_le (by rw [List.length_drop]; omega)]
end
section
variable {prog : Program} {w : World} {A : Around} {E : Value → Shared → Prop} {s : Shared} {h₀ : Heap} {L : Addr} {m : Str → Option Value} {news : List (Addr × Obj)}
theorem ThingIn.lt {new : List (Addr × Obj)} {v : Value} {k : Nat} (h : ThingIn prog w new v k) : k < 16 := by
  cases h with
  | text t h => exact Nat.lt_of_lt_of_le (txt_get h).1 (by decide)
  | _ => decide
theorem alike_of {R : Value → Nat → Prop} : ∀ (vs : List Value), (∀ (i : Nat) (v : Value), vs[i]? = some v → ∃ k, R v k) → ∃ ks, Alike R vs ks
  | [], _ => ⟨[], .nil⟩
  | v :: r, h => by
    obtain ⟨k, hk⟩ := h 0 v rfl
    obtain ⟨ks, hr⟩ := alike_of r fun i x hx => h (i + 1) x (by simpa using hx)
    exact ⟨k :: ks, .cons hk hr⟩
theorem cell_first {c : Addr} {o : Obj} {new : List (Addr × Obj)} {h : Heap} (N : News h₀ L h (new ++ [(c, o)])) : News h₀ L h ((c, o) :: new) := news_re N fun q hq => by
  rcases List.mem_cons.mp hq with e | hq
  · rw [e]; exact List.mem_append.mpr (.inr (List.mem_singleton.mpr rfl))
  · exact List.mem_append.mpr (.inl hq)
theorem keep_cells {a b c d e : Addr × Obj} {new : List (Addr × Obj)} {h : Heap} (N : News h₀ L h (a :: b :: c :: d :: e :: new)) : News h₀ L h (a :: new) := news_re N fun q hq => by
  rcases List.mem_cons.mp hq with e | hq
  · rw [e]; exact List.mem_cons_self ..
  · exact List.mem_cons_of_mem _ (List.mem_cons_of_mem _ (List.mem_cons_of_mem _ (List.mem_cons_of_mem _ (List.mem_cons_of_mem _ hq))))
theorem cell_apart {c : Addr} {o : Obj} {new : List (Addr × Obj)} (ho : Over new [(c, o)]) : ∀ q ∈ new, q.1 ≠ c := fun q hq => Nat.ne_of_gt (ho q hq _ (List.mem_singleton.mpr rfl))
theorem int_of : ∀ {vs : List Value} {zs : List Int}, IntsAre vs zs → ∀ (i : Nat) (v : Value), vs[i]? = some v → ∃ x t, v = Value.int x t := by
  intro vs zs h
  induction h with
  | nil => intro i v hv; simp at hv
  | cons n t _ ih =>
    intro i v hv
    cases i with
    | zero => exact ⟨n, t, by simpa using hv.symm⟩
    | succ j => exact ih j v (by simpa using hv)
theorem len_L {l : Addr} {vs : List Value} {n : Nat} {Q : Value → Shared → Prop} (N : News h₀ L s.heap news) (hm : (l, listOf vs.toArray n) ∈ news) (hz : vs.length ≤ 1000)
    (h : ∀ t tk, Q (.int (vs.length : Int) t) { s with toks := tk }) : wpAny (model prog w) A (call (.builtin "len") [.ref l]) Q E s := by
  refine PyProof.Rows.len_list ⟨_, (N _ hm).1, rfl, n, rfl⟩ ?_ ?_
  · rw [List.size_toArray]; omega
  · have q := h (s.toks + 1) (s.toks + 1 + 1)
    simpa using q
/-- things[k] for a small k -/
theorem thing_at {value slice : PySem.Expr} {nw new : List (Addr × Obj)} {l : Addr} {vs : List Value} {n : Nat} {k : Int} {u : Tok} {Q : Value → Shared → Prop} (N : News h₀ L s.heap nw) (hm : (l, listOf vs.toArray n) ∈ nw) (hC : CellsAre prog w new vs [0, 1, 2, 3, 4, 5, 6, 7, 8, 9, 10, 11, 12, 13, 14, 15])
    (h0 : 0 ≤ k) (h1 : k < 16) (h : ∀ v, CellIn prog w new v k.toNat → Q v s)
    (hs : subscripted slice false (.ref l) (.int k u) = operate [.ref l, .int k u] (getItem (.ref l) (.int k u)) := by with_unfolding_all rfl) :
    wpAny (model prog w) A (subscriptTail value slice (.ref l) (.int k u)) Q E s := by
  have hl : s.heap.IsList l vs.toArray := ⟨_, (N _ hm).1, rfl, n, rfl⟩
  have hA := hC.alike
  have hk : k.toNat < vs.length := by
    rw [hA.1]
    show k.toNat < 16
    omega
  obtain ⟨j, hj, hR⟩ := hA.2 k.toNat _ (List.getElem?_eq_getElem hk)
  have e : j = k.toNat := by
    have q : ∀ i < 16, ([0, 1, 2, 3, 4, 5, 6, 7, 8, 9, 10, 11, 12, 13, 14, 15] : List Nat)[i]? = some i := by decide
    rw [q k.toNat (by omega)] at hj
    exact (Option.some.inj hj).symm
  rw [e] at hR
  refine tail_any hl.typeIs slot_list_getitem.lookup (wpAny_getItem_list (x := vs[k.toNat]) hl h0 (by omega) ?_ (h _ hR)) hs
  rw [List.getElem?_toArray]
  exact List.getElem?_eq_getElem hk
end
end Mine
namespace Mine
section
variable {prog : Program} {w : World} {A : Around} {E : Value → Shared → Prop} {s : Shared} {env : Env} {h₀ : Heap} {x : Str} {body : List Stmt} {Q : Flow → Shared → Prop}
/-- the library's two ways to say what a turn leaves -/
theorem post_tb {h₀ : Heap} {L : Addr} {J : (Str → Option Value) → List (Addr × Obj) → Prop} {own : List (Addr × Obj)} {s₁ s₂ : Shared} {Q : Flow → Shared → Prop} {f : Flow} (h : InvPostG h₀ L J own s₁ Q f s₂) : TbPost h₀ L J own s₁ Q f s₂ := by
  have go : InvEndG h₀ L J own s₁ s₂ → TbEnd h₀ L J own s₁ s₂ := by
    rintro ⟨h', tk, m', news', nx, e, F', N', hn, ho, ha, hm⟩
    exact ⟨h', tk, m', news', nx, e, F', N', hn, ho, fun q hq z hz => ha q hq _ (List.mem_map.mpr ⟨z, hz, rfl⟩), hm⟩
  cases f with
  | ret v => exact h
  | brk => exact h
  | next => exact go h
  | cont => exact go h
/-- for x in range(a, b), with an invariant over the ledger -/
theorem rg_iter {r : Addr} {a₀ b₀ : Int} {t₀ u₀ v₀ : Tok} {n : Nat} {m₀ : Str → Option Value} {news : List (Addr × Obj)} (J : Nat → (Str → Option Value) → List (Addr × Obj) → Prop)
    (hh : A.handled = none) (hr : IsRange s.heap r a₀ b₀ 1 t₀ u₀ v₀) (hsmall : Builtin.Range.small a₀ b₀ 1 = true) (hsz : Builtin.Range.rangeSize a₀ b₀ 1 = (n : Int)) (F : Fr h₀ env.locals s.heap m₀) (N : News h₀ env.locals s.heap news) (hj : J 0 m₀ news)
    (turn : ∀ i m₁ news₁ h tk t own, i < n → OwnOff own (news₁.map (·.1)) → J i m₁ news₁ → Fr h₀ env.locals h (fun y => if y = x then some (.int (a₀ + (i : Int)) t) else m₁ y) → News h₀ env.locals h (news₁ ++ own) →
      wpAny (model prog w) A (execs body env) (InvPostG h₀ env.locals (fun m' nx => J (i + 1) m' nx) own { s with heap := h, toks := tk } Q) E { s with heap := h, toks := tk })
    (done : ∀ m₁ news₁ h tk, J n m₁ news₁ → Fr h₀ env.locals h m₁ → News h₀ env.locals h news₁ → Q .next { s with heap := h, toks := tk }) :
    wpAny (model prog w) A (pyIter (.ref r)) (fun it s₂ => LoopAtV prog w A h₀ env x body Q E it s₂) E s := by
  refine tbr_invG J hh hr hsmall hsz F N hj (fun i k t m₁ nx h tk own hk hoff hJ F₁ N₁ => ?_) done
  have hi : i < n := by
    have q := (List.getElem?_eq_some_iff.mp hk).1
    rwa [rangeKs_length] at q
  have e : k = a₀ + (i : Int) := by
    simp [rangeKs, hi] at hk
    exact hk.symm
  subst e
  exact wpAny_mono (turn i m₁ nx h tk t own hi (fun q hq b hb => by obtain ⟨z, hz, e⟩ := List.mem_map.mp hb; exact e ▸ hoff q hq z hz) hJ F₁ N₁) (fun f s₂ h2 => post_tb h2) fun _ _ e => e
end
end Mine
namespace Mine
section
variable {prog : Program} {w : World} {A₀ A : Around} {s : Shared} {base h₀ : Heap} {L a : Addr} {m : Str → Option Value} {cn : Str} {cs : Scope} {ccd : Value} {cl : List (Str × Addr)} {news : List (Addr × Obj)} {K : Frag} {p : Program} {loose : List Str} {mean : ExcName → Option Value} {mg mb : Str → Option Value}
  {R : Result → Shared → Prop} {name qual : Str} {params : Arguments} {body : List Stmt} {scope : Scope} {dV kV doc pm cdv ct oc : Value} {an od : Option Addr} {osl : Array (Option Value)} {f : Addr} {args : Args} {binds : List (Str × Value)}
/-- what a frame that caught an exception gives back, said of the caller's own ground -/
theorem back_S0 {g : Heap} {env : Env} {fs : List Addr} (hfs : ∀ b, b ∈ fs → b = L) (F : Fr h₀ L s.heap m) (FG : Fr h₀ L g m) (st : h₀.StaysIn g) {v : Value} {s' : Shared} (hl : LeaveS0 fs h₀ L m g R v s') : R (.ok (.ret v)) s' := by
  obtain ⟨g', L', m', news', T', F', N', k⟩ := hl
  obtain ⟨oL, es, ep, hLg, hLd, hLk, hLf⟩ := FG.ns
  obtain ⟨sl, hs⟩ := T'.up hLg
  have old : ∀ b o, h₀.get? b = some o → g'.get? b = some o := fun b o e => T'.other b o (st b o e) fun hb => by
    have z := kts_self F
    rw [hfs b hb, z] at e
    cases e
  refine k ⟨⟨_, es, ep, F'.keep _ _ hs, hLd, hLk, hLf⟩, fun b o e => F'.keep b o (old b o e), F.above⟩ fun q hq => ⟨(N' q hq).1, fun e => ?_, ?_⟩
  · have z := (N' q hq).2.2
    rw [e, hs] at z
    cases z
  · cases e : h₀.get? q.1 with
    | none => rfl
    | some o =>
      have z := (N' q hq).2.2
      rw [old _ _ e] at z
      cases z
/-- a def that may catch, called from a frame with cells -/
theorem enter_try (B : Below A₀ base [] h₀) (F : Fr h₀ L s.heap m) (X₀ : K.In h₀) (N : News h₀ L s.heap news) (T : Top p loose mean mg mb h₀) (hA : A.frames = some [envX cn cs L a ccd cl])
    (ho : K.lookup f = some ⟨oc, od, .func (fnOf name qual params body scope dV kV doc pm an cdv ct), osl⟩) (hcd : codeIn K cdv qual = true) (hroom : A.depth < recursionLimit)
    (hbind : BindsTo s (fnOf name qual params body scope dV kV doc pm an cdv ct) args binds) (hloc : ∀ y ∈ binds, scope.names.lookup y.1 = some .local)
    (h : ∀ g L' h₁, Fr h₀ L g m → Fr g L' h₁ (fun y => binds.reverse.lookup y) → News g L' h₁ news → Below A base [envX cn cs L a ccd cl] g → K.In g → Top p loose mean mg mb g → KtsDicts ([envX cn cs L a ccd cl].filterMap (·.frame)) g →
      wpAny (model prog w) (A.deeper (envOf qual scope L' f cdv)) (execs body (envOf qual scope L' f cdv))
        (fun fl s' => LeaveS0 ([envX cn cs L a ccd cl].filterMap (·.frame)) h₀ L m g R (match fl with | .ret v => v | _ => .none) s')
        (fun e s' => wpAny (model prog w) (A.deeper (envOf qual scope L' f cdv)) (leaving (envOf qual scope L' f cdv) e) (fun _ s'' => R (.error e) s'') (fun e' s'' => R (.error e') s'') s')
        { s with heap := h₁, toks := s.toks + binds.length })
    (hck : cs.kind = .function) (hco : scope.isCoroutine = false) (hgen : scope.isGenerator = false) (hk : scope.kind = .function)
    (hcell : ∀ x ∈ scope.names, x.2 ≠ .cell) : codeAny (model prog w) A (.call (.ref f) args) R s := by
  obtain ⟨FG, BG, st, _⟩ := groundX (R := R) B F N hA rfl hck
  have one : ∀ b, b ∈ [envX cn cs L a ccd cl].filterMap (·.frame) → b = L := fun b hb => by simpa using hb
  refine codeAny_call_def (fd := fnOf name qual params body scope dV kV doc pm an cdv ct) (body := body) (binds := binds) hroom ((X₀.keeps F.keep) _ _ ho) rfl (T.nolimit.keeps F.keep) (codeRec_of (X₀.keeps F.keep) hcd) rfl hbind hcell hloc (fun h₁ hns hk₁ => ?_) hco hgen hk
  refine wpAny_mono (h _ s.heap.objs.size h₁ FG ⟨hns, fun b o e => hk₁ b o (of_hideAll _ e), Nat.le_of_eq (hideAll_size _ _)⟩ (fun q hq => ⟨hk₁ _ _ (N q hq).1, Nat.ne_of_lt (Heap.lt_size (N q hq).1), hideAll_none _ (List.mem_map_of_mem hq)⟩) BG (X₀.keeps st) (T.keeps st) ?_) (fun fl s' hl => back_S0 (env := envX cn cs L a ccd cl) one F FG st hl) fun _ _ y => y
  intro b hb
  obtain ⟨oL, es, ep, hLg, hLd, _⟩ := FG.ns
  rw [one b hb]
  exact ⟨oL, es, ep, hLg, hLd⟩
end
end Mine
namespace Mine
section
variable {prog : Program} {w : World} {A : Around} {E : Value → Shared → Prop} {s : Shared} {h₀ : Heap} {L : Addr} {m : Str → Option Value} {news : List (Addr × Obj)}
theorem tup_L {l : Addr} {vs : List Value} {n : Nat} {Q : Value → Shared → Prop} (F : Fr h₀ L s.heap m) (N : News h₀ L s.heap news) (hl : (l, listOf vs.toArray n) ∈ news) (hz : vs.length ≤ 16384)
    (h : ∀ D h', Fr h₀ L h' m → News h₀ L h' ((D, ({ cls := .type "tuple", data := .seq vs.toArray } : Obj)) :: news) → (∀ q ∈ news, @LT.lt Nat _ q.1 D) → Q (.ref D) { s with heap := h' }) : wpAny (model prog w) A (call (.type "tuple") [.ref l]) Q E s :=
  kde_tupleOf F N ⟨_, (N _ hl).1, rfl, n, rfl⟩ (by rw [List.size_toArray]; exact hz) (zs := vs) rfl h
theorem ldx_hyp {M : Model} {cn : Str} {cs : Scope} {a : Addr} {ccd : Value} {cl : List (Str × Addr)} {m₂ : Str → Option Value} {x : Str} {pos : Pos} {v : Value} {Q : Value → Shared → Prop} (F : Fr h₀ L s.heap m) (hv : m₂ x = some v) (he : m x = m₂ x) (h : Q v s)
    (hk : cs.kind = .function) (hl : (envX cn cs L a ccd cl).kindOf x = some .local) (hd : (x == ("__debug__" : Str)) = false) :
    wpAny M A (eval (.Name x pos) (envX cn cs L a ccd cl)) Q E s := nameX_L F (he.trans hv) h hk hl hd
theorem name_head {h : Heap} {a : Addr} {o : Obj} {new : List (Addr × Obj)} (N : News h₀ L h ((a, o) :: new)) : ∃ z, z = a := ⟨a, rfl⟩
/-- the ledger, from here on only its parts told -/
theorem stage0 {h : Heap} {X : List (Addr × Obj)} (N : News h₀ L h X) : ∃ Y, News h₀ L h Y ∧ ∀ q ∈ X, q ∈ Y := ⟨X, N, fun _ h => h⟩
theorem stage1 {h : Heap} {X new : List (Addr × Obj)} (N : News h₀ L h (new ++ X)) : ∃ Y, News h₀ L h Y ∧ (∀ q ∈ new, q ∈ Y) ∧ (∀ q ∈ X, q ∈ Y) ∧ ∀ q ∈ new ++ X, q ∈ Y := ⟨_, N, fun _ h => List.mem_append.mpr (.inl h), fun _ h => List.mem_append.mpr (.inr h), fun _ h => h⟩
theorem same_end {base own news' : List (Addr × Obj)} {J : (Str → Option Value) → List (Addr × Obj) → Prop} {tk : Nat} {m' : Str → Option Value} {h' : Heap} {s₁ : Shared}
    (F : Fr h₀ L h' m') (N : News h₀ L h' news') (hs : ∀ q ∈ base ++ own, q ∈ news') (hoff : OwnOff own (base.map (·.1))) (hj : J m' base) : InvEndG h₀ L J own s₁ { s₁ with heap := h', toks := tk } :=
  ⟨h', tk, m', _, base, rfl, F, N, fun q hq => hs q (List.mem_append.mpr (.inl hq)), fun q hq => hs q (List.mem_append.mpr (.inr hq)), hoff, hj⟩
theorem aloneK_cases : ∀ k, k < 16 → (aloneK k = .none ∧ k < 8 ∧ aloneD k = .list (signsL (txtK k))) ∨ (aloneK k = aloneD k ∧ ((∃ ds, aloneK k = .list ds) ∨ ∃ x, aloneK k = .str x))
  | 0, _ => .inr ⟨rfl, .inl ⟨_, rfl⟩⟩
  | 1, _ => .inr ⟨rfl, .inl ⟨_, rfl⟩⟩
  | 2, _ => .inr ⟨rfl, .inl ⟨_, rfl⟩⟩
  | 3, _ => .inl ⟨rfl, by decide, rfl⟩
  | 4, _ => .inl ⟨rfl, by decide, rfl⟩
  | 5, _ => .inl ⟨rfl, by decide, rfl⟩
  | 6, _ => .inr ⟨rfl, .inl ⟨_, rfl⟩⟩
  | 7, _ => .inr ⟨rfl, .inl ⟨_, rfl⟩⟩
  | 8, _ => .inr ⟨rfl, .inr ⟨_, rfl⟩⟩
  | 9, _ => .inr ⟨rfl, .inr ⟨_, rfl⟩⟩
  | 10, _ => .inr ⟨rfl, .inr ⟨_, rfl⟩⟩
  | 11, _ => .inr ⟨rfl, .inr ⟨_, rfl⟩⟩
  | 12, _ => .inr ⟨rfl, .inl ⟨_, rfl⟩⟩
  | 13, _ => .inr ⟨rfl, .inl ⟨_, rfl⟩⟩
  | 14, _ => .inr ⟨rfl, .inl ⟨_, rfl⟩⟩
  | 15, _ => .inr ⟨rfl, .inl ⟨_, rfl⟩⟩
  | n + 16, h => absurd h (by omega)
end
end Mine
namespace Mine
theorem fill : PySem.Challenge.rw_in0099_02 = PySem.Challenge.rw_in0099_02 ∧ Mine.k0.heap_1 = Mine.k0.heap_1 := by
  k_fill
  exact ⟨rfl, rfl⟩
abbrev pg : Program := PySem.Challenge.rw_in0099_02.row.prog
end Mine
namespace Mine
local macro_rules | `(tactic| k_room) => `(tactic| ((try simp only [depth_under_make, depth_under_kw, depth_in1, depth_deeper, depth_caller, recursionLimit]); omega))
local macro_rules | `(tactic| walk_at "my.mem") => `(tactic| first | with_reducible assumption | exact List.mem_cons_self .. | ((with_reducible refine List.mem_cons_of_mem _ ?_); walk_at "my.mem"))
local macro_rules | `(tactic| k_mem) => `(tactic| walk_at "my.mem")
local macro_rules | `(tactic| k_all) => `(tactic| with_reducible assumption)
local macro_rules | `(tactic| walk_at "my.enter") => `(tactic|
  (refine' code_def ?k1 ?k2 ?k3 ?k4 ?k5 ?kA ?kF ?kK ?k6 ?k7 ?k8 ?k9 ?kB ?_ ?c2 ?c3 ?c4 ?c5; (case kA => exact rfl); (case kF => assumption); (case kK => assumption); (case k1 => k_asm); (case k2 => k_asm); (case k3 => k_asm); (case k4 => k_asm); (case k5 => k_asm); (case k6 => k_is); (case k7 => k_is); (case k8 => k_room); (case k9 => first | exact BindsTo.of_eq rfl | exact binds_K (by k_in) rfl (by k_is) rfl rfl rfl | fail "k_enter: no rule for these arguments"); (case c5 => decide); (case kB => exact locs rfl); (case c2 => exact rfl); (case c3 => exact rfl); (case c4 => exact rfl); k_whole; intro g' L' h' FG' F' N' B' X' T'; (try dsimp only); (try k_lift B'); (try k_fold)))
local macro_rules | `(tactic| walk_at "call builtin:str.split") => `(tactic| (k_here; (refine' KSpl.split1 ?F ?N ?y ?_ ?z; (case F => k_asm); (case N => k_asm); (case y => decide); (case z => (rw [show sizeLine = 16777216 from rfl]; omega)); k_whole); intro D' l' h' k' e' a' F' N' l1))
local macro_rules | `(tactic| walk_at "call builtin:str.partition") => `(tactic| (k_here; (refine' part_K ?F ?N ?y ?z ?_; (case F => k_asm); (case N => k_asm); (case y => decide); (case z => (rw [show sizeLine = 16777216 from rfl]; omega)); k_whole); intro D' ta' tb' tc' h' k' a1' a2' F' N' l1; k_lt l1))
local macro_rules | `(tactic| walk_at "exec For Tuple Call cons nil") => `(tactic| (k_here; with_unfolding_all refine wpAny_For ?_ (by intro _; rfl)))
local macro_rules | `(tactic| walk_at "eval Name") => `(tactic| (k_here; k_dflt (refine' ld_hyp ?k1 ?k2 ?k3 ?_; (case k2 => with_reducible assumption); (case k1 => k_asm); (case k3 => exact rfl); k_whole)))
local macro_rules | `(tactic| walk_at "call builtin:list.append") => `(tactic| (k_here; (with_reducible show wpAny _ _ (call (Value.builtin _) [Value.ref _, _]) _ _ _); k_dflt (refine' append_K ?k1 ?k2 ?k3 ?_ ?z; (case k1 => k_asm); (case k2 => k_asm); (case k3 => k_upd); (case z => ((simp only [List.size_toArray, List.length_append, List.length_cons, List.length_nil]); (rw [show sizeLine = 16777216 from rfl]); omega)); k_whole); intro h' F' N'; (try k_sweep)))
local macro_rules | `(tactic| walk_at "ite") => `(tactic| ((with_reducible show ite ((!(List.isEmpty _)) = true) _ _); k_dflt (refine ite_pos rfl ?_)))
local macro_rules | `(tactic| walk_at "exec Break") => `(tactic| (exfalso; omega))
local macro_rules | `(tactic| walk_at "truthy ref") => `(tactic| (k_here; k_dflt (refine' truthy_L ?F ?m ?z ?_; (case F => k_asm); (case m => k_mem); (case z => omega); k_whole); intro tk'))
local macro_rules | `(tactic| walk_at "compareOp In str ref") => `(tactic| (k_here; k_dflt (refine' in_ka ?F ?m ?_; (case F => k_asm); (case m => k_mem); k_whole)))
inductive BadV (keep : List (Addr × Obj)) : Value → String → Prop
  | none : BadV keep .none "AttributeError"
  | int (k : Int) (t : Tok) : BadV keep (.int k t) "AttributeError"
  | bool (b : Bool) : BadV keep (.bool b) "AttributeError"
  | list {a : Addr} {vs : List Value} {n : Nat} (h : (a, listOf vs.toArray n) ∈ keep) : BadV keep (.ref a) "AttributeError"
  | tup {a : Addr} {vs : List Value} {n : Nat} (h : (a, ({ cls := .type "tuple", data := .seq vs.toArray n } : Obj)) ∈ keep) : BadV keep (.ref a) "AttributeError"
  | dict {a : Addr} {es : Array DictEntry} {n : Nat} (h : (a, ({ cls := .type "dict", data := .dict es n } : Obj)) ∈ keep) : BadV keep (.ref a) "AttributeError"
  | bytes (b : Array UInt8) (t : Tok) : BadV keep (.bytes b t) "TypeError"
theorem post_two {h₀ : Heap} {L : Addr} {J : (Str → Option Value) → List (Addr × Obj) → Prop} {p : Addr × Obj} {own : List (Addr × Obj)} {s₁ s₂ : Shared} {Q : Flow → Shared → Prop} {f : Flow} {i n : Nat} (hi : i < n)
    (h : InvPostG h₀ L (fun m nx => p ∈ nx ∧ J m nx) own s₁ Q f s₂) : InvPostG h₀ L (fun m nx => i + 1 ≤ n ∧ J m nx) own s₁ Q f s₂ := by
  have go : InvEndG h₀ L (fun m nx => p ∈ nx ∧ J m nx) own s₁ s₂ → InvEndG h₀ L (fun m nx => i + 1 ≤ n ∧ J m nx) own s₁ s₂ := by
    rintro ⟨h', tk, m', news', nx, e, F', N', hn, ho, ha, hm⟩
    exact ⟨h', tk, m', news', nx, e, F', N', hn, ho, ha, hi, hm.2⟩
  cases f with
  | ret v => exact h
  | brk => exact h
  | next => exact go h
  | cont => exact go h
theorem stripQ_len (x : Str) : (stripQ x).length ≤ x.length := by
  unfold stripQ
  have h1 : ∀ (z : Str), (Txt.slice z (some 1) none).length ≤ z.length := fun z => Txt.slice_le z _ _
  have h2 : ∀ (z : Str), (Txt.slice z none (some (-1))).length ≤ z.length := fun z => Txt.slice_le z _ _
  have q1 := h1 x
  have q2 := h2 x
  have q3 := h2 (Txt.slice x (some 1) none)
  dsimp only
  split <;> split <;> omega
section
variable {w : World} {d u : Nat} {gd : Option (List Code)} {A₀ : Around} {E : Value → Shared → Prop} {s : Shared} {base h₀ : Heap} {outer : List Env} {env : Env} {L : Addr} {m mg mb : Str → Option Value} {news : List (Addr × Obj)} {p : Program} {loose : List Str} {mean : ExcName → Option Value} {Q : Value → Shared → Prop}
theorem sq_end {x y : Str} {t' : Tok} {h' : Heap} {tk : Nat} (h : ∀ h' tk t', (stripQ x).length ≤ x.length → Fr h₀ L h' m → News h₀ L h' news → Q (.str (stripQ x) t') { s with heap := h', toks := tk }) (hy : stripQ x = y) (F : Fr h₀ L h' m) (N : News h₀ L h' news) :
    Q (.str y t') { s with heap := h', toks := tk } := hy ▸ h h' tk t' (stripQ_len x) F N
theorem sq_call {x : Str} {t : Tok}
    (B : Below A₀ base outer h₀) (F : Fr h₀ L s.heap m) (X : (Mine.k0.heap_1 w.params).In h₀) (N : News h₀ L s.heap news) (T : Top p loose mean mg mb h₀) (hf : env.frame = some L) (hke : env.scope.kind = .function)
    (hd : d < 900) (hx : x.length ≤ 100000) (h : ∀ h' tk t', (stripQ x).length ≤ x.length → Fr h₀ L h' m → News h₀ L h' news → Q (.str (stripQ x) t') { s with heap := h', toks := tk }) :
    wpAny (model pg w) ⟨none, d, some (env :: outer), gd, u⟩ (call (.ref 145) [.str x t]) Q E s := by
  refine wpAny_call ?_
  walk_at "my.enter"
  k_steps
  all_goals (refine sq_end h ?_ (by assumption) (by assumption); simp [stripQ, *])
local macro_rules | `(tactic| walk_at "call ref") => `(tactic| (k_here; (k_dflt (refine' sq_call ?B ?F ?X ?N ?T ?hf ?hke ?hd ?hx ?_; (case B => k_asm); (case F => k_asm); (case X => k_asm); (case N => k_asm); (case T => k_asm); (case hf => exact rfl); (case hke => exact rfl); (case hd => ((try simp only [depth_deeper]); (try dsimp only); omega)); (case hx => omega); k_whole)); intro h' tk' t' q' F' N'; (try k_sweep)))
/-- the dates are not reached -/
local macro_rules | `(tactic| walk_at "eval Name") => `(tactic| ((with_reducible show wpAny _ _ (eval (Expr.Name (PySem.Str.ofString "http2time") _) _) _ _ _); exfalso; walk_at "my.nodates"))
local macro_rules | `(tactic| walk_at "my.nodates") => `(tactic| (refine nodates (by assumption) (by assumption) ?_; unfold key1 keyOf; first | (rw [if_pos (by assumption)]; exact eq_of_beq (by assumption)) | (rw [if_neg (by simp [*])]; exact eq_of_beq (by assumption))))
theorem pn_gen {xv : Value} {keep : List (Addr × Obj)} {n : Nat} {P : Nat → Value → Prop} {hs : List Str} {ek : String}
    (B : Below A₀ base outer h₀) (F : Fr h₀ L s.heap m) (X : (Mine.k0.heap_1 w.params).In h₀) (N : News h₀ L s.heap news) (T : Top p loose mean mg mb h₀) (hf : env.frame = some L) (hke : env.scope.kind = .function)
    (hd : d < 800) (hu : u < 500) (It : Iterates pg w xv keep n P) (hkeep : ∀ q ∈ keep, q ∈ news) (hle : hs.length ≤ n) (htx : ∀ i v x, P i v → hs[i]? = some x → ∃ t, v = .str x t) (hbad : ∀ v, P hs.length v → hs.length < n → BadV keep v ek)
    (hlen : ∀ x ∈ hs, x.length ≤ 2000) (hcount : hs.length ≤ 1000) (hex : ∀ x ∈ hs, ∀ y ∈ (Txt.split x (Str.ofString ";")).tail, expOk y)
    (h : hs.length = n → ∀ h' tk v new, Fr h₀ L h' m → News h₀ L h' (new ++ news) → DatIn new v (.list (allD hs)) → Over new news → Q v { s with heap := h', toks := tk })
    (hX : hs.length < n → ∀ g e h' tk, Fr h₀ L g m → g.UpToSlots h' → RaisedSN base g (env :: outer) e (.type ek) news h' → E (.ref e) { s with heap := h', toks := tk }) :
    wpAny (model pg w) ⟨none, d, some (env :: outer), gd, u⟩ (call (.ref 152) [xv]) Q E s := by
  refine wpAny_call ?_
  walk_at "my.enter"
  k_steps
  rename_i tk0 D _ l1 _ r _ l2 h1 F1 N1
  have hrest1 : ∀ z ∈ (D, kaObj tk0) :: news, @LT.lt Nat _ z.1 r := by
    intro z hz
    rcases List.mem_cons.mp hz with e | hz
    · rw [e]; exact l2.1
    · exact allLt_out l2.2 z hz
  obtain ⟨rest0, hr0⟩ : ∃ z, z = (D, kaObj tk0) :: news := ⟨_, rfl⟩
  have hkeep0 : ∀ q ∈ keep, q ∈ rest0 := fun q hq => hr0 ▸ List.mem_cons_of_mem _ (hkeep q hq)
  have hka0 : (D, kaObj tk0) ∈ rest0 := hr0 ▸ List.mem_cons_self ..
  have hl0 := hka0
  replace N1 := news_re (news' := (r, listOf [].toArray 0) :: ([] ++ rest0)) N1 (by rw [hr0]; exact fun _ h => h)
  rw [← hr0] at hrest1
  with_unfolding_all refine For_invVF F1 rfl rfl ?_
  walk1
  with_unfolding_all refine It (news := (r, listOf [].toArray 0) :: ([] ++ rest0)) (fun i m nx => i ≤ hs.length ∧ Jout r D rest0 (fun i => allD (hs.take i)) i m nx) ?hh ?hJk F1 N1 ?init ?turn ?done
  case hh => exact rfl
  case hJk =>
    rintro i m nx ⟨_, rs, k, tn, rfl, _⟩ q hq
    exact List.mem_cons_of_mem _ (List.mem_append.mpr (.inr (hkeep0 q hq)))
  case init => exact ⟨Nat.zero_le _, [], 0, [], rfl, Over.nil, fun _ h => (nomatch h), DatAll.nil, Nat.le_refl _, rfl, rfl⟩
  case done =>
    rintro m₁ news₁ h2 tk2 ⟨hin, rs, k, tn, rfl, hov, hrt, hD, hlen1, mr, mk⟩ F2 N2
    have hn9 : hs.length = n := Nat.le_antisymm hle hin
    k_steps
    have hD' : DatAll tn rs (allD hs) := by
      have q : DatAll tn rs (allD (hs.take n)) := hD
      rw [← hn9, List.take_length] at q
      exact q
    refine h hn9 _ _ _ ((r, listOf rs.toArray k) :: tn) (by assumption) (news_re (by assumption) ?_) (DatIn.list (List.mem_cons_self ..) (hD'.mono fun q hq => List.mem_cons_of_mem _ hq)) ?_
    · intro q hq
      rcases List.mem_cons.mp hq with e | hq
      · rw [e]; exact List.mem_cons_self ..
      · rcases List.mem_append.mp hq with hq | hq
        · exact List.mem_cons_of_mem _ (List.mem_append.mpr (.inl hq))
        · exact List.mem_cons_of_mem _ (List.mem_append.mpr (.inr (hr0 ▸ List.mem_cons_of_mem _ hq)))
    · refine Over.cons (fun z hz => hrest1 z (hr0 ▸ List.mem_cons_of_mem _ hz)) (hov.mono fun z hz => hr0 ▸ List.mem_cons_of_mem _ hz)
  case turn =>
    rintro i v m₁ news₁ h2 tk2 own hin hPv hoff ⟨hih, rs, k, tn, rfl, hov, hrt, hD, hlen1, mr, mk⟩ F2 N2
    have hro : ∀ q ∈ tn ++ (rest0 ++ own), q.1 ≠ r := by
      intro q hq
      rcases List.mem_append.mp hq with hq | hq
      · exact Nat.ne_of_gt (hrt q hq)
      · rcases List.mem_append.mp hq with hq | hq
        · exact Nat.ne_of_lt (hrest1 q hq)
        · exact hoff q hq r (List.mem_cons_self ..)
    simp only [List.cons_append, List.append_assoc] at N2
    by_cases hi : i < hs.length
    case neg =>
      have hie : i = hs.length := by omega
      subst hie
      have kdX : KtsDicts [] base := ktsDicts_nil
      cases hbad v hPv hin with
      | none => (k_steps; (rename Fr _ _ _ _ => F9); (rename News _ _ _ _ => N9); refine gm_none rfl fun h9 tk9 e9 X9 => ?_; (try k_unfold); (try dsimp only); refine leave_attr (by assumption) X9 F9 N9 fun h8 R8 U8 => ?_; exact hX hin _ _ _ _ (by assumption) U8 (raisedSN_sub R8 fun q hq => List.mem_cons_of_mem _ (List.mem_cons_of_mem _ (List.mem_append.mpr (.inr (List.mem_append.mpr (.inl (hr0 ▸ List.mem_cons_of_mem _ hq))))))))
      | int k t => (k_steps; (rename Fr _ _ _ _ => F9); (rename News _ _ _ _ => N9); refine gm_int rfl fun h9 tk9 e9 X9 => ?_; (try k_unfold); (try dsimp only); refine leave_attr (by assumption) X9 F9 N9 fun h8 R8 U8 => ?_; exact hX hin _ _ _ _ (by assumption) U8 (raisedSN_sub R8 fun q hq => List.mem_cons_of_mem _ (List.mem_cons_of_mem _ (List.mem_append.mpr (.inr (List.mem_append.mpr (.inl (hr0 ▸ List.mem_cons_of_mem _ hq))))))))
      | bool b => (k_steps; (rename Fr _ _ _ _ => F9); (rename News _ _ _ _ => N9); refine gm_bool rfl fun h9 tk9 e9 X9 => ?_; (try k_unfold); (try dsimp only); refine leave_attr (by assumption) X9 F9 N9 fun h8 R8 U8 => ?_; exact hX hin _ _ _ _ (by assumption) U8 (raisedSN_sub R8 fun q hq => List.mem_cons_of_mem _ (List.mem_cons_of_mem _ (List.mem_append.mpr (.inr (List.mem_append.mpr (.inl (hr0 ▸ List.mem_cons_of_mem _ hq))))))))
      | list hm => (k_steps; (rename Fr _ _ _ _ => F9); (rename News _ _ _ _ => N9); refine gm_list (N9 _ (List.mem_cons_of_mem _ (List.mem_cons_of_mem _ (List.mem_append.mpr (.inr (List.mem_append.mpr (.inl (hkeep0 _ hm)))))))).1 rfl fun h9 tk9 e9 X9 => ?_; (try k_unfold); (try dsimp only); refine leave_attr (by assumption) X9 F9 N9 fun h8 R8 U8 => ?_; exact hX hin _ _ _ _ (by assumption) U8 (raisedSN_sub R8 fun q hq => List.mem_cons_of_mem _ (List.mem_cons_of_mem _ (List.mem_append.mpr (.inr (List.mem_append.mpr (.inl (hr0 ▸ List.mem_cons_of_mem _ hq))))))))
      | tup hm => (k_steps; (rename Fr _ _ _ _ => F9); (rename News _ _ _ _ => N9); refine gm_tuple (N9 _ (List.mem_cons_of_mem _ (List.mem_cons_of_mem _ (List.mem_append.mpr (.inr (List.mem_append.mpr (.inl (hkeep0 _ hm)))))))).1 rfl fun h9 tk9 e9 X9 => ?_; (try k_unfold); (try dsimp only); refine leave_attr (by assumption) X9 F9 N9 fun h8 R8 U8 => ?_; exact hX hin _ _ _ _ (by assumption) U8 (raisedSN_sub R8 fun q hq => List.mem_cons_of_mem _ (List.mem_cons_of_mem _ (List.mem_append.mpr (.inr (List.mem_append.mpr (.inl (hr0 ▸ List.mem_cons_of_mem _ hq))))))))
      | dict hm => (k_steps; (rename Fr _ _ _ _ => F9); (rename News _ _ _ _ => N9); refine gm_dict (N9 _ (List.mem_cons_of_mem _ (List.mem_cons_of_mem _ (List.mem_append.mpr (.inr (List.mem_append.mpr (.inl (hkeep0 _ hm)))))))).1 rfl fun h9 tk9 e9 X9 => ?_; (try k_unfold); (try dsimp only); refine leave_attr (by assumption) X9 F9 N9 fun h8 R8 U8 => ?_; exact hX hin _ _ _ _ (by assumption) U8 (raisedSN_sub R8 fun q hq => List.mem_cons_of_mem _ (List.mem_cons_of_mem _ (List.mem_append.mpr (.inr (List.mem_append.mpr (.inl (hr0 ▸ List.mem_cons_of_mem _ hq))))))))
      | bytes b t => (k_steps; refine gm_bytes ?_; (try k_unfold); (try dsimp only); k_steps; refine bs_raise rfl fun h9 tk9 e9 X9' => ?_; (have X9 := Heap.NewExc.of X9'); (rename Fr _ _ _ _ => F9); (rename News _ _ _ _ => N9); (try k_unfold); (try dsimp only); refine leave_attr (by assumption) X9 F9 N9 fun h8 R8 U8 => ?_; exact hX hin _ _ _ _ (by assumption) U8 (raisedSN_sub R8 fun q hq => List.mem_cons_of_mem _ (List.mem_cons_of_mem _ (List.mem_append.mpr (.inr (List.mem_append.mpr (.inl (hr0 ▸ List.mem_cons_of_mem _ hq))))))))
    case pos =>
    refine wpAny_mono ?_ (fun f s₂ h2 => post_two (p := (D, kaObj tk0)) hi h2) fun _ _ e => e
    obtain ⟨t, hx⟩ := htx i v hs[i] hPv (List.getElem?_eq_getElem hi)
    subst hx
    have hxl : hs[i].length ≤ 2000 := hlen _ (List.getElem_mem hi)
    have hxe := hex _ (List.getElem_mem hi)
    have hxi : hs[i]? = some hs[i] := List.getElem?_eq_getElem hi
    generalize hs[i] = x at hxl hxe hxi F2 hPv
    k_steps
    rename_i p h3a F3 N3 l1p h3b h3c F3c N3c D' sl h3 tk3 hsl hsa F4 N4 l4
    have hprest : ∀ z ∈ (r, listOf rs.toArray k) :: (tn ++ (rest0 ++ own)), @LT.lt Nat _ z.1 p := by
      intro z hz
      rcases List.mem_cons.mp hz with e | hz
      · rw [e]; exact l1p.1
      · exact allLt_out l1p.2 z hz
    have hrp : @LT.lt Nat _ r p := l1p.1
    obtain ⟨rest2, hr2⟩ : ∃ z, z = (D', listOf (strValues sl).toArray 0) :: (tn ++ (rest0 ++ own)) := ⟨_, rfl⟩
    have hl2 : (D', listOf (strValues sl).toArray 0) ∈ rest2 := hr2 ▸ List.mem_cons_self ..
    have hka2 : (D, kaObj tk0) ∈ rest2 := hr2 ▸ List.mem_cons_of_mem _ (List.mem_append.mpr (.inr (List.mem_append.mpr (.inl hka0))))
    have hD'p : @LT.lt Nat _ p D' := l4 _ (List.mem_cons_self ..)
    have hD'r : @LT.lt Nat _ r D' := l4 _ (List.mem_cons_of_mem _ (List.mem_cons_self ..))
    have hp2 : ∀ z ∈ rest2, z.1 ≠ p := by
      rw [hr2]; intro z hz
      rcases List.mem_cons.mp hz with e | hz
      · rw [e]; exact Nat.ne_of_gt hD'p
      · exact Nat.ne_of_lt (hprest z (List.mem_cons_of_mem _ hz))
    have hr2' : ∀ z ∈ rest2, z.1 ≠ r := by
      rw [hr2]; intro z hz
      rcases List.mem_cons.mp hz with e | hz
      · rw [e]; exact Nat.ne_of_gt hD'r
      · exact hro z hz
    replace N4 := news_re (news' := (p, listOf [].toArray 0) :: (r, listOf rs.toArray k) :: ([] ++ rest2)) N4 (by
      rw [hr2]; intro q hq
      simp only [List.mem_cons, List.nil_append] at hq ⊢
      rcases hq with h | h | h | h
      · exact .inr (.inl h)
      · exact .inr (.inr (.inl h))
      · exact .inl h
      · exact .inr (.inr (.inr h)))
    with_unfolding_all refine enum_loop (l := D') (vs := strValues sl) (nn := 0) (news := (p, listOf [].toArray 0) :: (r, listOf rs.toArray k) :: ([] ++ rest2)) (Jin p r (listOf rs.toArray k) D rest2 (fun i => runHdr ((Txt.split x (Str.ofString ";")).take i))) ?hE2 ?hh2 rfl rfl rfl (List.mem_cons_of_mem _ (List.mem_cons_of_mem _ hl2)) F4 N4 ?init2 ?turn2 ?done2
    case hE2 => passes_own
    case hh2 => exact rfl
    case init2 => exact ⟨[], 0, [], [], false, rfl, rfl, Over.nil, fun _ h => (nomatch h), DatAll.nil, Nat.le_refl _, rfl, rfl, mr, mk⟩
    case done2 =>
      rintro m2 news2 h4 tk4 ⟨ps, k2, tn2, ds2, b2, hP2, rfl, hov2, htn2, hD2, hlen2, m2p, m2v, m2r, m2k⟩ F5 N5
      have hP3 : runHdr (Txt.split x (Str.ofString ";")) = some (ds2, b2) := by
        have e : (strValues sl).length = (Txt.split x (Str.ofString ";")).length := by rw [← hsl]; exact hsa.length
        have q := hP2
        simp only [e, List.take_length] at q
        exact q
      have hpl : ps.length = ds2.length := hD2.length
      have hsl2 : (strValues sl).length ≤ 2002 := by
        have e : (strValues sl).length = (Txt.split x (Str.ofString ";")).length := by rw [← hsl]; exact hsa.length
        have q := split_le x (Str.ofString ";")
        omega
      have hrl : rs.length ≤ 1000 := by rw [hD.length]; omega
      have hqp : ∀ q ∈ tn2 ++ rest2, q.1 ≠ p := by
        intro q hq
        rcases List.mem_append.mp hq with hq | hq
        · exact Nat.ne_of_gt (htn2 q hq).2
        · exact hp2 q hq
      have hqr : ∀ q ∈ tn2 ++ rest2, q.1 ≠ r := by
        intro q hq
        rcases List.mem_append.mp hq with hq | hq
        · exact Nat.ne_of_gt (htn2 q hq).1
        · exact hr2' q hq
      have hold9 : ∀ q ∈ tn ++ (rest0 ++ own), q ∈ rest2 := fun q hq => hr2 ▸ List.mem_cons_of_mem _ hq
      have hpo9 : ∀ z ∈ tn ++ (rest0 ++ own), @LT.lt Nat _ z.1 p := fun z hz => hprest z (List.mem_cons_of_mem _ hz)
      cases ps with
      | nil =>
        have hnone : hdrD x = none := by
          unfold hdrD; rw [hP3]
          cases hD2; rfl
        have hP' : allD (hs.take (i + 1)) = allD (hs.take i) := by rw [allD_take hxi, hnone]; simp
        k_steps
        refine out_end (rs := rs) (k := k) [] (by assumption) (by assumption) hl0 hoff ?hr (fun _ h => nomatch h) ?hold Over.nil (fun _ h => nomatch h) hov hrt ?hD ?hlen (by assumption) (by assumption)
        case hr => exact List.mem_cons_of_mem _ (List.mem_cons_self ..)
        case hold => exact fun q hq => List.mem_cons_of_mem _ (List.mem_cons_of_mem _ (List.mem_append.mpr (.inr (hold9 q hq))))
        case hD => exact hP'.symm ▸ hD
        case hlen => exact hP'.symm ▸ Nat.le_succ_of_le hlen1
      | cons v0 ps =>
        have hne : ds2.isEmpty = false := by cases hD2; rfl
        cases b2 with
        | true =>
          have hP' : allD (hs.take (i + 1)) = allD (hs.take i) ++ [.list ds2] := by
            rw [allD_take hxi]; unfold hdrD; rw [hP3]; simp [hne]
          k_steps
          refine' out_app tn2 (by assumption) (by assumption) hl0 hoff ?hr ?hp ?hadd hold9 ?hold2 hov2 (fun q hq => (htn2 q hq).1) hpo9 hrp hov hrt hD hD2 hP' hlen1 (by assumption) (by assumption)
          case hr => exact List.mem_cons_of_mem _ (List.mem_cons_self ..)
          case hp => exact List.mem_cons_self ..
          case hadd => exact fun q hq => List.mem_cons_of_mem _ (List.mem_cons_of_mem _ (List.mem_append.mpr (.inl hq)))
          case hold2 => exact fun q hq => List.mem_cons_of_mem _ (List.mem_cons_of_mem _ (List.mem_append.mpr (.inr hq)))
        | false =>
          have hP' : allD (hs.take (i + 1)) = allD (hs.take i) ++ [.list (ds2 ++ [pairD (Str.ofString "version") (some (Str.ofString "0"))])] := by
            rw [allD_take hxi]; unfold hdrD; rw [hP3]; simp [hne]
          k_steps
          exact out_app2 (by assumption) (by assumption) (by assumption) pair_str hl0 hoff hold9 hov2 htn2 hpo9 hrp hov hrt hD hD2 hP' hlen1 (by assumption) (by assumption)
    case turn2 =>
      rintro i2 v2 t2 m2 news2 h4 tk4 own2 hv2 hoff2 hl2' ⟨ps, k2, tn2, ds2, b2, hP2, rfl, hov2, htn2, hD2, hlen2, m2p, m2v, m2r, m2k⟩ F5 N5
      have hi2 : i2 < (sl.map (·.1)).length := by rw [← hsa.length]; exact (List.getElem?_eq_some_iff.mp hv2).1
      obtain ⟨ty, hy⟩ := hsa.get i2 _ (List.getElem?_eq_getElem hi2)
      rw [hy] at hv2
      cases hv2
      have hyi : (Txt.split x (Str.ofString ";"))[i2]? = some ((sl.map (·.1))[i2]) := by rw [← hsl]; exact List.getElem?_eq_getElem hi2
      generalize (sl.map (·.1))[i2] = y at hy hyi F5
      have hyl : y.length ≤ 2000 := Nat.le_trans (part_short (List.mem_of_getElem? hyi)) hxl
      have hi2' : i2 ≤ 2002 := by
        have e : (sl.map (·.1)).length = (Txt.split x (Str.ofString ";")).length := by rw [hsl]
        have q := split_le x (Str.ofString ";")
        omega
      have hpl : ps.length = ds2.length := hD2.length
      simp only [List.cons_append, List.append_assoc] at N5
      have hka3 : (D, kaObj tk0) ∈ tn2 ++ (rest2 ++ own2) := List.mem_append.mpr (.inr (List.mem_append.mpr (.inl hka2)))
      have hqp : ∀ q ∈ tn2 ++ (rest2 ++ own2), q.1 ≠ p := by
        intro q hq
        rcases List.mem_append.mp hq with hq | hq
        · exact Nat.ne_of_gt (htn2 q hq).2
        · rcases List.mem_append.mp hq with hq | hq
          · exact hp2 q hq
          · exact hoff2 q hq p (List.mem_cons_self ..)
      have hee : ¬ i2 = 0 → expOk y := fun hne => hxe y (by
        cases i2 with
        | zero => exact absurd rfl hne
        | succ n =>
          have : (Txt.split x (Str.ofString ";")).tail[n]? = some y := by rw [List.getElem?_tail]; exact hyi
          exact List.mem_of_getElem? this)
      by_cases hi0 : i2 = 0
      · subst hi0
        have e0 : ds2 = [] ∧ b2 = false := by
          have := hP2; simp [runHdr, runFrom] at this; exact this
        obtain ⟨rfl, rfl⟩ := e0
        have hps : ps = [] := by cases hD2; rfl
        subst hps
        k_steps
        · ((rename Fr _ _ _ _ => F9); (rename News _ _ _ _ => N9); exact in_end_put F9 N9 hl2 hoff2 (by assumption) pair_str (rk_first_some hyi hP2 (by assumption) (by assumption)) hov2 htn2 hD2 hlen2 m2p m2v m2r m2k)
        · ((rename Fr _ _ _ _ => F9); (rename News _ _ _ _ => N9); exact in_end_put F9 N9 hl2 hoff2 (by assumption) pair_none (rk_first_none hyi hP2 (by assumption) (by assumption)) hov2 htn2 hD2 hlen2 m2p m2v m2r m2k)
        · have hnone : hdrD x = none := by
            unfold hdrD; rw [runHdr_break hyi (by assumption)]
          have hP' : allD (hs.take (i + 1)) = allD (hs.take i) := by rw [allD_take hxi, hnone]; simp
          refine out_end (rs := rs) (k := k) [] (by assumption) (by assumption) hl0 hoff ?br (fun _ h => nomatch h) ?bold Over.nil (fun _ h => nomatch h) hov hrt ?bD ?blen (by assumption) (by assumption)
          case br => exact List.mem_cons_of_mem _ (List.mem_cons_of_mem _ (List.mem_cons_self ..))
          case bold => exact fun q hq => List.mem_cons_of_mem _ (List.mem_cons_of_mem _ (List.mem_cons_of_mem _ (List.mem_append.mpr (.inr (List.mem_append.mpr (.inl (hr2 ▸ List.mem_cons_of_mem _ hq)))))))
          case bD => exact hP'.symm ▸ hD
          case blen => exact hP'.symm ▸ Nat.le_succ_of_le hlen1
      · have hee' := hee hi0
        k_steps
        all_goals (try (exfalso; omega))
        all_goals (rename Fr _ _ _ _ => F9)
        all_goals (rename News _ _ _ _ => N9)
        all_goals first
          | ((with_reducible have q9 := shp_skip N9); exact in_end_skip F9 N9 hl2 hoff2 (rk_skip hyi hP2 hi0 (by assumption)) hov2 htn2 hD2 hlen2 m2p m2v m2r m2k)
          | ((with_reducible have q9 := shp_some N9); first | ((with_reducible have q8 := flag_k_ver (y := y) (by assumption) (by assumption)); exact in_end_put F9 N9 hl2 hoff2 (by assumption) pair_str (rk_k_ver_some hyi hP2 hi0 (by with_reducible assumption) (by with_reducible assumption) (by with_reducible assumption) (by with_reducible assumption)) hov2 htn2 hD2 hlen2 m2p rfl m2r m2k) | ((with_reducible have q8 := flag_k_oth (y := y) (by assumption) (by assumption)); exact in_end_put F9 N9 hl2 hoff2 (by assumption) pair_str (rk_k_oth_some hyi hP2 hi0 (by with_reducible assumption) (by with_reducible assumption) (by with_reducible assumption) (by with_reducible assumption)) hov2 htn2 hD2 hlen2 m2p m2v m2r m2k) | ((with_reducible have q8 := flag_u_ver (y := y) (by assumption) (by assumption)); exact in_end_put F9 N9 hl2 hoff2 (by assumption) pair_str (rk_u_ver_some hyi hP2 hi0 (by with_reducible assumption) (by with_reducible assumption) (by with_reducible assumption) (by with_reducible assumption)) hov2 htn2 hD2 hlen2 m2p rfl m2r m2k) | ((with_reducible have q8 := flag_u_oth (y := y) (by assumption) (by assumption)); exact in_end_put F9 N9 hl2 hoff2 (by assumption) pair_str (rk_u_oth_some hyi hP2 hi0 (by with_reducible assumption) (by with_reducible assumption) (by with_reducible assumption) (by with_reducible assumption)) hov2 htn2 hD2 hlen2 m2p m2v m2r m2k))
          | ((with_reducible have q9 := shp_none N9); first | ((with_reducible have q8 := flag_k_ver (y := y) (by assumption) (by assumption)); exact in_end_put F9 N9 hl2 hoff2 (by assumption) pair_none (rk_k_ver_none hyi hP2 hi0 (by with_reducible assumption) (by with_reducible assumption) (by with_reducible assumption) (by with_reducible assumption)) hov2 htn2 hD2 hlen2 m2p rfl m2r m2k) | ((with_reducible have q8 := flag_k_oth (y := y) (by assumption) (by assumption)); exact in_end_put F9 N9 hl2 hoff2 (by assumption) pair_none (rk_k_oth_none hyi hP2 hi0 (by with_reducible assumption) (by with_reducible assumption) (by with_reducible assumption) (by with_reducible assumption)) hov2 htn2 hD2 hlen2 m2p m2v m2r m2k) | ((with_reducible have q8 := flag_u_ver (y := y) (by assumption) (by assumption)); exact in_end_put F9 N9 hl2 hoff2 (by assumption) pair_none (rk_u_ver_none hyi hP2 hi0 (by with_reducible assumption) (by with_reducible assumption) (by with_reducible assumption) (by with_reducible assumption)) hov2 htn2 hD2 hlen2 m2p rfl m2r m2k) | ((with_reducible have q8 := flag_u_oth (y := y) (by assumption) (by assumption)); exact in_end_put F9 N9 hl2 hoff2 (by assumption) pair_none (rk_u_oth_none hyi hP2 hi0 (by with_reducible assumption) (by with_reducible assumption) (by with_reducible assumption) (by with_reducible assumption)) hov2 htn2 hD2 hlen2 m2p m2v m2r m2k))
end
end Mine
namespace Mine
local macro_rules | `(tactic| k_room) => `(tactic| ((try simp only [depth_under_make, depth_under_kw, depth_in1, depth_deeper, depth_caller, recursionLimit]); omega))
local macro_rules | `(tactic| walk_at "my.mem") => `(tactic| first | with_reducible assumption | exact List.mem_cons_self .. | ((with_reducible refine List.mem_cons_of_mem _ ?_); walk_at "my.mem"))
local macro_rules | `(tactic| k_mem) => `(tactic| walk_at "my.mem")
local macro_rules | `(tactic| k_all) => `(tactic| with_reducible assumption)
local macro_rules | `(tactic| walk_at "call ref") => `(tactic| (k_here; k_dflt (refine' pn_gen ?B ?F ?X ?N ?T ?hf ?hke ?hd ?hu ?It ?hkeep ?hle ?htx ?hbad ?hlen ?hcount ?hex ?ok ?er; (case It => assumption); (case N => k_asm); (case hkeep => assumption); (case hle => assumption); (case htx => assumption); (case hbad => assumption); (case hlen => assumption); (case hcount => assumption); (case hex => assumption); (case B => k_asm); (case F => k_asm); (case X => k_asm); (case T => k_asm); (case hf => exact rfl); (case hke => exact rfl); (case hd => ((try simp only [depth_deeper]); (try dsimp only); omega)); (case hu => first | decide | omega)); (case' ok => (k_whole; intro hn9 h' tk' v' new' F' N' hD' ho')); (case' er => (intro hn9 g9 e9 h9 tk9 F9 U9 R9; dsimp only))))
section
variable {w : World} {d u : Nat} {gd : Option (List Code)} {A₀ : Around} {E : Value → Shared → Prop} {s : Shared} {base h₀ : Heap} {env : Env} {L : Addr} {m mg mb : Str → Option Value} {news : List (Addr × Obj)} {p : Program} {loose : List Str} {mean : ExcName → Option Value} {Q : Value → Shared → Prop}
theorem told_gen {xv : Value} {keep : List (Addr × Obj)} {n : Nat} {P : Nat → Value → Prop} {hs : List Str} {ek : String} {cn : Str} {cs : Scope} {ca : Addr} {ccd : Value} {cl : List (Str × Addr)} (henv : env = envX cn cs L ca ccd cl)
    (B : Below A₀ base [] h₀) (F : Fr h₀ L s.heap m) (X : (Mine.k0.heap_1 w.params).In h₀) (N : News h₀ L s.heap news) (T : Top p loose mean mg mb h₀) (hke : cs.kind = .function)
    (hd : d < 700) (hu : u < 400) (It : Iterates pg w xv keep n P) (hkeep : ∀ q ∈ keep, q ∈ news) (hle : hs.length ≤ n) (htx : ∀ i v x, P i v → hs[i]? = some x → ∃ t, v = .str x t) (hbad : ∀ v, P hs.length v → hs.length < n → BadV keep v ek)
    (hlen : ∀ x ∈ hs, x.length ≤ 2000) (hcount : hs.length ≤ 1000) (hex : ∀ x ∈ hs, ∀ y ∈ (Txt.split x (Str.ofString ";")).tail, expOk y)
    (XB : (Mine.k0.heap_1 w.params).In base) (TB : Top p loose mean mg mb base) (hek : ek = "AttributeError" ∨ ek = "TypeError")
    (h : ∀ h' tk v new, Fr h₀ L h' m → News h₀ L h' (new ++ news) → DatIn new v (if hs.length = n then .list (allD hs) else if ek = "AttributeError" then .str (Str.ofString "attribute") else .str (Str.ofString "type")) → Over new news → Q v { s with heap := h', toks := tk }) :
    wpAny (model pg w) ⟨none, d, some [env], gd, u⟩ (call (.ref 173) [xv]) Q E s := by
  subst henv
  refine wpAny_call ?_
  refine' enter_try ?k1 ?k2 ?k3 ?k4 ?k5 ?kA ?k6 ?k7 ?k8 ?k9 ?kB ?_ ?cK ?c2 ?c3 ?c4 ?c5
  case kA => exact rfl
  case k2 => k_asm
  case k1 => k_asm
  case k3 => k_asm
  case k4 => k_asm
  case k5 => k_asm
  case k6 => k_is
  case k7 => k_is
  case k8 => k_room
  case k9 => first | exact binds_K (by k_in) rfl (by k_is) rfl rfl rfl | exact BindsTo.of_eq rfl
  case kB => exact locs rfl
  case cK => exact hke
  case c2 => exact rfl
  case c3 => exact rfl
  case c4 => exact rfl
  case c5 => decide
  k_whole
  intro g' L' h' FG' F' N' B' X' T' D'
  try dsimp only
  try k_lift B'
  try k_fold
  repeat ((fail_if_success (with_reducible show wpAny _ _ (call (Value.ref 152) _) _ _ _)); (first | (k_unfold; (try dsimp only)) | (k_end; wrow_close) | walk1 | (dsimp only; walk1) | (leave1; walk_say "STEP leave1"; try dsimp only) | fail "no step"))
  refine' pn_gen ?B ?F ?X ?N ?T ?hf ?hke ?hd ?hu ?It ?hkeep ?hle ?htx ?hbad ?hlen ?hcount ?hex ?ok ?er
  case It => assumption
  case N => k_asm
  case hkeep => assumption
  case hle => assumption
  case htx => assumption
  case hbad => assumption
  case hlen => assumption
  case hcount => assumption
  case hex => assumption
  case B => k_asm
  case F => k_asm
  case X => k_asm
  case T => k_asm
  case hf => exact rfl
  case hke => exact rfl
  case hd => show d + 1 < 800; omega
  case hu => (try simp only [depth_deeper]); (try dsimp only); first | decide | omega
  case ok =>
    intro hn9 h' tk' v' new' F' N' hD' ho'
    k_whole
    k_steps
    refine h _ _ _ new' (by assumption) (by assumption) ?_ ho'
    rw [if_pos hn9]
    exact hD'
  case er =>
    intro hn9 g9 e9 h9 tk9 F9 U9 R9
    (try dsimp only)
    have hn8 : ¬ hs.length = n := Nat.ne_of_lt hn9
    rcases hek with rfl | rfl
    · k_steps
      refine h _ _ _ [] (by assumption) (by assumption) ?_ Over.nil
      rw [if_neg hn8, if_pos rfl]
      exact DatIn.str _ _
    · k_steps
      refine h _ _ _ [] (by assumption) (by assumption) ?_ Over.nil
      rw [if_neg hn8, if_neg (by decide)]
      exact DatIn.str _ _
end
end Mine
namespace Mine
local macro_rules | `(tactic| k_room) => `(tactic| ((try simp only [depth_under_make, depth_under_kw, depth_in1, depth_deeper, depth_caller, recursionLimit]); omega))
local macro_rules | `(tactic| walk_at "my.mem") => `(tactic| first | with_reducible assumption | exact List.mem_cons_self .. | ((with_reducible refine List.mem_cons_of_mem _ ?_); walk_at "my.mem"))
local macro_rules | `(tactic| k_mem) => `(tactic| walk_at "my.mem")
local macro_rules | `(tactic| k_all) => `(tactic| with_reducible assumption)
local macro_rules | `(tactic| walk_at "my.enter") => `(tactic|
  (refine' code_def ?k1 ?k2 ?k3 ?k4 ?k5 ?kA ?kF ?kK ?k6 ?k7 ?k8 ?k9 ?kB ?_ ?c2 ?c3 ?c4 ?c5; (case kA => exact rfl); (case kF => assumption); (case kK => assumption); (case k1 => k_asm); (case k2 => k_asm); (case k3 => k_asm); (case k4 => k_asm); (case k5 => k_asm); (case k6 => k_is); (case k7 => k_is); (case k8 => k_room); (case k9 => first | exact BindsTo.of_eq rfl | exact binds_K (by k_in) rfl (by k_is) rfl rfl rfl | fail "k_enter: no rule for these arguments"); (case c5 => decide); (case kB => exact locs rfl); (case c2 => exact rfl); (case c3 => exact rfl); (case c4 => exact rfl); k_whole; intro g' L' h' FG' F' N' B' X' T'; (try dsimp only); (try k_lift B'); (try k_fold)))
section
variable {w : World} {d u : Nat} {gd : Option (List Code)} {A₀ : Around} {E : Value → Shared → Prop} {s : Shared} {base h₀ : Heap} {outer : List Env} {env : Env} {L : Addr} {m mg mb : Str → Option Value} {news : List (Addr × Obj)} {p : Program} {loose : List Str} {mean : ExcName → Option Value} {Q : Value → Shared → Prop}
theorem pn_noiter {xv : Value}
    (B : Below A₀ base outer h₀) (F : Fr h₀ L s.heap m) (X : (Mine.k0.heap_1 w.params).In h₀) (N : News h₀ L s.heap news) (T : Top p loose mean mg mb h₀) (hf : env.frame = some L) (hke : env.scope.kind = .function)
    (hd : d < 800) (hu : u < 500) (It : NoIter pg w xv)
    (hX : ∀ g e h' tk, Fr h₀ L g m → g.UpToSlots h' → RaisedSN base g (env :: outer) e (.type "TypeError") news h' → E (.ref e) { s with heap := h', toks := tk }) :
    wpAny (model pg w) ⟨none, d, some (env :: outer), gd, u⟩ (call (.ref 152) [xv]) Q E s := by
  refine wpAny_call ?_
  walk_at "my.enter"
  k_steps
  rename_i tk0 D _ l1 _ r _ l2 h1 F1 N1
  with_unfolding_all refine For_invVF F1 rfl rfl ?_
  walk1
  refine It rfl fun h9 tk9 e9 X9' => ?_
  have X9 := Heap.NewExc.of X9'
  (try k_unfold); (try dsimp only)
  refine leave_attr (by assumption) X9 F1 N1 fun h8 R8 U8 => ?_
  exact hX _ _ _ _ (by assumption) U8 (raisedSN_sub R8 fun q hq => List.mem_cons_of_mem _ (List.mem_cons_of_mem _ hq))
end
section
variable {w : World} {d u : Nat} {gd : Option (List Code)} {A₀ : Around} {E : Value → Shared → Prop} {s : Shared} {base h₀ : Heap} {env : Env} {L : Addr} {m mg mb : Str → Option Value} {news : List (Addr × Obj)} {p : Program} {loose : List Str} {mean : ExcName → Option Value} {Q : Value → Shared → Prop}
theorem told_noiter {xv : Value} {cn : Str} {cs : Scope} {ca : Addr} {ccd : Value} {cl : List (Str × Addr)} (henv : env = envX cn cs L ca ccd cl)
    (B : Below A₀ base [] h₀) (F : Fr h₀ L s.heap m) (X : (Mine.k0.heap_1 w.params).In h₀) (N : News h₀ L s.heap news) (T : Top p loose mean mg mb h₀) (hke : cs.kind = .function)
    (hd : d < 700) (hu : u < 400) (It : NoIter pg w xv)
    (XB : (Mine.k0.heap_1 w.params).In base) (TB : Top p loose mean mg mb base)
    (h : ∀ h' tk v new, Fr h₀ L h' m → News h₀ L h' (new ++ news) → DatIn new v (.str (Str.ofString "type")) → Over new news → Q v { s with heap := h', toks := tk }) :
    wpAny (model pg w) ⟨none, d, some [env], gd, u⟩ (call (.ref 173) [xv]) Q E s := by
  subst henv
  refine wpAny_call ?_
  refine' enter_try ?k1 ?k2 ?k3 ?k4 ?k5 ?kA ?k6 ?k7 ?k8 ?k9 ?kB ?_ ?cK ?c2 ?c3 ?c4 ?c5
  case kA => exact rfl
  case k2 => k_asm
  case k1 => k_asm
  case k3 => k_asm
  case k4 => k_asm
  case k5 => k_asm
  case k6 => k_is
  case k7 => k_is
  case k8 => k_room
  case k9 => first | exact binds_K (by k_in) rfl (by k_is) rfl rfl rfl | exact BindsTo.of_eq rfl
  case kB => exact locs rfl
  case cK => exact hke
  case c2 => exact rfl
  case c3 => exact rfl
  case c4 => exact rfl
  case c5 => decide
  k_whole
  intro g' L' h' FG' F' N' B' X' T' D'
  try dsimp only
  try k_lift B'
  try k_fold
  repeat ((fail_if_success (with_reducible show wpAny _ _ (call (Value.ref 152) _) _ _ _)); (first | (k_unfold; (try dsimp only)) | (k_end; wrow_close) | walk1 | (dsimp only; walk1) | (leave1; walk_say "STEP leave1"; try dsimp only) | fail "no step"))
  refine' pn_noiter ?B ?F ?X ?N ?T ?hf ?hke ?hd ?hu ?It ?er
  case It => assumption
  case N => k_asm
  case B => k_asm
  case F => k_asm
  case X => k_asm
  case T => k_asm
  case hf => exact rfl
  case hke => exact rfl
  case hd => show d + 1 < 800; omega
  case hu => (try simp only [depth_deeper]); (try dsimp only); first | decide | omega
  case er =>
    intro g9 e9 h9 tk9 F9 U9 R9
    (try dsimp only)
    k_steps
    refine h _ _ _ [] (by assumption) (by assumption) ?_ Over.nil
    exact DatIn.str _ _
end
end Mine
namespace Mine
local macro_rules | `(tactic| k_room) => `(tactic| ((try simp only [depth_under_make, depth_under_kw, depth_in1, depth_deeper, depth_caller, recursionLimit]); omega))
local macro_rules | `(tactic| walk_at "my.mem") => `(tactic| first | with_reducible assumption | exact List.mem_cons_self .. | ((with_reducible refine List.mem_cons_of_mem _ ?_); walk_at "my.mem"))
local macro_rules | `(tactic| k_mem) => `(tactic| walk_at "my.mem")
local macro_rules | `(tactic| k_all) => `(tactic| with_reducible assumption)
local macro_rules | `(tactic| walk_at "my.enter") => `(tactic|
  (refine' code_def ?k1 ?k2 ?k3 ?k4 ?k5 ?kA ?kF ?kK ?k6 ?k7 ?k8 ?k9 ?kB ?_ ?c2 ?c3 ?c4 ?c5; (case kA => exact rfl); (case kF => assumption); (case kK => assumption); (case k1 => k_asm); (case k2 => k_asm); (case k3 => k_asm); (case k4 => k_asm); (case k5 => k_asm); (case k6 => k_is); (case k7 => k_is); (case k8 => k_room); (case k9 => first | exact BindsTo.of_eq rfl | exact binds_K (by k_in) rfl (by k_is) rfl rfl rfl | fail "k_enter: no rule for these arguments"); (case c5 => decide); (case kB => exact locs rfl); (case c2 => exact rfl); (case c3 => exact rfl); (case c4 => exact rfl); k_whole; intro g' L' h' FG' F' N' B' X' T'; (try dsimp only); (try k_lift B'); (try k_fold)))
section
variable {w : World} {d u : Nat} {gd : Option (List Code)} {A₀ : Around} {E : Value → Shared → Prop} {s : Shared} {base h₀ : Heap} {outer : List Env} {env : Env} {L : Addr} {m mg mb : Str → Option Value} {news : List (Addr × Obj)} {p : Program} {loose : List Str} {mean : ExcName → Option Value} {Q : Value → Shared → Prop}
theorem th_call
    (B : Below A₀ base outer h₀) (F : Fr h₀ L s.heap m) (X : (Mine.k0.heap_1 w.params).In h₀) (N : News h₀ L s.heap news) (T : Top p loose mean mg mb h₀) (hf : env.frame = some L) (hke : env.scope.kind = .function)
    (hd : d < 900) (h : ∀ h' tk a vs n new, (a, listOf vs.toArray n) ∈ new → CellsAre pg w new vs [0, 1, 2, 3, 4, 5, 6, 7, 8, 9, 10, 11, 12, 13, 14, 15] → Over new news → Fr h₀ L h' m → News h₀ L h' (new ++ news) → Q (.ref a) { s with heap := h', toks := tk }) :
    wpAny (model pg w) ⟨none, d, some (env :: outer), gd, u⟩ (call (.ref 159) []) Q E s := by
  refine wpAny_call ?_
  walk_at "my.enter"
  k_steps
  (rename Fr h₀ _ _ _ => F9); (rename News h₀ _ _ _ => N9); (rename (∀ p ∈ news, p.1 < _) => l9)
  refine h _ _ _ _ _ [_, _, _, _, _, _, _, _, _, _, _, _, _, _, _, _, _, _, _, _, _, _, _, _, _, _, _, _, _, _, _, _, _, _, _, _, _, _, _, _, _, _, _, _, _, _, _, _, _, _, _, _, _, _, _, _, _, _, _, _, _] (List.mem_cons_self ..) ?_ ?_ F9 N9
  · refine CellsAre.via fun X hX => ?_
    clear N9
    obtain ⟨i1, i2, i3, i4, i5, i6, i7, i8, i9, i10, i11, i12, i13, i14, i15, i16, i17, i18, i19, i20, i21, i22, i23, i24, i25, i26, i27, i28, i29, i30, i31, i32, i33, i34, i35, i36, i37, i38, i39, i40, i41, i42, i43, i44, i45, i46, i47, i48, i49, i50, i51, i52, i53, i54, i55, i56, i57, i58, i59, i60, i61, -⟩ := hX
    repeat' (first | exact CellsAre.nil | refine CellsAre.cons ?_ ?_)
    all_goals (refine ⟨_, _, _, _, _, rfl, by with_reducible assumption, ?_, ?_, ?_⟩)
    all_goals (try (first | exact ThingIn.text _ rfl | exact ThingIn.none | exact ThingIn.int _ | exact ThingIn.bool | exact ThingIn.bytes _ | exact ThingIn.empty _ | exact ThingIn.dict (by with_reducible assumption) (by assumption) (by assumption) | exact ThingIn.list (by with_reducible assumption) (.cons _ _ .nil) | exact ThingIn.tup (by with_reducible assumption) (.cons _ _ (.cons _ _ .nil))))
    all_goals (with_unfolding_all repeat' (first | exact DatAll.nil | refine DatAll.cons ?_ ?_ | exact DatIn.none | exact DatIn.str _ _ | refine DatIn.tuple (by with_reducible assumption) ?_ | refine DatIn.list (by with_reducible assumption) ?_))
  · repeat' (first | (refine Over.chain ?_ ?_) | (refine Over.cons ?_ Over.nil))
    all_goals (dsimp only; first | assumption | exact And.left (by assumption))
end
end Mine
namespace Mine
section
variable {w : World} {d u : Nat} {gd : Option (List Code)} {A₀ : Around} {E : Value → Shared → Prop} {s : Shared} {base h₀ : Heap} {env : Env} {L : Addr} {m mg mb : Str → Option Value} {news : List (Addr × Obj)} {p : Program} {loose : List Str} {mean : ExcName → Option Value} {Q : Value → Shared → Prop}
theorem bad_v {v : Value} {k : Nat} {new keep : List (Addr × Obj)} (h : ThingIn pg w new v k) (hk : 8 ≤ k) (hs : ∀ q ∈ new, q ∈ keep) : BadV keep v (if k = 11 ∨ k = 12 then "TypeError" else "AttributeError") :=
  h.bad (keep := keep) hk .none .int .bool .bytes (fun _ _ _ h => .list (hs _ h)) (fun _ _ _ h => .tup (hs _ h)) (fun _ _ _ h => .dict (hs _ h))
/-- a row of things, given as a value that runs through them -/
theorem told_any {xv : Value} {vs : List Value} {ks : List Nat} {new : List (Addr × Obj)} {cn : Str} {cs : Scope} {ca : Addr} {ccd : Value} {cl : List (Str × Addr)} (henv : env = envX cn cs L ca ccd cl)
    (B : Below A₀ base [] h₀) (F : Fr h₀ L s.heap m) (X : (Mine.k0.heap_1 w.params).In h₀) (N : News h₀ L s.heap news) (T : Top p loose mean mg mb h₀) (hke : cs.kind = .function)
    (hd : d < 700) (hu : u < 400) (It : Iterates pg w xv news vs.length (fun i v => vs[i]? = some v)) (hA : Alike (ThingIn pg w new) vs ks) (hs : ∀ q ∈ new, q ∈ news) (hl : ks.length ≤ 1000)
    (XB : (Mine.k0.heap_1 w.params).In base) (TB : Top p loose mean mg mb base)
    (h : ∀ h' tk v new, Fr h₀ L h' m → News h₀ L h' (new ++ news) → DatIn new v (dueRow [] ks) → Over new news → Q v { s with heap := h', toks := tk }) :
    wpAny (model pg w) ⟨none, d, some [env], gd, u⟩ (call (.ref 173) [xv]) Q E s := by
  have hle : (heads ks).length ≤ vs.length := by rw [hA.1]; exact heads_le ks
  refine told_gen (hs := heads ks) (ek := badOf ks) henv B F X N T hke hd hu It (fun _ h => h) hle ?htx ?hbad (fun x hx => okHdr_len (heads_ok ks x hx)) (Nat.le_trans (heads_le ks) hl) (fun x hx => okHdr_exp (heads_ok ks x hx)) XB TB (badOf_or ks) ?_
  case htx =>
    intro i v x hv hx
    obtain ⟨k, h1, h2, rfl⟩ := heads_get ks i x hx
    obtain ⟨k', h3, h4⟩ := hA.2 i v hv
    rw [h1] at h3
    cases h3
    exact h4.text_of h2
  case hbad =>
    intro v hv hlt
    obtain ⟨k, h1, h2, h3⟩ := heads_bad ks (by rw [← hA.1]; exact hlt)
    obtain ⟨k', h4, h5⟩ := hA.2 _ v hv
    rw [h1] at h4
    cases h4
    rw [h3]
    exact bad_v h5 h2 hs
  · intro h' tk v new F' N' hD ho
    refine h h' tk v new F' N' ?_ ho
    rw [told_due ks []]
    rw [hA.1] at hD
    exact hD
/-- a thing in place of the row -/
theorem told_thing {v : Value} {k : Nat} {new : List (Addr × Obj)} {cn : Str} {cs : Scope} {ca : Addr} {ccd : Value} {cl : List (Str × Addr)} (henv : env = envX cn cs L ca ccd cl)
    (B : Below A₀ base [] h₀) (F : Fr h₀ L s.heap m) (X : (Mine.k0.heap_1 w.params).In h₀) (N : News h₀ L s.heap news) (T : Top p loose mean mg mb h₀) (hke : cs.kind = .function)
    (hd : d < 700) (hu : u < 400) (hT : ThingIn pg w new v k) (hs : ∀ q ∈ new, q ∈ news)
    (XB : (Mine.k0.heap_1 w.params).In base) (TB : Top p loose mean mg mb base)
    (h : ∀ h' tk x new, Fr h₀ L h' m → News h₀ L h' (new ++ news) → DatIn new x (aloneD k) → Over new news → Q x { s with heap := h', toks := tk }) :
    wpAny (model pg w) ⟨none, d, some [env], gd, u⟩ (call (.ref 173) [v]) Q E s := by
  cases hT with
  | none => exact told_noiter henv B F X N T hke hd hu noiter_none XB TB h
  | int t => exact told_noiter henv B F X N T hke hd hu noiter_int XB TB h
  | bool => exact told_noiter henv B F X N T hke hd hu noiter_bool XB TB h
  | text t hx =>
    obtain ⟨hk, rfl⟩ := txt_get hx
    have hsz : (signsOf (txtK k)).length = (txtK k).cps.size := by unfold signsOf; rw [List.length_map, Array.length_toList]
    have hok : ∀ x ∈ signsOf (txtK k), okHdr x = true := List.all_eq_true.mp (ok_signs k hk)
    refine told_gen (hs := signsOf (txtK k)) (keep := []) (ek := "AttributeError") henv B F X N T hke hd hu it_str (fun _ h => nomatch h) (Nat.le_of_eq hsz) ?htx ?hbad (fun x hx => okHdr_len (hok x hx)) (by rw [hsz]; have := len_txt k hk; omega) (fun x hx => okHdr_exp (hok x hx)) XB TB (.inl rfl) ?_
    case htx =>
      rintro i v x ⟨c, u, hc, rfl⟩ hx
      unfold signsOf at hx
      rw [List.getElem?_map, Array.getElem?_toList, hc] at hx
      have e : (⟨#[c]⟩ : Str) = x := by simpa using hx
      exact ⟨u, by rw [e]⟩
    case hbad =>
      intro v _ hlt
      exact absurd hlt (by rw [hsz]; exact Nat.lt_irrefl _)
    · intro h' tk v new F' N' hD ho
      refine h h' tk v new F' N' ?_ ho
      rw [if_pos hsz] at hD
      rw [alone_text k hk]
      exact hD
  | bytes t =>
    refine told_gen (hs := []) (keep := []) (ek := "AttributeError") henv B F X N T hke hd hu it_bytes (fun _ h => nomatch h) (Nat.zero_le _) (fun i v x _ hx => by simp at hx) ?hbad (fun x hx => nomatch hx) (Nat.zero_le _) (fun x hx => nomatch hx) XB TB (.inl rfl) ?_
    case hbad =>
      rintro v ⟨c, u, _, rfl⟩ _
      exact .int _ _
    · intro h' tk v new F' N' hD ho
      exact h h' tk v new F' N' hD ho
  | empty t =>
    refine told_gen (hs := []) (keep := []) (ek := "AttributeError") henv B F X N T hke hd hu it_bytes (fun _ h => nomatch h) (Nat.zero_le _) (fun i v x _ hx => by simp at hx) (fun v _ hlt => absurd hlt (by decide)) (fun x hx => nomatch hx) (Nat.zero_le _) (fun x hx => nomatch hx) XB TB (.inl rfl) ?_
    · intro h' tk v new F' N' hD ho
      exact h h' tk v new F' N' hD ho
  | dict hm ho hz =>
    refine told_gen (hs := []) (keep := news) (ek := "AttributeError") henv B F X N T hke hd hu (it_dict (hs _ hm) ho hz) (fun _ h => h) (Nat.zero_le _) (fun i v x hf _ => absurd hf id) (fun v hf _ => absurd hf id) (fun x hx => nomatch hx) (Nat.zero_le _) (fun x hx => nomatch hx) XB TB (.inl rfl) ?_
    · intro h' tk v new F' N' hD ho
      exact h h' tk v new F' N' hD ho
  | list hm hv =>
    cases hv with
    | cons x t hv =>
    cases hv
    refine told_gen (hs := [T2 "a"]) (keep := news) (ek := "AttributeError") henv B F X N T hke hd hu (it_list (hs _ hm)) (fun _ h => h) (Nat.le_refl _) ?htx (fun v _ hlt => absurd hlt (Nat.lt_irrefl _)) ?h1 (by decide) ?h2 XB TB (.inl rfl) ?_
    case htx =>
      intro i v x hv hx
      cases i with
      | zero =>
        have e1 : Value.str (T2 "a") t = v := by simpa using hv
        have e2 : T2 "a" = x := by simpa using hx
        exact ⟨t, by rw [← e1, e2]⟩
      | succ j => simp at hx
    case h1 => exact fun x hx => okHdr_len (List.all_eq_true.mp ok_more x (by rw [List.mem_singleton.mp hx]; exact List.mem_cons_self ..))
    case h2 => exact fun x hx => okHdr_exp (List.all_eq_true.mp ok_more x (by rw [List.mem_singleton.mp hx]; exact List.mem_cons_self ..))
    · intro h' tk v new F' N' hD ho
      refine h h' tk v new F' N' ?_ ho
      rw [alone_list]
      exact hD
  | tup hm hv =>
    cases hv with
    | cons x t hv =>
    cases hv with
    | cons y t2 hv =>
    cases hv
    refine told_gen (hs := [T2 "a", T2 "b=c"]) (keep := news) (ek := "AttributeError") henv B F X N T hke hd hu (it_tup (hs _ hm)) (fun _ h => h) (Nat.le_refl _) ?htx (fun v _ hlt => absurd hlt (Nat.lt_irrefl _)) ?h1 (by decide) ?h2 XB TB (.inl rfl) ?_
    case htx =>
      intro i v x hv hx
      cases i with
      | zero =>
        have e1 : Value.str (T2 "a") t = v := by simpa using hv
        have e2 : T2 "a" = x := by simpa using hx
        exact ⟨t, by rw [← e1, e2]⟩
      | succ j =>
        cases j with
        | zero =>
          have e1 : Value.str (T2 "b=c") t2 = v := by simpa using hv
          have e2 : T2 "b=c" = x := by simpa using hx
          exact ⟨t2, by rw [← e1, e2]⟩
        | succ j => simp at hx
    case h1 => exact fun x hx => okHdr_len (List.all_eq_true.mp ok_more x hx)
    case h2 => exact fun x hx => okHdr_exp (List.all_eq_true.mp ok_more x hx)
    · intro h' tk v new F' N' hD ho
      refine h h' tk v new F' N' ?_ ho
      rw [alone_tup]
      exact hD
end
end Mine
namespace Mine
local macro_rules | `(tactic| k_room) => `(tactic| ((try simp only [depth_under_make, depth_under_kw, depth_in1, depth_deeper, depth_caller, recursionLimit]); omega))
local macro_rules | `(tactic| walk_at "my.mem") => `(tactic| first | with_reducible assumption | exact List.mem_cons_self .. | ((with_reducible refine List.mem_cons_of_mem _ ?_); walk_at "my.mem") | ((with_reducible refine List.mem_append.mpr (Or.inl ?_)); walk_at "my.mem") | ((with_reducible refine List.mem_append.mpr (Or.inr ?_)); walk_at "my.mem"))
local macro_rules | `(tactic| k_mem) => `(tactic| walk_at "my.mem")
local macro_rules | `(tactic| k_all) => `(tactic| with_reducible assumption)
local macro_rules | `(tactic| walk_at "my.enter") => `(tactic|
  (refine' code_def ?k1 ?k2 ?k3 ?k4 ?k5 ?kA ?kF ?kK ?k6 ?k7 ?k8 ?k9 ?kB ?_ ?c2 ?c3 ?c4 ?c5; (case kA => exact rfl); (case kF => assumption); (case kK => assumption); (case k1 => k_asm); (case k2 => k_asm); (case k3 => k_asm); (case k4 => k_asm); (case k5 => k_asm); (case k6 => k_is); (case k7 => k_is); (case k8 => k_room); (case k9 => first | exact BindsTo.of_eq rfl | exact binds_K (by k_in) rfl (by k_is) rfl rfl rfl | fail "k_enter: no rule for these arguments"); (case c5 => decide); (case kB => exact locs rfl); (case c2 => exact rfl); (case c3 => exact rfl); (case c4 => exact rfl); k_whole; intro g' L' h' FG' F' N' B' X' T'; (try dsimp only); (try k_lift B'); (try k_fold)))
local macro_rules | `(tactic| walk_at "eval Name") => `(tactic| (k_here; k_dflt (refine' ld_hyp ?k1 ?k2 ?k3 ?_; (case k2 => with_reducible assumption); (case k1 => k_asm); (case k3 => exact rfl); k_whole)))
local macro_rules | `(tactic| walk_at "subscriptTail") => `(tactic| (k_here; (with_reducible show wpAny _ _ (subscriptTail _ _ (Value.ref _) (Value.int _ _)) _ _ _); k_dflt (refine' item_tupleT ?t ?a ?b ?c ?d ?_; (case t => exact News.isTup (by k_asm) (by k_mem)); (case a => decide); (case b => decide); (case c => rfl); (case d => rfl); k_whole)))
local macro_rules | `(tactic| walk_at "exec For Name Name cons nil") => `(tactic| (k_here; (rename Fr _ _ _ _ => lF'); (with_unfolding_all refine' For_invVF lF' ?k1 ?k2 ?_; (case k1 => exact rfl); (case k2 => exact rfl); k_whole)))
local macro_rules | `(tactic| walk_at "call builtin:isinstance") => `(tactic| (k_here; (with_reducible show wpAny _ _ (call _ [Value.ref _, Value.type "list"]) _ _ _); k_dflt (refine' isi_lst ?N ?m ?_; (case N => k_asm); (case m => k_mem); k_whole)))
local macro_rules | `(tactic| walk_at "binaryOp Add ref ref") => `(tactic| (k_here; (with_reducible show wpAny _ _ (binaryOp _ (Value.ref _) (Value.ref _)) _ _ _); k_dflt (refine' cat_L ?F ?N ?a ?b ?_ ?z; (case F => k_asm); (case N => k_asm); (case a => k_mem); (case b => k_mem); (case z => (rw [show sizeLine = 16777216 from rfl]; omega)); k_whole); intro D' h' F' N' l1))
/-- the loop of _law_due -/
def Rdu (ks : List Nat) (news : List (Addr × Obj)) (i : Nat) (tn : List (Addr × Obj)) (m : Str → Option Value) : Prop :=
  ∃ (r : Addr) (rs : List Value) (k : Nat) (ds : List Dat), (r, listOf rs.toArray k) ∈ tn ++ news ∧ DatAll (tn ++ news) rs ds ∧ ds.length ≤ i ∧ dueRow [] ks = dueRow ds (ks.drop i) ∧ m (Str.ofString "due") = some (.ref r)
theorem due_end {h₀ : Heap} {L D l : Addr} {lo : Obj} {ks : List Nat} {news tn own : List (Addr × Obj)} {vs : List Value} {k i tk : Nat} {ds : List Dat} {m' : Str → Option Value} {h' : Heap} {s₁ : Shared}
    (F : Fr h₀ L h' m') (N : News h₀ L h' ((D, listOf vs.toArray k) :: ((tn ++ news) ++ own))) (l9 : ∀ q ∈ (tn ++ news) ++ own, @LT.lt Nat _ q.1 D) (hoff : OwnOff own ((tn ++ news).map (·.1))) (hl : (l, lo) ∈ news) (hov : Over tn news)
    (hD : DatAll ((D, listOf vs.toArray k) :: (tn ++ news)) vs ds) (hdl : ds.length ≤ i + 1) (hdue : dueRow [] ks = dueRow ds (ks.drop (i + 1))) (mr : m' (Str.ofString "due") = some (.ref D)) :
    InvEndG h₀ L (fun m' nx => (l, lo) ∈ nx ∧ Jadd news (Rdu ks news) (i + 1) m' nx) own s₁ { s₁ with heap := h', toks := tk } := by
  refine add_end (add := [(D, listOf vs.toArray k)]) F N ?_ hoff hl ?_ hov ⟨D, vs, k, ds, List.mem_cons_self .., hD, hdl, hdue, mr⟩
  · exact fun q hq => by simpa [List.append_assoc] using hq
  · exact Over.cons (fun z hz => l9 z (by simpa [List.append_assoc] using hz)) Over.nil
section
variable {w : World} {d u : Nat} {gd : Option (List Code)} {A₀ : Around} {E : Value → Shared → Prop} {s : Shared} {base h₀ : Heap} {outer : List Env} {env : Env} {L : Addr} {m mg mb : Str → Option Value} {news : List (Addr × Obj)} {p : Program} {loose : List Str} {mean : ExcName → Option Value} {Q : Value → Shared → Prop}
theorem due_call {l : Addr} {vs : List Value} {n : Nat} {ks : List Nat}
    (B : Below A₀ base outer h₀) (F : Fr h₀ L s.heap m) (X : (Mine.k0.heap_1 w.params).In h₀) (N : News h₀ L s.heap news) (T : Top p loose mean mg mb h₀) (hf : env.frame = some L) (hke : env.scope.kind = .function)
    (hd : d < 800) (hl : (l, listOf vs.toArray n) ∈ news) (hC : Alike (CellIn pg w news) vs ks) (hk : ks.length ≤ 100)
    (h : ∀ h' tk v new, Fr h₀ L h' m → News h₀ L h' (new ++ news) → DatIn (new ++ news) v (dueRow [] ks) → Over new news → Q v { s with heap := h', toks := tk }) :
    wpAny (model pg w) ⟨none, d, some (env :: outer), gd, u⟩ (call (.ref 180) [.ref l]) Q E s := by
  refine wpAny_call ?_
  walk_at "my.enter"
  k_steps
  rename_i r0 _ l1 h1 F1 N1
  replace N1 := news_re (news' := [(r0, listOf [].toArray 0)] ++ news) N1 (fun _ h => h)
  have l2 := l1
  with_unfolding_all refine kdl_iter (l := l) (vs := vs) (nn := n) (news := [(r0, listOf [].toArray 0)] ++ news) (Jadd news (Rdu ks news)) ?hh (List.mem_append.mpr (.inr hl)) F1 N1 ?init ?turn ?done
  case hh => exact rfl
  case init => exact ⟨_, rfl, Over.cons l2 Over.nil, r0, [], 0, [], List.mem_cons_self .., .nil, Nat.le_refl _, rfl, rfl⟩
  case done =>
    rintro m₁ news₁ h2 tk2 ⟨tn, rfl, hov, r, rs, k, ds, hr, hD, hdl, hdue, mr⟩ F2 N2
    k_steps
    (rename Fr _ _ _ _ => F9); (rename News _ _ _ _ => N9)
    refine h _ _ _ tn F9 N9 ?_ hov
    have e : dueRow [] ks = .list ds := by
      rw [hdue, List.drop_of_length_le (by rw [hC.1]; exact Nat.le_refl _)]; rfl
    rw [e]
    exact DatIn.list hr hD
  case turn =>
    rintro i v m₁ news₁ h2 tk2 own hv hoff hl' ⟨tn, rfl, hov, r, rs, k, ds, hr, hD, hdl, hdue, mr⟩ F2 N2
    obtain ⟨kk, hkk, t, a, b, c, n2, rfl, ht, hta, hb, hc⟩ := hC.2 i v hv
    have hik : i < ks.length := (List.getElem?_eq_some_iff.mp hkk).1
    have hdr : ks.drop i = kk :: ks.drop (i + 1) := by
      rw [List.drop_eq_getElem_cons hik]
      rw [List.getElem?_eq_getElem hik] at hkk
      rw [Option.some.inj hkk]
    have ht2 : (t, ({ cls := .type "tuple", data := .seq [a, b, c].toArray n2 } : Obj)) ∈ (tn ++ news) ++ own := List.mem_append.mpr (.inl (List.mem_append.mpr (.inr ht)))
    have hr2 : (r, listOf rs.toArray k) ∈ (tn ++ news) ++ own := List.mem_append.mpr (.inl hr)
    rcases dueK_cases kk with ⟨es, e, he, _⟩ | e | e
    · rw [e] at hb
      cases hb with
      | list hm hall =>
      rename_i b2 bs nb
      have hm2 : (b2, listOf bs.toArray nb) ∈ (tn ++ news) ++ own := List.mem_append.mpr (.inl (List.mem_append.mpr (.inr hm)))
      have z1 : rs.length ≤ 100 := by rw [hD.length]; omega
      have z2 : bs.length ≤ 1 := by rw [hall.length]; exact he
      k_steps
      (rename Fr _ _ _ _ => F9); (rename News _ _ _ _ => N9)
      (rename (∀ q ∈ (tn ++ news) ++ own, @LT.lt Nat _ q.1 _) => l9)
      refine due_end F9 N9 l9 hoff hl hov ((hD.mono fun q hq => List.mem_cons_of_mem _ hq).append (hall.mono fun q hq => List.mem_cons_of_mem _ (List.mem_append.mpr (.inr hq)))) ?_ ?_ rfl
      · rw [List.length_append]; omega
      · rw [hdue, hdr, dueRow_list e]
    · rw [e] at hb
      cases hb
      k_steps
      (rename Fr h₀ L _ m => F9); (rename News h₀ L _ _ => N9)
      refine h _ _ _ tn F9 (news_re N9 fun q hq => List.mem_append.mpr (.inl hq)) ?_ hov
      rw [hdue, hdr, dueRow_attr e]
      exact DatIn.str _ _
    · rw [e] at hb
      cases hb
      k_steps
      (rename Fr h₀ L _ m => F9); (rename News h₀ L _ _ => N9)
      refine h _ _ _ tn F9 (news_re N9 fun q hq => List.mem_append.mpr (.inl hq)) ?_ hov
      rw [hdue, hdr, dueRow_type e]
      exact DatIn.str _ _
end
end Mine
namespace Mine
local macro_rules | `(tactic| k_room) => `(tactic| ((try simp only [depth_under_make, depth_under_kw, depth_in1, depth_deeper, depth_caller, recursionLimit]); omega))
local macro_rules | `(tactic| walk_at "my.mem") => `(tactic| first | with_reducible assumption | exact List.mem_cons_self .. | ((with_reducible refine List.mem_cons_of_mem _ ?_); walk_at "my.mem") | ((with_reducible refine List.mem_append.mpr (Or.inl ?_)); walk_at "my.mem") | ((with_reducible refine List.mem_append.mpr (Or.inr ?_)); walk_at "my.mem"))
local macro_rules | `(tactic| k_mem) => `(tactic| walk_at "my.mem")
local macro_rules | `(tactic| k_all) => `(tactic| with_reducible assumption)
local macro_rules | `(tactic| walk_at "my.enter") => `(tactic|
  (refine' code_def ?k1 ?k2 ?k3 ?k4 ?k5 ?kA ?kF ?kK ?k6 ?k7 ?k8 ?k9 ?kB ?_ ?c2 ?c3 ?c4 ?c5; (case kA => exact rfl); (case kF => assumption); (case kK => assumption); (case k1 => k_asm); (case k2 => k_asm); (case k3 => k_asm); (case k4 => k_asm); (case k5 => k_asm); (case k6 => k_is); (case k7 => k_is); (case k8 => k_room); (case k9 => first | exact BindsTo.of_eq rfl | exact binds_K (by k_in) rfl (by k_is) rfl rfl rfl | fail "k_enter: no rule for these arguments"); (case c5 => decide); (case kB => exact locs rfl); (case c2 => exact rfl); (case c3 => exact rfl); (case c4 => exact rfl); k_whole; intro g' L' h' FG' F' N' B' X' T'; (try dsimp only); (try k_lift B'); (try k_fold)))
local macro_rules | `(tactic| walk_at "eval Name") => `(tactic| (k_here; k_dflt (refine' ld_hyp ?k1 ?k2 ?k3 ?_; (case k2 => with_reducible assumption); (case k1 => k_asm); (case k3 => exact rfl); k_whole)))
local macro_rules | `(tactic| walk_at "exec For Name Name cons nil") => `(tactic| (k_here; (rename Fr _ _ _ _ => lF'); (with_unfolding_all refine' For_invVF lF' ?k1 ?k2 ?_; (case k1 => exact rfl); (case k2 => exact rfl); k_whole)))
local macro_rules | `(tactic| walk_at "call builtin:list.append") => `(tactic| (k_here; (with_reducible show wpAny _ _ (call (Value.builtin _) [Value.ref _, _]) _ _ _); k_dflt (refine' append_K ?k1 ?k2 ?k3 ?_ ?z; (case k1 => k_asm); (case k2 => k_asm); (case k3 => k_upd); (case z => ((simp only [List.size_toArray, List.length_append, List.length_cons, List.length_nil]); (rw [show sizeLine = 16777216 from rfl]); omega)); k_whole); intro h' F' N'; (try k_sweep)))
def signsTo (x : Str) (i : Nat) : List Dat := (x.cps.toList.take i).flatMap signD
def Jsg (r : Addr) (news : List (Addr × Obj)) (x : Str) (i : Nat) (m : Str → Option Value) (nx : List (Addr × Obj)) : Prop :=
  ∃ (rs : List Value) (k : Nat) (tn : List (Addr × Obj)), nx = (r, listOf rs.toArray k) :: (tn ++ news) ∧ Over tn news ∧ (∀ q ∈ tn, @LT.lt Nat _ r q.1) ∧ DatAll tn rs (signsTo x i) ∧ (signsTo x i).length ≤ i ∧ i ≤ 100 ∧ m (Str.ofString "due") = some (.ref r)
/-- a sign that is none of the three is told from them -/
def tests (x : Str) : Bool := x.cps.toList.all fun c => (Builtin.Str.occurrences (Str.ofString " ;=") ⟨#[c]⟩ 0 (Str.ofString " ;=").length 1).isEmpty == !decide (c = 32 ∨ c = 59 ∨ c = 61)
theorem tests_txt : ∀ k < 8, tests (txtK k) = true := by decide +kernel
theorem signsTo_next {x : Str} {i c : Nat} (hc : x.cps[i]? = some c) : signsTo x (i + 1) = signsTo x i ++ signD c := by
  have e : x.cps.toList.take (i + 1) = x.cps.toList.take i ++ [c] := by rw [List.take_add_one, Array.getElem?_toList, hc]; rfl
  unfold signsTo
  rw [e, List.flatMap_append]
  simp
theorem sg_test {x : Str} {i c : Nat} (ht : tests x = true) (hc : x.cps[i]? = some c) : (Builtin.Str.occurrences (Str.ofString " ;=") ⟨#[c]⟩ 0 (Str.ofString " ;=").length 1).isEmpty = !decide (c = 32 ∨ c = 59 ∨ c = 61) := by
  have q := List.all_eq_true.mp ht c (List.mem_of_getElem? (i := i) (by rw [Array.getElem?_toList]; exact hc))
  exact eq_of_beq q
theorem sg_end {h₀ : Heap} {L r : Addr} {x : Str} {news tn own add news' : List (Addr × Obj)} {rs rs0 : List Value} {k k0 i tk : Nat} {m' : Str → Option Value} {h' : Heap} {s₁ : Shared}
    (F : Fr h₀ L h' m') (N : News h₀ L h' news') (hoff : OwnOff own (((r, listOf rs0.toArray k0) :: (tn ++ news)).map (·.1))) (hr : (r, listOf rs.toArray k) ∈ news') (hs : ∀ q ∈ add ++ (tn ++ (news ++ own)), q ∈ news')
    (ho : Over add (tn ++ (news ++ own))) (hra : ∀ q ∈ add, @LT.lt Nat _ r q.1) (hov : Over tn news) (hrt : ∀ q ∈ tn, @LT.lt Nat _ r q.1)
    (hD : DatAll (add ++ tn) rs (signsTo x (i + 1))) (hdl : (signsTo x (i + 1)).length ≤ i + 1) (hi : i < 100) (mr : m' (Str.ofString "due") = some (.ref r)) :
    InvEndG h₀ L (Jsg r news x (i + 1)) own s₁ { s₁ with heap := h', toks := tk } := by
  refine ⟨h', tk, m', _, (r, listOf rs.toArray k) :: ((add ++ tn) ++ news), rfl, F, N, ?_, ?_, ?_, rs, k, add ++ tn, rfl, ?_, ?_, hD, hdl, hi, mr⟩
  · intro q hq
    rcases List.mem_cons.mp hq with e | hq
    · rw [e]; exact hr
    · refine hs q ?_
      simp only [List.mem_append] at hq ⊢
      rcases hq with (h | h) | h
      · exact .inl h
      · exact .inr (.inl h)
      · exact .inr (.inr (.inl h))
  · exact fun q hq => hs q (List.mem_append.mpr (.inr (List.mem_append.mpr (.inr (List.mem_append.mpr (.inr hq))))))
  · intro q hq a ha
    obtain ⟨z, hz, e⟩ := List.mem_map.mp ha
    subst e
    rcases List.mem_cons.mp hz with e | hz
    · rw [e]; exact hoff q hq _ (List.mem_cons_self ..)
    · rcases List.mem_append.mp hz with hz | hz
      · rcases List.mem_append.mp hz with hz | hz
        · exact Nat.ne_of_lt (ho z hz q (List.mem_append.mpr (.inr (List.mem_append.mpr (.inr hq)))))
        · exact hoff q hq _ (List.mem_map.mpr ⟨z, List.mem_cons_of_mem _ (List.mem_append.mpr (.inl hz)), rfl⟩)
      · exact hoff q hq _ (List.mem_map.mpr ⟨z, List.mem_cons_of_mem _ (List.mem_append.mpr (.inr hz)), rfl⟩)
  · exact (ho.mono fun z hz => List.mem_append.mpr (.inr (List.mem_append.mpr (.inl hz)))).append hov
  · intro q hq
    rcases List.mem_append.mp hq with hq | hq
    · exact hra q hq
    · exact hrt q hq
theorem sg_put {h₀ : Heap} {L r a b l : Addr} {x : Str} {news tn own : List (Addr × Obj)} {rs : List Value} {k k0 i tk c na nb nl : Nat} {ta tb tc : Tok} {m' : Str → Option Value} {h' : Heap} {s₁ : Shared}
    (F : Fr h₀ L h' m') (N : News h₀ L h' ((l, listOf [Value.ref a, Value.ref b].toArray nl) :: (b, ({ cls := .type "tuple", data := .seq [Value.str (Str.ofString "version") tb, Value.str (Str.ofString "0") tc].toArray nb } : Obj)) :: (a, ({ cls := .type "tuple", data := .seq [Value.str ⟨#[c]⟩ ta, Value.none].toArray na } : Obj)) :: (r, listOf (rs.toArray.push (.ref l)) k) :: (tn ++ (news ++ own))))
    (hoff : OwnOff own (((r, listOf rs.toArray k0) :: (tn ++ news)).map (·.1))) (la : @LT.lt Nat _ r a ∧ AllLt a (tn ++ (news ++ own))) (lb : @LT.lt Nat _ a b ∧ @LT.lt Nat _ r b ∧ AllLt b (tn ++ (news ++ own))) (ll : @LT.lt Nat _ b l ∧ @LT.lt Nat _ a l ∧ @LT.lt Nat _ r l ∧ AllLt l (tn ++ (news ++ own)))
    (hov : Over tn news) (hrt : ∀ q ∈ tn, @LT.lt Nat _ r q.1) (hD : DatAll tn rs (signsTo x i)) (hdl : (signsTo x i).length ≤ i) (hi : i < 100) (hc : x.cps[i]? = some c) (hn : ¬ (c = 32 ∨ c = 59 ∨ c = 61)) (mr : m' (Str.ofString "due") = some (.ref r)) :
    InvEndG h₀ L (Jsg r news x (i + 1)) own s₁ { s₁ with heap := h', toks := tk } := by
  have e : signsTo x (i + 1) = signsTo x i ++ [bareD ⟨#[c]⟩] := by rw [signsTo_next hc]; unfold signD; rw [if_neg hn]
  rw [List.push_toArray] at N
  refine sg_end (add := [(l, listOf [Value.ref a, Value.ref b].toArray nl), (b, ({ cls := .type "tuple", data := .seq [Value.str (Str.ofString "version") tb, Value.str (Str.ofString "0") tc].toArray nb } : Obj)), (a, ({ cls := .type "tuple", data := .seq [Value.str ⟨#[c]⟩ ta, Value.none].toArray na } : Obj))]) (rs := rs ++ [.ref l]) F N hoff (List.mem_cons_of_mem _ (List.mem_cons_of_mem _ (List.mem_cons_of_mem _ (List.mem_cons_self ..)))) ?_
    (Over.cons (allLt_out ll.2.2.2) (Over.cons (allLt_out lb.2.2) (Over.cons (allLt_out la.2) Over.nil))) ?_ hov hrt ?_ ?_ hi mr
  · intro q hq
    simp only [List.cons_append, List.nil_append, List.mem_cons] at hq ⊢
    rcases hq with h | h | h | h
    · exact .inl h
    · exact .inr (.inl h)
    · exact .inr (.inr (.inl h))
    · exact .inr (.inr (.inr (.inr h)))
  · intro q hq
    simp only [List.mem_cons, List.not_mem_nil, or_false] at hq
    rcases hq with rfl | rfl | rfl
    · exact ll.2.2.1
    · exact lb.2.1
    · exact la.1
  · rw [e]
    refine (hD.mono fun q hq => List.mem_append.mpr (.inr hq)).append (.one ?_)
    exact DatIn.list (List.mem_cons_self ..) (.cons (DatIn.tuple (List.mem_cons_of_mem _ (List.mem_cons_of_mem _ (List.mem_cons_self ..))) (.cons (.str _ _) (.cons .none .nil))) (.cons (DatIn.tuple (List.mem_cons_of_mem _ (List.mem_cons_self ..)) (.cons (.str _ _) (.cons (.str _ _) .nil))) .nil))
  · rw [e, List.length_append]; exact Nat.succ_le_succ hdl
section
variable {w : World} {d u : Nat} {gd : Option (List Code)} {A₀ : Around} {E : Value → Shared → Prop} {s : Shared} {base h₀ : Heap} {outer : List Env} {env : Env} {L : Addr} {m mg mb : Str → Option Value} {news : List (Addr × Obj)} {p : Program} {loose : List Str} {mean : ExcName → Option Value} {Q : Value → Shared → Prop}
theorem sg_call {x : Str} {t : Tok}
    (B : Below A₀ base outer h₀) (F : Fr h₀ L s.heap m) (X : (Mine.k0.heap_1 w.params).In h₀) (N : News h₀ L s.heap news) (T : Top p loose mean mg mb h₀) (hf : env.frame = some L) (hke : env.scope.kind = .function)
    (hd : d < 800) (hx : x.cps.size ≤ 100) (ht : tests x = true)
    (h : ∀ h' tk v new, Fr h₀ L h' m → News h₀ L h' (new ++ news) → DatIn new v (.list (signsL x)) → Over new news → Q v { s with heap := h', toks := tk }) :
    wpAny (model pg w) ⟨none, d, some (env :: outer), gd, u⟩ (call (.ref 166) [.str x t]) Q E s := by
  refine wpAny_call ?_
  walk_at "my.enter"
  k_steps
  rename_i r0 _ l1 h1 F1 N1
  replace N1 := news_re (news' := (r0, listOf [].toArray 0) :: ([] ++ news)) N1 (fun _ h => h)
  have l2 := l1
  with_unfolding_all refine it_str (keep := []) (Jsg r0 news x) ?hh (fun _ _ _ _ q hq => nomatch hq) F1 N1 ?init ?turn ?done
  case hh => exact rfl
  case init => exact ⟨[], 0, [], rfl, Over.nil, fun _ h => (nomatch h), .nil, Nat.le_refl _, Nat.zero_le _, rfl⟩
  case done =>
    rintro m₁ news₁ h2 tk2 ⟨rs, k, tn, rfl, hov, hrt, hD, hdl, _, mr⟩ F2 N2
    k_steps
    (rename Fr _ _ _ _ => F9); (rename News _ _ _ _ => N9)
    refine h _ _ _ ((r0, listOf rs.toArray k) :: tn) F9 N9 ?_ (Over.cons l2 hov)
    have e : signsTo x x.cps.size = signsL x := by
      unfold signsTo signsL
      rw [List.take_of_length_le (by simp)]
    rw [e] at hD
    exact DatIn.list (List.mem_cons_self ..) (hD.mono fun q hq => List.mem_cons_of_mem _ hq)
  case turn =>
    rintro i v m₁ news₁ h2 tk2 own hi ⟨c, u9, hc, rfl⟩ hoff ⟨rs, k, tn, rfl, hov, hrt, hD, hdl, hi9, mr⟩ F2 N2
    simp only [List.cons_append, List.append_assoc] at N2
    have hrl : rs.length ≤ 100 := by rw [hD.length]; omega
    have hr9 : ∀ q ∈ tn ++ (news ++ own), q.1 ≠ r0 := by
      intro q hq
      rcases List.mem_append.mp hq with hq | hq
      · exact Nat.ne_of_gt (hrt q hq)
      · rcases List.mem_append.mp hq with hq | hq
        · exact Nat.ne_of_lt (l2 q hq)
        · exact hoff q hq r0 (List.mem_cons_self ..)
    have hst := sg_test ht hc
    k_steps
    · (rename Fr _ _ _ _ => F9); (rename News _ _ _ _ => N9)
      (rename List.isEmpty _ = true => ht9)
      refine sg_put F9 N9 hoff (by assumption) (by assumption) (by assumption) hov hrt hD hdl (by omega) hc ?_ mr
      rw [hst] at ht9
      simpa using ht9
    · (rename Fr _ _ _ _ => F9); (rename News _ _ _ _ => N9)
      (rename List.isEmpty _ = false => ht9)
      rw [hst] at ht9
      have ht8 : c = 32 ∨ c = 59 ∨ c = 61 := by
        by_cases h8 : c = 32 ∨ c = 59 ∨ c = 61
        · exact h8
        · rw [decide_eq_false h8] at ht9; exact absurd ht9 (by decide)
      have e : signsTo x (i + 1) = signsTo x i := by rw [signsTo_next hc]; unfold signD; rw [if_pos ht8, List.append_nil]
      refine sg_end (add := []) F9 N9 hoff (List.mem_cons_self ..) (fun q hq => List.mem_cons_of_mem _ hq) Over.nil (fun q hq => nomatch hq) hov hrt ?_ ?_ (by omega) mr
      · rw [e]; exact hD
      · rw [e]; omega
end
end Mine
namespace Mine
local macro_rules | `(tactic| k_room) => `(tactic| ((try simp only [depth_under_make, depth_under_kw, depth_in1, depth_deeper, depth_caller, recursionLimit]); omega))
local macro_rules | `(tactic| walk_at "my.mem") => `(tactic| first | with_reducible assumption | exact List.mem_cons_self .. | ((with_reducible refine List.mem_cons_of_mem _ ?_); walk_at "my.mem") | ((with_reducible refine List.mem_append.mpr (Or.inl ?_)); walk_at "my.mem") | ((with_reducible refine List.mem_append.mpr (Or.inr ?_)); walk_at "my.mem"))
local macro_rules | `(tactic| k_mem) => `(tactic| walk_at "my.mem")
local macro_rules | `(tactic| k_all) => `(tactic| with_reducible assumption)
local macro_rules | `(tactic| walk_at "eval Name") => `(tactic| (k_here; (fail_if_success (with_reducible show wpAny _ _ (eval (Expr.Name _ _) (compEnvC _ _ _ _)) _ _ _)); k_dflt (refine' ldx_hyp ?k1 ?k2 ?k3 ?_ ?a ?b ?c; (case a => rfl); (case b => rfl); (case c => decide); (case k2 => with_reducible assumption); (case k1 => k_asm); (case k3 => exact rfl); k_whole)))
local macro_rules | `(tactic| walk_at "exec For Name Name cons nil") => `(tactic| (k_here; (rename Fr _ _ _ _ => lF'); (with_unfolding_all refine' For_invVF lF' ?k1 ?k2 ?_; (case k1 => exact rfl); (case k2 => exact rfl); k_whole)))
local macro_rules | `(tactic| walk_at "exec For Name Call cons nil") => `(tactic| (k_here; (rename Fr _ _ _ _ => lF'); (with_unfolding_all refine' For_invVF lF' ?k1 ?k2 ?_; (case k1 => exact rfl); (case k2 => exact rfl); k_whole)))
local macro_rules | `(tactic| walk_at "call ref") => `(tactic| (k_here; k_dflt (refine' th_call ?B ?F ?X ?N ?T ?hf ?hke ?hd ?_; (case N => k_asm); (case B => k_asm); (case F => k_asm); (case X => k_asm); (case T => k_asm); (case hf => exact rfl); (case hke => exact rfl); (case hd => decide); k_whole); intro h' tk' a' vs' n' new' hm' hC' ho' F' N'))
local macro_rules | `(tactic| walk_at "eval ListComp") => `(tactic| (k_here; k_dflt (refine LCg.ListComp_U (F₀ := by k_asm) (by with_unfolding_all rfl) (by decide) (by rfl) (by decide) (by rfl) ?_)))
local macro_rules | `(tactic| walk_at "exec Assign cons ListComp") => `(tactic| (k_here; k_dflt (refine LCg.Assign_ListComp_U (F₀ := by k_asm) (by rfl) (by with_unfolding_all rfl) (by with_unfolding_all rfl) (by decide) (by rfl) (by decide) (by rfl) (by rfl) (by rfl) ?_)))
local macro_rules | `(tactic| walk_at "my.step") => `(tactic| (first | (k_unfold; (try dsimp only)) | (k_end; wrow_close) | walk1 | (dsimp only; walk1) | (leave1; walk_say "STEP leave1"; try dsimp only) | fail "no step"))
local macro_rules | `(tactic| walk_at "subscriptTail") => `(tactic| (k_here; (with_reducible show wpAny _ _ (subscriptTail _ _ (Value.ref _) (Value.int _ _)) _ _ _); k_dflt (refine' item_tupleT ?t ?a ?b ?c ?d ?_; (case t => exact News.isTup (by k_asm) (by k_mem)); (case a => decide); (case b => decide); (case c => rfl); (case d => rfl); k_whole)))
local macro_rules | `(tactic| walk_at "subscriptTail") => `(tactic| (k_here; (with_reducible show wpAny _ _ (subscriptTail _ _ (Value.ref _) (Value.int _ _)) _ _ _); k_dflt (refine' thing_at ?N ?m ?C ?a ?b ?_; (case C => with_reducible assumption); (case N => k_asm); (case m => k_mem); (case a => first | decide | omega); (case b => first | decide | omega); k_whole); intro v' hv'))
local macro_rules | `(tactic| walk_at "call builtin:len") => `(tactic| (k_here; (with_reducible show wpAny _ _ (call (Value.builtin "len") [Value.ref _]) _ _ _); k_dflt (refine' len_L ?N ?m ?z ?_; (case N => k_asm); (case m => k_mem); (case z => omega); k_whole); intro t' tk'))
local macro_rules | `(tactic| walk_at "call type:range") => `(tactic| (k_here; (rename Fr _ _ _ _ => F'); (rename News _ _ _ _ => N'); (with_unfolding_all refine range1_rows F' N' ?_; intro _ _ _ _ _ _ _ _ _)))
local macro_rules | `(tactic| walk_at "binaryOp Add ref ref") => `(tactic| (k_here; (with_reducible show wpAny _ _ (binaryOp _ (Value.ref _) (Value.ref _)) _ _ _); k_dflt (refine' cat_L ?F ?N ?a ?b ?_ ?z; (case F => k_asm); (case N => k_asm); (case a => k_mem); (case b => k_mem); (case z => (rw [show sizeLine = 16777216 from rfl]; (simp only [List.length_cons, List.length_nil]); omega)); k_whole); intro D' h' F' N' l1))
local macro_rules | `(tactic| walk_at "subscriptTail Name Slice ref ref") => `(tactic| (k_here; (with_reducible show wpAny _ _ (subscriptTail _ (PySem.Expr.Slice _ _ none _) (Value.ref _) (Value.ref _)) _ _ _); k_dflt (refine' slc_L ?F ?N ?l ?z0 ?_ ?s ?t ?z; (case F => k_asm); (case N => k_asm); (case l => k_mem); (case z0 => omega); (case s => with_unfolding_all rfl); (case t => kmk_pure); (case z => (rw [show sizeLine = 16777216 from rfl]; omega)); k_whole); intro D' h' F' N' l1))
local macro_rules | `(tactic| walk_at "call type:tuple") => `(tactic| (k_here; (with_reducible show wpAny _ _ (call (Value.type "tuple") [Value.ref _]) _ _ _); k_dflt (refine' tup_L ?F ?N ?l ?z ?_; (case F => k_asm); (case N => k_asm); (case l => k_mem); (case z => ((try simp only [List.length_drop]); omega)); k_whole); intro D' h' F' N' l1))
theorem law_walk : PySem.Challenge.rw_in0099_02.Holds := by
  refine holds_law said fun sd => ?_
  clear sd
  refine holds_open (q := v1) (loose := lo1) (Xt := fun s => recOk (PySem.Challenge.rw_in0099_02).row.records s) (XP := fun _ _ => True ∧ True) (Yf := kh.obs) (Ya := kh.val) (YP := Hook.says (kHook k0.heap_1 keys keys_eq)) (N := 4366) left (Hook.of (kHook k0.heap_1 keys keys_eq)) (Hook.keeps (kHook k0.heap_1 keys keys_eq)) (fun _ _ => ⟨trivial, trivial⟩) (fun _ _ _ x _ => x) (by rfl) (by rfl) (by rfl) (fun s e => recFacts_of e) (by rfl) (by first | assumption | decide +kernel) (by decide +kernel) ⟨rfl, rfl, rfl, rfl, rfl, by decide +kernel⟩ ?hw ?hc
  case hw => w_witness2
  k_go0
  k_steps
  (rename Fr _ _ _ _ => F1); (rename News _ _ _ _ => N1); (rename Over _ _ => ho1); (rename CellsAre _ _ _ _ _ => hC1)
  have na1 := cell_apart ho1
  replace N1 := cell_first N1
  repeat ((fail_if_success (with_reducible show LCg.CompSrc _ _ _ _ _ _ _ _ _ _ _ _ _ _)); walk_at "my.step")
  rename World => wd
  rename_i at0 tvs tn new htm h1 o1 d1 D0 ws h2 F2 N2 hI2 hC2 hL2 l2
  refine LCg.CompSrc.ledger rfl F2 N2 (List.mem_cons_self ..) ?hsz (fun g => ?rest)
  case hsz => rw [List.size_toArray, hI2.length, hC2, show sizeLine = 16777216 from rfl]; omega
  case rest =>
    refine lc_vals (n := ws.toArray.size) (fun _ y => ∃ k, CellIn pg wd new y k) (.inr ⟨_, List.mem_cons_self .., rfl, _, rfl⟩) ?turn ?fin _ 0 [] (Nat.zero_add _) rfl (fun j y h => by simp at h)
    case turn =>
      intro i v I oI C oC D m2 h3 tk3 E2 ys hi hv hC hx F3 N3 off ne
      obtain ⟨z, zt, rfl⟩ := int_of hI2 i v (by simpa using hv)
      have fm1 := Int.fmod_nonneg_of_pos z (b := 16) (by decide)
      have fm2 := Int.fmod_lt_of_pos z (b := 16) (by decide)
      repeat ((fail_if_success (with_reducible show TurnVal _ _ _ _ _ _ _ _)); walk_at "my.step")
      (rename Fr _ _ _ _ => F4); (rename News _ _ _ _ => N4); (rename CellIn _ _ _ _ _ => hv4)
      exact ⟨_, _, rfl, F4, N4, _, hv4⟩
    case fin =>
      intro ys hyl hys D h3 tk3 F3 N3 off3
      dsimp only
      have hwl : ws.toArray.size ≤ 4 := by rw [List.size_toArray, hI2.length, hC2]; exact Nat.min_le_left _ _
      have hy4 : ys.length ≤ 4 := by rw [hyl]; exact hwl
      obtain ⟨ks0, hks0⟩ := alike_of ys (fun i v hv => hys i v hv)
      repeat ((fail_if_success (with_reducible show LCg.CompSrc _ _ _ _ _ _ _ _ _ _ _ _ _ _)); walk_at "my.step")
      (rename Fr _ _ _ _ => F5); (rename News _ _ _ _ => N5); (rename CellIn _ _ _ _ _ => hv3)
      replace N5 := keep_cells N5
      obtain ⟨Dc, hDc⟩ := name_head N5
      subst hDc
      have hal := hks0.snoc (k := 3) hv3
      have hkl : (ks0 ++ [3]).length ≤ 5 := by
        rw [List.length_append, ← hks0.1]
        exact Nat.succ_le_succ hy4
      generalize ks0 ++ [3] = ks at hal hkl
      generalize ys ++ [_] = cvs at hal N5
      have hcl : cvs.length ≤ 5 := by rw [hal.1]; exact hkl
      refine LCg.CompSrc.ledger rfl F5 N5 (List.mem_cons_self ..) ?hsz2 (fun g => ?rest2)
      case hsz2 => rw [List.size_toArray, show sizeLine = 16777216 from rfl]; omega
      case rest2 =>
        refine lc_vals (n := cvs.toArray.size) (fun i y => ∃ k, ks[i]? = some k ∧ ThingIn pg wd new y k) (.inr ⟨_, List.mem_cons_self .., rfl, _, rfl⟩) ?turn2 ?fin2 _ 0 [] (Nat.zero_add _) rfl (fun j y h => by simp at h)
        case turn2 =>
          intro i v I oI C oC D m2 h3 tk3 E2 zs hi hv hC hx F3 N3 off ne
          obtain ⟨k, hk, t, a, b, c, n9, rfl, ht, hta, hb, hc⟩ := hal.2 i v (by simpa using hv)
          repeat ((fail_if_success (with_reducible show TurnVal _ _ _ _ _ _ _ _)); walk_at "my.step")
          (rename Fr _ _ _ _ => F4); (rename News _ _ _ _ => N4)
          exact ⟨_, _, rfl, F4, N4, k, hk, hta⟩
        case fin2 =>
          intro rvs hrl hrv Dr h6 tk6 F6 N6 off6
          dsimp only
          have hrA : Alike (ThingIn pg wd new) rvs ks := ⟨by rw [hrl, List.size_toArray, hal.1], hrv⟩
          have hrl5 : rvs.length ≤ 5 := by rw [hrA.1]; exact hkl
          repeat ((fail_if_success (with_reducible show wpAny _ _ (pyIter _) _ _ _)); walk_at "my.step")
          rename_i Dk ck _ _ _ _ _ _ _ _ _ _ _ _ R9 F9 N9 _
          with_unfolding_all refine rg_iter (n := cvs.length + 1) (fun i m nx => nx = (Dk, listOf rvs.toArray ck) :: (Dr, LCg.lst rvs) :: (Dc, listOf cvs.toArray 0) :: new ∧ m (Str.ofString "cells") = some (.ref Dc) ∧ m (Str.ofString "row") = some (.ref Dr) ∧ m (Str.ofString "kept") = some (.ref Dk)) ?hh R9 ?hsm ?hsz F9 N9 ?hj ?turn3 ?done3
          case hh => exact rfl
          case hsm => exact small_one (by decide) (by decide) (by omega) (by omega)
          case hsz => rw [rangeSize_nat]; omega
          case hj => exact ⟨rfl, rfl, rfl, rfl⟩
          case done3 =>
            rintro m₁ news₁ h7 tk7 ⟨rfl, mc, mr, mk⟩ F7 N7
            obtain ⟨X0, NX0, sX0⟩ := stage0 N7
            clear N7
            have mk0 := sX0 _ (List.mem_cons_self ..)
            have mr0 := sX0 _ (List.mem_cons_of_mem _ (List.mem_cons_self ..))
            have mc0 := sX0 _ (List.mem_cons_of_mem _ (List.mem_cons_of_mem _ (List.mem_cons_self ..)))
            have sn0 : ∀ q ∈ new, q ∈ X0 := fun q hq => sX0 q (List.mem_cons_of_mem _ (List.mem_cons_of_mem _ (List.mem_cons_of_mem _ hq)))
            repeat ((fail_if_success (with_reducible show wpAny _ _ (call (Value.ref 173) _) _ _ _)); walk_at "my.step")
            refine' told_any (vs := rvs) (ks := ks) (new := new) ?he ?B ?F ?X ?N ?T ?hke ?hd ?hu ?It ?hA ?hs ?hl ?XB ?TB ?ok
            case he => exact rfl
            case B => k_asm
            case F => k_asm
            case X => k_asm
            case N => k_asm
            case T => k_asm
            case hke => exact rfl
            case hd => decide
            case hu => decide
            case It => exact it_list mr0
            case hA => exact hrA
            case hs => exact sn0
            case hl => (try simp only [List.length_drop]); omega
            case XB => k_asm
            case TB => k_asm
            case ok =>
              intro h8 tk8 v8 new8 F8 N8 hD8 ho8
              obtain ⟨X1, NX1, sA1, sb1, sC1⟩ := stage1 N8
              clear N8
              replace hD8 := hD8.mono sA1
              have mk1 := sb1 _ mk0
              have mr1 := sb1 _ mr0
              have mc1 := sb1 _ mc0
              have sn1 : ∀ q ∈ new, q ∈ X1 := fun q hq => sb1 q (sn0 q hq)
              k_whole
              repeat ((fail_if_success (with_reducible show wpAny _ _ (call (Value.ref 180) _) _ _ _)); walk_at "my.step")
              refine' due_call (vs := cvs) (ks := ks) ?B ?F ?X ?N ?T ?hf ?hke ?hd ?hl ?hC ?hk ?ok
              case B => k_asm
              case F => k_asm
              case X => k_asm
              case N => k_asm
              case T => k_asm
              case hf => exact rfl
              case hke => exact rfl
              case hd => decide
              case hl => exact mc1
              case hC => exact (hal).mono fun v k h => h.mono fun q hq => sn1 q hq
              case hk => (try simp only [List.length_drop]); omega
              case ok =>
                intro h9 tk9 v9 new9 F9 N9 hD9 ho9
                obtain ⟨X2, NX2, sA2, sb2, sC2⟩ := stage1 N9
                clear N9
                replace hD9 := hD9.mono sC2
                have hE9 := hD8.mono sb2
                have mk2 := sb2 _ mk1
                have mr2 := sb2 _ mr1
                k_whole
                repeat ((fail_if_success (with_reducible show wpAny _ _ (compareOp _ _ _) _ _ _)); walk_at "my.step")
                refine ne_dat NX2 hE9 (fun _ h => h) hD9 (fun _ h => h) (dueRow_cmp _ [] rfl) ?hu ?_
                case hu => ke_room
                k_whole
                repeat ((fail_if_success (with_reducible show wpAny _ _ (compareOp _ _ _) _ _ _)); walk_at "my.step")
                refine ne_same NX2 mr2 mk2 ?hu2 ?_
                case hu2 => ke_room
                k_whole
                repeat ((fail_if_success (with_reducible show wpAny _ _ (pyIter _) _ _ _)); walk_at "my.step")
                (rename Fr _ _ _ _ => F9)
                have N9 := news_re (news' := (Dc, listOf cvs.toArray 0) :: new) NX2 (fun q hq => sb2 q (sb1 q (sX0 q (List.mem_cons_of_mem _ (List.mem_cons_of_mem _ hq)))))
                with_unfolding_all refine kdl_iter (l := Dc) (vs := cvs) (nn := 0) (news := (Dc, listOf cvs.toArray 0) :: new) (fun i m nx => nx = (Dc, listOf cvs.toArray 0) :: new) ?hh4 (List.mem_cons_self ..) F9 N9 ?init4 ?turn4 ?done4
                case hh4 => exact rfl
                case init4 => exact rfl
                case done4 =>
                  rintro m₂ news₂ h11 tk11 rfl F11 N11
                  k_steps
                case turn4 =>
                  rintro i v m₂ news₂ h11 tk11 own hv hoff hl4 rfl F11 N11
                  obtain ⟨k, hk, t, a, b, c, n9, rfl, ht, hta, hb, hc⟩ := hal.2 i v hv
                  obtain ⟨Y0, NY0, sY0⟩ := stage0 N11
                  clear N11
                  have tn0 : ∀ q ∈ new, q ∈ Y0 := fun q hq => sY0 q (List.mem_append.mpr (.inl (List.mem_cons_of_mem _ hq)))
                  have ht0 := tn0 _ ht
                  have hc0 := hc.mono tn0
                  rcases aloneK_cases k hta.lt with ⟨e1, hk8, e2⟩ | ⟨e1, e3⟩
                  · rw [e1] at hc0
                    cases hc0
                    obtain ⟨ta, rfl⟩ := hta.text_of hk8
                    repeat ((fail_if_success (with_reducible show wpAny _ _ (call (Value.ref 166) _) _ _ _)); walk_at "my.step")
                    refine' sg_call (x := txtK k) ?B ?F ?X ?N ?T ?hf ?hke ?hd ?hx ?ht ?ok
                    case B => k_asm
                    case F => k_asm
                    case X => k_asm
                    case N => k_asm
                    case T => k_asm
                    case hf => exact rfl
                    case hke => exact rfl
                    case hd => decide
                    case hx => exact len_txt k hk8
                    case ht => exact tests_txt k hk8
                    case ok =>
                      intro h12 tk12 v12 new12 F12 N12 hD12 ho12
                      obtain ⟨Y1, NY1, sA1, tb1, sC1⟩ := stage1 N12
                      clear N12
                      replace hD12 := hD12.mono sA1
                      rw [← e2] at hD12
                      have ht1 := tb1 _ ht0
                      have tn1 : ∀ q ∈ new, q ∈ Y1 := fun q hq => tb1 q (tn0 q hq)
                      k_whole
                      repeat ((fail_if_success (with_reducible show wpAny _ _ (call (Value.ref 173) _) _ _ _)); walk_at "my.step")
                      refine' told_thing (v := .str (txtK k) ta) (k := k) (new := new) ?he ?B ?F ?X ?N ?T ?hke ?hd ?hu ?hT ?hs ?XB ?TB ?ok
                      case he => exact rfl
                      case B => k_asm
                      case F => k_asm
                      case X => k_asm
                      case N => k_asm
                      case T => k_asm
                      case hke => exact rfl
                      case hd => decide
                      case hu => decide
                      case hT => exact hta
                      case hs => assumption
                      case XB => k_asm
                      case TB => k_asm
                      case ok =>
                        intro h13 tk13 v13 new13 F13 N13 hD13 ho13
                        obtain ⟨Y2, NY2, sA2, tb2, sC2⟩ := stage1 N13
                        clear N13
                        replace hD13 := hD13.mono sA2
                        replace hD12 := hD12.mono tb2
                        k_whole
                        repeat ((fail_if_success (with_reducible show wpAny _ _ (compareOp _ _ _) _ _ _)); walk_at "my.step")
                        refine ne_dat NY2 hD13 (fun _ h => h) hD12 (fun _ h => h) (aloneD_cmp k hta.lt) ?hu5 ?_
                        case hu5 => ke_room
                        k_whole
                        k_steps
                        (rename Fr _ _ _ _ => F14); (rename News _ _ _ _ => N14)
                        exact same_end F14 N14 (fun q hq => tb2 q (tb1 q (sY0 q hq))) hoff ⟨List.mem_cons_self .., rfl⟩
                  · rw [e1] at hc0 e3
                    have hc1 := hc0
                    rcases e3 with ⟨ds, e4⟩ | ⟨x, e4⟩
                    · rw [e4] at hc1
                      cases hc1
                      repeat ((fail_if_success (with_reducible show wpAny _ _ (call (Value.ref 173) _) _ _ _)); walk_at "my.step")
                      refine' told_thing (v := a) (k := k) (new := new) ?he ?B ?F ?X ?N ?T ?hke ?hd ?hu ?hT ?hs ?XB ?TB ?ok
                      case he => exact rfl
                      case B => k_asm
                      case F => k_asm
                      case X => k_asm
                      case N => k_asm
                      case T => k_asm
                      case hke => exact rfl
                      case hd => decide
                      case hu => decide
                      case hT => exact hta
                      case hs => assumption
                      case XB => k_asm
                      case TB => k_asm
                      case ok =>
                        intro h13 tk13 v13 new13 F13 N13 hD13 ho13
                        obtain ⟨Y2, NY2, sA2, tb2, sC2⟩ := stage1 N13
                        clear N13
                        replace hD13 := hD13.mono sA2
                        replace hc0 := hc0.mono tb2
                        k_whole
                        repeat ((fail_if_success (with_reducible show wpAny _ _ (compareOp _ _ _) _ _ _)); walk_at "my.step")
                        refine ne_dat NY2 hD13 (fun _ h => h) hc0 (fun _ h => h) (aloneD_cmp k hta.lt) ?hu5 ?_
                        case hu5 => ke_room
                        k_whole
                        k_steps
                        (rename Fr _ _ _ _ => F14); (rename News _ _ _ _ => N14)
                        exact same_end F14 N14 (fun q hq => tb2 q (sY0 q hq)) hoff ⟨List.mem_cons_self .., rfl⟩
                    · rw [e4] at hc1
                      cases hc1
                      repeat ((fail_if_success (with_reducible show wpAny _ _ (call (Value.ref 173) _) _ _ _)); walk_at "my.step")
                      refine' told_thing (v := a) (k := k) (new := new) ?he ?B ?F ?X ?N ?T ?hke ?hd ?hu ?hT ?hs ?XB ?TB ?ok
                      case he => exact rfl
                      case B => k_asm
                      case F => k_asm
                      case X => k_asm
                      case N => k_asm
                      case T => k_asm
                      case hke => exact rfl
                      case hd => decide
                      case hu => decide
                      case hT => exact hta
                      case hs => assumption
                      case XB => k_asm
                      case TB => k_asm
                      case ok =>
                        intro h13 tk13 v13 new13 F13 N13 hD13 ho13
                        obtain ⟨Y2, NY2, sA2, tb2, sC2⟩ := stage1 N13
                        clear N13
                        replace hD13 := hD13.mono sA2
                        replace hc0 := hc0.mono tb2
                        k_whole
                        repeat ((fail_if_success (with_reducible show wpAny _ _ (compareOp _ _ _) _ _ _)); walk_at "my.step")
                        refine ne_dat NY2 hD13 (fun _ h => h) hc0 (fun _ h => h) (aloneD_cmp k hta.lt) ?hu5 ?_
                        case hu5 => ke_room
                        k_whole
                        k_steps
                        (rename Fr _ _ _ _ => F14); (rename News _ _ _ _ => N14)
                        exact same_end F14 N14 (fun q hq => tb2 q (sY0 q hq)) hoff ⟨List.mem_cons_self .., rfl⟩
          case turn3 =>
            rintro i m₁ news₁ h7 tk7 t7 own hi hoff ⟨rfl, mc, mr, mk⟩ F7 N7
            have e9 : (0 : Int) + (i : Int) = (i : Int) := by omega
            rw [e9] at F7
            obtain ⟨X0, NX0, sX0⟩ := stage0 N7
            have mk0 := sX0 _ (List.mem_append.mpr (.inl (List.mem_cons_self ..)))
            have mr0 := sX0 _ (List.mem_append.mpr (.inl (List.mem_cons_of_mem _ (List.mem_cons_self ..))))
            have mc0 := sX0 _ (List.mem_append.mpr (.inl (List.mem_cons_of_mem _ (List.mem_cons_of_mem _ (List.mem_cons_self ..)))))
            have sn0 : ∀ q ∈ new, q ∈ X0 := fun q hq => sX0 q (List.mem_append.mpr (.inl (List.mem_cons_of_mem _ (List.mem_cons_of_mem _ (List.mem_cons_of_mem _ hq)))))
            clear N7
            repeat ((fail_if_success (with_reducible show wpAny _ _ (call (Value.ref 180) _) _ _ _)); walk_at "my.step")
            refine' due_call (vs := cvs.drop i) (ks := ks.drop i) ?B ?F ?X ?N ?T ?hf ?hke ?hd ?hl ?hC ?hk ?ok
            case B => k_asm
            case F => k_asm
            case X => k_asm
            case N => k_asm
            case T => k_asm
            case hf => exact rfl
            case hke => exact rfl
            case hd => decide
            case hl => exact List.mem_cons_self ..
            case hC => exact (hal.drop i).mono fun v k h => h.mono fun q hq => List.mem_cons_of_mem _ (sn0 q hq)
            case hk => (try simp only [List.length_drop]); omega
            case ok =>
              intro h8 tk8 v8 new8 F8 N8 hD8 ho8
              obtain ⟨X1, NX1, sA1, sB1, sC1⟩ := stage1 N8
              clear N8
              replace hD8 := hD8.mono sC1
              have sb1 : ∀ q ∈ X0, q ∈ X1 := fun q hq => sB1 q (List.mem_cons_of_mem _ hq)
              have mr1 := sb1 _ mr0
              have sn1 : ∀ q ∈ new, q ∈ X1 := fun q hq => sb1 q (sn0 q hq)
              k_whole
              repeat ((fail_if_success (with_reducible show wpAny _ _ (call (Value.ref 173) _) _ _ _)); walk_at "my.step")
              refine' told_any (vs := rvs.drop i) (ks := ks.drop i) (new := new) ?he ?B ?F ?X ?N ?T ?hke ?hd ?hu ?It ?hA ?hs ?hl ?XB ?TB ?ok
              case he => exact rfl
              case B => k_asm
              case F => k_asm
              case X => k_asm
              case N => k_asm
              case T => k_asm
              case hke => exact rfl
              case hd => decide
              case hu => decide
              case It => exact it_list (List.mem_cons_self ..)
              case hA => exact hrA.drop i
              case hs => exact fun q hq => List.mem_cons_of_mem _ (sn1 q hq)
              case hl => (try simp only [List.length_drop]); omega
              case XB => k_asm
              case TB => k_asm
              case ok =>
                intro h9 tk9 v9 new9 F9 N9 hD9 ho9
                obtain ⟨X2, NX2, sA2, sB2, sC2⟩ := stage1 N9
                clear N9
                have sb2 : ∀ q ∈ X1, q ∈ X2 := fun q hq => sB2 q (List.mem_cons_of_mem _ hq)
                replace hD9 := hD9.mono sA2
                have hE9 := hD8.mono sb2
                have mr2 := sb2 _ mr1
                have sn2 : ∀ q ∈ new, q ∈ X2 := fun q hq => sb2 q (sn1 q hq)
                k_whole
                repeat ((fail_if_success (with_reducible show wpAny _ _ (compareOp _ _ _) _ _ _)); walk_at "my.step")
                refine ne_dat NX2 hD9 (fun _ h => h) hE9 (fun _ h => h) (dueRow_cmp _ [] rfl) ?hu ?_
                case hu => ke_room
                k_whole
                repeat ((fail_if_success (with_reducible show wpAny _ _ (call (Value.ref 173) _) _ _ _)); walk_at "my.step")
                refine' told_any (vs := rvs.drop i) (ks := ks.drop i) (new := new) ?he ?B ?F ?X ?N ?T ?hke ?hd ?hu ?It ?hA ?hs ?hl ?XB ?TB ?ok
                case he => exact rfl
                case B => k_asm
                case F => k_asm
                case X => k_asm
                case N => k_asm
                case T => k_asm
                case hke => exact rfl
                case hd => decide
                case hu => decide
                case It => exact it_tup (List.mem_cons_self ..)
                case hA => exact hrA.drop i
                case hs => exact fun q hq => List.mem_cons_of_mem _ (List.mem_cons_of_mem _ (sn2 q hq))
                case hl => (try simp only [List.length_drop]); omega
                case XB => k_asm
                case TB => k_asm
                case ok =>
                  intro h10 tk10 v10 new10 F10 N10 hD10 ho10
                  obtain ⟨X3, NX3, sA3, sB3, sC3⟩ := stage1 N10
                  clear N10
                  have sb3 : ∀ q ∈ X2, q ∈ X3 := fun q hq => sB3 q (List.mem_cons_of_mem _ (List.mem_cons_of_mem _ hq))
                  replace hD10 := hD10.mono sA3
                  have hE10 := hE9.mono sb3
                  k_whole
                  repeat ((fail_if_success (with_reducible show wpAny _ _ (compareOp _ _ _) _ _ _)); walk_at "my.step")
                  refine ne_dat NX3 hD10 (fun _ h => h) hE10 (fun _ h => h) (dueRow_cmp _ [] rfl) ?hu ?_
                  case hu => ke_room
                  k_whole
                  k_steps
                  exact same_end F10 NX3 (fun q hq => sb3 q (sb2 q (sb1 q (sX0 q hq)))) hoff ⟨rfl, mc, mr, mk⟩
end Mine
theorem PySem.Challenge.cw_in0099_02_holds : PySem.Challenge.rw_in0099_02.Holds := by
  exact Mine.law_walk
