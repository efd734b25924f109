import PyProof.Rows.All
import Wide.All
import OpenK.AllK
import Wide.FinOn
import PySem.Challenge.RW_in0099_01
open PySem PySem.W PyProof.Rows PySem.Calls PySem.Spec
set_option Elab.async false
set_option maxRecDepth 100000
set_option maxHeartbeats 8000000
set_option linter.unusedVariables false
namespace Mine
/-! the top's run over a tree of objects, in one check -/
def treeOf (f : Nat → Obj) (n : Nat) : Nat → Nat → Nat → BT
  | 0, _, _ => .nil
  | k + 1, a, b => match Nat.blt b n with
    | true => .node (f b) (treeOf f n k (2 * a) (a + b)) (treeOf f n k (2 * a) (2 * a + b))
    | false => .nil
theorem treeOf_get (f : Nat → Obj) (n : Nat) : ∀ (k a b i : Nat), 1 ≤ a → a * i + b < n → i < k → (treeOf f n k a b).get i = some (f (a * i + b)) := by
  intro k
  induction k with
  | zero => intro a b i _ _ h; omega
  | succ k ih =>
    intro a b i ha hi hk
    have hb : Nat.blt b n = true := by
      have : a * i + b < n := hi
      exact Nat.ble_eq_true_of_le (by show b + 1 ≤ n; omega)
    unfold treeOf
    rw [hb]
    show (BT.node (f b) (treeOf f n k (2 * a) (a + b)) (treeOf f n k (2 * a) (2 * a + b))).get i = _
    rw [BT.get_node]
    by_cases h0 : i = 0
    · subst h0; simp
    · rw [if_neg h0]
      by_cases h1 : i % 2 = 1
      · rw [if_pos h1]
        obtain ⟨j, hj⟩ : ∃ j, i = 2 * j + 1 := ⟨i / 2, by omega⟩
        have e1 : i / 2 = j := by omega
        have e2 : a * i + b = 2 * a * j + (a + b) := by rw [hj, Nat.mul_add, Nat.mul_one, ← Nat.mul_assoc, Nat.mul_comm a 2]; omega
        rw [e1, e2]
        exact ih (2 * a) (a + b) j (by omega) (by rw [← e2]; exact hi) (by omega)
      · rw [if_neg h1]
        obtain ⟨j, hj⟩ : ∃ j, i = 2 * j + 2 := ⟨i / 2 - 1, by omega⟩
        have e1 : i / 2 - 1 = j := by omega
        have e2 : a * i + b = 2 * a * j + (2 * a + b) := by rw [hj, Nat.mul_add, ← Nat.mul_assoc, Nat.mul_comm a 2]; omega
        rw [e1, e2]
        exact ih (2 * a) (2 * a + b) j (by omega) (by rw [← e2]; exact hi) (by omega)
def toT (s : Shared) : SharedT := ⟨treeOf (fun i => (s.heap.objs[i]?).getD default) s.heap.objs.size s.heap.objs.size 1 0, s.heap.objs.size, s.heap.life, s.gens, s.drawn, s.toks, s.os⟩
theorem toT_abs (s : Shared) : (toT s).abs = s := by
  obtain ⟨⟨objs, life⟩, gens, drawn, toks, os⟩ := s
  have e : absHeap (treeOf (fun i => (objs[i]?).getD default) objs.size objs.size 1 0) objs.size life = ⟨objs, life⟩ := by
    have : (absHeap (treeOf (fun i => (objs[i]?).getD default) objs.size objs.size 1 0) objs.size life).objs = objs := by
      apply Array.ext_getElem?
      intro i
      rw [absHeap_at]
      by_cases h : i < objs.size
      · rw [if_pos h, treeOf_get _ _ _ _ _ _ (Nat.le_refl _) (by omega) h]
        simp [h]
      · rw [if_neg h]
        exact (Array.getElem?_eq_none (by omega)).symm
    show Heap.mk _ _ = Heap.mk _ _
    exact congrArg (Heap.mk · life) this
  exact congrArg (fun h : Heap => (⟨h, gens, drawn, toks, os⟩ : Shared)) e
abbrev StepFn : Type := Program → World → SharedT → Thread → Option (SharedT × Thread)
def impEndsT (st : StepFn) (p : Program) (w : World) : Nat → SharedT → Thread → Option SharedT
  | 0, _, _ => none
  | n + 1, s, t => match t.atExitBegin with
    | some [] => some s
    | some (_ :: _) => none
    | none => match st p w s t with
      | some (s', t') => impEndsT st p w n s' t'
      | none => none
theorem impEnds_of {tb : String → Option Builtin} {p : Program} {w : World} : ∀ {n : Nat} {s s' : SharedT} {t : Thread}, impEndsT (stepT (denote tb)) p w n s t = some s' → importEnds tb p w n s.abs t = some s'.abs
  | 0, _, _, _, h => by cases h
  | n + 1, s, s', t, h => by
    unfold impEndsT at h
    unfold importEnds
    cases he : t.atExitBegin with
    | some x =>
      rw [he] at h
      cases x with
      | nil => cases h; rfl
      | cons a r => cases h
    | none =>
      rw [he] at h
      cases hs : stepT (denote tb) p w s t with
      | none => rw [hs] at h; cases h
      | some r => obtain ⟨s₂, t₂⟩ := r; rw [hs] at h; dsimp only; rw [stepT_spec hs]; exact impEnds_of h
def topRunT (st : StepFn) (p : Program) (w : World) (n₀ : Nat) (ann : Option Value) : Nat → SharedT → Thread → Option SharedT
  | 0, _, _ => none
  | n + 1, s, t => match through t with
    | true => some s
    | false => match stepOk n₀ ann t with
      | false => none
      | true => match st p w s t with
        | some (s', t') => topRunT st p w n₀ ann n s' t'
        | none => none
theorem topRun_of {tb : String → Option Builtin} {p : Program} {w : World} {n₀ : Nat} {ann : Option Value} : ∀ {n : Nat} {s s' : SharedT} {t : Thread}, topRunT (stepT (denote tb)) p w n₀ ann n s t = some s' → topRun tb p w n₀ ann n s.abs t = some s'.abs
  | 0, _, _, _, h => by cases h
  | n + 1, s, s', t, h => by
    unfold topRunT at h
    unfold topRun
    cases he : through t with
    | true => rw [he] at h; cases h; rfl
    | false =>
      rw [he] at h
      cases hk : stepOk n₀ ann t with
      | false => rw [hk] at h; cases h
      | true =>
        rw [hk] at h
        cases hs : stepT (denote tb) p w s t with
        | none => rw [hs] at h; cases h
        | some r => obtain ⟨s₂, t₂⟩ := r; rw [hs] at h; dsimp only; rw [stepT_spec hs]; exact topRun_of h
def fencedT (st : StepFn) (p : Program) (w : World) (N : Nat) (x : Shared × Thread) (fence : Program → Shared → Option Shared) : Option Shared :=
  (impEndsT st (opening p) w N (toT x.1) x.2).bind fun s => fence p s.abs
def topFromT (st : StepFn) (p : Program) (w : World) (N : Nat) (stub : Thread) (look : Shared → Shared → Bool) (s₀ : Shared) : Option Shared :=
  match s₀.heap.isNs mainGlobals && s₀.gens.size == 0 with
  | true => (topRunT st p w s₀.heap.objs.size (s₀.heap.nsMap mainGlobals "__annotations__") N (toT s₀) stub).bind fun s₁ => match look s₀ s₁.abs with
      | true => some s₁.abs
      | false => none
  | false => none
abbrev lookB (p : Program) (s₀ s₁ : Shared) : Bool := staticsOk (importedModules p.main.body) s₀.heap s₁.heap && namesBound p s₁.heap && gensDone s₁ && laidKept s₀.heap s₁.heap
def openEndsT (st : StepFn) (p : Program) (w : World) (N : Nat) (x : Shared × Thread) (fence : Program → Shared → Option Shared) (stub : Thread) (look : Shared → Shared → Bool) : Option Shared := (fencedT st p w N x fence).bind (topFromT st p w N stub look)
theorem fenced_of {tb : String → Option Builtin} {p : Program} {w : World} {N : Nat} {s : Shared} (h : fencedT (stepT (denote tb)) p w N (start (opening p)) fenceModules? = some s) : fencedOpening tb p w N = some s := by
  unfold fencedT at h
  unfold fencedOpening
  obtain ⟨a, ha, hb⟩ := Option.bind_eq_some_iff.mp h
  have q := impEnds_of ha
  rw [toT_abs] at q
  rw [q]
  exact hb
theorem topFrom_of {tb : String → Option Builtin} {p : Program} {w : World} {N : Nat} {s₀ s : Shared} (h : topFromT (stepT (denote tb)) p w N (topStub p) (lookB p) s₀ = some s) : topFrom tb p w N s₀ = some s := by
  unfold topFromT at h
  unfold topFrom
  cases hc : (s₀.heap.isNs mainGlobals && s₀.gens.size == 0) with
  | false => rw [hc] at h; cases h
  | true =>
    rw [hc] at h
    dsimp only at h ⊢
    obtain ⟨a, ha, hb⟩ := Option.bind_eq_some_iff.mp h
    have q := topRun_of ha
    rw [toT_abs] at q
    rw [q]
    exact hb
theorem left_of_T {p q : Program} {loose : List Str} {Xt : Shared → Bool} {α : Type} {Yf : Shared → α} {Ya : World → α} {N : Nat} {g0 : Bool}
    (h : ∀ w : World, (openEndsT (stepT (denote treeTable)) p w N (start (opening p)) fenceModules? (topStub p) (lookB p)).map (fun s => (openSeen q loose (importedModules p.main.body) Xt g0 s, Yf s)) = some (openGood q loose, Ya w)) : LeftO p q loose Xt Yf Ya N g0 := fun w => by
  obtain ⟨s, a, b⟩ := Option.map_eq_some_iff.mp (h w)
  unfold openEndsT at a
  obtain ⟨s₀, a0, a1⟩ := Option.bind_eq_some_iff.mp a
  unfold openEnds
  rw [fenced_of a0]
  show (topFrom treeTable p w N s₀).map _ = _
  rw [topFrom_of a1]
  exact congrArg some b
end Mine
namespace Mine
def v1 : Program := { PySem.Challenge.pw_in0099_01 with main := { (PySem.Challenge.pw_in0099_01).main with body := (PySem.Challenge.pw_in0099_01).main.body.drop ((PySem.Challenge.pw_in0099_01).main.body.length - 1) } }
def lo1 : List Str := (PySem.Challenge.pw_in0099_01).boundNames.filter fun x => !(x == Str.ofString "law")
section
/-- the library writes the objects out; nothing is shown here -/
local macro_rules | `(tactic| o_head $H) => `(tactic| exact False.elim (by assumption))
theorem k0 : False → (OpenLaw.row PySem.Challenge.rw_in0099_01).Holds := by
  intro hf
  k_head
end
def keys : List Addr := [2, 3, 55, 57, 58, 60, 61, 63, 65, 66, 68, 69, 70, 72, 73, 75, 76, 79, 83, 87, 88, 89, 91, 92, 94, 95, 96, 98, 99, 101, 102, 103, 105, 106, 108, 109, 110, 112, 113, 115, 116, 120, 121, 125, 126, 130, 131, 132, 134, 135, 137, 138, 139, 141, 142, 144, 145, 146, 148, 149, 151, 152, 153, 155, 156, 158, 159, 160, 162, 163, 165, 166, 167, 169, 170, 172, 173, 174, 176, 177, 179, 180, 181, 183, 184, 186, 187, 188, 190, 191, 193, 194, 195, 197, 198, 200, 201, 202, 205, 206]
theorem keys_eq (P : Params) : keys = (k0.heap_1 P).map fun x => x.1 := by kernel_rfl
noncomputable def kh : Hook := kHook k0.heap_1 keys keys_eq
def LeftAt (w : World) : Prop := (openEndsT (stepT (denote treeTable)) PySem.Challenge.pw_in0099_01 w 4366 (start (opening PySem.Challenge.pw_in0099_01)) fenceModules? (topStub PySem.Challenge.pw_in0099_01) (lookB PySem.Challenge.pw_in0099_01)).map (fun s => (openSeen v1 lo1 (importedModules (PySem.Challenge.pw_in0099_01).main.body) (fun s => recOk (PySem.Challenge.rw_in0099_01).row.records s) true s, kh.obs s)) = some (openGood v1 lo1, kh.val w)
theorem said : OpenLaw.wellSaid PySem.Challenge.rw_in0099_01 = true := by
  rw [PySem.W.Fast.te9446332074065402090]; kernel_rfl
theorem left1 : ∀ w : World, LeftAt ((w.withFollow "special-get-raises" false).withFollow "comprehension-iter-twice" false) := by
  intro w; delta LeftAt kh; (try dsimp only); (try delta topStub); (try delta lookB); (try delta staticsOk); (try delta namesBound); (try delta laidKept); (try dsimp only); (try rw [PySem.W.Fast.te10156331382660048174]); (try rw [PySem.W.Fast.te11892475500146522536]); (try rw [PySem.W.Fast.te14364793385576792824]); (try rw [PySem.W.Fast.te14289696077712309145]); (try rw [PySem.W.Fast.te4187177175401517315]); (try rw [PySem.W.Fast.te17154629097778926822]); (try rw [PySem.W.Fast.te12822647523644345616]); (try rw [PySem.W.Fast.te1435165496053646825]); (try rw [PySem.W.Fast.te5923862056798008813]); (try rw [PySem.W.Fast.te1584917186373303978]); (try rw [PySem.W.Fast.te14846217769314788766]); (try rw [PySem.W.Fast.te4857012375875476094]); (try rw [PySem.W.Fast.te8920871248978507458]); (try rw [PySem.W.Fast.te12749700546528644094]); (try rw [PySem.W.Fast.te18344453789297297638]); kernel_rfl
theorem left2 : ∀ w : World, LeftAt ((w.withFollow "special-get-raises" true).withFollow "comprehension-iter-twice" false) := by
  intro w; delta LeftAt kh; (try dsimp only); (try delta topStub); (try delta lookB); (try delta staticsOk); (try delta namesBound); (try delta laidKept); (try dsimp only); (try rw [PySem.W.Fast.te10156331382660048174]); (try rw [PySem.W.Fast.te11892475500146522536]); (try rw [PySem.W.Fast.te14364793385576792824]); (try rw [PySem.W.Fast.te14289696077712309145]); (try rw [PySem.W.Fast.te4187177175401517315]); (try rw [PySem.W.Fast.te17154629097778926822]); (try rw [PySem.W.Fast.te12822647523644345616]); (try rw [PySem.W.Fast.te1435165496053646825]); (try rw [PySem.W.Fast.te5923862056798008813]); (try rw [PySem.W.Fast.te1584917186373303978]); (try rw [PySem.W.Fast.te14846217769314788766]); (try rw [PySem.W.Fast.te4857012375875476094]); (try rw [PySem.W.Fast.te8920871248978507458]); (try rw [PySem.W.Fast.te12749700546528644094]); (try rw [PySem.W.Fast.te18344453789297297638]); kernel_rfl
theorem left3 : ∀ w : World, LeftAt ((w.withFollow "special-get-raises" false).withFollow "comprehension-iter-twice" true) := by
  intro w; delta LeftAt kh; (try dsimp only); (try delta topStub); (try delta lookB); (try delta staticsOk); (try delta namesBound); (try delta laidKept); (try dsimp only); (try rw [PySem.W.Fast.te10156331382660048174]); (try rw [PySem.W.Fast.te11892475500146522536]); (try rw [PySem.W.Fast.te14364793385576792824]); (try rw [PySem.W.Fast.te14289696077712309145]); (try rw [PySem.W.Fast.te4187177175401517315]); (try rw [PySem.W.Fast.te17154629097778926822]); (try rw [PySem.W.Fast.te12822647523644345616]); (try rw [PySem.W.Fast.te1435165496053646825]); (try rw [PySem.W.Fast.te5923862056798008813]); (try rw [PySem.W.Fast.te1584917186373303978]); (try rw [PySem.W.Fast.te14846217769314788766]); (try rw [PySem.W.Fast.te4857012375875476094]); (try rw [PySem.W.Fast.te8920871248978507458]); (try rw [PySem.W.Fast.te12749700546528644094]); (try rw [PySem.W.Fast.te18344453789297297638]); kernel_rfl
theorem left4 : ∀ w : World, LeftAt ((w.withFollow "special-get-raises" true).withFollow "comprehension-iter-twice" true) := by
  intro w; delta LeftAt kh; (try dsimp only); (try delta topStub); (try delta lookB); (try delta staticsOk); (try delta namesBound); (try delta laidKept); (try dsimp only); (try rw [PySem.W.Fast.te10156331382660048174]); (try rw [PySem.W.Fast.te11892475500146522536]); (try rw [PySem.W.Fast.te14364793385576792824]); (try rw [PySem.W.Fast.te14289696077712309145]); (try rw [PySem.W.Fast.te4187177175401517315]); (try rw [PySem.W.Fast.te17154629097778926822]); (try rw [PySem.W.Fast.te12822647523644345616]); (try rw [PySem.W.Fast.te1435165496053646825]); (try rw [PySem.W.Fast.te5923862056798008813]); (try rw [PySem.W.Fast.te1584917186373303978]); (try rw [PySem.W.Fast.te14846217769314788766]); (try rw [PySem.W.Fast.te4857012375875476094]); (try rw [PySem.W.Fast.te8920871248978507458]); (try rw [PySem.W.Fast.te12749700546528644094]); (try rw [PySem.W.Fast.te18344453789297297638]); kernel_rfl
theorem left : LeftO PySem.Challenge.pw_in0099_01 v1 lo1 (fun s => recOk (PySem.Challenge.rw_in0099_01).row.records s) kh.obs kh.val 4366 true :=
  left_of_T (byRow2 "comprehension-iter-twice" (byRow2 "special-get-raises" left1 left2) (byRow2 "special-get-raises" left3 left4))
end Mine
namespace Mine
section
variable {prog : Program} {w : World} {A : Around} {E : Value → Shared → Prop} {s : Shared} {env : Env} {h₀ : Heap} {body : List Stmt} {Q : Flow → Shared → Prop}
/-- for xi, xc in enumerate(a list of the ledger) -/
theorem enum_loop {xi xc : Str} {pi pc pt : Pos} {x1 : Nat} {l : Addr} {vs : List Value} {nn : Nat} {m₀ : Str → Option Value} {news : List (Addr × Obj)} (J : Nat → (Str → Option Value) → List (Addr × Obj) → Prop)
    (hE : PassesOwn (model prog w) A env E) (hh : A.handled = none) (hxi : env.kindOf xi = some .local) (hxc : env.kindOf xc = some .local)
    (hp : (env.scope.kind == .class || (env.scope.kind == .module && env.locals != env.globals)) = false)
    (hl : (l, listOf vs.toArray nn) ∈ news) (F : Fr h₀ env.locals s.heap m₀) (N : News h₀ env.locals s.heap news) (hj : J 0 m₀ news)
    (turn : ∀ i v t m₁ news₁ h tk own, vs[i]? = some v → OwnOff own (news₁.map (·.1)) → (l, listOf vs.toArray nn) ∈ news₁ → J i m₁ news₁ →
      Fr h₀ env.locals h (fun y => if y = xc then some v else if y = xi then some (.int (i : Int) t) else m₁ y) → News h₀ env.locals h (news₁ ++ own) →
      wpAny (model prog w) A (execs body env) (InvPostG h₀ env.locals (fun m' nx => (l, listOf vs.toArray nn) ∈ nx ∧ J (i + 1) m' nx) own { s with heap := h, toks := tk } Q) E { s with heap := h, toks := tk })
    (done : ∀ m₁ news₁ h tk, J vs.length m₁ news₁ → Fr h₀ env.locals h m₁ → News h₀ env.locals h news₁ → Q .next { s with heap := h, toks := tk }) :
    wpAny (model prog w) A (call (.type "enumerate") [.ref l]) (fun xv s₁ => wpAny (model prog w) A (pyIter xv) (fun it s₂ =>
      codeAny (model prog w) A (.forLoop (.Tuple [.Name xi pi, .Name xc pc] x1 pt) it body [] env) (fun r s' => match r with | .ok f => Q f s' | .error e => cameBackBy (model prog w) A env E e s') s₂) E s₁) E s := by
  have hol : s.heap.get? l = some (listOf vs.toArray nn) := (N _ hl).1
  have hls : s.heap.IsList l vs.toArray := ⟨_, hol, rfl, nn, rfl⟩
  have hLs : @LT.lt Nat _ env.locals s.heap.objs.size := F.ns.lt
  have hab : @LE.le Nat _ h₀.objs.size env.locals := F.above
  have hll : @LT.lt Nat _ l s.heap.objs.size := Heap.lt_size hol
  refine call_enumerate_list hls fun h' he hit hsz hk => ?_
  have F' : Fr h₀ env.locals h' m₀ := ⟨F.ns.keeps hk, fun b o e => hk b o (F.keep b o e), F.above⟩
  have N' : News h₀ env.locals h' news := fun p hp => ⟨hk _ _ (N p hp).1, (N p hp).2⟩
  have hfresh : ∀ q ∈ news, q.1 ≠ s.heap.objs.size + 1 ∧ q.1 ≠ s.heap.objs.size := fun q hq => by
    have := Heap.lt_size (N q hq).1
    exact ⟨fun e => by rw [e] at this; exact absurd this (Nat.not_lt.mpr (Nat.le_succ _)), fun e => by rw [e] at this; exact absurd this (Nat.lt_irrefl _)⟩
  obtain ⟨e, he0⟩ : ∃ e : Nat, e = s.heap.objs.size + 1 := ⟨_, rfl⟩
  obtain ⟨it, hi0⟩ : ∃ e : Nat, e = s.heap.objs.size := ⟨_, rfl⟩
  rw [← he0, ← hi0] at he
  rw [← hi0] at hit
  rw [← he0, ← hi0] at hfresh
  rw [← he0]
  have hei : @Ne Nat e it := by omega
  have heL : @Ne Nat e env.locals := by omega
  have hiL : @Ne Nat it env.locals := by omega
  have hne : h₀.get? e = none := Heap.get?_none_of_le (by omega)
  have hni : h₀.get? it = none := Heap.get?_none_of_le (by omega)
  have hle : @Ne Nat l e := by omega
  have hli : @Ne Nat l it := by omega
  refine wpAny_pyIter_enum he ?_
  have W := WalksT.enumerate (prog := prog) (w := w) hh e it l hei hle hli vs.toArray
  have hn : vs.toArray.size = vs.length := by simp
  rw [hn] at W
  refine codeAny_forLoop_any (R := fun r s' => match r with | .ok f => Q f s' | .error e => cameBackBy (model prog w) A env E e s')
    (fun k s' => ∃ h' tk m' nx i, s' = { s with heap := h', toks := tk } ∧ ((∃ old, IsEnum h' e it ((i : Nat) : Int) old) ∧ h'.IsListIter it l i ∧ h'.IsList l vs.toArray) ∧ Fr h₀ env.locals h' m' ∧ News h₀ env.locals h' nx ∧
      (∀ q ∈ nx, q.1 ≠ e ∧ q.1 ≠ it) ∧ (l, listOf vs.toArray nn) ∈ nx ∧ J i m' nx ∧ i ≤ vs.length ∧ k = vs.length + 1 - i) ?_ (vs.length + 1)
    ⟨h', s.toks, m₀, news, 0, rfl, ⟨⟨_, he⟩, hit, hls.at fun o x => hk l o x⟩, F', N', hfresh, hl, hj, Nat.zero_le _, rfl⟩
  rintro k s' ⟨H, tk, m', nx, i, rfl, hst, F₁, N₁, hoff, hl₁, hJ, hi, rfl⟩
  by_cases hlt : i < vs.length
  · refine W.item i _ _ _ hlt hst fun T vals h₁ tk₁ hP hT hIT hmid hk₁ => ?_
    obtain ⟨t, v, hv, rfl⟩ := hP
    have hv' : vs[i]? = some v := by simpa using hv
    refine W.go _ _ _ i T _ _ _ hmid fun h₂ hst₂ hk₂ => ?_
    have k12 : ∀ b o, b ≠ e → b ≠ it → H.get? b = some o → h₂.get? b = some o := fun b o h1 h2 x => hk₂ b o (by simp [h1, h2]) (hk₁ b o (by simp [h1, h2]) x)
    have hIT₂ : h₂.IsTuple T #[.int i t, v] := hIT.at fun o x => hk₂ T o (W.apart i T _ hmid) x
    refine wpAny_assign_Tuple hh hIT₂ rfl rfl fun h₃ hx₃ => ?_
    replace hx₃ : Heap.ExtBut h₂.objs.size h₂ h₃ := hx₃
    have k23 : ∀ b o, h₂.get? b = some o → h₃.get? b = some o := fun b o x => hx₃ b o (Nat.ne_of_lt (Heap.lt_size x)) x
    have hL₃ : h₃.Ns env.locals m' := (F₁.ns.at' fun o x => k23 _ o (k12 _ o (Ne.symm heL) (Ne.symm hiL) x))
    show wpAny _ A (do holding [v] (assign (.Name xi pi) env (.int i t)); do holding [] (assign (.Name xc pc) env v); pure ()) _ _ _
    refine wpAny_bind (wpAny_holding (wpAny_assign_Name (wpAny_storeName_local hxi hL₃ (fun h₄ hn₄ hs₄ => ?_) hp)))
    replace hs₄ : Heap.SameBut env.locals h₃ h₄ := hs₄
    refine wpAny_bind (wpAny_holding (wpAny_assign_Name (wpAny_storeName_local hxc hn₄ (fun h₅ hn₅ hs₅ => wpAny_pure ?_) hp)))
    replace hs₅ : Heap.SameBut env.locals h₄ h₅ := hs₅
    have k25 : ∀ b o, b ≠ env.locals → h₂.get? b = some o → h₅.get? b = some o := fun b o hb x => hs₅.extBut b o hb (hs₄.extBut b o hb (k23 b o x))
    have k15 : ∀ b o, b ≠ env.locals → b ≠ e → b ≠ it → H.get? b = some o → h₅.get? b = some o := fun b o hb h1 h2 x => k25 b o hb (k12 b o h1 h2 x)
    obtain ⟨⟨old₂, he₂⟩, ⟨oi, hoi, hci, hdi⟩, hls₂⟩ := hst₂
    obtain ⟨oe, he₂, hback⟩ : ∃ oe, h₂.get? e = some oe ∧ ∀ h : Heap, h.get? e = some oe → IsEnum h e it (((i + 1 : Nat) : Nat) : Int) old₂ := ⟨_, he₂, fun _ x => by simpa using x⟩
    have F₅ : Fr h₀ env.locals h₅ (fun y => if y = xc then some v else if y = xi then some (.int (i : Int) t) else m' y) :=
      ⟨hn₅, fun b o x => by
        have hb : @LT.lt Nat _ b h₀.objs.size := Heap.lt_size x
        exact k15 b o (by show @Ne Nat b env.locals; omega) (by rintro rfl; rw [hne] at x; cases x) (by rintro rfl; rw [hni] at x; cases x) (F₁.keep b o x), F₁.above⟩
    have he₅ := k25 e _ heL he₂
    have hi₅ := k25 it _ hiL hoi
    have N₅ : News h₀ env.locals h₅ (nx ++ [(e, oe), (it, oi)]) := fun p hp => by
      rcases List.mem_append.mp hp with hp | hp
      · exact ⟨k15 _ _ (N₁ p hp).2.1 (hoff p hp).1 (hoff p hp).2 (N₁ p hp).1, (N₁ p hp).2⟩
      · rcases List.mem_cons.mp hp with rfl | hp
        · exact ⟨he₅, heL, hne⟩
        · rw [List.mem_singleton.mp hp]
          exact ⟨hi₅, hiL, hni⟩
    have hown : OwnOff [(e, oe), (it, oi)] (nx.map (·.1)) := fun p hp b hb => by
      obtain ⟨q, hq, rfl⟩ := List.mem_map.mp hb
      rcases List.mem_cons.mp hp with rfl | hp
      · exact (hoff q hq).1.symm
      · rw [List.mem_singleton.mp hp]; exact (hoff q hq).2.symm
    refine wpAny_mono (wpAny_passesOwn hE (turn i v t m' nx h₅ _ _ hv' hown hl₁ hJ F₅ N₅)) (fun f s₃ hf => ?_) fun _ _ x => x
    cases f with
    | ret v => exact hf
    | brk => exact hf
    | next =>
      obtain ⟨h₆, tk₆, m₆, n₆, nx₆, rfl, F₆, N₆, hn₆, ho₆, ha₆, hl₆, hJ₆⟩ := hf
      refine ⟨vs.length + 1 - (i + 1), by omega, h₆, tk₆, m₆, nx₆, i + 1, rfl, ⟨⟨old₂, hback _ (N₆ _ (ho₆ _ (List.mem_cons_self ..))).1⟩, ⟨oi, (N₆ _ (ho₆ _ (List.mem_cons_of_mem _ (List.mem_singleton.mpr rfl)))).1, hci, hdi⟩, ⟨_, (N₆ _ (hn₆ _ hl₆)).1, rfl, nn, rfl⟩⟩, F₆, fun p hp => N₆ p (hn₆ p hp), fun q hq => ⟨?_, ?_⟩, hl₆, hJ₆, hlt, rfl⟩
      · exact fun x => ha₆ _ (List.mem_cons_self ..) q.1 (List.mem_map.mpr ⟨q, hq, rfl⟩) x.symm
      · exact fun x => ha₆ _ (List.mem_cons_of_mem _ (List.mem_singleton.mpr rfl)) q.1 (List.mem_map.mpr ⟨q, hq, rfl⟩) x.symm
    | cont =>
      obtain ⟨h₆, tk₆, m₆, n₆, nx₆, rfl, F₆, N₆, hn₆, ho₆, ha₆, hl₆, hJ₆⟩ := hf
      refine ⟨vs.length + 1 - (i + 1), by omega, h₆, tk₆, m₆, nx₆, i + 1, rfl, ⟨⟨old₂, hback _ (N₆ _ (ho₆ _ (List.mem_cons_self ..))).1⟩, ⟨oi, (N₆ _ (ho₆ _ (List.mem_cons_of_mem _ (List.mem_singleton.mpr rfl)))).1, hci, hdi⟩, ⟨_, (N₆ _ (hn₆ _ hl₆)).1, rfl, nn, rfl⟩⟩, F₆, fun p hp => N₆ p (hn₆ p hp), fun q hq => ⟨?_, ?_⟩, hl₆, hJ₆, hlt, rfl⟩
      · exact fun x => ha₆ _ (List.mem_cons_self ..) q.1 (List.mem_map.mpr ⟨q, hq, rfl⟩) x.symm
      · exact fun x => ha₆ _ (List.mem_cons_of_mem _ (List.mem_singleton.mpr rfl)) q.1 (List.mem_map.mpr ⟨q, hq, rfl⟩) x.symm
  · have hin : i = vs.length := by omega
    subst hin
    refine W.done _ _ _ hst fun h₁ tk₁ hk₁ => wpAny_execs_nil ?_
    have k1 : ∀ b o, b ≠ e → b ≠ it → H.get? b = some o → h₁.get? b = some o := fun b o h1 h2 x => hk₁ b o (by simp [h1, h2]) x
    exact done m' nx h₁ tk₁ hJ ⟨F₁.ns.at' fun o x => k1 _ o (Ne.symm heL) (Ne.symm hiL) x, fun b o x => k1 b o (by rintro rfl; rw [hne] at x; cases x) (by rintro rfl; rw [hni] at x; cases x) (F₁.keep b o x), F₁.above⟩
      fun p hp => ⟨k1 _ _ (hoff p hp).1 (hoff p hp).2 (N₁ p hp).1, (N₁ p hp).2⟩
theorem strSub_le (x : Str) (i j : Nat) : (Builtin.Str.strSub x i j).length ≤ x.length := by
  unfold Builtin.Str.strSub Str.length
  simp only [Array.size_extract]
  omega
theorem part_len1 (x y : Str) : (Txt.partition x y).1.length ≤ x.length := by
  unfold Txt.partition
  split
  · exact strSub_le ..
  · exact Nat.le_refl _
theorem part_len3 (x y : Str) : (Txt.partition x y).2.2.length ≤ x.length := by
  unfold Txt.partition
  split
  · exact strSub_le ..
  · exact Nat.zero_le _
theorem part_K {L : Addr} {m : Str → Option Value} {news : List (Addr × Obj)} {x y : Str} {t u : Tok} {Q : Value → Shared → Prop} (hF : Fr h₀ L s.heap m) (hN : News h₀ L s.heap news) (hy : (y.length == 0) = false)
    (hsz : x.length ≤ sizeLine)
    (h : ∀ D ta tb tc h' k, (Txt.partition x y).1.length ≤ x.length → (Txt.partition x y).2.2.length ≤ x.length → Fr h₀ L h' m → News h₀ L h' ((D, { cls := .type "tuple", data := .seq [.str (Txt.partition x y).1 ta, .str (Txt.partition x y).2.1 tb, .str (Txt.partition x y).2.2 tc].toArray }) :: news) → (∀ a ∈ news, a.1 < D) → Q (.ref D) { s with heap := h', toks := k }) :
    wpAny (model prog w) A (call (.builtin "str.partition") [.str x t, .str y u]) Q E s :=
  KXpa.partition hF hN hy rfl rfl rfl hsz fun D ta tb tc h' k => h D ta tb tc h' k (part_len1 x y) (part_len3 x y)
/-- the seven known names, as the tuple holds them -/
abbrev kaObj (a : Nat) : Obj := { cls := .type "tuple", data := .seq #[.str (Str.ofString "expires") a, .str (Str.ofString "domain") (a + 1), .str (Str.ofString "path") (a + 1 + 1), .str (Str.ofString "secure") (a + 1 + 1 + 1), .str (Str.ofString "version") (a + 1 + 1 + 1 + 1), .str (Str.ofString "port") (a + 1 + 1 + 1 + 1 + 1), .str (Str.ofString "max-age") (a + 1 + 1 + 1 + 1 + 1 + 1)] }
def knownL : List Str := [Str.ofString "expires", Str.ofString "domain", Str.ofString "path", Str.ofString "secure", Str.ofString "version", Str.ofString "port", Str.ofString "max-age"]
def isKnown (x : Str) : Bool := knownL.any (· == x)
theorem in_ka {L : Addr} {news : List (Addr × Obj)} {D : Addr} {a : Nat} {x : Str} {t : Tok} {Q : Value → Shared → Prop} (hN : News h₀ L s.heap news) (hm : (D, kaObj a) ∈ news)
    (h : Q (.bool (isKnown x)) s) : wpAny (model prog w) A (compareOp .In (.str x t) (.ref D)) Q E s := by
  refine SeqAt.in_tupleAt (fun v => match v with | .str z _ => z == x | _ => false) ⟨_, (hN _ hm).1, rfl, _, rfl⟩ ?_ ?_
  · intro y hy
    simp only [List.mem_toArray, List.mem_cons, List.not_mem_nil, or_false] at hy
    rcases hy with rfl | rfl | rfl | rfl | rfl | rfl | rfl <;> exact SeqAt.EqAt.str_str _ _ _ _
  · have e : Array.any #[Value.str (Str.ofString "expires") a, .str (Str.ofString "domain") (a + 1), .str (Str.ofString "path") (a + 1 + 1), .str (Str.ofString "secure") (a + 1 + 1 + 1), .str (Str.ofString "version") (a + 1 + 1 + 1 + 1), .str (Str.ofString "port") (a + 1 + 1 + 1 + 1 + 1), .str (Str.ofString "max-age") (a + 1 + 1 + 1 + 1 + 1 + 1)]
      (fun v => match v with | .str z _ => z == x | _ => false) = isKnown x := by
      simp [isKnown, knownL]
    rw [e]; exact h
theorem truthy_L {L : Addr} {news : List (Addr × Obj)} {l : Addr} {vs : List Value} {k : Nat} {Q : Bool → Shared → Prop} (hN : News h₀ L s.heap news) (hm : (l, listOf vs.toArray k) ∈ news) (hfit : vs.length ≤ 1000000)
    (h : ∀ tk, Q (!vs.isEmpty) { s with toks := tk }) : wpAny (model prog w) A (truthy (.ref l)) Q E s := by
  refine wpAny_truthy_list ⟨_, (hN _ hm).1, rfl, k, rfl⟩ (by simp only [List.size_toArray]; omega) ?_
  have := h (s.toks + 1 + 1)
  simpa using this
end
/-! what parse_ns_headers reckons, in plain words -/
def keyOf (y : Str) : Str := Txt.strip (Txt.partition (Txt.strip y) (Str.ofString "=")).1
def sepOf (y : Str) : Str := (Txt.partition (Txt.strip y) (Str.ofString "=")).2.1
def valOf (y : Str) : Str := Txt.strip (Txt.partition (Txt.strip y) (Str.ofString "=")).2.2
def strD : Option Str → Dat
  | none => .none
  | some x => .str x
def pairD (k : Str) (v : Option Str) : Dat := .tuple [.str k, strD v]
def stripQ (x : Str) : Str :=
  let y := if Txt.startswith x (Str.ofString "\"") = true then Txt.slice x (some 1) none else x
  if Txt.endswith y (Str.ofString "\"") = true then Txt.slice y none (some (-1)) else y
def val1 (y : Str) : Option Str := if ((sepOf y).length : Int) = 0 then none else some (valOf y)
def key1 (y : Str) : Str := if isKnown (Txt.lower (keyOf y)) = true then Txt.lower (keyOf y) else keyOf y
def stp (first : Bool) (y : Str) (st : List Dat × Bool) : Option (List Dat × Bool) :=
  if ((keyOf y).length : Int) = 0 then (if first = true then none else some st)
  else if first = true then some (st.1 ++ [pairD (keyOf y) (val1 y)], st.2)
  else if (key1 y == Str.ofString "version") = true then some (st.1 ++ [pairD (key1 y) ((val1 y).map stripQ)], true)
  else some (st.1 ++ [pairD (key1 y) (val1 y)], st.2)
/-- a part behind the first that does not reach the dates -/
def expOk (y : Str) : Prop := key1 y = Str.ofString "expires" → ((sepOf y).length : Int) = 0
def runFrom : Nat → List Str → List Dat × Bool → Option (List Dat × Bool)
  | _, [], st => some st
  | i, y :: r, st => (stp (i == 0) y st).bind (runFrom (i + 1) r)
theorem runFrom_snoc : ∀ (ys : List Str) (i : Nat) (y : Str) (st : List Dat × Bool), runFrom i (ys ++ [y]) st = (runFrom i ys st).bind (stp (i + ys.length == 0) y)
  | [], i, y, st => by
    show (stp (i == 0) y st).bind some = _
    simp [runFrom]
  | z :: r, i, y, st => by
    show (stp (i == 0) z st).bind (runFrom (i + 1) (r ++ [y])) = ((stp (i == 0) z st).bind (runFrom (i + 1) r)).bind _
    rw [Option.bind_assoc]
    congr 1
    funext st'
    rw [runFrom_snoc r (i + 1) y st', List.length_cons, Nat.add_assoc, Nat.add_comm 1]
def runHdr (ys : List Str) : Option (List Dat × Bool) := runFrom 0 ys ([], false)
theorem runHdr_next {ys : List Str} {i : Nat} {y : Str} {st : List Dat × Bool} (hi : ys[i]? = some y) (h : runHdr (ys.take i) = some st) : runHdr (ys.take (i + 1)) = stp (i == 0) y st := by
  have hl : i < ys.length := (List.getElem?_eq_some_iff.mp hi).1
  have e : ys.take (i + 1) = ys.take i ++ [y] := by rw [List.take_add_one, hi]; rfl
  unfold runHdr at h ⊢
  rw [e, runFrom_snoc, h, List.length_take, Nat.min_eq_left (Nat.le_of_lt hl), Nat.zero_add]
  rfl
/-- what one header gives -/
def hdrD (x : Str) : Option Dat := match runHdr (Txt.split x (Str.ofString ";")) with
  | none => none
  | some (ds, b) => if ds.isEmpty = true then none else some (.list (if b = true then ds else ds ++ [pairD (Str.ofString "version") (some (Str.ofString "0"))]))
def allD (xs : List Str) : List Dat := xs.filterMap hdrD
end Mine
namespace Mine
/-! the ledger: what is new lies above what was there -/
def Over (new old : List (Addr × Obj)) : Prop := ∀ q ∈ new, ∀ z ∈ old, @LT.lt Nat _ z.1 q.1
theorem Over.nil {old : List (Addr × Obj)} : Over [] old := fun _ h => nomatch h
theorem Over.cons {q : Addr × Obj} {new old : List (Addr × Obj)} (h : ∀ z ∈ old, @LT.lt Nat _ z.1 q.1) (o : Over new old) : Over (q :: new) old := fun x hx z hz => by
  rcases List.mem_cons.mp hx with rfl | hx
  · exact h z hz
  · exact o x hx z hz
theorem Over.append {a b old : List (Addr × Obj)} (h : Over a old) (o : Over b old) : Over (a ++ b) old := fun x hx z hz => (List.mem_append.mp hx).elim (fun h1 => h x h1 z hz) fun h1 => o x h1 z hz
theorem Over.mono {new old old' : List (Addr × Obj)} (o : Over new old) (h : ∀ z ∈ old', z ∈ old) : Over new old' := fun x hx z hz => o x hx z (h z hz)
theorem allLt_out {d : Addr} {l : List (Addr × Obj)} (h : AllLt d l) : ∀ p ∈ l, @LT.lt Nat _ p.1 d := by
  induction l with
  | nil => intro p hp; cases hp
  | cons q r ih =>
    intro p hp
    rcases List.mem_cons.mp hp with e | hp
    · rw [e]; exact h.1
    · exact ih h.2 p hp
section
variable {h₀ : Heap} {L : Addr}
theorem news_re {h : Heap} {news news' : List (Addr × Obj)} (N : News h₀ L h news) (hs : ∀ q ∈ news', q ∈ news) : News h₀ L h news' := fun q hq => N q (hs q hq)
def Jin (p r : Addr) (ro : Obj) (ka : Addr) (rest0 : List (Addr × Obj)) (P : Nat → Option (List Dat × Bool)) (i : Nat) (m : Str → Option Value) (nx : List (Addr × Obj)) : Prop :=
  ∃ (ps : List Value) (k : Nat) (tn : List (Addr × Obj)) (ds : List Dat) (b : Bool), P i = some (ds, b) ∧ nx = (p, listOf ps.toArray k) :: (r, ro) :: (tn ++ rest0) ∧ Over tn rest0 ∧ (∀ q ∈ tn, @LT.lt Nat _ r q.1 ∧ @LT.lt Nat _ p q.1) ∧ DatAll tn ps ds ∧ ds.length ≤ i ∧
    m (Str.ofString "pairs") = some (.ref p) ∧ m (Str.ofString "version_set") = some (.bool b) ∧ m (Str.ofString "result") = some (.ref r) ∧ m (Str.ofString "known_attrs") = some (.ref ka)
theorem in_end_skip {p r ka l : Addr} {ro lo xo : Obj} {rest0 own tn : List (Addr × Obj)} {P : Nat → Option (List Dat × Bool)} {i tk k : Nat} {m' : Str → Option Value} {h' : Heap} {s₁ : Shared} {x : Addr} {ps : List Value} {ds : List Dat} {b : Bool}
    (F : Fr h₀ L h' m') (N : News h₀ L h' ((x, xo) :: (p, listOf ps.toArray k) :: (r, ro) :: (tn ++ (rest0 ++ own)))) (hl : (l, lo) ∈ rest0) (hoff : OwnOff own (((p, listOf ps.toArray k) :: (r, ro) :: (tn ++ rest0)).map (·.1)))
    (h1 : P (i + 1) = some (ds, b)) (h2 : Over tn rest0) (h3 : ∀ q ∈ tn, @LT.lt Nat _ r q.1 ∧ @LT.lt Nat _ p q.1) (h4 : DatAll tn ps ds) (h5 : ds.length ≤ i)
    (m1 : m' (Str.ofString "pairs") = some (.ref p)) (m2 : m' (Str.ofString "version_set") = some (.bool b)) (m3 : m' (Str.ofString "result") = some (.ref r)) (m4 : m' (Str.ofString "known_attrs") = some (.ref ka)) :
    InvEndG h₀ L (fun m' nx => (l, lo) ∈ nx ∧ Jin p r ro ka rest0 P (i + 1) m' nx) own s₁ { s₁ with heap := h', toks := tk } := by
  refine ⟨h', tk, m', _, (p, listOf ps.toArray k) :: (r, ro) :: (tn ++ rest0), rfl, F, N, ?_, ?_, hoff, ?_, ps, k, tn, ds, b, h1, rfl, h2, h3, h4, Nat.le_succ_of_le h5, m1, m2, m3, m4⟩
  · intro q hq
    simp only [List.mem_cons, List.mem_append] at hq ⊢
    rcases hq with h | h | h | h
    · exact .inr (.inl h)
    · exact .inr (.inr (.inl h))
    · exact .inr (.inr (.inr (.inl h)))
    · exact .inr (.inr (.inr (.inr (.inl h))))
  · intro q hq
    simp only [List.mem_cons, List.mem_append]
    exact .inr (.inr (.inr (.inr (.inr hq))))
  · simp only [List.mem_cons, List.mem_append]
    exact .inr (.inr (.inr hl))
theorem in_end_put {p r ka l : Addr} {ro lo xo to : Obj} {rest0 own tn : List (Addr × Obj)} {P : Nat → Option (List Dat × Bool)} {i tk k : Nat} {m' : Str → Option Value} {h' : Heap} {s₁ : Shared} {x t : Addr} {ps : List Value} {ds : List Dat} {d : Dat} {b' : Bool}
    (F : Fr h₀ L h' m') (N : News h₀ L h' ((t, to) :: (x, xo) :: (p, listOf (ps.toArray.push (.ref t)) (k + 1)) :: (r, ro) :: (tn ++ (rest0 ++ own)))) (hl : (l, lo) ∈ rest0) (hoff : OwnOff own (((p, listOf ps.toArray k) :: (r, ro) :: (tn ++ rest0)).map (·.1)))
    (hlts : @LT.lt Nat _ x t ∧ @LT.lt Nat _ p t ∧ @LT.lt Nat _ r t ∧ AllLt t (tn ++ (rest0 ++ own))) (hd : DatIn [(t, to)] (.ref t) d)
    (h1 : P (i + 1) = some (ds ++ [d], b')) (h2 : Over tn rest0) (h3 : ∀ q ∈ tn, @LT.lt Nat _ r q.1 ∧ @LT.lt Nat _ p q.1) (h4 : DatAll tn ps ds) (h5 : ds.length ≤ i)
    (m1 : m' (Str.ofString "pairs") = some (.ref p)) (m2 : m' (Str.ofString "version_set") = some (.bool b')) (m3 : m' (Str.ofString "result") = some (.ref r)) (m4 : m' (Str.ofString "known_attrs") = some (.ref ka)) :
    InvEndG h₀ L (fun m' nx => (l, lo) ∈ nx ∧ Jin p r ro ka rest0 P (i + 1) m' nx) own s₁ { s₁ with heap := h', toks := tk } := by
  obtain ⟨_, hpt, hrt, hlt⟩ := hlts
  have hlt' := allLt_out hlt
  refine ⟨h', tk, m', _, (p, listOf (ps ++ [Value.ref t]).toArray (k + 1)) :: (r, ro) :: (((t, to) :: tn) ++ rest0), rfl, F, N, ?_, ?_, ?_, ?_, ps ++ [Value.ref t], k + 1, (t, to) :: tn, ds ++ [d], b', h1, rfl, ?_, ?_, ?_, ?_, m1, m2, m3, m4⟩
  · intro q hq
    simp only [List.mem_cons, List.mem_append, List.cons_append, List.push_toArray] at hq ⊢
    rcases hq with h | h | h | h | h
    · exact .inr (.inr (.inl h))
    · exact .inr (.inr (.inr (.inl h)))
    · exact .inl h
    · exact .inr (.inr (.inr (.inr (.inl h))))
    · exact .inr (.inr (.inr (.inr (.inr (.inl h)))))
  · intro q hq
    simp only [List.mem_cons, List.mem_append]
    exact .inr (.inr (.inr (.inr (.inr (.inr hq)))))
  · intro q hq a ha
    simp only [List.map_cons, List.map_append, List.cons_append, List.mem_cons, List.mem_append] at ha
    have ho := hoff q hq a
    simp only [List.map_cons, List.map_append, List.mem_cons, List.mem_append] at ho
    rcases ha with h | h | h | h | h
    · exact ho (.inl h)
    · exact ho (.inr (.inl h))
    · subst h
      exact Nat.ne_of_lt (hlt' q (List.mem_append.mpr (.inr (List.mem_append.mpr (.inr hq)))))
    · exact ho (.inr (.inr (.inl h)))
    · exact ho (.inr (.inr (.inr h)))
  · simp only [List.mem_cons, List.mem_append]
    exact .inr (.inr (.inr hl))
  · exact h2.cons fun z hz => hlt' z (List.mem_append.mpr (.inr (List.mem_append.mpr (.inl hz))))
  · intro q hq
    rcases List.mem_cons.mp hq with rfl | hq
    · exact ⟨hrt, hpt⟩
    · exact h3 q hq
  · exact (h4.mono fun _ h => .tail _ h).append (.one (hd.mono fun q hq => by rw [List.mem_singleton.mp hq]; exact .head _))
  · rw [List.length_append]; exact Nat.succ_le_succ h5
def Jout (r ka : Addr) (rest0 : List (Addr × Obj)) (P : Nat → List Dat) (i : Nat) (m : Str → Option Value) (nx : List (Addr × Obj)) : Prop :=
  ∃ (rs : List Value) (k : Nat) (tn : List (Addr × Obj)), nx = (r, listOf rs.toArray k) :: (tn ++ rest0) ∧ Over tn rest0 ∧ (∀ q ∈ tn, @LT.lt Nat _ r q.1) ∧ DatAll tn rs (P i) ∧ (P i).length ≤ i ∧ m (Str.ofString "result") = some (.ref r) ∧ m (Str.ofString "known_attrs") = some (.ref ka)
theorem out_end {r ka l : Addr} {lo : Obj} {rest0 own tn news' : List (Addr × Obj)} {P : Nat → List Dat} {i tk k k0 : Nat} {m' : Str → Option Value} {h' : Heap} {s₁ : Shared} {rs rs0 : List Value} (add : List (Addr × Obj))
    (F : Fr h₀ L h' m') (N : News h₀ L h' news') (hl : (l, lo) ∈ rest0) (hoff : OwnOff own (((r, listOf rs0.toArray k0) :: (tn ++ rest0)).map (·.1)))
    (hr : (r, listOf rs.toArray k) ∈ news') (hadd : ∀ q ∈ add, q ∈ news') (hold : ∀ q ∈ tn ++ (rest0 ++ own), q ∈ news')
    (ho1 : Over add (tn ++ (rest0 ++ own))) (ho2 : ∀ q ∈ add, @LT.lt Nat _ r q.1) (h2 : Over tn rest0) (h3 : ∀ q ∈ tn, @LT.lt Nat _ r q.1)
    (hD : DatAll (add ++ tn) rs (P (i + 1))) (hlen : (P (i + 1)).length ≤ i + 1)
    (m3 : m' (Str.ofString "result") = some (.ref r)) (m4 : m' (Str.ofString "known_attrs") = some (.ref ka)) :
    InvEndG h₀ L (fun m' nx => (l, lo) ∈ nx ∧ Jout r ka rest0 P (i + 1) m' nx) own s₁ { s₁ with heap := h', toks := tk } := by
  refine ⟨h', tk, m', _, (r, listOf rs.toArray k) :: ((add ++ tn) ++ rest0), rfl, F, N, ?_, ?_, ?_, ?_, rs, k, add ++ tn, rfl, ?_, ?_, hD, hlen, m3, m4⟩
  · intro q hq
    rcases List.mem_cons.mp hq with e | hq
    · rw [e]; exact hr
    · rcases List.mem_append.mp hq with hq | hq
      · rcases List.mem_append.mp hq with hq | hq
        · exact hadd q hq
        · exact hold q (List.mem_append.mpr (.inl hq))
      · exact hold q (List.mem_append.mpr (.inr (List.mem_append.mpr (.inl hq))))
  · exact fun q hq => hold q (List.mem_append.mpr (.inr (List.mem_append.mpr (.inr hq))))
  · intro q hq a ha
    obtain ⟨z, hz, e⟩ := List.mem_map.mp ha
    subst e
    rcases List.mem_cons.mp hz with e | hz
    · rw [e]; exact hoff q hq _ (List.mem_cons_self ..)
    · rcases List.mem_append.mp hz with hz | hz
      · rcases List.mem_append.mp hz with hz | hz
        · exact Nat.ne_of_lt (ho1 z hz q (List.mem_append.mpr (.inr (List.mem_append.mpr (.inr hq)))))
        · exact hoff q hq _ (List.mem_map.mpr ⟨z, List.mem_cons_of_mem _ (List.mem_append.mpr (.inl hz)), rfl⟩)
      · exact hoff q hq _ (List.mem_map.mpr ⟨z, List.mem_cons_of_mem _ (List.mem_append.mpr (.inr hz)), rfl⟩)
  · exact List.mem_cons_of_mem _ (List.mem_append.mpr (.inr hl))
  · exact (ho1.mono fun z hz => List.mem_append.mpr (.inr (List.mem_append.mpr (.inl hz)))).append h2
  · intro q hq
    rcases List.mem_append.mp hq with hq | hq
    · exact ho2 q hq
    · exact h3 q hq
end
section
variable {h₀ : Heap} {L : Addr}
theorem out_app {p r ka l : Addr} {lo : Obj} {rest0 rest2 own tn news' : List (Addr × Obj)} {P : Nat → List Dat} {i tk k k0 kp : Nat} {m' : Str → Option Value} {h' : Heap} {s₁ : Shared} {rs pv : List Value} {ds dp : List Dat} (add : List (Addr × Obj))
    (F : Fr h₀ L h' m') (N : News h₀ L h' news') (hl : (l, lo) ∈ rest0) (hoff : OwnOff own (((r, listOf rs.toArray k0) :: (tn ++ rest0)).map (·.1)))
    (hr : (r, listOf (rs.toArray.push (.ref p)) k) ∈ news') (hp : (p, listOf pv.toArray kp) ∈ news') (hadd : ∀ q ∈ add, q ∈ news') (hold : ∀ q ∈ tn ++ (rest0 ++ own), q ∈ rest2) (hold2 : ∀ q ∈ rest2, q ∈ news')
    (ho1 : Over add rest2) (ho2 : ∀ q ∈ add, @LT.lt Nat _ r q.1) (hpo : ∀ z ∈ tn ++ (rest0 ++ own), @LT.lt Nat _ z.1 p) (hrp : @LT.lt Nat _ r p) (h2 : Over tn rest0) (h3 : ∀ q ∈ tn, @LT.lt Nat _ r q.1)
    (hD : DatAll tn rs ds) (hd : DatAll add pv dp) (hP : P (i + 1) = ds ++ [.list dp]) (hlen : ds.length ≤ i)
    (m3 : m' (Str.ofString "result") = some (.ref r)) (m4 : m' (Str.ofString "known_attrs") = some (.ref ka)) :
    InvEndG h₀ L (fun m' nx => (l, lo) ∈ nx ∧ Jout r ka rest0 P (i + 1) m' nx) own s₁ { s₁ with heap := h', toks := tk } := by
  rw [List.push_toArray] at hr
  refine out_end (rs := rs ++ [.ref p]) ((p, listOf pv.toArray kp) :: add) F N hl hoff hr ?_ (fun q hq => hold2 q (hold q hq)) ?_ ?_ h2 h3 ?_ ?_ m3 m4
  · intro q hq
    rcases List.mem_cons.mp hq with e | hq
    · rw [e]; exact hp
    · exact hadd q hq
  · exact Over.cons hpo (ho1.mono hold)
  · intro q hq
    rcases List.mem_cons.mp hq with e | hq
    · rw [e]; exact hrp
    · exact ho2 q hq
  · rw [hP]
    exact (hD.mono fun q hq => List.mem_append.mpr (.inr hq)).append (.one (DatIn.list (List.mem_cons_self ..) (hd.mono fun q hq => List.mem_cons_of_mem _ (List.mem_append.mpr (.inl hq)))))
  · rw [hP, List.length_append]; exact Nat.succ_le_succ hlen
end
section
variable {h₀ : Heap} {L : Addr}
theorem out_app2 {p r ka l t : Addr} {lo to : Obj} {rest0 rest2 own tn tn2 : List (Addr × Obj)} {P : Nat → List Dat} {i tk k k0 kp : Nat} {m' : Str → Option Value} {h' : Heap} {s₁ : Shared} {rs pv : List Value} {ds dp : List Dat} {d : Dat}
    (F : Fr h₀ L h' m') (N : News h₀ L h' ((t, to) :: (p, listOf (pv.toArray.push (.ref t)) kp) :: (r, listOf (rs.toArray.push (.ref p)) k) :: (tn2 ++ rest2))) (hlts : @LT.lt Nat _ p t ∧ @LT.lt Nat _ r t ∧ AllLt t (tn2 ++ rest2)) (hdt : DatIn [(t, to)] (.ref t) d)
    (hl : (l, lo) ∈ rest0) (hoff : OwnOff own (((r, listOf rs.toArray k0) :: (tn ++ rest0)).map (·.1))) (hold : ∀ q ∈ tn ++ (rest0 ++ own), q ∈ rest2)
    (ho1 : Over tn2 rest2) (ho2 : ∀ q ∈ tn2, @LT.lt Nat _ r q.1 ∧ @LT.lt Nat _ p q.1) (hpo : ∀ z ∈ tn ++ (rest0 ++ own), @LT.lt Nat _ z.1 p) (hrp : @LT.lt Nat _ r p) (h2 : Over tn rest0) (h3 : ∀ q ∈ tn, @LT.lt Nat _ r q.1)
    (hD : DatAll tn rs ds) (hd : DatAll tn2 pv dp) (hP : P (i + 1) = ds ++ [.list (dp ++ [d])]) (hlen : ds.length ≤ i)
    (m3 : m' (Str.ofString "result") = some (.ref r)) (m4 : m' (Str.ofString "known_attrs") = some (.ref ka)) :
    InvEndG h₀ L (fun m' nx => (l, lo) ∈ nx ∧ Jout r ka rest0 P (i + 1) m' nx) own s₁ { s₁ with heap := h', toks := tk } := by
  obtain ⟨hpt, hrt, hlt⟩ := hlts
  have hlt' := allLt_out hlt
  have hp' : (p, listOf (pv ++ [Value.ref t]).toArray kp) ∈ (t, to) :: (p, listOf (pv.toArray.push (.ref t)) kp) :: (r, listOf (rs.toArray.push (.ref p)) k) :: (tn2 ++ rest2) := by
    rw [List.push_toArray]; exact List.mem_cons_of_mem _ (List.mem_cons_self ..)
  refine out_app ((t, to) :: tn2) F N hl hoff (List.mem_cons_of_mem _ (List.mem_cons_of_mem _ (List.mem_cons_self ..))) hp' ?_ hold (fun q hq => List.mem_cons_of_mem _ (List.mem_cons_of_mem _ (List.mem_cons_of_mem _ (List.mem_append.mpr (.inr hq))))) ?_ ?_ hpo hrp h2 h3 hD ?_ hP hlen m3 m4
  · intro q hq
    rcases List.mem_cons.mp hq with e | hq
    · rw [e]; exact List.mem_cons_self ..
    · exact List.mem_cons_of_mem _ (List.mem_cons_of_mem _ (List.mem_cons_of_mem _ (List.mem_append.mpr (.inl hq))))
  · exact Over.cons (fun z hz => hlt' z (List.mem_append.mpr (.inr hz))) ho1
  · intro q hq
    rcases List.mem_cons.mp hq with e | hq
    · rw [e]; exact hrt
    · exact (ho2 q hq).1
  · exact (hd.mono fun q hq => List.mem_cons_of_mem _ hq).append (.one (hdt.mono fun q hq => by rw [List.mem_singleton.mp hq]; exact List.mem_cons_self ..))
end
theorem runHdr_break {ys : List Str} {y : Str} (hy : ys[0]? = some y) (hk : ((keyOf y).length : Int) = 0) : runHdr ys = none := by
  cases ys with
  | nil => cases hy
  | cons z r =>
    have : z = y := by simpa using hy
    subst this
    unfold runHdr runFrom stp
    rw [if_pos hk, if_pos (by rfl)]
    rfl
theorem allD_take {hs : List Str} {i : Nat} {x : Str} (hx : hs[i]? = some x) : allD (hs.take (i + 1)) = allD (hs.take i) ++ (hdrD x).toList := by
  have e : hs.take (i + 1) = hs.take i ++ [x] := by rw [List.take_add_one, hx]; rfl
  unfold allD
  rw [e, List.filterMap_append]
  cases h : hdrD x <;> simp [h]
section
variable {prog : Program} {w : World} {A : Around} {E : Value → Shared → Prop} {s : Shared} {env : Env} {h₀ : Heap} {body : List Stmt} {Q : Flow → Shared → Prop}
/-- for xi, xc in a list of pairs that the ledger bears -/
theorem pair_loop {xi xc : Str} {pi pc pt : Pos} {x1 : Nat} {l : Addr} {vs : List Value} {nn : Nat} {m₀ : Str → Option Value} {news : List (Addr × Obj)} (keep : List (Addr × Obj)) (PP : Nat → Value → Value → Prop) (J : Nat → (Str → Option Value) → List (Addr × Obj) → Prop)
    (hE : PassesOwn (model prog w) A env E) (hh : A.handled = none) (hxi : env.kindOf xi = some .local) (hxc : env.kindOf xc = some .local)
    (hp : (env.scope.kind == .class || (env.scope.kind == .module && env.locals != env.globals)) = false)
    (hl : (l, listOf vs.toArray nn) ∈ keep) (hkeep : ∀ q ∈ keep, q ∈ news) (hpair : ∀ (i : Nat) (v : Value), vs[i]? = some v → ∃ t a b n, v = Value.ref t ∧ (t, ({ cls := .type "tuple", data := .seq [a, b].toArray n } : Obj)) ∈ keep ∧ PP i a b)
    (F : Fr h₀ env.locals s.heap m₀) (N : News h₀ env.locals s.heap news) (hj : J 0 m₀ news)
    (turn : ∀ i a b m₁ news₁ h tk own, i < vs.length → PP i a b → OwnOff own (news₁.map (·.1)) → (∀ q ∈ keep, q ∈ news₁) → J i m₁ news₁ →
      Fr h₀ env.locals h (fun y => if y = xc then some b else if y = xi then some a else m₁ y) → News h₀ env.locals h (news₁ ++ own) →
      wpAny (model prog w) A (execs body env) (InvPostG h₀ env.locals (fun m' nx => (∀ q ∈ keep, q ∈ nx) ∧ J (i + 1) m' nx) own { s with heap := h, toks := tk } Q) E { s with heap := h, toks := tk })
    (done : ∀ m₁ news₁ h tk, (∀ q ∈ keep, q ∈ news₁) → J vs.length m₁ news₁ → Fr h₀ env.locals h m₁ → News h₀ env.locals h news₁ → Q .next { s with heap := h, toks := tk }) :
    wpAny (model prog w) A (pyIter (.ref l)) (fun it s₂ =>
      codeAny (model prog w) A (.forLoop (.Tuple [.Name xi pi, .Name xc pc] x1 pt) it body [] env) (fun r s' => match r with | .ok f => Q f s' | .error e => cameBackBy (model prog w) A env E e s') s₂) E s := by
  have hol : s.heap.get? l = some (listOf vs.toArray nn) := (N _ (hkeep _ hl)).1
  have hls : s.heap.IsList l vs.toArray := ⟨_, hol, rfl, nn, rfl⟩
  have hLs : @LT.lt Nat _ env.locals s.heap.objs.size := F.ns.lt
  have hab : @LE.le Nat _ h₀.objs.size env.locals := F.above
  have hll : @LT.lt Nat _ l s.heap.objs.size := Heap.lt_size hol
  have hfresh : ∀ q ∈ news, q.1 ≠ s.heap.objs.size := fun q hq => Nat.ne_of_lt (Heap.lt_size (N q hq).1)
  have hne : l ≠ s.heap.objs.size := Nat.ne_of_lt hll
  refine wpAny_pyIter_list hls ?_
  have W := Walks.list (prog := prog) (w := w) hh s.heap.objs.size l hne vs.toArray
  obtain ⟨it, hi0⟩ : ∃ e : Nat, e = s.heap.objs.size := ⟨_, rfl⟩
  have st0 : (s.heap.push { cls := .type "list_iterator", data := .fields #[.ref l, .int 0 0] }).IsListIter s.heap.objs.size l 0 := ⟨_, Heap.get?_push_size _ rfl, rfl, rfl⟩
  rw [← hi0] at W hfresh st0
  rw [← hi0]
  have hiL : @Ne Nat it env.locals := by omega
  have hni : h₀.get? it = none := Heap.get?_none_of_le (by omega)
  have hli : @Ne Nat l it := by omega
  have hn : vs.toArray.size = vs.length := by simp
  rw [hn] at W
  have F' : Fr h₀ env.locals (s.heap.push { cls := .type "list_iterator", data := .fields #[.ref l, .int 0 0] }) m₀ := F.push _
  refine codeAny_forLoop_any (R := fun r s' => match r with | .ok f => Q f s' | .error e => cameBackBy (model prog w) A env E e s')
    (fun k s' => ∃ h' tk m' nx i, s' = { s with heap := h', toks := tk } ∧ (h'.IsListIter it l i ∧ h'.IsList l vs.toArray) ∧ Fr h₀ env.locals h' m' ∧ News h₀ env.locals h' nx ∧
      (∀ q ∈ nx, q.1 ≠ it) ∧ (∀ q ∈ keep, q ∈ nx) ∧ J i m' nx ∧ i ≤ vs.length ∧ k = vs.length + 1 - i) ?_ (vs.length + 1)
    ⟨_, s.toks, m₀, news, 0, rfl, ⟨st0, hls.at fun o x => Heap.get?_push_of_some _ x⟩, F', fun p hp => ⟨Heap.get?_push_of_some _ (N p hp).1, (N p hp).2⟩, hfresh, hkeep, hj, Nat.zero_le _, rfl⟩
  rintro k s' ⟨H, tk, m', nx, i, rfl, hst, F₁, N₁, hoff, hl₁, hJ, hi, rfl⟩
  by_cases hlt : i < vs.length
  · refine W.item i _ _ _ hlt hst fun v h₁ tk₁ hP hst₁ hk₁ => ?_
    have hv' : vs[i]? = some v := by simpa using hP
    obtain ⟨t, a, b, n, rfl, hm, hPP⟩ := hpair i v hv'
    refine letGo_listiter hst₁.1 ?_
    have k1 : ∀ b o, b ≠ it → H.get? b = some o → h₁.get? b = some o := fun b o h1 x => hk₁ b o (by simp [h1]) x
    have hIT : h₁.IsTuple t [a, b].toArray := ⟨_, k1 t _ (hoff _ (hl₁ _ hm)) (N₁ _ (hl₁ _ hm)).1, rfl, _, rfl⟩
    refine wpAny_assign_Tuple hh hIT rfl rfl fun h₃ hx₃ => ?_
    replace hx₃ : Heap.ExtBut h₁.objs.size h₁ h₃ := hx₃
    have k23 : ∀ b o, h₁.get? b = some o → h₃.get? b = some o := fun b o x => hx₃ b o (Nat.ne_of_lt (Heap.lt_size x)) x
    have hL₃ : h₃.Ns env.locals m' := (F₁.ns.at' fun o x => k23 _ o (k1 _ o (Ne.symm hiL) x))
    show wpAny _ A (do holding [b] (assign (.Name xi pi) env a); do holding [] (assign (.Name xc pc) env b); pure ()) _ _ _
    refine wpAny_bind (wpAny_holding (wpAny_assign_Name (wpAny_storeName_local hxi hL₃ (fun h₄ hn₄ hs₄ => ?_) hp)))
    replace hs₄ : Heap.SameBut env.locals h₃ h₄ := hs₄
    refine wpAny_bind (wpAny_holding (wpAny_assign_Name (wpAny_storeName_local hxc hn₄ (fun h₅ hn₅ hs₅ => wpAny_pure ?_) hp)))
    replace hs₅ : Heap.SameBut env.locals h₄ h₅ := hs₅
    have k25 : ∀ b o, b ≠ env.locals → h₁.get? b = some o → h₅.get? b = some o := fun b o hb x => hs₅.extBut b o hb (hs₄.extBut b o hb (k23 b o x))
    have k15 : ∀ b o, b ≠ env.locals → b ≠ it → H.get? b = some o → h₅.get? b = some o := fun b o hb h1 x => k25 b o hb (k1 b o h1 x)
    obtain ⟨⟨oi, hoi, hci, hdi⟩, hls₂⟩ := hst₁
    have F₅ : Fr h₀ env.locals h₅ (fun y => if y = xc then some b else if y = xi then some a else m' y) :=
      ⟨hn₅, fun b o x => by
        have hb : @LT.lt Nat _ b h₀.objs.size := Heap.lt_size x
        exact k15 b o (by show @Ne Nat b env.locals; omega) (by rintro rfl; rw [hni] at x; cases x) (F₁.keep b o x), F₁.above⟩
    have hi₅ := k25 it _ hiL hoi
    have N₅ : News h₀ env.locals h₅ (nx ++ [(it, oi)]) := fun p hp => by
      rcases List.mem_append.mp hp with hp | hp
      · exact ⟨k15 _ _ (N₁ p hp).2.1 (hoff p hp) (N₁ p hp).1, (N₁ p hp).2⟩
      · rw [List.mem_singleton.mp hp]
        exact ⟨hi₅, hiL, hni⟩
    have hown : OwnOff [(it, oi)] (nx.map (·.1)) := fun p hp b hb => by
      obtain ⟨q, hq, rfl⟩ := List.mem_map.mp hb
      rw [List.mem_singleton.mp hp]; exact (hoff q hq).symm
    refine wpAny_mono (wpAny_passesOwn hE (turn i a b m' nx h₅ _ _ hlt hPP hown hl₁ hJ F₅ N₅)) (fun f s₃ hf => ?_) fun _ _ x => x
    have fin : InvEndG h₀ env.locals (fun m' nx => (∀ q ∈ keep, q ∈ nx) ∧ J (i + 1) m' nx) [(it, oi)] { s with heap := h₅, toks := tk₁ + 1 + 1 } s₃ →
        ∃ m, m < vs.length + 1 - i ∧ ∃ h' tk m' nx i, s₃ = { s with heap := h', toks := tk } ∧ (h'.IsListIter it l i ∧ h'.IsList l vs.toArray) ∧ Fr h₀ env.locals h' m' ∧ News h₀ env.locals h' nx ∧
      (∀ q ∈ nx, q.1 ≠ it) ∧ (∀ q ∈ keep, q ∈ nx) ∧ J i m' nx ∧ i ≤ vs.length ∧ m = vs.length + 1 - i := by
      rintro ⟨h₆, tk₆, m₆, n₆, nx₆, rfl, F₆, N₆, hn₆, ho₆, ha₆, hl₆, hJ₆⟩
      refine ⟨vs.length + 1 - (i + 1), by omega, h₆, tk₆, m₆, nx₆, i + 1, rfl, ⟨⟨oi, (N₆ _ (ho₆ _ (List.mem_singleton.mpr rfl))).1, hci, hdi⟩, ⟨_, (N₆ _ (hn₆ _ (hl₆ _ hl))).1, rfl, nn, rfl⟩⟩, F₆, fun p hp => N₆ p (hn₆ p hp), fun q hq => ?_, hl₆, hJ₆, hlt, rfl⟩
      exact fun x => ha₆ _ (List.mem_singleton.mpr rfl) q.1 (List.mem_map.mpr ⟨q, hq, rfl⟩) x.symm
    cases f with
    | ret v => exact hf
    | brk => exact hf
    | next => exact fin hf
    | cont => exact fin hf
  · have hin : i = vs.length := by omega
    subst hin
    refine W.done _ _ _ hst fun h₁ tk₁ hk₁ => wpAny_execs_nil ?_
    have k1 : ∀ b o, b ≠ it → H.get? b = some o → h₁.get? b = some o := fun b o h1 x => hk₁ b o (by simp [h1]) x
    exact done m' nx h₁ tk₁ hl₁ hJ ⟨F₁.ns.at' fun o x => k1 _ o (Ne.symm hiL) x, fun b o x => k1 b o (by rintro rfl; rw [hni] at x; cases x) (F₁.keep b o x), F₁.above⟩
      fun p hp => ⟨k1 _ _ (hoff p hp) (N₁ p hp).1, (N₁ p hp).2⟩
end
theorem ne_grow1 {e : Addr × Obj} {tn rest new : List (Addr × Obj)} (hne : ∀ q ∈ tn ++ rest, q.1 ≠ e.1) (ho : Over new (e :: (tn ++ rest))) : ∀ q ∈ (new ++ tn) ++ rest, q.1 ≠ e.1 := by
  intro q hq
  rw [List.append_assoc] at hq
  rcases List.mem_append.mp hq with hq | hq
  · exact Nat.ne_of_gt (ho q hq e (List.mem_cons_self ..))
  · exact hne q hq
theorem ne_grow2 {e e2 : Addr × Obj} {tn rest new : List (Addr × Obj)} (hne : ∀ q ∈ tn ++ rest, q.1 ≠ e.1) (ho : Over new (e :: e2 :: (tn ++ rest))) : ∀ q ∈ (new ++ tn) ++ rest, q.1 ≠ e.1 := by
  intro q hq
  rw [List.append_assoc] at hq
  rcases List.mem_append.mp hq with hq | hq
  · exact Nat.ne_of_gt (ho q hq e (List.mem_cons_self ..))
  · exact hne q hq
theorem sub_grow1 (e : Addr × Obj) (tn rest new : List (Addr × Obj)) : ∀ q ∈ e :: ((new ++ tn) ++ rest), q ∈ new ++ (e :: (tn ++ rest)) := by
  intro q hq
  simp only [List.mem_cons, List.mem_append] at hq ⊢
  rcases hq with h | (h | h) | h
  · exact .inr (.inl h)
  · exact .inl h
  · exact .inr (.inr (.inl h))
  · exact .inr (.inr (.inr h))
theorem sub_grow2 (e e2 : Addr × Obj) (tn rest new : List (Addr × Obj)) : ∀ q ∈ e :: e2 :: ((new ++ tn) ++ rest), q ∈ new ++ (e :: e2 :: (tn ++ rest)) := by
  intro q hq
  simp only [List.mem_cons, List.mem_append] at hq ⊢
  rcases hq with h | h | (h | h) | h
  · exact .inr (.inl h)
  · exact .inr (.inr (.inl h))
  · exact .inl h
  · exact .inr (.inr (.inr (.inl h)))
  · exact .inr (.inr (.inr (.inr h)))
section
variable {h₀ h : Heap} {L : Addr}
theorem shp_skip {x p r : Addr} {xo ro : Obj} {A : Array Value} {k : Nat} {rest : List (Addr × Obj)} (N : News h₀ L h ((x, xo) :: (p, listOf A k) :: (r, ro) :: rest)) : True := trivial
theorem shp_some {t x p : Addr} {xo : Obj} {A : Array Value} {k : Nat} {v : Value} {rest : List (Addr × Obj)} {a b : Str} {ta tb : Tok} {n : Nat} (N : News h₀ L h ((t, { cls := .type "tuple", data := .seq #[.str a ta, .str b tb] n }) :: (x, xo) :: (p, listOf (A.push v) k) :: rest)) : True := trivial
theorem shp_none {t x p : Addr} {xo : Obj} {A : Array Value} {k : Nat} {v : Value} {rest : List (Addr × Obj)} {a : Str} {ta : Tok} {n : Nat} (N : News h₀ L h ((t, { cls := .type "tuple", data := .seq #[.str a ta, .none] n }) :: (x, xo) :: (p, listOf (A.push v) k) :: rest)) : True := trivial
theorem ld_hyp {M : Model} {A : Around} {E : Value → Shared → Prop} {s : Shared} {name : Str} {scope : Scope} {a : Addr} {cd : Value} {m m₂ : Str → Option Value} {x : Str} {pos : Pos} {v : Value} {Q : Value → Shared → Prop} (F : Fr h₀ L s.heap m) (hv : m₂ x = some v) (he : m x = m₂ x) (h : Q v s)
    (hk : scope.kind = .function := by rfl) (hl : (envOf name scope L a cd).kindOf x = some .local := by rfl)
    (hd : (x == ("__debug__" : Str)) = false := by decide) :
    wpAny M A (eval (.Name x pos) (envOf name scope L a cd)) Q E s := ld F (he.trans hv) h hk hl hd
end
theorem flag_k_ver {y : Str} (hn : isKnown (Txt.lower (Txt.strip (Txt.partition (Txt.strip y) (Str.ofString "=")).1)) = true) (hv : ((Txt.lower (Txt.strip (Txt.partition (Txt.strip y) (Str.ofString "=")).1)) == Str.ofString "version") = true) : True := trivial
theorem flag_k_oth {y : Str} (hn : isKnown (Txt.lower (Txt.strip (Txt.partition (Txt.strip y) (Str.ofString "=")).1)) = true) (hv : ((Txt.lower (Txt.strip (Txt.partition (Txt.strip y) (Str.ofString "=")).1)) == Str.ofString "version") = false) : True := trivial
theorem flag_u_ver {y : Str} (hn : isKnown (Txt.lower (Txt.strip (Txt.partition (Txt.strip y) (Str.ofString "=")).1)) = false) (hv : ((Txt.strip (Txt.partition (Txt.strip y) (Str.ofString "=")).1) == Str.ofString "version") = true) : True := trivial
theorem flag_u_oth {y : Str} (hn : isKnown (Txt.lower (Txt.strip (Txt.partition (Txt.strip y) (Str.ofString "=")).1)) = false) (hv : ((Txt.strip (Txt.partition (Txt.strip y) (Str.ofString "=")).1) == Str.ofString "version") = false) : True := trivial
theorem nodates {y : Str} (he : expOk y) (hs : ((Txt.partition (Txt.strip y) (Str.ofString "=")).2.1.length : Int) ≠ 0) (hk : key1 y = Str.ofString "expires") : False := hs (he hk)
theorem pair_str {t : Addr} {k v : Str} {a b : Tok} {n : Nat} : DatIn [(t, ({ cls := .type "tuple", data := .seq #[.str k a, .str v b] n } : Obj))] (.ref t) (pairD k (some v)) :=
  DatIn.tuple (List.mem_singleton.mpr rfl) (.cons (.str _ _) (.cons (.str _ _) .nil))
theorem pair_none {t : Addr} {k : Str} {a : Tok} {n : Nat} : DatIn [(t, ({ cls := .type "tuple", data := .seq #[.str k a, .none] n } : Obj))] (.ref t) (pairD k none) :=
  DatIn.tuple (List.mem_singleton.mpr rfl) (.cons (.str _ _) (.cons .none .nil))
section
variable {ys : List Str} {y : Str} {i : Nat} {ds : List Dat} {b : Bool}
theorem rk_first_some (hy : ys[0]? = some y) (hP : runHdr (ys.take 0) = some (ds, b)) (hk : ((Txt.strip (Txt.partition (Txt.strip y) (Str.ofString "=")).1).length : Int) ≠ 0) (hs : ((Txt.partition (Txt.strip y) (Str.ofString "=")).2.1.length : Int) ≠ 0) : runHdr (ys.take (0 + 1)) = some (ds ++ [pairD (Txt.strip (Txt.partition (Txt.strip y) (Str.ofString "=")).1) (some (Txt.strip (Txt.partition (Txt.strip y) (Str.ofString "=")).2.2))], b) := by
  have e : val1 y = some (Txt.strip (Txt.partition (Txt.strip y) (Str.ofString "=")).2.2) := if_neg hs
  rw [runHdr_next hy hP]
  show stp true y (ds, b) = _
  unfold stp
  rw [if_neg (show ¬ ((keyOf y).length : Int) = 0 from hk), if_pos rfl, e]
  rfl
theorem rk_k_ver_some (hy : ys[i]? = some y) (hP : runHdr (ys.take i) = some (ds, b)) (hi : ¬ i = 0) (hk : ((Txt.strip (Txt.partition (Txt.strip y) (Str.ofString "=")).1).length : Int) ≠ 0) (hs : ((Txt.partition (Txt.strip y) (Str.ofString "=")).2.1.length : Int) ≠ 0) (hn : isKnown (Txt.lower (Txt.strip (Txt.partition (Txt.strip y) (Str.ofString "=")).1)) = true) (hv : ((Txt.lower (Txt.strip (Txt.partition (Txt.strip y) (Str.ofString "=")).1)) == Str.ofString "version") = true) : runHdr (ys.take (i + 1)) = some (ds ++ [pairD (Txt.lower (Txt.strip (Txt.partition (Txt.strip y) (Str.ofString "=")).1)) (some (stripQ (Txt.strip (Txt.partition (Txt.strip y) (Str.ofString "=")).2.2)))], true) := by
  have e : val1 y = some (Txt.strip (Txt.partition (Txt.strip y) (Str.ofString "=")).2.2) := if_neg hs
  have ek : key1 y = (Txt.lower (Txt.strip (Txt.partition (Txt.strip y) (Str.ofString "=")).1)) := if_pos hn
  rw [runHdr_next hy hP, beq_false_of_ne hi]
  unfold stp
  rw [if_neg (show ¬ ((keyOf y).length : Int) = 0 from hk), if_neg Bool.false_ne_true, ek, e, if_pos hv]
  rfl
theorem rk_k_oth_some (hy : ys[i]? = some y) (hP : runHdr (ys.take i) = some (ds, b)) (hi : ¬ i = 0) (hk : ((Txt.strip (Txt.partition (Txt.strip y) (Str.ofString "=")).1).length : Int) ≠ 0) (hs : ((Txt.partition (Txt.strip y) (Str.ofString "=")).2.1.length : Int) ≠ 0) (hn : isKnown (Txt.lower (Txt.strip (Txt.partition (Txt.strip y) (Str.ofString "=")).1)) = true) (hv : ((Txt.lower (Txt.strip (Txt.partition (Txt.strip y) (Str.ofString "=")).1)) == Str.ofString "version") = false) : runHdr (ys.take (i + 1)) = some (ds ++ [pairD (Txt.lower (Txt.strip (Txt.partition (Txt.strip y) (Str.ofString "=")).1)) (some (Txt.strip (Txt.partition (Txt.strip y) (Str.ofString "=")).2.2))], b) := by
  have e : val1 y = some (Txt.strip (Txt.partition (Txt.strip y) (Str.ofString "=")).2.2) := if_neg hs
  have ek : key1 y = (Txt.lower (Txt.strip (Txt.partition (Txt.strip y) (Str.ofString "=")).1)) := if_pos hn
  rw [runHdr_next hy hP, beq_false_of_ne hi]
  unfold stp
  rw [if_neg (show ¬ ((keyOf y).length : Int) = 0 from hk), if_neg Bool.false_ne_true, ek, e, if_neg (by rw [hv]; exact Bool.false_ne_true)]
theorem rk_u_ver_some (hy : ys[i]? = some y) (hP : runHdr (ys.take i) = some (ds, b)) (hi : ¬ i = 0) (hk : ((Txt.strip (Txt.partition (Txt.strip y) (Str.ofString "=")).1).length : Int) ≠ 0) (hs : ((Txt.partition (Txt.strip y) (Str.ofString "=")).2.1.length : Int) ≠ 0) (hn : isKnown (Txt.lower (Txt.strip (Txt.partition (Txt.strip y) (Str.ofString "=")).1)) = false) (hv : ((Txt.strip (Txt.partition (Txt.strip y) (Str.ofString "=")).1) == Str.ofString "version") = true) : runHdr (ys.take (i + 1)) = some (ds ++ [pairD (Txt.strip (Txt.partition (Txt.strip y) (Str.ofString "=")).1) (some (stripQ (Txt.strip (Txt.partition (Txt.strip y) (Str.ofString "=")).2.2)))], true) := by
  have e : val1 y = some (Txt.strip (Txt.partition (Txt.strip y) (Str.ofString "=")).2.2) := if_neg hs
  have ek : key1 y = (Txt.strip (Txt.partition (Txt.strip y) (Str.ofString "=")).1) := if_neg (by rw [show isKnown (Txt.lower (keyOf y)) = false from hn]; exact Bool.false_ne_true)
  rw [runHdr_next hy hP, beq_false_of_ne hi]
  unfold stp
  rw [if_neg (show ¬ ((keyOf y).length : Int) = 0 from hk), if_neg Bool.false_ne_true, ek, e, if_pos hv]
  rfl
theorem rk_u_oth_some (hy : ys[i]? = some y) (hP : runHdr (ys.take i) = some (ds, b)) (hi : ¬ i = 0) (hk : ((Txt.strip (Txt.partition (Txt.strip y) (Str.ofString "=")).1).length : Int) ≠ 0) (hs : ((Txt.partition (Txt.strip y) (Str.ofString "=")).2.1.length : Int) ≠ 0) (hn : isKnown (Txt.lower (Txt.strip (Txt.partition (Txt.strip y) (Str.ofString "=")).1)) = false) (hv : ((Txt.strip (Txt.partition (Txt.strip y) (Str.ofString "=")).1) == Str.ofString "version") = false) : runHdr (ys.take (i + 1)) = some (ds ++ [pairD (Txt.strip (Txt.partition (Txt.strip y) (Str.ofString "=")).1) (some (Txt.strip (Txt.partition (Txt.strip y) (Str.ofString "=")).2.2))], b) := by
  have e : val1 y = some (Txt.strip (Txt.partition (Txt.strip y) (Str.ofString "=")).2.2) := if_neg hs
  have ek : key1 y = (Txt.strip (Txt.partition (Txt.strip y) (Str.ofString "=")).1) := if_neg (by rw [show isKnown (Txt.lower (keyOf y)) = false from hn]; exact Bool.false_ne_true)
  rw [runHdr_next hy hP, beq_false_of_ne hi]
  unfold stp
  rw [if_neg (show ¬ ((keyOf y).length : Int) = 0 from hk), if_neg Bool.false_ne_true, ek, e, if_neg (by rw [hv]; exact Bool.false_ne_true)]
theorem rk_first_none (hy : ys[0]? = some y) (hP : runHdr (ys.take 0) = some (ds, b)) (hk : ((Txt.strip (Txt.partition (Txt.strip y) (Str.ofString "=")).1).length : Int) ≠ 0) (hs : ((Txt.partition (Txt.strip y) (Str.ofString "=")).2.1.length : Int) = 0) : runHdr (ys.take (0 + 1)) = some (ds ++ [pairD (Txt.strip (Txt.partition (Txt.strip y) (Str.ofString "=")).1) (none)], b) := by
  have e : val1 y = none := if_pos hs
  rw [runHdr_next hy hP]
  show stp true y (ds, b) = _
  unfold stp
  rw [if_neg (show ¬ ((keyOf y).length : Int) = 0 from hk), if_pos rfl, e]
  rfl
theorem rk_k_ver_none (hy : ys[i]? = some y) (hP : runHdr (ys.take i) = some (ds, b)) (hi : ¬ i = 0) (hk : ((Txt.strip (Txt.partition (Txt.strip y) (Str.ofString "=")).1).length : Int) ≠ 0) (hs : ((Txt.partition (Txt.strip y) (Str.ofString "=")).2.1.length : Int) = 0) (hn : isKnown (Txt.lower (Txt.strip (Txt.partition (Txt.strip y) (Str.ofString "=")).1)) = true) (hv : ((Txt.lower (Txt.strip (Txt.partition (Txt.strip y) (Str.ofString "=")).1)) == Str.ofString "version") = true) : runHdr (ys.take (i + 1)) = some (ds ++ [pairD (Txt.lower (Txt.strip (Txt.partition (Txt.strip y) (Str.ofString "=")).1)) (none)], true) := by
  have e : val1 y = none := if_pos hs
  have ek : key1 y = (Txt.lower (Txt.strip (Txt.partition (Txt.strip y) (Str.ofString "=")).1)) := if_pos hn
  rw [runHdr_next hy hP, beq_false_of_ne hi]
  unfold stp
  rw [if_neg (show ¬ ((keyOf y).length : Int) = 0 from hk), if_neg Bool.false_ne_true, ek, e, if_pos hv]
  rfl
theorem rk_k_oth_none (hy : ys[i]? = some y) (hP : runHdr (ys.take i) = some (ds, b)) (hi : ¬ i = 0) (hk : ((Txt.strip (Txt.partition (Txt.strip y) (Str.ofString "=")).1).length : Int) ≠ 0) (hs : ((Txt.partition (Txt.strip y) (Str.ofString "=")).2.1.length : Int) = 0) (hn : isKnown (Txt.lower (Txt.strip (Txt.partition (Txt.strip y) (Str.ofString "=")).1)) = true) (hv : ((Txt.lower (Txt.strip (Txt.partition (Txt.strip y) (Str.ofString "=")).1)) == Str.ofString "version") = false) : runHdr (ys.take (i + 1)) = some (ds ++ [pairD (Txt.lower (Txt.strip (Txt.partition (Txt.strip y) (Str.ofString "=")).1)) (none)], b) := by
  have e : val1 y = none := if_pos hs
  have ek : key1 y = (Txt.lower (Txt.strip (Txt.partition (Txt.strip y) (Str.ofString "=")).1)) := if_pos hn
  rw [runHdr_next hy hP, beq_false_of_ne hi]
  unfold stp
  rw [if_neg (show ¬ ((keyOf y).length : Int) = 0 from hk), if_neg Bool.false_ne_true, ek, e, if_neg (by rw [hv]; exact Bool.false_ne_true)]
theorem rk_u_ver_none (hy : ys[i]? = some y) (hP : runHdr (ys.take i) = some (ds, b)) (hi : ¬ i = 0) (hk : ((Txt.strip (Txt.partition (Txt.strip y) (Str.ofString "=")).1).length : Int) ≠ 0) (hs : ((Txt.partition (Txt.strip y) (Str.ofString "=")).2.1.length : Int) = 0) (hn : isKnown (Txt.lower (Txt.strip (Txt.partition (Txt.strip y) (Str.ofString "=")).1)) = false) (hv : ((Txt.strip (Txt.partition (Txt.strip y) (Str.ofString "=")).1) == Str.ofString "version") = true) : runHdr (ys.take (i + 1)) = some (ds ++ [pairD (Txt.strip (Txt.partition (Txt.strip y) (Str.ofString "=")).1) (none)], true) := by
  have e : val1 y = none := if_pos hs
  have ek : key1 y = (Txt.strip (Txt.partition (Txt.strip y) (Str.ofString "=")).1) := if_neg (by rw [show isKnown (Txt.lower (keyOf y)) = false from hn]; exact Bool.false_ne_true)
  rw [runHdr_next hy hP, beq_false_of_ne hi]
  unfold stp
  rw [if_neg (show ¬ ((keyOf y).length : Int) = 0 from hk), if_neg Bool.false_ne_true, ek, e, if_pos hv]
  rfl
theorem rk_u_oth_none (hy : ys[i]? = some y) (hP : runHdr (ys.take i) = some (ds, b)) (hi : ¬ i = 0) (hk : ((Txt.strip (Txt.partition (Txt.strip y) (Str.ofString "=")).1).length : Int) ≠ 0) (hs : ((Txt.partition (Txt.strip y) (Str.ofString "=")).2.1.length : Int) = 0) (hn : isKnown (Txt.lower (Txt.strip (Txt.partition (Txt.strip y) (Str.ofString "=")).1)) = false) (hv : ((Txt.strip (Txt.partition (Txt.strip y) (Str.ofString "=")).1) == Str.ofString "version") = false) : runHdr (ys.take (i + 1)) = some (ds ++ [pairD (Txt.strip (Txt.partition (Txt.strip y) (Str.ofString "=")).1) (none)], b) := by
  have e : val1 y = none := if_pos hs
  have ek : key1 y = (Txt.strip (Txt.partition (Txt.strip y) (Str.ofString "=")).1) := if_neg (by rw [show isKnown (Txt.lower (keyOf y)) = false from hn]; exact Bool.false_ne_true)
  rw [runHdr_next hy hP, beq_false_of_ne hi]
  unfold stp
  rw [if_neg (show ¬ ((keyOf y).length : Int) = 0 from hk), if_neg Bool.false_ne_true, ek, e, if_neg (by rw [hv]; exact Bool.false_ne_true)]
theorem rk_skip (hy : ys[i]? = some y) (hP : runHdr (ys.take i) = some (ds, b)) (hi : ¬ i = 0) (hk : ((Txt.strip (Txt.partition (Txt.strip y) (Str.ofString "=")).1).length : Int) = 0) : runHdr (ys.take (i + 1)) = some (ds, b) := by
  rw [runHdr_next hy hP, beq_false_of_ne hi]
  unfold stp
  rw [if_pos (show ((keyOf y).length : Int) = 0 from hk), if_neg Bool.false_ne_true]
end
end Mine
namespace Mine
/-! the law's own tables -/
abbrev S (x : String) : Str := Str.ofString x
def openL : List (Str × Option (Str × Option Str)) := [(S "foo=bar", some (S "foo", some (S "bar"))), (S "Version=\"1\"", some (S "Version", some (S "\"1\""))), (S " = v", none), (S "PATH", some (S "PATH", none)),
  (S "expires=Wed", some (S "expires", some (S "Wed"))), (S " a = b ", some (S "a", some (S "b"))), (S "", none)]
def pieceL : List (Str × Option (Str × Option Str)) := [(S "Path=/a b", some (S "path", some (S "/a b"))), (S " DOMAIN = .x.com ", some (S "domain", some (S ".x.com"))), (S "secure", some (S "secure", none)), (S "Secure=", some (S "secure", some (S ""))),
  (S "PORT=\"80,81\"", some (S "port", some (S "\"80,81\""))), (S "max-Age=3_600", some (S "max-age", some (S "3_600"))), (S "HttpOnly", some (S "HttpOnly", none)), (S "Comment=a=b=c", some (S "Comment", some (S "a=b=c"))), (S "", none), (S "  ", none), (S " =x", none),
  (S "Expires", some (S "expires", none)), (S "\tPaTh\t=\t/\n", some (S "path", some (S "/"))), (S " $Path = \"/\"", some (S "$Path", some (S "\"/\""))), (S "foo", some (S "foo", none))]
def optD : Option (Str × Option Str) → Dat
  | none => .none
  | some (k, v) => pairD k v
def entD (e : Str × Option (Str × Option Str)) : Dat := .tuple [.str e.1, optD e.2]
abbrev openDs : List Dat := openL.map entD
abbrev pieceDs : List Dat := pieceL.map entD
inductive Row where
  | bare
  | piece (j : Nat)
  | ver (a : Nat) (c : Str) (b : Nat)
def rowD : Row → Dat
  | .bare => .none
  | .piece j => .int (j : Int)
  | .ver a c b => .tuple [.int (a : Int), .str c, .int (b : Int)]
def coreL : List Str := [S "1", S "", S "x\"y"]
def Row.ok : Row → Prop
  | .bare => True
  | .piece j => j < 15
  | .ver a c b => a < 4 ∧ c ∈ coreL ∧ b < 4
def rowText : Row → Str
  | .bare => S "vERSION"
  | .piece j => (pieceL.getD j (S "", none)).1
  | .ver a c b => S " Version = " ++ Txt.mul (S "\"") (a : Int) ++ c ++ Txt.mul (S "\"") (b : Int)
theorem core_len {c : Str} (h : c ∈ coreL) : c.length ≤ 3 := by
  simp only [coreL, List.mem_cons, List.not_mem_nil, or_false] at h
  rcases h with rfl | rfl | rfl <;> decide
abbrev Pair : Type := Str × Option Str
def pairOf (p : Pair) : Dat := pairD p.1 p.2
def wordOf : Pair → Str
  | (k, none) => k
  | (k, some v) => k ++ S "=" ++ v
def wrText (ps : List Pair) : Str := Txt.join (S "; ") (ps.map wordOf)
def leftText (a : Nat) (c : Str) (b t : Nat) : Str :=
  if (c == S "") = true then Txt.mul (S "\"") (if (a : Int) + (b : Int) - 2 * (t : Int) > 0 then (a : Int) + (b : Int) - 2 * (t : Int) else 0)
  else Txt.mul (S "\"") (if (a : Int) - (t : Int) > 0 then (a : Int) - (t : Int) else 0) ++ c ++ Txt.mul (S "\"") (if (b : Int) - (t : Int) > 0 then (b : Int) - (t : Int) else 0)
def openE (k : Nat) : Str × Option (Str × Option Str) := openL.getD k (S "", none)
def pieceE (k : Nat) : Str × Option (Str × Option Str) := pieceL.getD k (S "", none)
theorem sum_len_le {B : Nat} : ∀ (xs : List Str), (∀ x ∈ xs, x.length ≤ B) → (xs.map (·.length)).sum ≤ xs.length * B := by
  intro xs
  induction xs with
  | nil => intro _; exact Nat.zero_le _
  | cons x r ih =>
    intro h
    rw [List.map_cons, List.sum_cons, List.length_cons, Nat.succ_mul]
    have h1 := h x (List.mem_cons_self ..)
    have h2 := ih fun y hy => h y (List.mem_cons_of_mem _ hy)
    omega
theorem mul_len {n : Nat} (h : n < 4) : (Txt.mul (S "\"") (n : Int)).length ≤ 3 := by
  have q : ∀ n < 4, (Txt.mul (S "\"") ((n : Nat) : Int)).length ≤ 3 := by decide +kernel
  exact q n h
theorem openE_len (k : Nat) : (openE k).1.length ≤ 60 := by
  unfold openE
  rw [List.getD_eq_getElem?_getD]
  cases h : openL[k]? with
  | none => decide
  | some e =>
    have : ∀ e ∈ openL, e.1.length ≤ 60 := by decide
    exact this e (List.mem_of_getElem? h)
theorem pieceE_len (k : Nat) : (pieceE k).1.length ≤ 60 := by
  unfold pieceE
  rw [List.getD_eq_getElem?_getD]
  cases h : pieceL[k]? with
  | none => decide
  | some e =>
    have : ∀ e ∈ pieceL, e.1.length ≤ 60 := by decide
    exact this e (List.mem_of_getElem? h)
theorem rowText_len {r : Row} (h : r.ok) : (rowText r).length ≤ 60 := by
  cases r with
  | bare => exact (by decide : (S "vERSION").length ≤ 60)
  | piece j => exact pieceE_len j
  | ver a c b =>
    obtain ⟨h1, h2, h3⟩ := h
    have := core_len h2
    have q1 := mul_len h1
    have q2 := mul_len h3
    have q3 : (S " Version = ").length = 11 := by decide
    unfold rowText
    rw [Str.length_append, Str.length_append, Str.length_append]
    omega
def fhText (k : Nat) (rows : List Row) : Str := Txt.join (S ";") ((openE k).1 :: rows.map rowText)
section
variable {prog : Program} {w : World} {A : Around} {E : Value → Shared → Prop} {s : Shared} {h₀ : Heap} {L : Addr}
theorem tab_item {value slice : PySem.Expr} {nw : List (Addr × Obj)} {l : Addr} {vs : List Value} {n : Nat} {es : List (Str × Option (Str × Option Str))} {k : Int} {u : Tok} {Q : Value → Shared → Prop} (N : News h₀ L s.heap nw) (hm : (l, listOf vs.toArray n) ∈ nw) (hD : DatAll nw vs (es.map entD))
    (h0 : 0 ≤ k) (h1 : k < (es.length : Int)) (h2 : es.length ≤ 1000) (h : ∀ a tx v n', IsTup s.heap a [.str (es.getD k.toNat (S "", none)).1 tx, v].toArray → (a, ({ cls := .type "tuple", data := .seq [.str (es.getD k.toNat (S "", none)).1 tx, v].toArray n' } : Obj)) ∈ nw → DatIn nw v (optD (es.getD k.toNat (S "", none)).2) → Q (.ref a) s)
    (hs : subscripted slice false (.ref l) (.int k u) = operate [.ref l, .int k u] (getItem (.ref l) (.int k u)) := by with_unfolding_all rfl) :
    wpAny (model prog w) A (subscriptTail value slice (.ref l) (.int k u)) Q E s := by
  refine kd_item N hm hD h0 (by simpa using h1) (by omega) (fun v d hd _ hv => ?_) hs
  have hk : k.toNat < es.length := by omega
  rw [List.getElem?_map, List.getElem?_eq_getElem hk] at hd
  have e : es.getD k.toNat (S "", none) = es[k.toNat] := by rw [List.getD_eq_getElem?_getD, List.getElem?_eq_getElem hk]; rfl
  rw [e] at h
  have hd' : d = entD es[k.toNat] := by simpa using hd.symm
  rw [hd'] at hv
  unfold entD at hv
  cases hv with
  | tuple hm' hall =>
    cases hall with
    | cons h1 r =>
      cases h1
      cases r with
      | cons h2 r => cases r; exact h _ _ _ _ ⟨_, (N _ hm').1, rfl, _, rfl⟩ hm' h2
theorem tab_itemK {value slice : PySem.Expr} {nw news : List (Addr × Obj)} {l : Addr} {vs : List Value} {n : Nat} {es : List (Str × Option (Str × Option Str))} {k : Int} {u : Tok} {Q : Value → Shared → Prop} (N : News h₀ L s.heap news) (hm : (l, listOf vs.toArray n) ∈ nw) (hsub : ∀ q ∈ nw, q ∈ news) (hD : DatAll nw vs (es.map entD))
    (h0 : 0 ≤ k) (h1 : k < (es.length : Int)) (h2 : es.length ≤ 1000) (h : ∀ a tx v n', IsTup s.heap a [.str (es.getD k.toNat (S "", none)).1 tx, v].toArray → (a, ({ cls := .type "tuple", data := .seq [.str (es.getD k.toNat (S "", none)).1 tx, v].toArray n' } : Obj)) ∈ nw → DatIn nw v (optD (es.getD k.toNat (S "", none)).2) → Q (.ref a) s)
    (hs : subscripted slice false (.ref l) (.int k u) = operate [.ref l, .int k u] (getItem (.ref l) (.int k u)) := by with_unfolding_all rfl) :
    wpAny (model prog w) A (subscriptTail value slice (.ref l) (.int k u)) Q E s := tab_item (fun q hq => N q (hsub q hq)) hm hD h0 h1 h2 h hs
theorem isi_tup_int {news : List (Addr × Obj)} {a : Addr} {vs : List Value} {n : Nat} {Q : Value → Shared → Prop} (N : News h₀ L s.heap news) (hm : (a, ({ cls := .type "tuple", data := .seq vs.toArray n } : Obj)) ∈ news) (h : ∀ tk, Q (.bool false) { s with toks := tk }) :
    wpAny (model prog w) A (call (.builtin "isinstance") [.ref a, .type "int"]) Q E s := IsiPair.tuple_int (N _ hm).1 rfl (h _)
theorem join_L {news : List (Addr × Obj)} {l : Addr} {vs : List Value} {n : Nat} {ys : List Str} {x : Str} {t : Tok} {Q : Value → Shared → Prop} (N : News h₀ L s.heap news) (hm : (l, listOf vs.toArray n) ∈ news) (hi : StrsAre vs ys) (hs : x.length ≤ 16) (hw : (ys.map (·.length)).sum + ys.length ≤ 1048576)
    (h : ∀ t' k, Q (.str (Txt.join x ys) t') { s with toks := k }) : wpAny (model prog w) A (call (.builtin "str.join") [.str x t, .ref l]) Q E s :=
  join_listW ⟨_, (N _ hm).1, rfl, n, rfl⟩ (by simpa using hi) hs hw h
theorem lst_item {value slice : PySem.Expr} {news : List (Addr × Obj)} {l : Addr} {vs : List Value} {n : Nat} {k : Int} {u : Tok} {x : Value} {Q : Value → Shared → Prop} (N : News h₀ L s.heap news) (hm : (l, listOf vs.toArray n) ∈ news)
    (h0 : 0 ≤ k) (hf : k < 2 ^ 63) (hx : vs[k.toNat]? = some x) (h : Q x s)
    (hs : subscripted slice false (.ref l) (.int k u) = operate [.ref l, .int k u] (getItem (.ref l) (.int k u)) := by with_unfolding_all rfl) :
    wpAny (model prog w) A (subscriptTail value slice (.ref l) (.int k u)) Q E s := by
  have hl : s.heap.IsList l vs.toArray := ⟨_, (N _ hm).1, rfl, n, rfl⟩
  exact tail_any hl.typeIs slot_list_getitem.lookup (wpAny_getItem_list hl h0 hf (by simpa using hx) h) hs
def Jws (p : Addr) (rest0 : List (Addr × Obj)) (xs : Nat → List Str) (i : Nat) (m : Str → Option Value) (nx : List (Addr × Obj)) : Prop :=
  ∃ (vs : List Value) (k : Nat), nx = (p, listOf vs.toArray k) :: rest0 ∧ StrsAre vs (xs i) ∧ m (S "words") = some (.ref p)
def PairAt (ps : List Pair) (i : Nat) (a b : Value) : Prop := ∃ k v t, ps[i]? = some (k, v) ∧ a = .str k t ∧ ((v = none ∧ b = .none) ∨ ∃ x u, v = some x ∧ b = .str x u)
theorem pair_open {news : List (Addr × Obj)} : ∀ {vs : List Value} {ps : List Pair}, DatAll news vs (ps.map pairOf) → ∀ (i : Nat) (v : Value), vs[i]? = some v → ∃ t a b n, v = Value.ref t ∧ (t, ({ cls := .type "tuple", data := .seq [a, b].toArray n } : Obj)) ∈ news ∧ PairAt ps i a b := by
  intro vs ps h i v hv
  have hi : i < ps.length := by
    have e := h.length
    rw [List.length_map] at e
    rw [← e]; exact (List.getElem?_eq_some_iff.mp hv).1
  obtain ⟨v', hv', hD⟩ := h.get (k := i) (by rw [List.length_map]; exact hi)
  rw [hv] at hv'
  cases hv'
  rw [List.getElem_map] at hD
  have hpi : ps[i]? = some ps[i] := List.getElem?_eq_getElem hi
  generalize ps[i] = kv at hD hpi
  obtain ⟨k, ov⟩ := kv
  unfold pairOf pairD at hD
  cases hD with
  | tuple hm hall =>
    cases hall with
    | cons h1 r =>
      cases h1
      cases r with
      | cons h2 r =>
        cases r
        cases ov with
        | none => cases h2; exact ⟨_, _, _, _, rfl, hm, k, none, _, hpi, rfl, .inl ⟨rfl, rfl⟩⟩
        | some x => cases h2; exact ⟨_, _, _, _, rfl, hm, k, some x, _, hpi, rfl, .inr ⟨x, _, rfl, rfl⟩⟩
def Jtx (p : Addr) (rest0 : List (Addr × Obj)) (xs : Nat → List Str) (i : Nat) (m : Str → Option Value) (nx : List (Addr × Obj)) : Prop :=
  ∃ (vs : List Value) (k : Nat), nx = (p, listOf vs.toArray k) :: rest0 ∧ StrsAre vs (xs i) ∧ m (S "parts") = some (.ref p)
theorem strs_snoc {vs : List Value} {xs : List Str} {x : Str} {t : Tok} (h : StrsAre vs xs) : StrsAre (vs ++ [.str x t]) (xs ++ [x]) := by
  induction h with
  | nil => exact .cons x t .nil
  | cons a b _ ih => exact .cons a b ih
theorem ws_end {p : Addr} {rest0 own keep : List (Addr × Obj)} {xs : Nat → List Str} {i tk k : Nat} {m' : Str → Option Value} {h' : Heap} {s₁ : Shared} {vs : List Value} {x : Str} {t : Tok}
    (F : Fr h₀ L h' m') (N : News h₀ L h' ((p, listOf (vs.toArray.push (.str x t)) (k + 1)) :: (rest0 ++ own))) (hk : ∀ q ∈ keep, q ∈ rest0) {k0 : Nat} {vs0 : List Value} (hoff : OwnOff own (((p, listOf vs0.toArray k0) :: rest0).map (·.1)))
    (hs : StrsAre vs (xs i)) (hx : xs (i + 1) = xs i ++ [x]) (m1 : m' (S "words") = some (.ref p)) :
    InvEndG h₀ L (fun m' nx => (∀ q ∈ keep, q ∈ nx) ∧ Jws p rest0 xs (i + 1) m' nx) own s₁ { s₁ with heap := h', toks := tk } := by
  rw [List.push_toArray] at N
  refine ⟨h', tk, m', _, (p, listOf (vs ++ [Value.str x t]).toArray (k + 1)) :: rest0, rfl, F, N, ?_, ?_, hoff, fun q hq => List.mem_cons_of_mem _ (hk q hq), vs ++ [Value.str x t], k + 1, rfl, hx ▸ strs_snoc hs, m1⟩
  · intro q hq
    rcases List.mem_cons.mp hq with e | hq
    · rw [e]; exact List.mem_cons_self ..
    · exact List.mem_cons_of_mem _ (List.mem_append.mpr (.inl hq))
  · exact fun q hq => List.mem_cons_of_mem _ (List.mem_append.mpr (.inr hq))
theorem tx_end {p l : Addr} {lo : Obj} {rest0 own : List (Addr × Obj)} {xs : Nat → List Str} {i tk k : Nat} {m' : Str → Option Value} {h' : Heap} {s₁ : Shared} {vs : List Value} {x : Str} {t : Tok}
    (F : Fr h₀ L h' m') (N : News h₀ L h' ((p, listOf (vs.toArray.push (.str x t)) (k + 1)) :: (rest0 ++ own))) (hl : (l, lo) ∈ rest0) {k0 : Nat} {vs0 : List Value} (hoff : OwnOff own (((p, listOf vs0.toArray k0) :: rest0).map (·.1)))
    (hs : StrsAre vs (xs i)) (hx : xs (i + 1) = xs i ++ [x]) (m1 : m' (S "parts") = some (.ref p)) :
    InvEndG h₀ L (fun m' nx => (l, lo) ∈ nx ∧ Jtx p rest0 xs (i + 1) m' nx) own s₁ { s₁ with heap := h', toks := tk } := by
  rw [List.push_toArray] at N
  refine ⟨h', tk, m', _, (p, listOf (vs ++ [Value.str x t]).toArray (k + 1)) :: rest0, rfl, F, N, ?_, ?_, hoff, List.mem_cons_of_mem _ hl, vs ++ [Value.str x t], k + 1, rfl, hx ▸ strs_snoc hs, m1⟩
  · intro q hq
    rcases List.mem_cons.mp hq with e | hq
    · rw [e]; exact List.mem_cons_self ..
    · exact List.mem_cons_of_mem _ (List.mem_append.mpr (.inl hq))
  · exact fun q hq => List.mem_cons_of_mem _ (List.mem_append.mpr (.inr hq))
end
end Mine
namespace Mine
abbrev Text : Type := Nat × List Row
def textD (t : Text) : Dat := .list [.int (t.1 : Int), .list (t.2.map rowD)]
def Text.ok (t : Text) : Prop := t.1 < 7 ∧ t.2.length ≤ 13 ∧ ∀ r ∈ t.2, r.ok
/-- the pair that a row is to give at a turn -/
def duePair (t : Nat) : Row → Option Pair
  | .bare => some (S "version", none)
  | .piece j => (pieceE j).2
  | .ver a c b => some (S "version", some (leftText a c b t))
def isVer : Row → Bool
  | .piece _ => false
  | _ => true
def dueRows (t : Nat) (first : Pair) (rows : List Row) : List Pair := first :: rows.filterMap (duePair t)
def verCount (rows : List Row) : Nat := (rows.filter isVer).length
def dueText (t : Nat) (x : Text) : Option (List Pair) := (openE x.1).2.map fun first => if verCount x.2 = 0 then dueRows t first x.2 ++ [(S "version", some (S "0"))] else dueRows t first x.2
def dueAll (t : Nat) (xs : List Text) : List (List Pair) := xs.filterMap (dueText t)
def pairsD (ps : List Pair) : Dat := .list (ps.map pairOf)
theorem dueAll_take {t : Nat} {xs : List Text} {i : Nat} {x : Text} (hx : xs[i]? = some x) : dueAll t (xs.take (i + 1)) = dueAll t (xs.take i) ++ (dueText t x).toList := by
  have e : xs.take (i + 1) = xs.take i ++ [x] := by rw [List.take_add_one, hx]; rfl
  unfold dueAll
  rw [e, List.filterMap_append]
  cases h : dueText t x <;> simp [h]
theorem dueRows_take {t : Nat} {f : Pair} {rows : List Row} {i : Nat} {r : Row} (hr : rows[i]? = some r) : dueRows t f (rows.take (i + 1)) = dueRows t f (rows.take i) ++ (duePair t r).toList := by
  have e : rows.take (i + 1) = rows.take i ++ [r] := by rw [List.take_add_one, hr]; rfl
  unfold dueRows
  rw [e, List.filterMap_append]
  cases h : duePair t r <;> simp [h]
theorem verCount_take {rows : List Row} {i : Nat} {r : Row} (hr : rows[i]? = some r) : verCount (rows.take (i + 1)) = verCount (rows.take i) + (if isVer r = true then 1 else 0) := by
  have e : rows.take (i + 1) = rows.take i ++ [r] := by rw [List.take_add_one, hr]; rfl
  unfold verCount
  rw [e, List.filter_append, List.length_append]
  cases h : isVer r <;> simp [h]
section
variable {prog : Program} {w : World} {A : Around} {E : Value → Shared → Prop} {s : Shared} {h₀ : Heap} {L : Addr}
/-- the inner loop of the due -/
def Jdu (p r : Addr) (ro : Obj) (rest0 : List (Addr × Obj)) (P : Nat → List Pair) (C : Nat → Nat) (tu : Int) (i : Nat) (m : Str → Option Value) (nx : List (Addr × Obj)) : Prop :=
  ∃ (ps : List Value) (k : Nat) (tn : List (Addr × Obj)) (tk : Tok) (tk2 : Tok), nx = (p, listOf ps.toArray k) :: (r, ro) :: (tn ++ rest0) ∧ Over tn rest0 ∧ (∀ q ∈ tn, @LT.lt Nat _ r q.1 ∧ q.1 ≠ p) ∧ DatAll tn ps ((P i).map pairOf) ∧
    m (S "pairs") = some (.ref p) ∧ (∃ c : Int, c = C i ∧ m (S "versions") = some (.int c tk)) ∧ m (S "due") = some (.ref r) ∧ m (S "turns") = some (.int tu tk2)
theorem du_end {p r : Addr} {ro : Obj} {rest0 own tn news' : List (Addr × Obj)} {P : Nat → List Pair} {C : Nat → Nat} {tu : Int} {i tk k k0 : Nat} {m' : Str → Option Value} {h' : Heap} {s₁ : Shared} {ps ps0 : List Value} {t1 t2 : Tok} (add : List (Addr × Obj))
    (F : Fr h₀ L h' m') (N : News h₀ L h' news') {l : Addr} {lo : Obj} (hkeep : (l, lo) ∈ rest0) (hoff : OwnOff own (((p, listOf ps0.toArray k0) :: (r, ro) :: (tn ++ rest0)).map (·.1)))
    (hp : (p, listOf ps.toArray k) ∈ news') (hr : (r, ro) ∈ news') (hadd : ∀ q ∈ add, q ∈ news') (hold : ∀ q ∈ tn ++ (rest0 ++ own), q ∈ news')
    (ho1 : Over add (tn ++ (rest0 ++ own))) (ho2 : ∀ q ∈ add, @LT.lt Nat _ r q.1 ∧ q.1 ≠ p) (h2 : Over tn rest0) (h3 : ∀ q ∈ tn, @LT.lt Nat _ r q.1 ∧ q.1 ≠ p)
    (hD : DatAll (add ++ tn) ps ((P (i + 1)).map pairOf))
    (m1 : m' (S "pairs") = some (.ref p)) {c : Int} (hc : c = C (i + 1)) (m2 : m' (S "versions") = some (.int c t1)) (m3 : m' (S "due") = some (.ref r)) (m4 : m' (S "turns") = some (.int tu t2)) :
    InvEndG h₀ L (fun m' nx => (l, lo) ∈ nx ∧ Jdu p r ro rest0 P C tu (i + 1) m' nx) own s₁ { s₁ with heap := h', toks := tk } := by
  refine ⟨h', tk, m', _, (p, listOf ps.toArray k) :: (r, ro) :: ((add ++ tn) ++ rest0), rfl, F, N, ?_, ?_, ?_, ?_, ps, k, add ++ tn, t1, t2, rfl, ?_, ?_, hD, m1, ⟨c, hc, m2⟩, m3, m4⟩
  · intro q hq
    rcases List.mem_cons.mp hq with e | hq
    · rw [e]; exact hp
    · rcases List.mem_cons.mp hq with e | hq
      · rw [e]; exact hr
      · rcases List.mem_append.mp hq with hq | hq
        · rcases List.mem_append.mp hq with hq | hq
          · exact hadd q hq
          · exact hold q (List.mem_append.mpr (.inl hq))
        · exact hold q (List.mem_append.mpr (.inr (List.mem_append.mpr (.inl hq))))
  · exact fun q hq => hold q (List.mem_append.mpr (.inr (List.mem_append.mpr (.inr hq))))
  · intro q hq a ha
    obtain ⟨z, hz, e⟩ := List.mem_map.mp ha
    subst e
    have ho := hoff q hq z.1
    simp only [List.map_cons, List.map_append, List.mem_cons, List.mem_append] at ho
    rcases List.mem_cons.mp hz with e | hz
    · rw [e] at ho ⊢; exact ho (.inl rfl)
    · rcases List.mem_cons.mp hz with e | hz
      · rw [e] at ho ⊢; exact ho (.inr (.inl rfl))
      · rcases List.mem_append.mp hz with hz | hz
        · rcases List.mem_append.mp hz with hz | hz
          · exact Nat.ne_of_lt (ho1 z hz q (List.mem_append.mpr (.inr (List.mem_append.mpr (.inr hq)))))
          · exact ho (.inr (.inr (.inl (List.mem_map.mpr ⟨z, hz, rfl⟩))))
        · exact ho (.inr (.inr (.inr (List.mem_map.mpr ⟨z, hz, rfl⟩))))
  · exact List.mem_cons_of_mem _ (List.mem_cons_of_mem _ (List.mem_append.mpr (.inr hkeep)))
  · exact (ho1.mono fun z hz => List.mem_append.mpr (.inr (List.mem_append.mpr (.inl hz)))).append h2
  · intro q hq
    rcases List.mem_append.mp hq with hq | hq
    · exact ho2 q hq
    · exact h3 q hq
/-- the outer loop of the due -/
def Jdo (r : Addr) (rest0 : List (Addr × Obj)) (P : Nat → List (List Pair)) (tu : Int) (i : Nat) (m : Str → Option Value) (nx : List (Addr × Obj)) : Prop :=
  ∃ (rs : List Value) (k : Nat) (tn : List (Addr × Obj)) (tk2 : Tok), nx = (r, listOf rs.toArray k) :: (tn ++ rest0) ∧ Over tn rest0 ∧ (∀ q ∈ tn, @LT.lt Nat _ r q.1) ∧ DatAll tn rs ((P i).map pairsD) ∧ m (S "due") = some (.ref r) ∧ m (S "turns") = some (.int tu tk2)
theorem do_end {r l : Addr} {lo : Obj} {rest0 own tn news' : List (Addr × Obj)} {P : Nat → List (List Pair)} {tu : Int} {i tk k k0 : Nat} {m' : Str → Option Value} {h' : Heap} {s₁ : Shared} {rs rs0 : List Value} {t2 : Tok} (add : List (Addr × Obj))
    (F : Fr h₀ L h' m') (N : News h₀ L h' news') (hl : (l, lo) ∈ rest0) (hoff : OwnOff own (((r, listOf rs0.toArray k0) :: (tn ++ rest0)).map (·.1)))
    (hr : (r, listOf rs.toArray k) ∈ news') (hadd : ∀ q ∈ add, q ∈ news') (hold : ∀ q ∈ tn ++ (rest0 ++ own), q ∈ news')
    (ho1 : Over add (tn ++ (rest0 ++ own))) (ho2 : ∀ q ∈ add, @LT.lt Nat _ r q.1) (h2 : Over tn rest0) (h3 : ∀ q ∈ tn, @LT.lt Nat _ r q.1)
    (hD : DatAll (add ++ tn) rs ((P (i + 1)).map pairsD))
    (m3 : m' (S "due") = some (.ref r)) (m4 : m' (S "turns") = some (.int tu t2)) :
    InvEndG h₀ L (fun m' nx => (l, lo) ∈ nx ∧ Jdo r rest0 P tu (i + 1) m' nx) own s₁ { s₁ with heap := h', toks := tk } := by
  refine ⟨h', tk, m', _, (r, listOf rs.toArray k) :: ((add ++ tn) ++ rest0), rfl, F, N, ?_, ?_, ?_, ?_, rs, k, add ++ tn, t2, rfl, ?_, ?_, hD, m3, m4⟩
  · intro q hq
    rcases List.mem_cons.mp hq with e | hq
    · rw [e]; exact hr
    · rcases List.mem_append.mp hq with hq | hq
      · rcases List.mem_append.mp hq with hq | hq
        · exact hadd q hq
        · exact hold q (List.mem_append.mpr (.inl hq))
      · exact hold q (List.mem_append.mpr (.inr (List.mem_append.mpr (.inl hq))))
  · exact fun q hq => hold q (List.mem_append.mpr (.inr (List.mem_append.mpr (.inr hq))))
  · intro q hq a ha
    obtain ⟨z, hz, e⟩ := List.mem_map.mp ha
    subst e
    rcases List.mem_cons.mp hz with e | hz
    · rw [e]; exact hoff q hq _ (List.mem_cons_self ..)
    · rcases List.mem_append.mp hz with hz | hz
      · rcases List.mem_append.mp hz with hz | hz
        · exact Nat.ne_of_lt (ho1 z hz q (List.mem_append.mpr (.inr (List.mem_append.mpr (.inr hq)))))
        · exact hoff q hq _ (List.mem_map.mpr ⟨z, List.mem_cons_of_mem _ (List.mem_append.mpr (.inl hz)), rfl⟩)
      · exact hoff q hq _ (List.mem_map.mpr ⟨z, List.mem_cons_of_mem _ (List.mem_append.mpr (.inr hz)), rfl⟩)
  · exact List.mem_cons_of_mem _ (List.mem_append.mpr (.inr hl))
  · exact (ho1.mono fun z hz => List.mem_append.mpr (.inr (List.mem_append.mpr (.inl hz)))).append h2
  · intro q hq
    rcases List.mem_append.mp hq with hq | hq
    · exact ho2 q hq
    · exact h3 q hq
theorem du_put {p r : Addr} {ro : Obj} {rest0 own tn news' : List (Addr × Obj)} {P : Nat → List Pair} {C : Nat → Nat} {tu : Int} {i tk k k0 : Nat} {m' : Str → Option Value} {h' : Heap} {s₁ : Shared} {ps ps0 : List Value} {t1 t2 : Tok} {v : Value} {pr : Pair} (add : List (Addr × Obj))
    (F : Fr h₀ L h' m') (N : News h₀ L h' news') {l : Addr} {lo : Obj} (hkeep : (l, lo) ∈ rest0) (hoff : OwnOff own (((p, listOf ps0.toArray k0) :: (r, ro) :: (tn ++ rest0)).map (·.1)))
    (hp : (p, listOf (ps.toArray.push v) k) ∈ news') (hr : (r, ro) ∈ news') (hadd : ∀ q ∈ add, q ∈ news') (hold : ∀ q ∈ tn ++ (rest0 ++ own), q ∈ news')
    (ho1 : Over add (tn ++ (rest0 ++ own))) (ho2 : ∀ q ∈ add, @LT.lt Nat _ r q.1 ∧ q.1 ≠ p) (h2 : Over tn rest0) (h3 : ∀ q ∈ tn, @LT.lt Nat _ r q.1 ∧ q.1 ≠ p)
    (hD : DatAll tn ps ((P i).map pairOf)) (hv : DatIn add v (pairOf pr)) (hP : P (i + 1) = P i ++ [pr])
    (m1 : m' (S "pairs") = some (.ref p)) {c : Int} (hc : c = C (i + 1)) (m2 : m' (S "versions") = some (.int c t1)) (m3 : m' (S "due") = some (.ref r)) (m4 : m' (S "turns") = some (.int tu t2)) :
    InvEndG h₀ L (fun m' nx => (l, lo) ∈ nx ∧ Jdu p r ro rest0 P C tu (i + 1) m' nx) own s₁ { s₁ with heap := h', toks := tk } := by
  rw [List.push_toArray] at hp
  refine du_end (ps := ps ++ [v]) add F N hkeep hoff hp hr hadd hold ho1 ho2 h2 h3 ?_ m1 hc m2 m3 m4
  rw [hP, List.map_append]
  exact (hD.mono fun q hq => List.mem_append.mpr (.inr hq)).append (.one (hv.mono fun q hq => List.mem_append.mpr (.inl hq)))
theorem do_put {r l p : Addr} {lo : Obj} {rest0 own tn news' : List (Addr × Obj)} {P : Nat → List (List Pair)} {tu : Int} {i tk k k0 kp : Nat} {m' : Str → Option Value} {h' : Heap} {s₁ : Shared} {rs rs0 pv : List Value} {t2 : Tok} {pr : List Pair} (add : List (Addr × Obj))
    (F : Fr h₀ L h' m') (N : News h₀ L h' news') (hl : (l, lo) ∈ rest0) (hoff : OwnOff own (((r, listOf rs0.toArray k0) :: (tn ++ rest0)).map (·.1)))
    (hr : (r, listOf (rs.toArray.push (.ref p)) k) ∈ news') (hp : (p, listOf pv.toArray kp) ∈ news') (hadd : ∀ q ∈ add, q ∈ news') (hold : ∀ q ∈ tn ++ (rest0 ++ own), q ∈ news')
    (hpo : ∀ z ∈ tn ++ (rest0 ++ own), @LT.lt Nat _ z.1 p) (hrp : @LT.lt Nat _ r p)
    (ho1 : Over add (tn ++ (rest0 ++ own))) (ho2 : ∀ q ∈ add, @LT.lt Nat _ r q.1) (h2 : Over tn rest0) (h3 : ∀ q ∈ tn, @LT.lt Nat _ r q.1)
    (hD : DatAll tn rs ((P i).map pairsD)) (hd : DatAll add pv (pr.map pairOf)) (hP : P (i + 1) = P i ++ [pr])
    (m3 : m' (S "due") = some (.ref r)) (m4 : m' (S "turns") = some (.int tu t2)) :
    InvEndG h₀ L (fun m' nx => (l, lo) ∈ nx ∧ Jdo r rest0 P tu (i + 1) m' nx) own s₁ { s₁ with heap := h', toks := tk } := by
  rw [List.push_toArray] at hr
  refine do_end (rs := rs ++ [.ref p]) ((p, listOf pv.toArray kp) :: add) F N hl hoff hr ?_ hold ?_ ?_ h2 h3 ?_ m3 m4
  · intro q hq
    rcases List.mem_cons.mp hq with e | hq
    · rw [e]; exact hp
    · exact hadd q hq
  · exact Over.cons hpo ho1
  · intro q hq
    rcases List.mem_cons.mp hq with e | hq
    · rw [e]; exact hrp
    · exact ho2 q hq
  · rw [hP, List.map_append]
    exact (hD.mono fun q hq => List.mem_append.mpr (.inr hq)).append (.one (DatIn.list (List.mem_cons_self ..) (hd.mono fun q hq => List.mem_cons_of_mem _ (List.mem_append.mpr (.inl hq)))))
theorem dueRows_len {t : Nat} {f : Pair} {rows : List Row} : (dueRows t f rows).length ≤ rows.length + 1 := by
  unfold dueRows
  rw [List.length_cons]
  exact Nat.succ_le_succ (List.length_filterMap_le _ _)
end
end Mine
namespace Mine
theorem fmod_nat (x : Int) {n : Nat} (hn : 0 < n) : ∃ k : Nat, x.fmod (n : Int) = (k : Int) ∧ k < n := by
  have h1 := Int.fmod_nonneg_of_pos x (b := (n : Int)) (by omega)
  have h2 := Int.fmod_lt_of_pos x (b := (n : Int)) (by omega)
  exact ⟨(x.fmod n).toNat, by omega, by omega⟩
theorem ver_in {t : Addr} {a b : Nat} {c : Str} {t1 t2 t3 : Tok} {n : Nat} : DatIn [(t, ({ cls := .type "tuple", data := .seq #[.int (a : Int) t1, .str c t2, .int (b : Int) t3] n } : Obj))] (.ref t) (rowD (.ver a c b)) :=
  DatIn.tuple (List.mem_singleton.mpr rfl) (.cons (.int _ _) (.cons (.str _ _) (.cons (.int _ _) .nil)))
theorem int_at : ∀ {vs : List Value} {zs : List Int}, IntsAre vs zs → ∀ (i : Nat) (v : Value), vs[i]? = some v → ∃ x t, v = Value.int x t := by
  intro vs zs h
  induction h with
  | nil => intro i v hv; simp at hv
  | cons n t _ ih =>
    intro i v hv
    cases i with
    | zero => exact ⟨n, t, by simpa using hv.symm⟩
    | succ j => exact ih j v (by simpa using hv)
section
variable {prog : Program} {w : World} {A : Around} {E : Value → Shared → Prop} {s : Shared} {h₀ : Heap} {L : Addr}
theorem last_item {value slice : PySem.Expr} {news : List (Addr × Obj)} {l : Addr} {vs : List Value} {n : Nat} {u : Tok} {x : Value} {Q : Value → Shared → Prop} (N : News h₀ L s.heap news) (hm : (l, listOf (vs ++ [x]).toArray n) ∈ news) (h : Q x s)
    (hs : subscripted slice false (.ref l) (.int (-1) u) = operate [.ref l, .int (-1) u] (getItem (.ref l) (.int (-1) u)) := by with_unfolding_all rfl) :
    wpAny (model prog w) A (subscriptTail value slice (.ref l) (.int (-1) u)) Q E s := by
  have hl : s.heap.IsList l (vs ++ [x]).toArray := ⟨_, (N _ hm).1, rfl, n, rfl⟩
  refine tail_any hl.typeIs slot_list_getitem.lookup (wpAny_getItem_list_neg hl (by decide) ?_ (by decide) ?_ h) hs
  · rw [List.size_toArray, List.length_append, List.length_singleton]; omega
  · have e : (-1 + (((vs ++ [x]).toArray.size : Nat) : Int)).toNat = vs.length := by
      rw [List.size_toArray, List.length_append, List.length_singleton]; omega
    rw [e]
    simp
def Jce (T : Addr) (news : List (Addr × Obj)) (sl : Addr × Obj) (i : Nat) (m : Str → Option Value) (nx : List (Addr × Obj)) : Prop :=
  ∃ (u q : Addr) (cvs rvs : List Value) (k1 k2 k3 : Nat) (tn : List (Addr × Obj)) (cs : List Text) (kk : Nat) (rows : List Row) (tk : Tok),
    nx = (T, listOf (cvs ++ [Value.ref u]).toArray k1) :: (u, listOf [Value.int (kk : Int) tk, Value.ref q].toArray k2) :: (q, listOf rvs.toArray k3) :: (tn ++ (sl :: news)) ∧
    (∀ z ∈ tn ++ (sl :: news), z.1 ≠ T) ∧ (∀ z ∈ tn ++ (sl :: news), z.1 ≠ u) ∧ (∀ z ∈ tn ++ (sl :: news), z.1 ≠ q) ∧ @Ne Nat u T ∧ @Ne Nat q T ∧ @Ne Nat u q ∧
    Over tn news ∧ (∀ z ∈ news, @LT.lt Nat _ z.1 u) ∧ (∀ z ∈ news, @LT.lt Nat _ z.1 q) ∧
    DatAll tn cvs (cs.map textD) ∧ (∀ x ∈ cs, x.ok) ∧ cs.length ≤ 1 + i ∧ DatAll tn rvs (rows.map rowD) ∧ (∀ r ∈ rows, r.ok) ∧ rows.length ≤ i ∧ kk < 7 ∧ m (S "texts") = some (.ref T)
theorem ce_row {T u q : Addr} {news own tn news' add : List (Addr × Obj)} {sl : Addr × Obj} {i tk k1 k2 k3 k4 : Nat} {m' : Str → Option Value} {h' : Heap} {s₁ : Shared} {cvs rvs : List Value} {cs : List Text} {kk : Nat} {rows : List Row} {tok : Tok} {v : Value} {r : Row}
    (F : Fr h₀ L h' m') (N : News h₀ L h' news')
    (hoff : OwnOff own (((T, listOf (cvs ++ [Value.ref u]).toArray k1) :: (u, listOf [Value.int (kk : Int) tok, Value.ref q].toArray k2) :: (q, listOf rvs.toArray k3) :: (tn ++ (sl :: news))).map (·.1)))
    (h1 : ∀ z ∈ tn ++ (sl :: news), z.1 ≠ T) (h2 : ∀ z ∈ tn ++ (sl :: news), z.1 ≠ u) (h3 : ∀ z ∈ tn ++ (sl :: news), z.1 ≠ q) (h4 : @Ne Nat u T) (h5 : @Ne Nat q T) (h6 : @Ne Nat u q)
    (h7 : Over tn news) (h8 : ∀ z ∈ news, @LT.lt Nat _ z.1 u) (h9 : ∀ z ∈ news, @LT.lt Nat _ z.1 q)
    (hD : DatAll tn cvs (cs.map textD)) (hok : ∀ x ∈ cs, x.ok) (hlen : cs.length ≤ 1 + i) (hR : DatAll tn rvs (rows.map rowD)) (hro : ∀ r ∈ rows, r.ok) (hrl : rows.length ≤ i) (hkk : kk < 7) (mt : m' (S "texts") = some (.ref T))
    (hT : (T, listOf (cvs ++ [Value.ref u]).toArray k1) ∈ news') (hu : (u, listOf [Value.int (kk : Int) tok, Value.ref q].toArray k2) ∈ news') (hq : (q, listOf (rvs.toArray.push v) k4) ∈ news') (hadd : ∀ z ∈ add, z ∈ news') (hold : ∀ z ∈ tn ++ ((sl :: news) ++ own), z ∈ news')
    (ho : Over add ((T, listOf (cvs ++ [Value.ref u]).toArray k1) :: (u, listOf [Value.int (kk : Int) tok, Value.ref q].toArray k2) :: (q, listOf rvs.toArray k3) :: (tn ++ ((sl :: news) ++ own))))
    (hv : DatIn add v (rowD r)) (hr : r.ok) :
    InvEndG h₀ L (fun m' nx => sl ∈ nx ∧ Jce T news sl (i + 1) m' nx) own s₁ { s₁ with heap := h', toks := tk } := by
  rw [List.push_toArray] at hq
  refine ⟨h', tk, m', _, (T, listOf (cvs ++ [Value.ref u]).toArray k1) :: (u, listOf [Value.int (kk : Int) tok, Value.ref q].toArray k2) :: (q, listOf (rvs ++ [v]).toArray k4) :: ((add ++ tn) ++ (sl :: news)), rfl, F, N, ?_, ?_, ?_, ?_,
    u, q, cvs, rvs ++ [v], k1, k2, k4, add ++ tn, cs, kk, rows ++ [r], tok, rfl, ?_, ?_, ?_, h4, h5, h6, ?_, h8, h9, ?_, hok, by omega, ?_, ?_, ?_, hkk, mt⟩
  · intro z hz
    rcases List.mem_cons.mp hz with e | hz
    · rw [e]; exact hT
    · rcases List.mem_cons.mp hz with e | hz
      · rw [e]; exact hu
      · rcases List.mem_cons.mp hz with e | hz
        · rw [e]; exact hq
        · rcases List.mem_append.mp hz with hz | hz
          · rcases List.mem_append.mp hz with hz | hz
            · exact hadd z hz
            · exact hold z (List.mem_append.mpr (.inl hz))
          · exact hold z (List.mem_append.mpr (.inr (List.mem_append.mpr (.inl hz))))
  · exact fun z hz => hold z (List.mem_append.mpr (.inr (List.mem_append.mpr (.inr hz))))
  · intro z hz a ha
    obtain ⟨y, hy, e⟩ := List.mem_map.mp ha
    subst e
    have hq9 := hoff z hz y.1
    simp only [List.map_cons, List.map_append, List.mem_cons, List.mem_append] at hq9
    rcases List.mem_cons.mp hy with e | hy
    · rw [e] at hq9 ⊢; exact hq9 (.inl rfl)
    · rcases List.mem_cons.mp hy with e | hy
      · rw [e] at hq9 ⊢; exact hq9 (.inr (.inl rfl))
      · rcases List.mem_cons.mp hy with e | hy
        · rw [e] at hq9 ⊢; exact hq9 (.inr (.inr (.inl rfl)))
        · rcases List.mem_append.mp hy with hy | hy
          · rcases List.mem_append.mp hy with hy | hy
            · exact Nat.ne_of_lt (ho y hy z (List.mem_cons_of_mem _ (List.mem_cons_of_mem _ (List.mem_cons_of_mem _ (List.mem_append.mpr (.inr (List.mem_append.mpr (.inr hz))))))))
            · exact hq9 (.inr (.inr (.inr (.inl (List.mem_map.mpr ⟨y, hy, rfl⟩)))))
          · rcases List.mem_cons.mp hy with e | hy
            · rw [e] at hq9 ⊢; exact hq9 (.inr (.inr (.inr (.inr (.inl rfl)))))
            · exact hq9 (.inr (.inr (.inr (.inr (.inr (List.mem_map.mpr ⟨y, hy, rfl⟩))))))
  · exact List.mem_cons_of_mem _ (List.mem_cons_of_mem _ (List.mem_cons_of_mem _ (List.mem_append.mpr (.inr (List.mem_cons_self ..)))))
  · intro z hz
    rcases List.mem_append.mp hz with hz | hz
    · rcases List.mem_append.mp hz with hz | hz
      · exact Nat.ne_of_gt (ho z hz _ (List.mem_cons_self ..))
      · exact h1 z (List.mem_append.mpr (.inl hz))
    · exact h1 z (List.mem_append.mpr (.inr hz))
  · intro z hz
    rcases List.mem_append.mp hz with hz | hz
    · rcases List.mem_append.mp hz with hz | hz
      · exact Nat.ne_of_gt (ho z hz _ (List.mem_cons_of_mem _ (List.mem_cons_self ..)))
      · exact h2 z (List.mem_append.mpr (.inl hz))
    · exact h2 z (List.mem_append.mpr (.inr hz))
  · intro z hz
    rcases List.mem_append.mp hz with hz | hz
    · rcases List.mem_append.mp hz with hz | hz
      · exact Nat.ne_of_gt (ho z hz _ (List.mem_cons_of_mem _ (List.mem_cons_of_mem _ (List.mem_cons_self ..))))
      · exact h3 z (List.mem_append.mpr (.inl hz))
    · exact h3 z (List.mem_append.mpr (.inr hz))
  · exact (ho.mono fun z hz => List.mem_cons_of_mem _ (List.mem_cons_of_mem _ (List.mem_cons_of_mem _ (List.mem_append.mpr (.inr (List.mem_append.mpr (.inl (List.mem_cons_of_mem _ hz)))))))).append h7
  · exact hD.mono fun z hz => List.mem_append.mpr (.inr hz)
  · rw [List.map_append]
    exact (hR.mono fun z hz => List.mem_append.mpr (.inr hz)).append (.one (hv.mono fun z hz => List.mem_append.mpr (.inl hz)))
  · intro y hy
    rcases List.mem_append.mp hy with hy | hy
    · exact hro y hy
    · rw [List.mem_singleton.mp hy]; exact hr
  · rw [List.length_append]; exact Nat.succ_le_succ hrl
theorem ce_text {T u q u' q' : Addr} {news own tn news' : List (Addr × Obj)} {sl : Addr × Obj} {i tk k1 k2 k3 k4 k5 k6 : Nat} {m' : Str → Option Value} {h' : Heap} {s₁ : Shared} {cvs rvs : List Value} {cs : List Text} {kk kk' : Nat} {rows : List Row} {tok tok' : Tok} {o1 : Obj}
    (F : Fr h₀ L h' m') (N : News h₀ L h' news')
    (hoff : OwnOff own (((T, listOf (cvs ++ [Value.ref u]).toArray k1) :: (u, listOf [Value.int (kk : Int) tok, Value.ref q].toArray k2) :: (q, listOf rvs.toArray k3) :: (tn ++ (sl :: news))).map (·.1)))
    (h1 : ∀ z ∈ tn ++ (sl :: news), z.1 ≠ T) (h2 : ∀ z ∈ tn ++ (sl :: news), z.1 ≠ u) (h3 : ∀ z ∈ tn ++ (sl :: news), z.1 ≠ q) (h4 : @Ne Nat u T) (h5 : @Ne Nat q T) (h6 : @Ne Nat u q)
    (h7 : Over tn news) (h8 : ∀ z ∈ news, @LT.lt Nat _ z.1 u) (h9 : ∀ z ∈ news, @LT.lt Nat _ z.1 q)
    (hD : DatAll tn cvs (cs.map textD)) (hok : ∀ x ∈ cs, x.ok) (hlen : cs.length ≤ 1 + i) (hR : DatAll tn rvs (rows.map rowD)) (hro : ∀ r ∈ rows, r.ok) (hrl : rows.length ≤ i) (hi : i ≤ 12) (hkk : kk < 7) (mt : m' (S "texts") = some (.ref T))
    (hT : (T, listOf ((cvs ++ [Value.ref u]).toArray.push (.ref u')) k4) ∈ news') (hu : (u', listOf [Value.int (kk' : Int) tok', Value.ref q'].toArray k5) ∈ news') (hq : (q', listOf [].toArray k6) ∈ news')
    (hold : ∀ z ∈ (u, listOf [Value.int (kk : Int) tok, Value.ref q].toArray k2) :: (q, listOf rvs.toArray k3) :: (tn ++ ((sl :: news) ++ own)), z ∈ news')
    (hlq : AllLt q' ((T, listOf (cvs ++ [Value.ref u]).toArray k1) :: (u, listOf [Value.int (kk : Int) tok, Value.ref q].toArray k2) :: (q, listOf rvs.toArray k3) :: (tn ++ ((sl :: news) ++ own))))
    (hlu : AllLt u' ((q', o1) :: (T, listOf (cvs ++ [Value.ref u]).toArray k1) :: (u, listOf [Value.int (kk : Int) tok, Value.ref q].toArray k2) :: (q, listOf rvs.toArray k3) :: (tn ++ ((sl :: news) ++ own))))
    (hk' : kk' < 7) :
    InvEndG h₀ L (fun m' nx => sl ∈ nx ∧ Jce T news sl (i + 1) m' nx) own s₁ { s₁ with heap := h', toks := tk } := by
  rw [List.push_toArray] at hT
  have lq := allLt_out hlq
  have lu := allLt_out hlu
  have lq1 : @LT.lt Nat _ T q' := lq _ (List.mem_cons_self ..)
  have lu1 : @LT.lt Nat _ T u' := lu _ (List.mem_cons_of_mem _ (List.mem_cons_self ..))
  have lqu : @LT.lt Nat _ q' u' := lu _ (List.mem_cons_self ..)
  have inq : ∀ z ∈ ((u, listOf [Value.int (kk : Int) tok, Value.ref q].toArray k2) :: (q, listOf rvs.toArray k3) :: tn) ++ (sl :: news), @LT.lt Nat _ z.1 q' := by
    intro z hz
    rcases List.mem_cons.mp hz with e | hz
    · rw [e]; exact lq _ (List.mem_cons_of_mem _ (List.mem_cons_self ..))
    · rcases List.mem_cons.mp hz with e | hz
      · rw [e]; exact lq _ (List.mem_cons_of_mem _ (List.mem_cons_of_mem _ (List.mem_cons_self ..)))
      · refine lq z (List.mem_cons_of_mem _ (List.mem_cons_of_mem _ (List.mem_cons_of_mem _ ?_)))
        rcases List.mem_append.mp hz with hz | hz
        · exact List.mem_append.mpr (.inl hz)
        · exact List.mem_append.mpr (.inr (List.mem_append.mpr (.inl hz)))
  refine ⟨h', tk, m', _, (T, listOf ((cvs ++ [Value.ref u]) ++ [Value.ref u']).toArray k4) :: (u', listOf [Value.int (kk' : Int) tok', Value.ref q'].toArray k5) :: (q', listOf [].toArray k6) :: (((u, listOf [Value.int (kk : Int) tok, Value.ref q].toArray k2) :: (q, listOf rvs.toArray k3) :: tn) ++ (sl :: news)), rfl, F, N, ?_, ?_, ?_, ?_,
    u', q', cvs ++ [Value.ref u], [], k4, k5, k6, (u, listOf [Value.int (kk : Int) tok, Value.ref q].toArray k2) :: (q, listOf rvs.toArray k3) :: tn, cs ++ [(kk, rows)], kk', [], tok', rfl, ?_, ?_, ?_, Nat.ne_of_gt lu1, Nat.ne_of_gt lq1, Nat.ne_of_gt lqu, ?_, ?_, ?_, ?_, ?_, ?_, .nil, (fun _ h => nomatch h), Nat.zero_le _, hk', mt⟩
  · intro z hz
    rcases List.mem_cons.mp hz with e | hz
    · rw [e]; exact hT
    · rcases List.mem_cons.mp hz with e | hz
      · rw [e]; exact hu
      · rcases List.mem_cons.mp hz with e | hz
        · rw [e]; exact hq
        · rcases List.mem_append.mp hz with hz | hz
          · rcases List.mem_cons.mp hz with e | hz
            · rw [e]; exact hold _ (List.mem_cons_self ..)
            · rcases List.mem_cons.mp hz with e | hz
              · rw [e]; exact hold _ (List.mem_cons_of_mem _ (List.mem_cons_self ..))
              · exact hold z (List.mem_cons_of_mem _ (List.mem_cons_of_mem _ (List.mem_append.mpr (.inl hz))))
          · exact hold z (List.mem_cons_of_mem _ (List.mem_cons_of_mem _ (List.mem_append.mpr (.inr (List.mem_append.mpr (.inl hz))))))
  · exact fun z hz => hold z (List.mem_cons_of_mem _ (List.mem_cons_of_mem _ (List.mem_append.mpr (.inr (List.mem_append.mpr (.inr hz))))))
  · intro z hz a ha
    obtain ⟨y, hy, e⟩ := List.mem_map.mp ha
    subst e
    have hzq : @LT.lt Nat _ z.1 q' := lq z (List.mem_cons_of_mem _ (List.mem_cons_of_mem _ (List.mem_cons_of_mem _ (List.mem_append.mpr (.inr (List.mem_append.mpr (.inr hz)))))))
    have hq9 := hoff z hz y.1
    simp only [List.map_cons, List.map_append, List.mem_cons, List.mem_append] at hq9
    rcases List.mem_cons.mp hy with e | hy
    · rw [e] at hq9 ⊢; exact hq9 (.inl rfl)
    · rcases List.mem_cons.mp hy with e | hy
      · rw [e]; exact Nat.ne_of_lt (Nat.lt_trans hzq lqu)
      · rcases List.mem_cons.mp hy with e | hy
        · rw [e]; exact Nat.ne_of_lt hzq
        · rcases List.mem_append.mp hy with hy | hy
          · rcases List.mem_cons.mp hy with e | hy
            · rw [e] at hq9 ⊢; exact hq9 (.inr (.inl rfl))
            · rcases List.mem_cons.mp hy with e | hy
              · rw [e] at hq9 ⊢; exact hq9 (.inr (.inr (.inl rfl)))
              · exact hq9 (.inr (.inr (.inr (.inl (List.mem_map.mpr ⟨y, hy, rfl⟩)))))
          · rcases List.mem_cons.mp hy with e | hy
            · rw [e] at hq9 ⊢; exact hq9 (.inr (.inr (.inr (.inr (.inl rfl)))))
            · exact hq9 (.inr (.inr (.inr (.inr (.inr (List.mem_map.mpr ⟨y, hy, rfl⟩))))))
  · exact List.mem_cons_of_mem _ (List.mem_cons_of_mem _ (List.mem_cons_of_mem _ (List.mem_append.mpr (.inr (List.mem_cons_self ..)))))
  · intro z hz
    rcases List.mem_cons.mp hz with e | hz
    · rw [e]; exact h4
    · rcases List.mem_cons.mp hz with e | hz
      · rw [e]; exact h5
      · exact h1 z hz
  · exact fun z hz => Nat.ne_of_lt (Nat.lt_trans (inq z hz) lqu)
  · exact fun z hz => Nat.ne_of_lt (inq z hz)
  · exact Over.cons h8 (Over.cons h9 h7)
  · exact fun z hz => Nat.lt_trans (inq z (List.mem_append.mpr (.inr (List.mem_cons_of_mem _ hz)))) lqu
  · exact fun z hz => inq z (List.mem_append.mpr (.inr (List.mem_cons_of_mem _ hz)))
  · rw [List.map_append]
    refine (hD.mono fun z hz => List.mem_cons_of_mem _ (List.mem_cons_of_mem _ hz)).append (.one ?_)
    exact DatIn.list (List.mem_cons_self ..) (.cons (.int _ _) (.cons (DatIn.list (List.mem_cons_of_mem _ (List.mem_cons_self ..)) (hR.mono fun z hz => List.mem_cons_of_mem _ (List.mem_cons_of_mem _ hz))) .nil))
  · intro x hx
    rcases List.mem_append.mp hx with hx | hx
    · exact hok x hx
    · rw [List.mem_singleton.mp hx]; exact ⟨hkk, by show rows.length ≤ 13; omega, hro⟩
  · rw [List.length_append]; exact Nat.le_trans (Nat.add_le_add_right hlen 1) (Nat.le_of_eq (Nat.add_assoc 1 i 1))
end
end Mine
namespace Mine
theorem range_get {α : Type} (xs : List α) (g : α → Str) {n : Nat} (hn : n = xs.length) : (List.range n).map (fun i => ((xs[i]?).map g).getD (S "")) = xs.map g := by
  subst hn
  apply List.ext_getElem
  · simp
  · intro i h1 h2
    have h3 : i < xs.length := by simpa using h2
    simp [List.getElem?_eq_getElem h3]
section
variable {prog : Program} {w : World} {A : Around} {s : Shared} {h₀ : Heap} {L : Addr} {m : Str → Option Value} {env : Env}
/-- what a turn of a comprehension that gives texts leaves -/
def TurnStr (h₀ : Heap) (L : Addr) (m : Str → Option Value) (s : Shared) (all : List (Addr × Obj)) (x : Str) (y : Value) (s₂ : Shared) : Prop :=
  ∃ h' tk' t, y = .str x t ∧ s₂ = { s with heap := h', toks := tk' } ∧ Fr h₀ L h' m ∧ News h₀ L h' all
theorem lc_rest {elt : PySem.Expr} {x : Str} {scope : Scope} {cl : List (Str × Addr)} {S : List (Addr × Obj) → Prop} {P : Nat → Value → Prop} {Fin : List Value → List (Addr × Obj) → Prop} {n : Nat} {news : List (Addr × Obj)} (f : Nat → Str) (hS : S news)
    (turn : ∀ i v I oI C oC D m₂ h tk (E' : Value → Shared → Prop) ys, i < n → P i v → LCg.NsObj oC m₂ → m₂ x = some v → Fr h₀ L h m → News h₀ L h ((I, oI) :: (C, oC) :: (D, LCg.lst ys) :: news) → LCg.Off3 I C D news → ((@Ne Nat I C) ∧ (@Ne Nat I D) ∧ (@Ne Nat C D)) →
      wpAny (model prog w) A (eval elt (compEnvC scope cl C env)) (TurnStr h₀ L m s ((I, oI) :: (C, oC) :: (D, LCg.lst ys) :: news) (f i)) E' { s with heap := h, toks := tk })
    (fin : ∀ ys, StrsAre ys ((List.range n).map f) → Fin ys news) :
    ∀ k i ys, i + k = n → StrsAre ys ((List.range i).map f) → LCg.CompRest prog w A h₀ L m env elt x scope cl s S P Fin k i ys news := by
  intro k
  induction k with
  | zero => intro i ys e hs; rw [Nat.add_zero] at e; subst e; exact LCg.CompRest.zero (fin ys hs)
  | succ j ih =>
    intro i ys e hs
    refine LCg.CompRest.succ fun v I oI C oC D m₂ h tk E' hP hC hx F N off ne => ?_
    refine wpAny_mono (turn i v I oI C oC D m₂ h tk E' ys (by omega) hP hC hx F N off ne) (fun y s₂ h2 => ?_) fun _ _ e => e
    obtain ⟨h', tk', t, rfl, rfl, F', N'⟩ := h2
    refine LCg.CompEnd.intro F' N' news (fun _ h => h) off hS (ih (i + 1) _ (by omega) ?_)
    rw [List.range_succ, List.map_append]
    exact strs_snoc hs
end
end Mine
namespace Mine
/-! the plain law: splitting what was joined -/
def jl (c : Nat) : List (List Nat) → List Nat
  | [] => []
  | [x] => x
  | x :: y :: r => x ++ c :: jl c (y :: r)
theorem cut_eq {c : Nat} : ∀ {x x' t t' : List Nat}, c ∉ x → c ∉ x' → x ++ c :: t = x' ++ c :: t' → x = x' ∧ t = t' := by
  intro x
  induction x with
  | nil =>
    intro x' t t' _ h' e
    cases x' with
    | nil => exact ⟨rfl, by simpa using e⟩
    | cons a r => simp only [List.nil_append, List.cons_append, List.cons.injEq] at e; exact absurd (e.1 ▸ List.mem_cons_self ..) h'
  | cons a r ih =>
    intro x' t t' h h' e
    cases x' with
    | nil => simp only [List.nil_append, List.cons_append, List.cons.injEq] at e; exact absurd (e.1 ▸ List.mem_cons_self ..) h
    | cons a' r' =>
      simp only [List.cons_append, List.cons.injEq] at e
      obtain ⟨e1, e2⟩ := ih (fun hm => h (List.mem_cons_of_mem _ hm)) (fun hm => h' (List.mem_cons_of_mem _ hm)) e.2
      exact ⟨by rw [e.1, e1], e2⟩
theorem jl_inj {c : Nat} : ∀ {ps qs : List (List Nat)}, ps ≠ [] → qs ≠ [] → (∀ p ∈ ps, c ∉ p) → (∀ q ∈ qs, c ∉ q) → jl c ps = jl c qs → ps = qs := by
  intro ps
  induction ps with
  | nil => intro qs h; exact absurd rfl h
  | cons x r ih =>
    intro qs _ hq hp hq' e
    cases qs with
    | nil => exact absurd rfl hq
    | cons x' r' =>
      cases r with
      | nil =>
        cases r' with
        | nil => simp only [jl] at e; rw [e]
        | cons y' r'' =>
          simp only [jl] at e
          have : c ∈ x := by rw [e]; exact List.mem_append.mpr (.inr (List.mem_cons_self ..))
          exact absurd this (hp x (List.mem_cons_self ..))
      | cons y r2 =>
        cases r' with
        | nil =>
          simp only [jl] at e
          have : c ∈ x' := by rw [← e]; exact List.mem_append.mpr (.inr (List.mem_cons_self ..))
          exact absurd this (hq' x' (List.mem_cons_self ..))
        | cons y' r'' =>
          simp only [jl] at e
          obtain ⟨e1, e2⟩ := cut_eq (hp x (List.mem_cons_self ..)) (hq' x' (List.mem_cons_self ..)) e
          have e3 := ih (by simp) (by simp) (fun p hm => hp p (List.mem_cons_of_mem _ hm)) (fun q hm => hq' q (List.mem_cons_of_mem _ hm)) e2
          rw [e1, e3]
theorem join_jl (c : Nat) : ∀ ps : List Str, (Str.join ⟨#[c]⟩ ps).cps.toList = jl c (ps.map fun p => p.cps.toList) := by
  intro ps
  induction ps with
  | nil => rfl
  | cons x r ih =>
    cases r with
    | nil => rfl
    | cons y r2 =>
      show (x ++ (⟨#[c]⟩ : Str) ++ Str.join ⟨#[c]⟩ (y :: r2)).cps.toList = x.cps.toList ++ c :: jl c (y.cps.toList :: r2.map fun p => p.cps.toList)
      rw [List.map_cons] at ih
      rw [← ih]
      show ((x.cps ++ #[c]) ++ (Str.join ⟨#[c]⟩ (y :: r2)).cps).toList = _
      simp
theorem split_join {c : Nat} {ps : List Str} (hne : ps ≠ []) (hfree : ∀ p ∈ ps, c ∉ p.cps.toList) : Txt.split (Str.join ⟨#[c]⟩ ps) ⟨#[c]⟩ = ps := by
  have e1 := StrLaws.join_split (Str.join ⟨#[c]⟩ ps) ⟨#[c]⟩
  have e2 := StrLaws.split_free (Str.join ⟨#[c]⟩ ps) c
  have e3 := split_pos (Str.join ⟨#[c]⟩ ps) ⟨#[c]⟩
  generalize Txt.split (Str.join ⟨#[c]⟩ ps) ⟨#[c]⟩ = qs at e1 e2 e3
  have e4 := congrArg (fun z : Str => z.cps.toList) e1
  simp only [join_jl] at e4
  have e5 := jl_inj (by intro h; rw [List.map_eq_nil_iff] at h; rw [h] at e3; exact absurd e3 (by decide)) (by intro h; rw [List.map_eq_nil_iff] at h; exact hne h)
    (by intro p hp; obtain ⟨q, hq, e⟩ := List.mem_map.mp hp; rw [← e]; exact e2 q hq) (by intro p hp; obtain ⟨q, hq, e⟩ := List.mem_map.mp hp; rw [← e]; exact hfree q hq) e4
  exact (List.map_inj_right (fun a b e => Str.ext' (Array.toList_inj.mp e))).mp e5
/-! one step on each of the finite pieces -/
theorem openL_free : ∀ e ∈ openL, 59 ∉ e.1.cps.toList := by decide +kernel
theorem pieceL_free : ∀ e ∈ pieceL, 59 ∉ e.1.cps.toList := by decide +kernel
def vers : List (Nat × Str × Nat) := (List.range 4).flatMap fun a => coreL.flatMap fun c => (List.range 4).map fun b => (a, c, b)
theorem vers_in {a b : Nat} {c : Str} (ha : a < 4) (hc : c ∈ coreL) (hb : b < 4) : (a, c, b) ∈ vers := by
  unfold vers
  exact List.mem_flatMap.mpr ⟨a, List.mem_range.mpr ha, List.mem_flatMap.mpr ⟨c, hc, List.mem_map.mpr ⟨b, List.mem_range.mpr hb, rfl⟩⟩⟩
theorem vers_free : ∀ v ∈ vers, 59 ∉ (rowText (.ver v.1 v.2.1 v.2.2)).cps.toList := by decide +kernel
theorem left_free : ∀ v ∈ vers, ∀ t ∈ List.range 5, 59 ∉ (leftText v.1 v.2.1 v.2.2 t).cps.toList := by decide +kernel
end Mine
namespace Mine
def allRows : List Row := Row.bare :: ((List.range 15).map Row.piece ++ vers.map fun v => Row.ver v.1 v.2.1 v.2.2)
theorem allRows_in {r : Row} (h : r.ok) : r ∈ allRows := by
  unfold allRows
  cases r with
  | bare => exact List.mem_cons_self ..
  | piece j => exact List.mem_cons_of_mem _ (List.mem_append.mpr (.inl (List.mem_map.mpr ⟨j, List.mem_range.mpr h, rfl⟩)))
  | ver a c b => exact List.mem_cons_of_mem _ (List.mem_append.mpr (.inr (List.mem_map.mpr ⟨(a, c, b), vers_in h.1 h.2.1 h.2.2, rfl⟩)))
def expB (y : Str) : Bool := !(key1 y == S "expires") || decide (((sepOf y).length : Int) = 0)
theorem expB_ok {y : Str} (h : expB y = true) : expOk y := by
  intro e
  unfold expB at h
  rw [e] at h
  simpa using h
/-- the text y, not the first of its header, gives the pair q -/
def gives (y : Str) (q : Pair) : Bool := decide (¬ ((keyOf y).length : Int) = 0) && (key1 y == q.1) && (if (q.1 == S "version") = true then ((val1 y).map stripQ == q.2) else (val1 y == q.2))
theorem gives_stp {y : Str} {q : Pair} {st : List Dat × Bool} (h : gives y q = true) : stp false y st = some (st.1 ++ [pairOf q], st.2 || (q.1 == S "version")) := by
  unfold gives at h
  simp only [Bool.and_eq_true, decide_eq_true_eq] at h
  obtain ⟨⟨h1, h2⟩, h3⟩ := h
  have e2 : key1 y = q.1 := by simpa using h2
  unfold stp pairOf
  rw [if_neg h1, if_neg (by decide), e2]
  cases hv : (q.1 == S "version") with
  | true =>
    rw [hv] at h3
    rw [if_pos rfl] at h3
    have e3 : (val1 y).map stripQ = q.2 := by simpa using h3
    rw [if_pos rfl, e3]; simp
  | false =>
    rw [hv] at h3
    rw [if_neg (by decide)] at h3
    have e3 : val1 y = q.2 := by simpa using h3
    rw [if_neg (by decide), e3]; simp
def chk0 (r : Row) : Bool := !(decide (59 ∈ (rowText r).cps.toList)) && expB (rowText r) && match duePair 1 r with
  | none => decide (((keyOf (rowText r)).length : Int) = 0) && !isVer r
  | some q => gives (rowText r) q && ((q.1 == S "version") == isVer r)
theorem chk0_all : ∀ r ∈ allRows, chk0 r = true := by decide +kernel
def spw (q : Pair) : Str := S " " ++ wordOf q
def chk1 (t : Nat) (r : Row) : Bool := match duePair t r, duePair (t + 1) r with
  | none, none => !isVer r
  | some q, some q' => !(decide (59 ∈ (spw q).cps.toList)) && expB (spw q) && gives (spw q) q' && ((q'.1 == S "version") == isVer r) && decide (q.1.length ≤ 100) && decide ((wordOf q).length ≤ 100) && decide ((q.2.getD (S "")).length ≤ 100)
  | _, _ => false
theorem chk1_all : ∀ t ∈ [1, 2, 3, 4], ∀ r ∈ allRows, chk1 t r = true := by decide +kernel
/-- the rest of a header: texts that give pairs or nothing -/
theorem run_rows (f : Row → Str) (g : Row → Option Pair) : ∀ (rows : List Row) (i : Nat) (st : List Dat × Bool), 1 ≤ i →
    (∀ r ∈ rows, (g r = none → ((keyOf (f r)).length : Int) = 0 ∧ isVer r = false) ∧ ∀ q, g r = some q → gives (f r) q = true ∧ ((q.1 == S "version") = isVer r)) →
    runFrom i (rows.map f) st = some (st.1 ++ (rows.filterMap g).map pairOf, st.2 || rows.any isVer) := by
  intro rows
  induction rows with
  | nil => intro i st _ _; simp [runFrom]
  | cons r rest ih =>
    intro i st hi h
    obtain ⟨h1, h2⟩ := h r (List.mem_cons_self ..)
    have hi0 : (i == 0) = false := by simp; omega
    have h3 := fun st' => ih (i + 1) st' (by omega) fun r' hr => h r' (List.mem_cons_of_mem _ hr)
    show (stp (i == 0) (f r) st).bind (runFrom (i + 1) (rest.map f)) = _
    rw [hi0]
    cases hg : g r with
    | none =>
      obtain ⟨h4, h5⟩ := h1 hg
      have e : stp false (f r) st = some st := by unfold stp; rw [if_pos h4, if_neg (by decide)]
      rw [e]
      show runFrom (i + 1) (rest.map f) st = _
      rw [h3]
      simp [hg, h5]
    | some q =>
      obtain ⟨h4, h5⟩ := h2 q hg
      rw [gives_stp h4]
      show runFrom (i + 1) (rest.map f) (st.1 ++ [pairOf q], st.2 || (q.1 == S "version")) = _
      rw [h3]
      simp [hg, h5, Bool.or_assoc]
theorem run_pairs : ∀ (ps : List (Str × Pair)) (i : Nat) (st : List Dat × Bool), 1 ≤ i → (∀ p ∈ ps, gives p.1 p.2 = true) →
    runFrom i (ps.map (·.1)) st = some (st.1 ++ (ps.map (·.2)).map pairOf, st.2 || ps.any fun p => p.2.1 == S "version") := by
  intro ps
  induction ps with
  | nil => intro i st _ _; simp [runFrom]
  | cons p rest ih =>
    intro i st hi h
    have hi0 : (i == 0) = false := by simp; omega
    have h3 := fun st' => ih (i + 1) st' (by omega) fun r' hr => h r' (List.mem_cons_of_mem _ hr)
    show (stp (i == 0) p.1 st).bind (runFrom (i + 1) (rest.map (·.1))) = _
    rw [hi0, gives_stp (h p (List.mem_cons_self ..))]
    show runFrom (i + 1) (rest.map (·.1)) (st.1 ++ [pairOf p.2], st.2 || (p.2.1 == S "version")) = _
    rw [h3]
    simp [Bool.or_assoc]
def chkF (k : Nat) : Bool := !(decide (59 ∈ (openE k).1.cps.toList)) && match (openE k).2 with
  | none => decide (((keyOf (openE k).1).length : Int) = 0)
  | some q => decide (¬ ((keyOf (openE k).1).length : Int) = 0) && (keyOf (openE k).1 == q.1) && (val1 (openE k).1 == q.2) && !(decide (59 ∈ (wordOf q).cps.toList)) && decide (¬ ((keyOf (wordOf q)).length : Int) = 0) && (keyOf (wordOf q) == q.1) && (val1 (wordOf q) == q.2) && decide (q.1.length ≤ 100) && decide ((wordOf q).length ≤ 100) && decide ((q.2.getD (S "")).length ≤ 100)
theorem chkF_all : ∀ k ∈ List.range 7, chkF k = true := by decide +kernel
end Mine
namespace Mine
theorem any_ver {rows : List Row} : rows.any isVer = !decide (verCount rows = 0) := by
  unfold verCount
  induction rows with
  | nil => rfl
  | cons r rest ih =>
    rw [List.any_cons, ih, List.filter_cons]
    cases isVer r <;> simp
theorem row_split {y : Str} {r : Row} (h : chk0 r = true) : 59 ∉ (rowText r).cps.toList ∧ expOk (rowText r) ∧ (duePair 1 r = none → ((keyOf (rowText r)).length : Int) = 0 ∧ isVer r = false) ∧ ∀ q, duePair 1 r = some q → gives (rowText r) q = true ∧ ((q.1 == S "version") = isVer r) := by
  unfold chk0 at h
  simp only [Bool.and_eq_true, Bool.not_eq_true', decide_eq_false_iff_not] at h
  obtain ⟨⟨h1, h2⟩, h3⟩ := h
  refine ⟨h1, expB_ok h2, fun e => ?_, fun q e => ?_⟩
  · rw [e] at h3
    simpa using h3
  · rw [e] at h3
    simp only [Bool.and_eq_true, beq_iff_eq] at h3
    exact h3
theorem first_split {k : Nat} (hk : k < 7) : 59 ∉ (openE k).1.cps.toList ∧ ((openE k).2 = none → ((keyOf (openE k).1).length : Int) = 0) ∧ ∀ q, (openE k).2 = some q →
    stp true (openE k).1 ([], false) = some ([pairOf q], false) ∧ 59 ∉ (wordOf q).cps.toList ∧ stp true (wordOf q) ([], false) = some ([pairOf q], false) ∧ q.1.length ≤ 100 ∧ (wordOf q).length ≤ 100 ∧ (q.2.getD (S "")).length ≤ 100 := by
  have h := chkF_all k (List.mem_range.mpr hk)
  unfold chkF at h
  simp only [Bool.and_eq_true, Bool.not_eq_true', decide_eq_false_iff_not] at h
  obtain ⟨h1, h3⟩ := h
  refine ⟨h1, fun e => ?_, fun q e => ?_⟩
  · rw [e] at h3
    simpa using h3
  · rw [e] at h3
    simp only [Bool.and_eq_true, Bool.not_eq_true', decide_eq_false_iff_not, decide_eq_true_eq, beq_iff_eq] at h3
    obtain ⟨⟨⟨⟨⟨⟨⟨⟨⟨a1, a2⟩, a3⟩, a4⟩, a5⟩, a6⟩, a7⟩, a8⟩, a9⟩, a10⟩ := h3
    refine ⟨?_, a4, ?_, a8, a9, a10⟩
    · unfold stp pairOf
      rw [if_neg a1, if_pos rfl, a2, a3]; rfl
    · unfold stp pairOf
      rw [if_neg a5, if_pos rfl, a6, a7]; rfl
theorem split_semi {ps : List Str} (hne : ps ≠ []) (hfree : ∀ p ∈ ps, 59 ∉ p.cps.toList) : Txt.split (Txt.join (S ";") ps) (Str.ofString ";") = ps := by
  have e : Str.ofString ";" = ⟨#[59]⟩ := by decide +kernel
  have e2 : Txt.join (S ";") ps = Str.join (Str.ofString ";") ps := StrLaws.glued_eq_join _ _
  rw [e2, e]
  exact split_join hne hfree
theorem hdr_of {x : Str} {ys : List Str} (hs : Txt.split x (Str.ofString ";") = ys) {ds : List Dat} {b : Bool} (h : runHdr ys = some (ds, b)) (hne : ds.isEmpty = false) :
    hdrD x = some (.list (if b = true then ds else ds ++ [pairD (Str.ofString "version") (some (Str.ofString "0"))])) := by
  unfold hdrD
  rw [hs, h]
  simp [hne]
theorem hdr_first {x : Text} (hx : x.ok) : hdrD (fhText x.1 x.2) = (dueText 1 x).map pairsD := by
  obtain ⟨k, rows⟩ := x
  obtain ⟨hk, hl, hr⟩ := hx
  simp only at hk hl hr
  obtain ⟨f1, f2, f3⟩ := first_split hk
  have hrow : ∀ r ∈ rows, _ := fun r hm => row_split (y := S "") (chk0_all r (allRows_in (hr r hm)))
  have hs : Txt.split (fhText k rows) (Str.ofString ";") = (openE k).1 :: rows.map rowText := split_semi (by simp) (by
    intro p hp
    rcases List.mem_cons.mp hp with e | hp
    · rw [e]; exact f1
    · obtain ⟨r, hr1, e⟩ := List.mem_map.mp hp
      rw [← e]; exact (hrow r hr1).1)
  cases hq : (openE k).2 with
  | none =>
    have e1 : hdrD (fhText k rows) = none := by
      unfold hdrD
      rw [hs, runHdr_break rfl (f2 hq)]
    rw [e1]
    unfold dueText
    rw [hq]; rfl
  | some q =>
    obtain ⟨g1, _⟩ := f3 q hq
    have e2 : runHdr ((openE k).1 :: rows.map rowText) = some (pairOf q :: (rows.filterMap (duePair 1)).map pairOf, rows.any isVer) := by
      show (stp true (openE k).1 ([], false)).bind (runFrom 1 (rows.map rowText)) = _
      rw [g1]
      show runFrom 1 (rows.map rowText) ([pairOf q], false) = _
      rw [run_rows rowText (duePair 1) rows 1 _ (Nat.le_refl 1) fun r hm => (hrow r hm).2.2]
      simp
    rw [hdr_of hs e2 rfl, any_ver]
    unfold dueText
    rw [hq]
    by_cases hv : verCount rows = 0
    · simp [hv, pairsD, dueRows, pairOf]
    · simp [hv, pairsD, dueRows]
theorem join_put (sep u b : Str) : ∀ r : List Str, Str.join sep ((u ++ b) :: r) = u ++ Str.join sep (b :: r) := by
  intro r
  cases r with
  | nil => rfl
  | cons y r => show (u ++ b) ++ sep ++ Str.join sep (y :: r) = u ++ (b ++ sep ++ Str.join sep (y :: r)); simp only [Str.append_assoc]
theorem join_semi : ∀ (l : List Str) (a : Str), Txt.join (S "; ") (a :: l) = Txt.join (S ";") (a :: l.map fun b => S " " ++ b) := by
  have e : S "; " = S ";" ++ S " " := by decide +kernel
  intro l
  induction l with
  | nil => intro a; rw [show Txt.join (S "; ") [a] = Str.join (S "; ") [a] from StrLaws.glued_eq_join _ _, show Txt.join (S ";") (a :: [].map fun b => S " " ++ b) = Str.join (S ";") (a :: [].map fun b => S " " ++ b) from StrLaws.glued_eq_join _ _]; rfl
  | cons b r ih =>
    intro a
    have h := ih b
    rw [show Txt.join (S "; ") (b :: r) = Str.join (S "; ") (b :: r) from StrLaws.glued_eq_join _ _, show Txt.join (S ";") (b :: r.map fun b => S " " ++ b) = Str.join (S ";") (b :: r.map fun b => S " " ++ b) from StrLaws.glued_eq_join _ _] at h
    rw [show Txt.join (S "; ") (a :: b :: r) = Str.join (S "; ") (a :: b :: r) from StrLaws.glued_eq_join _ _, show Txt.join (S ";") (a :: (b :: r).map fun b => S " " ++ b) = Str.join (S ";") (a :: (b :: r).map fun b => S " " ++ b) from StrLaws.glued_eq_join _ _]
    show a ++ S "; " ++ Str.join (S "; ") (b :: r) = a ++ S ";" ++ Str.join (S ";") ((S " " ++ b) :: r.map fun b => S " " ++ b)
    rw [join_put, h, e]
    simp only [Str.append_assoc]
theorem row_next {t : Nat} (ht : t ∈ [1, 2, 3, 4]) {r : Row} (h : r.ok) : (duePair t r = none → duePair (t + 1) r = none ∧ isVer r = false) ∧ ∀ q, duePair t r = some q → ∃ q', duePair (t + 1) r = some q' ∧ 59 ∉ (spw q).cps.toList ∧ expOk (spw q) ∧ gives (spw q) q' = true ∧ ((q'.1 == S "version") = isVer r) ∧ q.1.length ≤ 100 ∧ (wordOf q).length ≤ 100 ∧ (q.2.getD (S "")).length ≤ 100 := by
  have h1 := chk1_all t ht r (allRows_in h)
  unfold chk1 at h1
  constructor
  · intro e
    rw [e] at h1
    cases e2 : duePair (t + 1) r with
    | none => rw [e2] at h1; exact ⟨rfl, by simpa using h1⟩
    | some q => rw [e2] at h1; exact absurd h1 Bool.false_ne_true
  · intro q e
    rw [e] at h1
    cases e2 : duePair (t + 1) r with
    | none => rw [e2] at h1; exact absurd h1 Bool.false_ne_true
    | some q' =>
      rw [e2] at h1
      simp only [Bool.and_eq_true, Bool.not_eq_true', decide_eq_false_iff_not, decide_eq_true_eq, beq_iff_eq] at h1
      obtain ⟨⟨⟨⟨⟨⟨a1, a2⟩, a3⟩, a4⟩, a5⟩, a6⟩, a7⟩ := h1
      exact ⟨q', rfl, a1, expB_ok a2, a3, a4, a5, a6, a7⟩
theorem rows_next {t : Nat} (ht : t ∈ [1, 2, 3, 4]) : ∀ rows : List Row, (∀ r ∈ rows, r.ok) → ∃ L : List (Str × Pair), L.map (·.1) = (rows.filterMap (duePair t)).map spw ∧ L.map (·.2) = rows.filterMap (duePair (t + 1)) ∧ (L.any fun p => p.2.1 == S "version") = rows.any isVer ∧ (∀ p ∈ L, gives p.1 p.2 = true) ∧ ∀ p ∈ L, 59 ∉ p.1.cps.toList ∧ expOk p.1 := by
  intro rows
  induction rows with
  | nil => intro _; exact ⟨[], rfl, rfl, rfl, (fun _ h => nomatch h), fun _ h => nomatch h⟩
  | cons r rest ih =>
    intro h
    obtain ⟨L, l1, l2, l3, l4, l5⟩ := ih fun r' hr => h r' (List.mem_cons_of_mem _ hr)
    obtain ⟨n1, n2⟩ := row_next ht (h r (List.mem_cons_self ..))
    cases e : duePair t r with
    | none =>
      obtain ⟨e2, e3⟩ := n1 e
      exact ⟨L, by simp [e, l1], by simp [e2, l2], by simp [e3, l3], l4, l5⟩
    | some q =>
      obtain ⟨q', e2, a1, a2, a3, a4, _⟩ := n2 q e
      refine ⟨(spw q, q') :: L, by simp [e, l1], by simp [e2, l2], by simp [l3, a4], fun p hp => ?_, fun p hp => ?_⟩
      · rcases List.mem_cons.mp hp with e | hp
        · rw [e]; exact a3
        · exact l4 p hp
      · rcases List.mem_cons.mp hp with e | hp
        · rw [e]; exact ⟨a1, a2⟩
        · exact l5 p hp
def ver0 : Pair := (S "version", some (S "0"))
theorem ver0_ok : gives (spw ver0) ver0 = true ∧ 59 ∉ (spw ver0).cps.toList ∧ expB (spw ver0) = true := by decide +kernel
/-- what a written header splits into -/
theorem split_written {f : Pair} {ps : List Pair} (h1 : 59 ∉ (wordOf f).cps.toList) (h2 : ∀ y ∈ ps.map spw, 59 ∉ y.cps.toList) : Txt.split (wrText (f :: ps)) (Str.ofString ";") = wordOf f :: ps.map spw := by
  unfold wrText
  rw [List.map_cons, join_semi, List.map_map]
  exact split_semi (by simp) (by
    intro p hp
    rcases List.mem_cons.mp hp with e | hp
    · rw [e]; exact h1
    · exact h2 p hp)
theorem hdr_next {x : Text} (hx : x.ok) {t : Nat} (ht : t ∈ [1, 2, 3, 4]) {ps : List Pair} (h : dueText t x = some ps) :
    hdrD (wrText ps) = (dueText (t + 1) x).map pairsD ∧ ∀ y ∈ (Txt.split (wrText ps) (Str.ofString ";")).tail, expOk y := by
  obtain ⟨k, rows⟩ := x
  obtain ⟨hk, hl, hr⟩ := hx
  simp only at hk hl hr
  obtain ⟨f1, f2, f3⟩ := first_split hk
  obtain ⟨L, l1, l2, l3, l4, l5⟩ := rows_next ht rows hr
  unfold dueText at h ⊢
  simp only at h ⊢
  cases hq : (openE k).2 with
  | none => rw [hq] at h; cases h
  | some q =>
    rw [hq] at h
    obtain ⟨_, g1, g2, _⟩ := f3 q hq
    simp only [Option.map_some, Option.some.injEq] at h
    by_cases hv : verCount rows = 0
    · rw [if_pos hv] at h
      have e : ps = q :: (rows.filterMap (duePair t) ++ [ver0]) := by rw [← h]; rfl
      have l1' : (rows.filterMap (duePair t) ++ [ver0]).map spw = (L ++ [(spw ver0, ver0)]).map (·.1) := by rw [List.map_append, List.map_append, l1]; rfl
      have l5' : ∀ p ∈ L ++ [(spw ver0, ver0)], 59 ∉ p.1.cps.toList ∧ expOk p.1 := by
        intro p hp
        rcases List.mem_append.mp hp with hp | hp
        · exact l5 p hp
        · rw [List.mem_singleton.mp hp]; exact ⟨ver0_ok.2.1, expB_ok ver0_ok.2.2⟩
      have l4' : ∀ p ∈ L ++ [(spw ver0, ver0)], gives p.1 p.2 = true := by
        intro p hp
        rcases List.mem_append.mp hp with hp | hp
        · exact l4 p hp
        · rw [List.mem_singleton.mp hp]; exact ver0_ok.1
      have hs := split_written (f := q) (ps := rows.filterMap (duePair t) ++ [ver0]) g1 (by
        intro y hy
        rw [l1'] at hy
        obtain ⟨p, hp, e⟩ := List.mem_map.mp hy
        rw [← e]; exact (l5' p hp).1)
      rw [e]
      constructor
      · rw [l1'] at hs
        have e2 : runHdr (wordOf q :: (L ++ [(spw ver0, ver0)]).map (·.1)) = some (pairOf q :: ((L ++ [(spw ver0, ver0)]).map (·.2)).map pairOf, true) := by
          show (stp true (wordOf q) ([], false)).bind (runFrom 1 _) = _
          rw [g2]
          show runFrom 1 _ ([pairOf q], false) = _
          rw [run_pairs _ 1 _ (Nat.le_refl 1) l4']
          simp [ver0]
        rw [hdr_of hs e2 rfl]
        simp [hv, pairsD, dueRows, l2, ver0]
      · rw [hs, l1']
        intro y hy
        obtain ⟨p, hp, e⟩ := List.mem_map.mp hy
        rw [← e]; exact (l5' p hp).2
    · rw [if_neg hv] at h
      have e : ps = q :: rows.filterMap (duePair t) := by rw [← h]; rfl
      have hs := split_written (f := q) (ps := rows.filterMap (duePair t)) g1 (by
        intro y hy
        rw [← l1] at hy
        obtain ⟨p, hp, e⟩ := List.mem_map.mp hy
        rw [← e]; exact (l5 p hp).1)
      rw [e]
      constructor
      · rw [← l1] at hs
        have hb : rows.any isVer = true := by rw [any_ver]; simp [hv]
        have e2 : runHdr (wordOf q :: L.map (·.1)) = some (pairOf q :: (L.map (·.2)).map pairOf, true) := by
          show (stp true (wordOf q) ([], false)).bind (runFrom 1 _) = _
          rw [g2]
          show runFrom 1 _ ([pairOf q], false) = _
          rw [run_pairs _ 1 _ (Nat.le_refl 1) l4]
          simp [l3, hb]
        rw [hdr_of hs e2 rfl]
        simp [hv, pairsD, dueRows, l2]
      · rw [hs, ← l1]
        intro y hy
        obtain ⟨p, hp, e⟩ := List.mem_map.mp hy
        rw [← e]; exact (l5 p hp).2
end Mine
namespace Mine
theorem all_first : ∀ {xs : List Text}, (∀ x ∈ xs, x.ok) → allD (xs.map fun x => fhText x.1 x.2) = (dueAll 1 xs).map pairsD := by
  intro xs
  induction xs with
  | nil => intro _; rfl
  | cons x r ih =>
    intro h
    have h1 := hdr_first (h x (List.mem_cons_self ..))
    have h2 := ih fun y hy => h y (List.mem_cons_of_mem _ hy)
    unfold allD dueAll at h2 ⊢
    rw [List.map_cons, List.filterMap_cons, h1, h2, List.filterMap_cons]
    cases dueText 1 x <;> rfl
theorem due_none {x : Text} {t u : Nat} (h : dueText t x = none) : dueText u x = none := by
  unfold dueText at h ⊢
  cases e : (openE x.1).2 with
  | none => rfl
  | some q => rw [e] at h; cases h
theorem all_next {t : Nat} (ht : t ∈ [1, 2, 3, 4]) : ∀ {xs : List Text}, (∀ x ∈ xs, x.ok) → allD ((dueAll t xs).map wrText) = (dueAll (t + 1) xs).map pairsD := by
  intro xs
  induction xs with
  | nil => intro _; rfl
  | cons x r ih =>
    intro h
    have h2 := ih fun y hy => h y (List.mem_cons_of_mem _ hy)
    unfold allD dueAll at h2 ⊢
    cases e : dueText t x with
    | none =>
      rw [List.filterMap_cons, e, List.filterMap_cons, due_none e]
      exact h2
    | some ps =>
      have h1 := (hdr_next (h x (List.mem_cons_self ..)) ht e).1
      have e2 : ∃ ps', dueText (t + 1) x = some ps' := by
        cases e3 : dueText (t + 1) x with
        | none => rw [due_none e3] at e; cases e
        | some p => exact ⟨p, rfl⟩
      obtain ⟨ps', e2⟩ := e2
      rw [List.filterMap_cons, e]
      dsimp only
      rw [List.map_cons, List.filterMap_cons, h1, e2, List.filterMap_cons, e2]
      dsimp only [Option.map_some]
      rw [h2]; rfl
/-- headers at a turn: 0 is the first -/
def hdrs (xs : List Text) : Nat → List Str
  | 0 => xs.map fun x => fhText x.1 x.2
  | t + 1 => (dueAll (t + 1) xs).map wrText
theorem all_hdrs {xs : List Text} (h : ∀ x ∈ xs, x.ok) {t : Nat} (ht : t < 4) : allD (hdrs xs t) = (dueAll (t + 1) xs).map pairsD := by
  cases t with
  | zero => exact all_first h
  | succ t => exact all_next (by simp; omega) h
theorem exp_first {x : Text} (hx : x.ok) : ∀ y ∈ (Txt.split (fhText x.1 x.2) (Str.ofString ";")).tail, expOk y := by
  obtain ⟨k, rows⟩ := x
  obtain ⟨hk, hl, hr⟩ := hx
  simp only at hk hl hr
  have hrow : ∀ r ∈ rows, _ := fun r hm => row_split (y := S "") (chk0_all r (allRows_in (hr r hm)))
  have hs : Txt.split (fhText k rows) (Str.ofString ";") = (openE k).1 :: rows.map rowText := split_semi (by simp) (by
    intro p hp
    rcases List.mem_cons.mp hp with e | hp
    · rw [e]; exact (first_split hk).1
    · obtain ⟨r, hr1, e⟩ := List.mem_map.mp hp
      rw [← e]; exact (hrow r hr1).1)
  intro y hy
  rw [hs] at hy
  obtain ⟨r, hr1, e⟩ := List.mem_map.mp hy
  rw [← e]; exact (hrow r hr1).2.1
theorem exp_hdrs {xs : List Text} (h : ∀ x ∈ xs, x.ok) {t : Nat} (ht : t < 4) : ∀ x ∈ hdrs xs t, ∀ y ∈ (Txt.split x (Str.ofString ";")).tail, expOk y := by
  intro z hz
  cases t with
  | zero =>
    obtain ⟨x, hx, e⟩ := List.mem_map.mp hz
    rw [← e]; exact exp_first (h x hx)
  | succ t =>
    obtain ⟨ps, hp, e⟩ := List.mem_map.mp hz
    obtain ⟨x, hx, e2⟩ := List.mem_filterMap.mp hp
    rw [← e]; exact (hdr_next (h x hx) (t := t + 1) (by simp; omega) e2).2
def Pair.fits (q : Pair) : Prop := q.1.length ≤ 100 ∧ (wordOf q).length ≤ 100 ∧ (q.2.getD (S "")).length ≤ 100
theorem due_fits {x : Text} (hx : x.ok) {t : Nat} (ht : t ∈ [1, 2, 3, 4]) {ps : List Pair} (h : dueText t x = some ps) : ps.length ≤ 15 ∧ ∀ q ∈ ps, Pair.fits q := by
  obtain ⟨k, rows⟩ := x
  obtain ⟨hk, hl, hr⟩ := hx
  simp only at hk hl hr
  unfold dueText at h
  simp only at h
  cases hq : (openE k).2 with
  | none => rw [hq] at h; cases h
  | some q =>
    rw [hq] at h
    simp only [Option.map_some, Option.some.injEq] at h
    have g := ((first_split hk).2.2 q hq).2.2.2
    have hd : ∀ p ∈ dueRows t q rows, Pair.fits p := by
      intro p hp
      rcases List.mem_cons.mp hp with e | hp
      · rw [e]; exact g
      · obtain ⟨r, hr1, e⟩ := List.mem_filterMap.mp hp
        obtain ⟨_, _, _, _, _, _, a⟩ := (row_next ht (hr r hr1)).2 p e
        exact a
    have hn : (dueRows t q rows).length ≤ rows.length + 1 := dueRows_len
    by_cases hv : verCount rows = 0
    · rw [if_pos hv] at h
      rw [← h]
      refine ⟨by rw [List.length_append, List.length_singleton]; omega, fun p hp => ?_⟩
      rcases List.mem_append.mp hp with hp | hp
      · exact hd p hp
      · rw [List.mem_singleton.mp hp]; exact ⟨by decide, by decide, by decide⟩
    · rw [if_neg hv] at h
      rw [← h]
      exact ⟨by omega, hd⟩
theorem join_len {sep : Str} {B K : Nat} {l : List Str} (h : ∀ x ∈ l, x.length ≤ B) (hl : l.length ≤ K) (hs : sep.length ≤ 2) : (Txt.join sep l).length ≤ K * B + K * 2 := by
  rw [show Txt.join sep l = Str.join sep l from StrLaws.glued_eq_join _ _]
  cases l with
  | nil => exact Nat.zero_le _
  | cons a r =>
    rw [len_join_cons]
    have h1 := sum_len_le _ h
    have h2 : (a :: r).length * B ≤ K * B := Nat.mul_le_mul_right _ hl
    have h3 : r.length * sep.length ≤ K * 2 := Nat.mul_le_mul (by simp only [List.length_cons] at hl; omega) hs
    omega
theorem len_hdrs {xs : List Text} (h : ∀ x ∈ xs, x.ok) {t : Nat} (ht : t < 4) : ∀ x ∈ hdrs xs t, x.length ≤ 2000 := by
  intro z hz
  cases t with
  | zero =>
    obtain ⟨x, hx, e⟩ := List.mem_map.mp hz
    obtain ⟨hk, hl, hr⟩ := h x hx
    have q := join_len (sep := S ";") (B := 60) (K := 14) (l := (openE x.1).1 :: x.2.map rowText) (by
      intro y hy
      rcases List.mem_cons.mp hy with e | hy
      · rw [e]; exact openE_len _
      · obtain ⟨r, hr1, e⟩ := List.mem_map.mp hy
        rw [← e]; exact rowText_len (hr r hr1)) (by rw [List.length_cons, List.length_map]; omega) (by decide)
    rw [← e]; exact Nat.le_trans q (by decide)
  | succ t =>
    obtain ⟨ps, hp, e⟩ := List.mem_map.mp hz
    obtain ⟨x, hx, e2⟩ := List.mem_filterMap.mp hp
    obtain ⟨d1, d2⟩ := due_fits (h x hx) (t := t + 1) (by simp; omega) e2
    have q := join_len (sep := S "; ") (B := 100) (K := 15) (l := ps.map wordOf) (by
      intro y hy
      obtain ⟨p, hp1, e⟩ := List.mem_map.mp hy
      rw [← e]; exact (d2 p hp1).2.1) (by rw [List.length_map]; omega) (by decide)
    rw [← e]; exact Nat.le_trans q (by decide)
theorem count_hdrs {xs : List Text} (h : xs.length ≤ 14) {t : Nat} : (hdrs xs t).length ≤ 14 := by
  cases t with
  | zero => unfold hdrs; rw [List.length_map]; exact h
  | succ t => unfold hdrs; rw [List.length_map]; exact Nat.le_trans (List.length_filterMap_le _ _) h
theorem fits_all {xs : List Text} (h : ∀ x ∈ xs, x.ok) {t : Nat} (ht : t ∈ [1, 2, 3, 4]) : ∀ ps ∈ dueAll t xs, ps.length ≤ 20 ∧ ∀ q ∈ ps, q.1.length ≤ 100 ∧ (wordOf q).length ≤ 300 ∧ ∀ x, q.2 = some x → x.length ≤ 100 := by
  intro ps hp
  obtain ⟨x, hx, e2⟩ := List.mem_filterMap.mp hp
  obtain ⟨d1, d2⟩ := due_fits (h x hx) ht e2
  refine ⟨by omega, fun q hq => ⟨(d2 q hq).1, Nat.le_trans (d2 q hq).2.1 (by decide), fun y e => ?_⟩⟩
  have := (d2 q hq).2.2
  rw [e] at this
  exact this
end Mine
namespace Mine
section
variable {prog : Program} {w : World} {A : Around} {E : Value → Shared → Prop} {s : Shared} {env : Env} {h₀ : Heap} {x : Str} {body : List Stmt} {Q : Flow → Shared → Prop}
/-- the library's two ways to say what a turn leaves -/
theorem post_tb {h₀ : Heap} {L : Addr} {J : (Str → Option Value) → List (Addr × Obj) → Prop} {own : List (Addr × Obj)} {s₁ s₂ : Shared} {Q : Flow → Shared → Prop} {f : Flow} (h : InvPostG h₀ L J own s₁ Q f s₂) : TbPost h₀ L J own s₁ Q f s₂ := by
  have go : InvEndG h₀ L J own s₁ s₂ → TbEnd h₀ L J own s₁ s₂ := by
    rintro ⟨h', tk, m', news', nx, e, F', N', hn, ho, ha, hm⟩
    exact ⟨h', tk, m', news', nx, e, F', N', hn, ho, fun q hq z hz => ha q hq _ (List.mem_map.mpr ⟨z, hz, rfl⟩), hm⟩
  cases f with
  | ret v => exact h
  | brk => exact h
  | next => exact go h
  | cont => exact go h
/-- for x in range(a, b), with an invariant over the ledger -/
theorem rg_iter {r : Addr} {a₀ b₀ : Int} {t₀ u₀ v₀ : Tok} {n : Nat} {m₀ : Str → Option Value} {news : List (Addr × Obj)} (J : Nat → (Str → Option Value) → List (Addr × Obj) → Prop)
    (hh : A.handled = none) (hr : IsRange s.heap r a₀ b₀ 1 t₀ u₀ v₀) (hsmall : Builtin.Range.small a₀ b₀ 1 = true) (hsz : Builtin.Range.rangeSize a₀ b₀ 1 = (n : Int)) (F : Fr h₀ env.locals s.heap m₀) (N : News h₀ env.locals s.heap news) (hj : J 0 m₀ news)
    (turn : ∀ i m₁ news₁ h tk t own, i < n → OwnOff own (news₁.map (·.1)) → J i m₁ news₁ → Fr h₀ env.locals h (fun y => if y = x then some (.int (a₀ + (i : Int)) t) else m₁ y) → News h₀ env.locals h (news₁ ++ own) →
      wpAny (model prog w) A (execs body env) (InvPostG h₀ env.locals (fun m' nx => J (i + 1) m' nx) own { s with heap := h, toks := tk } Q) E { s with heap := h, toks := tk })
    (done : ∀ m₁ news₁ h tk, J n m₁ news₁ → Fr h₀ env.locals h m₁ → News h₀ env.locals h news₁ → Q .next { s with heap := h, toks := tk }) :
    wpAny (model prog w) A (pyIter (.ref r)) (fun it s₂ => LoopAtV prog w A h₀ env x body Q E it s₂) E s := by
  refine tbr_invG J hh hr hsmall hsz F N hj (fun i k t m₁ nx h tk own hk hoff hJ F₁ N₁ => ?_) done
  have hi : i < n := by
    have q := (List.getElem?_eq_some_iff.mp hk).1
    rwa [rangeKs_length] at q
  have e : k = a₀ + (i : Int) := by
    simp [rangeKs, hi] at hk
    exact hk.symm
  subst e
  exact wpAny_mono (turn i m₁ nx h tk t own hi (fun q hq b hb => by obtain ⟨z, hz, e⟩ := List.mem_map.mp hb; exact e ▸ hoff q hq z hz) hJ F₁ N₁) (fun f s₂ h2 => post_tb h2) fun _ _ e => e
end
end Mine
namespace Mine
/-! what is told and what is due can be compared -/
def okP (q : Pair) : Bool := PyData.strOk q.1 && (match q.2 with | none => true | some x => PyData.strOk x)
def okO (q : Option Pair) : Bool := match q with | none => true | some q => okP q
theorem ok_first : ∀ k ∈ List.range 7, okO (openE k).2 = true := by decide +kernel
theorem ok_rows : ∀ t ∈ [1, 2, 3, 4], ∀ r ∈ allRows, okO (duePair t r) = true := by decide +kernel
theorem okP_kqd {q : Pair} (h : okP q = true) : kqdOk 7 (pairOf q) = true := by
  obtain ⟨k, v⟩ := q
  unfold okP at h
  cases v with
  | none =>
    simp only [Bool.and_true] at h
    simp [pairOf, pairD, strD, kqdOk, h]
  | some x =>
    simp only [Bool.and_eq_true] at h
    simp [pairOf, pairD, strD, kqdOk, h.1, h.2]
theorem due_okP {x : Text} (hx : x.ok) {t : Nat} (ht : t ∈ [1, 2, 3, 4]) {ps : List Pair} (h : dueText t x = some ps) : ∀ q ∈ ps, okP q = true := by
  obtain ⟨k, rows⟩ := x
  obtain ⟨hk, hl, hr⟩ := hx
  simp only at hk hl hr
  unfold dueText at h
  simp only at h
  cases hq : (openE k).2 with
  | none => rw [hq] at h; cases h
  | some q =>
    rw [hq] at h
    simp only [Option.map_some, Option.some.injEq] at h
    have g := ok_first k (List.mem_range.mpr hk)
    rw [hq] at g
    have hd : ∀ p ∈ dueRows t q rows, okP p = true := by
      intro p hp
      rcases List.mem_cons.mp hp with e | hp
      · rw [e]; exact g
      · obtain ⟨r, hr1, e⟩ := List.mem_filterMap.mp hp
        have a := ok_rows t ht r (allRows_in (hr r hr1))
        rw [e] at a
        exact a
    by_cases hv : verCount rows = 0
    · rw [if_pos hv] at h
      rw [← h]
      intro p hp
      rcases List.mem_append.mp hp with hp | hp
      · exact hd p hp
      · rw [List.mem_singleton.mp hp]; decide +kernel
    · rw [if_neg hv] at h
      rw [← h]
      exact hd
theorem due_kqd {xs : List Text} (h : ∀ x ∈ xs, x.ok) {t : Nat} (ht : t ∈ [1, 2, 3, 4]) : ∀ d ∈ (dueAll t xs).map pairsD, kqdOk 8 d = true := by
  intro d hd
  obtain ⟨ps, hp, e⟩ := List.mem_map.mp hd
  obtain ⟨x, hx, e2⟩ := List.mem_filterMap.mp hp
  rw [← e]
  unfold pairsD
  simp only [kqdOk, List.all_eq_true]
  intro z hz
  obtain ⟨q, hq, e3⟩ := List.mem_map.mp hz
  rw [← e3]
  exact okP_kqd (due_okP (h x hx) ht e2 q hq)
theorem turn_in {i : Nat} (hi : i < 4) : i + 1 ∈ [1, 2, 3, 4] := by simp; omega
/-- a list that a datum says -/
theorem list_in {new : List (Addr × Obj)} {v : Value} {ds : List Dat} (h : DatIn new v (.list ds)) : ∃ a vs n, v = .ref a ∧ (a, listOf vs.toArray n) ∈ new ∧ DatAll new vs ds := by
  cases h with
  | list hm hall => exact ⟨_, _, _, rfl, hm, hall⟩
section
variable {h₀ : Heap} {L : Addr}
/-- the end of law's turn -/
theorem law_end {T D2 : Addr} {tvs ys2 : List Value} {k : Nat} {tn own news2 : List (Addr × Obj)} {xs : List Text} {i tk : Nat} {m' : Str → Option Value} {h' : Heap} {s₁ : Shared} {D : Addr} {ys : List Value}
    (F : Fr h₀ L h' m') (N : News h₀ L h' ((D2, LCg.lst ys2) :: news2)) (hsub : ∀ q ∈ (T, listOf tvs.toArray k) :: tn, q ∈ news2) (hown : ∀ q ∈ own, q ∈ news2)
    (hoff : OwnOff own (((D, LCg.lst ys) :: (T, listOf tvs.toArray k) :: tn).map (·.1))) (off1 : LCg.Off1 D2 news2) (hy : StrsAre ys2 (hdrs xs (i + 1)))
    (m1 : m' (S "headers") = some (.ref D2)) (m2 : m' (S "texts") = some (.ref T)) :
    InvEndG h₀ L (fun m nx => ∃ (D : Addr) (ys : List Value), nx = (D, LCg.lst ys) :: (T, listOf tvs.toArray k) :: tn ∧ StrsAre ys (hdrs xs (i + 1)) ∧ m (S "headers") = some (.ref D) ∧ m (S "texts") = some (.ref T)) own s₁ { s₁ with heap := h', toks := tk } := by
  have off2 : ∀ {l : List (Addr × Obj)}, LCg.Off1 D2 l → ∀ q ∈ l, @Ne Nat q.1 D2 := by
    intro l
    induction l with
    | nil => intro _ q hq; cases hq
    | cons a r ih =>
      intro h q hq
      rcases List.mem_cons.mp hq with e | hq
      · rw [e]; exact h.1
      · exact ih h.2 q hq
  refine ⟨h', tk, m', _, (D2, LCg.lst ys2) :: (T, listOf tvs.toArray k) :: tn, rfl, F, N, ?_, ?_, ?_, D2, ys2, rfl, hy, m1, m2⟩
  · intro q hq
    rcases List.mem_cons.mp hq with e | hq
    · rw [e]; exact List.mem_cons_self ..
    · exact List.mem_cons_of_mem _ (hsub q hq)
  · exact fun q hq => List.mem_cons_of_mem _ (hown q hq)
  · intro q hq a ha
    rw [List.map_cons] at ha
    rcases List.mem_cons.mp ha with e | ha
    · rw [e]; exact off2 off1 q (hown q hq)
    · exact hoff q hq a (by rw [List.map_cons]; exact List.mem_cons_of_mem _ ha)
end
end Mine
namespace Mine
theorem fill : PySem.Challenge.rw_in0099_01 = PySem.Challenge.rw_in0099_01 ∧ Mine.k0.heap_1 = Mine.k0.heap_1 := by
  k_fill
  exact ⟨rfl, rfl⟩
abbrev pg : Program := PySem.Challenge.rw_in0099_01.row.prog
end Mine
namespace Mine
local macro_rules | `(tactic| k_room) => `(tactic| ((try simp only [depth_under_make, depth_under_kw, depth_in1, depth_deeper, depth_caller, recursionLimit]); omega))
local macro_rules | `(tactic| walk_at "my.mem") => `(tactic| first | with_reducible assumption | exact List.mem_cons_self .. | ((with_reducible refine List.mem_cons_of_mem _ ?_); walk_at "my.mem"))
local macro_rules | `(tactic| k_mem) => `(tactic| walk_at "my.mem")
local macro_rules | `(tactic| k_all) => `(tactic| with_reducible assumption)
local macro_rules | `(tactic| walk_at "my.enter") => `(tactic|
  (refine' code_def ?k1 ?k2 ?k3 ?k4 ?k5 ?kA ?kF ?kK ?k6 ?k7 ?k8 ?k9 ?kB ?_ ?c2 ?c3 ?c4 ?c5; (case kA => exact rfl); (case kF => assumption); (case kK => assumption); (case k1 => k_asm); (case k2 => k_asm); (case k3 => k_asm); (case k4 => k_asm); (case k5 => k_asm); (case k6 => k_is); (case k7 => k_is); (case k8 => k_room); (case k9 => first | exact BindsTo.of_eq rfl | exact binds_K (by k_in) rfl (by k_is) rfl rfl rfl | fail "k_enter: no rule for these arguments"); (case c5 => decide); (case kB => exact locs rfl); (case c2 => exact rfl); (case c3 => exact rfl); (case c4 => exact rfl); k_whole; intro g' L' h' FG' F' N' B' X' T'; (try dsimp only); (try k_lift B'); (try k_fold)))
local macro_rules | `(tactic| walk_at "my.dat") => `(tactic| first
  | exact DatAll.nil
  | (refine DatAll.cons ?_ ?_ <;> walk_at "my.dat")
  | exact DatIn.none | exact DatIn.str _ _ | exact DatIn.int _ _
  | (refine DatIn.tuple (by k_mem) ?_; walk_at "my.dat")
  | (refine DatIn.list (by k_mem) ?_; walk_at "my.dat"))
section
variable {w : World} {d u : Nat} {gd : Option (List Code)} {A₀ : Around} {E : Value → Shared → Prop} {s : Shared} {base h₀ : Heap} {outer : List Env} {env : Env} {L : Addr} {m mg mb : Str → Option Value} {news : List (Addr × Obj)} {p : Program} {loose : List Str} {mean : ExcName → Option Value} {Q : Value → Shared → Prop}
theorem op_callK
    (B : Below A₀ base outer h₀) (F : Fr h₀ L s.heap m) (X : (Mine.k0.heap_1 w.params).In h₀) (N : News h₀ L s.heap news) (T : Top p loose mean mg mb h₀) (hf : env.frame = some L) (hke : env.scope.kind = .function)
    (hd : d < 900) (h : ∀ h' tk a vs n new, (a, listOf vs.toArray n) ∈ new → DatAll new vs openDs → Over new news → Fr h₀ L h' m → News h₀ L h' (new ++ news) → Q (.ref a) { s with heap := h', toks := tk }) :
    wpAny (model pg w) ⟨none, d, some (env :: outer), gd, u⟩ (call (.ref 159) []) Q E s := by
  refine wpAny_call ?_
  walk_at "my.enter"
  k_steps
  (rename Fr h₀ _ _ _ => F9); (rename News h₀ _ _ _ => N9); (rename (∀ p ∈ news, p.1 < _) => l9)
  refine h _ _ _ _ _ [_, _, _, _, _, _, _, _, _, _, _, _, _] (List.mem_cons_self ..) ?_ ?_ F9 N9
  · walk_at "my.dat"
  · repeat' (first | exact Over.nil | refine Over.cons ?_ ?_)
    all_goals (intro z hz; have q0 : @LT.lt Nat _ z.1 _ := l9 z hz; omega)
theorem op_call
    (B : Below A₀ base outer h₀) (F : Fr h₀ L s.heap m) (X : (Mine.k0.heap_1 w.params).In h₀) (N : News h₀ L s.heap news) (T : Top p loose mean mg mb h₀) (hf : env.frame = some L) (hke : env.scope.kind = .function)
    (hd : d < 900) (h : ∀ h' tk a vs n new, News h₀ L h' new → (a, listOf vs.toArray n) ∈ new → DatAll new vs openDs → Fr h₀ L h' m → News h₀ L h' news → Q (.ref a) { s with heap := h', toks := tk }) :
    wpAny (model pg w) ⟨none, d, some (env :: outer), gd, u⟩ (call (.ref 159) []) Q E s :=
  op_callK B F X N T hf hke hd fun h' tk a vs n new hm hD _ F' N' => h h' tk a vs n new (news_re N' fun q hq => List.mem_append.mpr (.inl hq)) hm hD F' (news_re N' fun q hq => List.mem_append.mpr (.inr hq))
theorem pc_callK
    (B : Below A₀ base outer h₀) (F : Fr h₀ L s.heap m) (X : (Mine.k0.heap_1 w.params).In h₀) (N : News h₀ L s.heap news) (T : Top p loose mean mg mb h₀) (hf : env.frame = some L) (hke : env.scope.kind = .function)
    (hd : d < 900) (h : ∀ h' tk a vs n new, (a, listOf vs.toArray n) ∈ new → DatAll new vs pieceDs → Over new news → Fr h₀ L h' m → News h₀ L h' (new ++ news) → Q (.ref a) { s with heap := h', toks := tk }) :
    wpAny (model pg w) ⟨none, d, some (env :: outer), gd, u⟩ (call (.ref 166) []) Q E s := by
  refine wpAny_call ?_
  walk_at "my.enter"
  k_steps
  (rename Fr h₀ _ _ _ => F9); (rename News h₀ _ _ _ => N9); (rename (∀ p ∈ news, p.1 < _) => l9)
  refine h _ _ _ _ _ [_, _, _, _, _, _, _, _, _, _, _, _, _, _, _, _, _, _, _, _, _, _, _, _, _, _, _, _] (List.mem_cons_self ..) ?_ ?_ F9 N9
  · walk_at "my.dat"
  · repeat' (first | exact Over.nil | refine Over.cons ?_ ?_)
    all_goals (intro z hz; have q0 : @LT.lt Nat _ z.1 _ := l9 z hz; omega)
theorem pc_call
    (B : Below A₀ base outer h₀) (F : Fr h₀ L s.heap m) (X : (Mine.k0.heap_1 w.params).In h₀) (N : News h₀ L s.heap news) (T : Top p loose mean mg mb h₀) (hf : env.frame = some L) (hke : env.scope.kind = .function)
    (hd : d < 900) (h : ∀ h' tk a vs n new, News h₀ L h' new → (a, listOf vs.toArray n) ∈ new → DatAll new vs pieceDs → Fr h₀ L h' m → News h₀ L h' news → Q (.ref a) { s with heap := h', toks := tk }) :
    wpAny (model pg w) ⟨none, d, some (env :: outer), gd, u⟩ (call (.ref 166) []) Q E s :=
  pc_callK B F X N T hf hke hd fun h' tk a vs n new hm hD _ F' N' => h h' tk a vs n new (news_re N' fun q hq => List.mem_append.mpr (.inl hq)) hm hD F' (news_re N' fun q hq => List.mem_append.mpr (.inr hq))
theorem op_call1 {e : Addr × Obj} {tn rest : List (Addr × Obj)}
    (B : Below A₀ base outer h₀) (F : Fr h₀ L s.heap m) (X : (Mine.k0.heap_1 w.params).In h₀) (N : News h₀ L s.heap (e :: (tn ++ rest))) (T : Top p loose mean mg mb h₀) (hf : env.frame = some L) (hke : env.scope.kind = .function)
    (hd : d < 900) (hne : ∀ q ∈ tn ++ rest, q.1 ≠ e.1) (h : ∀ h' tk a vs n new, (a, listOf vs.toArray n) ∈ new → DatAll new vs openDs → Over new (e :: (tn ++ rest)) → (∀ q ∈ (new ++ tn) ++ rest, q.1 ≠ e.1) → Fr h₀ L h' m → News h₀ L h' (e :: ((new ++ tn) ++ rest)) → Q (.ref a) { s with heap := h', toks := tk }) :
    wpAny (model pg w) ⟨none, d, some (env :: outer), gd, u⟩ (call (.ref 159) []) Q E s :=
  op_callK B F X N T hf hke hd fun h' tk a vs n new hm hD ho F' N' => h h' tk a vs n new hm hD ho (ne_grow1 hne ho) F' (news_re N' (sub_grow1 _ _ _ _))
theorem pc_call2 {e e2 : Addr × Obj} {tn rest : List (Addr × Obj)}
    (B : Below A₀ base outer h₀) (F : Fr h₀ L s.heap m) (X : (Mine.k0.heap_1 w.params).In h₀) (N : News h₀ L s.heap (e :: e2 :: (tn ++ rest))) (T : Top p loose mean mg mb h₀) (hf : env.frame = some L) (hke : env.scope.kind = .function)
    (hd : d < 900) (hne : ∀ q ∈ tn ++ rest, q.1 ≠ e.1) (h : ∀ h' tk a vs n new, (a, listOf vs.toArray n) ∈ new → DatAll new vs pieceDs → Over new (e :: e2 :: (tn ++ rest)) → (∀ q ∈ (new ++ tn) ++ rest, q.1 ≠ e.1) → Fr h₀ L h' m → News h₀ L h' (e :: e2 :: ((new ++ tn) ++ rest)) → Q (.ref a) { s with heap := h', toks := tk }) :
    wpAny (model pg w) ⟨none, d, some (env :: outer), gd, u⟩ (call (.ref 166) []) Q E s :=
  pc_callK B F X N T hf hke hd fun h' tk a vs n new hm hD ho F' N' => h h' tk a vs n new hm hD ho (ne_grow2 hne ho) F' (news_re N' (sub_grow2 _ _ _ _ _))
end
end Mine
namespace Mine
local macro_rules | `(tactic| k_room) => `(tactic| ((try simp only [depth_under_make, depth_under_kw, depth_in1, depth_deeper, depth_caller, recursionLimit]); omega))
local macro_rules | `(tactic| walk_at "my.mem") => `(tactic| first | with_reducible assumption | exact List.mem_cons_self .. | ((with_reducible refine List.mem_cons_of_mem _ ?_); walk_at "my.mem"))
local macro_rules | `(tactic| k_mem) => `(tactic| walk_at "my.mem")
local macro_rules | `(tactic| k_all) => `(tactic| with_reducible assumption)
local macro_rules | `(tactic| walk_at "my.enter") => `(tactic|
  (refine' code_def ?k1 ?k2 ?k3 ?k4 ?k5 ?kA ?kF ?kK ?k6 ?k7 ?k8 ?k9 ?kB ?_ ?c2 ?c3 ?c4 ?c5; (case kA => exact rfl); (case kF => assumption); (case kK => assumption); (case k1 => k_asm); (case k2 => k_asm); (case k3 => k_asm); (case k4 => k_asm); (case k5 => k_asm); (case k6 => k_is); (case k7 => k_is); (case k8 => k_room); (case k9 => first | exact BindsTo.of_eq rfl | exact binds_K (by k_in) rfl (by k_is) rfl rfl rfl | fail "k_enter: no rule for these arguments"); (case c5 => decide); (case kB => exact locs rfl); (case c2 => exact rfl); (case c3 => exact rfl); (case c4 => exact rfl); k_whole; intro g' L' h' FG' F' N' B' X' T'; (try dsimp only); (try k_lift B'); (try k_fold)))
local macro_rules | `(tactic| walk_at "call builtin:str.split") => `(tactic| (k_here; (refine' KSpl.split1 ?F ?N ?y ?_ ?z; (case F => k_asm); (case N => k_asm); (case y => decide); (case z => (rw [show sizeLine = 16777216 from rfl]; omega)); k_whole); intro D' l' h' k' e' a' F' N' l1))
local macro_rules | `(tactic| walk_at "call builtin:str.partition") => `(tactic| (k_here; (refine' part_K ?F ?N ?y ?z ?_; (case F => k_asm); (case N => k_asm); (case y => decide); (case z => (rw [show sizeLine = 16777216 from rfl]; omega)); k_whole); intro D' ta' tb' tc' h' k' a1' a2' F' N' l1; k_lt l1))
local macro_rules | `(tactic| walk_at "exec For Tuple Call cons nil") => `(tactic| (k_here; with_unfolding_all refine wpAny_For ?_ (by intro _; rfl)))
local macro_rules | `(tactic| walk_at "eval Name") => `(tactic| (k_here; k_dflt (refine' ld_hyp ?k1 ?k2 ?k3 ?_; (case k2 => with_reducible assumption); (case k1 => k_asm); (case k3 => exact rfl); k_whole)))
local macro_rules | `(tactic| walk_at "call builtin:list.append") => `(tactic| (k_here; (with_reducible show wpAny _ _ (call (Value.builtin _) [Value.ref _, _]) _ _ _); k_dflt (refine' append_K ?k1 ?k2 ?k3 ?_ ?z; (case k1 => k_asm); (case k2 => k_asm); (case k3 => k_upd); (case z => ((simp only [List.size_toArray, List.length_append, List.length_cons, List.length_nil]); (rw [show sizeLine = 16777216 from rfl]); omega)); k_whole); intro h' F' N'; (try k_sweep)))
local macro_rules | `(tactic| walk_at "ite") => `(tactic| ((with_reducible show ite ((!(List.isEmpty _)) = true) _ _); k_dflt (refine ite_pos rfl ?_)))
local macro_rules | `(tactic| walk_at "exec Break") => `(tactic| (exfalso; omega))
local macro_rules | `(tactic| walk_at "truthy ref") => `(tactic| (k_here; k_dflt (refine' truthy_L ?F ?m ?z ?_; (case F => k_asm); (case m => k_mem); (case z => omega); k_whole); intro tk'))
local macro_rules | `(tactic| walk_at "compareOp In str ref") => `(tactic| (k_here; k_dflt (refine' in_ka ?F ?m ?_; (case F => k_asm); (case m => k_mem); k_whole)))
theorem stripQ_len (x : Str) : (stripQ x).length ≤ x.length := by
  unfold stripQ
  have h1 : ∀ (z : Str), (Txt.slice z (some 1) none).length ≤ z.length := fun z => Txt.slice_le z _ _
  have h2 : ∀ (z : Str), (Txt.slice z none (some (-1))).length ≤ z.length := fun z => Txt.slice_le z _ _
  have q1 := h1 x
  have q2 := h2 x
  have q3 := h2 (Txt.slice x (some 1) none)
  dsimp only
  split <;> split <;> omega
section
variable {w : World} {d u : Nat} {gd : Option (List Code)} {A₀ : Around} {E : Value → Shared → Prop} {s : Shared} {base h₀ : Heap} {outer : List Env} {env : Env} {L : Addr} {m mg mb : Str → Option Value} {news : List (Addr × Obj)} {p : Program} {loose : List Str} {mean : ExcName → Option Value} {Q : Value → Shared → Prop}
theorem sq_end {x y : Str} {t' : Tok} {h' : Heap} {tk : Nat} (h : ∀ h' tk t', (stripQ x).length ≤ x.length → Fr h₀ L h' m → News h₀ L h' news → Q (.str (stripQ x) t') { s with heap := h', toks := tk }) (hy : stripQ x = y) (F : Fr h₀ L h' m) (N : News h₀ L h' news) :
    Q (.str y t') { s with heap := h', toks := tk } := hy ▸ h h' tk t' (stripQ_len x) F N
theorem sq_call {x : Str} {t : Tok}
    (B : Below A₀ base outer h₀) (F : Fr h₀ L s.heap m) (X : (Mine.k0.heap_1 w.params).In h₀) (N : News h₀ L s.heap news) (T : Top p loose mean mg mb h₀) (hf : env.frame = some L) (hke : env.scope.kind = .function)
    (hd : d < 900) (hx : x.length ≤ 100000) (h : ∀ h' tk t', (stripQ x).length ≤ x.length → Fr h₀ L h' m → News h₀ L h' news → Q (.str (stripQ x) t') { s with heap := h', toks := tk }) :
    wpAny (model pg w) ⟨none, d, some (env :: outer), gd, u⟩ (call (.ref 145) [.str x t]) Q E s := by
  refine wpAny_call ?_
  walk_at "my.enter"
  k_steps
  all_goals (refine sq_end h ?_ (by assumption) (by assumption); simp [stripQ, *])
local macro_rules | `(tactic| walk_at "call ref") => `(tactic| (k_here; (k_dflt (refine' sq_call ?B ?F ?X ?N ?T ?hf ?hke ?hd ?hx ?_; (case B => k_asm); (case F => k_asm); (case X => k_asm); (case N => k_asm); (case T => k_asm); (case hf => exact rfl); (case hke => exact rfl); (case hd => ((try simp only [depth_deeper]); (try dsimp only); omega)); (case hx => omega); k_whole)); intro h' tk' t' q' F' N'; (try k_sweep)))
/-- the dates are not reached -/
local macro_rules | `(tactic| walk_at "eval Name") => `(tactic| ((with_reducible show wpAny _ _ (eval (Expr.Name (PySem.Str.ofString "http2time") _) _) _ _ _); exfalso; walk_at "my.nodates"))
local macro_rules | `(tactic| walk_at "my.nodates") => `(tactic| (refine nodates (by assumption) (by assumption) ?_; unfold key1 keyOf; first | (rw [if_pos (by assumption)]; exact eq_of_beq (by assumption)) | (rw [if_neg (by simp [*])]; exact eq_of_beq (by assumption))))
theorem pn_call {l : Addr} {vs : List Value} {n : Nat} {hs : List Str}
    (B : Below A₀ base outer h₀) (F : Fr h₀ L s.heap m) (X : (Mine.k0.heap_1 w.params).In h₀) (N : News h₀ L s.heap news) (T : Top p loose mean mg mb h₀) (hf : env.frame = some L) (hke : env.scope.kind = .function)
    (hd : d < 800) (hu : u < 500) (hl : (l, listOf vs.toArray n) ∈ news) (hvs : StrsAre vs hs) (hlen : ∀ x ∈ hs, x.length ≤ 2000) (hcount : hs.length ≤ 1000) (hex : ∀ x ∈ hs, ∀ y ∈ (Txt.split x (Str.ofString ";")).tail, expOk y)
    (h : ∀ h' tk v new, Fr h₀ L h' m → News h₀ L h' (new ++ news) → DatIn new v (.list (allD hs)) → Over new news → Q v { s with heap := h', toks := tk }) :
    wpAny (model pg w) ⟨none, d, some (env :: outer), gd, u⟩ (call (.ref 152) [.ref l]) Q E s := by
  refine wpAny_call ?_
  walk_at "my.enter"
  k_steps
  rename_i tk0 D _ l1 _ r _ l2 h1 F1 N1
  have hrest1 : ∀ z ∈ (D, kaObj tk0) :: news, @LT.lt Nat _ z.1 r := by
    intro z hz
    rcases List.mem_cons.mp hz with e | hz
    · rw [e]; exact l2.1
    · exact allLt_out l2.2 z hz
  obtain ⟨rest0, hr0⟩ : ∃ z, z = (D, kaObj tk0) :: news := ⟨_, rfl⟩
  have hl0 : (l, listOf vs.toArray n) ∈ rest0 := hr0 ▸ List.mem_cons_of_mem _ hl
  have hka0 : (D, kaObj tk0) ∈ rest0 := hr0 ▸ List.mem_cons_self ..
  replace N1 := news_re (news' := (r, listOf [].toArray 0) :: ([] ++ rest0)) N1 (by rw [hr0]; exact fun _ h => h)
  rw [← hr0] at hrest1
  with_unfolding_all refine For_invVF F1 rfl rfl ?_
  walk1
  with_unfolding_all refine kdl_iter (news := (r, listOf [].toArray 0) :: ([] ++ rest0)) (Jout r D rest0 (fun i => allD (hs.take i))) ?hh (List.mem_cons_of_mem _ hl0) F1 N1 ?init ?turn ?done
  case hh => exact rfl
  case init => exact ⟨[], 0, [], rfl, Over.nil, fun _ h => (nomatch h), DatAll.nil, Nat.le_refl _, rfl, rfl⟩
  case done =>
    rintro m₁ news₁ h2 tk2 ⟨rs, k, tn, rfl, hov, hrt, hD, hlen1, mr, mk⟩ F2 N2
    k_steps
    have hD' : DatAll tn rs (allD hs) := by
      have e : vs.length = hs.length := hvs.length
      have q : DatAll tn rs (allD (hs.take vs.length)) := hD
      rw [e, List.take_length] at q
      exact q
    refine h _ _ _ ((r, listOf rs.toArray k) :: tn) (by assumption) (news_re (by assumption) ?_) (DatIn.list (List.mem_cons_self ..) (hD'.mono fun q hq => List.mem_cons_of_mem _ hq)) ?_
    · intro q hq
      rcases List.mem_cons.mp hq with e | hq
      · rw [e]; exact List.mem_cons_self ..
      · rcases List.mem_append.mp hq with hq | hq
        · exact List.mem_cons_of_mem _ (List.mem_append.mpr (.inl hq))
        · exact List.mem_cons_of_mem _ (List.mem_append.mpr (.inr (hr0 ▸ List.mem_cons_of_mem _ hq)))
    · refine Over.cons (fun z hz => hrest1 z (hr0 ▸ List.mem_cons_of_mem _ hz)) (hov.mono fun z hz => hr0 ▸ List.mem_cons_of_mem _ hz)
  case turn =>
    rintro i v m₁ news₁ h2 tk2 own hv hoff hl' ⟨rs, k, tn, rfl, hov, hrt, hD, hlen1, mr, mk⟩ F2 N2
    have hi : i < hs.length := by rw [← hvs.length]; exact (List.getElem?_eq_some_iff.mp hv).1
    obtain ⟨t, hx⟩ := hvs.get i hs[i] (List.getElem?_eq_getElem hi)
    rw [hx] at hv
    cases hv
    have hxl : hs[i].length ≤ 2000 := hlen _ (List.getElem_mem hi)
    have hxe := hex _ (List.getElem_mem hi)
    have hxi : hs[i]? = some hs[i] := List.getElem?_eq_getElem hi
    generalize hs[i] = x at hxl hxe hxi hx F2
    simp only [List.cons_append, List.append_assoc] at N2
    have hro : ∀ q ∈ tn ++ (rest0 ++ own), q.1 ≠ r := by
      intro q hq
      rcases List.mem_append.mp hq with hq | hq
      · exact Nat.ne_of_gt (hrt q hq)
      · rcases List.mem_append.mp hq with hq | hq
        · exact Nat.ne_of_lt (hrest1 q hq)
        · exact hoff q hq r (List.mem_cons_self ..)
    k_steps
    rename_i p h3a F3 N3 l1p h3b h3c F3c N3c D' sl h3 tk3 hsl hsa F4 N4 l4
    have hprest : ∀ z ∈ (r, listOf rs.toArray k) :: (tn ++ (rest0 ++ own)), @LT.lt Nat _ z.1 p := by
      intro z hz
      rcases List.mem_cons.mp hz with e | hz
      · rw [e]; exact l1p.1
      · exact allLt_out l1p.2 z hz
    have hrp : @LT.lt Nat _ r p := l1p.1
    obtain ⟨rest2, hr2⟩ : ∃ z, z = (D', listOf (strValues sl).toArray 0) :: (tn ++ (rest0 ++ own)) := ⟨_, rfl⟩
    have hl2 : (D', listOf (strValues sl).toArray 0) ∈ rest2 := hr2 ▸ List.mem_cons_self ..
    have hka2 : (D, kaObj tk0) ∈ rest2 := hr2 ▸ List.mem_cons_of_mem _ (List.mem_append.mpr (.inr (List.mem_append.mpr (.inl hka0))))
    have hD'p : @LT.lt Nat _ p D' := l4 _ (List.mem_cons_self ..)
    have hD'r : @LT.lt Nat _ r D' := l4 _ (List.mem_cons_of_mem _ (List.mem_cons_self ..))
    have hp2 : ∀ z ∈ rest2, z.1 ≠ p := by
      rw [hr2]; intro z hz
      rcases List.mem_cons.mp hz with e | hz
      · rw [e]; exact Nat.ne_of_gt hD'p
      · exact Nat.ne_of_lt (hprest z (List.mem_cons_of_mem _ hz))
    have hr2' : ∀ z ∈ rest2, z.1 ≠ r := by
      rw [hr2]; intro z hz
      rcases List.mem_cons.mp hz with e | hz
      · rw [e]; exact Nat.ne_of_gt hD'r
      · exact hro z hz
    replace N4 := news_re (news' := (p, listOf [].toArray 0) :: (r, listOf rs.toArray k) :: ([] ++ rest2)) N4 (by
      rw [hr2]; intro q hq
      simp only [List.mem_cons, List.nil_append] at hq ⊢
      rcases hq with h | h | h | h
      · exact .inr (.inl h)
      · exact .inr (.inr (.inl h))
      · exact .inl h
      · exact .inr (.inr (.inr h)))
    with_unfolding_all refine enum_loop (l := D') (vs := strValues sl) (nn := 0) (news := (p, listOf [].toArray 0) :: (r, listOf rs.toArray k) :: ([] ++ rest2)) (Jin p r (listOf rs.toArray k) D rest2 (fun i => runHdr ((Txt.split x (Str.ofString ";")).take i))) ?hE2 ?hh2 rfl rfl rfl (List.mem_cons_of_mem _ (List.mem_cons_of_mem _ hl2)) F4 N4 ?init2 ?turn2 ?done2
    case hE2 => passes_own
    case hh2 => exact rfl
    case init2 => exact ⟨[], 0, [], [], false, rfl, rfl, Over.nil, fun _ h => (nomatch h), DatAll.nil, Nat.le_refl _, rfl, rfl, mr, mk⟩
    case done2 =>
      rintro m2 news2 h4 tk4 ⟨ps, k2, tn2, ds2, b2, hP2, rfl, hov2, htn2, hD2, hlen2, m2p, m2v, m2r, m2k⟩ F5 N5
      have hP3 : runHdr (Txt.split x (Str.ofString ";")) = some (ds2, b2) := by
        have e : (strValues sl).length = (Txt.split x (Str.ofString ";")).length := by rw [← hsl]; exact hsa.length
        have q := hP2
        simp only [e, List.take_length] at q
        exact q
      have hpl : ps.length = ds2.length := hD2.length
      have hsl2 : (strValues sl).length ≤ 2002 := by
        have e : (strValues sl).length = (Txt.split x (Str.ofString ";")).length := by rw [← hsl]; exact hsa.length
        have q := split_le x (Str.ofString ";")
        omega
      have hrl : rs.length ≤ 1000 := by rw [hD.length]; omega
      have hqp : ∀ q ∈ tn2 ++ rest2, q.1 ≠ p := by
        intro q hq
        rcases List.mem_append.mp hq with hq | hq
        · exact Nat.ne_of_gt (htn2 q hq).2
        · exact hp2 q hq
      have hqr : ∀ q ∈ tn2 ++ rest2, q.1 ≠ r := by
        intro q hq
        rcases List.mem_append.mp hq with hq | hq
        · exact Nat.ne_of_gt (htn2 q hq).1
        · exact hr2' q hq
      have hold9 : ∀ q ∈ tn ++ (rest0 ++ own), q ∈ rest2 := fun q hq => hr2 ▸ List.mem_cons_of_mem _ hq
      have hpo9 : ∀ z ∈ tn ++ (rest0 ++ own), @LT.lt Nat _ z.1 p := fun z hz => hprest z (List.mem_cons_of_mem _ hz)
      cases ps with
      | nil =>
        have hnone : hdrD x = none := by
          unfold hdrD; rw [hP3]
          cases hD2; rfl
        have hP' : allD (hs.take (i + 1)) = allD (hs.take i) := by rw [allD_take hxi, hnone]; simp
        k_steps
        refine out_end (rs := rs) (k := k) [] (by assumption) (by assumption) hl0 hoff ?hr (fun _ h => nomatch h) ?hold Over.nil (fun _ h => nomatch h) hov hrt ?hD ?hlen (by assumption) (by assumption)
        case hr => exact List.mem_cons_of_mem _ (List.mem_cons_self ..)
        case hold => exact fun q hq => List.mem_cons_of_mem _ (List.mem_cons_of_mem _ (List.mem_append.mpr (.inr (hold9 q hq))))
        case hD => exact hP'.symm ▸ hD
        case hlen => exact hP'.symm ▸ Nat.le_succ_of_le hlen1
      | cons v0 ps =>
        have hne : ds2.isEmpty = false := by cases hD2; rfl
        cases b2 with
        | true =>
          have hP' : allD (hs.take (i + 1)) = allD (hs.take i) ++ [.list ds2] := by
            rw [allD_take hxi]; unfold hdrD; rw [hP3]; simp [hne]
          k_steps
          refine' out_app tn2 (by assumption) (by assumption) hl0 hoff ?hr ?hp ?hadd hold9 ?hold2 hov2 (fun q hq => (htn2 q hq).1) hpo9 hrp hov hrt hD hD2 hP' hlen1 (by assumption) (by assumption)
          case hr => exact List.mem_cons_of_mem _ (List.mem_cons_self ..)
          case hp => exact List.mem_cons_self ..
          case hadd => exact fun q hq => List.mem_cons_of_mem _ (List.mem_cons_of_mem _ (List.mem_append.mpr (.inl hq)))
          case hold2 => exact fun q hq => List.mem_cons_of_mem _ (List.mem_cons_of_mem _ (List.mem_append.mpr (.inr hq)))
        | false =>
          have hP' : allD (hs.take (i + 1)) = allD (hs.take i) ++ [.list (ds2 ++ [pairD (Str.ofString "version") (some (Str.ofString "0"))])] := by
            rw [allD_take hxi]; unfold hdrD; rw [hP3]; simp [hne]
          k_steps
          exact out_app2 (by assumption) (by assumption) (by assumption) pair_str hl0 hoff hold9 hov2 htn2 hpo9 hrp hov hrt hD hD2 hP' hlen1 (by assumption) (by assumption)
    case turn2 =>
      rintro i2 v2 t2 m2 news2 h4 tk4 own2 hv2 hoff2 hl2' ⟨ps, k2, tn2, ds2, b2, hP2, rfl, hov2, htn2, hD2, hlen2, m2p, m2v, m2r, m2k⟩ F5 N5
      have hi2 : i2 < (sl.map (·.1)).length := by rw [← hsa.length]; exact (List.getElem?_eq_some_iff.mp hv2).1
      obtain ⟨ty, hy⟩ := hsa.get i2 _ (List.getElem?_eq_getElem hi2)
      rw [hy] at hv2
      cases hv2
      have hyi : (Txt.split x (Str.ofString ";"))[i2]? = some ((sl.map (·.1))[i2]) := by rw [← hsl]; exact List.getElem?_eq_getElem hi2
      generalize (sl.map (·.1))[i2] = y at hy hyi F5
      have hyl : y.length ≤ 2000 := Nat.le_trans (part_short (List.mem_of_getElem? hyi)) hxl
      have hi2' : i2 ≤ 2002 := by
        have e : (sl.map (·.1)).length = (Txt.split x (Str.ofString ";")).length := by rw [hsl]
        have q := split_le x (Str.ofString ";")
        omega
      have hpl : ps.length = ds2.length := hD2.length
      simp only [List.cons_append, List.append_assoc] at N5
      have hka3 : (D, kaObj tk0) ∈ tn2 ++ (rest2 ++ own2) := List.mem_append.mpr (.inr (List.mem_append.mpr (.inl hka2)))
      have hqp : ∀ q ∈ tn2 ++ (rest2 ++ own2), q.1 ≠ p := by
        intro q hq
        rcases List.mem_append.mp hq with hq | hq
        · exact Nat.ne_of_gt (htn2 q hq).2
        · rcases List.mem_append.mp hq with hq | hq
          · exact hp2 q hq
          · exact hoff2 q hq p (List.mem_cons_self ..)
      have hee : ¬ i2 = 0 → expOk y := fun hne => hxe y (by
        cases i2 with
        | zero => exact absurd rfl hne
        | succ n =>
          have : (Txt.split x (Str.ofString ";")).tail[n]? = some y := by rw [List.getElem?_tail]; exact hyi
          exact List.mem_of_getElem? this)
      by_cases hi0 : i2 = 0
      · subst hi0
        have e0 : ds2 = [] ∧ b2 = false := by
          have := hP2; simp [runHdr, runFrom] at this; exact this
        obtain ⟨rfl, rfl⟩ := e0
        have hps : ps = [] := by cases hD2; rfl
        subst hps
        k_steps
        · ((rename Fr _ _ _ _ => F9); (rename News _ _ _ _ => N9); exact in_end_put F9 N9 hl2 hoff2 (by assumption) pair_str (rk_first_some hyi hP2 (by assumption) (by assumption)) hov2 htn2 hD2 hlen2 m2p m2v m2r m2k)
        · ((rename Fr _ _ _ _ => F9); (rename News _ _ _ _ => N9); exact in_end_put F9 N9 hl2 hoff2 (by assumption) pair_none (rk_first_none hyi hP2 (by assumption) (by assumption)) hov2 htn2 hD2 hlen2 m2p m2v m2r m2k)
        · have hnone : hdrD x = none := by
            unfold hdrD; rw [runHdr_break hyi (by assumption)]
          have hP' : allD (hs.take (i + 1)) = allD (hs.take i) := by rw [allD_take hxi, hnone]; simp
          refine out_end (rs := rs) (k := k) [] (by assumption) (by assumption) hl0 hoff ?br (fun _ h => nomatch h) ?bold Over.nil (fun _ h => nomatch h) hov hrt ?bD ?blen (by assumption) (by assumption)
          case br => exact List.mem_cons_of_mem _ (List.mem_cons_of_mem _ (List.mem_cons_self ..))
          case bold => exact fun q hq => List.mem_cons_of_mem _ (List.mem_cons_of_mem _ (List.mem_cons_of_mem _ (List.mem_append.mpr (.inr (List.mem_append.mpr (.inl (hr2 ▸ List.mem_cons_of_mem _ hq)))))))
          case bD => exact hP'.symm ▸ hD
          case blen => exact hP'.symm ▸ Nat.le_succ_of_le hlen1
      · have hee' := hee hi0
        k_steps
        all_goals (try (exfalso; omega))
        all_goals (rename Fr _ _ _ _ => F9)
        all_goals (rename News _ _ _ _ => N9)
        all_goals first
          | ((with_reducible have q9 := shp_skip N9); exact in_end_skip F9 N9 hl2 hoff2 (rk_skip hyi hP2 hi0 (by assumption)) hov2 htn2 hD2 hlen2 m2p m2v m2r m2k)
          | ((with_reducible have q9 := shp_some N9); first | ((with_reducible have q8 := flag_k_ver (y := y) (by assumption) (by assumption)); exact in_end_put F9 N9 hl2 hoff2 (by assumption) pair_str (rk_k_ver_some hyi hP2 hi0 (by with_reducible assumption) (by with_reducible assumption) (by with_reducible assumption) (by with_reducible assumption)) hov2 htn2 hD2 hlen2 m2p rfl m2r m2k) | ((with_reducible have q8 := flag_k_oth (y := y) (by assumption) (by assumption)); exact in_end_put F9 N9 hl2 hoff2 (by assumption) pair_str (rk_k_oth_some hyi hP2 hi0 (by with_reducible assumption) (by with_reducible assumption) (by with_reducible assumption) (by with_reducible assumption)) hov2 htn2 hD2 hlen2 m2p m2v m2r m2k) | ((with_reducible have q8 := flag_u_ver (y := y) (by assumption) (by assumption)); exact in_end_put F9 N9 hl2 hoff2 (by assumption) pair_str (rk_u_ver_some hyi hP2 hi0 (by with_reducible assumption) (by with_reducible assumption) (by with_reducible assumption) (by with_reducible assumption)) hov2 htn2 hD2 hlen2 m2p rfl m2r m2k) | ((with_reducible have q8 := flag_u_oth (y := y) (by assumption) (by assumption)); exact in_end_put F9 N9 hl2 hoff2 (by assumption) pair_str (rk_u_oth_some hyi hP2 hi0 (by with_reducible assumption) (by with_reducible assumption) (by with_reducible assumption) (by with_reducible assumption)) hov2 htn2 hD2 hlen2 m2p m2v m2r m2k))
          | ((with_reducible have q9 := shp_none N9); first | ((with_reducible have q8 := flag_k_ver (y := y) (by assumption) (by assumption)); exact in_end_put F9 N9 hl2 hoff2 (by assumption) pair_none (rk_k_ver_none hyi hP2 hi0 (by with_reducible assumption) (by with_reducible assumption) (by with_reducible assumption) (by with_reducible assumption)) hov2 htn2 hD2 hlen2 m2p rfl m2r m2k) | ((with_reducible have q8 := flag_k_oth (y := y) (by assumption) (by assumption)); exact in_end_put F9 N9 hl2 hoff2 (by assumption) pair_none (rk_k_oth_none hyi hP2 hi0 (by with_reducible assumption) (by with_reducible assumption) (by with_reducible assumption) (by with_reducible assumption)) hov2 htn2 hD2 hlen2 m2p m2v m2r m2k) | ((with_reducible have q8 := flag_u_ver (y := y) (by assumption) (by assumption)); exact in_end_put F9 N9 hl2 hoff2 (by assumption) pair_none (rk_u_ver_none hyi hP2 hi0 (by with_reducible assumption) (by with_reducible assumption) (by with_reducible assumption) (by with_reducible assumption)) hov2 htn2 hD2 hlen2 m2p rfl m2r m2k) | ((with_reducible have q8 := flag_u_oth (y := y) (by assumption) (by assumption)); exact in_end_put F9 N9 hl2 hoff2 (by assumption) pair_none (rk_u_oth_none hyi hP2 hi0 (by with_reducible assumption) (by with_reducible assumption) (by with_reducible assumption) (by with_reducible assumption)) hov2 htn2 hD2 hlen2 m2p m2v m2r m2k))
end
end Mine
namespace Mine
local macro_rules | `(tactic| k_room) => `(tactic| ((try simp only [depth_under_make, depth_under_kw, depth_in1, depth_deeper, depth_caller, recursionLimit]); omega))
local macro_rules | `(tactic| walk_at "my.mem") => `(tactic| first | with_reducible assumption | exact List.mem_cons_self .. | ((with_reducible refine List.mem_cons_of_mem _ ?_); walk_at "my.mem"))
local macro_rules | `(tactic| k_mem) => `(tactic| walk_at "my.mem")
local macro_rules | `(tactic| k_all) => `(tactic| with_reducible assumption)
local macro_rules | `(tactic| walk_at "my.enter") => `(tactic|
  (refine' code_def ?k1 ?k2 ?k3 ?k4 ?k5 ?kA ?kF ?kK ?k6 ?k7 ?k8 ?k9 ?kB ?_ ?c2 ?c3 ?c4 ?c5; (case kA => exact rfl); (case kF => assumption); (case kK => assumption); (case k1 => k_asm); (case k2 => k_asm); (case k3 => k_asm); (case k4 => k_asm); (case k5 => k_asm); (case k6 => k_is); (case k7 => k_is); (case k8 => k_room); (case k9 => first | exact BindsTo.of_eq rfl | exact binds_K (by k_in) rfl (by k_is) rfl rfl rfl | fail "k_enter: no rule for these arguments"); (case c5 => decide); (case kB => exact locs rfl); (case c2 => exact rfl); (case c3 => exact rfl); (case c4 => exact rfl); k_whole; intro g' L' h' FG' F' N' B' X' T'; (try dsimp only); (try k_lift B'); (try k_fold)))
local macro_rules | `(tactic| walk_at "eval Name") => `(tactic| (k_here; k_dflt (refine' ld_hyp ?k1 ?k2 ?k3 ?_; (case k2 => with_reducible assumption); (case k1 => k_asm); (case k3 => exact rfl); k_whole)))
local macro_rules | `(tactic| walk_at "call builtin:list.append") => `(tactic| (k_here; (with_reducible show wpAny _ _ (call (Value.builtin _) [Value.ref _, _]) _ _ _); k_dflt (refine' append_K ?k1 ?k2 ?k3 ?_ ?z; (case k1 => k_asm); (case k2 => k_asm); (case k3 => k_upd); (case z => ((simp only [List.size_toArray, List.length_append, List.length_cons, List.length_nil]); (rw [show sizeLine = 16777216 from rfl]); omega)); k_whole); intro h' F' N'; (try k_sweep)))
local macro_rules | `(tactic| walk_at "call ref") => `(tactic| (k_here; k_dflt (refine' op_call ?B ?F ?X ?N ?T ?hf ?hke ?hd ?_; (case B => k_asm); (case F => k_asm); (case X => k_asm); (case N => k_asm); (case T => k_asm); (case hf => exact rfl); (case hke => exact rfl); (case hd => ((try simp only [depth_deeper]); (try dsimp only); omega)); k_whole); intro h' tk' a' vs' n' new' Nw' hm' hD' F' N'; (try k_sweep)))
local macro_rules | `(tactic| walk_at "call ref") => `(tactic| (k_here; k_dflt (refine' pc_call ?B ?F ?X ?N ?T ?hf ?hke ?hd ?_; (case B => k_asm); (case F => k_asm); (case X => k_asm); (case N => k_asm); (case T => k_asm); (case hf => exact rfl); (case hke => exact rfl); (case hd => ((try simp only [depth_deeper]); (try dsimp only); omega)); k_whole); intro h' tk' a' vs' n' new' Nw' hm' hD' F' N'; (try k_sweep)))
local macro_rules | `(tactic| walk_at "subscriptTail") => `(tactic| (k_here; (with_reducible show wpAny _ _ (subscriptTail _ _ (Value.ref _) (Value.int _ _)) _ _ _); k_dflt (refine' tab_item ?N ?m ?D ?a ?b ?c ?_; (case D => with_reducible assumption); (case m => with_reducible assumption); (case N => with_reducible assumption); (case a => omega); (case b => (simp only [openL, pieceL, List.length_cons, List.length_nil]; omega)); (case c => decide); k_whole); intro a' tx' vt' n2' hT' hm2' hV'))
local macro_rules | `(tactic| walk_at "subscriptTail") => `(tactic| (k_here; (with_reducible show wpAny _ _ (subscriptTail _ _ (Value.ref _) (Value.int _ _)) _ _ _); k_dflt (refine' item_tupleT ?t ?a ?b ?c ?d ?_; (case t => with_reducible assumption); (case a => decide); (case b => decide); (case c => rfl); (case d => rfl); k_whole)))
local macro_rules | `(tactic| walk_at "subscriptTail") => `(tactic| (k_here; (with_reducible show wpAny _ _ (subscriptTail _ _ (Value.ref _) (Value.int _ _)) _ _ _); k_dflt (refine' lst_item ?N ?m ?a ?b ?c ?_; (case N => k_asm); (case m => k_mem); (case a => decide); (case b => decide); (case c => rfl); k_whole)))
local macro_rules | `(tactic| walk_at "exec For Name Subscript cons nil") => `(tactic| (k_here; (rename Fr _ _ _ _ => lF'); (with_unfolding_all refine' For_invVF lF' ?k1 ?k2 ?_; (case k1 => exact rfl); (case k2 => exact rfl); k_whole)))
local macro_rules | `(tactic| walk_at "call builtin:isinstance") => `(tactic| (k_here; (with_reducible show wpAny _ _ (call _ [Value.ref _, Value.type "int"]) _ _ _); k_dflt (refine' isi_tup_int ?N ?m ?_; (case N => k_asm); (case m => k_mem); k_whole); intro tk'))
local macro_rules | `(tactic| walk_at "call builtin:str.join") => `(tactic| (k_here; (with_reducible show wpAny _ _ (call (Value.builtin "str.join") [Value.str _ _, Value.ref _]) _ _ _); k_dflt (refine' join_L ?N ?m ?i ?a ?b ?_; (case i => with_reducible assumption); (case N => k_asm); (case m => k_mem); (case a => decide); (case b => with_reducible assumption); k_whole); intro t' k'))
section
variable {w : World} {d u : Nat} {gd : Option (List Code)} {A₀ : Around} {E : Value → Shared → Prop} {s : Shared} {base h₀ : Heap} {outer : List Env} {env : Env} {L : Addr} {m mg mb : Str → Option Value} {news : List (Addr × Obj)} {p : Program} {loose : List Str} {mean : ExcName → Option Value} {Q : Value → Shared → Prop}
theorem fh_call {ta ra : Addr} {nt nr : Nat} {k : Nat} {tk0 : Tok} {rvs : List Value} {rows : List Row}
    (B : Below A₀ base outer h₀) (F : Fr h₀ L s.heap m) (X : (Mine.k0.heap_1 w.params).In h₀) (N : News h₀ L s.heap news) (T : Top p loose mean mg mb h₀) (hf : env.frame = some L) (hke : env.scope.kind = .function)
    (hd : d < 800) (hta : (ta, listOf [Value.int (k : Int) tk0, .ref ra].toArray nt) ∈ news) (hra : (ra, listOf rvs.toArray nr) ∈ news) (hk : k < 7) (hrows : DatAll news rvs (rows.map rowD)) (hok : ∀ r ∈ rows, r.ok) (hlen : rows.length ≤ 13)
    (h : ∀ h' tk t', Fr h₀ L h' m → News h₀ L h' news → Q (.str (fhText k rows) t') { s with heap := h', toks := tk }) :
    wpAny (model pg w) ⟨none, d, some (env :: outer), gd, u⟩ (call (.ref 180) [.ref ta]) Q E s := by
  refine wpAny_call ?_
  walk_at "my.enter"
  k_steps
  rename_i a9 tx9 vt9 n9 hT9 hm9 hV9 q _ l1 h1 F1 N1
  have hq1 : ∀ z ∈ news, z.1 ≠ q := fun z hz => Nat.ne_of_lt (l1 z hz)
  with_unfolding_all refine kdl_iter (l := ra) (vs := rvs) (nn := nr) (news := (q, listOf [Value.str (openE k).1 tx9].toArray 0) :: news) (Jtx q news (fun i => (openE k).1 :: (rows.take i).map rowText)) ?hh (List.mem_cons_of_mem _ hra) F1 N1 ?init ?turn ?done
  case hh => exact rfl
  case init => exact ⟨_, _, rfl, .cons _ _ .nil, rfl⟩
  case done =>
    rintro m₁ news₁ h2 tk2 ⟨vs, kk, rfl, hvs, mp⟩ F2 N2
    have hvs9 : StrsAre vs ((openE k).1 :: rows.map rowText) := by
      have e := hrows.length
      rw [List.length_map] at e
      have q := hvs
      simp only [e, List.take_length] at q
      exact q
    have hw9 : ((((openE k).1 :: rows.map rowText)).map (·.length)).sum + ((openE k).1 :: rows.map rowText).length ≤ 1048576 := by
      have q := sum_len_le (B := 60) ((openE k).1 :: rows.map rowText) (by
        intro x hx
        rcases List.mem_cons.mp hx with e | hx
        · rw [e]; exact openE_len k
        · obtain ⟨r, hr, e⟩ := List.mem_map.mp hx
          rw [← e]; exact rowText_len (hok r hr))
      have e : ((openE k).1 :: rows.map rowText).length = rows.length + 1 := by simp
      rw [e] at q ⊢
      omega
    k_steps
    (rename Fr h₀ _ _ _ => F9); (rename News h₀ _ _ _ => N9)
    exact h _ _ _ F9 (news_re N9 fun q hq => List.mem_cons_of_mem _ hq)
  case turn =>
    rintro i v m₁ news₁ h2 tk2 own hv hoff hl' ⟨vs, kk, rfl, hvs, mp⟩ F2 N2
    have hi : i < rows.length := by
      have e := hrows.length
      rw [List.length_map] at e
      rw [← e]; exact (List.getElem?_eq_some_iff.mp hv).1
    obtain ⟨v', hv', hD⟩ := hrows.get (k := i) (by rw [List.length_map]; exact hi)
    rw [hv] at hv'
    cases hv'
    rw [List.getElem_map] at hD
    have hro := hok _ (List.getElem_mem hi)
    have hxs : (rows.take (i + 1)).map rowText = (rows.take i).map rowText ++ [rowText rows[i]] := by
      rw [List.take_add_one, List.getElem?_eq_getElem hi, List.map_append]; rfl
    generalize rows[i] = r at hD hro hxs
    have hxs9 : (openE k).1 :: (rows.take (i + 1)).map rowText = ((openE k).1 :: (rows.take i).map rowText) ++ [rowText r] := by rw [hxs]; rfl
    have hlv : vs.length ≤ 20 := by rw [hvs.length]; simp; omega
    simp only [List.cons_append] at N2
    have hq2 : ∀ z ∈ news ++ own, z.1 ≠ q := by
      intro z hz
      rcases List.mem_append.mp hz with hz | hz
      · exact hq1 z hz
      · exact hoff z hz q (List.mem_cons_self ..)
    cases r with
    | bare =>
      cases hD
      k_steps
      (rename Fr _ _ _ _ => F9); (rename News _ _ _ _ => N9)
      exact tx_end F9 N9 hra hoff hvs hxs9 mp
    | piece j =>
      cases hD
      simp only [Row.ok] at hro
      k_steps
      (rename Fr _ _ _ _ => F9); (rename News _ _ _ _ => N9)
      exact tx_end F9 N9 hra hoff hvs hxs9 mp
    | ver a c b =>
      cases hD with
      | tuple hm1 hD =>
        cases hD with
        | cons h1 hD =>
          cases h1
          cases hD with
          | cons h1 hD =>
            cases h1
            cases hD with
            | cons h1 hD =>
              cases h1
              cases hD
              obtain ⟨ha, hc, hb⟩ := hro
              have hcl : c.length ≤ 3 := core_len hc
              have hm2 := List.mem_append_left own hm1
              k_steps
              (rename Fr _ _ _ _ => F9); (rename News _ _ _ _ => N9)
              exact tx_end F9 N9 hra hoff hvs hxs9 mp
end
end Mine
namespace Mine
local macro_rules | `(tactic| k_room) => `(tactic| ((try simp only [depth_under_make, depth_under_kw, depth_in1, depth_deeper, depth_caller, recursionLimit]); omega))
local macro_rules | `(tactic| walk_at "my.mem") => `(tactic| first | with_reducible assumption | exact List.mem_cons_self .. | ((with_reducible refine List.mem_cons_of_mem _ ?_); walk_at "my.mem"))
local macro_rules | `(tactic| k_mem) => `(tactic| walk_at "my.mem")
local macro_rules | `(tactic| k_all) => `(tactic| with_reducible assumption)
local macro_rules | `(tactic| walk_at "my.enter") => `(tactic|
  (refine' code_def ?k1 ?k2 ?k3 ?k4 ?k5 ?kA ?kF ?kK ?k6 ?k7 ?k8 ?k9 ?kB ?_ ?c2 ?c3 ?c4 ?c5; (case kA => exact rfl); (case kF => assumption); (case kK => assumption); (case k1 => k_asm); (case k2 => k_asm); (case k3 => k_asm); (case k4 => k_asm); (case k5 => k_asm); (case k6 => k_is); (case k7 => k_is); (case k8 => k_room); (case k9 => first | exact BindsTo.of_eq rfl | exact binds_K (by k_in) rfl (by k_is) rfl rfl rfl | fail "k_enter: no rule for these arguments"); (case c5 => decide); (case kB => exact locs rfl); (case c2 => exact rfl); (case c3 => exact rfl); (case c4 => exact rfl); k_whole; intro g' L' h' FG' F' N' B' X' T'; (try dsimp only); (try k_lift B'); (try k_fold)))
local macro_rules | `(tactic| walk_at "eval Name") => `(tactic| (k_here; k_dflt (refine' ld_hyp ?k1 ?k2 ?k3 ?_; (case k2 => with_reducible assumption); (case k1 => k_asm); (case k3 => exact rfl); k_whole)))
local macro_rules | `(tactic| walk_at "call builtin:list.append") => `(tactic| (k_here; (with_reducible show wpAny _ _ (call (Value.builtin _) [Value.ref _, _]) _ _ _); k_dflt (refine' append_K ?k1 ?k2 ?k3 ?_ ?z; (case k1 => k_asm); (case k2 => k_asm); (case k3 => k_upd); (case z => ((simp only [List.size_toArray, List.length_append, List.length_cons, List.length_nil]); (rw [show sizeLine = 16777216 from rfl]); omega)); k_whole); intro h' F' N'; (try k_sweep)))
local macro_rules | `(tactic| walk_at "call ref") => `(tactic| (k_here; k_dflt (refine' op_call ?B ?F ?X ?N ?T ?hf ?hke ?hd ?_; (case B => k_asm); (case F => k_asm); (case X => k_asm); (case N => k_asm); (case T => k_asm); (case hf => exact rfl); (case hke => exact rfl); (case hd => ((try simp only [depth_deeper]); (try dsimp only); omega)); k_whole); intro h' tk' a' vs' n' new' Nw' hm' hD' F' N'; (try k_sweep)))
local macro_rules | `(tactic| walk_at "call ref") => `(tactic| (k_here; k_dflt (refine' pc_call ?B ?F ?X ?N ?T ?hf ?hke ?hd ?_; (case B => k_asm); (case F => k_asm); (case X => k_asm); (case N => k_asm); (case T => k_asm); (case hf => exact rfl); (case hke => exact rfl); (case hd => ((try simp only [depth_deeper]); (try dsimp only); omega)); k_whole); intro h' tk' a' vs' n' new' Nw' hm' hD' F' N'; (try k_sweep)))
local macro_rules | `(tactic| walk_at "subscriptTail") => `(tactic| (k_here; (with_reducible show wpAny _ _ (subscriptTail _ _ (Value.ref _) (Value.int _ _)) _ _ _); k_dflt (refine' tab_item ?N ?m ?D ?a ?b ?c ?_; (case D => with_reducible assumption); (case m => with_reducible assumption); (case N => with_reducible assumption); (case a => omega); (case b => (simp only [openL, pieceL, List.length_cons, List.length_nil]; omega)); (case c => decide); k_whole); intro a' tx' vt' n2' hT' hm2' hV'))
local macro_rules | `(tactic| walk_at "subscriptTail") => `(tactic| (k_here; (with_reducible show wpAny _ _ (subscriptTail _ _ (Value.ref _) (Value.int _ _)) _ _ _); k_dflt (refine' item_tupleT ?t ?a ?b ?c ?d ?_; (case t => with_reducible assumption); (case a => decide); (case b => decide); (case c => rfl); (case d => rfl); k_whole)))
local macro_rules | `(tactic| walk_at "subscriptTail") => `(tactic| (k_here; (with_reducible show wpAny _ _ (subscriptTail _ _ (Value.ref _) (Value.int _ _)) _ _ _); k_dflt (refine' lst_item ?N ?m ?a ?b ?c ?_; (case N => k_asm); (case m => k_mem); (case a => decide); (case b => decide); (case c => rfl); k_whole)))
local macro_rules | `(tactic| walk_at "exec For Name Subscript cons nil") => `(tactic| (k_here; (rename Fr _ _ _ _ => lF'); (with_unfolding_all refine' For_invVF lF' ?k1 ?k2 ?_; (case k1 => exact rfl); (case k2 => exact rfl); k_whole)))
local macro_rules | `(tactic| walk_at "call builtin:isinstance") => `(tactic| (k_here; (with_reducible show wpAny _ _ (call _ [Value.ref _, Value.type "int"]) _ _ _); k_dflt (refine' isi_tup_int ?N ?m ?_; (case N => k_asm); (case m => k_mem); k_whole); intro tk'))
local macro_rules | `(tactic| walk_at "call builtin:str.join") => `(tactic| (k_here; (with_reducible show wpAny _ _ (call (Value.builtin "str.join") [Value.str _ _, Value.ref _]) _ _ _); k_dflt (refine' join_L ?N ?m ?i ?a ?b ?_; (case i => with_reducible assumption); (case N => k_asm); (case m => k_mem); (case a => decide); (case b => with_reducible assumption); k_whole); intro t' k'))
section
variable {w : World} {d u : Nat} {gd : Option (List Code)} {A₀ : Around} {E : Value → Shared → Prop} {s : Shared} {base h₀ : Heap} {outer : List Env} {env : Env} {L : Addr} {m mg mb : Str → Option Value} {news : List (Addr × Obj)} {p : Program} {loose : List Str} {mean : ExcName → Option Value} {Q : Value → Shared → Prop}
theorem str_end {x y : Str} {t' : Tok} {h' : Heap} {tk : Nat} (h : ∀ h' tk t', Fr h₀ L h' m → News h₀ L h' news → Q (.str x t') { s with heap := h', toks := tk }) (hy : x = y) (F : Fr h₀ L h' m) (N : News h₀ L h' news) :
    Q (.str y t') { s with heap := h', toks := tk } := hy ▸ h h' tk t' F N
theorem lf_call {ra : Addr} {n0 : Nat} {a b t : Nat} {c : Str} {t1 t2 t3 t4 : Tok}
    (B : Below A₀ base outer h₀) (F : Fr h₀ L s.heap m) (X : (Mine.k0.heap_1 w.params).In h₀) (N : News h₀ L s.heap news) (T : Top p loose mean mg mb h₀) (hf : env.frame = some L) (hke : env.scope.kind = .function)
    (hd : d < 800) (hm : (ra, ({ cls := .type "tuple", data := .seq [Value.int (a : Int) t1, .str c t2, .int (b : Int) t3].toArray n0 } : Obj)) ∈ news) (ha : a < 4) (hb : b < 4) (hc : c.length ≤ 3) (ht : t < 5)
    (h : ∀ h' tk t', Fr h₀ L h' m → News h₀ L h' news → Q (.str (leftText a c b t) t') { s with heap := h', toks := tk }) :
    wpAny (model pg w) ⟨none, d, some (env :: outer), gd, u⟩ (call (.ref 187) [.ref ra, .int (t : Int) t4]) Q E s := by
  refine wpAny_call ?_
  walk_at "my.enter"
  k_steps
  · (rename Fr h₀ _ _ _ => F9); (rename News h₀ _ _ _ => N9)
    refine str_end h ?_ F9 N9
    unfold leftText
    rw [if_pos (by assumption)]
  · (rename Fr h₀ _ _ _ => F9); (rename News h₀ _ _ _ => N9)
    refine str_end h ?_ F9 N9
    unfold leftText
    rw [if_neg (by simp [*])]
end
end Mine
namespace Mine
local macro_rules | `(tactic| k_room) => `(tactic| ((try simp only [depth_under_make, depth_under_kw, depth_in1, depth_deeper, depth_caller, recursionLimit]); omega))
local macro_rules | `(tactic| walk_at "my.mem") => `(tactic| first | with_reducible assumption | exact List.mem_cons_self .. | ((with_reducible refine List.mem_cons_of_mem _ ?_); walk_at "my.mem"))
local macro_rules | `(tactic| k_mem) => `(tactic| walk_at "my.mem")
local macro_rules | `(tactic| k_all) => `(tactic| with_reducible assumption)
local macro_rules | `(tactic| walk_at "my.enter") => `(tactic|
  (refine' code_def ?k1 ?k2 ?k3 ?k4 ?k5 ?kA ?kF ?kK ?k6 ?k7 ?k8 ?k9 ?kB ?_ ?c2 ?c3 ?c4 ?c5; (case kA => exact rfl); (case kF => assumption); (case kK => assumption); (case k1 => k_asm); (case k2 => k_asm); (case k3 => k_asm); (case k4 => k_asm); (case k5 => k_asm); (case k6 => k_is); (case k7 => k_is); (case k8 => k_room); (case k9 => first | exact BindsTo.of_eq rfl | exact binds_K (by k_in) rfl (by k_is) rfl rfl rfl | fail "k_enter: no rule for these arguments"); (case c5 => decide); (case kB => exact locs rfl); (case c2 => exact rfl); (case c3 => exact rfl); (case c4 => exact rfl); k_whole; intro g' L' h' FG' F' N' B' X' T'; (try dsimp only); (try k_lift B'); (try k_fold)))
local macro_rules | `(tactic| walk_at "eval Name") => `(tactic| (k_here; k_dflt (refine' ld_hyp ?k1 ?k2 ?k3 ?_; (case k2 => with_reducible assumption); (case k1 => k_asm); (case k3 => exact rfl); k_whole)))
local macro_rules | `(tactic| walk_at "call builtin:list.append") => `(tactic| (k_here; (with_reducible show wpAny _ _ (call (Value.builtin _) [Value.ref _, _]) _ _ _); k_dflt (refine' append_K ?k1 ?k2 ?k3 ?_ ?z; (case k1 => k_asm); (case k2 => k_asm); (case k3 => k_upd); (case z => ((simp only [List.size_toArray, List.length_append, List.length_cons, List.length_nil]); (rw [show sizeLine = 16777216 from rfl]); omega)); k_whole); intro h' F' N'; (try k_sweep)))
local macro_rules | `(tactic| walk_at "call ref") => `(tactic| (k_here; k_dflt (refine' op_call ?B ?F ?X ?N ?T ?hf ?hke ?hd ?_; (case B => k_asm); (case F => k_asm); (case X => k_asm); (case N => k_asm); (case T => k_asm); (case hf => exact rfl); (case hke => exact rfl); (case hd => ((try simp only [depth_deeper]); (try dsimp only); omega)); k_whole); intro h' tk' a' vs' n' new' Nw' hm' hD' F' N'; (try k_sweep)))
local macro_rules | `(tactic| walk_at "call ref") => `(tactic| (k_here; k_dflt (refine' pc_call ?B ?F ?X ?N ?T ?hf ?hke ?hd ?_; (case B => k_asm); (case F => k_asm); (case X => k_asm); (case N => k_asm); (case T => k_asm); (case hf => exact rfl); (case hke => exact rfl); (case hd => ((try simp only [depth_deeper]); (try dsimp only); omega)); k_whole); intro h' tk' a' vs' n' new' Nw' hm' hD' F' N'; (try k_sweep)))
local macro_rules | `(tactic| walk_at "subscriptTail") => `(tactic| (k_here; (with_reducible show wpAny _ _ (subscriptTail _ _ (Value.ref _) (Value.int _ _)) _ _ _); k_dflt (refine' tab_item ?N ?m ?D ?a ?b ?c ?_; (case D => with_reducible assumption); (case m => with_reducible assumption); (case N => with_reducible assumption); (case a => omega); (case b => (simp only [openL, pieceL, List.length_cons, List.length_nil]; omega)); (case c => decide); k_whole); intro a' tx' vt' n2' hT' hm2' hV'))
local macro_rules | `(tactic| walk_at "subscriptTail") => `(tactic| (k_here; (with_reducible show wpAny _ _ (subscriptTail _ _ (Value.ref _) (Value.int _ _)) _ _ _); k_dflt (refine' item_tupleT ?t ?a ?b ?c ?d ?_; (case t => with_reducible assumption); (case a => decide); (case b => decide); (case c => rfl); (case d => rfl); k_whole)))
local macro_rules | `(tactic| walk_at "subscriptTail") => `(tactic| (k_here; (with_reducible show wpAny _ _ (subscriptTail _ _ (Value.ref _) (Value.int _ _)) _ _ _); k_dflt (refine' lst_item ?N ?m ?a ?b ?c ?_; (case N => k_asm); (case m => k_mem); (case a => decide); (case b => decide); (case c => rfl); k_whole)))
local macro_rules | `(tactic| walk_at "exec For Tuple Name cons nil") => `(tactic| (k_here; with_unfolding_all refine wpAny_For ?_ (by intro _; rfl)))
local macro_rules | `(tactic| walk_at "exec For Name Subscript cons nil") => `(tactic| (k_here; (rename Fr _ _ _ _ => lF'); (with_unfolding_all refine' For_invVF lF' ?k1 ?k2 ?_; (case k1 => exact rfl); (case k2 => exact rfl); k_whole)))
local macro_rules | `(tactic| walk_at "call builtin:isinstance") => `(tactic| (k_here; (with_reducible show wpAny _ _ (call _ [Value.ref _, Value.type "int"]) _ _ _); k_dflt (refine' isi_tup_int ?N ?m ?_; (case N => k_asm); (case m => k_mem); k_whole); intro tk'))
local macro_rules | `(tactic| walk_at "call builtin:str.join") => `(tactic| (k_here; (with_reducible show wpAny _ _ (call (Value.builtin "str.join") [Value.str _ _, Value.ref _]) _ _ _); k_dflt (refine' join_L ?N ?m ?i ?a ?b ?_; (case i => with_reducible assumption); (case N => k_asm); (case m => k_mem); (case a => decide); (case b => with_reducible assumption); k_whole); intro t' k'))
section
variable {w : World} {d u : Nat} {gd : Option (List Code)} {A₀ : Around} {E : Value → Shared → Prop} {s : Shared} {base h₀ : Heap} {outer : List Env} {env : Env} {L : Addr} {m mg mb : Str → Option Value} {news : List (Addr × Obj)} {p : Program} {loose : List Str} {mean : ExcName → Option Value} {Q : Value → Shared → Prop}
theorem wr_call {l : Addr} {vs : List Value} {n : Nat} {ps : List Pair}
    (B : Below A₀ base outer h₀) (F : Fr h₀ L s.heap m) (X : (Mine.k0.heap_1 w.params).In h₀) (N : News h₀ L s.heap news) (T : Top p loose mean mg mb h₀) (hf : env.frame = some L) (hke : env.scope.kind = .function)
    (hd : d < 800) (hl : (l, listOf vs.toArray n) ∈ news) (hD : DatAll news vs (ps.map pairOf)) (hlen : ps.length ≤ 20) (hsz : ∀ q ∈ ps, q.1.length ≤ 100 ∧ (wordOf q).length ≤ 300 ∧ ∀ x, q.2 = some x → x.length ≤ 100)
    (h : ∀ h' tk t', Fr h₀ L h' m → News h₀ L h' news → Q (.str (wrText ps) t') { s with heap := h', toks := tk }) :
    wpAny (model pg w) ⟨none, d, some (env :: outer), gd, u⟩ (call (.ref 201) [.ref l]) Q E s := by
  refine wpAny_call ?_
  walk_at "my.enter"
  k_steps
  rename_i q _ l1 h1 F1 N1
  have hq1 : ∀ z ∈ news, z.1 ≠ q := fun z hz => Nat.ne_of_lt (l1 z hz)
  with_unfolding_all refine pair_loop (l := l) (vs := vs) (nn := n) (news := (q, listOf [].toArray 0) :: news) news (PairAt ps) (Jws q news (fun i => (ps.take i).map wordOf)) ?hE ?hh rfl rfl rfl hl (fun q hq => List.mem_cons_of_mem _ hq) (pair_open hD) F1 N1 ?init ?turn ?done
  case hE => passes_own
  case hh => exact rfl
  case init => exact ⟨[], 0, rfl, .nil, rfl⟩
  case done =>
    rintro m₁ news₁ h2 tk2 _ ⟨ws, kk, rfl, hws, mw⟩ F2 N2
    have hws9 : StrsAre ws (ps.map wordOf) := by
      have e := hD.length
      rw [List.length_map] at e
      have q : StrsAre ws ((ps.take vs.length).map wordOf) := hws
      rw [e, List.take_length] at q
      exact q
    have hw9 : ((ps.map wordOf).map (·.length)).sum + (ps.map wordOf).length ≤ 1048576 := by
      have q := sum_len_le (B := 300) (ps.map wordOf) (by
        intro x hx
        obtain ⟨r, hr, e⟩ := List.mem_map.mp hx
        rw [← e]; exact (hsz r hr).2.1)
      rw [List.length_map] at q ⊢
      omega
    k_steps
    (rename Fr h₀ _ _ _ => F9); (rename News h₀ _ _ _ => N9)
    exact h _ _ _ F9 (news_re N9 fun q hq => List.mem_cons_of_mem _ hq)
  case turn =>
    rintro i a b m₁ news₁ h2 tk2 own hi ⟨k, v, t, hpi, rfl, hb⟩ hoff hkeep ⟨ws, kk, rfl, hws, mw⟩ F2 N2
    have hil : i < ps.length := (List.getElem?_eq_some_iff.mp hpi).1
    have hxs : (ps.take (i + 1)).map wordOf = (ps.take i).map wordOf ++ [wordOf (k, v)] := by
      rw [List.take_add_one, hpi, List.map_append]; rfl
    have hlw : ws.length ≤ 20 := by rw [hws.length]; simp; omega
    have hkl := hsz _ (List.mem_of_getElem? hpi)
    have hkl1 : k.length ≤ 100 := hkl.1
    simp only [List.cons_append] at N2
    have hq2 : ∀ z ∈ news ++ own, z.1 ≠ q := by
      intro z hz
      rcases List.mem_append.mp hz with hz | hz
      · exact hq1 z hz
      · exact hoff z hz q (List.mem_cons_self ..)
    rcases hb with ⟨rfl, rfl⟩ | ⟨x, u', rfl, rfl⟩
    · k_steps
      (rename Fr _ _ _ _ => F9); (rename News _ _ _ _ => N9)
      exact ws_end F9 N9 (fun _ h => h) hoff hws hxs mw
    · have hxl : x.length ≤ 100 := hkl.2.2 x rfl
      k_steps
      (rename Fr _ _ _ _ => F9); (rename News _ _ _ _ => N9)
      exact ws_end F9 N9 (fun _ h => h) hoff hws hxs mw
end
end Mine
namespace Mine
local macro_rules | `(tactic| k_room) => `(tactic| ((try simp only [depth_under_make, depth_under_kw, depth_in1, depth_deeper, depth_caller, recursionLimit]); omega))
local macro_rules | `(tactic| walk_at "my.mem") => `(tactic| first | with_reducible assumption | exact List.mem_cons_self .. | ((with_reducible refine List.mem_cons_of_mem _ ?_); walk_at "my.mem") | ((with_reducible refine List.mem_append.mpr (Or.inl ?_)); walk_at "my.mem") | ((with_reducible refine List.mem_append.mpr (Or.inr ?_)); walk_at "my.mem"))
local macro_rules | `(tactic| k_mem) => `(tactic| walk_at "my.mem")
local macro_rules | `(tactic| k_all) => `(tactic| with_reducible assumption)
local macro_rules | `(tactic| walk_at "my.enter") => `(tactic|
  (refine' code_def ?k1 ?k2 ?k3 ?k4 ?k5 ?kA ?kF ?kK ?k6 ?k7 ?k8 ?k9 ?kB ?_ ?c2 ?c3 ?c4 ?c5; (case kA => exact rfl); (case kF => assumption); (case kK => assumption); (case k1 => k_asm); (case k2 => k_asm); (case k3 => k_asm); (case k4 => k_asm); (case k5 => k_asm); (case k6 => k_is); (case k7 => k_is); (case k8 => k_room); (case k9 => first | exact BindsTo.of_eq rfl | exact binds_K (by k_in) rfl (by k_is) rfl rfl rfl | fail "k_enter: no rule for these arguments"); (case c5 => decide); (case kB => exact locs rfl); (case c2 => exact rfl); (case c3 => exact rfl); (case c4 => exact rfl); k_whole; intro g' L' h' FG' F' N' B' X' T'; (try dsimp only); (try k_lift B'); (try k_fold)))
local macro_rules | `(tactic| walk_at "eval Name") => `(tactic| (k_here; k_dflt (refine' ld_hyp ?k1 ?k2 ?k3 ?_; (case k2 => with_reducible assumption); (case k1 => k_asm); (case k3 => exact rfl); k_whole)))
local macro_rules | `(tactic| walk_at "call builtin:list.append") => `(tactic| (k_here; (with_reducible show wpAny _ _ (call (Value.builtin _) [Value.ref _, _]) _ _ _); k_dflt (refine' append_K ?k1 ?k2 ?k3 ?_ ?z; (case k1 => k_asm); (case k2 => k_asm); (case k3 => k_upd); (case z => ((simp only [List.size_toArray, List.length_append, List.length_cons, List.length_nil]); (rw [show sizeLine = 16777216 from rfl]); omega)); k_whole); intro h' F' N'; (try k_sweep)))
local macro_rules | `(tactic| walk_at "call ref") => `(tactic| (k_here; k_dflt (refine' op_call1 ?B ?F ?X ?N ?T ?hf ?hke ?hd ?hne ?_; (case N => k_asm); (case B => k_asm); (case F => k_asm); (case X => k_asm); (case T => k_asm); (case hf => exact rfl); (case hke => exact rfl); (case hd => ((try simp only [depth_deeper]); (try dsimp only); omega)); (case hne => with_reducible assumption); k_whole); intro h' tk' a' vs' n' new' hm' hD' ho' hne' F' N'; (try k_sweep)))
local macro_rules | `(tactic| walk_at "call ref") => `(tactic| (k_here; k_dflt (refine' pc_call2 ?B ?F ?X ?N ?T ?hf ?hke ?hd ?hne ?_; (case N => k_asm); (case B => k_asm); (case F => k_asm); (case X => k_asm); (case T => k_asm); (case hf => exact rfl); (case hke => exact rfl); (case hd => ((try simp only [depth_deeper]); (try dsimp only); omega)); (case hne => with_reducible assumption); k_whole); intro h' tk' a' vs' n' new' hm' hD' ho' hne' F' N'; (try k_sweep)))
local macro_rules | `(tactic| walk_at "call ref") => `(tactic| (k_here; k_dflt (refine' lf_call ?B ?F ?X ?N ?T ?hf ?hke ?hd ?hm ?ha ?hb ?hc ?ht ?_; (case N => k_asm); (case hm => k_mem); (case B => k_asm); (case F => k_asm); (case X => k_asm); (case T => k_asm); (case hf => exact rfl); (case hke => exact rfl); (case hd => ((try simp only [depth_deeper]); (try dsimp only); omega)); (case ha => assumption); (case hb => assumption); (case hc => assumption); (case ht => assumption); k_whole); intro h' tk' t' F' N'; (try k_sweep)))
local macro_rules | `(tactic| walk_at "subscriptTail") => `(tactic| (k_here; (with_reducible show wpAny _ _ (subscriptTail _ _ (Value.ref _) (Value.int _ _)) _ _ _); k_dflt (refine' tab_itemK ?N ?m ?S ?D ?a ?b ?c ?_; (case D => with_reducible assumption); (case m => with_reducible assumption); (case N => k_asm); (case S => (intro q hq; k_mem)); (case a => omega); (case b => (simp only [openL, pieceL, List.length_cons, List.length_nil]; omega)); (case c => decide); k_whole); intro a' tx' vt' n2' hT' hm2' hV'))
local macro_rules | `(tactic| walk_at "subscriptTail") => `(tactic| (k_here; (with_reducible show wpAny _ _ (subscriptTail _ _ (Value.ref _) (Value.int _ _)) _ _ _); k_dflt (refine' item_tupleT ?t ?a ?b ?c ?d ?_; (case t => with_reducible assumption); (case a => decide); (case b => decide); (case c => rfl); (case d => rfl); k_whole)))
local macro_rules | `(tactic| walk_at "subscriptTail") => `(tactic| (k_here; (with_reducible show wpAny _ _ (subscriptTail _ _ (Value.ref _) (Value.int _ _)) _ _ _); k_dflt (refine' lst_item ?N ?m ?a ?b ?c ?_; (case N => k_asm); (case m => k_mem); (case a => decide); (case b => decide); (case c => rfl); k_whole)))
local macro_rules | `(tactic| walk_at "exec For Name Name cons nil") => `(tactic| (k_here; (rename Fr _ _ _ _ => lF'); (with_unfolding_all refine' For_invVF lF' ?k1 ?k2 ?_; (case k1 => exact rfl); (case k2 => exact rfl); k_whole)))
local macro_rules | `(tactic| walk_at "exec For Name Subscript cons nil") => `(tactic| (k_here; (rename Fr _ _ _ _ => lF'); (with_unfolding_all refine' For_invVF lF' ?k1 ?k2 ?_; (case k1 => exact rfl); (case k2 => exact rfl); k_whole)))
local macro_rules | `(tactic| walk_at "call builtin:isinstance") => `(tactic| (k_here; (with_reducible show wpAny _ _ (call _ [Value.ref _, Value.type "int"]) _ _ _); k_dflt (refine' isi_tup_int ?N ?m ?_; (case N => k_asm); (case m => k_mem); k_whole); intro tk'))
local macro_rules | `(tactic| walk_at "call builtin:str.join") => `(tactic| (k_here; (with_reducible show wpAny _ _ (call (Value.builtin "str.join") [Value.str _ _, Value.ref _]) _ _ _); k_dflt (refine' join_L ?N ?m ?i ?a ?b ?_; (case i => with_reducible assumption); (case N => k_asm); (case m => k_mem); (case a => decide); (case b => with_reducible assumption); k_whole); intro t' k'))
section
variable {w : World} {d u : Nat} {gd : Option (List Code)} {A₀ : Around} {E : Value → Shared → Prop} {s : Shared} {base h₀ : Heap} {outer : List Env} {env : Env} {L : Addr} {m mg mb : Str → Option Value} {news : List (Addr × Obj)} {p : Program} {loose : List Str} {mean : ExcName → Option Value} {Q : Value → Shared → Prop}
theorem du_call {l : Addr} {vs : List Value} {n : Nat} {xs : List Text} {t : Nat} {t4 : Tok}
    (B : Below A₀ base outer h₀) (F : Fr h₀ L s.heap m) (X : (Mine.k0.heap_1 w.params).In h₀) (N : News h₀ L s.heap news) (T : Top p loose mean mg mb h₀) (hf : env.frame = some L) (hke : env.scope.kind = .function)
    (hd : d < 700) (hl : (l, listOf vs.toArray n) ∈ news) (hD : DatAll news vs (xs.map textD)) (hok : ∀ x ∈ xs, Text.ok x) (hlen : xs.length ≤ 20) (ht : t < 5)
    (h : ∀ h' tk v new, Fr h₀ L h' m → News h₀ L h' (new ++ news) → DatIn new v (.list ((dueAll t xs).map pairsD)) → Over new news → Q v { s with heap := h', toks := tk }) :
    wpAny (model pg w) ⟨none, d, some (env :: outer), gd, u⟩ (call (.ref 194) [.ref l, .int (t : Int) t4]) Q E s := by
  refine wpAny_call ?_
  walk_at "my.enter"
  k_steps
  rename_i r _ l1 h1 F1 N1
  replace N1 := news_re (news' := (r, listOf [].toArray 0) :: ([] ++ news)) N1 (fun _ h => h)
  with_unfolding_all refine kdl_iter (l := l) (vs := vs) (nn := n) (news := (r, listOf [].toArray 0) :: ([] ++ news)) (Jdo r news (fun i => dueAll t (xs.take i)) (t : Int)) ?hh (List.mem_cons_of_mem _ hl) F1 N1 ?init ?turn ?done
  case hh => exact rfl
  case init => exact ⟨[], 0, [], t4, rfl, Over.nil, fun _ h => (nomatch h), .nil, rfl, rfl⟩
  case done =>
    rintro m₁ news₁ h2 tk2 ⟨rs, k, tn, tk9, rfl, hov, hrt, hDr, mr, mt⟩ F2 N2
    k_steps
    (rename Fr _ _ _ _ => F9); (rename News _ _ _ _ => N9)
    have hD9 : DatAll tn rs ((dueAll t xs).map pairsD) := by
      have e : vs.length = xs.length := by rw [hD.length, List.length_map]
      have q : DatAll tn rs ((dueAll t (xs.take vs.length)).map pairsD) := hDr
      rw [e, List.take_length] at q
      exact q
    refine h _ _ _ ((r, listOf rs.toArray k) :: tn) F9 (news_re N9 fun _ h => h) (DatIn.list (List.mem_cons_self ..) (hD9.mono fun q hq => List.mem_cons_of_mem _ hq)) (Over.cons l1 hov)
  case turn =>
    rintro i v m₁ news₁ h2 tk2 own hv hoff hl' ⟨rs, k, tn, tk9, rfl, hov, hrt, hDr, mr, mt⟩ F2 N2
    have hi : i < xs.length := by
      have e := hD.length
      rw [List.length_map] at e
      rw [← e]; exact (List.getElem?_eq_some_iff.mp hv).1
    obtain ⟨v', hv', hDv⟩ := hD.get (k := i) (by rw [List.length_map]; exact hi)
    rw [hv] at hv'
    cases hv'
    rw [List.getElem_map] at hDv
    have hxo := hok _ (List.getElem_mem hi)
    have hxi : xs[i]? = some xs[i] := List.getElem?_eq_getElem hi
    generalize xs[i] = x at hDv hxo hxi
    obtain ⟨kx, rows⟩ := x
    obtain ⟨hk, hrl, hro⟩ := hxo
    simp only at hk hrl hro
    unfold textD at hDv
    cases hDv with
    | list hta hall =>
    cases hall with
    | cons h1 hall =>
    cases h1
    cases hall with
    | cons h1 hall =>
    cases hall
    cases h1 with
    | list hra hrows =>
    rename_i ta nta tka ra rvs nr
    simp only [List.cons_append, List.append_assoc] at N2
    have hr9 : ∀ q ∈ tn ++ (news ++ own), q.1 ≠ r := by
      intro q hq
      rcases List.mem_append.mp hq with hq | hq
      · exact Nat.ne_of_gt (hrt q hq)
      · rcases List.mem_append.mp hq with hq | hq
        · exact Nat.ne_of_lt (l1 q hq)
        · exact hoff q hq r (List.mem_cons_self ..)
    k_steps
    rename DatIn _ _ (optD _) => hV
    rename Over _ _ => ho
    rename (∀ q ∈ (_ ++ tn) ++ (news ++ own), q.1 ≠ r) => hne
    obtain ⟨first, hfirst⟩ : ∃ f, (openE kx).2 = f := ⟨_, rfl⟩
    have hV2 : DatIn _ _ (optD (openE kx).2) := hV
    rw [hfirst] at hV2
    cases first with
    | none =>
      cases hV2
      have hP' : dueAll t (xs.take (i + 1)) = dueAll t (xs.take i) := by rw [dueAll_take hxi]; simp [dueText, hfirst]
      k_steps
      (rename Fr _ _ _ _ => F9); (rename News _ _ _ _ => N9)
      refine do_end (rs := rs) (k := k) [] F9 N9 hl hoff (List.mem_cons_self ..) (fun _ h => nomatch h) (fun q hq => List.mem_cons_of_mem _ (by rw [List.append_assoc]; exact List.mem_append.mpr (.inr hq))) Over.nil (fun _ h => nomatch h) hov hrt ?_ mr mt
      exact hP'.symm ▸ hDr
    | some pr =>
      obtain ⟨fa, fo⟩ := pr
      unfold optD pairD at hV2
      cases hV2 with
      | tuple hmf hallf =>
      rename List (Addr × Obj) => new1
      k_steps
      (rename Fr _ _ _ _ => F9); (rename News _ _ _ _ => N9)
      rename_i p _ l5 _ _
      have hrp : @LT.lt Nat _ r p := l5.1
      have l6 := allLt_out l5.2
      obtain ⟨rest2, hr2⟩ : ∃ z, z = tn ++ (news ++ own) := ⟨_, rfl⟩
      have hp2 : ∀ z ∈ rest2, @LT.lt Nat _ z.1 p := by
        rw [hr2]; intro z hz
        rw [List.append_assoc] at l6
        exact l6 z (List.mem_append.mpr (.inr hz))
      have hra2 : (ra, listOf rvs.toArray nr) ∈ rest2 := hr2 ▸ List.mem_append.mpr (.inr (List.mem_append.mpr (.inl hra)))
      have hrows2 : DatAll rest2 rvs (rows.map rowD) := hrows.mono fun q hq => hr2 ▸ List.mem_append.mpr (.inr (List.mem_append.mpr (.inl hq)))
      have hrne2 : ∀ q ∈ rest2, q.1 ≠ r := hr2 ▸ hr9
      have ho2 : Over new1 rest2 := ho.mono fun z hz => List.mem_cons_of_mem _ (hr2 ▸ hz)
      have hor : ∀ q ∈ new1, @LT.lt Nat _ r q.1 := fun q hq => ho q hq _ (List.mem_cons_self ..)
      have hop : ∀ q ∈ new1, q.1 ≠ p := fun q hq => Nat.ne_of_lt (l6 q (List.mem_append.mpr (.inl (List.mem_append.mpr (.inl hq)))))
      replace N9 := news_re (news' := (p, listOf [_].toArray 0) :: (r, listOf rs.toArray k) :: (new1 ++ rest2)) N9 (by
        rw [hr2]; intro q hq
        rw [List.append_assoc]; exact hq)
      have hrvl : rvs.length = rows.length := by rw [hrows2.length, List.length_map]
      with_unfolding_all refine kdl_iter (l := ra) (vs := rvs) (nn := nr) (news := (p, listOf [_].toArray 0) :: (r, listOf rs.toArray k) :: (new1 ++ rest2)) (Jdu p r (listOf rs.toArray k) rest2 (fun i => dueRows t (fa, fo) (rows.take i)) (fun i => verCount (rows.take i)) (t : Int)) ?hh2 (List.mem_cons_of_mem _ (List.mem_cons_of_mem _ (List.mem_append.mpr (.inr hra2)))) F9 N9 ?init2 ?turn2 ?done2
      case hh2 => exact rfl
      case init2 => exact ⟨[_], 0, new1, _, _, rfl, ho2, fun q hq => ⟨hor q hq, hop q hq⟩, .one (DatIn.tuple hmf hallf), rfl, ⟨0, rfl, rfl⟩, mr, mt⟩
      case done2 =>
        rintro m2 news2 h4 tk4 ⟨ps, k2, tn2, tka, tkb, rfl, hov2, htn2, hD2, m2p, ⟨c, hc, m2v⟩, m2r, m2t⟩ F5 N5
        have hD3 : DatAll tn2 ps ((dueRows t (fa, fo) rows).map pairOf) := by
          have q : DatAll tn2 ps ((dueRows t (fa, fo) (rows.take rvs.length)).map pairOf) := hD2
          rw [hrvl, List.take_length] at q
          exact q
        have hc3 : c = ((verCount rows : Nat) : Int) := by
          have q : c = ((verCount (rows.take rvs.length) : Nat) : Int) := hc
          rw [hrvl, List.take_length] at q
          exact q
        have hpl : ps.length ≤ 20 := by
          have e1 := hD3.length
          rw [List.length_map] at e1
          have e2 : (dueRows t (fa, fo) rows).length ≤ rows.length + 1 := dueRows_len
          omega
        have hrl9 : rs.length ≤ 20 := by
          have e1 := hDr.length
          rw [List.length_map] at e1
          have e2 : (dueAll t (xs.take i)).length ≤ (xs.take i).length := List.length_filterMap_le _ _
          have e3 : (xs.take i).length ≤ xs.length := List.length_take_le' ..
          dsimp only at e1
          omega
        have hp9 : ∀ q ∈ tn2 ++ rest2, q.1 ≠ p := by
          intro q hq
          rcases List.mem_append.mp hq with hq | hq
          · exact (htn2 q hq).2
          · exact Nat.ne_of_lt (hp2 q hq)
        have hr8 : ∀ q ∈ tn2 ++ rest2, q.1 ≠ r := by
          intro q hq
          rcases List.mem_append.mp hq with hq | hq
          · exact Nat.ne_of_gt (htn2 q hq).1
          · exact hrne2 q hq
        k_steps
        · (rename Fr _ _ _ _ => F8); (rename News _ _ _ _ => N8)
          rename (_ ∧ _ ∧ AllLt _ _) => l7
          have l8 := allLt_out l7.2.2
          have hvc : verCount rows = 0 := by omega
          have hP9 : dueAll t (xs.take (i + 1)) = dueAll t (xs.take i) ++ [dueRows t (fa, fo) rows ++ [(S "version", some (S "0"))]] := by rw [dueAll_take hxi]; simp [dueText, hfirst, hvc]
          have pmem : ∀ {v : Value} {L : List (Addr × Obj)} {k : Nat}, (p, listOf (ps.toArray.push v) k) ∈ L → (p, listOf (ps ++ [v]).toArray k) ∈ L := fun h => by rw [← List.push_toArray]; exact h
          refine do_put (rs := rs) (rs0 := rs) (pv := ps ++ [.ref _]) ((_, ?ob) :: tn2) F8 N8 hl hoff (List.mem_cons_of_mem _ (List.mem_cons_of_mem _ (List.mem_cons_self ..))) (List.mem_cons_of_mem _ (pmem (List.mem_cons_self ..))) ?hadd (fun q hq => List.mem_cons_of_mem _ (List.mem_cons_of_mem _ (List.mem_cons_of_mem _ (List.mem_append.mpr (.inr (hr2 ▸ hq)))))) (hr2 ▸ hp2) hrp (hr2 ▸ Over.cons (fun z hz => l8 z (List.mem_append.mpr (.inr hz))) hov2) ?hb hov hrt hDr ?hd hP9 m2r m2t
          case hadd =>
            intro q hq
            rcases List.mem_cons.mp hq with e | hq
            · rw [e]; exact List.mem_cons_self ..
            · exact List.mem_cons_of_mem _ (List.mem_cons_of_mem _ (List.mem_cons_of_mem _ (List.mem_append.mpr (.inl hq))))
          case hb =>
            intro q hq
            rcases List.mem_cons.mp hq with e | hq
            · rw [e]; exact l7.2.1
            · exact (htn2 q hq).1
          case hd =>
            rw [List.map_append]
            exact (hD3.mono fun q hq => List.mem_cons_of_mem _ hq).append (.one (pair_str.mono fun q hq => by rw [List.mem_singleton.mp hq]; exact List.mem_cons_self ..))
        · (rename Fr _ _ _ _ => F8); (rename News _ _ _ _ => N8)
          have hvc : ¬ verCount rows = 0 := by omega
          have hP9 : dueAll t (xs.take (i + 1)) = dueAll t (xs.take i) ++ [dueRows t (fa, fo) rows] := by rw [dueAll_take hxi]; simp [dueText, hfirst, hvc]
          exact do_put (rs := rs) (rs0 := rs) (pv := ps) tn2 F8 N8 hl hoff (List.mem_cons_of_mem _ (List.mem_cons_self ..)) (List.mem_cons_self ..) (fun q hq => List.mem_cons_of_mem _ (List.mem_cons_of_mem _ (List.mem_append.mpr (.inl hq)))) (fun q hq => List.mem_cons_of_mem _ (List.mem_cons_of_mem _ (List.mem_append.mpr (.inr (hr2 ▸ hq))))) (hr2 ▸ hp2) hrp (hr2 ▸ hov2) (fun q hq => (htn2 q hq).1) hov hrt hDr hD3 hP9 m2r m2t
      case turn2 =>
        rintro i2 v2 m2 news2 h4 tk4 own2 hv2 hoff2 hl2' ⟨ps, k2, tn2, tka, tkb, rfl, hov2, htn2, hD2, m2p, ⟨c, hc, m2v⟩, m2r, m2t⟩ F5 N5
        have hi2 : i2 < rows.length := by rw [← hrvl]; exact (List.getElem?_eq_some_iff.mp hv2).1
        obtain ⟨v', hv', hDv⟩ := hrows2.get (k := i2) (by rw [List.length_map]; exact hi2)
        rw [hv2] at hv'
        cases hv'
        rw [List.getElem_map] at hDv
        have hxo := hro _ (List.getElem_mem hi2)
        have hyi : rows[i2]? = some rows[i2] := List.getElem?_eq_getElem hi2
        generalize rows[i2] = row at hDv hxo hyi
        simp only [List.cons_append, List.append_assoc] at N5
        have hp9 : ∀ q ∈ tn2 ++ (rest2 ++ own2), q.1 ≠ p := by
          intro q hq
          rcases List.mem_append.mp hq with hq | hq
          · exact (htn2 q hq).2
          · rcases List.mem_append.mp hq with hq | hq
            · exact Nat.ne_of_lt (hp2 q hq)
            · exact hoff2 q hq p (List.mem_cons_self ..)
        have hpl : ps.length ≤ 20 := by
          have e1 := hD2.length
          rw [List.length_map] at e1
          have e2 : (dueRows t (fa, fo) (rows.take i2)).length ≤ (rows.take i2).length + 1 := dueRows_len
          have e3 : (rows.take i2).length ≤ rows.length := List.length_take_le' ..
          dsimp only at e1
          omega
        cases row with
        | bare =>
          cases hDv
          k_steps
          (rename Fr _ _ _ _ => F8); (rename News _ _ _ _ => N8)
          rename (_ ∧ _ ∧ AllLt _ _) => l7
          have l8 := allLt_out l7.2.2
          have hc9 : c + 1 = ((verCount (rows.take (i2 + 1)) : Nat) : Int) := by
            have q : c = ((verCount (rows.take i2) : Nat) : Int) := hc
            rw [verCount_take hyi, q]; simp [isVer]
          exact du_put (ps := ps) (ps0 := ps) [(_, _)] F8 N8 hra2 hoff2 (List.mem_cons_of_mem _ (List.mem_cons_self ..)) (List.mem_cons_of_mem _ (List.mem_cons_of_mem _ (List.mem_cons_self ..))) (fun q hq => by rw [List.mem_singleton.mp hq]; exact List.mem_cons_self ..) (fun q hq => List.mem_cons_of_mem _ (List.mem_cons_of_mem _ (List.mem_cons_of_mem _ hq))) (Over.cons l8 Over.nil) (fun q hq => by rw [List.mem_singleton.mp hq]; exact ⟨l7.2.1, Nat.ne_of_gt l7.1⟩) hov2 htn2 hD2 pair_none (by rw [dueRows_take hyi]; rfl) m2p hc9 rfl m2r m2t
        | piece j =>
          have hxj : j < 15 := hxo
          cases hDv
          k_steps
          rename DatIn _ _ (optD (pieceL.getD _ _).2) => hVp
          obtain ⟨op, hop9⟩ : ∃ f, (pieceE j).2 = f := ⟨_, rfl⟩
          have hVq : DatIn _ _ (optD (pieceE j).2) := hVp
          rw [hop9] at hVq
          cases op with
          | none =>
            cases hVq
            k_steps
            (rename Fr _ _ _ _ => F8); (rename News _ _ _ _ => N8)
            have hc9 : c = ((verCount (rows.take (i2 + 1)) : Nat) : Int) := by
              have q : c = ((verCount (rows.take i2) : Nat) : Int) := hc
              rw [verCount_take hyi, q]; simp [isVer]
            have hP9 : dueRows t (fa, fo) (rows.take (i2 + 1)) = dueRows t (fa, fo) (rows.take i2) := by
              rw [dueRows_take hyi]; simp [duePair, hop9]
            refine du_end (ps := ps) (ps0 := ps) [] F8 N8 hra2 hoff2 (List.mem_cons_self ..) (List.mem_cons_of_mem _ (List.mem_cons_self ..)) (fun q hq => nomatch hq) (fun q hq => List.mem_cons_of_mem _ (List.mem_cons_of_mem _ (by rw [List.append_assoc]; exact List.mem_append.mpr (.inr hq)))) Over.nil (fun q hq => nomatch hq) hov2 htn2 ?_ m2p hc9 m2v m2r m2t
            exact hP9.symm ▸ hD2
          | some pr2 =>
            obtain ⟨ga, go⟩ := pr2
            unfold optD pairD at hVq
            cases hVq with
            | tuple hmg hallg =>
            k_steps
            (rename Fr _ _ _ _ => F8); (rename News _ _ _ _ => N8)
            rename DatIn _ _ (optD (pieceL.getD _ _).2) => hVs
            rename List (Addr × Obj) => new2
            rename Over new2 _ => ho9
            have hVt : DatIn _ _ (optD (pieceE j).2) := hVs
            rw [hop9] at hVt
            have hc9 : c = ((verCount (rows.take (i2 + 1)) : Nat) : Int) := by
              have q : c = ((verCount (rows.take i2) : Nat) : Int) := hc
              rw [verCount_take hyi, q]; simp [isVer]
            have hP9 : dueRows t (fa, fo) (rows.take (i2 + 1)) = dueRows t (fa, fo) (rows.take i2) ++ [(ga, go)] := by
              rw [dueRows_take hyi]; simp [duePair, hop9]
            refine du_put (ps := ps) (ps0 := ps) (pr := (ga, go)) new2 F8 N8 hra2 hoff2 (List.mem_cons_self ..) (List.mem_cons_of_mem _ (List.mem_cons_self ..)) (fun q hq => List.mem_cons_of_mem _ (List.mem_cons_of_mem _ (List.mem_append.mpr (.inl (List.mem_append.mpr (.inl hq)))))) (fun q hq => List.mem_cons_of_mem _ (List.mem_cons_of_mem _ ?h1)) (ho9.mono fun q hq => List.mem_cons_of_mem _ (List.mem_cons_of_mem _ ?h2)) (fun q hq => ⟨ho9 q hq _ (List.mem_cons_of_mem _ (List.mem_cons_self ..)), Nat.ne_of_gt (ho9 q hq _ (List.mem_cons_self ..))⟩) hov2 htn2 hD2 hVt hP9 m2p hc9 m2v m2r m2t
            case h1 =>
              rcases List.mem_append.mp hq with hq | hq
              · exact List.mem_append.mpr (.inl (List.mem_append.mpr (.inr (List.mem_append.mpr (.inr hq)))))
              · exact List.mem_append.mpr (.inr hq)
            case h2 =>
              rcases List.mem_append.mp hq with hq | hq
              · exact List.mem_append.mpr (.inl (List.mem_append.mpr (.inr hq)))
              · exact List.mem_append.mpr (.inr hq)
        | ver a cc b =>
          obtain ⟨hxa, hxc, hxb⟩ := hxo
          have hxc3 := core_len hxc
          unfold rowD at hDv
          cases hDv with
          | tuple hmr hall =>
          cases hall with
          | cons h1 hall =>
          cases h1
          cases hall with
          | cons h1 hall =>
          cases h1
          cases hall with
          | cons h1 hall =>
          cases h1
          cases hall
          k_steps
          (rename Fr _ _ _ _ => F8); (rename News _ _ _ _ => N8)
          rename (_ ∧ _ ∧ AllLt _ _) => l7
          have l8 := allLt_out l7.2.2
          have hc9 : c + 1 = ((verCount (rows.take (i2 + 1)) : Nat) : Int) := by
            have q : c = ((verCount (rows.take i2) : Nat) : Int) := hc
            rw [verCount_take hyi, q]; simp [isVer]
          exact du_put (ps := ps) (ps0 := ps) [(_, _)] F8 N8 hra2 hoff2 (List.mem_cons_of_mem _ (List.mem_cons_self ..)) (List.mem_cons_of_mem _ (List.mem_cons_of_mem _ (List.mem_cons_self ..))) (fun q hq => by rw [List.mem_singleton.mp hq]; exact List.mem_cons_self ..) (fun q hq => List.mem_cons_of_mem _ (List.mem_cons_of_mem _ (List.mem_cons_of_mem _ hq))) (Over.cons l8 Over.nil) (fun q hq => by rw [List.mem_singleton.mp hq]; exact ⟨l7.2.1, Nat.ne_of_gt l7.1⟩) hov2 htn2 hD2 pair_str (by rw [dueRows_take hyi]; rfl) m2p hc9 rfl m2r m2t
end
end Mine
namespace Mine
local macro_rules | `(tactic| k_room) => `(tactic| ((try simp only [depth_under_make, depth_under_kw, depth_in1, depth_deeper, depth_caller, recursionLimit]); omega))
local macro_rules | `(tactic| walk_at "my.mem") => `(tactic| first | with_reducible assumption | exact List.mem_cons_self .. | ((with_reducible refine List.mem_cons_of_mem _ ?_); walk_at "my.mem") | ((with_reducible refine List.mem_append.mpr (Or.inl ?_)); walk_at "my.mem") | ((with_reducible refine List.mem_append.mpr (Or.inr ?_)); walk_at "my.mem"))
local macro_rules | `(tactic| k_mem) => `(tactic| walk_at "my.mem")
local macro_rules | `(tactic| k_all) => `(tactic| with_reducible assumption)
local macro_rules | `(tactic| walk_at "my.enter") => `(tactic|
  (refine' code_def ?k1 ?k2 ?k3 ?k4 ?k5 ?kA ?kF ?kK ?k6 ?k7 ?k8 ?k9 ?kB ?_ ?c2 ?c3 ?c4 ?c5; (case kA => exact rfl); (case kF => assumption); (case kK => assumption); (case k1 => k_asm); (case k2 => k_asm); (case k3 => k_asm); (case k4 => k_asm); (case k5 => k_asm); (case k6 => k_is); (case k7 => k_is); (case k8 => k_room); (case k9 => first | exact BindsTo.of_eq rfl | exact binds_K (by k_in) rfl (by k_is) rfl rfl rfl | fail "k_enter: no rule for these arguments"); (case c5 => decide); (case kB => exact locs rfl); (case c2 => exact rfl); (case c3 => exact rfl); (case c4 => exact rfl); k_whole; intro g' L' h' FG' F' N' B' X' T'; (try dsimp only); (try k_lift B'); (try k_fold)))
local macro_rules | `(tactic| walk_at "eval Name") => `(tactic| (k_here; k_dflt (refine' ld_hyp ?k1 ?k2 ?k3 ?_; (case k2 => with_reducible assumption); (case k1 => k_asm); (case k3 => exact rfl); k_whole)))
local macro_rules | `(tactic| walk_at "call builtin:list.append") => `(tactic| (k_here; (with_reducible show wpAny _ _ (call (Value.builtin _) [Value.ref _, _]) _ _ _); k_dflt (refine' append_K ?k1 ?k2 ?k3 ?_ ?z; (case k1 => k_asm); (case k2 => k_asm); (case k3 => k_upd); (case z => ((simp only [List.size_toArray, List.length_append, List.length_cons, List.length_nil]); (rw [show sizeLine = 16777216 from rfl]); omega)); k_whole); intro h' F' N'; (try k_sweep)))
local macro_rules | `(tactic| walk_at "subscriptTail") => `(tactic| (k_here; (with_reducible show wpAny _ _ (subscriptTail _ _ (Value.ref _) (Value.int _ _)) _ _ _); k_dflt (refine' lst_item ?N ?m ?a ?b ?c ?_; (case N => k_asm); (case m => k_mem); (case a => decide); (case b => decide); (case c => rfl); k_whole)))
local macro_rules | `(tactic| walk_at "subscriptTail") => `(tactic| (k_here; (with_reducible show wpAny _ _ (subscriptTail _ _ (Value.ref _) (Value.int (-1) _)) _ _ _); k_dflt (refine' last_item ?N ?m ?_ ?hs; (case N => k_asm); (case m => k_mem); (case hs => with_unfolding_all rfl); k_whole)))
local macro_rules | `(tactic| walk_at "exec For Name Name cons nil") => `(tactic| (k_here; (rename Fr _ _ _ _ => lF'); (with_unfolding_all refine' For_invVF lF' ?k1 ?k2 ?_; (case k1 => exact rfl); (case k2 => exact rfl); k_whole)))
local macro_rules | `(tactic| walk_at "exec For Name Subscript cons nil") => `(tactic| (k_here; (rename Fr _ _ _ _ => lF'); (with_unfolding_all refine' For_invVF lF' ?k1 ?k2 ?_; (case k1 => exact rfl); (case k2 => exact rfl); k_whole)))
local macro_rules | `(tactic| walk_at "call builtin:isinstance") => `(tactic| (k_here; (with_reducible show wpAny _ _ (call _ [Value.ref _, Value.type "int"]) _ _ _); k_dflt (refine' isi_tup_int ?N ?m ?_; (case N => k_asm); (case m => k_mem); k_whole); intro tk'))
local macro_rules | `(tactic| walk_at "call builtin:str.join") => `(tactic| (k_here; (with_reducible show wpAny _ _ (call (Value.builtin "str.join") [Value.str _ _, Value.ref _]) _ _ _); k_dflt (refine' join_L ?N ?m ?i ?a ?b ?_; (case i => with_reducible assumption); (case N => k_asm); (case m => k_mem); (case a => decide); (case b => with_reducible assumption); k_whole); intro t' k'))
section
variable {w : World} {d u : Nat} {gd : Option (List Code)} {A₀ : Around} {E : Value → Shared → Prop} {s : Shared} {base h₀ : Heap} {outer : List Env} {env : Env} {L : Addr} {m mg mb : Str → Option Value} {news : List (Addr × Obj)} {p : Program} {loose : List Str} {mean : ExcName → Option Value} {Q : Value → Shared → Prop}
theorem ce_call {a : Addr} {vs : List Value} {zs : List Int}
    (B : Below A₀ base outer h₀) (F : Fr h₀ L s.heap m) (X : (Mine.k0.heap_1 w.params).In h₀) (N : News h₀ L s.heap news) (T : Top p loose mean mg mb h₀) (hf : env.frame = some L) (hke : env.scope.kind = .function)
    (hd : d < 700) (hL : base.IsList a vs.toArray) (hI : IntsAre vs zs) (hlen : zs.length ≤ 63)
    (h : ∀ h' tk T tvs k tn (xs : List Text), Fr h₀ L h' m → News h₀ L h' ((T, listOf tvs.toArray k) :: (tn ++ news)) → DatAll tn tvs (xs.map textD) → (∀ x ∈ xs, Text.ok x) → xs.length ≤ 14 → Over ((T, listOf tvs.toArray k) :: tn) news → Q (.ref T) { s with heap := h', toks := tk }) :
    wpAny (model pg w) ⟨none, d, some (env :: outer), gd, u⟩ (call (.ref 173) [.ref a]) Q E s := by
  refine wpAny_call ?_
  walk_at "my.enter"
  k_steps
  rename_i dt _ e0 q0 _ e1 t0 _ e2 q1 _ e3 u1 _ e4 T0 _ e5 _ sl ws h1 F1 N1 hI9 hC9 hL9 l1
  have l0 := e0
  replace N1 := news_re (news' := (T0, listOf ([Value.ref t0] ++ [Value.ref u1]).toArray 0) :: (u1, listOf [Value.int ((0 : Nat) : Int) _, Value.ref q1].toArray 0) :: (q1, listOf [].toArray 0) :: ([(t0, listOf [Value.int ((0 : Nat) : Int) _, Value.ref q0].toArray 0), (q0, listOf [Value.ref dt].toArray 0), (dt, _)] ++ ((sl, listOf ws.toArray 0) :: news))) N1 (by
    intro q hq
    simp only [List.mem_cons, List.cons_append, List.nil_append] at hq ⊢
    rcases hq with h | h | h | h | h | h | h | h
    · exact .inr (.inl h)
    · exact .inr (.inr (.inl h))
    · exact .inr (.inr (.inr (.inl h)))
    · exact .inr (.inr (.inr (.inr (.inl h))))
    · exact .inr (.inr (.inr (.inr (.inr (.inl h)))))
    · exact .inr (.inr (.inr (.inr (.inr (.inr (.inl h))))))
    · exact .inl h
    · exact .inr (.inr (.inr (.inr (.inr (.inr (.inr h)))))))
  have o3 : ∀ o4 o5 o6 : Obj, Over [(t0, o4), (q0, o5), (dt, o6)] news := fun _ _ _ => Over.cons (allLt_out e2.2.2) (Over.cons (allLt_out e1.2) (Over.cons l0 Over.nil))
  have hwl : ws.length ≤ 12 := by rw [hI9.length, hC9]; exact Nat.min_le_left _ _
  with_unfolding_all refine kdl_iter (l := sl) (vs := ws) (nn := 0) (news := (T0, listOf ([Value.ref t0] ++ [Value.ref u1]).toArray 0) :: (u1, listOf [Value.int ((0 : Nat) : Int) _, Value.ref q1].toArray 0) :: (q1, listOf [].toArray 0) :: ([(t0, listOf [Value.int ((0 : Nat) : Int) _, Value.ref q0].toArray 0), (q0, listOf [Value.ref dt].toArray 0), (dt, _)] ++ ((sl, listOf ws.toArray 0) :: news))) (Jce T0 news (sl, listOf ws.toArray 0)) ?hh (List.mem_cons_of_mem _ (List.mem_cons_of_mem _ (List.mem_cons_of_mem _ (List.mem_append.mpr (.inr (List.mem_cons_self ..)))))) F1 N1 ?init ?turn ?done
  case hh => exact rfl
  case init =>
    refine ⟨u1, q1, [Value.ref t0], [], 0, 0, 0, _, [(0, [Row.ver 3 (S "1") 1])], 0, [], _, rfl, ?_, ?_, ?_, Nat.ne_of_lt e5.1, Nat.ne_of_lt e5.2.1, Nat.ne_of_gt e4.1, o3 _ _ _, allLt_out e4.2.2.2.2, allLt_out e3.2.2.2, ?_, ?_, Nat.le_refl _, .nil, (fun _ h => nomatch h), Nat.le_refl _, by decide, rfl⟩
    · intro z hz
      simp only [List.cons_append, List.nil_append, List.mem_cons] at hz
      rcases hz with rfl | rfl | rfl | rfl | hz
      · exact Nat.ne_of_lt e5.2.2.1
      · exact Nat.ne_of_lt e5.2.2.2.1
      · exact Nat.ne_of_lt e5.2.2.2.2.1
      · exact Nat.ne_of_gt l1.1
      · exact Nat.ne_of_lt (allLt_out e5.2.2.2.2.2 z hz)
    · intro z hz
      simp only [List.cons_append, List.nil_append, List.mem_cons] at hz
      rcases hz with rfl | rfl | rfl | rfl | hz
      · exact Nat.ne_of_lt e4.2.1
      · exact Nat.ne_of_lt e4.2.2.1
      · exact Nat.ne_of_lt e4.2.2.2.1
      · exact Nat.ne_of_gt l1.2.1
      · exact Nat.ne_of_lt (allLt_out e4.2.2.2.2 z hz)
    · intro z hz
      simp only [List.cons_append, List.nil_append, List.mem_cons] at hz
      rcases hz with rfl | rfl | rfl | rfl | hz
      · exact Nat.ne_of_lt e3.1
      · exact Nat.ne_of_lt e3.2.1
      · exact Nat.ne_of_lt e3.2.2.1
      · exact Nat.ne_of_gt l1.2.2.1
      · exact Nat.ne_of_lt (allLt_out e3.2.2.2 z hz)
    · exact .one (DatIn.list (List.mem_cons_self ..) (.cons (.int _ _) (.cons (DatIn.list (List.mem_cons_of_mem _ (List.mem_cons_self ..)) (.one (DatIn.tuple (List.mem_cons_of_mem _ (List.mem_cons_of_mem _ (List.mem_cons_self ..))) (.cons (.int _ _) (.cons (.str _ _) (.cons (.int _ _) .nil)))))) .nil)))
    · intro x hx
      rw [List.mem_singleton.mp hx]
      exact ⟨by decide, by decide, fun r hr => by rw [List.mem_singleton.mp hr]; exact ⟨by decide, by decide, by decide⟩⟩
  case done =>
    rintro m₁ news₁ h2 tk2 ⟨uu, qq, cvs, rvs, k1, k2, k3, tn, cs, kk, rows, tk3, rfl, j1, j2, j3, j4, j5, j6, j7, j8, j9, jD, jok, jlen, jR, jro, jrl, jkk, jt⟩ F2 N2
    k_steps
    (rename Fr h₀ L _ m => F9); (rename News h₀ L _ _ => N9)
    refine h _ _ T0 (cvs ++ [Value.ref uu]) k1 ((uu, listOf [Value.int (kk : Int) tk3, Value.ref qq].toArray k2) :: (qq, listOf rvs.toArray k3) :: tn) (cs ++ [(kk, rows)]) F9 (news_re N9 ?_) ?_ ?_ ?_ (Over.cons (allLt_out e5.2.2.2.2.2) (Over.cons j8 (Over.cons j9 j7)))
    · intro z hz
      rcases List.mem_cons.mp hz with e | hz
      · rw [e]; exact List.mem_cons_self ..
      · rcases List.mem_append.mp hz with hz | hz
        · rcases List.mem_cons.mp hz with e | hz
          · rw [e]; exact List.mem_cons_of_mem _ (List.mem_cons_self ..)
          · rcases List.mem_cons.mp hz with e | hz
            · rw [e]; exact List.mem_cons_of_mem _ (List.mem_cons_of_mem _ (List.mem_cons_self ..))
            · exact List.mem_cons_of_mem _ (List.mem_cons_of_mem _ (List.mem_cons_of_mem _ (List.mem_append.mpr (.inl hz))))
        · exact List.mem_cons_of_mem _ (List.mem_cons_of_mem _ (List.mem_cons_of_mem _ (List.mem_append.mpr (.inr (List.mem_cons_of_mem _ hz)))))
    · rw [List.map_append]
      refine (jD.mono fun z hz => List.mem_cons_of_mem _ (List.mem_cons_of_mem _ hz)).append (.one ?_)
      exact DatIn.list (List.mem_cons_self ..) (.cons (.int _ _) (.cons (DatIn.list (List.mem_cons_of_mem _ (List.mem_cons_self ..)) (jR.mono fun z hz => List.mem_cons_of_mem _ (List.mem_cons_of_mem _ hz))) .nil))
    · intro x hx
      rcases List.mem_append.mp hx with hx | hx
      · exact jok x hx
      · rw [List.mem_singleton.mp hx]; exact ⟨jkk, by show rows.length ≤ 13; omega, jro⟩
    · rw [List.length_append, List.length_singleton]; omega
  case turn =>
    rintro i v m₁ news₁ h2 tk2 own hv hoff hl' ⟨uu, qq, cvs, rvs, k1, k2, k3, tn, cs, kk, rows, tk3, rfl, j1, j2, j3, j4, j5, j6, j7, j8, j9, jD, jok, jlen, jR, jro, jrl, jkk, jt⟩ F2 N2
    obtain ⟨x, xt, rfl⟩ := int_at hI9 i v hv
    have hi12 : i < 12 := Nat.lt_of_lt_of_le (List.getElem?_eq_some_iff.mp hv).1 hwl
    simp only [List.cons_append, List.append_assoc] at N2
    have hof : ∀ z ∈ own, z.1 ≠ T0 ∧ z.1 ≠ uu ∧ z.1 ≠ qq := fun z hz => ⟨hoff z hz T0 (List.mem_cons_self ..), hoff z hz uu (List.mem_cons_of_mem _ (List.mem_cons_self ..)), hoff z hz qq (List.mem_cons_of_mem _ (List.mem_cons_of_mem _ (List.mem_cons_self ..)))⟩
    have inall : ∀ z ∈ tn ++ ((sl, listOf ws.toArray 0) :: (news ++ own)), z ∈ tn ++ ((sl, listOf ws.toArray 0) :: news) ∨ z ∈ own := by
      intro z hz
      rcases List.mem_append.mp hz with hz | hz
      · exact .inl (List.mem_append.mpr (.inl hz))
      · rcases List.mem_cons.mp hz with e | hz
        · rw [e]; exact .inl (List.mem_append.mpr (.inr (List.mem_cons_self ..)))
        · rcases List.mem_append.mp hz with hz | hz
          · exact .inl (List.mem_append.mpr (.inr (List.mem_cons_of_mem _ hz)))
          · exact .inr hz
    have neT : ∀ z ∈ tn ++ ((sl, listOf ws.toArray 0) :: (news ++ own)), z.1 ≠ T0 := fun z hz => (inall z hz).elim (j1 z) fun h => (hof z h).1
    have neQ : ∀ z ∈ tn ++ ((sl, listOf ws.toArray 0) :: (news ++ own)), z.1 ≠ qq := fun z hz => (inall z hz).elim (j3 z) fun h => (hof z h).2.2
    have fm1 := fmod_lo x (n := 20) (by decide)
    have fm2 := fmod_hi x (n := 20) (by decide)
    have hcl : cvs.length ≤ 20 := by
      have e := jD.length
      rw [List.length_map] at e
      omega
    have hrl : rvs.length ≤ 20 := by
      have e := jR.length
      rw [List.length_map] at e
      omega
    k_steps
    · rename_i q9 _ lq u9 _ lu _ F8 N8
      obtain ⟨k7, hk7, hk7l⟩ : ∃ k : Nat, (Int.fdiv x 20).fmod 7 = (k : Int) ∧ k < 7 := fmod_nat _ (n := 7) (by decide)
      rw [hk7] at N8
      exact ce_text (o1 := listOf [].toArray 0) F8 N8 hoff j1 j2 j3 j4 j5 j6 j7 j8 j9 jD jok jlen jR jro jrl (Nat.le_of_lt hi12) jkk jt (List.mem_cons_of_mem _ (List.mem_cons_of_mem _ (List.mem_cons_self ..))) (List.mem_cons_self ..) (List.mem_cons_of_mem _ (List.mem_cons_self ..)) (fun z hz => List.mem_cons_of_mem _ (List.mem_cons_of_mem _ (List.mem_cons_of_mem _ hz))) lq lu hk7l
    · rename_i F8 N8
      obtain ⟨j, hj, hj15⟩ : ∃ j : Nat, x.fmod 20 - 1 = (j : Int) ∧ j < 15 := ⟨(x.fmod 20 - 1).toNat, by omega, by omega⟩
      rw [hj] at N8
      exact ce_row (add := []) F8 N8 hoff j1 j2 j3 j4 j5 j6 j7 j8 j9 jD jok jlen jR jro jrl jkk jt (List.mem_cons_self ..) (List.mem_cons_of_mem _ (List.mem_cons_self ..)) (List.mem_cons_of_mem _ (List.mem_cons_of_mem _ (List.mem_cons_self ..))) (fun _ h => nomatch h) (fun z hz => List.mem_cons_of_mem _ (List.mem_cons_of_mem _ (List.mem_cons_of_mem _ hz))) Over.nil (r := .piece j) (.int _ _) hj15
    · rename_i F8 N8
      exact ce_row (add := []) F8 N8 hoff j1 j2 j3 j4 j5 j6 j7 j8 j9 jD jok jlen jR jro jrl jkk jt (List.mem_cons_self ..) (List.mem_cons_of_mem _ (List.mem_cons_self ..)) (List.mem_cons_of_mem _ (List.mem_cons_of_mem _ (List.mem_cons_self ..))) (fun _ h => nomatch h) (fun z hz => List.mem_cons_of_mem _ (List.mem_cons_of_mem _ (List.mem_cons_of_mem _ hz))) Over.nil (r := .bare) .none trivial
    · have e3 : x.fmod 20 = 16 ∨ x.fmod 20 = 17 ∨ x.fmod 20 = 18 := by omega
      rcases e3 with e | e | e
      all_goals (rw [e]; k_steps)
      all_goals
        rename_i D9 _ ld _ F8 N8
        obtain ⟨a4, ha4, ha4l⟩ : ∃ k : Nat, (Int.fdiv x 20).fmod 4 = (k : Int) ∧ k < 4 := fmod_nat _ (n := 4) (by decide)
        obtain ⟨b4, hb4, hb4l⟩ : ∃ k : Nat, (Int.fdiv (Int.fdiv x 20) 4).fmod 4 = (k : Int) ∧ k < 4 := fmod_nat _ (n := 4) (by decide)
        rw [ha4, hb4] at N8
      · exact ce_row (add := [(D9, _)]) F8 N8 hoff j1 j2 j3 j4 j5 j6 j7 j8 j9 jD jok jlen jR jro jrl jkk jt (List.mem_cons_of_mem _ (List.mem_cons_of_mem _ (List.mem_cons_self ..))) (List.mem_cons_of_mem _ (List.mem_cons_of_mem _ (List.mem_cons_of_mem _ (List.mem_cons_self ..)))) (List.mem_cons_of_mem _ (List.mem_cons_of_mem _ (List.mem_cons_of_mem _ (List.mem_cons_of_mem _ (List.mem_cons_self ..))))) (fun q hq => by rw [List.mem_singleton.mp hq]; exact List.mem_cons_self ..) (fun z hz => List.mem_cons_of_mem _ (List.mem_cons_of_mem _ (List.mem_cons_of_mem _ (List.mem_cons_of_mem _ (List.mem_cons_of_mem _ hz))))) (Over.cons (allLt_out ld.2) Over.nil) (r := .ver a4 (S "1") b4) ver_in ⟨ha4l, by decide, hb4l⟩
      · exact ce_row (add := [(D9, _)]) F8 N8 hoff j1 j2 j3 j4 j5 j6 j7 j8 j9 jD jok jlen jR jro jrl jkk jt (List.mem_cons_of_mem _ (List.mem_cons_of_mem _ (List.mem_cons_self ..))) (List.mem_cons_of_mem _ (List.mem_cons_of_mem _ (List.mem_cons_of_mem _ (List.mem_cons_self ..)))) (List.mem_cons_of_mem _ (List.mem_cons_of_mem _ (List.mem_cons_of_mem _ (List.mem_cons_of_mem _ (List.mem_cons_self ..))))) (fun q hq => by rw [List.mem_singleton.mp hq]; exact List.mem_cons_self ..) (fun z hz => List.mem_cons_of_mem _ (List.mem_cons_of_mem _ (List.mem_cons_of_mem _ (List.mem_cons_of_mem _ (List.mem_cons_of_mem _ hz))))) (Over.cons (allLt_out ld.2) Over.nil) (r := .ver a4 (S "") b4) ver_in ⟨ha4l, by decide, hb4l⟩
      · exact ce_row (add := [(D9, _)]) F8 N8 hoff j1 j2 j3 j4 j5 j6 j7 j8 j9 jD jok jlen jR jro jrl jkk jt (List.mem_cons_of_mem _ (List.mem_cons_of_mem _ (List.mem_cons_self ..))) (List.mem_cons_of_mem _ (List.mem_cons_of_mem _ (List.mem_cons_of_mem _ (List.mem_cons_self ..)))) (List.mem_cons_of_mem _ (List.mem_cons_of_mem _ (List.mem_cons_of_mem _ (List.mem_cons_of_mem _ (List.mem_cons_self ..))))) (fun q hq => by rw [List.mem_singleton.mp hq]; exact List.mem_cons_self ..) (fun z hz => List.mem_cons_of_mem _ (List.mem_cons_of_mem _ (List.mem_cons_of_mem _ (List.mem_cons_of_mem _ (List.mem_cons_of_mem _ hz))))) (Over.cons (allLt_out ld.2) Over.nil) (r := .ver a4 (S "x\"y") b4) ver_in ⟨ha4l, by decide, hb4l⟩
end
end Mine
namespace Mine
local macro_rules | `(tactic| k_room) => `(tactic| ((try simp only [depth_under_make, depth_under_kw, depth_in1, depth_deeper, depth_caller, recursionLimit]); omega))
local macro_rules | `(tactic| walk_at "my.mem") => `(tactic| first | with_reducible assumption | exact List.mem_cons_self .. | ((with_reducible refine List.mem_cons_of_mem _ ?_); walk_at "my.mem") | ((with_reducible refine List.mem_append.mpr (Or.inl ?_)); walk_at "my.mem") | ((with_reducible refine List.mem_append.mpr (Or.inr ?_)); walk_at "my.mem"))
local macro_rules | `(tactic| k_mem) => `(tactic| walk_at "my.mem")
local macro_rules | `(tactic| k_all) => `(tactic| with_reducible assumption)
local macro_rules | `(tactic| walk_at "my.enter") => `(tactic|
  (refine' code_def ?k1 ?k2 ?k3 ?k4 ?k5 ?kA ?kF ?kK ?k6 ?k7 ?k8 ?k9 ?kB ?_ ?c2 ?c3 ?c4 ?c5; (case kA => exact rfl); (case kF => assumption); (case kK => assumption); (case k1 => k_asm); (case k2 => k_asm); (case k3 => k_asm); (case k4 => k_asm); (case k5 => k_asm); (case k6 => k_is); (case k7 => k_is); (case k8 => k_room); (case k9 => first | exact BindsTo.of_eq rfl | exact binds_K (by k_in) rfl (by k_is) rfl rfl rfl | fail "k_enter: no rule for these arguments"); (case c5 => decide); (case kB => exact locs rfl); (case c2 => exact rfl); (case c3 => exact rfl); (case c4 => exact rfl); k_whole; intro g' L' h' FG' F' N' B' X' T'; (try dsimp only); (try k_lift B'); (try k_fold)))
local macro_rules | `(tactic| walk_at "eval Name") => `(tactic| (k_here; (fail_if_success (with_reducible show wpAny _ _ (eval (Expr.Name _ _) (compEnvC _ _ _ _)) _ _ _)); k_dflt (refine' ld_hyp ?k1 ?k2 ?k3 ?_; (case k2 => with_reducible assumption); (case k1 => k_asm); (case k3 => exact rfl); k_whole)))
local macro_rules | `(tactic| walk_at "exec For Name Name cons nil") => `(tactic| (k_here; (rename Fr _ _ _ _ => lF'); (with_unfolding_all refine' For_invVF lF' ?k1 ?k2 ?_; (case k1 => exact rfl); (case k2 => exact rfl); k_whole)))
local macro_rules | `(tactic| walk_at "exec For Name Subscript cons nil") => `(tactic| (k_here; (rename Fr _ _ _ _ => lF'); (with_unfolding_all refine' For_invVF lF' ?k1 ?k2 ?_; (case k1 => exact rfl); (case k2 => exact rfl); k_whole)))
local macro_rules | `(tactic| walk_at "call ref") => `(tactic| (k_here; k_dflt (refine' ce_call ?B ?F ?X ?N ?T ?hf ?hke ?hd ?hL ?hI ?hlen ?_; (case hL => assumption); (case N => k_asm); (case B => k_asm); (case F => k_asm); (case X => k_asm); (case T => k_asm); (case hf => exact rfl); (case hke => exact rfl); (case hd => decide); (case hI => assumption); (case hlen => omega); k_whole); intro h' tk' T' tvs' k' tn' xs' F' N' hD' hok' hln' ho'))
local macro_rules | `(tactic| walk_at "exec Assign cons ListComp") => `(tactic| (k_here; k_dflt (refine LCg.Assign_ListComp_U (F₀ := by k_asm) (by rfl) (by with_unfolding_all rfl) (by with_unfolding_all rfl) (by decide) (by rfl) (by decide) (by rfl) (by rfl) (by rfl) ?_)))
local macro_rules | `(tactic| walk_at "call ref") => `(tactic| (k_here; k_dflt (refine' fh_call ?B ?F ?X ?N ?T ?hf ?hke ?hd ?hta ?hra ?hk ?hrows ?hok ?hlen ?_; (case N => k_asm); (case hta => k_mem); (case hra => k_mem); (case hk => assumption); (case hrows => assumption); (case hok => assumption); (case hlen => assumption); (case B => k_asm); (case F => k_asm); (case X => k_asm); (case T => k_asm); (case hf => exact rfl); (case hke => exact rfl); (case hd => decide); k_whole); intro h' tk' t' F' N'))
local macro_rules | `(tactic| walk_at "call ref") => `(tactic| (k_here; k_dflt (refine' pn_call ?B ?F ?X ?N ?T ?hf ?hke ?hd ?hu ?hl ?hvs ?hlen ?hcount ?hex ?_; (case N => k_asm); (case hvs => assumption); (case hlen => assumption); (case hcount => assumption); (case hex => assumption); (case hl => k_mem); (case B => k_asm); (case F => k_asm); (case X => k_asm); (case T => k_asm); (case hf => exact rfl); (case hke => exact rfl); (case hd => decide); (case hu => decide); k_whole); intro h' tk' v' new' F' N' hD' ho'))
local macro_rules | `(tactic| walk_at "exec For Name Call cons nil") => `(tactic| (k_here; (rename Fr _ _ _ _ => lF'); (with_unfolding_all refine' For_invVF lF' ?k1 ?k2 ?_; (case k1 => exact rfl); (case k2 => exact rfl); k_whole)))
local macro_rules | `(tactic| walk_at "call ref") => `(tactic| (k_here; k_dflt (refine' du_call ?B ?F ?X ?N ?T ?hf ?hke ?hd ?hl ?hD ?hok ?hlen ?ht ?_; (case N => k_asm); (case hl => k_mem); (case hD => (refine' DatAll.mono ?s ?d; (case d => assumption); (case s => (intro q hq; k_mem)))); (case hok => assumption); (case hlen => omega); (case ht => omega); (case B => k_asm); (case F => k_asm); (case X => k_asm); (case T => k_asm); (case hf => exact rfl); (case hke => exact rfl); (case hd => decide); k_whole); intro h' tk' v' new' F' N' hD' ho'))
local macro_rules | `(tactic| walk_at "call ref") => `(tactic| (k_here; k_dflt (refine' wr_call ?B ?F ?X ?N ?T ?hf ?hke ?hd ?hl ?hD ?hlen ?hsz ?_; (case N => k_asm); (case hl => k_mem); (case hD => (refine' DatAll.mono ?s ?d; (case d => assumption); (case s => (intro q hq; k_mem)))); (case hlen => assumption); (case hsz => assumption); (case B => k_asm); (case F => k_asm); (case X => k_asm); (case T => k_asm); (case hf => exact rfl); (case hke => exact rfl); (case hd => decide); k_whole); intro h' tk' t' F' N'))
theorem law_walk : PySem.Challenge.rw_in0099_01.Holds := by
  refine holds_law said fun sd => ?_
  clear sd
  refine holds_open (q := v1) (loose := lo1) (Xt := fun s => recOk (PySem.Challenge.rw_in0099_01).row.records s) (XP := fun _ _ => True ∧ True) (Yf := kh.obs) (Ya := kh.val) (YP := Hook.says (kHook k0.heap_1 keys keys_eq)) (N := 4366) left (Hook.of (kHook k0.heap_1 keys keys_eq)) (Hook.keeps (kHook k0.heap_1 keys keys_eq)) (fun _ _ => ⟨trivial, trivial⟩) (fun _ _ _ x _ => x) (by rfl) (by rfl) (by rfl) (fun s e => recFacts_of e) (by rfl) (by first | assumption | decide +kernel) (by decide +kernel) ⟨rfl, rfl, rfl, rfl, rfl, by decide +kernel⟩ ?hw ?hc
  case hw => w_witness2
  k_go0
  k_steps
  rename_i T tvs k tn xs hD hok hln ho h1 F1 N1
  rw [List.append_nil] at N1
  refine LCg.CompSrc.ledger rfl F1 N1 (List.mem_cons_self ..) ?hsz (fun g => ?rest)
  case hsz =>
    rw [List.size_toArray, hD.length, List.length_map, show sizeLine = 16777216 from rfl]; omega
  case rest =>
    refine lc_rest (n := tvs.toArray.size) (fun i => ((xs[i]?).map fun x => fhText x.1 x.2).getD (S "")) (.inr ⟨_, List.mem_cons_self .., rfl, _, rfl⟩) ?turn ?fin _ 0 [] (Nat.zero_add _) .nil
    case turn =>
      intro i v I oI C oC D m2 h2 tk2 E2 ys hi hv hC hx F2 N2 off ne
      have hvi : tvs[i]? = some v := by simpa using hv
      have hi9 : i < xs.length := by
        have e := hD.length
        rw [List.length_map] at e
        rw [← e]; exact (List.getElem?_eq_some_iff.mp hvi).1
      obtain ⟨v', hv', hDv⟩ := hD.get (k := i) (by rw [List.length_map]; exact hi9)
      rw [hvi] at hv'
      cases hv'
      rw [List.getElem_map] at hDv
      have hxo := hok _ (List.getElem_mem hi9)
      have hxi : xs[i]? = some xs[i] := List.getElem?_eq_getElem hi9
      generalize xs[i] = x at hDv hxo hxi
      obtain ⟨kx, rows⟩ := x
      obtain ⟨hk, hrl, hro⟩ := hxo
      simp only at hk hrl hro
      unfold textD at hDv
      cases hDv with
      | list hta hall =>
      cases hall with
      | cons h1 hall =>
      cases h1
      cases hall with
      | cons h1 hall =>
      cases hall
      cases h1 with
      | list hra hrows =>
      have hrows2 := hrows.mono (news' := (I, oI) :: (C, oC) :: (D, LCg.lst ys) :: (T, listOf tvs.toArray k) :: tn) fun q hq => List.mem_cons_of_mem _ (List.mem_cons_of_mem _ (List.mem_cons_of_mem _ (List.mem_cons_of_mem _ hq)))
      iterate 8 (first | (k_unfold; (try dsimp only)) | (k_end; wrow_close) | walk1 | (dsimp only; walk1) | (leave1; walk_say "STEP leave1"; try dsimp only) | fail "no step")
      walk_at "call ref"
      rename_i t9 F9 N9
      refine ⟨_, _, t9, ?_, rfl, F9, N9⟩
      rw [hxi]; rfl
    case fin =>
      intro ys hys D h3 tk3 F3 N3 off3
      dsimp only
      have hys2 : StrsAre ys (hdrs xs 0) := by
        have q := hys
        rw [range_get xs (fun x => fhText x.1 x.2) (by rw [List.size_toArray, hD.length, List.length_map])] at q
        exact q
      have e1 := all_hdrs hok (t := 0) (by decide)
      have e2 := exp_hdrs hok (t := 0) (by decide)
      have e3 := len_hdrs hok (t := 0) (by decide)
      have e4 : (hdrs xs 0).length ≤ 1000 := Nat.le_trans (count_hdrs hln) (by decide)
      repeat ((fail_if_success (with_reducible show wpAny _ _ (pyIter _) _ _ _)); (first | (k_unfold; (try dsimp only)) | (k_end; wrow_close) | walk1 | (dsimp only; walk1) | (leave1; walk_say "STEP leave1"; try dsimp only) | fail "no step"))
      (rename IsRange _ _ _ _ _ _ _ _ => R9); (rename Fr _ _ _ _ => F9); (rename News _ _ _ _ => N9)
      with_unfolding_all refine rg_iter (n := 4) (fun i m nx => ∃ (D : Addr) (ys : List Value), nx = (D, LCg.lst ys) :: (T, listOf tvs.toArray k) :: tn ∧ StrsAre ys (hdrs xs i) ∧ m (S "headers") = some (.ref D) ∧ m (S "texts") = some (.ref T)) ?hh R9 ?hsm ?hsz F9 N9 ?hj ?turn ?done
      case hh => exact rfl
      case hsm => decide
      case hsz => decide
      case hj => exact ⟨D, ys, rfl, hys2, rfl, rfl⟩
      case done =>
        rintro m₁ news₁ h5 tk5 ⟨D5, ys5, rfl, hy5, m5, t5⟩ F5 N5
        k_steps
      case turn =>
        rintro i m₁ news₁ h5 tk5 t5 own hi hoff ⟨D5, ys5, rfl, hy5, m5, n5⟩ F5 N5
        have e9 : (1 : Int) + (i : Int) = ((i + 1 : Nat) : Int) := by omega
        rw [e9] at F5
        simp only [List.cons_append] at N5
        have e1 := all_hdrs hok hi
        have e2 := exp_hdrs hok hi
        have e3 := len_hdrs hok hi
        have e4 : (hdrs xs i).length ≤ 1000 := Nat.le_trans (count_hdrs hln) (by decide)
        repeat ((fail_if_success (with_reducible show wpAny _ _ (compareOp _ _ _) _ _ _)); (first | (k_unfold; (try dsimp only)) | (k_end; wrow_close) | walk1 | (dsimp only; walk1) | (leave1; walk_say "STEP leave1"; try dsimp only) | fail "no step"))
        (rename DatIn _ _ _ => hD2)
        obtain ⟨a2, vs2, n2, e2v, hm2, hA2⟩ := list_in hD2
        subst e2v
        clear hD2
        (rename DatIn _ _ _ => hD1)
        obtain ⟨a1, vs1, n1, e1v, hm1, hA1⟩ := list_in hD1
        subst e1v
        rw [e1] at hA1
        (rename Fr _ _ _ _ => F9); (rename News _ _ _ _ => N9)
        have hkq := due_kqd hok (turn_in hi)
        refine kqd_ne N9 (List.mem_append.mpr (.inr (List.mem_append.mpr (.inl hm1)))) rfl rfl hA1 (fun q hq => List.mem_append.mpr (.inr (List.mem_append.mpr (.inl hq)))) (List.mem_append.mpr (.inl hm2)) rfl rfl hA2 (fun q hq => List.mem_append.mpr (.inl hq)) hkq hkq ?hu ?_
        case hu => ke_room
        simp only [eq_self, decide_true, Bool.not_true]
        k_whole
        k_steps
        clear hD1
        refine LCg.CompSrc.ledger rfl F9 N9 (List.mem_append.mpr (.inr (List.mem_append.mpr (.inl hm1)))) ?hsz (fun g => ?rest)
        case hsz =>
          rw [List.size_toArray, hA1.length, List.length_map, show sizeLine = 16777216 from rfl]
          have := Nat.le_trans (count_hdrs (t := i + 1) hln) (by decide : 14 ≤ 16777216)
          unfold hdrs at this
          rw [List.length_map] at this
          exact this
        case rest =>
          refine lc_rest (n := vs1.toArray.size) (fun j => (((dueAll (i + 1) xs)[j]?).map wrText).getD (S "")) (.inr ⟨_, (List.mem_append.mpr (.inr (List.mem_append.mpr (.inl hm1)))), rfl, _, rfl⟩) ?turn2 ?fin2 _ 0 [] (Nat.zero_add _) .nil
          case turn2 =>
            intro j v I oI C oC D m2 h2 tk2 E2 ys hj hv hC hx F2 N2 off ne
            have hvj : vs1[j]? = some v := by simpa using hv
            have hj9 : j < (dueAll (i + 1) xs).length := by
              have e := hA1.length
              rw [List.length_map] at e
              rw [← e]; exact (List.getElem?_eq_some_iff.mp hvj).1
            obtain ⟨v', hv', hDv⟩ := hA1.get (k := j) (by rw [List.length_map]; exact hj9)
            rw [hvj] at hv'
            cases hv'
            rw [List.getElem_map] at hDv
            obtain ⟨hpl, hpf⟩ := fits_all hok (turn_in hi) _ (List.getElem_mem hj9)
            have hxi : (dueAll (i + 1) xs)[j]? = some (dueAll (i + 1) xs)[j] := List.getElem?_eq_getElem hj9
            generalize (dueAll (i + 1) xs)[j] = ps at hDv hpl hpf hxi
            unfold pairsD at hDv
            obtain ⟨pl, pvs, pn, rfl, hpm, hpA⟩ := list_in hDv
            iterate 8 (first | (k_unfold; (try dsimp only)) | (k_end; wrow_close) | walk1 | (dsimp only; walk1) | (leave1; walk_say "STEP leave1"; try dsimp only) | fail "no step")
            walk_at "call ref"
            rename_i t9 F9 N9
            refine ⟨_, _, t9, ?_, rfl, F9, N9⟩
            rw [hxi]; rfl
          case fin2 =>
            intro ys hys D h3 tk3 F3 N3 off3
            dsimp only
            k_steps
            have hys2 : StrsAre ys (hdrs xs (i + 1)) := by
              have q := hys
              rw [range_get (dueAll (i + 1) xs) wrText (by rw [List.size_toArray, hA1.length, List.length_map])] at q
              exact q
            refine law_end F3 N3 (fun q hq => List.mem_append.mpr (.inr (List.mem_append.mpr (.inr (List.mem_cons_of_mem _ ?hs))))) (fun q hq => List.mem_append.mpr (.inr (List.mem_append.mpr (.inr (List.mem_cons_of_mem _ (List.mem_cons_of_mem _ (List.mem_append.mpr (.inr hq)))))))) hoff off3 hys2 rfl n5
            case hs =>
              rcases List.mem_cons.mp hq with e | hq
              · rw [e]; exact List.mem_cons_self ..
              · exact List.mem_cons_of_mem _ (List.mem_append.mpr (.inl hq))
end Mine
theorem PySem.Challenge.cw_in0099_01_holds : PySem.Challenge.rw_in0099_01.Holds := by
  exact Mine.law_walk
