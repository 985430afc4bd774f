import PyProof.Rows.All
import Wide.All
import OpenK.AllK
import Wide.FinOn
import PySem.Challenge.RW_nq0177_02
open PySem PySem.W PyProof.Rows PySem.Calls
set_option Elab.async false
set_option maxRecDepth 100000
set_option maxHeartbeats 8000000
set_option compiler.extract_closed false
namespace Mine
noncomputable def build : List Obj → BT → Nat → Option (BT × Nat)
  | [], t, n => some (t, n)
  | o :: r, t, n => match ((t.ins n o).get n).isSome with
    | true => build r (t.ins n o) (n + 1)
    | false => none
theorem build_spec : ∀ (l : List Obj) (t : BT) (n : Nat) (t' : BT) (n' : Nat) (life : Life), build l t n = some (t', n') → absHeap t' n' life = ⟨(absHeap t n life).objs ++ l.toArray, life⟩
  | [], t, n, t', n', life, h => by
    simp only [build, Option.some.injEq, Prod.mk.injEq] at h
    obtain ⟨rfl, rfl⟩ := h
    simp [absHeap]
  | o :: r, t, n, t', n', life, h => by
    unfold build at h
    cases e : ((t.ins n o).get n).isSome with
    | false => rw [e] at h; cases h
    | true =>
      rw [e] at h
      have := build_spec r _ _ _ _ life h
      rw [this, absHeap_ins e]
      simp [Heap.push]
theorem seg_zero {tb : String → Option Builtin} {p : Program} {w : World} {n₀ : Nat} {ann : Option Value} : ∀ (n : Nat) (s : Shared) (t : Thread) (r : Flow × Shared × Code × Pos), segRun tb p w n₀ ann 0 n s t = some r → topRun tb p w n₀ ann n s t = some r.2.1
  | 0, _, _, _, h => by cases h
  | n + 1, s, t, r, h => by
    unfold segRun at h
    unfold topRun
    have e : through t = (endAt 0 t).isSome := by
      obtain ⟨cur, code, pos, stack⟩ := t
      cases stack <;> cases cur <;> first | rfl | (rename_i f; cases f <;> rfl)
    cases he : endAt 0 t with
    | some f => rw [he] at h; rw [e, he]; cases h; rfl
    | none =>
      rw [he] at h; rw [e, he]
      dsimp only [Option.isSome]
      cases hk : stepOk n₀ ann t with
      | false => rw [hk] at h; cases h
      | true =>
        rw [hk] at h
        cases hs : step (denote tb) p w s t with
        | halt o s₂ => rw [hs] at h; cases h
        | go s₂ t₂ => rw [hs] at h; exact seg_zero n s₂ t₂ r h
noncomputable def openT (p : Program) (w : World) (k : Nat) : Option Shared :=
  match impGoT treeTable (opening p) w k ⟨.nil, 0, {}, #[], {}, 1, (start (opening p)).1.os⟩ (start (opening p)).2 with
  | some (s, t) => match t.atExitBegin with
    | some [] => fenceModules? p s.abs
    | _ => none
  | none => none
noncomputable def topT (p : Program) (w : World) (m₀ : Nat) (ann : Option Value) (k₀ M : Nat) (s₀ : Shared) : Option SharedT :=
  match build s₀.heap.objs.toList .nil 0 with
  | some (t, _) => match segRunT treeTable p w m₀ ann 0 M ⟨t, m₀, s₀.heap.life, s₀.gens, s₀.drawn, k₀, s₀.os⟩ (topStub p) with
    | some (_, s, _, _) => some s
    | none => none
  | none => none
theorem open_T {p : Program} {w : World} {k N : Nat} {s₀ : Shared} (h : openT p w k = some s₀) (le : Nat.ble (k + 1) N = true) : fencedOpening treeTable p w N = some s₀ := by
  unfold openT at h
  cases e : impGoT treeTable (opening p) w k ⟨.nil, 0, {}, #[], {}, 1, (start (opening p)).1.os⟩ (start (opening p)).2 with
  | none => rw [e] at h; cases h
  | some r =>
    obtain ⟨s, t⟩ := r
    rw [e] at h
    dsimp only at h
    have g := impGo_of e
    cases ha : t.atExitBegin with
    | none => rw [ha] at h; cases h
    | some l =>
      rw [ha] at h
      cases l with
      | cons _ _ => cases h
      | nil =>
        dsimp only at h
        have one : importEnds treeTable (opening p) w 1 s.abs t = some s.abs := by unfold importEnds; rw [ha]
        have a := imp_go g one
        have m := importEnds_mono (N - (k + 1)) _ _ _ _ a
        rw [show k + 1 + (N - (k + 1)) = N by have := Nat.le_of_ble_eq_true le; omega] at m
        unfold fencedOpening
        have z : ((⟨.nil, 0, {}, #[], {}, 1, (start (opening p)).1.os⟩ : SharedT).abs) = (start (opening p)).1 := rfl
        rw [z] at m
        rw [m]
        exact h
theorem top_T {p : Program} {w : World} {m₀ k₀ M N : Nat} {ann : Option Value} {s₀ : Shared} {s : SharedT} (h : topT p w m₀ ann k₀ M s₀ = some s) (le : Nat.ble M N = true)
    (e1 : (s₀.heap.isNs mainGlobals && s₀.gens.size == 0) = true) (e2 : s₀.heap.objs.size = m₀) (e3 : s₀.heap.nsMap mainGlobals "__annotations__" = ann) (e4 : s₀.toks = k₀)
    (l1 : (staticsOk (importedModules p.main.body) s₀.heap s.abs.heap && namesBound p s.abs.heap && gensDone s.abs && laidKept s₀.heap s.abs.heap) = true) : topFrom treeTable p w N s₀ = some s.abs := by
  unfold topT at h
  cases e : build s₀.heap.objs.toList .nil 0 with
  | none => rw [e] at h; cases h
  | some r =>
    obtain ⟨t, n'⟩ := r
    rw [e] at h
    dsimp only at h
    have b := build_spec _ _ _ _ _ s₀.heap.life e
    have b' : absHeap t n' s₀.heap.life = s₀.heap := by
      rw [b]
      have z : (absHeap .nil 0 s₀.heap.life).objs = #[] := rfl
      rw [z]
      simp
    have n1 : n' = m₀ := by rw [← e2, ← b', absHeap_size, ]
    subst n1
    cases q : segRunT treeTable p w n' ann 0 M ⟨t, n', s₀.heap.life, s₀.gens, s₀.drawn, k₀, s₀.os⟩ (topStub p) with
    | none => rw [q] at h; cases h
    | some r =>
      obtain ⟨f, s', c, po⟩ := r
      rw [q] at h
      cases h
      have a := seg_zero _ _ _ _ (segRun_of q)
      have z : (⟨t, n', s₀.heap.life, s₀.gens, s₀.drawn, k₀, s₀.os⟩ : SharedT).abs = s₀ := by
        show (⟨absHeap t n' s₀.heap.life, _, _, _, _⟩ : Shared) = _
        rw [b', ← e4]
      rw [z] at a
      have m := topRun_mono (N - M) _ _ _ _ a
      rw [show M + (N - M) = N by have := Nat.le_of_ble_eq_true le; omega] at m
      unfold topFrom
      rw [e1, e2, e3, m]
      dsimp only [Option.bind]
      rw [l1]
theorem left_of {p q : Program} {loose : List Str} {Xt : Shared → Bool} {α : Type} {Yf : Shared → α} {Ya : World → α} {N : Nat} {g0 : Bool} (k m₀ k₀ M : Nat) (ann : Option Value)
    (le1 : Nat.ble (k + 1) N = true) (le2 : Nat.ble M N = true)
    (h : ∀ w : World, (match openT p w k with
      | some s₀ => match topT p w m₀ ann k₀ M s₀ with
        | some s => some ((s₀.heap.isNs mainGlobals && s₀.gens.size == 0, s₀.heap.objs.size, s₀.heap.nsMap mainGlobals "__annotations__", s₀.toks),
            staticsOk (importedModules p.main.body) s₀.heap s.abs.heap && namesBound p s.abs.heap && gensDone s.abs && laidKept s₀.heap s.abs.heap, openSeen q loose (importedModules p.main.body) Xt g0 s.abs, Yf s.abs)
        | none => none
      | none => none) = some ((true, m₀, ann, k₀), true, openGood q loose, Ya w)) : LeftO p q loose Xt Yf Ya N g0 := fun w => by
  have h := h w
  cases e : openT p w k with
  | none => rw [e] at h; cases h
  | some s₀ =>
    rw [e] at h
    dsimp only at h
    cases e' : topT p w m₀ ann k₀ M s₀ with
    | none => rw [e'] at h; cases h
    | some s =>
      rw [e'] at h
      simp only [Option.some.injEq, Prod.mk.injEq] at h
      obtain ⟨⟨h1, h2, h3, h4⟩, h5, h6, h7⟩ := h
      unfold openEnds
      rw [open_T e le1]
      show (topFrom treeTable p w N s₀).map _ = _
      rw [top_T e' le2 h1 h2 h3 h4 h5]
      exact congrArg some (Prod.ext h6 h7)
noncomputable def getT (s : SharedT) (a : Nat) : Option Obj := match Nat.blt a s.n with
  | true => alive ((s.tree.get a).getD default)
  | false => none
theorem get_T (s : SharedT) : s.abs.heap.get? = getT s := by
  funext a
  show (absHeap s.tree s.n s.life).get? a = _
  unfold getT Heap.get?
  rw [absHeap_at]
  cases e : Nat.blt a s.n with
  | true =>
    have lt : a < s.n := Nat.le_of_ble_eq_true e
    rw [if_pos lt]
    dsimp only
    generalize (s.tree.get a).getD default = o
    obtain ⟨c, d, dt, sl⟩ := o
    cases dt <;> rfl
  | false =>
    have lt : ¬ a < s.n := fun q => by rw [show Nat.blt a s.n = true from Nat.ble_eq_true_of_le q] at e; cases e
    rw [if_neg lt]
theorem obs_T {K : Params → Frag} {as : List Addr} (e : ∀ P, as = (K P).map (·.1)) (s : SharedT) : (kHook K as e).obs s.abs = as.map (getT s) := congrArg (fun f => as.map f) (get_T s)
noncomputable def RunOk {α : Type} (p q : Program) (loose : List Str) (Xt : Shared → Bool) (g0 : Bool) (Yg : SharedT → α) (Ya : World → α)
    (I : (String → Option Builtin) → Program → World → Nat → SharedT → Thread → Option (SharedT × Thread)) (TT : String → Option Builtin) (ST : Program → Shared × Thread) (AE : Thread → Option (List Value))
    (FM : Program → Shared → Option Shared) (SR : (String → Option Builtin) → Program → World → Nat → Option Value → Nat → Nat → SharedT → Thread → Option (Flow × SharedT × Code × Pos))
    (OS : Program → List Str → List Str → (Shared → Bool) → Bool → Shared → (Seen × (Option Str × List (Str × Value)) × Bool × Bool × (List (Option FnShape) × Bool) × List (Option PlainShape) × List (Option (PlainShape × Bool)) × (List (Option FnShape) × Bool) × List (Option (List (Option FnShape) × Bool) × Option (PlainShape × Bool))))
    (k m₀ k₀ M : Nat) (ann : Option Value) : Prop :=
  ∀ w : World, (match (match I TT (opening p) w k ⟨.nil, 0, {}, #[], {}, 1, (ST (opening p)).1.os⟩ (ST (opening p)).2 with
        | some (s, t) => match AE t with
          | some [] => FM p s.abs
          | _ => none
        | none => none) with
      | some s₀ => match build s₀.heap.objs.toList .nil 0 with
        | some (t, _) => match SR TT p w m₀ ann 0 M ⟨t, m₀, s₀.heap.life, s₀.gens, s₀.drawn, k₀, s₀.os⟩ (topStub p) with
          | some (_, s, _, _) => some ((s₀.heap.isNs mainGlobals && s₀.gens.size == 0, s₀.heap.objs.size, s₀.heap.nsMap mainGlobals "__annotations__", s₀.toks),
            staticsOk (importedModules p.main.body) s₀.heap s.abs.heap && namesBound p s.abs.heap && gensDone s.abs && laidKept s₀.heap s.abs.heap, OS q loose (importedModules p.main.body) Xt g0 s.abs, Yg s)
          | none => none
        | none => none
      | none => none) = some ((true, m₀, ann, k₀), true, openGood q loose, Ya w)
theorem left_fast {p q : Program} {loose : List Str} {Xt : Shared → Bool} {α : Type} {Yf : Shared → α} {Ya : World → α} {N : Nat} {g0 : Bool}
    {I : (String → Option Builtin) → Program → World → Nat → SharedT → Thread → Option (SharedT × Thread)} {TT : String → Option Builtin} {ST : Program → Shared × Thread} {AE : Thread → Option (List Value)}
    {FM : Program → Shared → Option Shared} {SR : (String → Option Builtin) → Program → World → Nat → Option Value → Nat → Nat → SharedT → Thread → Option (Flow × SharedT × Code × Pos)}
    {OS : Program → List Str → List Str → (Shared → Bool) → Bool → Shared → _} {Yg : SharedT → α} (eY : ∀ s : SharedT, Yf s.abs = Yg s)
    (eI : @impGoT = I) (eT : @treeTable = TT) (eS : @start = ST) (eA : @Thread.atExitBegin = AE) (eF : @fenceModules? = FM) (eR : @segRunT = SR) (eO : @openSeen = OS)
    (k m₀ k₀ M : Nat) (ann : Option Value) (le1 : Nat.ble (k + 1) N = true) (le2 : Nat.ble M N = true)
    (h : RunOk p q loose Xt g0 Yg Ya I TT ST AE FM SR OS k m₀ k₀ M ann) : LeftO p q loose Xt Yf Ya N g0 := by
  subst eI eT eS eA eF eR eO
  refine left_of k m₀ k₀ M ann le1 le2 fun w => ?_
  have h := h w
  have e0 : openT p w k = (match impGoT treeTable (opening p) w k ⟨.nil, 0, {}, #[], {}, 1, (start (opening p)).1.os⟩ (start (opening p)).2 with
        | some (s, t) => match t.atExitBegin with
          | some [] => fenceModules? p s.abs
          | _ => none
        | none => none) := rfl
  rw [← e0] at h
  cases e : openT p w k with
  | none => rw [e] at h; cases h
  | some s₀ =>
    rw [e] at h
    dsimp only at h ⊢
    unfold topT
    cases e1 : build s₀.heap.objs.toList .nil 0 with
    | none => rw [e1] at h; cases h
    | some r =>
      obtain ⟨t, n⟩ := r
      rw [e1] at h
      dsimp only at h ⊢
      cases e2 : segRunT treeTable p w m₀ ann 0 M ⟨t, m₀, s₀.heap.life, s₀.gens, s₀.drawn, k₀, s₀.os⟩ (topStub p) with
      | none => rw [e2] at h; cases h
      | some r =>
        obtain ⟨f, s, c, o⟩ := r
        rw [e2] at h
        dsimp only at h ⊢
        rw [eY s]
        exact h
noncomputable def hdQ : Program := view PySem.Challenge.pw_nq0177_02 [0, 1, 3, 5, 6, 7, 8, 9, 10, 11, 12, 14, 15, 16, 17, 18, 19, 21, 23, 24, 25, 26, 27]
theorem hd_said : OpenLaw.wellSaid PySem.Challenge.rw_nq0177_02 = true := by
  rw [PySem.W.Fast.te9446332074065402090]
  kernel_rfl
theorem hd_bare : PySem.Challenge.rw_nq0177_02.row.prog.bare := ⟨rfl, rfl, rfl, rfl, rfl, by decide +kernel⟩
theorem hd_ok : (chainsOk hdQ && opensWell PySem.Challenge.rw_nq0177_02.row.prog && (frees PySem.Challenge.rw_nq0177_02.row.toRowW && PySem.Challenge.rw_nq0177_02.row.within.isEmpty)) = true := by kernel_rfl
theorem hd_holds {H : Hook} {Yg : SharedT → H.α} (eY : ∀ s : SharedT, H.obs s.abs = Yg s) {d : DefRec} {kwd : List (Str × Expr)} (hdef : defOf hdQ PySem.Challenge.rw_nq0177_02.row.name = some (d, kwd))
    (hp : PySem.Challenge.rw_nq0177_02.row.prog.theDef PySem.Challenge.rw_nq0177_02.row.name = some (d.params, d.body, d.scope)) (hk : kwWritten? d.params.kwonlyargs d.params.kw_defaults = some kwd)
    (run : RunOk PySem.Challenge.rw_nq0177_02.row.prog hdQ [Str.ofString "UnsupportedOperation", Str.ofString "IOBase", Str.ofString "BufferedIOBase", Str.ofString "TextIOBase", Str.ofString "BytesIO", Str.ofString "StringIO", Str.ofString "shlex"] (fun s => xlAt hdQ [] s && recOk [] s) true Yg H.val PySem.W.Fast.tw14789777615569096658 PySem.W.Fast.tw14364793385576792824 PySem.W.Fast.tw1435165496053646825 PySem.W.Fast.tw3805553451399329143 PySem.W.Fast.tw14289696077712309145 PySem.W.Fast.tw10110043849684766642 PySem.W.Fast.tw4187177175401517315 828 29 273 4990 (some (.ref 6)))
    (said : PySem.Challenge.rw_nq0177_02.row.wellSaid = true) (hw : PySem.Challenge.rw_nq0177_02.row.toRowW.promised)
    (hc : WalkO hdQ [Str.ofString "UnsupportedOperation", Str.ofString "IOBase", Str.ofString "BufferedIOBase", Str.ofString "TextIOBase", Str.ofString "BytesIO", Str.ofString "StringIO", Str.ofString "shlex"] (XL hdQ []) H.says PySem.Challenge.rw_nq0177_02.row.toRowW d kwd fun f vs => PySem.call f vs) : PySem.Challenge.rw_nq0177_02.row.Holds :=
  holds_open (q := hdQ) (Xt := fun s => xlAt hdQ [] s && recOk [] s) (XP := XL hdQ []) (Yf := H.obs) (Ya := H.val) (YP := H.says) (N := 9880)
    (left_fast eY PySem.W.Fast.te14789777615569096658 PySem.W.Fast.te14364793385576792824 PySem.W.Fast.te1435165496053646825 PySem.W.Fast.te3805553451399329143 PySem.W.Fast.te14289696077712309145 PySem.W.Fast.te10110043849684766642 PySem.W.Fast.te4187177175401517315 828 29 273 4990 (some (.ref 6)) (by rfl) (by rfl) run)
    H.of H.keeps (fun s e => xl_of s (Bool.and_eq_true_iff.mp e).1) XL.keeps hdef hp hk (fun s e => recFacts_of (Bool.and_eq_true_iff.mp e).2) (by rfl) said hd_ok hd_bare hw hc
local macro_rules | `(tactic| o_law) => `(tactic| refine holds_law hd_said fun said => ?_)
local macro_rules | `(tactic| o_head $H) => do
  let hw := Lean.mkIdent `hw
  let hc := Lean.mkIdent `hc
  `(tactic| refine hd_holds (H := $H) (obs_T _) (by rfl) (by rfl) (by rfl) (by intro w; kernel_rfl) (by assumption) ?$hw ?$hc)
open_top hd2 for PySem.Challenge.rw_nq0177_02
local macro_rules | `(tactic| k_qdec) => `(tactic| first | (rw [PySem.W.Fast.te17448422675489707002]; kernel_rfl) | (rw [PySem.W.Fast.te2458874890965802552]; kernel_rfl))
local macro_rules | `(tactic| walk_at "my frames") => `(tactic| first | assumption | exact Around.frames_deeper (by walk_at "my frames") | exact rfl)
local macro_rules | `(tactic| walk_at "my room") => `(tactic| ((try simp only [depth_under_make, depth_under_kw, depth_in1, depth_deeper, depth_caller]); omega))
local macro_rules | `(tactic| walk_at "my enter0") => `(tactic| (refine' code_def ?k1 ?k2 ?k3 ?k4 ?k5 ?kA ?kF ?kK ?k6 ?k7 ?k8 ?k9 ?kB ?_ ?c2 ?c3 ?c4 ?c5; (case kA => walk_at "my frames"); (case kF => first | assumption | exact rfl); (case kK => first | assumption | exact rfl); (case k1 => k_asm); (case k2 => k_asm); (case k3 => k_asm); (case k4 => k_asm); (case k5 => k_asm); (case k6 => k_is); (case k7 => k_is); (case k8 => walk_at "my room"); (case k9 => first | exact BindsTo.of_eq rfl | exact binds_K (by k_in) rfl (by k_is) rfl rfl rfl | fail "k_enter: no rule for these arguments"); (case c5 => decide); (case kB => exact locs rfl); (case c2 => exact rfl); (case c3 => exact rfl); (case c4 => exact rfl); k_whole))
local macro_rules | `(tactic| walk_at "my enter") => `(tactic| (walk_at "my enter0"; intro g' L' h' FG' F' N' B' X' T'; (try dsimp only); (try k_lift B'); (try k_fold)))
local macro_rules | `(tactic| walk_at "call ref") => `(tactic| (k_here; k_dflt (first
  | (refine' call_meth ?k1 ?k2 ?_; (case k1 => k_asm); (case k2 => k_mem); k_whole; walk_at "my enter")
  | (refine wpAny_call ?_; walk_at "my enter"))))
theorem fillK : (hd2.heap_1 = hd2.heap_1) ∧ PySem.Challenge.rw_nq0177_02 = PySem.Challenge.rw_nq0177_02 := by
  w_top off
  k_fill
  exact ⟨rfl, rfl⟩
noncomputable abbrev PG := PySem.Challenge.rw_nq0177_02.row.prog
/-- a text out of its signs -/
noncomputable def mkS (l : List Nat) : Str := ⟨l.toArray⟩
theorem mkS_length (l : List Nat) : (mkS l).length = l.length := by simp [mkS, Str.length]
theorem mkS_cps (l : List Nat) : (mkS l).cps.toList = l := by simp [mkS]
theorem slice_nat (x : Str) {a b : Nat} (hab : a ≤ b) (hb : b ≤ x.length) : PySem.Txt.slice x (some (a : Int)) (some (b : Int)) = mkS ((x.cps.toList.drop a).take (b - a)) :=
  StrLaws.sliceText_nat x hab hb
/-- the sign at p, or nothing behind the end -/
noncomputable def chAt (x : Str) (p : Nat) : Str := mkS ((x.cps.toList.drop p).take 1)
noncomputable def nxt (x : Str) (p : Nat) : Nat := if p < x.length then p + 1 else p
structure Amb (w : World) (A : Around) (base h₀ : Heap) (outer : List Env) (env : Env) (L : Addr) (mg mb : Str → Option Value) (mean : ExcName → Option Value) (loose : List Str) (room : Nat) : Prop where
  B : ∃ A₀, Below A₀ base outer h₀
  X : (hd2.heap_1 w.params).In h₀
  T : Top hdQ loose mean mg mb h₀
  hA : A.frames = some (env :: outer)
  hf : env.frame = some L
  hk : env.scope.kind = .function
  hroom : A.depth + room < recursionLimit
  hh : A.handled = none
noncomputable abbrev sioD (kh : Nat → Int) (kt vt : Nat → Tok) (buf : Str) (p : Nat) (t : Tok) : List DictEntry :=
  [⟨kh 100, .str (Str.ofString "_StringIO__newline") (kt 100), .str (Str.ofString "\n") (vt 100)⟩, ⟨kh 101, .str (Str.ofString "_StringIO__buf") (kt 101), .str buf (vt 101)⟩, ⟨kh 102, .str (Str.ofString "_StringIO__pos") (kt 102), .int (p : Int) t⟩]
noncomputable abbrev lexD (kh : Nat → Int) (kt vt : Nat → Tok) (y pb fs : Addr) (com ws quotes : Str) (split : Bool) (state : Value) (lineno : Int) (t1 : Tok) (token : Str) (t2 : Tok) : List DictEntry :=
  [⟨kh 0, .str (Str.ofString "instream") (kt 0), .ref y⟩,
   ⟨kh 1, .str (Str.ofString "infile") (kt 1), .none⟩,
   ⟨kh 2, .str (Str.ofString "posix") (kt 2), .bool false⟩,
   ⟨kh 3, .str (Str.ofString "eof") (kt 3), .str (Str.ofString "") (vt 3)⟩,
   ⟨kh 4, .str (Str.ofString "commenters") (kt 4), .str com (vt 4)⟩,
   ⟨kh 5, .str (Str.ofString "wordchars") (kt 5), .str (Str.ofString "abcdfeghijklmnopqrstuvwxyzABCDEFGHIJKLMNOPQRSTUVWXYZ0123456789_") (vt 5)⟩,
   ⟨kh 6, .str (Str.ofString "whitespace") (kt 6), .str ws (vt 6)⟩,
   ⟨kh 7, .str (Str.ofString "whitespace_split") (kt 7), .bool split⟩,
   ⟨kh 8, .str (Str.ofString "quotes") (kt 8), .str quotes (vt 8)⟩,
   ⟨kh 9, .str (Str.ofString "escape") (kt 9), .str (Str.ofString "\\") (vt 9)⟩,
   ⟨kh 10, .str (Str.ofString "escapedquotes") (kt 10), .str (Str.ofString "\"") (vt 10)⟩,
   ⟨kh 11, .str (Str.ofString "state") (kt 11), state⟩,
   ⟨kh 12, .str (Str.ofString "pushback") (kt 12), .ref pb⟩,
   ⟨kh 13, .str (Str.ofString "lineno") (kt 13), .int lineno t1⟩,
   ⟨kh 14, .str (Str.ofString "debug") (kt 14), .int 0 (vt 14)⟩,
   ⟨kh 15, .str (Str.ofString "token") (kt 15), .str token t2⟩,
   ⟨kh 16, .str (Str.ofString "filestack") (kt 16), .ref fs⟩,
   ⟨kh 17, .str (Str.ofString "source") (kt 17), .none⟩,
   ⟨kh 18, .str (Str.ofString "_punctuation_chars") (kt 18), .str (Str.ofString "") (vt 18)⟩]
section
variable {w : World} {A : Around} {s : Shared} {base h₀ : Heap} {outer : List Env} {L : Addr} {m : Str → Option Value} {env : Env} {mg mb : Str → Option Value} {mean : ExcName → Option Value} {R : Result → Shared → Prop} {loose : List Str}
  {y dy x dx pb fs : Addr} {kh : Nat → Int} {kt vt : Nat → Tok} {buf : Str} {p : Nat} {t0 t1 t2 t3 : Tok} {com ws quotes token : Str} {split : Bool} {lineno : Int} {rest : List (Addr × Obj)} {room : Nat}
end
local macro_rules | `(tactic| k_all) => `(tactic| assumption)
section
variable {w : World} {A : Around} {s : Shared} {base h₀ : Heap} {outer : List Env} {L : Addr} {m : Str → Option Value} {env : Env} {mg mb : Str → Option Value} {mean : ExcName → Option Value} {R : Result → Shared → Prop} {loose : List Str}
  {y dy x dx pb fs : Addr} {kh : Nat → Int} {kt vt : Nat → Tok} {buf : Str} {p : Nat} {t0 t1 t2 t3 : Tok} {com ws quotes token : Str} {split : Bool} {lineno : Int} {rest : List (Addr × Obj)} {room : Nat}
theorem read_spec (C : Amb w A base h₀ outer env L mg mb mean loose 4) (F : Fr h₀ L s.heap m) {t4 : Tok}
  (N : News h₀ L s.heap ((y, instObj 594 dy) :: (dy, dictOf (sioD kh kt vt buf p t3) 3) :: rest))
  (hne : @Ne Nat y dy) (hr1 : ∀ p ∈ rest, p.1 ≠ dy) (hb : buf.length ≤ 1048576) (hp : p ≤ buf.length)
  (h : ∀ h' tk t t', Fr h₀ L h' m → News h₀ L h' ((y, instObj 594 dy) :: (dy, dictOf (sioD kh kt vt buf (nxt buf p) t') 3) :: rest) → R (.ok (.ret (.str (chAt buf p) t))) { s with heap := h', toks := tk }) :
  codeAny (model PySem.Challenge.rw_nq0177_02.row.prog w) A (.call (.ref 540) ⟨[.ref y, .int 1 t4], []⟩) R s := by
  obtain ⟨⟨A₀, B⟩, X₀, T, hA, hf, hk, hroom, hh⟩ := C
  walk_at "my enter"
  k_steps
  · have e : chAt buf p = Str.ofString "" := by
      have : buf.cps.toList.drop p = [] := List.drop_eq_nil_of_le (by simp only [Str.length] at *; simp; omega)
      unfold chAt; rw [this]; decide +kernel
    have e2 : nxt buf p = p := if_neg (by omega)
    rw [← e]; exact h _ _ _ t3 (by assumption) (by rw [e2]; assumption)
  · have e : PySem.Txt.slice buf (some ((p : Nat) : Int)) (some ((p : Nat) + 1 : Int)) = chAt buf p := by
      have := slice_nat buf (a := p) (b := p + 1) (by omega) (by omega)
      rw [show p + 1 - p = 1 from by omega] at this
      exact this
    have e2 : nxt buf p = p + 1 := if_pos (by omega)
    rw [e]; exact h _ _ _ _ (by assumption) (by rw [e2]; assumption)
  · have e3 : buf.length = p + 1 := by omega
    have e : PySem.Txt.slice buf (some ((p : Nat) : Int)) (some ((buf.length : Nat) : Int)) = chAt buf p := by
      have := slice_nat buf (a := p) (b := p + 1) (by omega) (by omega)
      rw [show p + 1 - p = 1 from by omega] at this
      rw [e3]; exact this
    have e2 : nxt buf p = buf.length := by rw [nxt, if_pos (by omega)]; omega
    rw [e]; exact h _ _ _ _ (by assumption) (by rw [e2]; assumption)
theorem punct_spec (C : Amb w A base h₀ outer env L mg mb mean loose 2) (F : Fr h₀ L s.heap m) {state : Value} {n1 n2 : Obj}
  (N : News h₀ L s.heap ((y, n1) :: (dy, n2) :: (x, instObj 729 dx) :: (dx, dictOf (lexD kh kt vt y pb fs com ws quotes split state lineno t1 token t2) 19) :: rest))
  (h : ∀ h' tk, Fr h₀ L h' m → News h₀ L h' ((y, n1) :: (dy, n2) :: (x, instObj 729 dx) :: (dx, dictOf (lexD kh kt vt y pb fs com ws quotes split state lineno t1 token t2) 19) :: rest) → R (.ok (.ret (.str (Str.ofString "") (vt 18)))) { s with heap := h', toks := tk }) :
  codeAny (model PySem.Challenge.rw_nq0177_02.row.prog w) A (.call (.ref 660) ⟨[.ref x], []⟩) R s := by
  obtain ⟨⟨A₀, B⟩, X₀, T, hA, hf, hk, hroom, hh⟩ := C
  walk_at "my enter"
  k_steps
  exact h _ _ (by assumption) (by assumption)
end
open Builtin Builtin.Str in
theorem gives_find_to (x y : Str) (i : Int) (t u v v' : Tok) : Gives («str.find» ⟨[.str x t, .str y u, .int i v, .int (x.length : Int) v'], []⟩) (.int (Txt.find3 x y i)) := by
  have e : fromIndex x.length (x.length : Int) = x.length := by unfold fromIndex; split <;> omega
  show Gives (match occurrences x y (fromIndex x.length i) (min (fromIndex x.length (x.length : Int)) x.length) 1 with | k :: _ => retInt k | [] => (do rule "str.find.not-found"; retInt (-1))) _
  rw [e, Nat.min_self]
  unfold Txt.find3
  cases occurrences x y (fromIndex x.length i) x.length 1 with
  | nil => exact .rule (.of_eq rfl)
  | cons k _ => exact .of_eq rfl
theorem find_to {prog : Program} {w : World} {A : Around} {E : Value → Shared → Prop} {s : Shared} {x y : Str} {t u v v' : Tok} {i : Int} {Q : Value → Shared → Prop} (hq : Q (.int (Txt.find3 x y i) s.toks) { s with toks := s.toks + 1 }) :
    wpAny (model prog w) A (call (.builtin "str.find") [.str x t, .str y u, .int i v, .int (x.length : Int) v']) Q E s :=
  call_gives F.slot_str_find (typeIs_str _ _ _) F.entry_str_find (F.args_str_find_4 _ _ _ _) (gives_find_to x y i t u v v') hq
local macro_rules | `(tactic| walk_at "call builtin:str.find") => `(tactic| refine find_to ?_)
/-- where the line that begins at p ends -/
noncomputable def lineEnd (x : Str) (p : Nat) : Nat := if p < x.length then (if Txt.find3 x (Str.ofString "\n") (p : Int) < 0 then x.length else (Txt.find3 x (Str.ofString "\n") (p : Int)).toNat + 1) else p
section
variable {w : World} {A : Around} {s : Shared} {base h₀ : Heap} {outer : List Env} {L : Addr} {m : Str → Option Value} {env : Env} {mg mb : Str → Option Value} {mean : ExcName → Option Value} {R : Result → Shared → Prop} {loose : List Str}
  {y dy x dx pb fs : Addr} {kh : Nat → Int} {kt vt : Nat → Tok} {buf : Str} {p : Nat} {t0 t1 t2 t3 : Tok} {com ws quotes token : Str} {split : Bool} {lineno : Int} {rest : List (Addr × Obj)} {room : Nat}
theorem readline_spec (C : Amb w A base h₀ outer env L mg mb mean loose 4) (F : Fr h₀ L s.heap m) 
  (N : News h₀ L s.heap ((y, instObj 594 dy) :: (dy, dictOf (sioD kh kt vt buf p t3) 3) :: rest))
  (hne : @Ne Nat y dy) (hr1 : ∀ p ∈ rest, p.1 ≠ dy) (hb : buf.length ≤ 1048576) (hp : p ≤ buf.length)
  (h : ∀ h' tk z t t', Fr h₀ L h' m → News h₀ L h' ((y, instObj 594 dy) :: (dy, dictOf (sioD kh kt vt buf (lineEnd buf p) t') 3) :: rest) → R (.ok (.ret (.str z t))) { s with heap := h', toks := tk }) :
  codeAny (model PySem.Challenge.rw_nq0177_02.row.prog w) A (.call (.ref 548) ⟨[.ref y], []⟩) R s := by
  obtain ⟨⟨A₀, B⟩, X₀, T, hA, hf, hk, hroom, hh⟩ := C
  have hfb := fact_find3 buf (Str.ofString "\n") (p : Int)
  walk_at "my enter"
  k_steps
  · have e : lineEnd buf p = p := if_neg (by omega)
    exact h _ _ _ _ t3 (by assumption) (by rw [e]; assumption)
  · have e : ((lineEnd buf p : Nat) : Int) = Txt.find3 buf (Str.ofString "\n") (p : Int) + 1 := by
      rw [lineEnd, if_pos (by omega), if_neg (by omega)]; omega
    exact h _ _ _ _ _ (by assumption) (by dsimp only [sioD]; rw [e]; assumption)
  · have e : lineEnd buf p = buf.length := by rw [lineEnd, if_pos (by omega), if_pos (by omega)]
    exact h _ _ _ _ _ (by assumption) (by rw [e]; assumption)
end
inductive LS where
  | dead | blank | word | quot (q : Nat)
noncomputable def LS.val (t : Tok) : LS → Value
  | .dead => .none
  | .blank => .str (Str.ofString " ") t
  | .word => .str (Str.ofString "a") t
  | .quot q => .str (mkS [q]) t
/-- is the sign in the text -/
noncomputable def hasC (x : Str) (c : Nat) : Bool := decide (c ∈ x.cps.toList)
theorem contains_one (x : Str) (c : Nat) : Txt.contains x (mkS [c]) = hasC x c := StrLaws.found_one x c
noncomputable abbrev wordS : Str := Str.ofString "abcdfeghijklmnopqrstuvwxyzABCDEFGHIJKLMNOPQRSTUVWXYZ0123456789_"
structure Pm where
  com : Str
  ws : Str
  quotes : Str
  split : Bool
inductive Out where
  | ok (rem : List Nat) (ln : Int) (st : LS) (res : List Nat) (push : Option Nat)
  | err
noncomputable def dropLine : List Nat → List Nat
  | [] => []
  | c :: r => if c = 10 then r else dropLine r
theorem dropLine_le : ∀ l, (dropLine l).length ≤ l.length
  | [] => Nat.le_refl _
  | c :: r => by
    unfold dropLine
    split
    · simp
    · have := dropLine_le r; simp; omega
noncomputable def nlc (c : Nat) : Int := if c = 10 then 1 else 0
noncomputable def rt (P : Pm) : List Nat → Int → LS → List Nat → Out
  | [], ln, .dead, _ => .ok [] ln .dead [] none
  | [], _, .quot _, _ => .err
  | [], ln, .blank, tok => .ok [] ln .dead tok none
  | [], ln, .word, tok => .ok [] ln .dead tok none
  | _ :: _, _, .dead, _ => .err
  | c :: r, ln, .blank, tok =>
    if hasC P.ws c then rt P r (ln + nlc c) .blank tok
    else if hasC P.com c then rt P (dropLine r) (ln + nlc c + 1) .blank tok
    else if hasC wordS c then rt P r (ln + nlc c) .word [c]
    else if hasC P.quotes c then rt P r (ln + nlc c) (.quot c) [c]
    else if P.split then rt P r (ln + nlc c) .word [c]
    else .ok r (ln + nlc c) .blank [c] none
  | c :: r, ln, .quot q, tok => if c = q then .ok r (ln + nlc c) .blank (tok ++ [c]) none else rt P r (ln + nlc c) (.quot q) (tok ++ [c])
  | c :: r, ln, .word, tok =>
    if hasC P.ws c then .ok r (ln + nlc c) .blank tok none
    else if hasC P.com c then rt P (dropLine r) (ln + nlc c + 1) .word tok
    else if hasC wordS c || hasC P.quotes c || P.split then rt P r (ln + nlc c) .word (tok ++ [c])
    else .ok r (ln + nlc c) .blank tok (some c)
termination_by l => l.length
decreasing_by all_goals (simp_wf; try have := dropLine_le r; try omega)
theorem rt_blank (P : Pm) (c : Nat) (r : List Nat) (ln : Int) (tok : List Nat) : rt P (c :: r) ln .blank tok =
    if hasC P.ws c then rt P r (ln + nlc c) .blank tok
    else if hasC P.com c then rt P (dropLine r) (ln + nlc c + 1) .blank tok
    else if hasC wordS c then rt P r (ln + nlc c) .word [c]
    else if hasC P.quotes c then rt P r (ln + nlc c) (.quot c) [c]
    else if P.split then rt P r (ln + nlc c) .word [c]
    else .ok r (ln + nlc c) .blank [c] none := by rw [rt]
theorem rt_quot (P : Pm) (c : Nat) (r : List Nat) (ln : Int) (q : Nat) (tok : List Nat) : rt P (c :: r) ln (.quot q) tok =
    if c = q then .ok r (ln + nlc c) .blank (tok ++ [c]) none else rt P r (ln + nlc c) (.quot q) (tok ++ [c]) := by rw [rt]
theorem rt_word (P : Pm) (c : Nat) (r : List Nat) (ln : Int) (tok : List Nat) : rt P (c :: r) ln .word tok =
    if hasC P.ws c then .ok r (ln + nlc c) .blank tok none
    else if hasC P.com c then rt P (dropLine r) (ln + nlc c + 1) .word tok
    else if hasC wordS c || hasC P.quotes c || P.split then rt P r (ln + nlc c) .word (tok ++ [c])
    else .ok r (ln + nlc c) .blank tok (some c) := by rw [rt]
theorem rt_blank_nil (P : Pm) (ln : Int) (tok : List Nat) : rt P [] ln .blank tok = .ok [] ln .dead tok none := by rw [rt]
theorem rt_word_nil (P : Pm) (ln : Int) (tok : List Nat) : rt P [] ln .word tok = .ok [] ln .dead tok none := by rw [rt]
theorem rt_dead_nil (P : Pm) (ln : Int) (tok : List Nat) : rt P [] ln .dead tok = .ok [] ln .dead [] none := by rw [rt]
theorem rt_quot_nil (P : Pm) (ln : Int) (q : Nat) (tok : List Nat) : rt P [] ln (.quot q) tok = .err := by rw [rt]
noncomputable def okSt (P : Pm) (st : LS) (rem tok : List Nat) : Prop := match st with
  | .dead => rem = [] ∧ tok = []
  | .blank => tok = []
  | .word => tok ≠ []
  | .quot q => hasC P.quotes q = true ∧ tok ≠ []
theorem mkS_append (a b : List Nat) : mkS a ++ mkS b = mkS (a ++ b) := by
  show Str.mk (a.toArray ++ b.toArray) = Str.mk (a ++ b).toArray
  simp
theorem mkS_nil : mkS [] = Str.ofString "" := by decide +kernel
theorem mkS_inj {a b : List Nat} (h : mkS a = mkS b) : a = b := by
  have := congrArg (fun x => x.cps.toList) h
  simpa [mkS] using this
theorem chAt_at {buf : Str} {pre : List Nat} {c : Nat} {r : List Nat} (h : buf = mkS (pre ++ c :: r)) : chAt buf pre.length = mkS [c] := by
  subst h; simp [chAt, mkS_cps]
theorem chAt_end {buf : Str} {pre : List Nat} (h : buf = mkS (pre ++ [])) : chAt buf pre.length = Str.ofString "" := by
  subst h; rw [← mkS_nil]; simp [chAt, mkS_cps]
theorem nxt_at {buf : Str} {pre : List Nat} {c : Nat} {r : List Nat} (h : buf = mkS (pre ++ c :: r)) : nxt buf pre.length = (pre ++ [c]).length := by
  subst h; simp [nxt, mkS_length]
theorem nxt_end {buf : Str} {pre : List Nat} (h : buf = mkS (pre ++ [])) : nxt buf pre.length = pre.length := by
  subst h; simp [nxt, mkS_length]
theorem dropLine_split : ∀ r : List Nat, ∃ u, r = u ++ dropLine r
  | [] => ⟨[], rfl⟩
  | c :: r => by
    unfold dropLine
    split
    · exact ⟨[c], rfl⟩
    · obtain ⟨u, h⟩ := dropLine_split r
      exact ⟨c :: u, by rw [List.cons_append, ← h]⟩
noncomputable abbrev lm (x : Addr) (q : Bool) (te : Tok) (nc : Option Value) : Str → Option Value := fun y => if y = Str.ofString "nextchar" then nc else if y = Str.ofString "escapedstate" then some (.str (Str.ofString " ") te) else if y = Str.ofString "quoted" then some (.bool q) else if y = Str.ofString "self" then some (.ref x) else none
theorem fr_congr {h₀ h : Heap} {L : Addr} {m m' : Str → Option Value} (F : Fr h₀ L h m) (e : ∀ y, m y = m' y) : Fr h₀ L h m' := by
  have : m = m' := funext e
  subst this; exact F
noncomputable abbrev dqObj (k : Int) (xs : List Value) : Obj := { cls := .type "collections.deque", data := .fields (Value.none :: Value.int k 0 :: xs).toArray }
noncomputable def StepQ (I : Nat → Shared → Prop) (P : Shared → Prop) (n : Nat) (f : Flow) (s₃ : Shared) : Prop := match f with
            | .next | .cont => ∃ k, k < n ∧ I k s₃
            | .brk => P s₃
            | .ret _ => False
theorem While_brk {prog : Program} {w : World} {A : Around} {E : Value → Shared → Prop} {Q : Flow → Shared → Prop} {s : Shared} {env : Env}
    {test : Expr} {body : List Stmt} {pos : Pos} (I : Nat → Shared → Prop) (P : Shared → Prop) (n₀ : Nat) (hI : I n₀ s)
    (turn : ∀ n s, I n s → wpAny (model prog w) A (isTrue test env (eval test env)) (fun b s₂ => if b = true then wpAny (model prog w) A (execs body env) (StepQ I P n) E s₂ else False) E s)
    (after : ∀ s', P s' → Q .next s')
    (hE : PassesOwn (model prog w) A env E := by passes_own) :
    wpAny (model prog w) A (exec (.While test body [] pos) env) Q E s := by
  refine wpAny_While (codeAny_whileLoop I ?_ n₀ hI)
  intro n s hn
  refine wpAny_mono (turn n s hn) (fun b s₂ h₂ => ?_) hE
  cases b with
  | false => exact h₂.elim
  | true =>
    simp only [if_true] at h₂ ⊢
    refine wpAny_mono h₂ (fun f s₃ h₃ => ?_) hE
    cases f with
    | next => exact h₃
    | cont => exact h₃
    | brk => exact after _ h₃
    | ret v => exact h₃.elim
local macro_rules | `(tactic| walk_at "my amb") => `(tactic| (refine' ⟨⟨_, ?b⟩, ?x, ?t, ?a, ?f, ?k, ?r, ?hh⟩; (case hh => first | assumption | exact rfl); (case a => walk_at "my frames"); (case f => first | assumption | exact rfl); (case k => first | assumption | exact rfl); (case b => k_asm); (case x => k_asm); (case t => k_asm); (case r => walk_at "my room")))
local macro_rules | `(tactic| walk_at "getAttr ref") => `(tactic| (k_here; (with_reducible show wpAny _ _ (getAttr (Value.ref _) (PySem.Str.ofString "punctuation_chars") _) _ _ _); k_dflt (refine' get_prop ?k1 ?k2 ?k3 ?k4 ?k5 ?k6 ?k7 ?k8 ?k9 ?_; (case k1 => k_asm); (case k2 => k_asm); (case k3 => k_inst); (case k4 => k_is); (case k5 => k_is); (case k6 => k_is); (case k7 => k_is); (case k8 => k_is); (case k9 => k_is); k_whole; refine' punct_spec ?C ?F ?N ?_; (case F => k_asm); (case N => k_asm); (case C => walk_at "my amb"); intro h' tk' F' N'; refine handed_on rfl ?_; (try dsimp only); (try k_sweep))))
local macro_rules | `(tactic| walk_at "exec If") => `(tactic| (k_here; refine wpAny_If ?_))
section
variable {prog : Program} {w : World} {A : Around} {E : Value → Shared → Prop} {s : Shared} {x : Str} {t u : Tok} {Q : Value → Shared → Prop} {c : Nat}
theorem in_one (h : Q (.bool (hasC x c)) s) : wpAny (model prog w) A (compareOp .In (.str (mkS [c]) u) (.str x t)) Q E s := in_str (by rw [show (!(Builtin.Str.occurrences x (mkS [c]) 0 x.length 1).isEmpty) = hasC x c from StrLaws.found_one x c]; exact h)
theorem in_one_no (e : hasC x c = false) (h : Q (.bool false) s) : wpAny (model prog w) A (compareOp .In (.str (mkS [c]) u) (.str x t)) Q E s := in_one (e ▸ h)
theorem in_one_yes (e : hasC x c = true) (h : Q (.bool true) s) : wpAny (model prog w) A (compareOp .In (.str (mkS [c]) u) (.str x t)) Q E s := in_one (e ▸ h)
theorem notin_one_yes (e : hasC x c = false) (h : Q (.bool true) s) : wpAny (model prog w) A (compareOp .NotIn (.str (mkS [c]) u) (.str x t)) Q E s := notIn_str (by rw [show (!(Builtin.Str.occurrences x (mkS [c]) 0 x.length 1).isEmpty) = hasC x c from StrLaws.found_one x c, e]; exact h)
theorem hasC_nil (c : Nat) : hasC (Str.ofString "") c = false := by rw [← mkS_nil]; simp [hasC, mkS_cps]
theorem in_a_no (e : hasC x 97 = false) (h : Q (.bool false) s) : wpAny (model prog w) A (compareOp .In (.str (Str.ofString "a") u) (.str x t)) Q E s := by
  rw [show Str.ofString "a" = mkS [97] from by decide +kernel]; exact in_one_no e h
end
local macro_rules | `(tactic| walk_at "compareOp In str str") => `(tactic| ((with_reducible show wpAny _ _ (compareOp CmpOp.In (Value.str (mkS [_]) _) (Value.str _ _)) _ _ _); first | refine in_one_no (hasC_nil _) ?_ | refine in_one_no (by with_reducible assumption) ?_ | refine in_one_yes (by with_reducible assumption) ?_ | refine in_one ?_))
theorem hasC_esc : hasC (Str.ofString "\\") 97 = false := by decide +kernel
local macro_rules | `(tactic| walk_at "compareOp In str str") => `(tactic| ((with_reducible show wpAny _ _ (compareOp CmpOp.In (Value.str (PySem.Str.ofString "a") _) (Value.str _ _)) _ _ _); first | refine in_a_no hasC_esc ?_ | refine in_a_no (by with_reducible assumption) ?_))
theorem iadd_mk {prog : Program} {w : World} {A : Around} {E : Value → Shared → Prop} {s : Shared} {a b : List Nat} {t u : Tok} {Q : Value → Shared → Prop} (hl : (mkS a).length ≤ 4096) (hl2 : (mkS b).length ≤ 4096) (h : ∀ t' k, Q (.str (mkS a ++ mkS b) t') { s with toks := k }) : wpAny (model prog w) A (inplaceOp .Add (.str (mkS a) t) (.str (mkS b) u)) Q E s :=
  SBL.iadd (fun t' k _ => h t' k) (by rw [sizeLine_eq]; omega)
local macro_rules | `(tactic| walk_at "inplaceOp Add str str") => `(tactic| ((with_reducible show wpAny _ _ (inplaceOp Operator.Add (Value.str (mkS _) _) (Value.str (mkS _) _)) _ _ _); k_dflt (refine iadd_mk (by with_reducible assumption) (Nat.le_of_ble_eq_true rfl) ?_; intro _ _)))
local macro_rules | `(tactic| walk_at "compareOp NotIn str str") => `(tactic| ((with_reducible show wpAny _ _ (compareOp CmpOp.NotIn (Value.str (mkS [_]) _) (Value.str _ _)) _ _ _); refine notin_one_yes (hasC_nil _) ?_))
section
variable {w : World} {A : Around} {s : Shared} {base h₀ : Heap} {outer : List Env} {L : Addr} {m : Str → Option Value} {env : Env} {mg mb : Str → Option Value} {mean : ExcName → Option Value} {R : Result → Shared → Prop} {loose : List Str}
  {y dy x dx pb fs : Addr} {kh : Nat → Int} {kt vt : Nat → Tok} {buf : Str} {p : Nat} {t0 t1 t2 t3 : Tok} {com ws quotes token : Str} {split : Bool} {lineno : Int} {rest : List (Addr × Obj)} {room : Nat}
theorem read_spec' (C : Amb w A base h₀ outer env L mg mb mean loose 4) (F : Fr h₀ L s.heap m) {t4 : Tok}
  (N : News h₀ L s.heap ((y, instObj 594 dy) :: (dy, dictOf (sioD kh kt vt buf p t3) 3) :: rest))
  (hne : @Ne Nat y dy) (hr1 : ∀ p ∈ rest, p.1 ≠ dy) (hb : buf.length ≤ 1048576) (hp : p ≤ buf.length) {z : Str} {p' : Nat} (hz : chAt buf p = z) (hn : nxt buf p = p')
  (h : ∀ h' tk t t', Fr h₀ L h' m → News h₀ L h' ((y, instObj 594 dy) :: (dy, dictOf (sioD kh kt vt buf p' t') 3) :: rest) → R (.ok (.ret (.str z t))) { s with heap := h', toks := tk }) :
  codeAny (model PySem.Challenge.rw_nq0177_02.row.prog w) A (.call (.ref 540) ⟨[.ref y, .int 1 t4], []⟩) R s := by
  subst hz hn; exact read_spec C F N hne hr1 hb hp h
theorem readline_spec' (C : Amb w A base h₀ outer env L mg mb mean loose 4) (F : Fr h₀ L s.heap m)
  (N : News h₀ L s.heap ((y, instObj 594 dy) :: (dy, dictOf (sioD kh kt vt buf p t3) 3) :: rest))
  (hne : @Ne Nat y dy) (hr1 : ∀ p ∈ rest, p.1 ≠ dy) (hb : buf.length ≤ 1048576) (hp : p ≤ buf.length) {p' : Nat} (hn : lineEnd buf p = p')
  (h : ∀ h' tk z t t', Fr h₀ L h' m → News h₀ L h' ((y, instObj 594 dy) :: (dy, dictOf (sioD kh kt vt buf p' t') 3) :: rest) → R (.ok (.ret (.str z t))) { s with heap := h', toks := tk }) :
  codeAny (model PySem.Challenge.rw_nq0177_02.row.prog w) A (.call (.ref 548) ⟨[.ref y], []⟩) R s := by
  subst hn; exact readline_spec C F N hne hr1 hb hp h
end
local macro_rules | `(tactic| walk_at "my ne") => `(tactic| first | with_reducible assumption | exact Ne.symm (by with_reducible assumption) | (with_reducible apply And.intro <;> walk_at "my ne") | fail)
local macro_rules | `(tactic| k_ne) => `(tactic| (refine neN ?_; (try dsimp only); walk_at "my ne"))
local macro_rules | `(tactic| walk_at "call ref") => `(tactic| (k_here; (with_reducible show wpAny _ _ (call (Value.ref 540) _) _ _ _); k_dflt (refine wpAny_call ?_; refine' read_spec' ?C ?F ?N ?h1 ?h2 ?h3 ?h4 ?h5 ?h6 ?_; (case F => k_asm); (case N => k_asm); (case C => walk_at "my amb"); (case h1 => first | walk_at "my ne" | omega); (case h2 => k_all); (case h3 => with_reducible assumption); (case h4 => with_reducible assumption); (case h5 => with_reducible assumption); (case h6 => with_reducible assumption); intro h' tk' t' t2' F' N'; (try dsimp only); (try k_sweep))))
local macro_rules | `(tactic| walk_at "call ref") => `(tactic| (k_here; (with_reducible show wpAny _ _ (call (Value.ref 548) _) _ _ _); k_dflt (refine wpAny_call ?_; refine' readline_spec' ?C ?F ?N ?h1 ?h2 ?h3 ?h4 ?h5 ?_; (case F => k_asm); (case N => k_asm); (case C => walk_at "my amb"); (case h1 => first | walk_at "my ne" | omega); (case h2 => k_all); (case h3 => with_reducible assumption); (case h4 => with_reducible assumption); (case h5 => with_reducible assumption); intro h' tk' z' t' t2' F' N'; (try dsimp only); (try k_sweep))))
local macro_rules | `(tactic| walk_at "truthy str") => `(tactic| (k_here; (with_reducible show wpAny _ _ (PySem.truthy (Value.str (mkS _) _)) _ _ _); (refine KXt.truthy (b := true) ?e ?l ?_; (case e => first | with_reducible assumption | exact rfl); (case l => first | with_reducible assumption | exact Nat.le_of_ble_eq_true rfl); intro _)))
/- the statement that counts the lines -/
noncomputable abbrev scTok : Scope := { kind := ScopeKind.function, names := [(Str.ofString "self", NameKind.local), (Str.ofString "quoted", NameKind.local), (Str.ofString "escapedstate", NameKind.local), (Str.ofString "nextchar", NameKind.local), (Str.ofString "result", NameKind.local), (Str.ofString "print", NameKind.globalImplicit), (Str.ofString "ValueError", NameKind.globalImplicit), (Str.ofString "repr", NameKind.globalImplicit)], isGenerator := false, isCoroutine := false }
theorem nlc_yes {c : Nat} (h : (mkS [c] == Str.ofString "\n") = true) : nlc c = 1 := by
  have : mkS [c] = mkS [10] := by rw [eq_of_beq h]; decide +kernel
  rw [List.head_eq_of_cons_eq (mkS_inj this)]; rfl
theorem nlc_no {c : Nat} (h : (mkS [c] == Str.ofString "\n") = false) : nlc c = 0 := by
  refine if_neg fun e => ?_
  subst e
  rw [show (mkS [10] == Str.ofString "\n") = true from by decide +kernel] at h
  cases h
section
variable {w : World} {A : Around} {s : Shared} {h₀ : Heap} {L : Addr} {m : Str → Option Value} {Q : Flow → Shared → Prop} {E : Value → Shared → Prop}
  {y dy x dx pb fs : Addr} {kh : Nat → Int} {kt vt : Nat → Tok} {buf : Str} {p : Nat} {tc t0 t1 t2 t3 : Tok} {com ws quotes token : Str} {split : Bool} {ln : Int} {rest : List (Addr × Obj)} {state : Value} {c : Nat} {nc : Option Value} {q : Bool} {te : Tok} {n1 n2 : Obj}
  {p1 p2 p3 p4 p5 p6 p7 p8 : Pos} {k2 k6 : Nat}
theorem nl_step (F : Fr h₀ L s.heap (fun y => if y = Str.ofString "nextchar" then some (.str (mkS [c]) tc) else lm x q te nc y)) (X : (hd2.heap_1 w.params).In h₀)
  (N : News h₀ L s.heap ((y, n1) :: (dy, n2) :: (x, instObj 729 dx) :: (dx, dictOf (lexD kh kt vt y pb fs com ws quotes split state ln t1 token t2) 19) :: rest))
  (hne : @Ne Nat y dx ∧ @Ne Nat dy dx ∧ @Ne Nat x dx) (hr2 : ∀ p ∈ rest, p.1 ≠ dx)
  (h : ∀ h' tk t', Fr h₀ L h' (fun y => if y = Str.ofString "nextchar" then some (.str (mkS [c]) tc) else lm x q te nc y) → News h₀ L h' ((y, n1) :: (dy, n2) :: (x, instObj 729 dx) :: (dx, dictOf (lexD kh kt vt y pb fs com ws quotes split state (ln + nlc c) t' token t2) 19) :: rest) → Q .next { s with heap := h', toks := tk }) :
  wpAny (model PySem.Challenge.rw_nq0177_02.row.prog w) A (exec (.If (.Compare (.Name (Str.ofString "nextchar") p1) [.Eq] [.Constant (.str (Str.ofString "\n")) k2 p2] p3) [.AugAssign (.Attribute (.Name (Str.ofString "self") p4) (Str.ofString "lineno") p5) .Add (.Constant (.int 1) k6 p6) p7] [] p8) (envOf (Str.ofString "shlex.read_token") scTok L 697 (.ref 696))) Q E s := by
  k_steps
  · have e := nlc_yes (by assumption)
    exact h _ _ _ (by assumption) (by rw [e]; assumption)
  · have e := nlc_no (by assumption)
    exact h _ _ _ (by assumption) (by rw [e, Int.add_zero]; assumption)
end
local macro_rules | `(tactic| walk_at "exec If") => `(tactic| (k_here; k_dflt (refine' nl_step ?F ?X ?N ?n1 ?n2 ?_; (case F => k_asm); (case X => k_asm); (case N => k_asm); (case n1 => first | walk_at "my ne" | omega); (case n2 => k_all); intro h' tk' t' F' N'; (try k_sweep))))
theorem dq_plain : PlainAttrs "collections.deque" :=
  ⟨⟨"collections.deque.__getattribute__", by rw [typeLookup_type, builtinLookup_eq_fast]; kernel_rfl, by decide +kernel⟩, by rw [typeLookup_type, builtinLookup_eq_fast]; kernel_rfl⟩
theorem dq_owner : Manifest.owners.lookup (String.ofList "collections.deque".toList.reverse.reverse) = some Manifest.sig_collections_deque := by kernel_rfl
theorem dq_slot_al : Slot "collections.deque" "appendleft" "collections.deque.appendleft" :=
  .of (owner := "collections.deque") (n := "appendleft") (by rw [typeLookup_type, builtinLookup_eq_fast]; kernel_rfl) (by decide +kernel) (by decide +kernel) (by decide +kernel)
    (by first | exact .inl (by decide +kernel) | exact .inr (by decide +kernel)) (by rw [isSubtype_type]; kernel_rfl)
theorem dq_slot_pl : Slot "collections.deque" "popleft" "collections.deque.popleft" :=
  .of (owner := "collections.deque") (n := "popleft") (by rw [typeLookup_type, builtinLookup_eq_fast]; kernel_rfl) (by decide +kernel) (by decide +kernel) (by decide +kernel)
    (by first | exact .inl (by decide +kernel) | exact .inr (by decide +kernel)) (by rw [isSubtype_type]; kernel_rfl)
theorem dq_slot_len : Slot "collections.deque" "__len__" "collections.deque.__len__" :=
  .of (owner := "collections.deque") (n := "__len__") (by rw [typeLookup_type, builtinLookup_eq_fast]; kernel_rfl) (by decide +kernel) (by decide +kernel) (by decide +kernel)
    (by first | exact .inl (by decide +kernel) | exact .inr (by decide +kernel)) (by rw [isSubtype_type]; kernel_rfl)
theorem dq_type_al : typeOf (.builtin "collections.deque.appendleft") = pure (.type "method_descriptor") := by show builtinType _ = _; rw [builtinType_eq_fast]; kernel_rfl
theorem dq_type_pl : typeOf (.builtin "collections.deque.popleft") = pure (.type "method_descriptor") := by show builtinType _ = _; rw [builtinType_eq_fast]; kernel_rfl
theorem dq_entry_al : entryFor table "collections.deque.appendleft" = some Builtin.«collections.deque.appendleft» := entryFor_of_tree (by kernel_rfl)
theorem dq_entry_pl : entryFor table "collections.deque.popleft" = some Builtin.«collections.deque.popleft» := entryFor_of_tree (by kernel_rfl)
theorem dq_entry_len : entryFor table "collections.deque.__len__" = some Builtin.«collections.deque.__len__» := entryFor_of_tree (by kernel_rfl)
theorem dq_args_al (a b : Value) : argsOk "collections.deque.appendleft" ⟨[a, b], []⟩ := by
  unfold argsOk; rw [signature?_of (id := "collections.deque.appendleft") (n := "appendleft".toList.reverse) (o := "collections.deque".toList.reverse) (by kernel_rfl) dq_owner]; kernel_rfl
theorem dq_args_pl (a : Value) : argsOk "collections.deque.popleft" ⟨[a], []⟩ := by
  unfold argsOk; rw [signature?_of (id := "collections.deque.popleft") (n := "popleft".toList.reverse) (o := "collections.deque".toList.reverse) (by kernel_rfl) dq_owner]; kernel_rfl
theorem dq_args_len (a : Value) : argsOk "collections.deque.__len__" ⟨[a], []⟩ := by
  unfold argsOk; rw [signature?_of (id := "collections.deque.__len__") (n := "__len__".toList.reverse) (o := "collections.deque".toList.reverse) (by kernel_rfl) dq_owner]; kernel_rfl
theorem dq_noBool : typeLookup (.type "collections.deque") "__bool__" = pure none := by rw [typeLookup_type, builtinLookup_eq_fast]; kernel_rfl
section
variable {prog : Program} {w : World} {A : Around} {E : Value → Shared → Prop} {s : Shared} {h₀ : Heap} {L a : Addr} {m : Str → Option Value} {news news' : List (Addr × Obj)} {k : Int} {xs : List Value} {v : Value}
theorem dq_change {f : Array Value → Array Value} {ys : List Value} {Q : Unit → Shared → Prop} (ho : s.heap.get? a = some (dqObj k xs)) (hf : f xs.toArray = ys.toArray) (hl : ys.length ≤ 1000)
    (h : ∀ h', Heap.SameBut a s.heap h' → h'.get? a = some (dqObj (k + 1) ys) → Q () { s with heap := h' }) : wpAny (model prog w) A (Builtin.Deque.change (.ref a) f) Q E s := by
  unfold Builtin.Deque.change Builtin.Deque.state
  refine wpAny_bind (wpAny_bind (wpAny_field ho rfl (i := 1) (x := .int k 0) (by rfl) (wpAny_pure ?_)))
  have e : (#[(Value.none :: Value.int k 0 :: xs).toArray.getD 0 .none, rawInt (k + 1)] ++ f ((Value.none :: Value.int k 0 :: xs).toArray.extract 2 (Value.none :: Value.int k 0 :: xs).toArray.size) : Array Value) = (Value.none :: Value.int (k + 1) 0 :: ys).toArray := by
    have e1 : (Value.none :: Value.int k 0 :: xs).toArray.extract 2 (Value.none :: Value.int k 0 :: xs).toArray.size = xs.toArray := by
      apply Array.ext'
      simp
    rw [e1, hf]
    apply Array.ext'
    simp [rawInt]
  refine wpAny_updateFields ho rfl (h _ (Heap.SameBut.update ..) ?_) ?_
  · have hd : (Obj.mapFields (fun vs => #[vs.getD 0 .none, rawInt (if true = true then k + 1 else k)] ++ f (vs.extract 2 vs.size)) (dqObj k xs)) = dqObj (k + 1) ys := by
      show ({ cls := Value.type "collections.deque", data := .fields (#[(Value.none :: Value.int k 0 :: xs).toArray.getD 0 .none, rawInt (k + 1)] ++ f ((Value.none :: Value.int k 0 :: xs).toArray.extract 2 (Value.none :: Value.int k 0 :: xs).toArray.size)) } : Obj) = _
      rw [e]
    rw [← hd]
    exact Heap.get?_update_self _ ho (by rw [hd]; rfl)
  · show (#[(Value.none :: Value.int k 0 :: xs).toArray.getD 0 .none, rawInt (k + 1)] ++ f ((Value.none :: Value.int k 0 :: xs).toArray.extract 2 (Value.none :: Value.int k 0 :: xs).toArray.size) : Array Value).size ≤ _
    rw [e]
    simp
    rw [sizeLine_eq]; omega
theorem dq_append {Q : Value → Shared → Prop} (F : Fr h₀ L s.heap m) (N : News h₀ L s.heap news) (U : Upd a (dqObj k xs) (dqObj (k + 1) (v :: xs)) news news') (hl : xs.length ≤ 100)
    (h : ∀ h', Fr h₀ L h' m → News h₀ L h' news' → Q .none { s with heap := h' }) : wpAny (model prog w) A (call (.builtin "collections.deque.appendleft") [.ref a, v]) Q E s := by
  obtain ⟨pre, post, rfl, rfl, p1, p2⟩ := U.split
  have z := N (a, dqObj k xs) (List.mem_append.mpr (.inr (.head _)))
  refine wpAny_call_entry dq_slot_al ⟨_, z.1, rfl⟩ dq_entry_al ?_ (dq_args_al _ _)
  show wpAny _ _ (do Builtin.Deque.pushLeft (.ref a) v; ret .none) _ _ s
  unfold Builtin.Deque.pushLeft
  refine wpAny_bind (wpAny_bind (dq_change z.1 (f := (#[v] ++ ·)) (ys := v :: xs) (by apply Array.ext'; simp) (by simp; omega) fun h' hs ho' => ?_))
  unfold Builtin.Deque.maxlen
  refine wpAny_bind (wpAny_bind (wpAny_field (s := { s with heap := h' }) ho' rfl (i := 0) (x := .none) (by rfl) (wpAny_pure (wpAny_pure (wpAny_pure ⟨_, rfl, ?_⟩)))))
  exact h h' (F.change hs z.2.1 z.2.2) (news_set N p1 p2 hs ho')
theorem dq_popleft {Q : Value → Shared → Prop} (F : Fr h₀ L s.heap m) (N : News h₀ L s.heap news) (U : Upd a (dqObj k (v :: xs)) (dqObj (k + 1) xs) news news') (hl : xs.length ≤ 100)
    (h : ∀ h', Fr h₀ L h' m → News h₀ L h' news' → Q v { s with heap := h' }) : wpAny (model prog w) A (call (.builtin "collections.deque.popleft") [.ref a]) Q E s := by
  obtain ⟨pre, post, rfl, rfl, p1, p2⟩ := U.split
  have z := N (a, dqObj k (v :: xs)) (List.mem_append.mpr (.inr (.head _)))
  refine wpAny_call_entry dq_slot_pl ⟨_, z.1, rfl⟩ dq_entry_pl ?_ (dq_args_pl _)
  unfold Builtin.«collections.deque.popleft»
  refine wpAny_bind (m := selfOnly "deque.popleft" _) (wpAny_pure ?_)
  unfold Builtin.Deque.items
  refine wpAny_bind (wpAny_bind (wpAny_fieldsOf z.1 rfl (wpAny_pure ?_)))
  have e1 : ((Value.none :: Value.int k 0 :: v :: xs).toArray.extract 2 (Value.none :: Value.int k 0 :: v :: xs).toArray.size)[0]? = some v := by simp
  rw [e1]
  refine wpAny_bind (dq_change z.1 (f := (·.eraseIdxIfInBounds 0)) (ys := xs) (by apply Array.ext'; simp) (by omega) fun h' hs ho' => wpAny_pure ⟨_, rfl, ?_⟩)
  exact h h' (F.change hs z.2.1 z.2.2) (news_set N p1 p2 hs ho')
theorem dq_truthy {Q : Bool → Shared → Prop} (ho : s.heap.get? a = some (dqObj k xs)) (hl : xs.length ≤ 100) (h : ∀ tk, Q (!xs.isEmpty) { s with toks := tk }) : wpAny (model prog w) A (truthy (.ref a)) Q E s := by
  have hT : s.TypeIs (.ref a) "collections.deque" := ⟨_, ho, rfl⟩
  have key : wpAny (model prog w) A (runValue (.builtin "len" ⟨[.ref a], []⟩)) (fun r s' => ∃ t tk, r = .int xs.length t ∧ s' = { s with toks := tk }) E s := by
    refine wpAny_runValue (codeAny_builtin entry_len ?_)
    rw [Around.under_plainId plain_len _]
    unfold Builtin.«len»
    refine wpAny_bind (m := oneArg "len" _) (wpAny_pure ?_)
    refine wpAny_bind (m := callSpecial? (.ref a) (Str.ofString "__len__")) (wpAny_callSpecial?_slot (name := Str.ofString "__len__") hT dq_slot_len (wpAny_call_entry dq_slot_len hT dq_entry_len ?_ (dq_args_len _)))
    show wpAny _ _ (do retInt (← Builtin.Deque.size (.ref a))) _ _ s
    unfold Builtin.Deque.size
    refine wpAny_bind (wpAny_bind (wpAny_fieldsOf ho rfl (wpAny_pure ?_)))
    have e : (((Value.none :: Value.int k 0 :: xs).toArray.size - 2 : Nat) : Int) = (xs.length : Int) := by simp
    rw [e]
    refine wpAny_bind (wpAny_mkInt (wpAny_pure ⟨_, rfl, ?_⟩))
    refine wpAny_bind (wpAny_holding (wpAny_pure ?_))
    refine wpAny_bind (wpAny_letGo ?_)
    show wpAny _ _ (if (xs.length : Int) < 0 then _ else _) _ _ _
    rw [if_neg (by omega)]
    show wpAny _ _ (if (xs.length : Int) ≥ 2 ^ 63 then _ else _) _ _ _
    rw [if_neg (by omega)]
    exact wpAny_bind (wpAny_mkInt (wpAny_pure ⟨_, _, rfl, rfl⟩))
  unfold truthy
  refine wpAny_bind (wpAny_callSpecial?_none (name := Str.ofString "__bool__") hT dq_noBool ?_)
  refine wpAny_bind (wpAny_specialOf (name := Str.ofString "__len__") hT dq_slot_len.lookup ?_)
  refine wpAny_bind (wpAny_mono key (fun r s' h' => ?_) fun _ _ e => e)
  obtain ⟨t, tk, rfl, rfl⟩ := h'
  refine wpAny_pure ?_
  have : (((xs.length : Int)) != 0) = !xs.isEmpty := by cases xs <;> simp <;> omega
  rw [this]; exact h _
end
theorem dq_mro : mroOf (.type "collections.deque") = pure [.type "collections.deque", .type "object"] := by rw [mroOf_type]; kernel_rfl
theorem dq_lnew : typeLookup (.type "collections.deque") "__new__" = pure (some (.builtin "collections.deque.__new__")) := by rw [typeLookup_type, builtinLookup_eq_fast]; kernel_rfl
theorem dq_slot_init : Slot "collections.deque" "__init__" "collections.deque.__init__" :=
  .of (owner := "collections.deque") (n := "__init__") (by rw [typeLookup_type, builtinLookup_eq_fast]; kernel_rfl) (by decide +kernel) (by decide +kernel) (by decide +kernel)
    (by first | exact .inl (by decide +kernel) | exact .inr (by decide +kernel)) (by rw [isSubtype_type]; kernel_rfl)
theorem dq_called : TypeCalled "collections.deque" "collections.deque.__new__" "collections.deque.__init__" :=
  ⟨by decide +kernel, by decide +kernel, ⟨_, _, dq_mro⟩, madeBy_type dq_mro dq_lnew (by decide +kernel), by decide +kernel, by rw [isSubtype_type]; kernel_rfl, dq_slot_init⟩
theorem dq_typeCall : checkTypeCall "collections.deque" ⟨[], []⟩ = pure () := by kernel_rfl
theorem dq_newCall : checkBuiltinCall "collections.deque.__new__" ⟨[.type "collections.deque"], []⟩ = pure () := by kernel_rfl
theorem dq_entry_new : entryFor table "collections.deque.__new__" = some Builtin.«collections.deque.__new__» := entryFor_of_tree (by kernel_rfl)
theorem dq_entry_init : entryFor table "collections.deque.__init__" = some Builtin.«collections.deque.__init__» := entryFor_of_tree (by kernel_rfl)
theorem dq_plain_new : plainId "collections.deque.__new__" = true := by decide +kernel
theorem dq_args_init (a : Value) : argsOk "collections.deque.__init__" ⟨[a], []⟩ := by
  unfold argsOk; rw [signature?_of (id := "collections.deque.__init__") (n := "__init__".toList.reverse) (o := "collections.deque".toList.reverse) (by kernel_rfl) dq_owner]; kernel_rfl
theorem dq_sub : isSubtype (.type "collections.deque") (.type "collections.deque") = pure true := by rw [isSubtype_type]; kernel_rfl
section
variable {prog : Program} {w : World} {A : Around} {E : Value → Shared → Prop} {s : Shared}
theorem dq_code_new {Q₁ : Value → Shared → Prop} (h : Q₁ (.ref s.heap.objs.size) { s with heap := s.heap.push (dqObj 0 []) }) :
    codeAny (model prog w) A (.call (.builtin "collections.deque.__new__") ⟨[.type "collections.deque"], []⟩) (wants Q₁ E) s := by
  refine codeAny_of_tree ?_
  show wpAny _ A.in1 (do checkBuiltinCall "collections.deque.__new__" ⟨[.type "collections.deque"], []⟩; again (.builtin "collections.deque.__new__" ⟨[.type "collections.deque"], []⟩)) _ _ s
  refine wpAny_bind (wpAny_of_eq dq_newCall (wpAny_pure ⟨plainId_quiet dq_plain_new _, codeAny_builtin dq_entry_new ?_⟩))
  rw [Around.under_plainId dq_plain_new _]
  unfold Builtin.«collections.deque.__new__» Builtin.Deque.newArgs Builtin.Deque.new
  have hsub := dq_sub
  obtain ⟨hp, g, d, tk, os⟩ := s
  dsimp only
  have hst : isType (.type "collections.deque") = pure true := rfl
  refine wpAny_bind (wpAny_bind (wpAny_of_eq hst ?_))
  simp only [Bool.not_true, Bool.false_eq_true, if_false]
  refine wpAny_bind (wpAny_of_eq hsub ?_)
  simp only [Bool.not_true, Bool.false_eq_true, if_false]
  refine wpAny_pure ?_
  dsimp only
  refine wpAny_bind ?_
  show wpAny _ _ (alloc (dqObj 0 []) >>= fun a => pure (Value.ref a)) _ _ _
  exact wpAny_bind (wpAny_alloc (wpAny_pure (wpAny_pure h)))
theorem dq_init_run {Q : Value → Shared → Prop} {a : Addr} (ho : s.heap.get? a = some (dqObj 0 [])) (h : ∀ h', Heap.SameBut a s.heap h' → h'.get? a = some (dqObj 0 []) → Q .none { s with heap := h' }) :
    wpAny (model prog w) A (Builtin.«collections.deque.__init__» ⟨[.ref a], []⟩) (fun fin s' => ∃ v, fin = .done (.ret v) ∧ Q v s') E s := by
  show wpAny _ _ (do setField (.ref a) 0 .none; Builtin.Deque.clear (.ref a); ret .none) _ _ s
  refine wpAny_bind (wpAny_setField ho rfl (by simp) ?_)
  have g : (s.heap.update a (Obj.mapFields (·.setIfInBounds 0 .none))).get? a = some (dqObj 0 []) := by
    have e : Obj.mapFields (·.setIfInBounds 0 Value.none) (dqObj 0 []) = dqObj 0 [] := rfl
    have := Heap.get?_update_self (Obj.mapFields (·.setIfInBounds 0 Value.none)) ho (by rw [e]; rfl)
    rw [e] at this; exact this
  unfold Builtin.Deque.clear Builtin.Deque.items
  refine wpAny_bind (wpAny_bind (wpAny_bind (wpAny_fieldsOf (s := { s with heap := s.heap.update a (Obj.mapFields (·.setIfInBounds 0 .none)) }) g rfl (wpAny_pure ?_))))
  exact wpAny_pure (wpAny_pure ⟨_, rfl, h _ (Heap.SameBut.update ..) g⟩)
theorem dq_make0 {Q : Value → Shared → Prop} (h : ∀ h', (∀ b o, s.heap.get? b = some o → h'.get? b = some o) → h'.get? s.heap.objs.size = some (dqObj 0 []) → Q (.ref s.heap.objs.size) { s with heap := h' }) :
    wpAny (model prog w) A (call (.type "collections.deque") []) Q E s := by
  obtain ⟨c, tl, hmro⟩ := dq_called.mro
  have hmade := dq_called.made
  have hsub := dq_called.sub
  refine wpAny_call (codeAny_of_tree ?_)
  show wpAny _ _ (callAny (.type "collections.deque") _) _ _ _
  refine wpAny_pure ⟨Code.quiet_builtin _ (by decide +kernel), codeAny_builtin F.entry_type_call ?_⟩
  rw [Around.under_plain (weight_type_call_type "collections.deque" [] []) rfl]
  have h1 := dq_called.notType
  have h2 := dq_called.canCreate
  have hct := dq_typeCall
  repeat (any_goals (first | assumption | wp_step))
  refine codeAny_mono (dq_code_new (E := E) (Q₁ := fun obj s₁ => obj = .ref s.heap.objs.size ∧ s₁ = { s with heap := s.heap.push (dqObj 0 []) }) ⟨rfl, rfl⟩) fun r s₁ hr => ?_
  cases r with
  | error e => exact hr
  | ok fl =>
    cases fl with
    | ret obj =>
      obtain ⟨rfl, rfl⟩ := hr
      have hS : (s.heap.push (dqObj 0 [])).get? s.heap.objs.size = some (dqObj 0 []) := Heap.get?_push_size _ rfl
      have hT : Shared.TypeIs { s with heap := s.heap.push (dqObj 0 []) } (.ref s.heap.objs.size) "collections.deque" := ⟨_, hS, rfl⟩
      have hli := dq_called.init.lookup
      have hbi := dq_called.init.bind (.ref s.heap.objs.size)
      repeat (any_goals (first | assumption | wp_step))
      refine codeAny_call_builtin dq_slot_init.plain dq_entry_init (dq_slot_init.check _ _ _ _ _ _ _ _ hT (dq_args_init _) ?_)
      refine wpAny_mono (dq_init_run (s := { s with heap := s.heap.push (dqObj 0 []) }) (Q := fun v s' => v = .none ∧ Q (.ref s.heap.objs.size) s') hS fun h' hs hg => ⟨rfl, h h' (fun b o e => (hs.2 b (Nat.ne_of_lt (Heap.lt_size e))).trans (Heap.get?_push_of_some _ e)) hg⟩) (fun fin s' z => ?_) (fun _ _ e => e)
      obtain ⟨v, rfl, rfl, q⟩ := z
      exact wpAny_pure (wpAny_pure q)
    | _ => exact hr.elim
theorem dq_makeN {Q : Value → Shared → Prop} {h₀ : Heap} {L : Addr} {m : Str → Option Value} {news : List (Addr × Obj)} (F : Fr h₀ L s.heap m) (N : News h₀ L s.heap news)
    (h : ∀ a h', Fr h₀ L h' m → News h₀ L h' ((a, dqObj 0 []) :: news) → (∀ p ∈ news, p.1 < a) → Q (.ref a) { s with heap := h' }) :
    wpAny (model prog w) A (call (.type "collections.deque") []) Q E s := by
  refine dq_make0 fun h' hk hg => h _ h' ⟨F.ns.keeps hk, fun b o e => hk b o (F.keep b o e), F.above⟩ (fun p hp => ?_) fun p hp => Heap.lt_size (N p hp).1
  rcases List.mem_cons.mp hp with rfl | hp
  · refine ⟨hg, ?_, ?_⟩
    · obtain ⟨oL, _, _, hL, _⟩ := F.ns
      exact Nat.ne_of_gt (Heap.lt_size hL)
    · cases q : h₀.get? s.heap.objs.size with
      | none => rfl
      | some o => exact absurd (Heap.lt_size (F.keep _ _ q)) (Nat.lt_irrefl _)
  · exact ⟨hk _ _ (N p hp).1, (N p hp).2⟩
end
theorem dropLine_none : ∀ r : List Nat, (∀ i, i < r.length → r.getD i 0 ≠ 10) → dropLine r = []
  | [], _ => rfl
  | c :: r, h => by
    unfold dropLine
    rw [if_neg (by have := h 0 (by simp); simpa using this)]
    exact dropLine_none r fun i hi => by have := h (i + 1) (by simp; omega); simpa using this
theorem dropLine_at : ∀ (r : List Nat) (j : Nat), j < r.length → r.getD j 0 = 10 → (∀ i, i < j → r.getD i 0 ≠ 10) → dropLine r = r.drop (j + 1)
  | [], j, h, _, _ => by simp at h
  | c :: r, 0, _, h, _ => by
    unfold dropLine
    rw [if_pos (by simpa using h)]; rfl
  | c :: r, j + 1, hj, h, hn => by
    unfold dropLine
    rw [if_neg (by have := hn 0 (by omega); simpa using this)]
    exact dropLine_at r j (by simp at hj; omega) (by simpa using h) fun i hi => by have := hn (i + 1) (by omega); simpa using this
theorem getD_mkS (l : List Nat) (v : Nat) : (mkS l).cps.getD v 0 = l.getD v 0 := by simp [mkS, Array.getD_eq_getD_getElem?, List.getD_eq_getElem?_getD]
theorem lineEnd_eq (pre r : List Nat) : lineEnd (mkS (pre ++ r)) pre.length = pre.length + (r.length - (dropLine r).length) := by
  have hf : fromIndex (mkS (pre ++ r)).length ((pre.length : Nat) : Int) = pre.length := by unfold fromIndex; split <;> omega
  unfold lineEnd
  rw [mkS_length, List.length_append]
  by_cases hr : r = []
  · subst hr; simp
  have hpos : 0 < r.length := List.length_pos_iff.mpr hr
  rw [if_pos (by omega), show Str.ofString "\n" = ⟨#[10]⟩ from by decide +kernel]
  rcases StrLaws.find3_spec (mkS (pre ++ r)) 10 ((pre.length : Nat) : Int) with ⟨h, hn⟩ | ⟨k, h, h1, h2, h3, h4⟩
  · rw [h, if_pos (by omega)]
    rw [dropLine_none r fun i hi e => hn (pre.length + i) (by rw [hf]; omega) (by rw [mkS_length, List.length_append]; omega) (by
      rw [getD_mkS, List.getD_eq_getElem?_getD, List.getElem?_append_right (by omega), Nat.add_sub_cancel_left, ← List.getD_eq_getElem?_getD]; exact e)]
    simp
  · rw [h, if_neg (by omega)]
    rw [hf] at h1 h4
    rw [mkS_length, List.length_append] at h2
    have g : ∀ v, pre.length ≤ v → (mkS (pre ++ r)).cps.getD v 0 = r.getD (v - pre.length) 0 := fun v hv => by
      rw [getD_mkS, List.getD_eq_getElem?_getD, List.getElem?_append_right hv, ← List.getD_eq_getElem?_getD]
    rw [dropLine_at r (k - pre.length) (by omega) (by rw [← g k h1]; exact h3) (fun i hi e => h4 (pre.length + i) (by omega) (by omega) (by rw [g _ (by omega), Nat.add_sub_cancel_left]; exact e))]
    simp
    omega
theorem dropLine_cut (r : List Nat) : r = r.take (r.length - (dropLine r).length) ++ dropLine r := by
  obtain ⟨u, h⟩ := dropLine_split r
  have : r.length - (dropLine r).length = u.length := by
    have := congrArg List.length h
    simp at this; omega
  rw [this]
  conv => lhs; rw [h]
  congr 1
  conv => rhs; rw [h]
  simp
local macro_rules | `(tactic| walk_at "exec If") => `(tactic| (k_here; refine wpAny_If ?_))
local macro_rules | `(tactic| walk_at "exec If") => `(tactic| (k_here; (with_reducible show wpAny _ _ (exec (Stmt.If (Expr.Compare (Expr.Name (PySem.Str.ofString "nextchar") _) [CmpOp.Eq] _ _) _ _ _) _) _ _ _); k_dflt (refine' nl_step ?F ?X ?N ?n1 ?n2 ?_; (case F => k_asm); (case X => k_asm); (case N => k_asm); (case n1 => first | walk_at "my ne" | omega); (case n2 => k_all); intro h' tk' t' F' N'; (try k_sweep))))
local macro_rules | `(tactic| walk_at "truthy str") => `(tactic| (k_here; (with_reducible show wpAny _ _ (PySem.truthy (Value.str (mkS _) _)) _ _ _); k_dflt (refine KXt.truthy (b := true) ?e ?l ?_; (case e => first | with_reducible assumption | exact rfl); (case l => first | with_reducible assumption | exact Nat.le_of_ble_eq_true rfl); intro _)))
section
variable {prog : Program} {w : World} {A : Around} {E : Value → Shared → Prop} {s : Shared} {h₀ : Heap} {L a : Addr} {m : Str → Option Value} {news : List (Addr × Obj)} {k : Int} {xs : List Value} {pl : Sem Bool}
theorem getMethod_al {Q : Value × List Value → Shared → Prop} (N : News h₀ L s.heap news) (hm : (a, dqObj k xs) ∈ news) (h : Q (.builtin "collections.deque.appendleft", [.ref a]) s) : wpAny (model prog w) A (getMethod (.ref a) (Str.ofString "appendleft") pl) Q E s :=
  getMethod_builtin ⟨_, (N _ hm).1, rfl⟩ dq_plain dq_slot_al dq_type_al (fun b e => by cases e; exact ⟨_, (N _ hm).1, rfl⟩) h
theorem getMethod_pl {Q : Value × List Value → Shared → Prop} (N : News h₀ L s.heap news) (hm : (a, dqObj k xs) ∈ news) (h : Q (.builtin "collections.deque.popleft", [.ref a]) s) : wpAny (model prog w) A (getMethod (.ref a) (Str.ofString "popleft") pl) Q E s :=
  getMethod_builtin ⟨_, (N _ hm).1, rfl⟩ dq_plain dq_slot_pl dq_type_pl (fun b e => by cases e; exact ⟨_, (N _ hm).1, rfl⟩) h
theorem dq_truthyN {Q : Bool → Shared → Prop} (N : News h₀ L s.heap news) (hm : (a, dqObj k xs) ∈ news) (hl : xs.length ≤ 100) (h : ∀ tk, Q (!xs.isEmpty) { s with toks := tk }) : wpAny (model prog w) A (truthy (.ref a)) Q E s := dq_truthy (N _ hm).1 hl h
end
local macro_rules | `(tactic| walk_at "getMethod ref") => `(tactic| (k_here; (with_reducible show wpAny _ _ (getMethod (Value.ref _) (PySem.Str.ofString "appendleft") _) _ _ _); k_dflt (refine' getMethod_al ?N ?m ?_; (case N => k_asm); (case m => k_mem))))
local macro_rules | `(tactic| walk_at "getMethod ref") => `(tactic| (k_here; (with_reducible show wpAny _ _ (getMethod (Value.ref _) (PySem.Str.ofString "popleft") _) _ _ _); k_dflt (refine' getMethod_pl ?N ?m ?_; (case N => k_asm); (case m => k_mem))))
local macro_rules | `(tactic| walk_at "call builtin:collections.deque.appendleft") => `(tactic| (k_here; k_dflt (refine' dq_append ?F ?N ?U ?l ?_; (case F => k_asm); (case N => k_asm); (case U => k_upd); (case l => exact Nat.le_of_ble_eq_true rfl); k_whole; intro h' F' N'; (try k_sweep))))
local macro_rules | `(tactic| walk_at "call builtin:collections.deque.popleft") => `(tactic| (k_here; k_dflt (refine' dq_popleft ?F ?N ?U ?l ?_; (case F => k_asm); (case N => k_asm); (case U => k_upd); (case l => exact Nat.le_of_ble_eq_true rfl); k_whole; intro h' F' N'; (try k_sweep))))
theorem eq_str_no {prog : Program} {w : World} {A : Around} {E : Value → Shared → Prop} {s : Shared} {x y : Str} {t u : Tok} {Q : Value → Shared → Prop} (e : (x == y) = false) (h : Q (.bool false) s) : wpAny (model prog w) A (compareOp .Eq (.str x t) (.str y u)) Q E s := eq_str (e ▸ h)
local macro_rules | `(tactic| walk_at "compareOp Eq str str") => `(tactic| ((with_reducible show wpAny _ _ (compareOp CmpOp.Eq (Value.str (mkS [_]) _) (Value.str (PySem.Str.ofString " ") _)) _ _ _); refine eq_str_no (by with_reducible assumption) ?_))
noncomputable abbrev lm2 (x : Addr) (q : Bool) (te : Tok) (nc : Option Value) (v : Value) : Str → Option Value := fun y => if y = Str.ofString "nextchar" then some v else lm x q te nc y
noncomputable abbrev lm3 (x : Addr) (q : Bool) (te : Tok) (nc : Option Value) (v : Value) : Str → Option Value := fun y => if y = Str.ofString "quoted" then some (.bool true) else lm2 x q te nc v y
noncomputable abbrev LG (kh : Nat → Int) (kt vt : Nat → Tok) (y dy x dx pb fs : Addr) (com ws quotes : Str) (split : Bool) (buf : Str) (rest : List (Addr × Obj)) (kq : Int) (p : Nat) (state : Value) (ln : Int) (tok : Str) (t1 t2 t3 : Tok) (pbs : List Value) : List (Addr × Obj) :=
  (y, instObj 594 dy) :: (dy, dictOf (sioD kh kt vt buf p t3) 3) :: (x, instObj 729 dx) :: (dx, dictOf (lexD kh kt vt y pb fs com ws quotes split state ln t1 tok t2) 19) :: (pb, dqObj kq pbs) :: rest
section
variable {w : World} {A : Around} {s : Shared} {h₀ : Heap} {L : Addr} {Q : Bool → Shared → Prop} {E : Value → Shared → Prop}
  {y dy x dx pb fs : Addr} {kh : Nat → Int} {kt vt : Nat → Tok} {t0 t1 t2 : Tok} {com ws quotes token : Str} {split : Bool} {ln : Int} {rest : List (Addr × Obj)} {v : Value} {nc : Option Value} {q : Bool} {te : Tok} {n1 n2 : Obj}
  {p1 p2 p3 p4 p5 p6 : Pos} {k1 k2 k3 : Nat}
theorem ac_step (F : Fr h₀ L s.heap (lm2 x q te nc v)) (X : (hd2.heap_1 w.params).In h₀)
  (N : News h₀ L s.heap ((y, n1) :: (dy, n2) :: (x, instObj 729 dx) :: (dx, dictOf (lexD kh kt vt y pb fs com ws quotes split (.str (Str.ofString "a") t0) ln t1 token t2) 19) :: rest))
  (h : ∀ h' tk, Fr h₀ L h' (lm2 x q te nc v) → News h₀ L h' ((y, n1) :: (dy, n2) :: (x, instObj 729 dx) :: (dx, dictOf (lexD kh kt vt y pb fs com ws quotes split (.str (Str.ofString "a") t0) ln t1 token t2) 19) :: rest) → Q true { s with heap := h', toks := tk }) :
  wpAny (model PySem.Challenge.rw_nq0177_02.row.prog w) A (isTrue (.Compare (.Attribute (.Name (Str.ofString "self") p1) (Str.ofString "state") p2) [.In] [.Tuple [.Constant (.str (Str.ofString "a")) k1 p3, .Constant (.str (Str.ofString "c")) k2 p4] k3 p5] p6) (envOf (Str.ofString "shlex.read_token") scTok L 697 (.ref 696))
    (eval (.Compare (.Attribute (.Name (Str.ofString "self") p1) (Str.ofString "state") p2) [.In] [.Tuple [.Constant (.str (Str.ofString "a")) k1 p3, .Constant (.str (Str.ofString "c")) k2 p4] k3 p5] p6) (envOf (Str.ofString "shlex.read_token") scTok L 697 (.ref 696)))) Q E s := by
  k_steps
  rename_i N' _
  rw [show ([Str.ofString "a", Str.ofString "c"].any fun x => x == Str.ofString "a") = true from by decide +kernel]
  exact h _ _ (by assumption) fun p hp => N' p (List.mem_cons_of_mem _ hp)
end
local macro_rules | `(tactic| walk_at "isTrue Compare") => `(tactic| (k_here; (with_reducible show wpAny _ _ (isTrue (Expr.Compare (Expr.Attribute _ _ _) [CmpOp.In] [Expr.Tuple _ _ _] _) _ _) _ _ _); k_dflt (refine' ac_step ?F ?X ?N ?_; (case F => k_asm); (case X => k_asm); (case N => k_asm); intro h' tk' F' N'; (try k_sweep))))
section
variable {w : World} {A : Around} {s : Shared} {h₀ : Heap} {L : Addr} {m : Str → Option Value} {Q : Flow → Shared → Prop} {E : Value → Shared → Prop} {p : Program} {loose : List Str} {mg mb : Str → Option Value}
  {p1 p2 p3 p4 : Pos} {k1 : Nat} {msg : Str}
theorem raise_VE (F : Fr h₀ L s.heap m) (X : (hd2.heap_1 w.params).In h₀) (T : TopRead p loose mg mb h₀) (hh : A.handled = none)
  (h : ∀ h' e tk t, Heap.MadeExc s.heap h' e "ValueError" [.str msg t] → E (.ref e) { s with heap := h', toks := tk }) :
  wpAny (model PySem.Challenge.rw_nq0177_02.row.prog w) A (exec (.Raise (some (.Call (.Name (Str.ofString "ValueError") p1) [.Constant (.str msg) k1 p2] [] p3)) none p4) (envOf (Str.ofString "shlex.read_token") scTok L 697 (.ref 696))) Q E s := by
  refine Raise_madeB PySem.F.excCall_ValueError PySem.F.excRaise_ValueError hh (name_B F X T (by k_is) PyProof.Rows.Boot.«ValueError» (by decide) ⟨rfl, ?_⟩)
  iterate 3 walk1
  refine ⟨by rw [sizeLine_eq]; exact Nat.le_of_ble_eq_true rfl, fun h' e hm => h _ _ _ _ hm⟩
theorem RaisedS.sub {base g : Heap} {l : List Env} {e : Addr} {cls : Value} {t : Addr} {vs : List Value} {news news' : List (Addr × Obj)} {h : Heap} (R : RaisedS base g l e cls t vs news h) (k : ∀ q ∈ news', q ∈ news) : RaisedS base g l e cls t vs news' h := by
  obtain ⟨⟨B, a, a2, b, c⟩, d⟩ := R
  exact ⟨⟨B, a, a2, fun q hq => b q (k q hq), c⟩, d⟩
end
theorem lm2_eq (x : Addr) (q : Bool) (te : Tok) (nc : Option Value) (v : Value) (y : Str) : lm2 x q te nc v y = lm x q te (some v) y := by
  simp only [lm2, lm]; split <;> rfl
theorem lm3_eq (x : Addr) (q : Bool) (te : Tok) (nc : Option Value) (v : Value) (y : Str) : lm3 x q te nc v y = lm x true te (some v) y := by
  simp only [lm3, lm2, lm]
  by_cases h1 : y = Str.ofString "quoted"
  · subst h1; rfl
  · rw [if_neg h1]
    split
    · rfl
    · split
      · rfl
      · rfl
noncomputable def pbsOf : Option Nat → Tok → List Value
  | none, _ => []
  | some c, t => [.str (mkS [c]) t]
/-- the loop's word, and what stands behind it; G : the ledger by what turns -/
noncomputable def LoopI (s : Shared) (g : Heap) (L' x : Addr) (P : Pm) (buf : Str) (out : Out) (G : Int → Nat → Value → Int → Str → Tok → Tok → Tok → List Value → List (Addr × Obj)) (kq : Int) (n : Nat) (s' : Shared) : Prop :=
  ∃ h tk rem pre ln st tok q nc t0 t1 t2 t3 te, s' = { s with heap := h, toks := tk } ∧ buf = mkS (pre ++ rem) ∧ rem.length = n ∧ rt P rem ln st tok = out ∧ okSt P st rem tok ∧ tok.length ≤ pre.length ∧ Fr g L' h (lm x q te nc) ∧
     News g L' h (G kq pre.length (st.val t0) ln (mkS tok) t1 t2 t3 [])
noncomputable def LoopP (s : Shared) (g : Heap) (L' x : Addr) (buf : Str) (out : Out) (G : Int → Nat → Value → Int → Str → Tok → Tok → Tok → List Value → List (Addr × Obj)) (s' : Shared) : Prop :=
  ∃ h tk rem pre ln st tok push kq q nc t0 t1 t2 t3 te tp, s' = { s with heap := h, toks := tk } ∧ buf = mkS (pre ++ rem) ∧ out = .ok rem ln st tok push ∧ Fr g L' h (lm x q te nc) ∧
     News g L' h (G kq pre.length (st.val t0) ln (mkS tok) t1 t2 t3 (pbsOf push tp))
section
variable {s : Shared} {g : Heap} {L' x : Addr} {P : Pm} {buf : Str} {out : Out} {G : Int → Nat → Value → Int → Str → Tok → Tok → Tok → List Value → List (Addr × Obj)} {kq : Int} {n : Nat} {h : Heap} {tk t0 t1 t2 t3 te : Tok}
  {rem pre tok : List Nat} {ln : Int} {st : LS} {q : Bool} {nc : Option Value}
theorem goes (f : Flow) (hf : f = .next ∨ f = .cont) (hk : rem.length < n) (hb : buf = mkS (pre ++ rem)) (hr : rt P rem ln st tok = out) (ho : okSt P st rem tok) (htl : tok.length ≤ pre.length) (F : Fr g L' h (lm x q te nc)) (N : News g L' h (G kq pre.length (st.val t0) ln (mkS tok) t1 t2 t3 [])) :
    StepQ (LoopI s g L' x P buf out G kq) (LoopP s g L' x buf out G) n f { s with heap := h, toks := tk } := by
  have : ∃ k, k < n ∧ LoopI s g L' x P buf out G kq k { s with heap := h, toks := tk } := ⟨_, hk, _, _, rem, pre, ln, st, tok, q, nc, t0, t1, t2, t3, te, rfl, hb, rfl, hr, ho, htl, F, N⟩
  rcases hf with rfl | rfl <;> exact this
theorem stops {push : Option Nat} {kq' : Int} {tp : Tok} (hb : buf = mkS (pre ++ rem)) (hr : out = .ok rem ln st tok push) (F : Fr g L' h (lm x q te nc)) (N : News g L' h (G kq' pre.length (st.val t0) ln (mkS tok) t1 t2 t3 (pbsOf push tp))) :
    StepQ (LoopI s g L' x P buf out G kq) (LoopP s g L' x buf out G) n .brk { s with heap := h, toks := tk } :=
  ⟨_, _, rem, pre, ln, st, tok, push, kq', q, nc, t0, t1, t2, t3, te, tp, rfl, hb, hr, F, N⟩
end
section
variable {w : World} {A : Around} {s : Shared} {base h₀ : Heap} {outer : List Env} {L : Addr} {m : Str → Option Value} {env : Env} {mg mb : Str → Option Value} {mean : ExcName → Option Value} {R : Result → Shared → Prop} {loose : List Str}
  {y dy x dx pb fs : Addr} {kh : Nat → Int} {kt vt : Nat → Tok} {buf : Str} {t0 t1 t2 t3 : Tok} {com ws quotes token : Str} {split : Bool} {lineno : Int} {rest : List (Addr × Obj)} {room : Nat}
theorem tok_spec (C : Amb w A base h₀ outer env L mg mb mean loose 6) (F : Fr h₀ L s.heap m) {pre rem : List Nat} {kq : Int} {st : LS} {out : Out}
  (N : News h₀ L s.heap (LG kh kt vt y dy x dx pb fs com ws quotes split buf rest kq pre.length (st.val t0) lineno (Str.ofString "") t1 t2 t3 []))
  (hne : @Ne Nat y dy ∧ @Ne Nat y x ∧ @Ne Nat y dx ∧ @Ne Nat dy x ∧ @Ne Nat dy dx ∧ @Ne Nat x dx ∧ @Ne Nat pb y ∧ @Ne Nat pb dy ∧ @Ne Nat pb x ∧ @Ne Nat pb dx) (hr1 : ∀ p ∈ rest, p.1 ≠ dy) (hr2 : ∀ p ∈ rest, p.1 ≠ dx) (hr3 : ∀ p ∈ rest, p.1 ≠ pb)
  (hb : buf.length ≤ 4096) (hbuf : buf = mkS (pre ++ rem)) (hst : st = .blank ∨ (st = .dead ∧ rem = [])) (hout : rt ⟨com, ws, quotes, split⟩ rem lineno st [] = out)
  (hq1 : hasC quotes 97 = false) (hq2 : hasC quotes 32 = false)
  (h : ∀ h' tk rem' pre' ln' st' res push kq' t t0 t1 t2 t3 tp, out = .ok rem' ln' st' res push → buf = mkS (pre' ++ rem') → Fr h₀ L h' m →
    News h₀ L h' (LG kh kt vt y dy x dx pb fs com ws quotes split buf rest kq' pre'.length (st'.val t0) ln' (Str.ofString "") t1 t2 t3 (pbsOf push tp)) → R (.ok (.ret (.str (mkS res) t))) { s with heap := h', toks := tk })
  (hErr : ∀ e t tm g h' tk, out = .err → Fr h₀ L g m → g.UpToSlots h' → RaisedS base g (env :: outer) e (.type "ValueError") t [.str (Str.ofString "No closing quotation") tm] rest h' → R (.error (.ref e)) { s with heap := h', toks := tk }) :
  codeAny (model PySem.Challenge.rw_nq0177_02.row.prog w) A (.call (.ref 697) ⟨[.ref x], []⟩) R s := by
  obtain ⟨⟨A₀, B⟩, X₀, T, hA, hf, hk, hroom, hh⟩ := C
  have hb2 : buf.length ≤ 1048576 := by omega
  have ⟨ne1, ne2, ne3, ne4, ne5, ne6, ne7, ne8, ne9, ne10⟩ := hne
  walk_at "my enter0"
  intro g L' h₁ FG F₁ N₁ B' X' T'
  dsimp only
  k_fold
  iterate 10 (first | walk1 | (dsimp only; walk1))
  refine While_brk (LoopI s g L' x ⟨com, ws, quotes, split⟩ buf out (LG kh kt vt y dy x dx pb fs com ws quotes split buf rest) kq) (LoopP s g L' x buf out (LG kh kt vt y dy x dx pb fs com ws quotes split buf rest)) rem.length ?init ?turn ?after
  case init =>
    (with_reducible rename Fr g L' _ _ => F0)
    refine ⟨_, _, rem, pre, lineno, st, [], false, none, t0, t1, t2, t3, ?te, rfl, hbuf, rfl, hout, ?ok, Nat.zero_le _, fr_congr F0 fun y => ?fr, by rw [mkS_nil]; assumption⟩
    case ok =>
      rcases hst with rfl | ⟨rfl, rfl⟩
      · rfl
      · exact ⟨rfl, rfl⟩
    case fr =>
      simp only [lm]
      by_cases h1 : y = Str.ofString "nextchar"
      · subst h1; rfl
      rw [if_neg h1]
      by_cases h2 : y = Str.ofString "escapedstate"
      · subst h2; rfl
      rw [if_neg h2, if_neg h2]
      by_cases h3 : y = Str.ofString "quoted"
      · subst h3; rfl
      rw [if_neg h3, if_neg h3]
      show List.lookup y [(Str.ofString "self", Value.ref x)] = _
      by_cases h4 : y = Str.ofString "self"
      · subst h4; rfl
      · rw [if_neg h4, List.lookup_cons, beq_false_of_ne h4]; rfl
  case after =>
    rintro s' ⟨h', tk', rem', pre', ln', st', tok', push', kq', q', nc', t0', t1', t2', t3', te', tp', rfl, hbuf', hout', F', N'⟩
    have y1 : ∀ h'' tk t ta tb td, Fr h₀ L h'' m → News h₀ L h'' (LG kh kt vt y dy x dx pb fs com ws quotes split buf rest kq' pre'.length (st'.val t0') ln' (Str.ofString "") ta tb td (pbsOf push' tp')) → R (.ok (.ret (.str (mkS tok') t))) { s with heap := h'', toks := tk } :=
      fun h'' tk t ta tb td F N => h h'' tk rem' pre' ln' st' tok' push' kq' t t0' ta tb td tp' hout' hbuf' F N
    dsimp only
    clear F N hout' hout hbuf hbuf' h hst hErr
    k_steps
    all_goals (try dsimp only)
    all_goals first
      | exact y1 _ _ _ _ _ _ (by with_reducible assumption) (by with_reducible assumption)
  rintro n s' ⟨h', tk', rem', pre', ln', st', tok', q', nc', t0', t1', t2', t3', te', rfl, hbuf', hn', hout', hok', htl', F', N'⟩
  have hp' : pre'.length ≤ buf.length := by rw [hbuf', mkS_length]; simp
  cases st' with
  | dead =>
    obtain ⟨rfl, rfl⟩ := hok'
    rw [rt_dead_nil] at hout'
    dsimp only [LS.val] at N'
    have hz := chAt_end hbuf'
    have hnx := nxt_end hbuf'
    have x1 : ∀ h tk tc ta tb td, Fr g L' h (lm2 x q' te' nc' (.str (Str.ofString "") tc)) → News g L' h (LG kh kt vt y dy x dx pb fs com ws quotes split buf rest kq pre'.length .none ln' (Str.ofString "") ta tb td []) → StepQ (LoopI s g L' x ⟨com, ws, quotes, split⟩ buf out (LG kh kt vt y dy x dx pb fs com ws quotes split buf rest) kq) (LoopP s g L' x buf out (LG kh kt vt y dy x dx pb fs com ws quotes split buf rest)) n .brk { s with heap := h, toks := tk } :=
      fun h tk tc ta tb td F N => stops (rem := []) (push := none) (st := .dead) (tok := []) (t0 := 0) (tp := 0) hbuf' hout'.symm (fr_congr F (lm2_eq _ _ _ _ _)) (by rw [mkS_nil]; exact N)
    generalize StepQ _ _ n = SQ at x1 ⊢
    clear F N hout' hout hn' hbuf hbuf' h hst
    k_steps
    all_goals (try dsimp only)
    all_goals exact x1 _ _ _ _ _ _ (by with_reducible assumption) (by with_reducible assumption)
  | quot q =>
    obtain ⟨hqq, htn⟩ := hok'
    dsimp only [LS.val] at N'
    have htl2 : (mkS tok').length ≤ 4096 := by rw [mkS_length]; omega
    have hqs : (mkS [q] == Str.ofString " ") = false := by
      refine beq_eq_false_iff_ne.mpr fun e => ?_
      have : [q] = [32] := mkS_inj (e.trans (by decide +kernel))
      cases this
      rw [hq2] at hqq; cases hqq
    cases rem' with
    | nil =>
      have hz := chAt_end hbuf'
      have hnx := nxt_end hbuf'
      rw [rt_quot_nil] at hout'
      generalize StepQ _ _ n = SQ
      clear F N hout hn' hbuf hbuf' h hst
      k_steps
      refine raise_VE (by k_asm) (by k_asm) (by k_asm) (by assumption) ?_
      intro h' e tk t hm
      k_unfold
      dsimp only
      refine leave_raiseS B' (Heap.MadeExc.of hm) (by assumption) (by assumption) ?_
      intro h2 t2 RK _ US
      exact hErr _ _ _ _ _ _ hout'.symm FG US (RaisedS.sub RK fun q hq => by simp only [List.mem_cons]; exact .inr (.inr (.inr (.inr (.inr hq)))))
    | cons c r =>
      have hz := chAt_at hbuf'
      have hnx := nxt_at hbuf'
      have hp2 : (pre' ++ [c]).length ≤ buf.length := by rw [hbuf', mkS_length]; simp
      have hbc : buf = mkS ((pre' ++ [c]) ++ r) := by rw [hbuf']; simp
      have hrn : r.length < n := by simp at hn'; omega
      rw [rt_quot] at hout'
      have x1 : ∀ h tk tc ta tb td te2, (mkS [c] == mkS [q]) = true → Fr g L' h (lm3 x q' te' nc' (.str (mkS [c]) tc)) → News g L' h (LG kh kt vt y dy x dx pb fs com ws quotes split buf rest kq (pre' ++ [c]).length (.str (Str.ofString " ") te2) (ln' + nlc c) (mkS tok' ++ mkS [c]) ta tb td []) → StepQ (LoopI s g L' x ⟨com, ws, quotes, split⟩ buf out (LG kh kt vt y dy x dx pb fs com ws quotes split buf rest) kq) (LoopP s g L' x buf out (LG kh kt vt y dy x dx pb fs com ws quotes split buf rest)) n .brk { s with heap := h, toks := tk } :=
        fun h tk tc ta tb td te2 c1 F N => stops (st := .blank) (push := none) (tp := 0) (tok := tok' ++ [c]) hbc (by rw [if_pos (List.head_eq_of_cons_eq (mkS_inj (eq_of_beq c1)))] at hout'; exact hout'.symm) (fr_congr F (lm3_eq _ _ _ _ _)) (by rw [← mkS_append]; exact N)
      have x2 : ∀ h tk tc ta tb td te2, (mkS [c] == mkS [q]) = false → Fr g L' h (lm3 x q' te' nc' (.str (mkS [c]) tc)) → News g L' h (LG kh kt vt y dy x dx pb fs com ws quotes split buf rest kq (pre' ++ [c]).length (.str (mkS [q]) te2) (ln' + nlc c) (mkS tok' ++ mkS [c]) ta tb td []) → StepQ (LoopI s g L' x ⟨com, ws, quotes, split⟩ buf out (LG kh kt vt y dy x dx pb fs com ws quotes split buf rest) kq) (LoopP s g L' x buf out (LG kh kt vt y dy x dx pb fs com ws quotes split buf rest)) n .next { s with heap := h, toks := tk } :=
        fun h tk tc ta tb td te2 c1 F N => goes (st := .quot q) (tok := tok' ++ [c]) _ (.inl rfl) hrn hbc (by rw [if_neg (fun e => by rw [e, beq_self_eq_true] at c1; cases c1)] at hout'; exact hout') ⟨hqq, by simp⟩ (by simp; omega) (fr_congr F (lm3_eq _ _ _ _ _)) (by rw [← mkS_append]; exact N)
      generalize StepQ _ _ n = SQ at x1 x2 ⊢
      clear F N hout' hout hn' hbuf hbuf' h hst hbc hrn
      k_steps
      all_goals (try dsimp only)
      all_goals first
        | exact x1 _ _ _ _ _ _ _ (by with_reducible assumption) (by with_reducible assumption) (by with_reducible assumption)
        | exact x2 _ _ _ _ _ _ _ (by with_reducible assumption) (by with_reducible assumption) (by with_reducible assumption)
  | word =>
    have htn : tok' ≠ [] := hok'
    dsimp only [LS.val] at N'
    have htl2 : (mkS tok').length ≤ 4096 := by rw [mkS_length]; omega
    have htl3 : (mkS tok').length ≤ 16777216 := by omega
    have htb : (((mkS tok').length : Int) != 0) = true := by
      rw [mkS_length, bne_iff_ne]; have := List.length_pos_iff.mpr htn; omega
    cases rem' with
    | nil =>
      have hz := chAt_end hbuf'
      have hnx := nxt_end hbuf'
      rw [rt_word_nil] at hout'
      have x1 : ∀ h tk tc ta tb td, Fr g L' h (lm2 x q' te' nc' (.str (Str.ofString "") tc)) → News g L' h (LG kh kt vt y dy x dx pb fs com ws quotes split buf rest kq pre'.length .none ln' (mkS tok') ta tb td []) → StepQ (LoopI s g L' x ⟨com, ws, quotes, split⟩ buf out (LG kh kt vt y dy x dx pb fs com ws quotes split buf rest) kq) (LoopP s g L' x buf out (LG kh kt vt y dy x dx pb fs com ws quotes split buf rest)) n .brk { s with heap := h, toks := tk } :=
        fun h tk tc ta tb td F N => stops (rem := []) (push := none) (st := .dead) (t0 := 0) (tp := 0) hbuf' hout'.symm (fr_congr F (lm2_eq _ _ _ _ _)) N
      generalize StepQ _ _ n = SQ at x1 ⊢
      clear F N hout' hout hn' hbuf hbuf' h hst
      k_steps
      all_goals (try dsimp only)
      all_goals first | exact x1 _ _ _ _ _ _ (by with_reducible assumption) (by with_reducible assumption)
    | cons c r =>
      have hz := chAt_at hbuf'
      have hnx := nxt_at hbuf'
      have hp2 : (pre' ++ [c]).length ≤ buf.length := by rw [hbuf', mkS_length]; simp
      have hbc : buf = mkS ((pre' ++ [c]) ++ r) := by rw [hbuf']; simp
      have hrn : r.length < n := by simp at hn'; omega
      have hle : lineEnd buf (pre' ++ [c]).length = (pre' ++ [c] ++ r.take (r.length - (dropLine r).length)).length := by rw [hbc, lineEnd_eq]; simp; omega
      have hbd : buf = mkS ((pre' ++ [c] ++ r.take (r.length - (dropLine r).length)) ++ dropLine r) := by rw [hbc, List.append_assoc (pre' ++ [c]), ← dropLine_cut]
      have hdl := dropLine_le r
      rw [rt_word] at hout'
      dsimp only at hout'
      have x1 : ∀ h tk tc ta tb td te2, hasC ws c = true → Fr g L' h (lm2 x q' te' nc' (.str (mkS [c]) tc)) → News g L' h (LG kh kt vt y dy x dx pb fs com ws quotes split buf rest kq (pre' ++ [c]).length (.str (Str.ofString " ") te2) (ln' + nlc c) (mkS tok') ta tb td []) → StepQ (LoopI s g L' x ⟨com, ws, quotes, split⟩ buf out (LG kh kt vt y dy x dx pb fs com ws quotes split buf rest) kq) (LoopP s g L' x buf out (LG kh kt vt y dy x dx pb fs com ws quotes split buf rest)) n .brk { s with heap := h, toks := tk } :=
        fun h tk tc ta tb td te2 c1 F N => stops (st := .blank) (push := none) (tp := 0) hbc (by rw [if_pos c1] at hout'; exact hout'.symm) (fr_congr F (lm2_eq _ _ _ _ _)) N
      have x2 : ∀ h tk tc ta tb td te2, hasC ws c = false → hasC com c = true → Fr g L' h (lm2 x q' te' nc' (.str (mkS [c]) tc)) → News g L' h (LG kh kt vt y dy x dx pb fs com ws quotes split buf rest kq (pre' ++ [c] ++ r.take (r.length - (dropLine r).length)).length (.str (Str.ofString "a") te2) (ln' + nlc c + 1) (mkS tok') ta tb td []) → StepQ (LoopI s g L' x ⟨com, ws, quotes, split⟩ buf out (LG kh kt vt y dy x dx pb fs com ws quotes split buf rest) kq) (LoopP s g L' x buf out (LG kh kt vt y dy x dx pb fs com ws quotes split buf rest)) n .next { s with heap := h, toks := tk } :=
        fun h tk tc ta tb td te2 c1 c2 F N => goes (st := .word) (tok := tok') _ (.inl rfl) (by omega) hbd (by rw [c1, c2] at hout'; exact hout') htn (by simp; omega) (fr_congr F (lm2_eq _ _ _ _ _)) N
      have x3 : ∀ h tk tc ta tb td te2, hasC ws c = false → hasC com c = false → (hasC wordS c || hasC quotes c || split) = true → Fr g L' h (lm2 x q' te' nc' (.str (mkS [c]) tc)) → News g L' h (LG kh kt vt y dy x dx pb fs com ws quotes split buf rest kq (pre' ++ [c]).length (.str (Str.ofString "a") te2) (ln' + nlc c) (mkS tok' ++ mkS [c]) ta tb td []) → StepQ (LoopI s g L' x ⟨com, ws, quotes, split⟩ buf out (LG kh kt vt y dy x dx pb fs com ws quotes split buf rest) kq) (LoopP s g L' x buf out (LG kh kt vt y dy x dx pb fs com ws quotes split buf rest)) n .next { s with heap := h, toks := tk } :=
        fun h tk tc ta tb td te2 c1 c2 c3 F N => goes (st := .word) (tok := tok' ++ [c]) _ (.inl rfl) hrn hbc (by rw [c1, c2, if_pos c3] at hout'; exact hout') (show tok' ++ [c] ≠ [] by simp) (by simp; omega) (fr_congr F (lm2_eq _ _ _ _ _)) (by rw [← mkS_append]; exact N)
      have x4 : ∀ h tk tc ta tb td te2 tp, hasC ws c = false → hasC com c = false → (hasC wordS c || hasC quotes c || split) = false → Fr g L' h (lm2 x q' te' nc' (.str (mkS [c]) tc)) → News g L' h (LG kh kt vt y dy x dx pb fs com ws quotes split buf rest (kq + 1) (pre' ++ [c]).length (.str (Str.ofString " ") te2) (ln' + nlc c) (mkS tok') ta tb td [.str (mkS [c]) tp]) → StepQ (LoopI s g L' x ⟨com, ws, quotes, split⟩ buf out (LG kh kt vt y dy x dx pb fs com ws quotes split buf rest) kq) (LoopP s g L' x buf out (LG kh kt vt y dy x dx pb fs com ws quotes split buf rest)) n .brk { s with heap := h, toks := tk } :=
        fun h tk tc ta tb td te2 tp c1 c2 c3 F N => stops (st := .blank) (push := some c) (tp := tp) hbc (by rw [c1, c2, c3] at hout'; exact hout'.symm) (fr_congr F (lm2_eq _ _ _ _ _)) N
      have or1 : ∀ a b : Bool, hasC wordS c = true → (hasC wordS c || a || b) = true := fun a b e => by rw [e]; rfl
      generalize StepQ _ _ n = SQ at x1 x2 x3 x4 ⊢
      clear F N hout' hout hn' hbuf hbuf' h hst hbc hbd hrn
      k_steps
      all_goals (try dsimp only)
      all_goals first
        | exact x1 _ _ _ _ _ _ _ (by with_reducible assumption) (by with_reducible assumption) (by with_reducible assumption)
        | exact x2 _ _ _ _ _ _ _ (by with_reducible assumption) (by with_reducible assumption) (by with_reducible assumption) (by with_reducible assumption)
        | exact x3 _ _ _ _ _ _ _ (by with_reducible assumption) (by with_reducible assumption) (by simp only [*, Bool.true_or, Bool.or_true, Bool.false_or, Bool.or_false]) (by with_reducible assumption) (by with_reducible assumption)
        | exact x4 _ _ _ _ _ _ _ _ (by with_reducible assumption) (by with_reducible assumption) (by simp only [*, Bool.true_or, Bool.or_true, Bool.false_or, Bool.or_false]) (by with_reducible assumption) (by with_reducible assumption)
  | blank =>
    obtain rfl : tok' = [] := hok'
    rw [mkS_nil] at N'
    dsimp only [LS.val] at N'
    cases rem' with
    | nil =>
      have hz := chAt_end hbuf'
      have hnx := nxt_end hbuf'
      rw [rt_blank_nil] at hout'
      have x1 : ∀ h tk tc ta tb td, Fr g L' h (lm2 x q' te' nc' (.str (Str.ofString "") tc)) → News g L' h (LG kh kt vt y dy x dx pb fs com ws quotes split buf rest kq pre'.length .none ln' (Str.ofString "") ta tb td []) → StepQ (LoopI s g L' x ⟨com, ws, quotes, split⟩ buf out (LG kh kt vt y dy x dx pb fs com ws quotes split buf rest) kq) (LoopP s g L' x buf out (LG kh kt vt y dy x dx pb fs com ws quotes split buf rest)) n .brk { s with heap := h, toks := tk } :=
        fun h tk tc ta tb td F N => stops (rem := []) (push := none) (st := .dead) (tok := []) (t0 := 0) (tp := 0) hbuf' hout'.symm (fr_congr F (lm2_eq _ _ _ _ _)) (by rw [mkS_nil]; exact N)
      generalize StepQ _ _ n = SQ at x1 ⊢
      clear F N hout' hout hn' hbuf hbuf' h hst
      k_steps
      all_goals (try dsimp only)
      all_goals exact x1 _ _ _ _ _ _ (by with_reducible assumption) (by with_reducible assumption)
    | cons c r =>
      have hz := chAt_at hbuf'
      have hnx := nxt_at hbuf'
      have hp2 : (pre' ++ [c]).length ≤ buf.length := by rw [hbuf', mkS_length]; simp
      have hbc : buf = mkS ((pre' ++ [c]) ++ r) := by rw [hbuf']; simp
      have hrn : r.length < n := by simp at hn'; omega
      have hle : lineEnd buf (pre' ++ [c]).length = (pre' ++ [c] ++ r.take (r.length - (dropLine r).length)).length := by rw [hbc, lineEnd_eq]; simp; omega
      have hbd : buf = mkS ((pre' ++ [c] ++ r.take (r.length - (dropLine r).length)) ++ dropLine r) := by rw [hbc, List.append_assoc (pre' ++ [c]), ← dropLine_cut]
      have hdl := dropLine_le r
      rw [rt_blank] at hout'
      dsimp only at hout'
      have x1 : ∀ h tk tc ta tb td te2, hasC ws c = true → Fr g L' h (lm2 x q' te' nc' (.str (mkS [c]) tc)) → News g L' h (LG kh kt vt y dy x dx pb fs com ws quotes split buf rest kq (pre' ++ [c]).length (.str (Str.ofString " ") te2) (ln' + nlc c) (Str.ofString "") ta tb td []) → StepQ (LoopI s g L' x ⟨com, ws, quotes, split⟩ buf out (LG kh kt vt y dy x dx pb fs com ws quotes split buf rest) kq) (LoopP s g L' x buf out (LG kh kt vt y dy x dx pb fs com ws quotes split buf rest)) n .cont { s with heap := h, toks := tk } :=
        fun h tk tc ta tb td te2 c1 F N => goes (st := .blank) (tok := []) _ (.inr rfl) hrn hbc (by rw [if_pos c1] at hout'; exact hout') rfl (by simp) (fr_congr F (lm2_eq _ _ _ _ _)) (by rw [mkS_nil]; exact N)
      have x2 : ∀ h tk tc ta tb td te2, hasC ws c = false → hasC com c = true → Fr g L' h (lm2 x q' te' nc' (.str (mkS [c]) tc)) → News g L' h (LG kh kt vt y dy x dx pb fs com ws quotes split buf rest kq (pre' ++ [c] ++ r.take (r.length - (dropLine r).length)).length (.str (Str.ofString " ") te2) (ln' + nlc c + 1) (Str.ofString "") ta tb td []) → StepQ (LoopI s g L' x ⟨com, ws, quotes, split⟩ buf out (LG kh kt vt y dy x dx pb fs com ws quotes split buf rest) kq) (LoopP s g L' x buf out (LG kh kt vt y dy x dx pb fs com ws quotes split buf rest)) n .next { s with heap := h, toks := tk } :=
        fun h tk tc ta tb td te2 c1 c2 F N => goes (st := .blank) (tok := []) _ (.inl rfl) (by omega) hbd (by rw [c1, c2] at hout'; exact hout') rfl (by simp) (fr_congr F (lm2_eq _ _ _ _ _)) (by rw [mkS_nil]; exact N)
      have x3 : ∀ h tk tc ta tb td te2, hasC ws c = false → hasC com c = false → hasC wordS c = true → Fr g L' h (lm2 x q' te' nc' (.str (mkS [c]) tc)) → News g L' h (LG kh kt vt y dy x dx pb fs com ws quotes split buf rest kq (pre' ++ [c]).length (.str (Str.ofString "a") te2) (ln' + nlc c) (mkS [c]) ta tb td []) → StepQ (LoopI s g L' x ⟨com, ws, quotes, split⟩ buf out (LG kh kt vt y dy x dx pb fs com ws quotes split buf rest) kq) (LoopP s g L' x buf out (LG kh kt vt y dy x dx pb fs com ws quotes split buf rest)) n .next { s with heap := h, toks := tk } :=
        fun h tk tc ta tb td te2 c1 c2 c3 F N => goes (st := .word) (tok := [c]) _ (.inl rfl) hrn hbc (by rw [c1, c2, c3] at hout'; exact hout') (List.cons_ne_nil _ _) (by simp) (fr_congr F (lm2_eq _ _ _ _ _)) N
      have x4 : ∀ h tk tc ta tb td te2, hasC ws c = false → hasC com c = false → hasC wordS c = false → hasC quotes c = true → Fr g L' h (lm2 x q' te' nc' (.str (mkS [c]) tc)) → News g L' h (LG kh kt vt y dy x dx pb fs com ws quotes split buf rest kq (pre' ++ [c]).length (.str (mkS [c]) te2) (ln' + nlc c) (mkS [c]) ta tb td []) → StepQ (LoopI s g L' x ⟨com, ws, quotes, split⟩ buf out (LG kh kt vt y dy x dx pb fs com ws quotes split buf rest) kq) (LoopP s g L' x buf out (LG kh kt vt y dy x dx pb fs com ws quotes split buf rest)) n .next { s with heap := h, toks := tk } :=
        fun h tk tc ta tb td te2 c1 c2 c3 c4 F N => goes (st := .quot c) (tok := [c]) _ (.inl rfl) hrn hbc (by rw [c1, c2, c3, c4] at hout'; exact hout') ⟨c4, List.cons_ne_nil _ _⟩ (by simp) (fr_congr F (lm2_eq _ _ _ _ _)) N
      have x5 : ∀ h tk tc ta tb td te2, hasC ws c = false → hasC com c = false → hasC wordS c = false → hasC quotes c = false → split = true → Fr g L' h (lm2 x q' te' nc' (.str (mkS [c]) tc)) → News g L' h (LG kh kt vt y dy x dx pb fs com ws quotes split buf rest kq (pre' ++ [c]).length (.str (Str.ofString "a") te2) (ln' + nlc c) (mkS [c]) ta tb td []) → StepQ (LoopI s g L' x ⟨com, ws, quotes, split⟩ buf out (LG kh kt vt y dy x dx pb fs com ws quotes split buf rest) kq) (LoopP s g L' x buf out (LG kh kt vt y dy x dx pb fs com ws quotes split buf rest)) n .next { s with heap := h, toks := tk } :=
        fun h tk tc ta tb td te2 c1 c2 c3 c4 c5 F N => goes (st := .word) (tok := [c]) _ (.inl rfl) hrn hbc (by rw [c1, c2, c3, c4, c5] at hout'; rw [c5]; exact hout') (List.cons_ne_nil _ _) (by simp) (fr_congr F (lm2_eq _ _ _ _ _)) N
      have x6 : ∀ h tk tc ta tb td te2, hasC ws c = false → hasC com c = false → hasC wordS c = false → hasC quotes c = false → split = false → Fr g L' h (lm2 x q' te' nc' (.str (mkS [c]) tc)) → News g L' h (LG kh kt vt y dy x dx pb fs com ws quotes split buf rest kq (pre' ++ [c]).length (.str (Str.ofString " ") te2) (ln' + nlc c) (mkS [c]) ta tb td []) → StepQ (LoopI s g L' x ⟨com, ws, quotes, split⟩ buf out (LG kh kt vt y dy x dx pb fs com ws quotes split buf rest) kq) (LoopP s g L' x buf out (LG kh kt vt y dy x dx pb fs com ws quotes split buf rest)) n .brk { s with heap := h, toks := tk } :=
        fun h tk tc ta tb td te2 c1 c2 c3 c4 c5 F N => stops (st := .blank) (tok := [c]) (push := none) (tp := 0) hbc (by rw [c1, c2, c3, c4, c5] at hout'; exact hout'.symm) (fr_congr F (lm2_eq _ _ _ _ _)) N
      generalize StepQ _ _ n = SQ at x1 x2 x3 x4 x5 x6 ⊢
      clear F N hout' hout hn' hbuf hbuf' h hst hbc hbd hrn
      k_steps
      all_goals (try dsimp only)
      all_goals first
        | exact x1 _ _ _ _ _ _ _ (by with_reducible assumption) (by with_reducible assumption) (by with_reducible assumption)
        | exact x2 _ _ _ _ _ _ _ (by with_reducible assumption) (by with_reducible assumption) (by with_reducible assumption) (by with_reducible assumption)
        | exact x3 _ _ _ _ _ _ _ (by with_reducible assumption) (by with_reducible assumption) (by with_reducible assumption) (by with_reducible assumption) (by with_reducible assumption)
        | exact x4 _ _ _ _ _ _ _ (by with_reducible assumption) (by with_reducible assumption) (by with_reducible assumption) (by with_reducible assumption) (by with_reducible assumption) (by with_reducible assumption)
        | exact x5 _ _ _ _ _ _ _ (by with_reducible assumption) (by with_reducible assumption) (by with_reducible assumption) (by with_reducible assumption) (by with_reducible assumption) (by with_reducible assumption) (by with_reducible assumption)
        | exact x6 _ _ _ _ _ _ _ (by with_reducible assumption) (by with_reducible assumption) (by with_reducible assumption) (by with_reducible assumption) (by with_reducible assumption) (by with_reducible assumption) (by with_reducible assumption)
end
structure LX where
  rem : List Nat
  ln : Int
  st : LS
  push : Option Nat
inductive GOut where
  | ok (res : List Nat) (lx : LX)
  | err
noncomputable def LX.ok (l : LX) : Prop := l.st = .blank ∨ (l.st = .dead ∧ l.rem = [])
noncomputable def gtok (P : Pm) (l : LX) : GOut := match l.push with
  | some c => .ok [c] { l with push := none }
  | none => match rt P l.rem l.ln l.st [] with
    | .ok rem ln st res push => .ok res ⟨rem, ln, st, push⟩
    | .err => .err
local macro_rules | `(tactic| walk_at "truthy ref") => `(tactic| (k_here; k_dflt (refine' dq_truthyN ?N ?m ?l ?_; (case N => k_asm); (case m => k_mem); (case l => exact Nat.le_of_ble_eq_true rfl); intro _; (try dsimp only [List.isEmpty, Bool.not_true, Bool.not_false]))))
local macro_rules | `(tactic| walk_at "compareOp Eq str str") => `(tactic| ((with_reducible show wpAny _ _ (compareOp CmpOp.Eq (Value.str (mkS _) _) (Value.str (PySem.Str.ofString "") _)) _ _ _); refine eq_str_no (by with_reducible assumption) ?_))
section
variable {w : World} {A : Around} {s : Shared} {base h₀ : Heap} {outer : List Env} {L : Addr} {m : Str → Option Value} {env : Env} {mg mb : Str → Option Value} {mean : ExcName → Option Value} {R : Result → Shared → Prop} {loose : List Str}
  {y dy x dx pb fs : Addr} {kh : Nat → Int} {kt vt : Nat → Tok} {buf : Str} {t0 t1 t2 t3 tp : Tok} {com ws quotes token : Str} {split : Bool} {lineno : Int} {rest : List (Addr × Obj)} {room : Nat} {kf : Int}
theorem get_spec (C : Amb w A base h₀ outer env L mg mb mean loose 8) (F : Fr h₀ L s.heap m) {pre : List Nat} {kq : Int} {lx : LX} {out : GOut}
  (N : News h₀ L s.heap (LG kh kt vt y dy x dx pb fs com ws quotes split buf ((fs, dqObj kf []) :: rest) kq pre.length (lx.st.val t0) lx.ln (Str.ofString "") t1 t2 t3 (pbsOf lx.push tp)))
  (hne : @Ne Nat y dy ∧ @Ne Nat y x ∧ @Ne Nat y dx ∧ @Ne Nat dy x ∧ @Ne Nat dy dx ∧ @Ne Nat x dx ∧ @Ne Nat pb y ∧ @Ne Nat pb dy ∧ @Ne Nat pb x ∧ @Ne Nat pb dx) (hnf : @Ne Nat fs dy ∧ @Ne Nat fs dx ∧ @Ne Nat fs pb) (hr1 : ∀ p ∈ rest, p.1 ≠ dy) (hr2 : ∀ p ∈ rest, p.1 ≠ dx) (hr3 : ∀ p ∈ rest, p.1 ≠ pb)
  (hb : buf.length ≤ 4096) (hbuf : buf = mkS (pre ++ lx.rem)) (hst : lx.ok) (hout : gtok ⟨com, ws, quotes, split⟩ lx = out)
  (hq1 : hasC quotes 97 = false) (hq2 : hasC quotes 32 = false)
  (h : ∀ h' tk pre' lx' res kq' t t0 t1 t2 t3 tp, out = .ok res lx' → buf = mkS (pre' ++ lx'.rem) → Fr h₀ L h' m →
    News h₀ L h' (LG kh kt vt y dy x dx pb fs com ws quotes split buf ((fs, dqObj kf []) :: rest) kq' pre'.length (lx'.st.val t0) lx'.ln (Str.ofString "") t1 t2 t3 (pbsOf lx'.push tp)) → R (.ok (.ret (.str (mkS res) t))) { s with heap := h', toks := tk })
  (hErr : ∀ e t tm g h' tk, out = .err → Fr h₀ L g m → g.UpToSlots h' → RaisedS base g (env :: outer) e (.type "ValueError") t [.str (Str.ofString "No closing quotation") tm] rest h' → R (.error (.ref e)) { s with heap := h', toks := tk }) :
  codeAny (model PySem.Challenge.rw_nq0177_02.row.prog w) A (.call (.ref 690) ⟨[.ref x], []⟩) R s := by
  obtain ⟨⟨A₀, B⟩, X₀, T, hA, hf, hk, hroom, hh⟩ := C
  obtain ⟨rem, ln, st, push⟩ := lx
  dsimp only at *
  cases push with
  | some c =>
    dsimp only [gtok] at hout
    have y1 : ∀ h'' tk t, Fr h₀ L h'' m → News h₀ L h'' (LG kh kt vt y dy x dx pb fs com ws quotes split buf ((fs, dqObj kf []) :: rest) (kq + 1) pre.length (st.val t0) ln (Str.ofString "") t1 t2 t3 []) → R (.ok (.ret (.str (mkS [c]) t))) { s with heap := h'', toks := tk } :=
      fun h'' tk t F N => h h'' tk pre ⟨rem, ln, st, none⟩ [c] (kq + 1) t t0 t1 t2 t3 tp hout.symm hbuf F N
    dsimp only [pbsOf] at N
    clear h hErr hout hbuf hst
    walk_at "my enter"
    k_steps
    all_goals (try dsimp only)
    all_goals exact y1 _ _ _ (by with_reducible assumption) (by with_reducible assumption)
  | none =>
    dsimp only [pbsOf] at N
    walk_at "my enter0"
    intro g L' h₁ FG F₁ N₁ B' X' T'
    dsimp only
    k_fold
    iterate 16 (first | walk1 | (dsimp only; walk1))
    refine wpAny_call ?_
    have hrf1 : ∀ p ∈ ((fs, dqObj kf []) :: rest), p.1 ≠ dy := by k_all
    have hrf2 : ∀ p ∈ ((fs, dqObj kf []) :: rest), p.1 ≠ dx := by k_all
    have hrf3 : ∀ p ∈ ((fs, dqObj kf []) :: rest), p.1 ≠ pb := by k_all
    refine' tok_spec (st := st) (rem := rem) (pre := pre) (out := rt ⟨com, ws, quotes, split⟩ rem ln st []) ?C ?F ?N hne hrf1 hrf2 hrf3 hb hbuf hst rfl hq1 hq2 ?ok ?err
    case F => k_asm
    case N => k_asm
    case C => walk_at "my amb"
    case err =>
      intro e t tm g2 h' tk ho FG2 US RK
      dsimp only
      k_unfold
      try dsimp only
      refine leave_onS B' FG2 (RaisedS.sub RK fun q hq => List.mem_cons_of_mem _ hq) US ?_
      intro h2 RK2 _ US2
      refine hErr _ _ _ _ _ _ ?_ FG US2 RK2
      rw [← hout, gtok]; dsimp only; rw [ho]
    case ok =>
      intro h' tk rem' pre' ln' st' res push' kq' t t0' t1' t2' t3' tp' ho hbuf' F' N'
      have hout2 : out = .ok res ⟨rem', ln', st', push'⟩ := by rw [← hout, gtok]; dsimp only; rw [ho]
      have y1 : ∀ h'' tk t, Fr h₀ L h'' m → News h₀ L h'' (LG kh kt vt y dy x dx pb fs com ws quotes split buf ((fs, dqObj kf []) :: rest) kq' pre'.length (st'.val t0') ln' (Str.ofString "") t1' t2' t3' (pbsOf push' tp')) → R (.ok (.ret (.str (mkS res) t))) { s with heap := h'', toks := tk } :=
        fun h'' tk t F N => h h'' tk pre' ⟨rem', ln', st', push'⟩ res kq' t t0' t1' t2' t3' tp' hout2 hbuf' F N
      dsimp only
      clear h hErr hout hbuf hst hout2 hbuf' ho F N
      cases res with
      | nil =>
        rw [mkS_nil] at y1 ⊢
        k_steps
        all_goals (try dsimp only)
        all_goals exact y1 _ _ _ (by with_reducible assumption) (by with_reducible assumption)
      | cons c0 r0 =>
        have hemp : (mkS (c0 :: r0) == Str.ofString "") = false := by
          refine beq_eq_false_iff_ne.mpr fun e => ?_
          have := mkS_inj (e.trans mkS_nil.symm)
          cases this
        k_steps
        all_goals (try dsimp only)
        all_goals exact y1 _ _ _ (by with_reducible assumption) (by with_reducible assumption)
end
section
variable {w : World} {A : Around} {s : Shared} {base h₀ : Heap} {outer : List Env} {L : Addr} {m : Str → Option Value} {env : Env} {mg mb : Str → Option Value} {mean : ExcName → Option Value} {R : Result → Shared → Prop} {loose : List Str}
  {y dy x dx pb fs : Addr} {kh : Nat → Int} {kt vt : Nat → Tok} {buf : Str} {t0 t1 t2 t3 tp : Tok} {com ws quotes token : Str} {split : Bool} {lineno : Int} {rest : List (Addr × Obj)} {room : Nat} {kf : Int}
theorem next_spec (C : Amb w A base h₀ outer env L mg mb mean loose 10) (F : Fr h₀ L s.heap m) {pre : List Nat} {kq : Int} {lx : LX} {out : GOut}
  (N : News h₀ L s.heap (LG kh kt vt y dy x dx pb fs com ws quotes split buf ((fs, dqObj kf []) :: rest) kq pre.length (lx.st.val t0) lx.ln (Str.ofString "") t1 t2 t3 (pbsOf lx.push tp)))
  (hne : @Ne Nat y dy ∧ @Ne Nat y x ∧ @Ne Nat y dx ∧ @Ne Nat dy x ∧ @Ne Nat dy dx ∧ @Ne Nat x dx ∧ @Ne Nat pb y ∧ @Ne Nat pb dy ∧ @Ne Nat pb x ∧ @Ne Nat pb dx) (hnf : @Ne Nat fs dy ∧ @Ne Nat fs dx ∧ @Ne Nat fs pb) (hr1 : ∀ p ∈ rest, p.1 ≠ dy) (hr2 : ∀ p ∈ rest, p.1 ≠ dx) (hr3 : ∀ p ∈ rest, p.1 ≠ pb)
  (hb : buf.length ≤ 4096) (hbuf : buf = mkS (pre ++ lx.rem)) (hst : lx.ok) (hout : gtok ⟨com, ws, quotes, split⟩ lx = out)
  (hq1 : hasC quotes 97 = false) (hq2 : hasC quotes 32 = false)
  (h : ∀ h' tk pre' lx' c res kq' t t0 t1 t2 t3 tp, out = .ok (c :: res) lx' → buf = mkS (pre' ++ lx'.rem) → Fr h₀ L h' m →
    News h₀ L h' (LG kh kt vt y dy x dx pb fs com ws quotes split buf ((fs, dqObj kf []) :: rest) kq' pre'.length (lx'.st.val t0) lx'.ln (Str.ofString "") t1 t2 t3 (pbsOf lx'.push tp)) → R (.ok (.ret (.str (mkS (c :: res)) t))) { s with heap := h', toks := tk })
  (hStop : ∀ e t g h' tk pre' lx' kq' t0 t1 t2 t3 tp, out = .ok [] lx' → buf = mkS (pre' ++ lx'.rem) → Fr h₀ L g m → g.UpToSlots h' →
    RaisedS base g (env :: outer) e (.type "StopIteration") t [] (LG kh kt vt y dy x dx pb fs com ws quotes split buf ((fs, dqObj kf []) :: rest) kq' pre'.length (lx'.st.val t0) lx'.ln (Str.ofString "") t1 t2 t3 (pbsOf lx'.push tp)) h' → R (.error (.ref e)) { s with heap := h', toks := tk })
  (hErr : ∀ e t tm g h' tk, out = .err → Fr h₀ L g m → g.UpToSlots h' → RaisedS base g (env :: outer) e (.type "ValueError") t [.str (Str.ofString "No closing quotation") tm] rest h' → R (.error (.ref e)) { s with heap := h', toks := tk }) :
  codeAny (model PySem.Challenge.rw_nq0177_02.row.prog w) A (.call (.ref 726) ⟨[.ref x], []⟩) R s := by
  obtain ⟨⟨A₀, B⟩, X₀, T, hA, hf, hk, hroom, hh⟩ := C
  walk_at "my enter0"
  intro g L' h₁ FG F₁ N₁ B' X' T'
  dsimp only
  k_fold
  iterate 7 (first | walk1 | (dsimp only; walk1))
  refine wpAny_call ?_
  refine' get_spec (lx := lx) (pre := pre) (out := out) (rest := rest) ?C ?F ?N hne hnf hr1 hr2 hr3 hb hbuf hst hout hq1 hq2 ?ok ?err
  case F => k_asm
  case N => k_asm
  case C => walk_at "my amb"
  case err =>
    intro e t tm g2 h' tk ho FG2 US RK
    dsimp only
    k_unfold
    try dsimp only
    refine leave_onS B' FG2 RK US ?_
    intro h2 RK2 _ US2
    exact hErr _ _ _ _ _ _ ho FG US2 RK2
  case ok =>
    intro h' tk pre' lx' res kq' t t0' t1' t2' t3' tp' ho hbuf' F' N'
    cases res with
    | nil =>
      have y1 : ∀ e t g h' tk, Fr h₀ L g m → g.UpToSlots h' → RaisedS base g (env :: outer) e (.type "StopIteration") t [] (LG kh kt vt y dy x dx pb fs com ws quotes split buf ((fs, dqObj kf []) :: rest) kq' pre'.length (lx'.st.val t0') lx'.ln (Str.ofString "") t1' t2' t3' (pbsOf lx'.push tp')) h' → R (.error (.ref e)) { s with heap := h', toks := tk } :=
        fun e t g h' tk a b c => hStop e t g h' tk pre' lx' kq' t0' t1' t2' t3' tp' ho hbuf' a b c
      rw [mkS_nil]
      dsimp only
      clear h hErr hStop hout hbuf hst hbuf' ho F N
      k_steps
      (with_reducible rename Fr _ _ _ _ => kF)
      refine owsi_raiseC hh ?hx ?_
      case hx => refine' name_B kF X' (topRead_of T') ?k3 PyProof.Rows.Boot.«StopIteration» ?k5 ⟨rfl, rfl⟩; (case k3 => k_is); (case k5 => decide)
      intro h' e hm
      k_unfold
      try dsimp only
      refine leave_raiseS B' (Heap.MadeExc.of hm) kF (by assumption) ?_
      intro h2 t2 RK _ US
      exact y1 _ _ _ _ _ FG US RK
    | cons c0 r0 =>
      have hemp : (mkS (c0 :: r0) == Str.ofString "") = false := by
        refine beq_eq_false_iff_ne.mpr fun e => ?_
        have := mkS_inj (e.trans mkS_nil.symm)
        cases this
      have y1 : ∀ h'' tk t, Fr h₀ L h'' m → News h₀ L h'' (LG kh kt vt y dy x dx pb fs com ws quotes split buf ((fs, dqObj kf []) :: rest) kq' pre'.length (lx'.st.val t0') lx'.ln (Str.ofString "") t1' t2' t3' (pbsOf lx'.push tp')) → R (.ok (.ret (.str (mkS (c0 :: r0)) t))) { s with heap := h'', toks := tk } :=
        fun h'' tk t F N => h h'' tk pre' lx' c0 r0 kq' t t0' t1' t2' t3' tp' ho hbuf' F N
      dsimp only
      clear h hErr hStop hout hbuf hst hbuf' ho F N
      k_steps
      all_goals (try dsimp only)
      all_goals exact y1 _ _ _ (by with_reducible assumption) (by with_reducible assumption)
end
theorem sio_made (w : World) : peek (hd2.heap_1 w.params) ⟨PySem.Challenge.rw_nq0177_02.row.prog, w.params⟩ (Bind.madeBy (.ref 594)) = some none := by kernel_rfl
theorem sio_here (w : World) : peek (hd2.heap_1 w.params) ⟨PySem.Challenge.rw_nq0177_02.row.prog, w.params⟩ (Bind.madeHere "object.__new__" (.ref 594)) = some () := by kernel_rfl
theorem sio_mro (w : World) : peek (hd2.heap_1 w.params) ⟨PySem.Challenge.rw_nq0177_02.row.prog, w.params⟩ (mroOf (.ref 594)) = some [.ref 594, .ref 117, .ref 90, .type "object"] := by kernel_rfl
theorem sio_isType (w : World) : peek (hd2.heap_1 w.params) ⟨PySem.Challenge.rw_nq0177_02.row.prog, w.params⟩ (isType (.ref 594)) = some true := by kernel_rfl
theorem sio_call (w : World) : peek (hd2.heap_1 w.params) ⟨PySem.Challenge.rw_nq0177_02.row.prog, w.params⟩ (specialOf (.ref 594) "__call__") = some (some (.builtin "type.__call__")) := by kernel_rfl
theorem sio_inst (w : World) : peek (hd2.heap_1 w.params) ⟨PySem.Challenge.rw_nq0177_02.row.prog, w.params⟩ (isInstance (.ref 594) (.type "type")) = some true := by kernel_rfl
theorem sio_sub (w : World) : peek (hd2.heap_1 w.params) ⟨PySem.Challenge.rw_nq0177_02.row.prog, w.params⟩ (isSubtype (.ref 594) (.ref 594)) = some true := by kernel_rfl
theorem sio_subo (w : World) : peek (hd2.heap_1 w.params) ⟨PySem.Challenge.rw_nq0177_02.row.prog, w.params⟩ (isSubtype (.ref 594) (.type "object")) = some true := by kernel_rfl
theorem sio_check (w : World) : peek (hd2.heap_1 w.params) ⟨PySem.Challenge.rw_nq0177_02.row.prog, w.params⟩ (checkBuiltinCall "object.__new__" ⟨[.ref 594], []⟩) = some () := by kernel_rfl
theorem sio_clsB (w : World) : (match (hd2.heap_1 w.params).lookup 594 with | some ⟨_, _, .cls cd, _⟩ => !cd.abstract && !cd.hasDel | _ => false) = true := by kernel_rfl
theorem sio_cls (w : World) : ∃ oc od cd sl, (hd2.heap_1 w.params).lookup 594 = some ⟨oc, od, .cls cd, sl⟩ ∧ cd.abstract = false ∧ cd.hasDel = false := by
  have e := sio_clsB w
  split at e
  · rename_i ho
    simp only [Bool.and_eq_true, Bool.not_eq_true'] at e
    exact ⟨_, _, _, _, ho, e.1, e.2⟩
  · cases e
section
open Builtin Builtin.ObjectAttr Builtin.Getset_descriptor
variable {w : World} {A : Around} {R : Result → Shared → Prop} {h : Heap} {g : Array GenState} {d : Drawn} {t : Nat} {os : OsState}
theorem sio_new (X : (hd2.heap_1 w.params).In h)
    (hq : R (.ok (.ret (.ref (h.objs.size + 1)))) ⟨(h.push emptyDict).push (instObj 594 h.objs.size), g, d, t, os⟩) :
    codeAny (model PySem.Challenge.rw_nq0177_02.row.prog w) A (.call (.builtin "object.__new__") ⟨[.ref 594], []⟩) R ⟨h, g, d, t, os⟩ := by
  obtain ⟨oc, od, cd, sl, hC, e1, e2⟩ := sio_cls w
  replace hC := X _ _ hC
  have here : Looks (model PySem.Challenge.rw_nq0177_02.row.prog w) h (Bind.madeHere "object.__new__" (.ref 594)) () := Looks.of_peek X (sio_here w)
  have typ : Looks (model PySem.Challenge.rw_nq0177_02.row.prog w) h (isType (.ref 594)) true := Looks.of_peek X (sio_isType w)
  have top : Looks (model PySem.Challenge.rw_nq0177_02.row.prog w) h (isSubtype (.ref 594) (.type "object")) true := Looks.of_peek X (sio_subo w)
  have F := PySem.F.objNew
  refine codeAny_call_builtin_code (Code.quiet_builtin _ F.quiet) ?_
  refine (Looks.of_peek X (sio_check w) : Looks (model PySem.Challenge.rw_nq0177_02.row.prog w) h (checkBuiltinCall "object.__new__" ⟨[.ref 594], []⟩) ()).here ?_
  refine codeAny_builtin F.entry ?_
  unfold Builtin.«object.__new__»
  have fin : ∀ A', wpAny (model PySem.Challenge.rw_nq0177_02.row.prog w) A' (do
      let d ← if typeHasDict (.ref 594) then some <$> alloc { cls := .type "dict", data := .dict #[] } else pure none
      ret (← newObj (.ref 594) .plain d)) (fun fin s' => match fin with | .done f => R (.ok f) s' | .again c' => c'.quiet = true ∧ codeAny (model PySem.Challenge.rw_nq0177_02.row.prog w) A c' R s') (fun e s' => R (.error e) s') ⟨h, g, d, t, os⟩ := by
    intro A'
    show wpAny _ _ ((alloc emptyDict >>= fun x => pure (some x)) >>= _) _ _ _
    refine wpAny_bind (wpAny_bind (wpAny_alloc (wpAny_pure (wpAny_bind ?_))))
    show wpAny _ _ (newObjAsIs _ _ _) _ _ _
    unfold newObjAsIs classHasDel
    refine wpAny_bind (wpAny_alloc (wpAny_bind (wpAny_bind (wpAny_load (Heap.get?_push_of_some _ (Heap.get?_push_of_some _ hC)) (wpAny_pure ?_)))))
    rw [e2]
    refine wpAny_pure (wpAny_pure ?_)
    show R _ _
    rw [Heap.size_push]
    exact hq
  repeat (first | simp only [e1, Bool.false_eq_true, if_false, Bool.not_true] | exact fin _ | lk)
end
section
variable {w : World} {A : Around} {s : Shared} {base h₀ : Heap} {outer : List Env} {L : Addr} {m : Str → Option Value} {env : Env} {mg mb : Str → Option Value} {mean : ExcName → Option Value} {R : Result → Shared → Prop} {loose : List Str}
  {news : List (Addr × Obj)} {text : Str} {tt : Tok}
theorem newfn_spec (C : Amb w A base h₀ outer env L mg mb mean loose 4) (F : Fr h₀ L s.heap m) (N : News h₀ L s.heap news)
  (h : ∀ y dy h' tk, Fr h₀ L h' m → News h₀ L h' ((y, instObj 594 dy) :: (dy, emptyDict) :: news) → (∀ p ∈ news, p.1 < dy) → dy < y → R (.ok (.ret (.ref y))) { s with heap := h', toks := tk }) :
  codeAny (model PySem.Challenge.rw_nq0177_02.row.prog w) A (.call (.ref 87) ⟨[.ref 594, .str text tt], []⟩) R s := by
  obtain ⟨⟨A₀, B⟩, X₀, T, hA, hf, hk, hroom, hh⟩ := C
  refine' kp_both (DD := []) (vs := [.str text tt]) (ex := []) B F X₀ N T hA hf hk ?ho ?hcd ?room ?v ?x ?nr ?nm ?kn ?hD ?fr ?hp ?hp2 ?hk2 ?hloc ?_ ?c2 ?c3 ?c4 ?c5
  case ho => k_is
  case hcd => k_is
  case room => walk_at "my room"
  case v => exact rfl
  case x => exact rfl
  case nr => exact rfl
  case nm => exact rfl
  case kn => exact rfl
  case hD => constructor
  case fr => exact rfl
  case hp => exact rfl
  case hp2 => exact fun _ => rfl
  case hk2 => exact fun _ _ => rfl
  case hloc => exact fun _ _ => locs rfl
  case c5 => decide
  case c2 => exact rfl
  case c3 => exact rfl
  case c4 => exact rfl
  intro C1 D1 o1 g L' h₁ tk l1 l2 _ _ _ FG F₁ N₁ B' X' T'
  try dsimp only
  k_fold
  k_steps
  refine wpAny_call (sio_new (X'.keeps F₁.keep) ?_)
  have N2 := (N₁.push F₁ emptyDict).push (F₁.push _) (instObj 594 h₁.objs.size)
  rw [Heap.size_push] at N2
  have F2 := (F₁.push emptyDict).push (instObj 594 h₁.objs.size)
  try dsimp only
  try k_unfold
  try dsimp only
  refine leaveK_ F2 N2 fun kF kN => ?_
  refine h _ _ _ _ kF (fun p hp => kN p ?_) (fun p hp => Heap.lt_size (N₁ p (by simp only [List.mem_cons]; exact .inr (.inr hp))).1) (Nat.lt_succ_self _)
  simp only [List.mem_cons] at hp ⊢
  rcases hp with hp | hp | hp
  · exact .inl hp
  · exact .inr (.inl hp)
  · exact .inr (.inr (.inr (.inr hp)))
/- the class called: StringIO(text) -/
theorem sio_make (C : Amb w A base h₀ outer env L mg mb mean loose 8) (F : Fr h₀ L s.heap m) (N : News h₀ L s.heap news)
  (h : ∀ y dy h' tk, Fr h₀ L h' m → News h₀ L h' ((y, instObj 594 dy) :: (dy, emptyDict) :: news) → (∀ p ∈ news, p.1 < dy) → dy < y →
    codeAny (model PySem.Challenge.rw_nq0177_02.row.prog w) (A.under (.builtin "type.__call__" ⟨[.ref 594, .str text tt], []⟩)) (.call (.ref 364) ⟨[.ref y, .str text tt], []⟩) (InitBack y R) { s with heap := h', toks := tk }) :
  codeAny (model PySem.Challenge.rw_nq0177_02.row.prog w) A (.call (.ref 594) ⟨[.str text tt], []⟩) R s := by
  obtain ⟨⟨A₀, B⟩, X₀, T, hA, hf, hk, hroom, hh⟩ := C
  have X := X₀.keeps F.keep
  obtain ⟨H, gg, d, t, os⟩ := s
  dsimp only at *
  obtain ⟨oc, od, cd, sl, hC, e1, e2⟩ := sio_cls w
  replace hC := X _ _ hC
  have call : Looks (model PySem.Challenge.rw_nq0177_02.row.prog w) H (specialOf (.ref 594) "__call__") (some (.builtin "type.__call__")) := Looks.of_peek X (sio_call w)
  have typ : Looks (model PySem.Challenge.rw_nq0177_02.row.prog w) H (isInstance (.ref 594) (.type "type")) true := Looks.of_peek X (sio_inst w)
  refine codeAny_of_tree ?_
  show wpAny _ _ (callAny (.ref 594) _) _ _ _
  refine nd_load hC ?_
  show wpAny _ _ (callAny.viaDunder (.ref 594) _) _ _ _
  unfold callAny.viaDunder
  refine wpAny_bind (call.at ?_)
  dsimp only
  rw [tc_bind]
  refine wpAny_bind (wpAny_pure (wpAny_bind (wpAny_pure ?_)))
  refine wpAny_pure (a := Fin.again (.call (.builtin "type.__call__") ⟨[.ref 594, .str text tt], []⟩)) (And.intro rfl ?_)
  refine codeAny_call_builtin_at (Code.quiet_builtin _ (by decide +kernel)) entry_typeCall (check_slot tc_kind tc_split typ (tc_args _ _ _) ?_)
  unfold Builtin.«type.__call__»
  have hm : Looks (model PySem.Challenge.rw_nq0177_02.row.prog w) H (mroOf (.ref 594)) [.ref 594, .ref 117, .ref 90, .type "object"] := Looks.of_peek X (sio_mro w)
  have hmade : Looks (model PySem.Challenge.rw_nq0177_02.row.prog w) H (Bind.madeBy (.ref 594)) none := Looks.of_peek X (sio_made w)
  have F' : Fr h₀ L (⟨H, gg, d, t, os⟩ : Shared).heap m := F
  have hget : ∀ {A' : Around} {Q : Value → Shared → Prop} {E : Value → Shared → Prop} {b : Bool}, (∀ tk, Q (.ref 87) ⟨H, gg, d, tk, os⟩) → wpAny (model PySem.Challenge.rw_nq0177_02.row.prog w) A' (getAttr (.ref 594) "__new__" b) Q E ⟨H, gg, d, t, os⟩ := by
    intro A' Q E b q
    refine' cls_sm F' X₀ ?k3 ?k4 ?k5 ?k6 ?k7 ?_
    case k3 => k_is
    case k4 => k_is
    case k5 => k_is
    case k6 => k_is
    case k7 => k_handed
    exact q _
  repeat (first | simp only [List.isEmpty_cons, Bool.false_eq_true, if_false] | with_reducible refine hget ?_ | with_reducible refine wpAny_call ?_ | lk)
  intro tk
  refine wpAny_bind (wpAny_holding (wpAny_call ?_))
  refine newfn_spec (env := env) (outer := outer) (base := base) (loose := loose) (mean := mean) (mg := mg) (mb := mb) (h₀ := h₀) (L := L) (m := m) (news := news) ⟨⟨A₀, B⟩, X₀, T, hA, hf, hk, by walk_at "my room", hh⟩ F N ?_
  intro y dy h' tk' F2 N2 l1 l2
  dsimp only
  have X2 := X₀.keeps F2.keep
  have I := InstAt.of_news N2 (List.Mem.head _) (List.Mem.tail _ (List.Mem.head _))
  have inst : Looks (model PySem.Challenge.rw_nq0177_02.row.prog w) h' (isInstance (.ref y) (.ref 594)) true := I.type.andThen (Looks.of_peek X2 (sio_sub w))
  refine wpAny_bind (inst.at ?_)
  simp only [Bool.not_true, Bool.false_eq_true, if_false]
  refine wpAny_bind (wpAny_holding (special_fn (s := ⟨h', gg, d, tk', os⟩) (f := 364) X2 I ?k1 ?k2 (wpAny_call (codeAny_mono (h y dy h' tk' F2 N2 l1 l2) fun r s' z => ?_))))
  case k1 => k_is
  case k2 => k_is
  rcases r with e | (v | _ | _ | _) <;> first | exact z | exact z.elim | skip
  obtain ⟨rfl, z⟩ := z
  exact wpAny_pure z
end
section
variable {w : World} {A : Around} {s : Shared} {base h₀ : Heap} {outer : List Env} {L : Addr} {m : Str → Option Value} {env : Env} {mg mb : Str → Option Value} {mean : ExcName → Option Value} {R : Result → Shared → Prop} {loose : List Str}
  {news : List (Addr × Obj)} {text : Str} {tt : Tok} {y dy : Addr}
theorem sinit_spec (C : Amb w A base h₀ outer env L mg mb mean loose 4) (F : Fr h₀ L s.heap m) (N : News h₀ L s.heap ((y, instObj 594 dy) :: (dy, emptyDict) :: news)) (hl : ∀ p ∈ news, p.1 < dy) (hlt : dy < y)
  (h : ∀ h' tk q0 q1 q2 k0 k1 k2 v0 v1 t, Fr h₀ L h' m → News h₀ L h' ((y, instObj 594 dy) :: (dy, dictOf [⟨q0, .str (Str.ofString "_StringIO__newline") k0, .str (Str.ofString "\n") v0⟩, ⟨q1, .str (Str.ofString "_StringIO__buf") k1, .str text v1⟩, ⟨q2, .str (Str.ofString "_StringIO__pos") k2, .int 0 t⟩] 3) :: news) → R (.ok (.ret .none)) { s with heap := h', toks := tk }) :
  codeAny (model PySem.Challenge.rw_nq0177_02.row.prog w) A (.call (.ref 364) ⟨[.ref y, .str text tt], []⟩) R s := by
  obtain ⟨⟨A₀, B⟩, X₀, T, hA, hf, hk, hroom, hh⟩ := C
  have hr1 : ∀ p ∈ news, p.1 ≠ dy := fun p hp => Nat.ne_of_lt (hl p hp)
  have hne : @Ne Nat y dy := Nat.ne_of_gt hlt
  clear hl hlt
  walk_at "my enter"
  k_steps
  exact h _ _ _ _ _ _ _ _ _ _ _ (by assumption) (by assumption)
theorem sio_spec (C : Amb w A base h₀ outer env L mg mb mean loose 8) (F : Fr h₀ L s.heap m) (N : News h₀ L s.heap news)
  (h : ∀ y dy h' tk q0 q1 q2 k0 k1 k2 v0 v1 t, Fr h₀ L h' m → News h₀ L h' ((y, instObj 594 dy) :: (dy, dictOf [⟨q0, .str (Str.ofString "_StringIO__newline") k0, .str (Str.ofString "\n") v0⟩, ⟨q1, .str (Str.ofString "_StringIO__buf") k1, .str text v1⟩, ⟨q2, .str (Str.ofString "_StringIO__pos") k2, .int 0 t⟩] 3) :: news) → (∀ p ∈ news, p.1 < dy) → dy < y → R (.ok (.ret (.ref y))) { s with heap := h', toks := tk }) :
  codeAny (model PySem.Challenge.rw_nq0177_02.row.prog w) A (.call (.ref 594) ⟨[.str text tt], []⟩) R s := by
  refine sio_make C F N fun y dy h' tk F2 N2 l1 l2 => ?_
  obtain ⟨⟨A₀, B⟩, X₀, T, hA, hf, hk, hroom, hh⟩ := C
  refine sinit_spec (env := env) (outer := outer) (base := base) (loose := loose) (mean := mean) (mg := mg) (mb := mb) (h₀ := h₀) (L := L) (m := m) ⟨⟨A₀, B⟩, X₀, T, hA, hf, hk, by walk_at "my room", hh⟩ F2 N2 l1 l2 ?_
  intro h3 tk3 q0 q1 q2 k0 k1 k2 v0 v1 t F3 N3
  exact ⟨rfl, h _ _ _ _ _ _ _ _ _ _ _ _ _ F3 N3 l1 l2⟩
end
noncomputable def pk {α : Type} (d : α) : List (Nat × α) → Nat → α
  | [], _ => d
  | (k, v) :: r, n => if n = k then v else pk d r n
theorem news_order {h₀ h : Heap} {L : Addr} {news : List (Addr × Obj)} {f p y d x e : Addr × Obj} (N : News h₀ L h (f :: p :: y :: d :: x :: e :: news)) : News h₀ L h (y :: d :: x :: e :: p :: f :: news) := fun q hq => N q (by
  simp only [List.mem_cons] at hq ⊢
  rcases hq with h | h | h | h | h | h | h <;> simp [h])
theorem allLt_intro {d : Addr} {l : List (Addr × Obj)} (h : ∀ p ∈ l, p.1 < d) : AllLt d l := allLt_of h
local macro_rules | `(tactic| walk_at "call ref") => `(tactic| (k_here; (with_reducible show wpAny _ _ (call (Value.ref 594) _) _ _ _); k_dflt (refine wpAny_call ?_; refine' sio_spec ?C ?F ?N ?_; (case F => k_asm); (case N => k_asm); (case C => walk_at "my amb"); intro y' dy' h' tk' q0' q1' q2' k0' k1' k2' v0' v1' t' F' N' l1 l2; (try k_lt l1); (try k_lt2 l2); (try dsimp only); (try k_sweep))))
local macro_rules | `(tactic| walk_at "call type:collections.deque") => `(tactic| (k_here; k_dflt (refine' dq_makeN ?F ?N ?_; (case F => k_asm); (case N => k_asm); intro a' h' F' N' l1; (try k_lt l1); (try dsimp only); (try k_sweep))))
section
variable {w : World} {A : Around} {s : Shared} {base h₀ : Heap} {outer : List Env} {L : Addr} {m : Str → Option Value} {env : Env} {mg mb : Str → Option Value} {mean : ExcName → Option Value} {R : Result → Shared → Prop} {loose : List Str}
  {news : List (Addr × Obj)} {text : Str} {tt : Tok} {x dx : Addr}
theorem linit_spec (C : Amb w A base h₀ outer env L mg mb mean loose 12) (F : Fr h₀ L s.heap m) (N : News h₀ L s.heap ((x, instObj 729 dx) :: (dx, emptyDict) :: news)) (hl : ∀ p ∈ news, p.1 < dx) (hlt : @LT.lt Nat _ dx x)
  (h : ∀ y dy pb fs kh kt vt t0 t1 t2 t3 h' tk, Fr h₀ L h' m → News h₀ L h' (LG kh kt vt y dy x dx pb fs (Str.ofString "#") (Str.ofString " \t\r\n") (Str.ofString "'\"") false text ((fs, dqObj 0 []) :: news) 0 0 (.str (Str.ofString " ") t0) 1 (Str.ofString "") t1 t2 t3 []) →
    (@LT.lt Nat _ x dy ∧ @LT.lt Nat _ dy y ∧ @LT.lt Nat _ y pb ∧ @LT.lt Nat _ pb fs) → R (.ok (.ret .none)) { s with heap := h', toks := tk }) :
  codeAny (model PySem.Challenge.rw_nq0177_02.row.prog w) A (.call (.ref 653) ⟨[.ref x, .str text tt], []⟩) R s := by
  obtain ⟨⟨A₀, B⟩, X₀, T, hA, hf, hk, hroom, hh⟩ := C
  have hr1 : ∀ p ∈ news, p.1 ≠ dx := fun p hp => Nat.ne_of_lt (hl p hp)
  walk_at "my enter"
  k_steps
  rename_i N' _ _
  refine h _ _ _ _ (pk 0 [(0, _), (1, _), (2, _), (3, _), (4, _), (5, _), (6, _), (7, _), (8, _), (9, _), (10, _), (11, _), (12, _), (13, _), (14, _), (15, _), (16, _), (17, _), (18, _), (100, _), (101, _), (102, _)]) (pk 0 [(0, _), (1, _), (2, _), (3, _), (4, _), (5, _), (6, _), (7, _), (8, _), (9, _), (10, _), (11, _), (12, _), (13, _), (14, _), (15, _), (16, _), (17, _), (18, _), (100, _), (101, _), (102, _)]) (pk 0 [(3, _), (4, _), (5, _), (6, _), (8, _), (9, _), (10, _), (14, _), (18, _), (100, _), (101, _)]) _ _ _ _ _ _ (by assumption) (news_order N') ?_
  omega
end
section
variable {w : World} {A : Around} {s : Shared} {base h₀ : Heap} {outer : List Env} {L : Addr} {m : Str → Option Value} {env : Env} {mg mb : Str → Option Value} {mean : ExcName → Option Value} {R : Result → Shared → Prop} {loose : List Str}
  {news : List (Addr × Obj)} {text : Str} {tt : Tok}
theorem lex_spec (C : Amb w A base h₀ outer env L mg mb mean loose 14) (F : Fr h₀ L s.heap m) (N : News h₀ L s.heap news)
  (h : ∀ x dx y dy pb fs kh kt vt t0 t1 t2 t3 h' tk, Fr h₀ L h' m → News h₀ L h' (LG kh kt vt y dy x dx pb fs (Str.ofString "#") (Str.ofString " \t\r\n") (Str.ofString "'\"") false text ((fs, dqObj 0 []) :: news) 0 0 (.str (Str.ofString " ") t0) 1 (Str.ofString "") t1 t2 t3 []) →
    (@LT.lt Nat _ dx x ∧ @LT.lt Nat _ x dy ∧ @LT.lt Nat _ dy y ∧ @LT.lt Nat _ y pb ∧ @LT.lt Nat _ pb fs) → (∀ p ∈ news, p.1 < dx) → R (.ok (.ret (.ref x))) { s with heap := h', toks := tk }) :
  codeAny (model PySem.Challenge.rw_nq0177_02.row.prog w) A (.call (.ref 729) ⟨[.str text tt], []⟩) R s := by
  obtain ⟨⟨A₀, B⟩, X₀, T, hA, hf, hk, hroom, hh⟩ := C
  refine' make_K (fI := 653) F N (X₀.keeps F.keep) ?k1 ?k2 ?k3 ?_
  case k1 => k_is
  case k2 => k_is
  case k3 => k_is
  intro x dx h' F2 N2 l1 l2
  refine linit_spec (env := env) (outer := outer) (base := base) (loose := loose) (mean := mean) (mg := mg) (mb := mb) (h₀ := h₀) (L := L) (m := m) ⟨⟨A₀, B⟩, X₀, T, hA, hf, hk, by walk_at "my room", hh⟩ F2 N2 l1 l2 ?_
  intro y dy pb fs kh kt vt t0 t1 t2 t3 h3 tk3 F3 N3 o
  exact ⟨rfl, h _ _ _ _ _ _ _ _ _ _ _ _ _ _ _ F3 N3 ⟨l2, o⟩ l1⟩
end
/-- one mark taken off ahead, one behind -/
noncomputable def stripA (l : List Nat) : List Nat := if l.head? = some 34 then l.tail else l
noncomputable def stripB (l : List Nat) : List Nat := if l.getLast? = some 34 then l.dropLast else l
noncomputable def strip (l : List Nat) : List Nat := stripB (stripA l)
theorem quo : Str.ofString "\"" = mkS [34] := by decide +kernel
theorem starts_quo (l : List Nat) : Txt.startswith (mkS l) (Str.ofString "\"") = decide (l.head? = some 34) := by
  rw [quo, Txt.startswith, StrLaws.subAt_eq, mkS_cps, mkS_cps, mkS_length, mkS_length]
  cases l with
  | nil => simp
  | cons a r => simp; rfl
theorem ends_quo (l : List Nat) : Txt.endswith (mkS l) (Str.ofString "\"") = decide (l.getLast? = some 34) := by
  rw [quo, Txt.endswith, StrLaws.subAt_eq, mkS_cps, mkS_cps, mkS_length, mkS_length]
  rcases List.eq_nil_or_concat l with rfl | ⟨r, a, rfl⟩
  · simp; try rfl
  · simp; try rfl
theorem slice_tail {l : List Nat} (h : l ≠ []) : PySem.Txt.slice (mkS l) (some 1) none = mkS l.tail := by
  have hl : 1 ≤ l.length := List.length_pos_iff.mpr h
  refine (StrLaws.sliceText_from (x := mkS l) (i := 1) ⟨by omega, by rw [mkS_cps]; omega⟩).trans ?_
  rw [mkS_cps]
  cases l with
  | nil => exact absurd rfl h
  | cons a r => simp [mkS]
theorem slice_init {l : List Nat} (h : l ≠ []) : PySem.Txt.slice (mkS l) none (some (-1)) = mkS l.dropLast := by
  have hl : 1 ≤ l.length := List.length_pos_iff.mpr h
  refine (StrLaws.sliceText_to_neg (x := mkS l) (j := -1) (by omega) (by rw [mkS_length]; omega)).trans ?_
  rw [mkS_cps, mkS_length]
  simp [mkS, List.dropLast_eq_take]
  congr 1; omega
theorem head_ne {l : List Nat} (h : l.head? = some 34) : l ≠ [] := by rintro rfl; cases h
theorem last_ne {l : List Nat} (h : l.getLast? = some 34) : l ≠ [] := by rintro rfl; cases h
section
variable {l : List Nat}
theorem strip_tt (a : Txt.startswith (mkS l) (Str.ofString "\"") = true) (b : Txt.endswith (Txt.slice (mkS l) (some 1) none) (Str.ofString "\"") = true) : Txt.slice (Txt.slice (mkS l) (some 1) none) none (some (-1)) = mkS (strip l) := by
  rw [starts_quo, decide_eq_true_eq] at a
  rw [slice_tail (head_ne a)] at b ⊢
  rw [ends_quo, decide_eq_true_eq] at b
  rw [slice_init (last_ne b), strip, stripB, stripA, if_pos a, if_pos b]
theorem strip_tf (a : Txt.startswith (mkS l) (Str.ofString "\"") = true) (b : Txt.endswith (Txt.slice (mkS l) (some 1) none) (Str.ofString "\"") = false) : Txt.slice (mkS l) (some 1) none = mkS (strip l) := by
  rw [starts_quo, decide_eq_true_eq] at a
  rw [slice_tail (head_ne a)] at b ⊢
  rw [ends_quo, decide_eq_false_iff_not] at b
  rw [strip, stripB, stripA, if_pos a, if_neg b]
theorem strip_ft (a : Txt.startswith (mkS l) (Str.ofString "\"") = false) (b : Txt.endswith (mkS l) (Str.ofString "\"") = true) : Txt.slice (mkS l) none (some (-1)) = mkS (strip l) := by
  rw [starts_quo, decide_eq_false_iff_not] at a
  rw [ends_quo, decide_eq_true_eq] at b
  rw [slice_init (last_ne b), strip, stripB, stripA, if_neg a, if_pos b]
theorem strip_ff (a : Txt.startswith (mkS l) (Str.ofString "\"") = false) (b : Txt.endswith (mkS l) (Str.ofString "\"") = false) : mkS l = mkS (strip l) := by
  rw [starts_quo, decide_eq_false_iff_not] at a
  rw [ends_quo, decide_eq_false_iff_not] at b
  rw [strip, stripB, stripA, if_neg a, if_neg b]
end
section
variable {w : World} {A : Around} {s : Shared} {base h₀ : Heap} {outer : List Env} {L : Addr} {m : Str → Option Value} {env : Env} {mg mb : Str → Option Value} {mean : ExcName → Option Value} {R : Result → Shared → Prop} {loose : List Str}
  {news : List (Addr × Obj)} {l : List Nat} {tt : Tok}
theorem strip_spec (C : Amb w A base h₀ outer env L mg mb mean loose 2) (F : Fr h₀ L s.heap m) (N : News h₀ L s.heap news) (hl : (mkS l).length ≤ 4096)
  (h : ∀ h' tk t, Fr h₀ L h' m → News h₀ L h' news → R (.ok (.ret (.str (mkS (strip l)) t))) { s with heap := h', toks := tk }) :
  codeAny (model PySem.Challenge.rw_nq0177_02.row.prog w) A (.call (.ref 46) ⟨[.str (mkS l) tt], []⟩) R s := by
  obtain ⟨⟨A₀, B⟩, X₀, T, hA, hf, hk, hroom, hh⟩ := C
  have y1 : ∀ z h' tk t, z = mkS (strip l) → Fr h₀ L h' m → News h₀ L h' news → R (.ok (.ret (.str z t))) { s with heap := h', toks := tk } := fun z h' tk t e F N => e ▸ h h' tk t F N
  clear h
  walk_at "my enter"
  k_steps
  all_goals refine y1 _ _ _ _ ?_ (by with_reducible assumption) (by with_reducible assumption)
  all_goals first
    | with_reducible exact strip_tt (by with_reducible assumption) (by with_reducible assumption)
    | with_reducible exact strip_tf (by with_reducible assumption) (by with_reducible assumption)
    | with_reducible exact strip_ft (by with_reducible assumption) (by with_reducible assumption)
    | with_reducible exact strip_ff (by with_reducible assumption) (by with_reducible assumption)
end
section
variable {prog : Program} {w : World} {A : Around} {E : Value → Shared → Prop} {s : Shared} {env : Env}
noncomputable def OwnStep (Q : Flow → Shared → Prop) (I : Nat → Shared → Prop) (n : Nat) (f : Flow) (s₃ : Shared) : Prop := match f with
      | .next | .cont => ∃ k, k < n ∧ I k s₃
      | .brk => Q .next s₃
      | .ret v => Q (.ret v) s₃
noncomputable def OwnTurn (prog : Program) (w : World) (A : Around) (E : Value → Shared → Prop) (env : Env) (v : Str) (body : List Stmt) (Q : Flow → Shared → Prop) (I : Nat → Shared → Prop) (n : Nat) (r : Option Value) (s₁ : Shared) : Prop := match r with
  | none => Q .next s₁
  | some y => wpAny (model prog w) A (storeName env v y) (fun _ s₂ => wpAny (model prog w) A (execs body env) (OwnStep Q I n) E s₂) E s₁
noncomputable def IterQ (X : Addr) (I : Nat → Shared → Prop) (it : Value) (s₂ : Shared) : Prop := it = .ref X ∧ ∃ n, I n s₂
end
section
variable {M : Model} {A A₀ : Around} {E : Value → Shared → Prop} {s : Shared} {base g G : Heap} {outer : List Env} {L a e t : Addr} {m : Str → Option Value} {name : Str} {scope : Scope} {cd : Value}
  {vs : List Value} {news : List (Addr × Obj)} {KF : Frag} {p : Program} {loose : List Str} {mean : ExcName → Option Value} {mg mb : Str → Option Value} {X : String}
theorem stop_S {Q : Option Value → Shared → Prop} (R : RaisedS base G (envOf name scope L a cd :: outer) e (.type X) t vs news s.heap) (F : Fr g L G m) (K : Below A₀ base outer g) (hsm : G.UpToSlots s.heap) (XB : KF.In base) (TB : Top p loose mean mg mb base)
    (D : KtsDicts (outer.filterMap (·.frame)) g) (hsub : isSubtype (.type X) (.type "StopIteration") = pure true)
    (k : ∀ g', KtsTurn (outer.filterMap (·.frame)) g g' → Fr g' L s.heap m → News g' L s.heap news → Below A₀ base outer g' → KF.In g' → Top p loose mean mg mb g' → KtsDicts (outer.filterMap (·.frame)) g' → Q none s) : OwitStop M A Q E (.ref e) s := by
  obtain ⟨⟨B, hB, hBG, hl, hfl, hnew⟩, htup⟩ := R
  have hL : B.get? L = none := by
    obtain ⟨_, ⟨L', _, hf, hn', _⟩, _⟩ := hfl.2.2.1
    obtain rfl : L = L' := Option.some.inj hf
    exact hn'
  have hf' := flyingW_base hB hfl
  obtain ⟨ob, hob, hobc⟩ := hf'.there
  have hT : s.TypeIs (.ref e) X := (show ∃ o, s.heap.get? e = some o ∧ o.cls = .type X from ⟨ob, hob, hobc⟩)
  unfold OwitStop
  refine wpAny_isInstance hT hsub ?_
  show (if true = true then Q none s else E (.ref e) s)
  rw [if_pos rfl]
  obtain ⟨g₆, T₆, F₆, K₆⟩ := kts_ground K F hBG hfl.1 hsm
  refine k g₆ T₆ F₆ (fun q hq => ⟨hfl.1 _ _ (hl q hq).1, (fun z => by have := (hl q hq).1; rw [z, hL] at this; cases this), T₆.none_ _ (kts_none F.keep (hl q hq).2.1)⟩) K₆ (XB.keeps K₆.stays) (TB.keeps K₆.stays) (D.turn T₆)
end
section
variable {M : Model} {A A₀ : Around} {E : Value → Shared → Prop} {s : Shared} {base G : Heap} {outer : List Env} {L a e t : Addr} {name : Str} {scope : Scope} {cd : Value} {vs : List Value} {news : List (Addr × Obj)} {X : String}
end
noncomputable def errD : Dat := .list [.str (Str.ofString "No closing quotation")]
noncomputable def rowF (P : Pm) : Nat → LX → List Dat
  | 0, _ => []
  | n + 1, lx => match gtok P lx with
    | .err => [errD]
    | .ok (c :: res) lx' => .str (mkS (strip (c :: res))) :: rowF P n lx'
    | .ok [] lx' => match gtok P lx' with
      | .ok res _ => [.str (mkS (strip res))]
      | .err => [errD]
noncomputable def LX.meas (l : LX) : Nat := l.rem.length + (match l.push with | none => 0 | some _ => 1)
/-- what a token leaves -/
theorem rt_left (P : Pm) : ∀ (n : Nat) (rem : List Nat) (ln : Int) (st : LS) (tok : List Nat) (rem' : List Nat) (ln' : Int) (st' : LS) (res : List Nat) (push : Option Nat), rem.length ≤ n → okSt P st rem tok → rt P rem ln st tok = .ok rem' ln' st' res push →
    (st' = .blank ∨ (st' = .dead ∧ rem' = [])) ∧ (rem'.length + (match push with | none => 0 | some _ => 1) ≤ rem.length) ∧ ((st = .blank ∧ res ≠ []) → rem'.length + (match push with | none => 0 | some _ => 1) < rem.length) ∧ (st = .dead → res = [] ∧ st' = .dead ∧ rem' = [] ∧ push = none) := by
  intro n
  induction n with
  | zero =>
    intro rem ln st tok rem' ln' st' res push hn ho h
    obtain rfl : rem = [] := List.length_eq_zero_iff.mp (Nat.le_zero.mp hn)
    cases st with
    | dead => rw [rt_dead_nil] at h; cases h; simp
    | blank => rw [rt_blank_nil] at h; cases h; simp [okSt] at ho; simp [ho]
    | word => rw [rt_word_nil] at h; cases h; simp
    | quot q => rw [rt_quot_nil] at h; cases h
  | succ n ih =>
    intro rem ln st tok rem' ln' st' res push hn ho h
    cases rem with
    | nil =>
      cases st with
      | dead => rw [rt_dead_nil] at h; cases h; simp
      | blank => rw [rt_blank_nil] at h; cases h; simp [okSt] at ho; simp [ho]
      | word => rw [rt_word_nil] at h; cases h; simp
      | quot q => rw [rt_quot_nil] at h; cases h
    | cons c r =>
      have hr : r.length ≤ n := by simp at hn; omega
      have hd : (dropLine r).length ≤ n := Nat.le_trans (dropLine_le r) hr
      have hdl := dropLine_le r
      cases st with
      | dead => exact absurd ho.1 (by simp)
      | blank =>
        rw [rt_blank] at h
        split at h
        · obtain ⟨a, b, c', d⟩ := ih _ _ _ _ _ _ _ _ _ hr ho h
          refine ⟨a, ?_, fun z => ?_, fun z => (nomatch z)⟩
          · simp only [List.length_cons]; omega
          · have := c' ⟨rfl, z.2⟩; simp only [List.length_cons]; omega
        split at h
        · obtain ⟨a, b, c', d⟩ := ih _ _ _ _ _ _ _ _ _ hd ho h
          refine ⟨a, ?_, fun z => ?_, fun z => (nomatch z)⟩
          · simp only [List.length_cons]; omega
          · have := c' ⟨rfl, z.2⟩; simp only [List.length_cons]; omega
        split at h
        · obtain ⟨a, b, c', d⟩ := ih _ _ _ _ _ _ _ _ _ hr (by simp [okSt]) h
          refine ⟨a, ?_, fun z => ?_, fun z => (nomatch z)⟩ <;> (simp only [List.length_cons]; omega)
        split at h
        · rename_i hq
          obtain ⟨a, b, c', d⟩ := ih _ _ (.quot c) [c] _ _ _ _ _ hr (show okSt P (.quot c) r [c] from ⟨hq, by simp⟩) h
          refine ⟨a, ?_, fun z => ?_, fun z => (nomatch z)⟩ <;> (simp only [List.length_cons]; omega)
        split at h
        · obtain ⟨a, b, c', d⟩ := ih _ _ _ _ _ _ _ _ _ hr (by simp [okSt]) h
          refine ⟨a, ?_, fun z => ?_, fun z => (nomatch z)⟩ <;> (simp only [List.length_cons]; omega)
        · cases h; simp
      | quot q =>
        rw [rt_quot] at h
        split at h
        · cases h; simp
        · obtain ⟨a, b, c', d⟩ := ih _ _ (.quot q) (tok ++ [c]) _ _ _ _ _ hr (show okSt P (.quot q) r (tok ++ [c]) from ⟨ho.1, by simp⟩) h
          refine ⟨a, ?_, fun z => (nomatch z.1), fun z => (nomatch z)⟩
          simp only [List.length_cons]; omega
      | word =>
        rw [rt_word] at h
        split at h
        · cases h; simp
        split at h
        · obtain ⟨a, b, c', d⟩ := ih _ _ _ _ _ _ _ _ _ hd ho h
          refine ⟨a, ?_, fun z => (nomatch z.1), fun z => (nomatch z)⟩
          simp only [List.length_cons]; omega
        split at h
        · obtain ⟨a, b, c', d⟩ := ih _ _ _ _ _ _ _ _ _ hr (by simp [okSt]) h
          refine ⟨a, ?_, fun z => (nomatch z.1), fun z => (nomatch z)⟩
          simp only [List.length_cons]; omega
        · cases h; simp
theorem gtok_left {P : Pm} {l l' : LX} {res : List Nat} (ho : l.ok) (h : gtok P l = .ok res l') : l'.ok ∧ (res ≠ [] → l'.meas < l.meas) := by
  obtain ⟨rem, ln, st, push⟩ := l
  cases push with
  | some c => dsimp only [gtok] at h; cases h; exact ⟨ho, fun _ => by simp [LX.meas]⟩
  | none =>
    dsimp only [gtok] at h
    split at h
    · rename_i rem' ln' st' res' push' hr
      cases h
      have hok : okSt P st rem [] := by
        rcases ho with rfl | ⟨rfl, e⟩
        · rfl
        · exact ⟨e, rfl⟩
      obtain ⟨a, b, c, d⟩ := rt_left P rem.length rem ln st [] _ _ _ _ _ (Nat.le_refl _) hok hr
      refine ⟨a, fun hne => ?_⟩
      rcases ho with e | ⟨e, _⟩
      · have := c ⟨e, hne⟩
        simpa [LX.meas] using this
      · exact absurd (d e).1 hne
    · cases h
section
open PySem.Spec
section
variable {prog : Program} {w : World} {A₀ A : Around} {s : Shared} {base h₀ : Heap} {env : Env} {L : Addr} {m : Str → Option Value} {news : List (Addr × Obj)} {K : Frag} {p : Program} {loose : List Str} {mean : ExcName → Option Value} {mg mb : Str → Option Value}
    {R : Result → Shared → Prop} {name qual : Str} {params : Arguments} {body : List Stmt} {scope : Scope} {dV kV doc pm cdv ct oc : Value} {an od : Option Addr} {osl : Array (Option Value)} {f : Addr} {args : Args} {binds : List (Str × Value)}
theorem code_defS0E (B : Below A₀ base [] h₀) (F : Fr h₀ L s.heap m) (X₀ : K.In h₀) (N : News h₀ L s.heap news) (T : Top p loose mean mg mb h₀) (hA : A.frames = some [env]) (hf : env.frame = some L) (hke : env.scope.kind = .function)
    (ho : K.lookup f = some ⟨oc, od, .func (fnOf name qual params body scope dV kV doc pm an cdv ct), osl⟩) (hcd : codeIn K cdv qual = true) (hroom : A.depth < recursionLimit)
    (hbind : BindsTo s (fnOf name qual params body scope dV kV doc pm an cdv ct) args binds) (hloc : ∀ y ∈ binds, scope.names.lookup y.1 = some .local)
    (h : ∀ g L' h₁, Fr h₀ L g m → Fr g L' h₁ (fun y => binds.reverse.lookup y) → News g L' h₁ news → Below A base [env] g → K.In g → Top p loose mean mg mb g → KtsDicts ([env].filterMap (·.frame)) g →
      wpAny (model prog w) (A.deeper (envOf qual scope L' f cdv)) (execs body (envOf qual scope L' f cdv))
        (fun fl s' => LeaveS0 ([env].filterMap (·.frame)) h₀ L m g R (match fl with | .ret v => v | _ => .none) s')
        (fun e s' => wpAny (model prog w) (A.deeper (envOf qual scope L' f cdv)) (leaving (envOf qual scope L' f cdv) e) (fun _ s'' => R (.error e) s'') (fun e' s'' => R (.error e') s'') s')
        { s with heap := h₁, toks := s.toks + binds.length })
    (hco : scope.isCoroutine = false) (hgen : scope.isGenerator = false) (hk : scope.kind = .function)
    (hcell : ∀ x ∈ scope.names, x.2 ≠ .cell) : codeAny (model prog w) A (.call (.ref f) args) R s := by
  have X := X₀.keeps F.keep
  refine codeAny_call_def (fd := fnOf name qual params body scope dV kV doc pm an cdv ct) (body := body) (binds := binds) hroom (X _ _ ho) rfl (T.nolimit.keeps F.keep) (codeRec_of X hcd) rfl hbind hcell hloc (fun h₁ hns hk₁ => ?_) hco hgen hk
  obtain ⟨FG, BG, st, _⟩ := groundX (R := R) B F N hA hf hke
  obtain ⟨oL, es, ep, hL, hLd, hLk, hLf⟩ := F.ns
  have nL : L ∉ news.map (·.1) := fun q => by
    obtain ⟨p, hp, e⟩ := List.mem_map.mp q
    exact (N p hp).2.1 e
  have hLg := hideAll_get (news.map (·.1)) hL nL
  have hmem : ∀ b, b ∈ [env].filterMap (·.frame) → b = L := fun b hb => by
    simp [hf] at hb; exact hb
  refine wpAny_mono (h _ s.heap.objs.size h₁ FG ⟨hns, fun b o e => hk₁ b o (of_hideAll _ e), Nat.le_of_eq (hideAll_size _ _)⟩
    (fun p hp => ⟨hk₁ _ _ (N p hp).1, Nat.ne_of_lt (Heap.lt_size (N p hp).1), hideAll_none _ (List.mem_map_of_mem hp)⟩) BG (X₀.keeps st) (T.keeps st) (fun b hb => by
      rw [hmem b hb]; exact ⟨oL, es, ep, hLg, hLd⟩)) (fun fl s' hl => ?_) fun _ _ y => y
  obtain ⟨g', L', m', news', T', F', N', k⟩ := hl
  have nL₀ : h₀.get? L = none := kts_self F
  obtain ⟨sl, hs⟩ := T'.up hLg
  refine k ⟨⟨_, es, ep, F'.keep _ _ hs, hLd, hLk, hLf⟩, fun b o e => F'.keep b o (T'.other b o (st b o e) (fun q => by
    rw [hmem b q, nL₀] at e
    cases e)), F.above⟩ fun p hp => ⟨(N' p hp).1, fun q => ?_, ?_⟩
  · have := (N' p hp).2.2; rw [q, hs] at this; cases this
  · cases q : h₀.get? p.1 with
    | none => rfl
    | some o =>
      obtain ⟨sl', hs'⟩ := T'.up (st _ _ q)
      have := (N' p hp).2.2
      rw [hs'] at this
      cases this
end
end
noncomputable abbrev P0 : Pm := ⟨Str.ofString "#", Str.ofString " \t\r\n", Str.ofString "'\"", false⟩
noncomputable abbrev PE : Pm := ⟨Str.ofString "", Str.ofString ",", Str.ofString "", true⟩
/-- all the tokens that a lexer tells, and what it is then -/
inductive Toks (P : Pm) : LX → List (List Nat) → LX → Prop
  | stop {lx lx' : LX} : gtok P lx = .ok [] lx' → Toks P lx [] lx'
  | more {lx lx1 lx' : LX} {c : Nat} {res : List Nat} {ts : List (List Nat)} : gtok P lx = .ok (c :: res) lx1 → Toks P lx1 ts lx' → Toks P lx ((c :: res) :: ts) lx'
noncomputable def nls (l : List Nat) : Int := ((l.count 10 : Nat) : Int)
theorem nls_nil : nls [] = 0 := rfl
theorem nls_cons (c : Nat) (l : List Nat) : nls (c :: l) = nlc c + nls l := by
  unfold nls nlc
  rw [List.count_cons]
  by_cases h : c = 10
  · subst h; simp; omega
  · simp [h]
theorem nls_append (a b : List Nat) : nls (a ++ b) = nls a + nls b := by
  unfold nls; rw [List.count_append]; omega
theorem rt_q (P : Pm) {q : Nat} (hq : q ≠ 10) : ∀ (c rest : List Nat) (ln : Int) (tok : List Nat), (∀ x ∈ c, x ≠ q) → rt P (c ++ q :: rest) ln (.quot q) tok = .ok rest (ln + nls c) .blank (tok ++ (c ++ [q])) none
  | [], rest, ln, tok, _ => by
    rw [List.nil_append, rt_quot, if_pos rfl, nls_nil, show nlc q = 0 from if_neg hq]; simp
  | x :: c, rest, ln, tok, h => by
    rw [List.cons_append, rt_quot, if_neg (h x (.head _)), rt_q P hq c rest _ _ fun y hy => h y (.tail _ hy), nls_cons]
    simp [Int.add_assoc]
noncomputable def wq (P : Pm) (x : Nat) : Prop := hasC P.ws x = false ∧ hasC P.com x = false ∧ (hasC wordS x || hasC P.quotes x || P.split) = true
theorem rt_w (P : Pm) : ∀ (c rest : List Nat) (ln : Int) (tok : List Nat), (∀ x ∈ c, wq P x) → rt P (c ++ rest) ln .word tok = rt P rest (ln + nls c) .word (tok ++ c)
  | [], rest, ln, tok, _ => by simp [nls_nil]
  | x :: c, rest, ln, tok, h => by
    obtain ⟨h1, h2, h3⟩ := h x (.head _)
    rw [List.cons_append, rt_word, if_neg (by rw [h1]; decide), if_neg (by rw [h2]; decide), if_pos h3, rt_w P c rest _ _ fun y hy => h y (.tail _ hy), nls_cons]
    simp [Int.add_assoc]
/-- the remark with its line end -/
noncomputable def rem7 : List Nat := [35, 105, 116, 39, 115, 61, 34, 10]
theorem rem7_nls : nls rem7 = 1 := by decide +kernel
theorem rt_rem_w (rest : List Nat) (ln : Int) (tok : List Nat) : rt P0 (rem7 ++ rest) ln .word tok = rt P0 rest (ln + nls rem7) .word tok := by
  rw [rem7_nls]
  show rt P0 (35 :: ([105, 116, 39, 115, 61, 34, 10] ++ rest)) ln .word tok = _
  rw [rt_word, if_neg (by decide +kernel), if_pos (by decide +kernel)]
  show rt P0 rest (ln + 0 + 1) .word tok = _
  rw [Int.add_zero]
theorem rt_rem_b (rest : List Nat) (ln : Int) (tok : List Nat) : rt P0 (rem7 ++ rest) ln .blank tok = rt P0 rest (ln + nls rem7) .blank tok := by
  rw [rem7_nls]
  show rt P0 (35 :: ([105, 116, 39, 115, 61, 34, 10] ++ rest)) ln .blank tok = _
  rw [rt_blank, if_neg (by decide +kernel), if_pos (by decide +kernel)]
  show rt P0 rest (ln + 0 + 1) .blank tok = _
  rw [Int.add_zero]
inductive IsSeam : List Nat → Prop
  | none : IsSeam []
  | blank : IsSeam [32]
  | line : IsSeam [10, 32]
  | remark : IsSeam rem7
inductive IsKey : List Nat → Prop
  | k : IsKey [107]
  | k7 : IsKey [75, 55]
  | x : IsKey [95, 120]
theorem rt_sp (rest : List Nat) (ln : Int) (tok : List Nat) : rt P0 (32 :: rest) ln .blank tok = rt P0 rest ln .blank tok := by
  rw [rt_blank, if_pos (by decide +kernel), show nlc 32 = 0 from rfl, Int.add_zero]
theorem rt_lf (rest : List Nat) (ln : Int) (tok : List Nat) : rt P0 (10 :: rest) ln .blank tok = rt P0 rest (ln + 1) .blank tok := by
  rw [rt_blank, if_pos (by decide +kernel), show nlc 10 = 1 from rfl]
theorem rt_seam {s : List Nat} (h : IsSeam s) (rest : List Nat) (ln : Int) (tok : List Nat) : rt P0 (s ++ rest) ln .blank tok = rt P0 rest (ln + nls s) .blank tok := by
  cases h with
  | none => rw [nls_nil, Int.add_zero]; rfl
  | blank => exact (rt_sp rest ln tok).trans (by rw [show nls [32] = 0 from by decide +kernel, Int.add_zero])
  | line =>
    show rt P0 (10 :: 32 :: rest) ln .blank tok = _
    rw [rt_lf, rt_sp, show nls [10, 32] = 1 from by decide +kernel]
  | remark => exact rt_rem_b rest ln tok
theorem rt_key {k : List Nat} (h : IsKey k) (t : List Nat) (ln : Int) : rt P0 (k ++ t) ln .blank [] = rt P0 t ln .word k := by
  cases h with
  | k =>
    show rt P0 (107 :: t) ln .blank [] = _
    rw [rt_blank, if_neg (by decide +kernel), if_neg (by decide +kernel), if_pos (by decide +kernel), show nlc 107 = 0 from rfl, Int.add_zero]
  | k7 =>
    show rt P0 (75 :: 55 :: t) ln .blank [] = _
    rw [rt_blank, if_neg (by decide +kernel), if_neg (by decide +kernel), if_pos (by decide +kernel), rt_word, if_neg (by decide +kernel), if_neg (by decide +kernel), if_pos (by decide +kernel), show nlc 75 = 0 from rfl, show nlc 55 = 0 from rfl, Int.add_zero, Int.add_zero]
    rfl
  | x =>
    show rt P0 (95 :: 120 :: t) ln .blank [] = _
    rw [rt_blank, if_neg (by decide +kernel), if_neg (by decide +kernel), if_pos (by decide +kernel), rt_word, if_neg (by decide +kernel), if_neg (by decide +kernel), if_pos (by decide +kernel), show nlc 95 = 0 from rfl, show nlc 120 = 0 from rfl, Int.add_zero, Int.add_zero]
    rfl
theorem rt_eqw (t : List Nat) (ln : Int) (k : List Nat) : rt P0 (61 :: t) ln .word k = .ok t ln .blank k (some 61) := by
  rw [rt_word, if_neg (by decide +kernel), if_neg (by decide +kernel), if_neg (by decide +kernel), show nlc 61 = 0 from rfl, Int.add_zero]
theorem rt_eqb (t : List Nat) (ln : Int) : rt P0 (61 :: t) ln .blank [] = .ok t ln .blank [61] none := by
  rw [rt_blank, if_neg (by decide +kernel), if_neg (by decide +kernel), if_neg (by decide +kernel), if_neg (by decide +kernel), if_neg (by decide +kernel), show nlc 61 = 0 from rfl, Int.add_zero]
theorem rt_spw (t : List Nat) (ln : Int) (k : List Nat) : rt P0 (32 :: t) ln .word k = .ok t ln .blank k none := by
  rw [rt_word, if_pos (by decide +kernel), show nlc 32 = 0 from rfl, Int.add_zero]
theorem rt_lfw (t : List Nat) (ln : Int) (k : List Nat) : rt P0 (10 :: t) ln .word k = .ok t (ln + 1) .blank k none := by
  rw [rt_word, if_pos (by decide +kernel), show nlc 10 = 1 from rfl]
theorem gtok_ok {P : Pm} {rem : List Nat} {ln : Int} {st : LS} {rem' : List Nat} {ln' : Int} {st' : LS} {res : List Nat} {push : Option Nat} (h : rt P rem ln st [] = .ok rem' ln' st' res push) : gtok P ⟨rem, ln, st, none⟩ = .ok res ⟨rem', ln', st', push⟩ := by
  unfold gtok; dsimp only; rw [h]
theorem key_eq {k s : List Nat} (hk : IsKey k) (hs : IsSeam s) (rest : List Nat) (ln : Int) : ∃ lx, gtok P0 ⟨k ++ (s ++ 61 :: rest), ln, .blank, none⟩ = .ok k lx ∧ gtok P0 lx = .ok [61] ⟨rest, ln + nls s, .blank, none⟩ := by
  cases hs with
  | none =>
    refine ⟨_, gtok_ok ((rt_key hk _ ln).trans (rt_eqw rest ln k)), ?_⟩
    rw [nls_nil, Int.add_zero]; rfl
  | blank =>
    refine ⟨_, gtok_ok ((rt_key hk _ ln).trans (rt_spw (61 :: rest) ln k)), ?_⟩
    rw [show nls [32] = 0 from by decide +kernel, Int.add_zero]
    exact gtok_ok (rt_eqb rest ln)
  | line =>
    refine ⟨_, gtok_ok ((rt_key hk _ ln).trans (rt_lfw (32 :: 61 :: rest) ln k)), ?_⟩
    rw [show nls [10, 32] = 1 from by decide +kernel]
    exact gtok_ok ((rt_sp _ _ _).trans (rt_eqb rest _))
  | remark =>
    refine ⟨_, gtok_ok ((rt_key hk _ ln).trans ((rt_rem_w (61 :: rest) ln k).trans (rt_eqw rest _ k))), ?_⟩
    rfl
/-- a value as it is laid, and its token -/
inductive Body : List Nat → List Nat → Prop
  | dq {c : List Nat} : (∀ x ∈ c, x ≠ 34) → Body (34 :: (c ++ [34])) (34 :: (c ++ [34]))
  | sq {c : List Nat} : (∀ x ∈ c, x ≠ 39) → Body (39 :: (c ++ [39])) (39 :: (c ++ [39]))
  | bare {c : List Nat} : (∀ x ∈ c, wq P0 x) → Body (97 :: (c ++ [32])) (97 :: c)
  | remk {c : List Nat} : (∀ x ∈ c, wq P0 x) → Body (97 :: (rem7 ++ (c ++ [32]))) (97 :: c)
theorem rt_qb (q : Nat) (h : q = 34 ∨ q = 39) (t : List Nat) (ln : Int) : rt P0 (q :: t) ln .blank [] = rt P0 t ln (.quot q) [q] := by
  rcases h with rfl | rfl
  all_goals rw [rt_blank, if_neg (by decide +kernel), if_neg (by decide +kernel), if_neg (by decide +kernel), if_pos (by decide +kernel)]
  · rw [show nlc 34 = 0 from rfl, Int.add_zero]
  · rw [show nlc 39 = 0 from rfl, Int.add_zero]
theorem rt_ab (t : List Nat) (ln : Int) : rt P0 (97 :: t) ln .blank [] = rt P0 t ln .word [97] := by
  rw [rt_blank, if_neg (by decide +kernel), if_neg (by decide +kernel), if_pos (by decide +kernel), show nlc 97 = 0 from rfl, Int.add_zero]
theorem rt_body {b t : List Nat} (h : Body b t) (rest : List Nat) (ln : Int) : rt P0 (b ++ rest) ln .blank [] = .ok rest (ln + nls b) .blank t none := by
  cases h with
  | @dq c hc =>
    rw [List.cons_append, rt_qb 34 (.inl rfl), List.append_assoc]
    refine (rt_q P0 (by decide) c rest ln [34] hc).trans ?_
    rw [nls_cons, nls_append, show nlc 34 = 0 from rfl, show nls [34] = 0 from by decide +kernel, Int.zero_add, Int.add_zero]; rfl
  | @sq c hc =>
    rw [List.cons_append, rt_qb 39 (.inr rfl), List.append_assoc]
    refine (rt_q P0 (by decide) c rest ln [39] hc).trans ?_
    rw [nls_cons, nls_append, show nlc 39 = 0 from rfl, show nls [39] = 0 from by decide +kernel, Int.zero_add, Int.add_zero]; rfl
  | @bare c hc =>
    rw [List.cons_append, rt_ab, List.append_assoc, rt_w P0 c _ ln [97] hc]
    refine (rt_spw rest _ _).trans ?_
    rw [nls_cons, nls_append, show nlc 97 = 0 from rfl, show nls [32] = 0 from by decide +kernel, Int.zero_add, Int.add_zero]; rfl
  | @remk c hc =>
    rw [List.cons_append, rt_ab, List.append_assoc, rt_rem_w, List.append_assoc, rt_w P0 c _ _ [97] hc]
    refine (rt_spw rest _ _).trans ?_
    rw [nls_cons, nls_append, nls_append, show nlc 97 = 0 from rfl, show nls [32] = 0 from by decide +kernel, Int.zero_add, Int.add_zero, Int.add_assoc]; rfl
/-- one setting: its key, three seams, its value as laid and the value's token -/
structure Setg where
  key : List Nat
  s1 : List Nat
  s2 : List Nat
  body : List Nat
  s3 : List Nat
  tok : List Nat
structure Setg.Ok (g : Setg) : Prop where
  key : IsKey g.key
  s1 : IsSeam g.s1
  s2 : IsSeam g.s2
  s3 : IsSeam g.s3
  body : Body g.body g.tok
noncomputable def Setg.text (g : Setg) : List Nat := g.key ++ (g.s1 ++ 61 :: (g.s2 ++ (g.body ++ g.s3)))
theorem key_cons {k : List Nat} (h : IsKey k) : ∃ c r, k = c :: r := by cases h <;> exact ⟨_, _, rfl⟩
theorem tok_cons {b t : List Nat} (h : Body b t) : ∃ c r, t = c :: r := by cases h <;> exact ⟨_, _, rfl⟩
theorem toks_seam {s : List Nat} (h : IsSeam s) {rest : List Nat} {ln : Int} {ts : List (List Nat)} {lx : LX} (ht : Toks P0 ⟨rest, ln + nls s, .blank, none⟩ ts lx) : Toks P0 ⟨s ++ rest, ln, .blank, none⟩ ts lx := by
  have e : gtok P0 ⟨s ++ rest, ln, .blank, none⟩ = gtok P0 ⟨rest, ln + nls s, .blank, none⟩ := by
    unfold gtok; dsimp only; rw [rt_seam h]
  cases ht with
  | stop h1 => exact .stop (e.trans h1)
  | more h1 h2 => exact .more (e.trans h1) h2
theorem toks_setg {g : Setg} (hg : g.Ok) {rest : List Nat} {ln : Int} {ts : List (List Nat)} {lx : LX} (ht : Toks P0 ⟨rest, ln + nls g.text, .blank, none⟩ ts lx) : Toks P0 ⟨g.text ++ rest, ln, .blank, none⟩ (g.key :: [61] :: g.tok :: ts) lx := by
  obtain ⟨key, s1, s2, body, s3, tok⟩ := g
  obtain ⟨hk, h1, h2, h3, hb⟩ := hg
  dsimp only [Setg.text] at *
  obtain ⟨lx1, e1, e2⟩ := key_eq hk h1 (s2 ++ (body ++ (s3 ++ rest))) ln
  obtain ⟨kc, kr, rfl⟩ := key_cons hk
  have e3 := gtok_ok ((rt_seam h2 (body ++ (s3 ++ rest)) (ln + nls s1) []).trans (rt_body hb (s3 ++ rest) (ln + nls s1 + nls s2)))
  obtain ⟨tc, tr, rfl⟩ := tok_cons hb
  have el : (kc :: kr ++ (s1 ++ 61 :: (s2 ++ (body ++ s3)))) ++ rest = kc :: kr ++ (s1 ++ 61 :: (s2 ++ (body ++ (s3 ++ rest)))) := by simp
  rw [el]
  refine .more e1 (.more e2 (.more e3 (toks_seam h3 ?_)))
  have en : ln + nls s1 + nls s2 + nls body + nls s3 = ln + nls (kc :: kr ++ (s1 ++ 61 :: (s2 ++ (body ++ s3)))) := by
    have ek : nls (kc :: kr) = 0 := by cases hk <;> decide +kernel
    rw [nls_append, ek, nls_append, nls_cons 61, nls_append, nls_append, show nlc 61 = 0 from rfl]; omega
  rw [en]; exact ht
theorem toks_all : ∀ (gs : List Setg) (ln : Int), (∀ g ∈ gs, g.Ok) → Toks P0 ⟨gs.flatMap Setg.text, ln, .blank, none⟩ (gs.flatMap fun g => [g.key, [61], g.tok]) ⟨[], ln + nls (gs.flatMap Setg.text), .dead, none⟩
  | [], ln, _ => by
    refine .stop ?_
    show gtok P0 ⟨[], ln, .blank, none⟩ = _
    rw [gtok_ok (rt_blank_nil P0 ln []), show nls (List.flatMap Setg.text []) = 0 from rfl, Int.add_zero]
  | g :: gs, ln, h => by
    rw [List.flatMap_cons, List.flatMap_cons]
    refine toks_setg (h g (.head _)) ?_
    rw [nls_append, ← Int.add_assoc]
    exact toks_all gs _ fun x hx => h x (.tail _ hx)
theorem charAt_nat (l : List Nat) (k : Nat) (hk : k < l.length) : Txt.charAt (mkS l) (k : Int) = some (l.getD k 0) := by
  unfold Txt.charAt
  have e : seqIndex? (k : Int) (mkS l).length = some k := by
    rw [mkS_length]; unfold seqIndex?
    have h1 : ¬ ((k : Int) < 0) := by omega
    simp [h1, hk]
  rw [e]; simp [mkS, hk]
theorem charAt_last (l : List Nat) (hl : l ≠ []) : Txt.charAt (mkS l) (-1) = some (l.getLast hl) := by
  unfold Txt.charAt
  have hp : 0 < l.length := List.length_pos_iff.mpr hl
  have e : seqIndex? (-1) (mkS l).length = some (l.length - 1) := by
    rw [mkS_length]; unfold seqIndex?
    have h1 : (0 : Int) ≤ -1 + (l.length : Int) := by omega
    have h2 : -1 + (l.length : Int) < l.length := by omega
    have h3 : (-1 + (l.length : Int)).toNat = l.length - 1 := by omega
    simp [h1, h2, h3]
  rw [e]; simp [mkS, List.getLast_eq_getElem]
theorem item_nat (l : List Nat) (k : Nat) (hk : k < l.length) : Txt.item (mkS l) (k : Int) = mkS [l.getD k 0] := by
  unfold Txt.item; rw [charAt_nat l k hk]; rfl
theorem item_last (l : List Nat) (hl : l ≠ []) : Txt.item (mkS l) (-1) = mkS [l.getLast hl] := by
  unfold Txt.item; rw [charAt_last l hl]; rfl
theorem one_quo (c : Nat) : (mkS [c] == Str.ofString "\"") = decide (c = 34) := by
  rw [quo]
  by_cases h : c = 34
  · subst h; simp
  · rw [decide_eq_false h]; exact beq_eq_false_iff_ne.mpr fun e => h (List.head_eq_of_cons_eq (mkS_inj e))
theorem item_head_quo {l : List Nat} (hl : l ≠ []) : (Txt.item (mkS l) 0 == Str.ofString "\"") = decide (l.head? = some 34) := by
  have hp : 0 < l.length := List.length_pos_iff.mpr hl
  rw [show (0 : Int) = ((0 : Nat) : Int) from rfl, item_nat l 0 hp, one_quo]
  cases l with
  | nil => exact absurd rfl hl
  | cons a r => simp
theorem item_last_quo {l : List Nat} (hl : l ≠ []) : (Txt.item (mkS l) (-1) == Str.ofString "\"") = decide (l.getLast? = some 34) := by
  rw [item_last l hl, one_quo, List.getLast?_eq_some_getLast hl]; simp
section
variable {l : List Nat} (hl : 0 < (mkS l).length)
include hl
theorem ne_of_pos : l ≠ [] := by rw [mkS_length] at hl; exact List.length_pos_iff.mp hl
end
section
open PyProof.Rows.LCg
section
variable {prog : Program} {w : World} {A : Around} {E : Value → Shared → Prop} {s : Shared}
/-- a list drawn item by item -/
theorem drawL {I l : Addr} {items : Array Value} (hne : l ≠ I) : ∀ (n i : Nat) (s : Shared) (Q : List Value → Shared → Prop), s.heap.IsListIter I l i → s.heap.IsList l items → i + n ≤ items.size →
    (∀ h', h'.IsListIter I l (i + n) → Heap.SameBut I s.heap h' → Q ((items.toList.drop i).take n) { s with heap := h' }) → wpAny (model prog w) A (draw (.ref I) n) Q E s := by
  intro n
  induction n with
  | zero =>
    intro i s Q hit _ _ hQ
    exact wpAny_pure (by simpa using hQ s.heap hit (Heap.SameBut.refl ..))
  | succ n ih =>
    intro i s Q hit hl hle hQ
    have hlt : i < items.size := by omega
    show wpAny _ _ (pyNext (.ref I) >>= _) Q E s
    refine wpAny_bind (wpAny_pyNext_list_item hit hl (x := items[i]) (by simp [hlt]) fun h₁ hit₁ hs₁ => ?_)
    refine wpAny_bind (wpAny_holding (ih (i + 1) _ _ hit₁ (hl.extBut hs₁.extBut hne) (by omega) fun h₂ hit₂ hs₂ => wpAny_pure ?_))
    have hd : items.toList.drop i = items[i] :: items.toList.drop (i + 1) := by simp [List.drop_eq_getElem_cons, hlt]
    have := hQ h₂ (by rw [show i + (n + 1) = i + 1 + n by omega]; exact hit₂) (hs₁.trans hs₂)
    rw [hd, List.take_succ_cons] at this
    exact this
theorem unpackItemsL {l : Addr} {items : Array Value} {Q : List Value → Shared → Prop} (hh : A.handled = none) (hl : s.heap.IsList l items)
    (hQ : ∀ h', Heap.ExtBut s.heap.objs.size s.heap h' → Q items.toList { s with heap := h' }) : wpAny (model prog w) A (unpackItems (.ref l) items.size none) Q E s := by
  have hlt : l ≠ s.heap.objs.size := by obtain ⟨o, ho, _⟩ := hl; exact Nat.ne_of_lt (Heap.lt_size ho)
  unfold unpackItems notIterableAtAll
  refine wpAny_bind (wpAny_bind (wpAny_specialOf hl.typeIs slot_list_iter.lookup (wpAny_pure ?_)))
  simp only [Bool.false_eq_true, if_false]
  refine wpAny_bind (wpAny_holding (wpAny_pyIter_list hl ?_))
  refine wpAny_bind (wpAny_holding (drawL hlt items.size 0 _ _ ⟨_, Heap.get?_push_size _ rfl, rfl, rfl⟩ (hl.push _) (by omega) fun h₁ hit₁ hs₁ => ?_))
  have hall : List.take items.size (List.drop 0 items.toList) = items.toList := by
    rw [List.drop_zero]; exact List.take_of_length_le (by simp)
  rw [hall, if_neg (by simp)]
  refine wpAny_bind (wpAny_holding (wpAny_pyNext_list_end hh hit₁ ((hl.push _).extBut hs₁.extBut hlt) (by simp) fun h₂ he₂ => ?_))
  simp only [Option.isSome_none, Bool.false_eq_true, if_false]
  exact wpAny_pure (hQ h₂ fun b o hb e => he₂ b o hb (hs₁.extBut b o hb (Heap.get?_push_of_some _ e)))
theorem assign_TupleL {env : Env} {elts : List Expr} {x1} {pos : Pos} {l : Addr} {items : Array Value} {Q : Unit → Shared → Prop} (hh : A.handled = none) (hl : s.heap.IsList l items)
    (hn : (assignEach elts env).length = items.size) (hstar : (assignEach elts env).findIdx? (·.1) = none)
    (h : ∀ h', Heap.ExtBut s.heap.objs.size s.heap h' → wpAny (model prog w) A (assignInOrder ((assignEach elts env).map (·.2)) items.toList) Q E { s with heap := h' }) :
    wpAny (model prog w) A (assign (.Tuple elts x1 pos) env (.ref l)) Q E s := by
  rw [assign_Tuple]
  refine wpAny_bind (wpAny_standAt ?_)
  unfold unpack
  rw [hn, hstar]
  exact wpAny_bind (wpAny_holding (unpackItemsL hh hl h))
end
section
variable {prog : Program} {w : World} {A : Around} {E : Value → Shared → Prop} {s : Shared} {h₀ : Heap} {L : Addr} {m : Str → Option Value} {env : Env} {news : List (Addr × Obj)}
theorem unpackLN {elts : List Expr} {k} {pos : Pos} {l : Addr} {items : Array Value} {Q : Unit → Shared → Prop} (F : Fr h₀ L s.heap m) (N : News h₀ L s.heap news) (hl : s.heap.IsList l items)
    (hh : A.handled = none) (hn : (assignEach elts env).length = items.size) (hstar : (assignEach elts env).findIdx? (·.1) = none)
    (h : ∀ h', Fr h₀ L h' m → News h₀ L h' news → wpAny (model prog w) A (assignInOrder ((assignEach elts env).map (·.2)) items.toList) Q E { s with heap := h' }) :
    wpAny (model prog w) A (assign (.Tuple elts k pos) env (.ref l)) Q E s :=
  assign_TupleL hh hl hn hstar fun h' he => h h' (F.extBut he (Nat.le_refl _)) (N.extBut he (Nat.le_refl _))
end
section
variable {prog : Program} {w : World} {A : Around} {E : Value → Shared → Prop} {s : Shared} {env : Env} {h₀ : Heap} {target : Expr} {body : List Stmt} {Q : Flow → Shared → Prop}
theorem unrPostW_mono {L : Addr} {s₁ s₂ : Shared} {its : List (Addr × Obj)} {r r' : (Str → Option Value) → List (Addr × Obj) → Prop} {f : Flow} (hr : ∀ m n, r m n → r' m n) (h : UnrPostW h₀ L s₁ its r Q f s₂) : UnrPostW h₀ L s₁ its r' Q f s₂ := by
  cases f with
  | ret v => exact h
  | brk => exact h
  | next =>
    obtain ⟨h', tk, m', n', e, F, N, o, x⟩ := h
    exact ⟨h', tk, m', n', e, F, N, o, hr _ _ x⟩
  | cont =>
    obtain ⟨h', tk, m', n', e, F, N, o, x⟩ := h
    exact ⟨h', tk, m', n', e, F, N, o, hr _ _ x⟩
/-- one turn of a loop over items, its way back to the invariant -/
noncomputable def Turn1 (prog : Program) (w : World) (A : Around) (E : Value → Shared → Prop) (h₀ : Heap) (env : Env) (target : Expr) (body : List Stmt) (Q : Flow → Shared → Prop) (s : Shared) (I : Addr) (cls : String) (keep : List (Addr × Obj)) (Inv : Nat → (Str → Option Value) → List (Addr × Obj) → Prop) (i : Nat) (v : Value) (m : Str → Option Value) (news : List (Addr × Obj)) : Prop :=
  ∀ h tk o, o.cls = .type cls → Fr h₀ env.locals h m → News h₀ env.locals h ((I, o) :: news) →
    wpAny (model prog w) A (assign target env v) (fun _ s₂ => wpAny (model prog w) A (execs body env) (UnrPostW h₀ env.locals { s with heap := h, toks := tk } [(I, o)] (fun m' n' => SubL keep n' ∧ Inv (i + 1) m' n') Q) E s₂) E { s with heap := h, toks := tk }
theorem items_ind {I : Addr} {cls : String} {keep : List (Addr × Obj)} (xs : List Itm) (Inv : Nat → (Str → Option Value) → List (Addr × Obj) → Prop)
    (turn : ∀ i (a : Itm) m news v h, xs[i]? = some a → a.Is v h → Inv i m news → Turn1 prog w A E h₀ env target body Q s I cls keep Inv i v m news)
    (done : ∀ m news h tk, Inv xs.length m news → Fr h₀ env.locals h m → News h₀ env.locals h news → Q .next { s with heap := h, toks := tk })
    {m : Str → Option Value} {news : List (Addr × Obj)} (h0 : Inv 0 m news) : ItemsRest prog w A E h₀ env target body Q s [(I, cls)] keep xs m news := by
  have main : ∀ (r : List Itm) (i : Nat) (m : Str → Option Value) (news : List (Addr × Obj)), xs.drop i = r → i ≤ xs.length → Inv i m news → ItemsRest prog w A E h₀ env target body Q s [(I, cls)] keep r m news := by
    intro r
    induction r with
    | nil =>
      intro i m news hd hi hI
      have hl : i = xs.length := by
        have := congrArg List.length hd
        simp at this; omega
      subst hl
      exact fun h tk F N => done m news h tk hI F N
    | cons a r ih =>
      intro i m news hd hi hI v h tk hv F
      have hlt : i < xs.length := by
        have := congrArg List.length hd
        simp at this; omega
      have hx : xs[i]? = some a := by
        have := congrArg List.head? hd
        rw [List.head?_drop] at this; exact this
      have hd2 : xs.drop (i + 1) = r := by rw [← List.tail_drop, hd]; rfl
      show ∀ o : Obj, o.cls = .type cls → _
      intro o ho N
      refine wpAny_mono (turn i a m news v h hx hv hI h tk o ho F N) (fun _ s₂ h₂ => wpAny_mono h₂ (fun f s₃ p => unrPostW_mono (fun m' n' q => ⟨q.1, ih (i + 1) m' n' hd2 hlt q.2⟩) p) fun _ _ e => e) fun _ _ e => e
  exact main xs 0 m news rfl (Nat.zero_le _) h0
theorem items_vals {I : Addr} {cls : String} {keep : List (Addr × Obj)} (vs : List Value) (Inv : Nat → (Str → Option Value) → List (Addr × Obj) → Prop)
    (turn : ∀ i v m news, vs[i]? = some v → Inv i m news → Turn1 prog w A E h₀ env target body Q s I cls keep Inv i v m news)
    (done : ∀ m news h tk, Inv vs.length m news → Fr h₀ env.locals h m → News h₀ env.locals h news → Q .next { s with heap := h, toks := tk })
    {m : Str → Option Value} {news : List (Addr × Obj)} (h0 : Inv 0 m news) : ItemsRest prog w A E h₀ env target body Q s [(I, cls)] keep (vs.map .val) m news := by
  refine items_ind (vs.map .val) Inv (fun i a m news v h hx hv hI => ?_) (by rw [List.length_map]; exact done) h0
  rw [List.getElem?_map] at hx
  cases hv' : vs[i]? with
  | none => rw [hv'] at hx; cases hx
  | some u =>
    rw [hv'] at hx; cases hx
    obtain rfl : v = u := hv
    exact turn i v m news hv' hI
end
section
variable {prog : Program} {w : World} {A : Around} {h₀ : Heap} {L : Addr} {m : Str → Option Value} {env : Env} {elt : Expr} {x : Str} {scope : Scope} {cl : List (Str × Addr)} {s : Shared} {S : List (Addr × Obj) → Prop} {Fin : List Value → List (Addr × Obj) → Prop} {news : List (Addr × Obj)}
/-- a comprehension by one name, its items told by an invariant over the items and the ledger -/
theorem comp_ind1 (vs : List Value) (Inv : Nat → List Value → List (Addr × Obj) → Prop) (h0 : Inv 0 [] news) (hfin : ∀ ys news, Inv vs.length ys news → Fin ys news)
    (step : ∀ i ys v news, vs[i]? = some v → Inv i ys news →
      ∀ I oI C oC D m₂ h tk (E' : Value → Shared → Prop), NsObj oC m₂ → m₂ x = some v → Fr h₀ L h m → News h₀ L h ((I, oI) :: (C, oC) :: (D, lst ys) :: news) → Off3 I C D news → ((@Ne Nat I C) ∧ (@Ne Nat I D) ∧ (@Ne Nat C D)) →
      wpAny (model prog w) A (eval elt (compEnvC scope cl C env)) (CompEnd h₀ L m { s with heap := h, toks := tk } I oI C oC D (lst ys) S (fun y news' => Inv (i + 1) (ys ++ [y]) news')) E' { s with heap := h, toks := tk }) :
    CompRest prog w A h₀ L m env elt x scope cl s S (fun i v => vs.toArray[i]? = some v) Fin vs.toArray.size 0 [] news := by
  have main : ∀ k i ys news, i + k = vs.length → Inv i ys news → CompRest prog w A h₀ L m env elt x scope cl s S (fun i v => vs.toArray[i]? = some v) Fin k i ys news := by
    intro k
    induction k with
    | zero => intro i ys news hi hv; exact CompRest.zero (hfin ys news (by rw [show vs.length = i from by omega]; exact hv))
    | succ k ih =>
      intro i ys news hi hv
      refine CompRest.succ fun v I oI C oC D m₂ h tk E' hvi a b c d e f => ?_
      refine wpAny_mono (step i ys v news (by simpa using hvi) hv I oI C oC D m₂ h tk E' a b c d e f) (fun y s' hq => ?_) fun _ _ z => z
      obtain ⟨h', tk', news', rfl, F', N', o', hS, hi'⟩ := hq
      exact ⟨h', tk', news', rfl, F', N', o', hS, ih (i + 1) (ys ++ [y]) news' (by omega) hi'⟩
  have := main vs.length 0 [] news (by omega) h0
  simpa using this
end
end
section
open PyProof.Rows.LCg
section
variable {prog : Program} {w : World} {A : Around} {E : Value → Shared → Prop} {s : Shared} {env : Env} {h₀ : Heap} {body : List Stmt} {Q : Flow → Shared → Prop}
/-- a loop over a range of any step, by one name -/
theorem iter_rangeT {x : Str} {px : Pos} {r : Addr} {a b c : Int} {t u v : Tok} {n : Nat} {m₀ : Str → Option Value} {news : List (Addr × Obj)}
    (hh : A.handled = none) (F : Fr h₀ env.locals s.heap m₀) (N : News h₀ env.locals s.heap news) (hr : IsRange s.heap r a b c t u v) (hsm : Builtin.Range.small a b c = true) (hn : Builtin.Range.rangeSize a b c = (n : Int))
    (rest₀ : ∀ I : Addr, (∀ p ∈ news, p.1 < I) → ItemsRest prog w A E h₀ env (.Name x px) body Q s [(I, "range_iterator")] [] ((List.range n).map fun (i : Nat) => Itm.tok (fun t => Value.int (a + (i : Int) * c) t)) m₀ news) :
    wpAny (model prog w) A (pyIter (.ref r)) (fun it s₂ => TurnsAt prog w A h₀ env (.Name x px) body Q E it s₂) E s := by
  refine wpAny_pyIter_range hr hsm ?_
  have W0 := (Walks.range (prog := prog) (w := w) hh s.heap.objs.size a c n).bound
  refine ktu_core (tk0 := s.toks) (ws := [(s.heap.objs.size, "range_iterator")]) (keep := []) (n := n) (KTurns.ofWalks W0 fun i v s Q E st q => wpAny_pure q) (by simp) (fun i v h hp => ?_) (fun i h st => ?_) (fun b hb => ?_) (fun b hb => by simpa using hb) (fun b hb => ?_) ?_ (fun p hp hI => ?_) ?_ (F.push _) (fun p hp => ⟨Heap.get?_push_of_some _ (N p hp).1, (N p hp).2⟩) trivial (rest₀ _ fun p hp => Heap.lt_size (N p hp).1)
  · obtain ⟨hi, t, rfl⟩ := hp
    exact ⟨Itm.tok (fun t => Value.int (a + (i : Int) * c) t), by rw [List.getElem?_map, List.getElem?_range hi]; rfl, (show ∃ t', _ = _ from ⟨t, rfl⟩)⟩
  · exact ⟨[(s.heap.objs.size, _)], ⟨⟨rfl, rfl⟩, trivial⟩, fun p hp => by rw [List.mem_singleton.mp hp]; exact st⟩
  · have hb' : b = s.heap.objs.size := by simpa using hb
    rw [hb']
    exact ⟨List.mem_cons_self .., next_is_new F⟩
  · exact .inl (by simpa using hb)
  · intro hI
    exact absurd F.ns.lt ((List.mem_singleton.mp hI) ▸ Nat.lt_irrefl _)
  · exact absurd (Heap.lt_size (N p hp).1) ((List.mem_singleton.mp hI) ▸ Nat.lt_irrefl _)
  · show IsRangeIter _ _ _ _ _
    rw [hn]; simpa using Heap.get?_push_size _ rfl
end
section
variable {prog : Program} {w : World} {A : Around} {E : Value → Shared → Prop} {s : Shared} {h₀ : Heap} {L : Addr} {m : Str → Option Value} {K : Frag} {x C : Addr} {ox : Obj} {od : Option Obj} {news : List (Addr × Obj)}
/-- the state of list(x) between two items: the list at a, the ledger behind it -/
noncomputable def LoSt (s : Shared) (h₀ : Heap) (L : Addr) (m : Str → Option Value) (a : Addr) (J : Nat → List Value → List (Addr × Obj) → Prop) (n : Nat) (acc : List Value) (s' : Shared) : Prop :=
  ∃ h tk c led, s' = { s with heap := h, toks := tk } ∧ Fr h₀ L h m ∧ News h₀ L h ((a, listOf acc.toArray c) :: led) ∧ (∀ p ∈ led, p.1 ≠ a) ∧ acc.length ≤ 4096 ∧ J n acc led
noncomputable def LoNext (s : Shared) (h₀ : Heap) (L : Addr) (m : Str → Option Value) (a : Addr) (J : Nat → List Value → List (Addr × Obj) → Prop) (Q : Value → Shared → Prop) (n : Nat) (acc : List Value) (r : Option Value) (s₁ : Shared) : Prop := match r with
  | none => Q (.ref a) s₁
  | some v => ∃ h tk c led k, k < n ∧ s₁ = { s with heap := h, toks := tk } ∧ Fr h₀ L h m ∧ News h₀ L h ((a, listOf acc.toArray c) :: led) ∧ (∀ p ∈ led, p.1 ≠ a) ∧ acc.length < 4096 ∧ J k (acc ++ [v]) led
theorem lo_set {a : Addr} {acc acc' : List Value} {c c' : Nat} {h h' : Heap} {led : List (Addr × Obj)} (F : Fr h₀ L h m) (N : News h₀ L h ((a, listOf acc.toArray c) :: led)) (hne : ∀ p ∈ led, p.1 ≠ a) (hs : Heap.SameBut a h h') (hv : h'.get? a = some (listOf acc'.toArray c')) :
    Fr h₀ L h' m ∧ News h₀ L h' ((a, listOf acc'.toArray c') :: led) := by
  have z := N _ (.head _)
  refine ⟨F.update N (.head _) hs, fun p hp => ?_⟩
  rcases List.mem_cons.mp hp with rfl | hp
  · exact ⟨hv, z.2⟩
  · have y := N p (.tail _ hp)
    exact ⟨hs.extBut _ _ (hne p hp) y.1, y.2⟩
theorem lo_loop {a : Addr} {J : Nat → List Value → List (Addr × Obj) → Prop} {R : Result → Shared → Prop} (res : Value)
    (turn : ∀ n acc s', LoSt s h₀ L m a J n acc s' → wpAny (model prog w) A.in1 (pyNext (.ref x)) (LoNext s h₀ L m a J (fun _ s' => R (.ok (.ret res)) s') n acc) (fun e s' => R (.error e) s') s') :
    ∀ (n : Nat) (acc : List Value) (s' : Shared), LoSt s h₀ L m a J n acc s' → codeAny (model prog w) A (.builtin "list.extend.loop" ⟨[.ref a, .ref x, res], []⟩) R s' := by
  intro n
  induction n using Nat.strongRecOn with
  | ind n ih =>
    intro acc s' hI
    refine codeAny_builtin F.entry_extend_loop ?_
    rw [Around.under_plainId F.plain_extend_loop _]
    show wpAny _ A.in1 (pyNext (.ref x) >>= _) _ _ s'
    refine wpAny_bind (wpAny_mono (turn n acc s' hI) (fun r s₁ hr => ?_) fun _ _ z => z)
    cases r with
    | none => exact wpAny_pure hr
    | some v =>
      obtain ⟨h, tk, c, led, k, hk, rfl, F, N, hne, hl, hJ⟩ := hr
      show wpAny _ A.in1 (updateSeq a (·.push v) >>= _) _ _ _
      have ha : h.get? a = some (listOf acc.toArray c) := (N _ (.head _)).1
      refine wpAny_bind (wpAny_updateSeq ha rfl ?_ (by show acc.toArray.size ≤ _; rw [List.size_toArray, sizeLine_eq]; omega) (by show (acc.toArray.push v).size ≤ _; rw [Array.size_push, List.size_toArray, sizeLine_eq]; omega))
      obtain ⟨F', N'⟩ := lo_set (acc' := acc ++ [v]) F N hne (Heap.SameBut.update ..) ((Heap.get?_update_self (Obj.mapSeq (·.push v)) ha rfl).trans (by rw [show (acc ++ [v]).toArray = acc.toArray.push v from by simp]; rfl))
      exact wpAny_pure ⟨plainId_quiet PySem.F.plain_extend_loop _, ih k hk (acc ++ [v]) _ ⟨_, _, _, led, rfl, F', N', hne, by rw [List.length_append, List.length_singleton]; omega, hJ⟩⟩
theorem sameBut2 {a : Addr} {h h₁ h₂ : Heap} (x : Heap.SameBut a h h₁) (y : Heap.SameBut a h₁ h₂) : Heap.SameBut a h h₂ := x.trans y
noncomputable def LoIter (s : Shared) (h₀ : Heap) (L : Addr) (m : Str → Option Value) (a x C : Addr) (ox : Obj) (od : Option Obj) (J : Nat → List Value → List (Addr × Obj) → Prop) (it : Value) (s₂ : Shared) : Prop :=
  it = .ref x ∧ InstAt s₂.heap x ox C od ∧ ∃ n, LoSt s h₀ L m a J n [] s₂
theorem lo_extend {R : Result → Shared → Prop} {a : Addr} {J : Nat → List Value → List (Addr × Obj) → Prop} (res : Value) (X₀ : K.In h₀) (I₀ : InstAt s.heap x ox C od) (hxa : x ≠ a)
    (h1 : findIn K (.ref C) "__len__" = some none) (h2 : findIn K (.ref C) "__length_hint__" = some none)
    (iter : wpAny (model prog w) A.in1 (pyIter (.ref x)) (LoIter s h₀ L m a x C ox od J) (fun e s' => R (.error e) s') s)
    (turn : ∀ n acc s', LoSt s h₀ L m a J n acc s' → wpAny (model prog w) A.in1 (pyNext (.ref x)) (LoNext s h₀ L m a J (fun _ s' => R (.ok (.ret res)) s') n acc) (fun e s' => R (.error e) s') s') :
    wpAny (model prog w) A.in1 (Builtin.List.listExtendWith (.ref a) (.ref x) res)
      (fun fin s' => match fin with | .done f => R (.ok f) s' | .again c' => c'.quiet = true ∧ codeAny (model prog w) A c' R s') (fun e s' => R (.error e) s') s := by
  unfold Builtin.List.listExtendWith
  refine wpAny_bind (I₀.type.here ?_)
  have e1 : Builtin.List.listSameRef (.ref a) (.ref x) = false := by simp [Builtin.List.listSameRef, Ne.symm hxa]
  have e2 : (Value.ref C == Value.type "list") = false := by rfl
  have e3 : (Value.ref C == Value.type "tuple") = false := by rfl
  simp only [e1, e2, e3, Bool.or_false, Bool.false_eq_true, if_false]
  refine wpAny_bind (wpAny_mono iter (fun it s₂ h₂ => ?_) fun _ _ z => z)
  obtain ⟨rfl, I₂, n, h, tk, c, led', rfl, F', N', hne, hl, hJ⟩ := h₂
  refine wpAny_bind (wpAny_holding ?_)
  unfold Builtin.List.listLengthHint
  refine wpAny_bind (wpAny_bind (I₂.type.here ((looks_findIn (X₀.keeps F'.keep) h1).here ?_)))
  show wpAny _ A.in1 (specialOf (Value.ref x) (Str.ofString "__length_hint__") >>= _) _ _ _
  refine wpAny_bind (wpAny_bind (I₂.type.here ((looks_findIn (X₀.keeps F'.keep) h2).here ?_)))
  refine wpAny_pure ?_
  show wpAny _ A.in1 (rule "list.extend.makes-room" >>= fun _ => Builtin.List.listTouch (.ref a) >>= fun _ =>
    again (.builtin "list.extend.loop" ⟨[.ref a, .ref x, res], []⟩)) _ _ _
  refine wpAny_bind (wpAny_rule ?_)
  refine wpAny_bind ?_
  show wpAny _ A.in1 (updateSeq a (·.push .none) >>= fun _ => updateSeq a (·.pop)) _ _ _
  have ha : h.get? a = some (listOf #[] c) := (N' _ (.head _)).1
  refine wpAny_bind (wpAny_updateSeq ha rfl ?_)
  have hS₂ := Heap.get?_update_self (Obj.mapSeq (·.push Value.none)) ha rfl
  refine wpAny_updateSeq (hz := by seq_fits) hS₂ rfl ?_
  have hS₃ := Heap.get?_update_self (Obj.mapSeq (·.pop)) hS₂ rfl
  obtain ⟨F₃, N₃⟩ := lo_set (acc := []) (acc' := []) F' N' hne ((Heap.SameBut.update ..).trans (Heap.SameBut.update ..)) (hS₃.trans rfl)
  exact wpAny_pure ⟨plainId_quiet PySem.F.plain_extend_loop _, lo_loop (s := s) (J := J) res turn n [] _ ⟨_, _, _, led', rfl, F₃, N₃, hne, hl, hJ⟩⟩
end
section
variable {prog : Program} {w : World} {A : Around} {E : Value → Shared → Prop} {s : Shared} {h₀ : Heap} {L : Addr} {m : Str → Option Value} {K : Frag} {x C : Addr} {ox : Obj} {od : Option Obj} {news : List (Addr × Obj)}
/-- list(x) of an own iterator -/
theorem call_list_own {Q : Value → Shared → Prop} (J : Nat → List Value → List (Addr × Obj) → Prop) (F : Fr h₀ L s.heap m) (N : News h₀ L s.heap news) (X₀ : K.In h₀) (I₀ : InstAt s.heap x ox C od)
    (h1 : findIn K (.ref C) "__len__" = some none) (h2 : findIn K (.ref C) "__length_hint__" = some none)
    (iter : ∀ a h' c, Fr h₀ L h' m → News h₀ L h' ((a, listOf #[] c) :: news) → InstAt h' x ox C od → (∀ p ∈ news, p.1 < a) → wpAny (model prog w) A.in1.in1 (pyIter (.ref x)) (LoIter { s with heap := h' } h₀ L m a x C ox od J) E { s with heap := h' })
    (turn : ∀ a h' n acc s', (∀ p ∈ news, p.1 < a) → LoSt { s with heap := h' } h₀ L m a J n acc s' → wpAny (model prog w) A.in1.in1 (pyNext (.ref x)) (LoNext { s with heap := h' } h₀ L m a J Q n acc) E s') :
    wpAny (model prog w) A (call (.type "list") [.ref x]) Q E s := by
  refine callType_codes (Q₁ := fun obj s₁ => obj = .ref s.heap.objs.size ∧ s₁ = { s with heap := s.heap.push { cls := .type "list", data := .seq #[] } }) PySem.F.called_list (PySem.F.typeCall_list_1 _) PySem.F.entry_list_init
    (code_list_new _ ⟨rfl, rfl⟩) fun obj s₁ h₁ => ?_
  obtain ⟨rfl, rfl⟩ := h₁
  generalize ea : s.heap.objs.size = a
  have hS : (s.heap.push { cls := .type "list", data := .seq #[] }).get? a = some { cls := .type "list", data := .seq #[] } := ea ▸ Heap.get?_push_size _ rfl
  have hlt : ∀ p ∈ news, p.1 < a := fun p hp => ea ▸ Heap.lt_size (N p hp).1
  have hxa : x ≠ a := Nat.ne_of_lt (ea ▸ Heap.lt_size I₀.at_)
  have aL : a ≠ L := Nat.ne_of_gt (ea ▸ F.ns.lt)
  have a0 : h₀.get? a = none := ea ▸ next_is_new F
  have up : ∀ b o, s.heap.get? b = some o → (s.heap.push { cls := .type "list", data := .seq #[] }).get? b = some o := fun b o e => Heap.get?_push_of_some _ e
  refine ⟨⟨_, hS, rfl⟩, PySem.F.args_list_init_2 _ _, ?_⟩
  show wpAny _ A.in1.in1 (do let old ← Builtin.List.listItems (.ref a); Builtin.List.listUpdate (.ref a) (fun _ => #[]); letGo old.toList.reverse; Builtin.List.listExtendWith (.ref a) (.ref x) .none) _ _ _
  refine wpAny_bind ?_
  unfold Builtin.List.listItems
  refine wpAny_bind (wpAny_seqItems hS rfl (wpAny_pure ?_))
  show wpAny _ A.in1.in1 (updateSeq a (fun _ => #[]) >>= fun _ => letGo (#[] : Array Value).toList.reverse >>= fun _ => Builtin.List.listExtendWith (.ref a) (.ref x) .none) _ _ _
  refine wpAny_bind (wpAny_updateSeq hS rfl ?_)
  have hS₂ := Heap.get?_update_self (Obj.mapSeq (fun _ => (#[] : Array Value))) hS rfl
  have F1 : Fr h₀ L (s.heap.push { cls := .type "list", data := .seq #[] }) m := F.keeps up
  have N1 : News h₀ L (s.heap.push { cls := .type "list", data := .seq #[] }) ((a, listOf #[] 0) :: news) := fun p hp => by
    rcases List.mem_cons.mp hp with rfl | hp
    · exact ⟨hS, aL, a0⟩
    · exact ⟨up _ _ (N p hp).1, (N p hp).2⟩
  obtain ⟨F2, N2⟩ := lo_set (acc := []) (acc' := []) F1 N1 (fun p hp => Nat.ne_of_lt (hlt p hp)) (Heap.SameBut.update ..) (hS₂.trans rfl)
  have oth : ∀ b o, b ≠ a → s.heap.get? b = some o → ((s.heap.push { cls := .type "list", data := .seq #[] }).update a (Obj.mapSeq (fun _ => (#[] : Array Value)))).get? b = some o :=
    fun b o hb e => (Heap.get?_update_other _ _ (Ne.symm hb)).trans (up b o e)
  have I2 : InstAt ((s.heap.push { cls := .type "list", data := .seq #[] }).update a (Obj.mapSeq (fun _ => (#[] : Array Value)))) x ox C od := by
    refine ⟨oth _ _ hxa I₀.at_, I₀.cls, I₀.no, ?_⟩
    have := I₀.dict
    split at this
    · exact oth _ _ (Nat.ne_of_lt (ea ▸ Heap.lt_size this)) this
    · trivial
    · exact this.elim
  refine wpAny_bind (wpAny_letGo ?_)
  refine lo_extend (J := J) (m := m) (h₀ := h₀) (L := L) .none X₀ I2 hxa h1 h2 (iter a _ _ F2 N2 I2 hlt) fun n acc s' hs => wpAny_mono (turn a _ n acc s' hlt hs) (fun r s₁ hr => ?_) fun _ _ z => z
  cases r with
  | none => exact ⟨rfl, hr⟩
  | some v => exact hr
end
end
section
open PySem.Spec PyProof.Rows.LCg PyProof.Rows.LCp
section
variable {prog : Program} {w : World} {A : Around} {E : Value → Shared → Prop} {s : Shared} {h₀ : Heap} {L : Addr} {m : Str → Option Value} {env : Env} {elt iter : Expr} {x y z : Str} {px py pz tp : Pos} {tk0 : Nat} {scope : Scope} {cl : List (Str × Addr)} {pos : Pos}
noncomputable def C3Q (s : Shared) (h₀ : Heap) (L : Addr) (m : Str → Option Value) (led : List (Addr × Obj)) (J : Value → Prop) (v : Value) (s' : Shared) : Prop := ∃ h' tk', s' = { s with heap := h', toks := tk' } ∧ J v ∧ Fr h₀ L h' m ∧ News h₀ L h' led
/-- one element of a comprehension by three names -/
noncomputable def C3Step (prog : Program) (w : World) (A : Around) (h₀ : Heap) (L : Addr) (m : Str → Option Value) (env : Env) (elt : Expr) (x y z : Str) (scope : Scope) (cl : List (Str × Addr)) (s : Shared) (news : List (Addr × Obj)) (Inv : Nat → List Value → Prop) (i : Nat) (ys : List Value) (v : Value) : Prop :=
  ∃ (t : Addr) (v₁ v₂ v₃ : Value) (n : Nat), v = .ref t ∧ (t, listOf #[v₁, v₂, v₃] n) ∈ news ∧
    ∀ I oI C oC D m₂ h tk (E' : Value → Shared → Prop), NsObj oC m₂ → m₂ x = some v₁ → m₂ y = some v₂ → m₂ z = some v₃ → Fr h₀ L h m → News h₀ L h ((I, oI) :: (C, oC) :: (D, lst ys) :: news) → Off3 I C D news → ((@Ne Nat I C) ∧ (@Ne Nat I D) ∧ (@Ne Nat C D)) →
      wpAny (model prog w) A (eval elt (compEnvC scope cl C env)) (C3Q s h₀ L m ((I, oI) :: (C, oC) :: (D, lst ys) :: news) (fun u => Inv (i + 1) (ys ++ [u]))) E' { s with heap := h, toks := tk }
structure C3Src (prog : Program) (w : World) (A : Around) (h₀ : Heap) (L : Addr) (m : Str → Option Value) (env : Env) (elt : Expr) (x y z : Str) (scope : Scope) (cl : List (Str × Addr)) (Q : Value → Shared → Prop) (s₁ : Shared) (ax : Addr) (vs : List Value) (n : Nat) (news : List (Addr × Obj)) (Inv : Nat → List Value → Prop) : Prop where
  hh : A.handled = none
  F : Fr h₀ L s₁.heap m
  N : News h₀ L s₁.heap news
  mem : (ax, listOf vs.toArray n) ∈ news
  size : vs.length ≤ sizeLine
  h0 : Inv 0 []
  step : ∀ g i ys v, vs[i]? = some v → Inv i ys → C3Step prog w A h₀ L m env elt x y z scope cl { s₁ with heap := g } news Inv i ys v
  fin : ∀ ys D h tk, Inv vs.length ys → Fr h₀ L h m → News h₀ L h ((D, lst ys) :: news) → (∀ p ∈ news, @Ne Nat p.1 D) → Q (.ref D) { s₁ with heap := h, toks := tk }
noncomputable def C3At (prog : Program) (w : World) (A : Around) (h₀ : Heap) (L : Addr) (m : Str → Option Value) (env : Env) (elt : Expr) (x y z : Str) (scope : Scope) (cl : List (Str × Addr)) (Q : Value → Shared → Prop) (xv : Value) (s₁ : Shared) : Prop :=
  ∃ ax vs n news Inv, xv = .ref ax ∧ C3Src prog w A h₀ L m env elt x y z scope cl Q s₁ ax vs n news Inv
theorem ListComp_3 {Q : Value → Shared → Prop} (F₀ : Fr h₀ L s.heap m)
    (hclos : closureFor scope env = pure cl) (hcell : ∀ u ∈ scope.names, u.2 ≠ .cell) (hkind : scope.kind = .function)
    (hnames : ∀ u ∈ scope.names, u.2 = .local → scope.names.lookup u.1 = some .local) (hx : scope.names.lookup x = some .local) (hy : scope.names.lookup y = some .local) (hz : scope.names.lookup z = some .local) (hxy : x ≠ y) (hxz : x ≠ z) (hyz : y ≠ z)
    (h : wpAny (model prog w) A (eval iter env) (C3At prog w A h₀ L m env elt x y z scope cl Q) E s)
    (hs : ∀ u, foldedSetIterable iter env u = pure u := by intro _; rfl) :
    wpAny (model prog w) A (eval (.ListComp elt [⟨.Tuple [.Name x px, .Name y py, .Name z pz] tk0 tp, iter, [], 0⟩] scope pos) env) Q E s := by
  rw [eval_ListComp]
  refine wpAny_comprehension_free (use := none) rfl hs hclos hkind hnames (wpAny_mono h (fun xv s₁ h₁ => ?_) fun _ _ e => e)
  obtain ⟨ax, vs, n, news, Inv, rfl, hh, F, N, mem, size, h0, step, fin⟩ := h₁
  have hl : s₁.heap.IsList ax vs.toArray := ⟨_, (N _ mem).1, rfl, n, rfl⟩
  have hlt : ax < s₁.heap.objs.size := Heap.lt_size (N _ mem).1
  refine wpAny_pyIter_list hl ?_
  generalize eI : s₁.heap.objs.size = I at *
  have hIl : (s₁.heap.push { cls := .type "list_iterator", data := .fields #[.ref ax, .int 0 0] }).IsListIter I ax 0 := ⟨_, eI ▸ Heap.get?_push_size _ rfl, rfl, rfl⟩
  have up1 : ∀ b o, s₁.heap.get? b = some o → (s₁.heap.push { cls := .type "list_iterator", data := .fields #[.ref ax, .int 0 0] }).get? b = some o := fun b o e => Heap.get?_push_of_some _ e
  have hIL : I ≠ L := Nat.ne_of_gt (eI ▸ F.ns.lt)
  have hI0 : h₀.get? I = none := eI ▸ next_is_new F
  have hIn : ∀ p ∈ news, @Ne Nat p.1 I := fun p hp => Nat.ne_of_lt (eI ▸ Heap.lt_size (N p hp).1)
  have F1 := F.keeps up1
  have N1 : News h₀ L (s₁.heap.push { cls := .type "list_iterator", data := .fields #[.ref ax, .int 0 0] }) news := fun p hp => ⟨up1 _ _ (N p hp).1, (N p hp).2⟩
  have sz1 : (s₁.heap.push { cls := .type "list_iterator", data := .fields #[.ref ax, .int 0 0] }).objs.size = I + 1 := by rw [Heap.size_push, eI]
  generalize s₁.heap.push { cls := .type "list_iterator", data := .fields #[.ref ax, .int 0 0] } = H1 at hIl F1 N1 sz1 ⊢
  refine wpAny_newObj_type (wpAny_newFunctionEnv hcell (by intro u hu; simp at hu) (fun h₁ hns₁ hsb₁ => ?_) hkind)
  dsimp only at hns₁ hsb₁ ⊢
  generalize eD : H1.objs.size = D at *
  have hDL : D ≠ L := Nat.ne_of_gt (eD ▸ F1.ns.lt)
  have hD0 : h₀.get? D = none := eD ▸ next_is_new F1
  have hDn : ∀ p ∈ news, @Ne Nat p.1 D := fun p hp => Nat.ne_of_lt (eD ▸ Heap.lt_size (N1 p hp).1)
  have up2 : ∀ b o, H1.get? b = some o → (H1.push { cls := .type "list", dict := none, data := .seq ([] : List Value).toArray }).get? b = some o := fun b o e => Heap.get?_push_of_some _ e
  have hD2 : (H1.push { cls := .type "list", dict := none, data := .seq ([] : List Value).toArray }).get? D = some (lst []) := eD ▸ Heap.get?_push_size _ rfl
  have F2 := F1.keeps up2
  have sz2 : (H1.push { cls := .type "list", dict := none, data := .seq ([] : List Value).toArray }).objs.size = D + 1 := by rw [Heap.size_push, eD]
  generalize H1.push { cls := .type "list", dict := none, data := .seq ([] : List Value).toArray } = H2 at hns₁ hsb₁ hD2 F2 up2 sz2 ⊢
  generalize eC : H2.objs.size = C at *
  have up3 : ∀ b o, H2.get? b = some o → (H2.push { cls := Value.type (if (some env).isSome = true then "dict" else "frame"), data := Data.dict #[] }).get? b = some o := fun b o e => Heap.get?_push_of_some _ e
  have hCL : C ≠ L := Nat.ne_of_gt (eC ▸ F2.ns.lt)
  have hC0 : h₀.get? C = none := eC ▸ next_is_new F2
  have hCI : @Ne Nat I C := by omega
  have hDI : @Ne Nat I D := by omega
  have hCD : @Ne Nat C D := by omega
  have old : ∀ b o, @Ne Nat b C → H2.get? b = some o → h₁.get? b = some o := fun b o hb e => hsb₁.extBut b o hb (up3 b o e)
  have hCn : ∀ p ∈ news, @Ne Nat p.1 C := fun p hp => Nat.ne_of_lt (eC ▸ Heap.lt_size (up2 _ _ (N1 p hp).1))
  have off : Off3 I C D news := Off3.of fun p hp => ⟨hIn p hp, hCn p hp, hDn p hp⟩
  have F3 : Fr h₀ L h₁ m := (F2.keeps up3).change hsb₁ hCL hC0
  have N3 : News h₀ L h₁ ((D, lst []) :: news) := fun p hp => by
    rcases List.mem_cons.mp hp with rfl | hp
    · exact ⟨old _ _ (Ne.symm hCD) hD2, hDL, hD0⟩
    · exact ⟨old _ _ (hCn p hp) (up2 _ _ (N1 p hp).1), (N p hp).2⟩
  have I3 : h₁.IsListIter I ax 0 := by
    obtain ⟨o, ho, r⟩ := hIl
    exact ⟨o, old _ _ hCI (up2 _ _ ho), r⟩
  have loop : ∀ s₃ : Shared, s₃ = { s₁ with heap := h₁, toks := s₁.toks + ([] : List (Str × Value)).length } →
      codeAny (model prog w) A (.compLoop (.ListComp elt [⟨.Tuple [.Name x px, .Name y py, .Name z pz] tk0 tp, iter, [], 0⟩] scope pos) 0 (.ref I) (.ref D) (compEnvC scope cl C env)) (compPost (model prog w) A E none Q (.ref D) C) s₃ := by
    rintro s₃ rfl
    refine codeAny_compLoop_pair
      (fun k s' => ∃ h' tk i ys m', s' = { s₁ with heap := h', toks := tk } ∧ i ≤ vs.length ∧ k = vs.length + 1 - i ∧ ys.length = i ∧ h'.IsListIter I ax i ∧ Fr h₀ L h' m ∧ h'.Ns C m' ∧ News h₀ L h' ((D, lst ys) :: news) ∧ Inv i ys) ?_ (vs.length + 1)
      ⟨h₁, _, 0, [], _, rfl, Nat.zero_le _, rfl, rfl, I3, F3, hns₁, N3, h0⟩
    rintro k s' ⟨h', tk, i, ys, m', rfl, hi, rfl, hyl, hit, F', hn', N', hI⟩
    have hla : h'.IsList ax vs.toArray := ⟨_, (N' _ (.tail _ mem)).1, rfl, n, rfl⟩
    by_cases hlt' : i < vs.length
    · refine wpAny_pyNext_list_item hit hla (x := vs[i]) (by simp [hlt']) fun h₂ hit₂ hs₂ => ?_
      have old2 : ∀ b o, b ≠ I → h'.get? b = some o → h₂.get? b = some o := fun b o hb e => hs₂.extBut b o hb e
      have hDo := (N' _ (.head _)).1
      have N2 : News h₀ L h₂ ((D, lst ys) :: news) := fun p hp => by
        refine ⟨old2 _ _ ?_ (N' p hp).1, (N' p hp).2⟩
        rcases List.mem_cons.mp hp with rfl | hp
        · exact Ne.symm hDI
        · exact hIn p hp
      have F2' : Fr h₀ L h₂ m := F'.change hs₂ hIL hI0
      have n2 := hn'.at' fun o e => old2 _ o (Ne.symm hCI) e
      obtain ⟨t, v₁, v₂, v₃, nt, hv, htm, el⟩ := step s₁.heap i ys vs[i] (List.getElem?_eq_getElem hlt') hI
      rw [hv]
      refine wpAny_letOwnedTupleGo_listiter hit₂ ?_
      refine assign_TupleL hh (items := #[v₁, v₂, v₃]) ⟨_, (N2 _ (.tail _ htm)).1, rfl, nt, rfl⟩ rfl rfl fun h₃ he₃ => ?_
      have old3 : ∀ b o, h₂.get? b = some o → h₃.get? b = some o := fun b o e => he₃ b o (Nat.ne_of_lt (Heap.lt_size e)) e
      refine assignInOrder_cons (wpAny_assign_Name (wpAny_storeName_local (lookup_relabel_local hx) (n2.at' fun o e => old3 _ o e) (fun h₄ n₄ s₄ => ?_) (by simp [compEnvC, relabel, hkind])))
      refine assignInOrder_cons (wpAny_assign_Name (wpAny_storeName_local (lookup_relabel_local hy) n₄ (fun h₅ n₅ s₅ => ?_) (by simp [compEnvC, relabel, hkind])))
      refine assignInOrder_cons (wpAny_assign_Name (wpAny_storeName_local (lookup_relabel_local hz) n₅ (fun h₆ n₆ s₆ => ?_) (by simp [compEnvC, relabel, hkind])))
      refine assignInOrder_nil ?_
      have old6 : ∀ b o, b ≠ C → h₂.get? b = some o → h₆.get? b = some o := fun b o hb e => s₆.extBut b o hb (s₅.extBut b o hb (s₄.extBut b o hb (old3 b o e)))
      have F6 : Fr h₀ L h₆ m := (((F2'.keeps old3).change s₄ hCL hC0).change s₅ hCL hC0).change s₆ hCL hC0
      obtain ⟨oC, heC, hoC⟩ := ns_obj n₆
      obtain ⟨oI, hoI, hcI⟩ := hit₂
      have heI := old6 _ _ hCI hoI
      have N6 : News h₀ L h₆ ((I, oI) :: (C, oC) :: (D, lst ys) :: news) := fun p hp => by
        rcases List.mem_cons.mp hp with rfl | hp
        · exact ⟨heI, hIL, hI0⟩
        rcases List.mem_cons.mp hp with rfl | hp
        · exact ⟨heC, hCL, hC0⟩
        refine ⟨old6 _ _ ?_ (N2 p hp).1, (N2 p hp).2⟩
        rcases List.mem_cons.mp hp with rfl | hp
        · exact Ne.symm hCD
        · exact hCn p hp
      refine wpAny_mono (el I oI C oC D _ h₆ _ _ hoC (by simp [hxy, hxz, Ne.symm hxy, Ne.symm hxz]) (by simp [hyz, Ne.symm hyz]) (by simp) F6 N6 off ⟨hCI, hDI, hCD⟩) (fun u s₇ h₇ => ?_) fun _ _ e => e
      obtain ⟨h7, tk7, rfl, hJ, F7, N7⟩ := h₇
      have zI := (N7 (I, oI) (.head _)).1
      have zC := (N7 (C, oC) (.tail _ (.head _))).1
      have zD := (N7 (D, lst ys) (.tail _ (.tail _ (.head _)))).1
      refine append_at (hsz := by show ys.toArray.size ≤ sizeLine; rw [List.size_toArray, hyl]; omega) zD fun h₈ s₈ hD₈ => ?_
      refine ⟨vs.length + 1 - (i + 1), by omega, h₈, tk7, i + 1, ys ++ [u], _, rfl, hlt', rfl, by rw [List.length_append, List.length_singleton, hyl], ⟨oI, s₈.extBut _ _ hDI zI, hcI⟩, F7.change s₈ hDL hD0, (hoC.ns zC).sameBut s₈ hCD, fun p hp => ?_, hJ⟩
      rcases List.mem_cons.mp hp with rfl | hp
      · exact ⟨hD₈.trans (congrArg some (lst_snoc ys u)), hDL, hD0⟩
      · have y := N7 p (.tail _ (.tail _ (.tail _ hp)))
        exact ⟨s₈.extBut _ _ (hDn p hp) y.1, y.2⟩
    · obtain rfl : i = vs.length := Nat.le_antisymm hi (Nat.not_lt.mp hlt')
      refine wpAny_pyNext_list_end hh hit hla (by simp) fun h₂ he₂ => ?_
      have e2 : ∀ b o, b ≠ I → h'.get? b = some o → h₂.get? b = some o := fun b o hb e => he₂ b o hb e
      have F5 : Fr h₀ L h₂ m := ⟨F'.ns.at' fun o e => e2 _ o (Ne.symm hIL) e, fun b o e => e2 b o (fun q => by rw [q, hI0] at e; cases e) (F'.keep b o e), F'.above⟩
      refine ⟨_, hn'.at' fun o e => e2 _ o (Ne.symm hCI) e, fun h₃ s₃ => ?_⟩
      refine fin ys D h₃ _ hI (F5.change s₃ hCL hC0) (fun p hp => ⟨s₃.extBut _ _ ?_ (e2 _ _ ?_ (N' p hp).1), (N' p hp).2⟩) hDn
      · rcases List.mem_cons.mp hp with rfl | hp
        · exact Ne.symm hCD
        · exact hCn p hp
      · rcases List.mem_cons.mp hp with rfl | hp
        · exact Ne.symm hDI
        · exact hIn p hp
  refine codeAny_compStart_list (loop _ rfl) (wpAny_pyIter_listiter I3 (loop _ rfl))
end
end
theorem amb_law {w : World} {env : Env} {h₀ : Heap} {L : Addr} {mg mb : Str → Option Value} {mean : ExcName → Option Value} {loose : List Str} (B : Below callerA h₀ [] h₀) (X : (hd2.heap_1 w.params).In h₀) (T : Top hdQ loose mean mg mb h₀) (hf : env.frame = some L) (hk : env.scope.kind = .function) :
    Amb w (callerA.deeper env) h₀ h₀ [] env L mg mb mean loose 24 := ⟨⟨_, B⟩, X, T, rfl, hf, hk, by simp only [depth_deeper, depth_caller]; decide, rfl⟩
theorem Amb.less {w : World} {A : Around} {base h₀ : Heap} {outer : List Env} {env : Env} {L : Addr} {mg mb : Str → Option Value} {mean : ExcName → Option Value} {loose : List Str} {n : Nat} (C : Amb w A base h₀ outer env L mg mb mean loose n) (k : Nat) (h : k ≤ n) : Amb w A base h₀ outer env L mg mb mean loose k :=
  ⟨C.B, C.X, C.T, C.hA, C.hf, C.hk, by have := C.hroom; omega, C.hh⟩
theorem news_cons {h₀ h : Heap} {L : Addr} {p : Addr × Obj} {a : List (Addr × Obj)} (N : News h₀ L h a) (hp : p ∈ a) : News h₀ L h (p :: a) := fun q hq => N q (by
  rcases List.mem_cons.mp hq with rfl | hq
  · exact hp
  · exact hq)
theorem led_list {h₀ h : Heap} {L a : Addr} {news : List (Addr × Obj)} {xs : List Value} {n : Nat} (N : News h₀ L h news) (hm : (a, W.listOf xs.toArray n) ∈ news) : h.IsList a xs.toArray := ⟨_, (N _ hm).1, rfl, _, rfl⟩
theorem led_any {h₀ h : Heap} {L a : Addr} {news : List (Addr × Obj)} {o : Obj} {xs : List Value} {n : Nat} (N : News h₀ L h news) (hm : (a, o) ∈ news) (hc : o.cls = .type "list") (hd : o.data = .seq xs.toArray n) : h.IsList a xs.toArray := ⟨_, (N _ hm).1, hc, _, hd⟩
theorem allLt_elim {d : Nat} : ∀ {l : List (Addr × Obj)}, AllLt d l → ∀ p ∈ l, @LT.lt Nat _ p.1 d
  | [], _, _, hp => nomatch hp
  | _ :: _, h, p, hp => by
    rcases List.mem_cons.mp hp with rfl | hp
    · exact h.1
    · exact allLt_elim h.2 p hp
structure okC (S : List Nat) (x : Str) : Prop where
  all : ∀ c ∈ x.cps.toList, c ∈ S
structure SumS (z a b : Str) : Prop where
  is : z = a ++ b
structure SeamS (z : Str) : Prop where
  is : ∃ l, z = mkS l ∧ IsSeam l
noncomputable def keyAt (i : Int) : List Nat := if i = 0 then [107] else if i = 1 then [75, 55] else [95, 120]
structure KeyS (z : Str) (k : Int) : Prop where
  is : z = mkS (keyAt k)
theorem keyAt_is (i : Int) : IsKey (keyAt i) := by
  unfold keyAt
  split
  · exact .k
  · split
    · exact .k7
    · exact .x
/-- what a value may be -/
inductive VKind : List Nat → Prop
  | plain {v : List Nat} : (∀ x ∈ v, x ≠ 34) → VKind v
  | sq {c : List Nat} : (∀ x ∈ c, x ≠ 39) → VKind (39 :: (c ++ [39]))
  | bare {c : List Nat} : (∀ x ∈ c, wq P0 x) → VKind (97 :: c)
structure ValOk (v : List Nat) : Prop where
  kind : VKind v
  sgn : ∀ x ∈ v, x ≠ 44 ∧ x < 128
  len : v.length ≤ 5
  head : v.head? ≠ some 34
/-- a setting as the law lays it -/
structure Setg.Good (g : Setg) : Prop where
  ok : g.Ok
  val : ValOk (strip g.tok)
theorem mkS_of (x : Str) : x = mkS x.cps.toList := by simp [mkS]
noncomputable def S0 : List Nat := (Str.ofString "a '#=\n\\;").cps.toList
noncomputable def S1 : List Nat := (Str.ofString "a \"#=\n\\;").cps.toList
noncomputable def S2 : List Nat := (Str.ofString "a7\"'_\"'B").cps.toList
theorem S0_is : S0 = [97, 32, 39, 35, 61, 10, 92, 59] := by decide +kernel
theorem S1_is : S1 = [97, 32, 34, 35, 61, 10, 92, 59] := by decide +kernel
theorem S2_is : S2 = [97, 55, 34, 39, 95, 34, 39, 66] := by decide +kernel
theorem S0_no : ∀ x ∈ S0, x ≠ 34 ∧ x ≠ 44 ∧ x < 128 := by rw [S0_is]; decide
theorem S1_no : ∀ x ∈ S1, x ≠ 39 ∧ x ≠ 44 ∧ x < 128 := by rw [S1_is]; decide
theorem S2_no : ∀ x ∈ S2, x ≠ 44 ∧ x < 128 := by rw [S2_is]; decide
theorem S2_wq : ∀ x ∈ S2, wq P0 x := by
  rw [S2_is]
  intro x hx
  simp only [List.mem_cons, List.not_mem_nil, or_false] at hx
  rcases hx with rfl | rfl | rfl | rfl | rfl | rfl | rfl | rfl <;> exact ⟨by decide +kernel, by decide +kernel, by decide +kernel⟩
theorem strip_dq (c : List Nat) : strip (34 :: (c ++ [34])) = c := by
  unfold strip stripA stripB; simp
theorem strip_sq (c : List Nat) : strip (39 :: (c ++ [39])) = 39 :: (c ++ [39]) := by
  unfold strip stripA
  rw [if_neg (by simp)]
  unfold stripB
  rw [if_neg (by rw [← List.cons_append, List.getLast?_concat]; simp)]
noncomputable def cut34 (l : List Nat) : List Nat := if l.getLast? = some 34 then l.dropLast else l
theorem strip_bare (c : List Nat) : strip (97 :: c) = cut34 (97 :: c) := by
  unfold strip stripA; rw [if_neg (by simp)]; rfl
theorem cut34_sub (l : List Nat) : ∀ x ∈ cut34 l, x ∈ l := by
  unfold cut34; split
  · exact fun x hx => List.dropLast_subset _ hx
  · exact fun x hx => hx
theorem cut34_a (c : List Nat) : ∃ d, cut34 (97 :: c) = 97 :: d ∧ (∀ x ∈ d, x ∈ c) ∧ d.length ≤ c.length := by
  unfold cut34; split
  · rename_i h
    cases c with
    | nil => simp at h
    | cons a r => exact ⟨(a :: r).dropLast, rfl, fun x hx => List.dropLast_subset _ hx, by simp⟩
  · exact ⟨c, rfl, fun _ h => h, Nat.le_refl _⟩
theorem val_bare {c : List Nat} (hc : ∀ x ∈ c, x ∈ S2) (hl : c.length ≤ 3) : ValOk (strip (97 :: c)) := by
  rw [strip_bare]
  obtain ⟨d, e, hd, hdl⟩ := cut34_a c
  rw [e]
  exact ⟨.bare fun x hx => S2_wq x (hc x (hd x hx)), fun x hx => by
    rcases List.mem_cons.mp hx with rfl | hx
    · decide
    · exact S2_no x (hc x (hd x hx)), by simp; omega, by simp⟩
section
variable {K s1 s2 s3 c z1 z2 z3 z4 z5 z6 z7 z8 : Str} {k : Int} (h7 : SumS z3 z2 s2) (h6 : SumS z2 z1 (Str.ofString "=")) (h5 : SumS z1 K s1) (hK : KeyS K k) (a1 : SeamS s1) (a2 : SeamS s2) (a3 : SeamS s3)
include h5 h6 h7 hK a1 a2
theorem front : ∃ l1 l2, z3 = mkS (keyAt k ++ (l1 ++ 61 :: l2)) ∧ IsSeam l1 ∧ IsSeam l2 := by
  obtain ⟨rfl⟩ := h7; obtain ⟨rfl⟩ := h6; obtain ⟨rfl⟩ := h5; obtain ⟨rfl⟩ := hK
  obtain ⟨l1, rfl, i1⟩ := a1; obtain ⟨l2, rfl, i2⟩ := a2
  refine ⟨l1, l2, ?_, i1, i2⟩
  rw [show Str.ofString "=" = mkS [61] from by decide +kernel, mkS_append, mkS_append, mkS_append]
  simp
include a3
/-- the text and the value of the four forms -/
theorem form0 (hc : okC S0 c) (hl : c.length ≤ 3) (h1 : SumS z7 z6 s3) (h2 : SumS z6 z5 (Str.ofString "\"")) (h3 : SumS z5 z4 c) (h4 : SumS z4 z3 (Str.ofString "\"")) :
    ∃ g : Setg, g.Good ∧ z7 = mkS g.text ∧ K = mkS g.key ∧ c = mkS (strip g.tok) := by
  obtain ⟨l1, l2, rfl, i1, i2⟩ := front h7 h6 h5 hK a1 a2
  obtain ⟨l3, rfl, i3⟩ := a3
  obtain ⟨rfl⟩ := h1; obtain ⟨rfl⟩ := h2; obtain ⟨rfl⟩ := h3; obtain ⟨rfl⟩ := h4
  obtain ⟨rfl⟩ := hK
  rw [mkS_of c] at hl ⊢
  have hc := hc.all
  rw [mkS_length] at hl
  generalize c.cps.toList = l at *
  have hh : l.head? ≠ some 34 := fun e => (S0_no 34 (hc 34 (List.mem_of_mem_head? e))).1 rfl
  refine ⟨⟨keyAt k, l1, l2, 34 :: (l ++ [34]), l3, 34 :: (l ++ [34])⟩, ⟨⟨keyAt_is k, i1, i2, i3, .dq fun x hx => (S0_no x (hc x hx)).1⟩, ?_⟩, ?_, rfl, by dsimp only; rw [strip_dq l]⟩
  · dsimp only; rw [strip_dq l]
    exact ⟨.plain fun x hx => (S0_no x (hc x hx)).1, fun x hx => (S0_no x (hc x hx)).2, by omega, hh⟩
  · rw [show Str.ofString "\"" = mkS [34] from by decide +kernel, mkS_append, mkS_append, mkS_append, mkS_append]
    simp [Setg.text]
theorem form1 {y1 y : Str} (hc : okC S1 c) (hl : c.length ≤ 3) (h1 : SumS z5 z4 s3) (h2 : SumS z4 z3 y) (h3 : SumS y y1 (Str.ofString "'")) (h4 : SumS y1 (Str.ofString "'") c) :
    ∃ g : Setg, g.Good ∧ z5 = mkS g.text ∧ K = mkS g.key ∧ y = mkS (strip g.tok) := by
  obtain ⟨l1, l2, rfl, i1, i2⟩ := front h7 h6 h5 hK a1 a2
  obtain ⟨l3, rfl, i3⟩ := a3
  obtain ⟨rfl⟩ := h1; obtain ⟨rfl⟩ := h2; obtain ⟨rfl⟩ := h3; obtain ⟨rfl⟩ := h4
  obtain ⟨rfl⟩ := hK
  rw [mkS_of c] at hl ⊢
  have hc := hc.all
  rw [mkS_length] at hl
  generalize c.cps.toList = l at *
  refine ⟨⟨keyAt k, l1, l2, 39 :: (l ++ [39]), l3, 39 :: (l ++ [39])⟩, ⟨⟨keyAt_is k, i1, i2, i3, .sq fun x hx => (S1_no x (hc x hx)).1⟩, ?_⟩, ?_, rfl, ?_⟩
  · dsimp only; rw [strip_sq l]
    refine ⟨.sq fun x hx => (S1_no x (hc x hx)).1, fun x hx => ?_, by simp; omega, by simp⟩
    simp only [List.mem_cons, List.mem_append, List.not_mem_nil, or_false] at hx
    rcases hx with rfl | hx | rfl
    · decide
    · exact (S1_no x (hc x hx)).2
    · decide
  · rw [show Str.ofString "'" = mkS [39] from by decide +kernel, mkS_append, mkS_append, mkS_append, mkS_append]
    simp [Setg.text]
  · dsimp only; rw [strip_sq l, show Str.ofString "'" = mkS [39] from by decide +kernel, mkS_append, mkS_append]; simp
/-- a bare value; r: the remark, or nothing -/
theorem form23 {r : Str} (hr : r = Str.ofString "" ∨ r = Str.ofString "#it's=\"\n") (hc : okC S2 c) (hl : c.length ≤ 3) (h1 : SumS z8 z7 s3) (h2 : SumS z7 z6 (Str.ofString " ")) (h3 : SumS z6 z5 c) (h4 : SumS z5 z4 r) (h8 : SumS z4 z3 (Str.ofString "a")) :
    ∃ g : Setg, g.Good ∧ z8 = mkS g.text ∧ K = mkS g.key ∧ mkS (cut34 (97 :: c.cps.toList)) = mkS (strip g.tok) := by
  obtain ⟨l1, l2, rfl, i1, i2⟩ := front h7 h6 h5 hK a1 a2
  obtain ⟨l3, rfl, i3⟩ := a3
  obtain ⟨rfl⟩ := h1; obtain ⟨rfl⟩ := h2; obtain ⟨rfl⟩ := h3; obtain ⟨rfl⟩ := h4; obtain ⟨rfl⟩ := h8
  obtain ⟨rfl⟩ := hK
  rw [mkS_of c] at hl ⊢
  have hc := hc.all
  rw [mkS_length] at hl
  rw [mkS_cps]
  generalize c.cps.toList = l at *
  rcases hr with rfl | rfl
  · refine ⟨⟨keyAt k, l1, l2, 97 :: (l ++ [32]), l3, 97 :: l⟩, ⟨⟨keyAt_is k, i1, i2, i3, .bare fun x hx => S2_wq x (hc x hx)⟩, val_bare hc hl⟩, ?_, rfl, by dsimp only; rw [strip_bare]⟩
    rw [← mkS_nil, show Str.ofString "a" = mkS [97] from by decide +kernel, show Str.ofString " " = mkS [32] from by decide +kernel, mkS_append, mkS_append, mkS_append, mkS_append, mkS_append]
    simp [Setg.text]
  · refine ⟨⟨keyAt k, l1, l2, 97 :: (rem7 ++ (l ++ [32])), l3, 97 :: l⟩, ⟨⟨keyAt_is k, i1, i2, i3, .remk fun x hx => S2_wq x (hc x hx)⟩, val_bare hc hl⟩, ?_, rfl, by dsimp only; rw [strip_bare]⟩
    rw [show Str.ofString "#it's=\"\n" = mkS rem7 from by decide +kernel, show Str.ofString "a" = mkS [97] from by decide +kernel, show Str.ofString " " = mkS [32] from by decide +kernel, mkS_append, mkS_append, mkS_append, mkS_append, mkS_append]
    simp [Setg.text]
end
theorem bare_t {y c : Str} (hy : SumS y (Str.ofString "a") c) (h : (Txt.item y (-1) == Str.ofString "\"") = true) : Txt.slice y none (some (-1)) = mkS (cut34 (97 :: c.cps.toList)) := by
  obtain ⟨rfl⟩ := hy
  rw [mkS_of c] at h ⊢
  rw [mkS_cps]
  generalize c.cps.toList = l at *
  rw [show Str.ofString "a" = mkS [97] from by decide +kernel, mkS_append] at h ⊢
  rw [show [97] ++ l = 97 :: l from rfl] at h ⊢
  rw [item_last _ (by simp), one_quo, decide_eq_true_eq] at h
  rw [slice_init (by simp), cut34, if_pos (by rw [List.getLast?_eq_some_getLast (by simp), h])]
theorem bare_f {y c : Str} (hy : SumS y (Str.ofString "a") c) (h : (Txt.item y (-1) == Str.ofString "\"") = false) : y = mkS (cut34 (97 :: c.cps.toList)) := by
  obtain ⟨rfl⟩ := hy
  rw [mkS_of c] at h ⊢
  rw [mkS_cps]
  generalize c.cps.toList = l at *
  rw [show Str.ofString "a" = mkS [97] from by decide +kernel, mkS_append] at h ⊢
  rw [show [97] ++ l = 97 :: l from rfl] at h ⊢
  rw [item_last _ (by simp), one_quo, decide_eq_false_iff_not] at h
  rw [cut34, if_neg (by rw [List.getLast?_eq_some_getLast (by simp)]; simpa using h)]
theorem get_vt {z K y c : Str} (hy : SumS y (Str.ofString "a") c) (h : (Txt.item y (-1) == Str.ofString "\"") = true) (x : ∃ g : Setg, g.Good ∧ z = mkS g.text ∧ K = mkS g.key ∧ mkS (cut34 (97 :: c.cps.toList)) = mkS (strip g.tok)) : ∃ g : Setg, g.Good ∧ z = mkS g.text ∧ K = mkS g.key ∧ Txt.slice y none (some (-1)) = mkS (strip g.tok) := by
  rw [bare_t hy h]; exact x
theorem get_vf {z K y c : Str} (hy : SumS y (Str.ofString "a") c) (h : (Txt.item y (-1) == Str.ofString "\"") = false) (x : ∃ g : Setg, g.Good ∧ z = mkS g.text ∧ K = mkS g.key ∧ mkS (cut34 (97 :: c.cps.toList)) = mkS (strip g.tok)) : ∃ g : Setg, g.Good ∧ z = mkS g.text ∧ K = mkS g.key ∧ y = mkS (strip g.tok) := by
  rw [bare_f hy h]; exact x
theorem news_pick {h₀ h : Heap} {L : Addr} {all news : List (Addr × Obj)} {a b : Addr × Obj} (N : News h₀ L h all) (ha : a ∈ all) (hb : b ∈ all) (hn : ∀ q ∈ news, q ∈ all) : News h₀ L h (a :: b :: news) := fun q hq => by
  rcases List.mem_cons.mp hq with rfl | hq
  · exact N _ ha
  rcases List.mem_cons.mp hq with rfl | hq
  · exact N _ hb
  · exact N q (hn q hq)
/-- one of the seams, one of the keys -/
theorem seam_all {t0 t1 t2 t3 : Tok} : ∀ v ∈ [Value.str (Str.ofString "") t0, Value.str (Str.ofString " ") t1, Value.str (Str.ofString "\n ") t2, Value.str (Str.ofString "#it's=\"\n") t3], ∃ l t, v = .str (mkS l) t ∧ IsSeam l := by
  intro v hv
  simp only [List.mem_cons, List.not_mem_nil, or_false] at hv
  rcases hv with rfl | rfl | rfl | rfl
  · exact ⟨[], t0, by rw [mkS_nil], .none⟩
  · exact ⟨[32], t1, by rw [show mkS [32] = Str.ofString " " from by decide +kernel], .blank⟩
  · exact ⟨[10, 32], t2, by rw [show mkS [10, 32] = Str.ofString "\n " from by decide +kernel], .line⟩
  · exact ⟨rem7, t3, by rw [show mkS rem7 = Str.ofString "#it's=\"\n" from by decide +kernel], .remark⟩
theorem key_len (i : Int) : (mkS (keyAt i)).length ≤ 2 := by
  rw [mkS_length]; unfold keyAt
  split
  · decide
  · split <;> decide
theorem seam_len {l : List Nat} (h : IsSeam l) : (mkS l).length ≤ 8 := by
  rw [mkS_length]
  cases h <;> decide
theorem rk_len (y : Int) : (rangeKs 0 (y.fmod 4 - 0).toNat).length ≤ 3 := by
  rw [rangeKs_length]
  have := Int.fmod_lt_of_pos y (show (0 : Int) < 4 by decide)
  omega
section
variable {prog : Program} {w : World} {A : Around} {E : Value → Shared → Prop} {s : Shared} {h₀ : Heap} {L a : Addr} {news : List (Addr × Obj)} {value slice : PySem.Expr} {k : Int} {u : Tok} {Q : Value → Shared → Prop} {n : Nat}
theorem item_seam {t0 t1 t2 t3 : Tok} (N : News h₀ L s.heap news) (hm : (a, W.listOf [Value.str (Str.ofString "") t0, Value.str (Str.ofString " ") t1, Value.str (Str.ofString "\n ") t2, Value.str (Str.ofString "#it's=\"\n") t3].toArray n) ∈ news) (h0 : 0 ≤ k) (hk : k < 4)
    (h : ∀ z t, SeamS z → z.length ≤ 8 → Q (.str z t) s) (hs : subscripted slice false (.ref a) (.int k u) = operate [.ref a, .int k u] (getItem (.ref a) (.int k u)) := by with_unfolding_all rfl) :
    wpAny (model prog w) A (subscriptTail value slice (.ref a) (.int k u)) Q E s := by
  have hlt : k.toNat < [Value.str (Str.ofString "") t0, Value.str (Str.ofString " ") t1, Value.str (Str.ofString "\n ") t2, Value.str (Str.ofString "#it's=\"\n") t3].length := by show k.toNat < 4; omega
  obtain ⟨l, t, e, hz⟩ := seam_all _ (List.getElem_mem hlt)
  exact item_litK (v := .str (mkS l) t) (led_list N hm) h0 (by omega) (by rw [List.getElem?_eq_getElem hlt, e]) (h _ t ⟨l, rfl, hz⟩ (seam_len hz)) hs
theorem item_key {K : Str} (hK : KeyS K k) {t0 t1 t2 : Tok} (N : News h₀ L s.heap news) (hm : (a, W.listOf [Value.str (Str.ofString "k") t0, Value.str (Str.ofString "K7") t1, Value.str (Str.ofString "_x") t2].toArray n) ∈ news) (h0 : 0 ≤ k) (hk : k < 3)
    (h : ∀ t, Q (.str K t) s) (hs : subscripted slice false (.ref a) (.int k u) = operate [.ref a, .int k u] (getItem (.ref a) (.int k u)) := by with_unfolding_all rfl) :
    wpAny (model prog w) A (subscriptTail value slice (.ref a) (.int k u)) Q E s := by
  obtain ⟨rfl⟩ := hK
  have h3 : k = 0 ∨ k = 1 ∨ k = 2 := by omega
  rcases h3 with rfl | rfl | rfl
  · exact item_litK (led_list N hm) h0 (by omega) (show _ = some (Value.str (mkS (keyAt 0)) t0) from by rw [show mkS (keyAt 0) = Str.ofString "k" from by decide +kernel]; rfl) (h t0) hs
  · exact item_litK (led_list N hm) h0 (by omega) (show _ = some (Value.str (mkS (keyAt 1)) t1) from by rw [show mkS (keyAt 1) = Str.ofString "K7" from by decide +kernel]; rfl) (h t1) hs
  · exact item_litK (led_list N hm) h0 (by omega) (show _ = some (Value.str (mkS (keyAt 2)) t2) from by rw [show mkS (keyAt 2) = Str.ofString "_x" from by decide +kernel]; rfl) (h t2) hs
end
theorem item_in {x : Str} {i : Int} (h0 : 0 ≤ i) (hi : i < x.length) : ∃ c ∈ x.cps.toList, Txt.item x i = mkS [c] := by
  have hx : x = mkS x.cps.toList := by simp [mkS]
  have hl : i.toNat < x.cps.toList.length := by rw [Array.length_toList]; simp only [Str.length] at hi; omega
  refine ⟨x.cps.toList.getD i.toNat 0, ?_, ?_⟩
  · rw [List.getD, List.getElem?_eq_getElem hl]; exact List.getElem_mem hl
  · have := item_nat x.cps.toList i.toNat hl
    rw [← hx, show ((i.toNat : Nat) : Int) = i from by omega] at this
    exact this
theorem add_sum {prog : Program} {w : World} {A : Around} {E : Value → Shared → Prop} {s : Shared} {a b : Str} {t u : Tok} {Q : Value → Shared → Prop} (hsz : a.length + b.length ≤ 4096) (h : ∀ z t' tk, SumS z a b → z.length = a.length + b.length → Q (.str z t') { s with toks := tk }) :
    wpAny (model prog w) A (binaryOp .Add (.str a t) (.str b u)) Q E s :=
  PyProof.Rows.add_str (fun t' tk => h _ t' tk ⟨rfl⟩ (Str.length_append a b)) (by rw [sizeLine_eq]; omega)
theorem set_start (S : List Nat) : (Str.ofString "").length ≤ ([] : List Int).length ∧ okC S (Str.ofString "") := ⟨Nat.le_refl _, ⟨fun _ h => (nomatch h)⟩⟩
theorem set_step {x : Str} {a : Str} {S : List Nat} (hS : S = x.cps.toList) {pre : List Int} {k j : Int} (hx : x.length = 8) (h1 : a.length ≤ pre.length) (h2 : okC S a) {z : Str} (hz : SumS z a (Txt.item x (j.fmod 8))) : z.length ≤ (pre ++ [k]).length ∧ okC S z := by
  subst hS
  obtain ⟨rfl⟩ := hz
  obtain ⟨c, hc, e⟩ := item_in (x := x) (i := j.fmod 8) (Int.fmod_nonneg_of_pos j (by decide)) (by have := Int.fmod_lt_of_pos j (show (0 : Int) < 8 by decide); omega)
  rw [e]
  refine ⟨by rw [Str.length_append, mkS_length]; simp; omega, ⟨fun d hd => ?_⟩⟩
  have e2 : (a ++ mkS [c]).cps.toList = a.cps.toList ++ [c] := by
    show (a.cps ++ #[c]).toList = _
    simp
  rw [e2] at hd
  rcases List.mem_append.mp hd with hd | hd
  · exact h2.all d hd
  · rw [List.mem_singleton.mp hd]; exact hc
theorem pow_ne (n : Nat) : (3072 : Int) * 8 ^ n ≠ 0 := Int.ne_of_gt (Int.mul_pos (by decide) (Int.pow_pos (by decide)))
local macro_rules | `(tactic| walk_at "binaryOp FloorDiv int int") => `(tactic| (k_here; (with_reducible show wpAny _ _ (binaryOp Operator.FloorDiv (Value.int _ _) (Value.int (3072 * 8 ^ _) _)) _ _ _); k_dflt (refine floordiv_int (pow_ne _) ?_)))
local macro_rules | `(tactic| walk_at "subscriptTail") => `(tactic| (k_here; (with_reducible show wpAny _ _ (subscriptTail (Expr.Name (PySem.Str.ofString "seams") _) _ (Value.ref _) (Value.int _ _)) _ _ _); k_dflt (refine' item_seam ?N ?m ?h0 ?hk ?_ ?hs; (case N => k_asm); (case m => k_mem); (case h0 => exact Int.fmod_nonneg_of_pos _ (by decide)); (case hk => exact Int.fmod_lt_of_pos _ (by decide)); (case hs => with_unfolding_all rfl); intro z' t' hz' hzl')))
local macro_rules | `(tactic| walk_at "subscriptTail") => `(tactic| (k_here; (with_reducible show wpAny _ _ (subscriptTail (Expr.List _ _) (Expr.BinOp (Expr.Name (PySem.Str.ofString "x") _) _ _ _) (Value.ref _) (Value.int _ _)) _ _ _); k_dflt (refine' item_key ?K ?N ?m ?h0 ?hk ?_ ?hs; (case K => with_reducible assumption); (case N => k_asm); (case m => k_mem); (case h0 => exact Int.fmod_nonneg_of_pos _ (by decide)); (case hk => exact Int.fmod_lt_of_pos _ (by decide)); (case hs => with_unfolding_all rfl); intro t')))
local macro_rules | `(tactic| walk_at "binaryOp Add str str") => `(tactic| (k_here; (with_reducible show wpAny _ _ (binaryOp Operator.Add (Value.str _ _) (Value.str _ _)) _ _ _); k_dflt (refine add_sum ?hsz ?_; (case hsz => omega); intro z' t' tk' hz' hl'; (try dsimp only))))
local macro_rules | `(tactic| walk_at "execs cons") => `(tactic| (k_here; (try dsimp only); k_gentoks))
local macro_rules | `(tactic| walk_at "execs nil") => `(tactic| (k_here; (try dsimp only); k_gentoks))
local macro_rules | `(tactic| walk_at "exec If") => `(tactic| (k_here; refine wpAny_If ?_))
theorem len_eq : (Str.ofString "=").length = 1 := by decide +kernel
theorem len_dq : (Str.ofString "\"").length = 1 := by decide +kernel
theorem len_sq : (Str.ofString "'").length = 1 := by decide +kernel
theorem len_a : (Str.ofString "a").length = 1 := by decide +kernel
theorem len_sp : (Str.ofString " ").length = 1 := by decide +kernel
theorem len_nil : (Str.ofString "").length = 0 := by decide +kernel
theorem len_rem : (Str.ofString "#it's=\"\n").length = 8 := by decide +kernel
theorem st0 {a : Str} {pre : List Int} {k j : Int} (h1 : a.length ≤ pre.length) (h2 : okC S0 a) {z : Str} (hz : SumS z a (Txt.item (Str.ofString "a '#=\n\\;") (j.fmod 8))) : z.length ≤ (pre ++ [k]).length ∧ okC S0 z := set_step rfl (by decide +kernel) h1 h2 hz
theorem st1 {a : Str} {pre : List Int} {k j : Int} (h1 : a.length ≤ pre.length) (h2 : okC S1 a) {z : Str} (hz : SumS z a (Txt.item (Str.ofString "a \"#=\n\\;") (j.fmod 8))) : z.length ≤ (pre ++ [k]).length ∧ okC S1 z := set_step rfl (by decide +kernel) h1 h2 hz
theorem st2 {a : Str} {pre : List Int} {k j : Int} (h1 : a.length ≤ pre.length) (h2 : okC S2 a) {z : Str} (hz : SumS z a (Txt.item (Str.ofString "a7\"'_\"'B") (j.fmod 8))) : z.length ≤ (pre ++ [k]).length ∧ okC S2 z := set_step rfl (by decide +kernel) h1 h2 hz
section
variable {w : World} {A : Around} {s : Shared} {base h₀ : Heap} {outer : List Env} {L : Addr} {m : Str → Option Value} {env : Env} {mg mb : Str → Option Value} {mean : ExcName → Option Value} {R : Result → Shared → Prop} {loose : List Str}
  {news : List (Addr × Obj)}
noncomputable def setD (g : Setg) : Dat := .list [.str (mkS g.text), .list [.str (mkS g.key), .str (Str.ofString "="), .str (mkS (strip g.tok))]]
theorem setting_spec {x : Int} {tx : Tok} (C : Amb w (callerA.deeper env) base h₀ [] env L mg mb mean loose 4) (F : Fr h₀ L s.heap m) (N : News h₀ L s.heap news)
  (h : ∀ h' tk r ex g, g.Good → DatIn ex (.ref r) (setD g) → (∀ p ∈ ex, ∀ q ∈ news, @Ne Nat p.1 q.1) → Fr h₀ L h' m → News h₀ L h' (ex ++ news) → R (.ok (.ret (.ref r))) { s with heap := h', toks := tk }) :
  codeAny (model PySem.Challenge.rw_nq0177_02.row.prog w) (callerA.deeper env) (.call (.ref 740) ⟨[.int x tx], []⟩) R s := by
  obtain ⟨⟨A₀, B⟩, X₀, T, hA, hf, hk, hroom, hh⟩ := C
  simp only [depth_deeper, depth_caller] at hroom
  have y1 : ∀ h' tk r all, News h₀ L h' all → (∃ (z K v : Str) (p : Addr) (n1 n2 : Nat) (t1 t2 t3 t4 : Tok), (r, W.listOf #[.str z t1, .ref p] n1) ∈ all ∧ (p, W.listOf #[.str K t2, .str (Str.ofString "=") t3, .str v t4] n2) ∈ all ∧ AllLt r news ∧ AllLt p news ∧ ∃ g : Setg, g.Good ∧ z = mkS g.text ∧ K = mkS g.key ∧ v = mkS (strip g.tok)) →
      (∀ q ∈ news, q ∈ all) → Fr h₀ L h' m → R (.ok (.ret (.ref r))) { s with heap := h', toks := tk } := by
    rintro h' tk r all N ⟨z, K, v, p, n1, n2, t1, t2, t3, t4, m1, m2, q1, q2, g, hg, rfl, rfl, rfl⟩ hn F
    exact h h' tk r [_, _] g hg (.list (vs := [_, _]) (n := n1) (.head _) (.cons (.str _ _) (.one (.list (vs := [_, _, _]) (n := n2) (.tail _ (.head _)) (.cons (.str _ _) (.cons (.str _ _) (.one (.str _ _)))))))) (fun x hx q hq => by
      rcases List.mem_cons.mp hx with rfl | hx
      · exact Nat.ne_of_gt (allLt_elim q1 q hq)
      · rw [List.mem_singleton.mp hx]; exact Nat.ne_of_gt (allLt_elim q2 q hq)) F (news_pick N m1 m2 hn)
  clear h
  walk_at "my enter0"
  intro g L' h₁ FG F₁ N₁ B' X' T'
  try dsimp only
  generalize s.toks + _ = tk0
  k_fold
  have hf4 : (x.fdiv 3).fmod 4 = 0 ∨ (x.fdiv 3).fmod 4 = 1 ∨ (x.fdiv 3).fmod 4 = 2 ∨ (x.fdiv 3).fmod 4 = 3 := by
    have h1 := Int.fmod_nonneg_of_pos (x.fdiv 3) (show (0 : Int) < 4 by decide)
    have h2 := Int.fmod_lt_of_pos (x.fdiv 3) (show (0 : Int) < 4 by decide)
    omega
  repeat ((fail_if_success (with_reducible show wpAny _ _ (storeName _ _ _) _ _ _)); (first | walk1 | (dsimp only; walk1)))
  obtain ⟨K, hK, hKl⟩ : ∃ K, KeyS K (x.fmod 3) ∧ K.length ≤ 2 := ⟨_, ⟨rfl⟩, key_len _⟩
  have hl1 := len_eq
  have hl2 := len_dq
  have hl3 := len_sq
  have hl4 := len_a
  have hl5 := len_sp
  have hl6 := len_nil
  have hl7 := len_rem
  have hrk := rk_len (x.fdiv 768)
  rcases hf4 with hf4 | hf4 | hf4 | hf4 <;> rw [hf4]
  · k_with "pyIter ref" => k_state (fun pre content => content.length ≤ pre.length ∧ okC S0 content) "content"
    k_with "state" => first | exact st0 (by with_reducible assumption) (by with_reducible assumption) (by with_reducible assumption) | exact set_start _
    k_steps
    all_goals
      (with_reducible rename News h₀ L _ _ => kN9)
      refine y1 _ _ _ _ kN9 ⟨_, K, _, _, _, _, _, _, _, _, .head _, .tail _ (.head _), ?lt1, ?lt2, ?form⟩ ?hn ?fF
      case hn => intro q hq; repeat (first | exact hq | exact List.mem_append_left _ hq | refine List.mem_cons_of_mem _ ?_)
      case fF => with_reducible assumption
      case lt1 => first | exact (by with_reducible assumption : _ ∧ AllLt _ news).2 | exact (by with_reducible assumption : _ ∧ _ ∧ AllLt _ news).2.2 | exact (by with_reducible assumption : _ ∧ _ ∧ _ ∧ AllLt _ news).2.2.2 | exact (by with_reducible assumption : _ ∧ _ ∧ _ ∧ _ ∧ AllLt _ news).2.2.2.2 | exact (by with_reducible assumption : _ ∧ _ ∧ _ ∧ _ ∧ _ ∧ AllLt _ news).2.2.2.2.2 | exact (by with_reducible assumption : _ ∧ _ ∧ _ ∧ _ ∧ _ ∧ _ ∧ AllLt _ news).2.2.2.2.2.2 | exact (by with_reducible assumption : _ ∧ _ ∧ _ ∧ _ ∧ _ ∧ _ ∧ _ ∧ AllLt _ news).2.2.2.2.2.2.2
      case lt2 => first | exact (by with_reducible assumption : _ ∧ AllLt _ news).2 | exact (by with_reducible assumption : _ ∧ _ ∧ AllLt _ news).2.2 | exact (by with_reducible assumption : _ ∧ _ ∧ _ ∧ AllLt _ news).2.2.2 | exact (by with_reducible assumption : _ ∧ _ ∧ _ ∧ _ ∧ AllLt _ news).2.2.2.2 | exact (by with_reducible assumption : _ ∧ _ ∧ _ ∧ _ ∧ _ ∧ AllLt _ news).2.2.2.2.2 | exact (by with_reducible assumption : _ ∧ _ ∧ _ ∧ _ ∧ _ ∧ _ ∧ AllLt _ news).2.2.2.2.2.2 | exact (by with_reducible assumption : _ ∧ _ ∧ _ ∧ _ ∧ _ ∧ _ ∧ _ ∧ AllLt _ news).2.2.2.2.2.2.2
      case form =>
        refine' form0 ?h7 ?h6 ?h5 hK ?a1 ?a2 ?a3 ?hc ?hl ?h1 ?h2 ?h3 ?h4
        case h1 => with_reducible assumption
        case h2 => with_reducible assumption
        case h3 => with_reducible assumption
        case h4 => with_reducible assumption
        case h7 => with_reducible assumption
        case h6 => with_reducible assumption
        case h5 => with_reducible assumption
        case a1 => with_reducible assumption
        case a2 => with_reducible assumption
        case a3 => with_reducible assumption
        case hc => with_reducible assumption
        case hl => omega
  · k_with "pyIter ref" => k_state (fun pre content => content.length ≤ pre.length ∧ okC S1 content) "content"
    k_with "state" => first | exact st1 (by with_reducible assumption) (by with_reducible assumption) (by with_reducible assumption) | exact set_start _
    k_steps
    all_goals
      (with_reducible rename News h₀ L _ _ => kN9)
      refine y1 _ _ _ _ kN9 ⟨_, K, _, _, _, _, _, _, _, _, .head _, .tail _ (.head _), ?lt1, ?lt2, ?form⟩ ?hn ?fF
      case hn => intro q hq; repeat (first | exact hq | exact List.mem_append_left _ hq | refine List.mem_cons_of_mem _ ?_)
      case fF => with_reducible assumption
      case lt1 => first | exact (by with_reducible assumption : _ ∧ AllLt _ news).2 | exact (by with_reducible assumption : _ ∧ _ ∧ AllLt _ news).2.2 | exact (by with_reducible assumption : _ ∧ _ ∧ _ ∧ AllLt _ news).2.2.2 | exact (by with_reducible assumption : _ ∧ _ ∧ _ ∧ _ ∧ AllLt _ news).2.2.2.2 | exact (by with_reducible assumption : _ ∧ _ ∧ _ ∧ _ ∧ _ ∧ AllLt _ news).2.2.2.2.2 | exact (by with_reducible assumption : _ ∧ _ ∧ _ ∧ _ ∧ _ ∧ _ ∧ AllLt _ news).2.2.2.2.2.2 | exact (by with_reducible assumption : _ ∧ _ ∧ _ ∧ _ ∧ _ ∧ _ ∧ _ ∧ AllLt _ news).2.2.2.2.2.2.2
      case lt2 => first | exact (by with_reducible assumption : _ ∧ AllLt _ news).2 | exact (by with_reducible assumption : _ ∧ _ ∧ AllLt _ news).2.2 | exact (by with_reducible assumption : _ ∧ _ ∧ _ ∧ AllLt _ news).2.2.2 | exact (by with_reducible assumption : _ ∧ _ ∧ _ ∧ _ ∧ AllLt _ news).2.2.2.2 | exact (by with_reducible assumption : _ ∧ _ ∧ _ ∧ _ ∧ _ ∧ AllLt _ news).2.2.2.2.2 | exact (by with_reducible assumption : _ ∧ _ ∧ _ ∧ _ ∧ _ ∧ _ ∧ AllLt _ news).2.2.2.2.2.2 | exact (by with_reducible assumption : _ ∧ _ ∧ _ ∧ _ ∧ _ ∧ _ ∧ _ ∧ AllLt _ news).2.2.2.2.2.2.2
      case form =>
        refine' form1 ?h7 ?h6 ?h5 hK ?a1 ?a2 ?a3 ?hc ?hl ?h1 ?h2 ?h3 ?h4
        case h1 => with_reducible assumption
        case h2 => with_reducible assumption
        case h3 => with_reducible assumption
        case h4 => with_reducible assumption
        case h7 => with_reducible assumption
        case h6 => with_reducible assumption
        case h5 => with_reducible assumption
        case a1 => with_reducible assumption
        case a2 => with_reducible assumption
        case a3 => with_reducible assumption
        case hc => with_reducible assumption
        case hl => omega
  · k_with "pyIter ref" => k_state (fun pre content => content.length ≤ pre.length ∧ okC S2 content) "content"
    k_with "state" => first | exact st2 (by with_reducible assumption) (by with_reducible assumption) (by with_reducible assumption) | exact set_start _
    k_steps
    all_goals
      (with_reducible rename News h₀ L _ _ => kN9)
      refine y1 _ _ _ _ kN9 ⟨_, K, _, _, _, _, _, _, _, _, .head _, .tail _ (.head _), ?lt1, ?lt2, ?form⟩ ?hn ?fF
      case hn => intro q hq; repeat (first | exact hq | exact List.mem_append_left _ hq | refine List.mem_cons_of_mem _ ?_)
      case fF => with_reducible assumption
      case lt1 => first | exact (by with_reducible assumption : _ ∧ AllLt _ news).2 | exact (by with_reducible assumption : _ ∧ _ ∧ AllLt _ news).2.2 | exact (by with_reducible assumption : _ ∧ _ ∧ _ ∧ AllLt _ news).2.2.2 | exact (by with_reducible assumption : _ ∧ _ ∧ _ ∧ _ ∧ AllLt _ news).2.2.2.2 | exact (by with_reducible assumption : _ ∧ _ ∧ _ ∧ _ ∧ _ ∧ AllLt _ news).2.2.2.2.2 | exact (by with_reducible assumption : _ ∧ _ ∧ _ ∧ _ ∧ _ ∧ _ ∧ AllLt _ news).2.2.2.2.2.2 | exact (by with_reducible assumption : _ ∧ _ ∧ _ ∧ _ ∧ _ ∧ _ ∧ _ ∧ AllLt _ news).2.2.2.2.2.2.2
      case lt2 => first | exact (by with_reducible assumption : _ ∧ AllLt _ news).2 | exact (by with_reducible assumption : _ ∧ _ ∧ AllLt _ news).2.2 | exact (by with_reducible assumption : _ ∧ _ ∧ _ ∧ AllLt _ news).2.2.2 | exact (by with_reducible assumption : _ ∧ _ ∧ _ ∧ _ ∧ AllLt _ news).2.2.2.2 | exact (by with_reducible assumption : _ ∧ _ ∧ _ ∧ _ ∧ _ ∧ AllLt _ news).2.2.2.2.2 | exact (by with_reducible assumption : _ ∧ _ ∧ _ ∧ _ ∧ _ ∧ _ ∧ AllLt _ news).2.2.2.2.2.2 | exact (by with_reducible assumption : _ ∧ _ ∧ _ ∧ _ ∧ _ ∧ _ ∧ _ ∧ AllLt _ news).2.2.2.2.2.2.2
      case form =>
        first
          | refine' get_vt ?hy (by with_reducible assumption) ?fx
          | refine' get_vf ?hy (by with_reducible assumption) ?fx
        case hy => with_reducible assumption
        case fx =>
          refine' form23 ?h7 ?h6 ?h5 hK ?a1 ?a2 ?a3 ?hr ?hc ?hl ?h1 ?h2 ?h3 ?h4 ?h8
          case h1 => with_reducible assumption
          case h2 => with_reducible assumption
          case h3 => with_reducible assumption
          case h4 => with_reducible assumption
          case h8 => with_reducible assumption
          case h7 => with_reducible assumption
          case h6 => with_reducible assumption
          case h5 => with_reducible assumption
          case a1 => with_reducible assumption
          case a2 => with_reducible assumption
          case a3 => with_reducible assumption
          case hc => with_reducible assumption
          case hr => first | exact .inl rfl | exact .inr rfl
          case hl => omega
  · k_with "pyIter ref" => k_state (fun pre content => content.length ≤ pre.length ∧ okC S2 content) "content"
    k_with "state" => first | exact st2 (by with_reducible assumption) (by with_reducible assumption) (by with_reducible assumption) | exact set_start _
    k_steps
    all_goals
      (with_reducible rename News h₀ L _ _ => kN9)
      refine y1 _ _ _ _ kN9 ⟨_, K, _, _, _, _, _, _, _, _, .head _, .tail _ (.head _), ?lt1, ?lt2, ?form⟩ ?hn ?fF
      case hn => intro q hq; repeat (first | exact hq | exact List.mem_append_left _ hq | refine List.mem_cons_of_mem _ ?_)
      case fF => with_reducible assumption
      case lt1 => first | exact (by with_reducible assumption : _ ∧ AllLt _ news).2 | exact (by with_reducible assumption : _ ∧ _ ∧ AllLt _ news).2.2 | exact (by with_reducible assumption : _ ∧ _ ∧ _ ∧ AllLt _ news).2.2.2 | exact (by with_reducible assumption : _ ∧ _ ∧ _ ∧ _ ∧ AllLt _ news).2.2.2.2 | exact (by with_reducible assumption : _ ∧ _ ∧ _ ∧ _ ∧ _ ∧ AllLt _ news).2.2.2.2.2 | exact (by with_reducible assumption : _ ∧ _ ∧ _ ∧ _ ∧ _ ∧ _ ∧ AllLt _ news).2.2.2.2.2.2 | exact (by with_reducible assumption : _ ∧ _ ∧ _ ∧ _ ∧ _ ∧ _ ∧ _ ∧ AllLt _ news).2.2.2.2.2.2.2
      case lt2 => first | exact (by with_reducible assumption : _ ∧ AllLt _ news).2 | exact (by with_reducible assumption : _ ∧ _ ∧ AllLt _ news).2.2 | exact (by with_reducible assumption : _ ∧ _ ∧ _ ∧ AllLt _ news).2.2.2 | exact (by with_reducible assumption : _ ∧ _ ∧ _ ∧ _ ∧ AllLt _ news).2.2.2.2 | exact (by with_reducible assumption : _ ∧ _ ∧ _ ∧ _ ∧ _ ∧ AllLt _ news).2.2.2.2.2 | exact (by with_reducible assumption : _ ∧ _ ∧ _ ∧ _ ∧ _ ∧ _ ∧ AllLt _ news).2.2.2.2.2.2 | exact (by with_reducible assumption : _ ∧ _ ∧ _ ∧ _ ∧ _ ∧ _ ∧ _ ∧ AllLt _ news).2.2.2.2.2.2.2
      case form =>
        first
          | refine' get_vt ?hy (by with_reducible assumption) ?fx
          | refine' get_vf ?hy (by with_reducible assumption) ?fx
        case hy => with_reducible assumption
        case fx =>
          refine' form23 ?h7 ?h6 ?h5 hK ?a1 ?a2 ?a3 ?hr ?hc ?hl ?h1 ?h2 ?h3 ?h4 ?h8
          case h1 => with_reducible assumption
          case h2 => with_reducible assumption
          case h3 => with_reducible assumption
          case h4 => with_reducible assumption
          case h8 => with_reducible assumption
          case h7 => with_reducible assumption
          case h6 => with_reducible assumption
          case h5 => with_reducible assumption
          case a1 => with_reducible assumption
          case a2 => with_reducible assumption
          case a3 => with_reducible assumption
          case hc => with_reducible assumption
          case hr => first | exact .inl rfl | exact .inr rfl
          case hl => omega
end
local macro_rules | `(tactic| walk_at "execs cons") => `(tactic| (k_here; (try dsimp only); k_gentoks))
local macro_rules | `(tactic| walk_at "execs nil") => `(tactic| (k_here; (try dsimp only); k_gentoks))
local macro_rules | `(tactic| walk_at "exec If") => `(tactic| (k_here; refine wpAny_If ?_))
local macro_rules | `(tactic| walk_at "my enterS0") => `(tactic| (refine' code_defS0E ?k1 ?k2 ?k3 ?k4 ?k5 ?kA ?kF ?kK ?k6 ?k7 ?k8 ?k9 ?kB ?_ ?c2 ?c3 ?c4 ?c5; (case kA => walk_at "my frames"); (case k2 => k_asm); (case k1 => k_asm); (case k3 => k_asm); (case k4 => k_asm); (case k5 => k_asm); (case k6 => k_is); (case k7 => k_is); (case k8 => walk_at "my room"); (case k9 => first | exact BindsTo.of_eq rfl | exact binds_K (by k_in) rfl (by k_is) rfl rfl rfl); (case kB => exact locs rfl); (case kF => first | assumption | exact rfl); (case kK => first | assumption | exact rfl); (case c2 => exact rfl); (case c3 => exact rfl); (case c4 => exact rfl); (case c5 => decide); k_whole))
local macro_rules | `(tactic| walk_at "call ref") => `(tactic| (k_here; (with_reducible show wpAny _ _ (call (Value.ref 46) _) _ _ _); k_dflt (refine wpAny_call ?_; refine' strip_spec ?C ?F ?N ?l ?_; (case F => k_asm); (case N => k_asm); (case C => walk_at "my amb"); (case l => with_reducible assumption); intro h' tk' t' F' N'; (try dsimp only); (try k_sweep))))
local macro_rules | `(tactic| walk_at "call builtin:len") => `(tactic| (k_here; (with_reducible show wpAny _ _ (call (Value.builtin "len") [Value.ref _]) _ _ _); k_dflt (refine' len_list (items := List.toArray _) ?l ?f ?_; (case l => refine' led_list ?N ?m; (case N => k_asm); (case m => k_mem)); (case f => simp only [List.size_toArray]; omega); (try simp only [List.size_toArray]))))
/-- the tokens that are still to come -/
noncomputable def tokD (t : List Nat) : Dat := .str (mkS t)
noncomputable def RJ (kh : Nat → Int) (kt vt : Nat → Tok) (y dy x dx pb fs : Addr) (P : Pm) (buf : Str) (news : List (Addr × Obj)) (whole : List (List Nat)) (lxf : LX) (n : Nat) (acc : List Value) (led : List (Addr × Obj)) : Prop :=
  ∃ pre lx kq t0 t1 t2 t3 tp done rest, led = LG kh kt vt y dy x dx pb fs P.com P.ws P.quotes P.split buf ((fs, dqObj 0 []) :: news) kq pre.length (lx.st.val t0) lx.ln (Str.ofString "") t1 t2 t3 (pbsOf lx.push tp) ∧
    buf = mkS (pre ++ lx.rem) ∧ LX.ok lx ∧ lx.meas < n ∧ DatAll [] acc (done.map tokD) ∧ Toks P lx rest lxf ∧ done ++ rest = whole ∧ acc.length + lx.meas ≤ 4090
noncomputable abbrev rdm (x : Addr) (vx : Value) : Str → Option Value := fun y => if y = Str.ofString "lexer" then some (.ref x) else if y = Str.ofString "text" then some vx else none
theorem rdm_init (x : Addr) (vx : Value) (y : Str) : (if y = Str.ofString "lexer" then some (Value.ref x) else List.lookup y [(Str.ofString "text", vx)]) = rdm x vx y := by
  simp only [rdm]
  by_cases h1 : y = Str.ofString "lexer"
  · rw [if_pos h1, if_pos h1]
  rw [if_neg h1, if_neg h1]
  by_cases h5 : y = Str.ofString "text"
  · subst h5; rfl
  · rw [if_neg h5]; show List.lookup y _ = none; rw [List.lookup_cons, beq_false_of_ne h5]; rfl
/-- what list(lexer) leaves -/
noncomputable def ListQ (fsA : List Addr) (A : Around) (base : Heap) (env : Env) (w : World) (loose : List Str) (mean : ExcName → Option Value) (mg mb : Str → Option Value) (s : Shared) (g : Heap) (L' : Addr) (mm : Str → Option Value) (kh : Nat → Int) (kt vt : Nat → Tok) (y dy x dx pb fs : Addr) (P : Pm) (buf : Str) (news : List (Addr × Obj)) (whole : List (List Nat)) (lxf : LX) (v : Value) (s' : Shared) : Prop :=
  ∃ g1 h tk a c acc pre kq u0 u1 u2 u3 up, v = .ref a ∧ s' = { s with heap := h, toks := tk } ∧ KtsTurn fsA g g1 ∧ Fr g1 L' h mm ∧ Below A base [env] g1 ∧ (hd2.heap_1 w.params).In g1 ∧ Top hdQ loose mean mg mb g1 ∧ KtsDicts fsA g1 ∧
    DatAll [] acc (whole.map tokD) ∧ acc.length ≤ 4096 ∧ LX.ok lxf ∧ buf = mkS (pre ++ lxf.rem) ∧ (∀ p ∈ LG kh kt vt y dy x dx pb fs P.com P.ws P.quotes P.split buf ((fs, dqObj 0 []) :: news) kq pre.length (lxf.st.val u0) lxf.ln (Str.ofString "") u1 u2 u3 (pbsOf lxf.push up), p.1 ≠ a) ∧
    News g1 L' h ((a, W.listOf acc.toArray c) :: LG kh kt vt y dy x dx pb fs P.com P.ws P.quotes P.split buf ((fs, dqObj 0 []) :: news) kq pre.length (lxf.st.val u0) lxf.ln (Str.ofString "") u1 u2 u3 (pbsOf lxf.push up))
theorem news_in {h₀ h : Heap} {L : Addr} {a : Addr × Obj} {y d x e p f : Addr × Obj} {r : List (Addr × Obj)} (N : News h₀ L h (a :: y :: d :: x :: e :: p :: f :: r)) : News h₀ L h (y :: d :: x :: e :: p :: f :: a :: r) := fun q hq => N q (by
  simp only [List.mem_cons] at hq ⊢
  rcases hq with h | h | h | h | h | h | h | h <;> simp [h])
theorem news_out {h₀ h : Heap} {L : Addr} {a : Addr × Obj} {y d x e p f : Addr × Obj} {r : List (Addr × Obj)} (N : News h₀ L h (y :: d :: x :: e :: p :: f :: a :: r)) : News h₀ L h (a :: y :: d :: x :: e :: p :: f :: r) := fun q hq => N q (by
  simp only [List.mem_cons] at hq ⊢
  rcases hq with h | h | h | h | h | h | h | h <;> simp [h])
theorem flat3_len : ∀ ts : List (List Nat × List Nat × List Nat), (ts.flatMap fun t => [t.1, t.2.1, t.2.2]).length = 3 * ts.length
  | [] => rfl
  | t :: ts => by rw [List.flatMap_cons, List.length_append, flat3_len ts]; simp; omega
theorem acc3 : ∀ (ts : List (List Nat × List Nat × List Nat)) (acc : List Value), DatAll [] acc ((ts.flatMap fun t => [t.1, t.2.1, t.2.2]).map tokD) → ∀ (i : Nat) (hi : i < ts.length), ∃ t1 t2 t3, acc.drop (3 * i) = Value.str (mkS ts[i].1) t1 :: Value.str (mkS ts[i].2.1) t2 :: Value.str (mkS ts[i].2.2) t3 :: acc.drop (3 * i + 3)
  | [], _, _, i, hi => absurd hi (Nat.not_lt_zero _)
  | t :: ts, acc, hD, i, hi => by
    rw [List.flatMap_cons, List.map_append] at hD
    cases hD with
    | cons h1 r1 => cases r1 with
      | cons h2 r2 => cases r2 with
        | cons h3 r3 =>
          cases h1; cases h2; cases h3
          cases i with
          | zero => exact ⟨_, _, _, rfl⟩
          | succ i =>
            obtain ⟨t1, t2, t3, e⟩ := acc3 ts _ r3 i (by simpa using hi)
            exact ⟨t1, t2, t3, by rw [show 3 * (i + 1) = 3 * i + 3 from by omega]; exact e⟩
theorem fits_small {i : Int} (h1 : -100000 ≤ i) (h2 : i ≤ 100000) : Builtin.Range.rangeFitsLong i = true := by
  unfold Builtin.Range.rangeFitsLong
  rw [Bool.and_eq_true, decide_eq_true_eq, decide_eq_true_eq]
  exact ⟨by omega, by omega⟩
theorem small3 {n : Nat} (h : n ≤ 5000) : Builtin.Range.small 0 (n : Int) 3 = true := by
  have hq : 0 ≤ Builtin.Range.rangeSize 0 (n : Int) 3 ∧ Builtin.Range.rangeSize 0 (n : Int) 3 ≤ 5000 := by
    unfold Builtin.Range.rangeSize
    rw [if_pos (by decide)]
    split <;> omega
  unfold Builtin.Range.small
  rw [fits_small (i := 0) (by omega) (by omega), fits_small (i := (n : Int)) (by omega) (by omega), fits_small (i := 3) (by omega) (by omega), fits_small (i := Builtin.Range.rangeSize 0 (n : Int) 3) (by omega) (by omega), if_pos (by decide), fits_small (by omega) (by omega)]
  simp
theorem size3 (m : Nat) : Builtin.Range.rangeSize 0 ((3 * m : Nat) : Int) 3 = (m : Int) := by
  unfold Builtin.Range.rangeSize
  rw [if_pos (by decide)]
  split <;> omega
theorem pick2 {acc r : List Value} {kk : Nat} {v1 v2 v3 : Value} (h : acc.drop kk = v1 :: v2 :: v3 :: r) (hk : kk + 3 ≤ acc.length) : (slicePick acc.toArray (some (kk : Int)) (some ((kk : Int) + 2)) none).toList = [v1, v2] := by
  have := slicePick_run acc.toArray kk (kk + 2) (by simp; omega) (by omega)
  rw [show ((kk : Int) + 2) = ((kk + 2 : Nat) : Int) from rfl, this]
  simp [h]
theorem pick1 {acc r : List Value} {kk : Nat} {v1 v2 v3 : Value} (h : acc.drop kk = v1 :: v2 :: v3 :: r) (hk : kk + 3 ≤ acc.length) : (slicePick acc.toArray (some ((kk : Int) + 2)) (some ((kk : Int) + 3)) none).toList = [v3] := by
  have := slicePick_run acc.toArray (kk + 2) (kk + 3) (by simp; omega) (by omega)
  rw [show ((kk : Int) + 2) = ((kk + 2 : Nat) : Int) from rfl, show ((kk : Int) + 3) = ((kk + 3 : Nat) : Int) from rfl, this]
  have e : acc.drop (kk + 2) = v3 :: r := by rw [← List.drop_drop, h]; rfl
  simp [e]
theorem led_off {a : Addr} {y d x e p f : Addr} {o1 o2 o3 o4 o5 o6 o1' o2' o3' o4' o5' o6' : Obj} {r : List (Addr × Obj)} (h : ∀ q ∈ (y, o1) :: (d, o2) :: (x, o3) :: (e, o4) :: (p, o5) :: (f, o6) :: r, q.1 ≠ a) : ∀ q ∈ (y, o1') :: (d, o2') :: (x, o3') :: (e, o4') :: (p, o5') :: (f, o6') :: r, q.1 ≠ a := by
  intro q hq
  simp only [List.mem_cons] at hq
  rcases hq with rfl | rfl | rfl | rfl | rfl | rfl | hq
  · exact h (y, o1) (by simp)
  · exact h (d, o2) (by simp)
  · exact h (x, o3) (by simp)
  · exact h (e, o4) (by simp)
  · exact h (p, o5) (by simp)
  · exact h (f, o6) (by simp)
  · exact h q (by simp [hq])
section
variable {w : World} {s : Shared} {base h₀ : Heap} {L : Addr} {m : Str → Option Value} {env : Env} {mg mb : Str → Option Value} {mean : ExcName → Option Value} {R : Result → Shared → Prop} {loose : List Str}
  {news : List (Addr × Obj)} {l : List Nat} {tt : Tok}
noncomputable def rowD (t : List Nat × List Nat × List Nat) : Dat := .list [.str (mkS t.1), .str (mkS t.2.1), .str (mkS (strip t.2.2))]
theorem read_spec2 (C : Amb w (callerA.deeper env) base h₀ [] env L mg mb mean loose 20) (XB : (hd2.heap_1 w.params).In base) (TB : Top hdQ loose mean mg mb base) (F : Fr h₀ L s.heap m) (N : News h₀ L s.heap news)
  {ts : List (List Nat × List Nat × List Nat)} {lxf : LX} (hT : Toks P0 ⟨l, 1, .blank, none⟩ (ts.flatMap fun t => [t.1, t.2.1, t.2.2]) lxf) (hl : (mkS l).length ≤ 4000) (hts : ts.length ≤ 100) (htl : ∀ t ∈ ts, (mkS t.2.2).length ≤ 4096)
  (h : ∀ h' tk r ex, Fr h₀ L h' m → DatIn ex (.ref r) (.list [.list (ts.map rowD), .int lxf.ln]) → News h₀ L h' (ex ++ news) → R (.ok (.ret (.ref r))) { s with heap := h', toks := tk }) :
  codeAny (model PySem.Challenge.rw_nq0177_02.row.prog w) (callerA.deeper env) (.call (.ref 745) ⟨[.str (mkS l) tt], []⟩) R s := by
  obtain ⟨⟨A₀, B⟩, X₀, T, hA, hf, hk, hroom, hh⟩ := C
  simp only [depth_deeper, depth_caller] at hroom
  walk_at "my enterS0"
  intro g L' h₁ FG F₁ N₁ B' X' T' D'
  dsimp only
  k_fold
  iterate 10 (first | walk1 | (dsimp only; walk1))
  refine wpAny_call ?_
  refine' lex_spec ?C ?F ?N ?_
  case F => k_asm
  case N => k_asm
  case C => walk_at "my amb"
  intro x dx y dy pb fs kh kt vt t0 t1 t2 t3 h2 tk2 F2 N2 o2 l2
  dsimp only
  have e1 : ∀ p ∈ news, p.1 ≠ dx := fun p hp => Nat.ne_of_lt (l2 p hp)
  clear F₁ N₁
  repeat ((fail_if_success (with_reducible show wpAny _ _ (call (Value.type _) _) _ _ _)); (first | walk1 | (dsimp only; walk1)))
  generalize hwh : (ts.flatMap fun t => [t.1, t.2.1, t.2.2]) = whole at hT
  have hl4 : (mkS l).length ≤ 4096 := by omega
  have hq1 : hasC (Str.ofString "'\"") 97 = false := by decide +kernel
  have hq2 : hasC (Str.ofString "'\"") 32 = false := by decide +kernel
  (with_reducible rename Fr g L' _ _ => F8)
  have F9 : Fr g L' _ (rdm x (.str (mkS l) tt)) := fr_congr F8 (rdm_init x _)
  clear F8
  let fsA : List Addr := List.filterMap (fun x => x.frame) [env]
  refine wpAny_mono (Q := ListQ fsA (callerA.deeper env) base env w loose mean mg mb s g L' (rdm x (.str (mkS l) tt)) kh kt vt y dy x dx pb fs P0 (mkS l) news whole lxf) ?list ?cont (fun _ _ z => z)
  case list =>
    refine' call_list_own (RJ kh kt vt y dy x dx pb fs P0 (mkS l) news whole lxf) ?lF ?lN ?lX ?lI ?l1 ?l2 ?iter ?turn
    case lF => k_asm
    case lN => k_asm
    case lX => k_asm
    case lI => k_inst
    case l1 => k_is
    case l2 => k_is
    case iter =>
      intro a h' c F1 N1 I1 hlt
      refine' owit_iter ?F ?X ?I ?hs ?hf ?_
      case F => exact F1
      case X => k_asm
      case I => exact I1
      case hs => k_is
      case hf => k_is
      have y1 : ∀ (tk0 : Nat) (ox : Obj) (od : Option Obj) led, News g L' h' ((a, W.listOf #[] c) :: led) → led = LG kh kt vt y dy x dx pb fs (Str.ofString "#") (Str.ofString " \t\r\n") (Str.ofString "'\"") false (mkS l) ((fs, dqObj 0 []) :: news) 0 0 (.str (Str.ofString " ") t0) 1 (Str.ofString "") t1 t2 t3 [] →
          ∀ h'' tk, Fr g L' h'' (rdm x (.str (mkS l) tt)) → InstAt h'' x ox 729 od → News g L' h'' ((a, W.listOf #[] c) :: led) → LoIter { s with heap := h', toks := tk0 } g L' (rdm x (.str (mkS l) tt)) a x 729 ox od (RJ kh kt vt y dy x dx pb fs P0 (mkS l) news whole lxf) (.ref x) { s with heap := h'', toks := tk } := by
        rintro tk0 ox od _ N0 rfl h'' tk F I N
        exact ⟨rfl, I, l.length + 1, h'', tk, c, _, rfl, F, N, fun p hp => Nat.ne_of_lt (hlt p hp), Nat.zero_le _, [], ⟨l, 1, .blank, none⟩, 0, t0, t1, t2, t3, t0, [], whole, rfl, rfl, .inl rfl, by simp [LX.meas], .nil, hT, rfl, by rw [mkS_length] at hl; simp [LX.meas]; omega⟩
      clear F N hT h
      k_steps
      exact y1 _ _ _ _ N1 rfl _ _ (by assumption) (by k_inst) (by assumption)
    case turn =>
      intro a h' n acc s' hlt hs
      obtain ⟨h1, tk1, c, led, rfl, F1, N1, hne, hal, pre, lx, kq, u0, u1, u2, u3, up, done, rest, rfl, hbuf, hok, hm, hD, hTk, hw, hlen⟩ := hs
      refine' owit_next ?F ?X ?I ?hs ?hf ?_
      case F => exact F1
      case X => k_asm
      case I => k_inst
      case hs => k_is
      case hf => k_is
      refine wpAny_call ?_
      have ha : a ≠ dy ∧ a ≠ dx ∧ a ≠ pb := ⟨fun e => hne _ (.tail _ (.head _)) e.symm, fun e => hne _ (.tail _ (.tail _ (.tail _ (.head _)))) e.symm, fun e => hne _ (.tail _ (.tail _ (.tail _ (.tail _ (.head _))))) e.symm⟩
      refine' next_spec (lx := lx) (pre := pre) (out := gtok P0 lx) (rest := (a, W.listOf acc.toArray c) :: news) ?C F1 (news_in N1) ?nne ?nnf ?nr1 ?nr2 ?nr3 hl4 hbuf hok rfl hq1 hq2 ?ok ?stop ?err
      case C => walk_at "my amb"
      case nne => omega
      case nnf => omega
      case nr1 =>
        intro p hp
        rcases List.mem_cons.mp hp with rfl | hp
        · exact ha.1
        · exact Nat.ne_of_lt (Nat.lt_trans (l2 p hp) (Nat.lt_trans o2.1 o2.2.1))
      case nr2 =>
        intro p hp
        rcases List.mem_cons.mp hp with rfl | hp
        · exact ha.2.1
        · exact e1 p hp
      case nr3 =>
        intro p hp
        rcases List.mem_cons.mp hp with rfl | hp
        · exact ha.2.2
        · exact Nat.ne_of_lt (Nat.lt_trans (l2 p hp) (Nat.lt_trans o2.1 (Nat.lt_trans o2.2.1 (Nat.lt_trans o2.2.2.1 o2.2.2.2.1))))
      case ok =>
        intro h' tk' pre' lx' ch res kq' t t0' t1' t2' t3' tp' ho hbuf' F' N'
        obtain ⟨hok', hms⟩ := gtok_left hok ho
        have hms' := hms (by simp)
        have hrest : ∃ rest', rest = (ch :: res) :: rest' ∧ Toks P0 lx' rest' lxf := by
          cases hTk with
          | stop h1 => rw [ho] at h1; cases h1
          | more h1 h2 => rw [ho] at h1; cases h1; exact ⟨_, rfl, h2⟩
        obtain ⟨rest', rfl, hTk'⟩ := hrest
        exact ⟨h', tk', c, _, lx'.meas + 1, by omega, rfl, F', news_out N', led_off hne, by omega, pre', lx', kq', t0', t1', t2', t3', tp', done ++ [ch :: res], rest', rfl, hbuf', hok', Nat.lt_succ_self _, by rw [List.map_append]; exact hD.append (.one (DatIn.str _ t)), hTk', by rw [← hw]; simp, by rw [List.length_append, List.length_singleton]; omega⟩
      case stop =>
        intro e t G h' tk' pre' lx' kq' t0' t1' t2' t3' tp' ho hbuf' FG2 US RS
        obtain ⟨hok', _⟩ := gtok_left hok ho
        have hrest : rest = [] ∧ lx' = lxf := by
          cases hTk with
          | stop h1 => rw [ho] at h1; cases h1; exact ⟨rfl, rfl⟩
          | more h1 h2 => rw [ho] at h1; cases h1
        obtain ⟨rfl, rfl⟩ := hrest
        refine stop_S RS FG2 B' US XB TB D' (by rw [isSubtype_type]; kernel_rfl) ?_
        intro g1 KT F' N' B1 X1 T1 D1
        exact ⟨g1, _, _, a, c, acc, pre', kq', t0', t1', t2', t3', tp', rfl, rfl, KT, F', B1, X1, T1, D1, by rw [← hw, List.append_nil]; exact hD, hal, hok', hbuf', led_off hne, news_out N'⟩
      case err =>
        intro e3 t3' tm3 G3 h3 tk3 ho3
        exfalso
        cases hTk with
        | stop h1 => rw [ho3] at h1; cases h1
        | more h1 h2 => rw [ho3] at h1; cases h1
  case cont =>
    rintro v s' ⟨g1, h5, tk5, a, c, acc, pre, kq, u0, u1, u2, u3, up, rfl, rfl, KT, F1, B1, X1, T1, D1, hD, hal, hok, hbuf, hoa, N1⟩
    clear X' T' B' D' N F F9 hT
    have hlen : acc.length = 3 * ts.length := by
      rw [hD.length, List.length_map, ← hwh, flat3_len]
    have hlenI : ((acc.length : Nat) : Int) = 3 * (ts.length : Int) := by omega
    try dsimp only
    repeat ((fail_if_success (with_reducible show wpAny _ _ (exec (Stmt.For _ _ _ _ _) _) _ _ _)); (first | walk1 | (dsimp only; walk1)))
    (with_reducible rename Fr g1 L' _ _ => F2)
    refine For_turns F2 ?_
    repeat ((fail_if_success (with_reducible show wpAny _ _ (pyIter _) _ _ _)); (first | walk1 | (dsimp only; walk1)))
    (rename IsRange _ _ _ _ _ _ _ _ => rgX)
    (with_reducible rename Fr g1 L' _ _ => F3)
    (with_reducible rename News g1 L' _ _ => N3)
    refine iter_rangeT (n := ts.length) (by rfl) F3 N3 rgX (small3 (by omega)) (by rw [hlen]; exact size3 _) ?_
    intro I hI
    rename_i rows hX1 l1 hX2 FX NX hX3 tkX tX uX vX keepX
    clear FX NX keepX rgX F3 N3
    obtain ⟨LGl, hLG⟩ : ∃ z, z = LG kh kt vt y dy x dx pb fs P0.com P0.ws P0.quotes P0.split (mkS l) ((fs, dqObj 0 []) :: news) kq pre.length (lxf.st.val u0) lxf.ln (Str.ofString "") u1 u2 u3 (pbsOf lxf.push up) := ⟨_, rfl⟩
    have hLr : ∀ p ∈ LGl, @Ne Nat p.1 rows := by
      rw [hLG]
      intro p hp
      obtain ⟨q1, q2, q3, q4, q5, q6, q7, q8⟩ := l1
      simp only [List.mem_cons] at hp
      rcases hp with rfl | rfl | rfl | rfl | rfl | rfl | hp
      · exact Nat.ne_of_lt q2
      · exact Nat.ne_of_lt q3
      · exact Nat.ne_of_lt q4
      · exact Nat.ne_of_lt q5
      · exact Nat.ne_of_lt q6
      · exact Nat.ne_of_lt q7
      · exact Nat.ne_of_lt (allLt_elim q8 p hp)
    have hLI : ∀ p ∈ LGl, @Ne Nat p.1 I := by
      rw [hLG]; exact fun p hp => Nat.ne_of_lt (hI p (.tail _ (.tail _ hp)))
    have hrI : @Ne Nat rows I := Nat.ne_of_lt (hI _ (.head _))
    have haI : @Ne Nat a I := Nat.ne_of_lt (hI _ (.tail _ (.head _)))
    have har : @Ne Nat a rows := Nat.ne_of_lt l1.1
    rw [← hLG]
    refine items_ind _ (fun i m' n' => ∃ rv rc ex, (∀ y, y ≠ Str.ofString "k" → m' y = (fun y => if y = Str.ofString "rows" then some (Value.ref rows) else if y = Str.ofString "tokens" then some (Value.ref a) else rdm x (Value.str (mkS l) tt) y) y) ∧ n' = (rows, W.listOf rv.toArray rc) :: (a, W.listOf acc.toArray c) :: (ex ++ LGl) ∧ (∀ p ∈ ex, @Ne Nat p.1 rows ∧ @Ne Nat p.1 I) ∧ DatAll ex rv ((ts.take i).map rowD)) ?lturn ?ldone ?linit
    case linit => exact ⟨[], 0, [], fun _ _ => rfl, rfl, (fun _ z => nomatch z), DatAll.nil⟩
    case lturn =>
      rintro i ai m' n' v hh hx hv ⟨rv, rc, ex, hmB, rfl, hex, hDr⟩
      have hi : i < ts.length := by
        have := (List.getElem?_eq_some_iff.mp hx).1
        rw [List.length_map, List.length_range] at this; exact this
      rw [List.getElem?_map, List.getElem?_range hi] at hx
      cases hx
      obtain ⟨tv, rfl⟩ := hv
      obtain ⟨t1, t2, t3, hacc⟩ := acc3 ts acc (hwh ▸ hD) i hi
      intro hq1' tk o ho F N
      have F2 := fr_congr (m' := fun y => if y = Str.ofString "k" then m' (Str.ofString "k") else (fun y => if y = Str.ofString "rows" then some (Value.ref rows) else if y = Str.ofString "tokens" then some (Value.ref a) else rdm x (Value.str (mkS l) tt) y) y) F (fun y => by
        by_cases hy : y = Str.ofString "k"
        · rw [if_pos hy, hy]
        · rw [if_neg hy]; exact hmB y hy)
      generalize m' (Str.ofString "k") = mk at F2
      clear F hmB
      rw [show (0 : Int) + (i : Int) * 3 = ((3 * i : Nat) : Int) from by omega]
      have hkk : 3 * i + 3 ≤ acc.length := by omega
      obtain ⟨kk, hk3⟩ : ∃ kk, kk = 3 * i := ⟨_, rfl⟩
      rw [← hk3] at hacc hkk ⊢
      dsimp only
      repeat ((fail_if_success (with_reducible show wpAny _ _ (subscriptTail _ _ _ _) _ _ _)); (first | walk1 | (dsimp only; walk1)))
      refine kmk_slice_lit (zs := [Value.str (mkS ts[i].1) t1, Value.str (mkS ts[i].2.1) t2]) (by k_asm) (by k_asm) (led_list (by k_asm) (by k_mem)) (.int _ _) (.int _ _) (pick2 hacc hkk) ?_ (by with_unfolding_all rfl) (by intro _; with_unfolding_all rfl) (by rw [sizeLine_eq, List.size_toArray]; omega)
      intro D1 h12 F12 N12 o12
      try dsimp only
      repeat ((fail_if_success (with_reducible show wpAny _ _ (eval (Expr.ListComp _ _ _ _) _) _ _ _)); (first | walk1 | (dsimp only; walk1)))
      refine LCg.ListComp_U (F₀ := by k_asm) (by with_unfolding_all rfl) (by decide) (by rfl) (by decide) (by rfl) ?_
      repeat ((fail_if_success (with_reducible show wpAny _ _ (subscriptTail _ _ _ _) _ _ _)); (first | walk1 | (dsimp only; walk1)))
      refine kmk_slice_lit (zs := [Value.str (mkS ts[i].2.2) t3]) (by k_asm) (by k_asm) (led_list (by k_asm) (by k_mem)) (.int _ _) (.int _ _) (pick1 hacc hkk) ?_ (by with_unfolding_all rfl) (by intro _; with_unfolding_all rfl) (by rw [sizeLine_eq, List.size_toArray]; omega)
      intro D2 h13 F13 N13 o13
      have htl3 := htl ts[i] (List.getElem_mem hi)
      refine LCg.CompSrc.ledger (by rfl) (by k_asm) (by k_asm) (by k_mem) (by rw [sizeLine_eq]; exact Nat.le_of_ble_eq_true rfl) ?_
      intro g9
      refine LCg.CompRest.succ ?_
      intro v9 I9 oI9 C9 oC9 D9 m9 h9 tk9 E9 hv9 hC9 hx9 F9 N9 off9 ne9
      obtain rfl : Value.str (mkS ts[i].2.2) t3 = v9 := by simpa using hv9
      dsimp only
      repeat ((fail_if_success (with_reducible show LCg.CompEnd _ _ _ _ _ _ _ _ _ _ _ _ _ _)); (first | walk1 | (dsimp only; walk1)))
      k_unfold
      (with_reducible rename Fr g1 L' _ _ => F5)
      (with_reducible rename News g1 L' _ _ => N5)
      refine ⟨_, _, _, rfl, F5, N5, off9, .inr ⟨_, .head _, rfl, _, rfl⟩, ?_⟩
      refine LCg.CompRest.zero ?_
      intro D3 h14 tk14 F14 N14 o14
      clear F5 N5 off9
      try dsimp only
      repeat ((fail_if_success (with_reducible show wpAny _ _ (binaryOp _ (Value.ref _) (Value.ref _)) _ _ _)); (first | walk1 | (dsimp only; walk1)))
      (with_reducible rename News g1 L' h14 _ => N14)
      have hsz := fun (p : Addr × Obj) hp => Heap.lt_size (N14 p hp).1
      refine add_lists (vs := [_, _]) (ws := [_]) (by k_asm) (by k_asm) (led_any (by k_asm) (by k_mem) rfl rfl) (led_any (by k_asm) (by k_mem) rfl rfl) ?_ (by rw [sizeLine_eq]; exact Nat.le_of_ble_eq_true rfl)
      intro h15 F15 N15
      have hDrows : @Ne Nat h14.objs.size rows := Nat.ne_of_gt (hsz (rows, _) (.tail _ (.tail _ (.tail _ (.tail _ (.head _))))))
      have hDI : @Ne Nat h14.objs.size I := Nat.ne_of_gt (hsz (I, _) (.tail _ (.tail _ (.tail _ (.head _)))))
      have hDa : @Ne Nat h14.objs.size a := Nat.ne_of_gt (hsz (a, _) (.tail _ (.tail _ (.tail _ (.tail _ (.tail _ (.head _)))))))
      dsimp only at F15 N15 ⊢
      generalize h14.objs.size = D4 at *
      clear hsz N14
      obtain ⟨tq, N16⟩ : ∃ tq, News g1 L' h15 ((D4, W.listOf #[Value.str (mkS ts[i].1) t1, Value.str (mkS ts[i].2.1) t2, Value.str (mkS (strip ts[i].2.2)) tq] 0) :: (I, o) :: (rows, W.listOf rv.toArray rc) :: (a, W.listOf acc.toArray c) :: (ex ++ LGl)) := ⟨_, fun q hq => N15 q (by
        rcases List.mem_cons.mp hq with hq | hq
        · exact List.mem_cons.mpr (.inl hq)
        · exact .tail _ (.tail _ (.tail _ (.tail _ hq))))⟩
      clear N15
      have hrest : ∀ p ∈ ex ++ LGl, @Ne Nat p.1 rows := fun p hp => (List.mem_append.mp hp).elim (fun z => (hex p z).1) (hLr p)
      have hrvl : rv.length ≤ 4096 := by rw [hDr.length, List.length_map, List.length_take]; omega
      have hIr := Ne.symm hrI
      repeat ((fail_if_success (with_reducible show UnrPostW _ _ _ _ _ _ _ _)); (first | walk1 | (dsimp only; walk1)))
      (with_reducible rename Fr g1 L' _ _ => F17)
      (with_reducible rename News g1 L' _ _ => N17)
      dsimp only [UnrPostW, UnrEndW]
      refine ⟨_, _, _, (rows, W.listOf (rv ++ [Value.ref D4]).toArray (rc + 1)) :: (a, W.listOf acc.toArray c) :: (((D4, W.listOf #[Value.str (mkS ts[i].1) t1, Value.str (mkS ts[i].2.1) t2, Value.str (mkS (strip ts[i].2.2)) tq] 0) :: ex) ++ LGl), rfl, F17, ?pN, ?pO, trivial, rv ++ [Value.ref D4], rc + 1, (D4, W.listOf #[Value.str (mkS ts[i].1) t1, Value.str (mkS ts[i].2.1) t2, Value.str (mkS (strip ts[i].2.2)) tq] 0) :: ex, ?pM, rfl, ?pX, ?pD⟩
      case pN =>
        rw [show (rv ++ [Value.ref D4]).toArray = rv.toArray.push (Value.ref D4) from by simp]
        intro q hq
        refine N17 q ?_
        simp only [List.mem_cons, List.mem_append, List.cons_append, List.nil_append, List.not_mem_nil, or_false, false_or] at hq ⊢
        rcases hq with hq | hq | hq | hq | hq | hq <;> simp [hq]
      case pO =>
        intro q hq u hu
        rw [List.mem_singleton.mp hu]
        simp only [List.mem_cons, List.mem_append, List.cons_append] at hq
        rcases hq with rfl | rfl | rfl | hq | hq
        · exact hrI
        · exact haI
        · exact hDI
        · exact (hex q hq).2
        · exact hLI q hq
      case pM =>
        intro y hy
        rw [if_neg hy, if_neg hy]
      case pX =>
        intro q hq
        rcases List.mem_cons.mp hq with rfl | hq
        · exact ⟨hDrows, hDI⟩
        · exact hex q hq
      case pD =>
        rw [List.take_succ, List.getElem?_eq_getElem hi, List.map_append]
        exact (hDr.mono fun q hq => .tail _ hq).append (.one (DatIn.list (vs := [_, _, _]) (n := 0) (.head _) (.cons (.str _ _) (.cons (.str _ _) (.one (.str _ _))))))
    case ldone =>
      rintro m' n' h' tk ⟨rv, rc, ex, hmB, rfl, hex, hDr⟩ F N
      rw [List.length_map, List.length_range, List.take_length] at hDr
      have F2 := fr_congr (m' := fun y => if y = Str.ofString "k" then m' (Str.ofString "k") else (fun y => if y = Str.ofString "rows" then some (Value.ref rows) else if y = Str.ofString "tokens" then some (Value.ref a) else rdm x (Value.str (mkS l) tt) y) y) F (fun y => by
        by_cases hy : y = Str.ofString "k"
        · rw [if_pos hy, hy]
        · rw [if_neg hy]; exact hmB y hy)
      generalize m' (Str.ofString "k") = mk at F2
      clear F hmB
      subst hLG
      have N2 : News g1 L' h' (LG kh kt vt y dy x dx pb fs P0.com P0.ws P0.quotes P0.split (mkS l) ((fs, dqObj 0 []) :: (rows, W.listOf rv.toArray rc) :: (ex ++ news)) kq pre.length (lxf.st.val u0) lxf.ln (Str.ofString "") u1 u2 u3 (pbsOf lxf.push up)) := fun q hq => N q (by
        simp only [List.mem_cons, List.mem_append] at hq ⊢
        rcases hq with hq | hq | hq | hq | hq | hq | hq | hq | hq <;> simp [hq])
      clear N
      dsimp only
      have fin : ∀ h9 tk9 r n1 t1 led, Fr h₀ L h9 m → News h₀ L h9 led → (r, W.listOf #[Value.ref rows, Value.int lxf.ln t1] n1) ∈ led → (∀ q ∈ (rows, W.listOf rv.toArray rc) :: (ex ++ news), q ∈ led) → R (.ok (.ret (.ref r))) { s with heap := h9, toks := tk9 } := by
        intro h9 tk9 r n1 t1 led F9 N9 hm hs
        refine h _ _ r ((r, W.listOf #[Value.ref rows, Value.int lxf.ln t1] n1) :: (rows, W.listOf rv.toArray rc) :: ex) F9 (.list (vs := [_, _]) (n := n1) (.head _) (.cons (.list (vs := rv) (n := rc) (.tail _ (.head _)) (hDr.mono fun q hq => .tail _ (.tail _ hq))) (.one (.int _ _)))) (fun q hq => N9 q ?_)
        rcases List.mem_cons.mp hq with rfl | hq
        · exact hm
        · exact hs q hq
      k_steps
      (with_reducible rename Fr h₀ L _ _ => kF9)
      (with_reducible rename News h₀ L _ _ => kN9)
      refine fin _ _ _ _ _ _ kF9 kN9 (.head _) (fun q hq => ?_)
      simp only [List.mem_cons, List.mem_append] at hq ⊢
      rcases hq with hq | hq | hq <;> simp [hq]
end
local macro_rules | `(tactic| walk_at "execs cons") => `(tactic| (k_here; (try dsimp only); k_gentoks))
local macro_rules | `(tactic| walk_at "execs nil") => `(tactic| (k_here; (try dsimp only); k_gentoks))
local macro_rules | `(tactic| walk_at "exec If") => `(tactic| (k_here; refine wpAny_If ?_))
local macro_rules | `(tactic| walk_at "assign Tuple") => `(tactic| (k_here; (with_reducible show wpAny _ _ (assign (Expr.Tuple _ _ _) _ (Value.ref _)) _ _ _); k_dflt (refine' unpackLN ?F ?N ?T ?k0 ?k1 ?k2 ?_; (case F => k_asm); (case N => k_asm); (case T => refine led_list (xs := [_, _, _]) (by k_asm) (by k_mem)); (case k0 => exact rfl); (case k1 => exact rfl); (case k2 => exact rfl)); intro h' F' N'; (try dsimp only); (try k_sweep)))
theorem add_sumW {prog : Program} {w : World} {A : Around} {E : Value → Shared → Prop} {s : Shared} {a b : Str} {t u : Tok} {Q : Value → Shared → Prop} (hsz : a.length + b.length ≤ 8192) (h : ∀ z t' tk, SumS z a b → z.length = a.length + b.length → Q (.str z t') { s with toks := tk }) :
    wpAny (model prog w) A (binaryOp .Add (.str a t) (.str b u)) Q E s :=
  PyProof.Rows.add_str (fun t' tk => h _ t' tk ⟨rfl⟩ (Str.length_append a b)) (by rw [sizeLine_eq]; omega)
local macro_rules | `(tactic| walk_at "binaryOp Add str str") => `(tactic| (k_here; (with_reducible show wpAny _ _ (binaryOp Operator.Add (Value.str _ _) (Value.str _ _)) _ _ _); k_dflt (refine add_sumW ?hsz ?_; (case hsz => omega); intro z' t' tk' hz' hl'; (try dsimp only))))
theorem len_dqW : (Str.ofString "\"").length = 1 := by decide +kernel
theorem len_dspW : (Str.ofString "\" ").length = 2 := by decide +kernel
noncomputable def wr (p : List Nat × List Nat × List Nat) : List Nat := if 34 ∈ p.2.2 then (if p.2.2.head? = some 39 then p.1 ++ (p.2.1 ++ p.2.2) else p.1 ++ (p.2.1 ++ (p.2.2 ++ [34, 32]))) else p.1 ++ (p.2.1 ++ (34 :: (p.2.2 ++ [34])))
noncomputable def row3 (p : List Nat × List Nat × List Nat) : Dat := .list [.str (mkS p.1), .str (mkS p.2.1), .str (mkS p.2.2)]
structure Short3 (p : List Nat × List Nat × List Nat) : Prop where
  a : (mkS p.1).length ≤ 8
  b : (mkS p.2.1).length ≤ 8
  c : (mkS p.2.2).length ≤ 8
theorem wr_len {p : List Nat × List Nat × List Nat} (h : Short3 p) : (wr p).length ≤ 26 := by
  obtain ⟨h1, h2, h3⟩ := h
  rw [mkS_length] at h1 h2 h3
  unfold wr
  split
  · split <;> simp <;> omega
  · simp; omega
theorem wrs_len : ∀ {ps : List (List Nat × List Nat × List Nat)}, (∀ p ∈ ps, Short3 p) → (ps.flatMap wr).length ≤ 26 * ps.length
  | [], _ => Nat.le_refl _
  | p :: ps, h => by
    have h1 := wr_len (h p (.head _))
    have h2 := wrs_len (ps := ps) fun q hq => h q (.tail _ hq)
    rw [List.flatMap_cons, List.length_append, List.length_cons]; omega
/-- the tests of the writer, and what its ways make -/
theorem no_dq {v : List Nat} {V : Str} (hV : V = mkS v) : (Builtin.Str.occurrences V (Str.ofString "\"") 0 V.length 1).isEmpty = !decide (34 ∈ v) := by
  subst hV
  have := contains_one (mkS v) 34
  unfold Txt.contains at this
  rw [show mkS [34] = Str.ofString "\"" from by decide +kernel] at this
  unfold hasC at this
  rw [mkS_cps] at this
  rw [← this, Bool.not_not]
section
variable {p : List Nat × List Nat × List Nat} {T K S V z1 z2 z3 z4 z5 : Str} {t : List Nat} (hT : T = mkS t) (hK : K = mkS p.1) (hS : S = mkS p.2.1) (hV : V = mkS p.2.2)
include hT hK hS hV
theorem way1 (b : (Builtin.Str.occurrences V (Str.ofString "\"") 0 V.length 1).isEmpty = true) (h1 : SumS z5 z4 (Str.ofString "\"")) (h2 : SumS z4 z3 V) (h3 : SumS z3 z2 (Str.ofString "\"")) (h4 : SumS z2 z1 S) (h5 : SumS z1 T K) : z5 = mkS (t ++ wr p) := by
  rw [no_dq hV] at b
  obtain ⟨rfl⟩ := h1; obtain ⟨rfl⟩ := h2; obtain ⟨rfl⟩ := h3; obtain ⟨rfl⟩ := h4; obtain ⟨rfl⟩ := h5
  subst hT hK hS hV
  have hn : ¬ 34 ∈ p.2.2 := by simpa using b
  rw [wr, if_neg hn, show Str.ofString "\"" = mkS [34] from by decide +kernel, mkS_append, mkS_append, mkS_append, mkS_append, mkS_append]
  simp
theorem way2 (b : (Builtin.Str.occurrences V (Str.ofString "\"") 0 V.length 1).isEmpty = false) (c : (Txt.item V 0 == Str.ofString "'") = true) (h3 : SumS z3 z2 V) (h4 : SumS z2 z1 S) (h5 : SumS z1 T K) : z3 = mkS (t ++ wr p) := by
  rw [no_dq hV] at b
  obtain ⟨rfl⟩ := h3; obtain ⟨rfl⟩ := h4; obtain ⟨rfl⟩ := h5
  subst hT hK hS hV
  have hn : 34 ∈ p.2.2 := by simpa using b
  have hh : p.2.2.head? = some 39 := by
    cases h : p.2.2 with
    | nil => rw [h] at hn; cases hn
    | cons d r =>
      rw [h] at c
      rw [show (0 : Int) = ((0 : Nat) : Int) from rfl, item_nat (d :: r) 0 (by simp), show Str.ofString "'" = mkS [39] from by decide +kernel, beq_iff_eq] at c
      have := mkS_inj c
      simp at this; simp [this]
  rw [wr, if_pos hn, if_pos hh, mkS_append, mkS_append, mkS_append]
  simp
theorem way3 (b : (Builtin.Str.occurrences V (Str.ofString "\"") 0 V.length 1).isEmpty = false) (c : (Txt.item V 0 == Str.ofString "'") = false) (h2 : SumS z4 z3 (Str.ofString "\" ")) (h3 : SumS z3 z2 V) (h4 : SumS z2 z1 S) (h5 : SumS z1 T K) : z4 = mkS (t ++ wr p) := by
  rw [no_dq hV] at b
  obtain ⟨rfl⟩ := h2; obtain ⟨rfl⟩ := h3; obtain ⟨rfl⟩ := h4; obtain ⟨rfl⟩ := h5
  subst hT hK hS hV
  have hn : 34 ∈ p.2.2 := by simpa using b
  have hh : ¬ p.2.2.head? = some 39 := by
    cases h : p.2.2 with
    | nil => rw [h] at hn; cases hn
    | cons d r =>
      rw [h] at c
      rw [show (0 : Int) = ((0 : Nat) : Int) from rfl, item_nat (d :: r) 0 (by simp), show Str.ofString "'" = mkS [39] from by decide +kernel, beq_eq_false_iff_ne] at c
      intro e
      simp at e; subst e
      exact c rfl
  rw [wr, if_pos hn, if_neg hh, show Str.ofString "\" " = mkS [34, 32] from by decide +kernel, mkS_append, mkS_append, mkS_append, mkS_append]
  simp
end
theorem notin_known {prog : Program} {w : World} {A : Around} {E : Value → Shared → Prop} {s : Shared} {Y V : Str} {u t : Tok} {b : Bool} {Q : Value → Shared → Prop} (hb : (Builtin.Str.occurrences V Y 0 V.length 1).isEmpty = b) (h : Q (.bool b) s) :
    wpAny (model prog w) A (compareOp .NotIn (.str Y u) (.str V t)) Q E s := PyProof.Rows.notIn_str (by rw [hb, Bool.not_not]; exact h)
local macro_rules | `(tactic| walk_at "compareOp NotIn str str") => `(tactic| ((with_reducible show wpAny _ _ (compareOp CmpOp.NotIn (Value.str _ _) (Value.str _ _)) _ _ _); refine notin_known (by with_reducible assumption) ?_))
noncomputable abbrev wm (ra : Addr) (tv : Value) (k1 k2 k3 : Option Value) : Str → Option Value := fun y => if y = Str.ofString "text" then some tv else if y = Str.ofString "rows" then some (.ref ra) else if y = Str.ofString "key" then k1 else if y = Str.ofString "sign" then k2 else if y = Str.ofString "value" then k3 else none
theorem wm_init (ra : Addr) (tv : Value) (y : Str) : (if y = Str.ofString "text" then some tv else List.lookup y [(Str.ofString "rows", Value.ref ra)]) = wm ra tv none none none y := by
  simp only [wm]
  by_cases h1 : y = Str.ofString "text"
  · rw [if_pos h1, if_pos h1]
  rw [if_neg h1, if_neg h1]
  by_cases h5 : y = Str.ofString "rows"
  · subst h5; rfl
  · rw [if_neg h5, List.lookup_cons, beq_false_of_ne h5]
    simp
theorem wm_turn (ra : Addr) (tv tv' a b c : Value) (k1 k2 k3 : Option Value) (y : Str) : (if y = Str.ofString "text" then some tv' else if y = Str.ofString "value" then some c else if y = Str.ofString "sign" then some b else if y = Str.ofString "key" then some a else wm ra tv k1 k2 k3 y) = wm ra tv' (some a) (some b) (some c) y := by
  simp only [wm]
  by_cases h1 : y = Str.ofString "text"
  · rw [if_pos h1, if_pos h1]
  rw [if_neg h1, if_neg h1]
  by_cases h2 : y = Str.ofString "value"
  · subst h2; rfl
  rw [if_neg h2]
  by_cases h3 : y = Str.ofString "sign"
  · subst h3; rfl
  rw [if_neg h3]
  by_cases h4 : y = Str.ofString "key"
  · subst h4; rfl
  simp only [h1, h2, h3, h4, if_false]
section
variable {w : World} {s : Shared} {base h₀ : Heap} {L : Addr} {m : Str → Option Value} {env : Env} {mg mb : Str → Option Value} {mean : ExcName → Option Value} {R : Result → Shared → Prop} {loose : List Str}
  {news : List (Addr × Obj)}
theorem row3_open {led : List (Addr × Obj)} {v : Value} {p : List Nat × List Nat × List Nat} (h : DatIn led v (row3 p)) : ∃ r n t1 t2 t3, v = .ref r ∧ (r, W.listOf #[Value.str (mkS p.1) t1, Value.str (mkS p.2.1) t2, Value.str (mkS p.2.2) t3] n) ∈ led := by
  unfold row3 at h
  cases h with
  | list hm hr => cases hr with
    | cons h1 r => cases h1; cases r with
      | cons h2 r => cases h2; cases r with
        | cons h3 r => cases h3; cases r; exact ⟨_, _, _, _, _, rfl, hm⟩
theorem write_spec {ra : Addr} {rv : List Value} {rc : Nat} {ps : List (List Nat × List Nat × List Nat)} (C : Amb w (callerA.deeper env) base h₀ [] env L mg mb mean loose 4) (F : Fr h₀ L s.heap m) (N : News h₀ L s.heap ((ra, W.listOf rv.toArray rc) :: news))
  (hD : DatAll ((ra, W.listOf rv.toArray rc) :: news) rv (ps.map row3)) (hps : ps.length ≤ 100) (hsh : ∀ p ∈ ps, Short3 p)
  (h : ∀ h' tk t, Fr h₀ L h' m → News h₀ L h' ((ra, W.listOf rv.toArray rc) :: news) → R (.ok (.ret (.str (mkS (ps.flatMap wr)) t))) { s with heap := h', toks := tk }) :
  codeAny (model PySem.Challenge.rw_nq0177_02.row.prog w) (callerA.deeper env) (.call (.ref 752) ⟨[.ref ra], []⟩) R s := by
  obtain ⟨⟨A₀, B⟩, X₀, T, hA, hf, hk, hroom, hh⟩ := C
  simp only [depth_deeper, depth_caller] at hroom
  walk_at "my enter0"
  intro g L' h₁ FG F₁ N₁ B' X' T'
  try dsimp only
  k_fold
  repeat ((fail_if_success (with_reducible show wpAny _ _ (exec (Stmt.For _ _ _ _ _) _) _ _ _)); (first | walk1 | (dsimp only; walk1)))
  (with_reducible rename Fr g L' _ _ => F2)
  refine For_turns F2 ?_
  repeat ((fail_if_success (with_reducible show wpAny _ _ (pyIter _) _ _ _)); (first | walk1 | (dsimp only; walk1)))
  (with_reducible rename Fr g L' _ _ => F3)
  (with_reducible rename News g L' _ _ => N3)
  refine iter_listTurns (vs := rv) (n := rc) (by rfl) F3 N3 (.head _) rfl rfl ?_
  intro I hI
  refine items_vals rv (fun i m' n' => ∃ (tx : Str) (tt : Tok) (k1 k2 k3 : Option Value), n' = (ra, W.listOf rv.toArray rc) :: news ∧ tx = mkS ((ps.take i).flatMap wr) ∧ ∀ y, m' y = wm ra (.str tx tt) k1 k2 k3 y) ?lturn ?ldone ?linit
  case linit => exact ⟨Str.ofString "", _, none, none, none, rfl, by rw [← mkS_nil]; rfl, wm_init ra _⟩
  case lturn =>
    rintro i v m' n' hv ⟨tx, tt, k1, k2, k3, rfl, htx, hm⟩
    have hi : i < ps.length := by
      have := (List.getElem?_eq_some_iff.mp hv).1
      rw [hD.length, List.length_map] at this; exact this
    obtain ⟨v2, hv2, hvd⟩ := hD.get (k := i) (by rw [List.length_map]; exact hi)
    rw [hv] at hv2; cases hv2
    rw [List.getElem_map] at hvd
    obtain ⟨r, n, t1, t2, t3, rfl, hrm⟩ := row3_open hvd
    obtain ⟨sa, sb, sc⟩ := hsh ps[i] (List.getElem_mem hi)
    intro hh1 tk o ho F N
    have N2 := news_cons (p := (r, W.listOf #[Value.str (mkS ps[i].1) t1, Value.str (mkS ps[i].2.1) t2, Value.str (mkS ps[i].2.2) t3] n)) N (.tail _ hrm)
    clear N
    have htl : tx.length ≤ 2600 := by
      rw [htx, mkS_length]
      have := wrs_len (ps := ps.take i) fun q hq => hsh q (List.mem_of_mem_take hq)
      have h2 : (ps.take i).length ≤ 100 := by rw [List.length_take]; omega
      omega
    have F4 := fr_congr F hm
    clear F hm
    obtain ⟨K, hK⟩ : ∃ K, K = mkS ps[i].1 := ⟨_, rfl⟩
    obtain ⟨S, hS⟩ : ∃ K, K = mkS ps[i].2.1 := ⟨_, rfl⟩
    obtain ⟨V, hV⟩ : ∃ K, K = mkS ps[i].2.2 := ⟨_, rfl⟩
    rw [← hK, ← hS, ← hV] at N2
    rw [← hK] at sa
    rw [← hS] at sb
    rw [← hV] at sc
    have hl1 := len_dqW
    have hl2 := len_dspW
    have hs1 : (ps.take (i + 1)).flatMap wr = (ps.take i).flatMap wr ++ wr ps[i] := by
      rw [List.take_add_one, List.getElem?_eq_getElem hi, List.flatMap_append]
      show _ ++ (wr ps[i] ++ []) = _
      rw [List.append_nil]
    have hIne : ∀ q ∈ (ra, W.listOf rv.toArray rc) :: news, @Ne Nat q.1 I := fun q hq => Nat.ne_of_lt (hI q hq)
    have y1 : ∀ z t' h'' tk'', z = mkS ((ps.take i).flatMap wr ++ wr ps[i]) → Fr g L' h'' (fun y => if y = Str.ofString "text" then some (Value.str z t') else if y = Str.ofString "value" then some (.str V t3) else if y = Str.ofString "sign" then some (.str S t2) else if y = Str.ofString "key" then some (.str K t1) else wm ra (.str tx tt) k1 k2 k3 y) →
        News g L' h'' ((r, W.listOf #[Value.str K t1, Value.str S t2, Value.str V t3] n) :: (I, o) :: (ra, W.listOf rv.toArray rc) :: news) → UnrEndW g L' { s with heap := hh1, toks := tk } [(I, o)] (fun m' n' => SubL [(ra, W.listOf rv.toArray rc)] n' ∧ ∃ (tx : Str) (tt : Tok) (k1 k2 k3 : Option Value), n' = (ra, W.listOf rv.toArray rc) :: news ∧ tx = mkS ((ps.take (i + 1)).flatMap wr) ∧ ∀ y, m' y = wm ra (.str tx tt) k1 k2 k3 y) { s with heap := h'', toks := tk'' } := by
      intro z t' h'' tk'' hz F N
      refine ⟨h'', tk'', _, (ra, W.listOf rv.toArray rc) :: news, rfl, F, fun q hq => N q (.tail _ hq), ?_, ⟨.head _, trivial⟩, z, t', _, _, _, rfl, by rw [hs1]; exact hz, wm_turn ra _ _ _ _ _ k1 k2 k3⟩
      intro q hq u hu
      rw [List.mem_singleton.mp hu]
      exact hIne q hq
    by_cases hq : 34 ∈ ps[i].2.2
    · have hb : (Builtin.Str.occurrences V (Str.ofString "\"") 0 V.length 1).isEmpty = false := by rw [no_dq hV]; simp [hq]
      have hV1 : 1 ≤ V.length := by
        rw [hV, mkS_length]; exact List.length_pos_of_mem hq
      dsimp only
      repeat' ((fail_if_success (with_reducible show UnrPostW _ _ _ _ _ _ _ _)); (first | walk1 | (dsimp only; walk1)))
      all_goals
        show UnrEndW _ _ _ _ _ _
        refine y1 _ _ _ _ ?w (by with_reducible assumption) (by with_reducible assumption)
        case w =>
          first
            | exact way2 htx hK hS hV hb (by with_reducible assumption) (by with_reducible assumption) (by with_reducible assumption) (by with_reducible assumption)
            | exact way3 htx hK hS hV hb (by with_reducible assumption) (by with_reducible assumption) (by with_reducible assumption) (by with_reducible assumption) (by with_reducible assumption)
            | exact way1 htx hK hS hV hb (by with_reducible assumption) (by with_reducible assumption) (by with_reducible assumption) (by with_reducible assumption) (by with_reducible assumption)
    · have hb : (Builtin.Str.occurrences V (Str.ofString "\"") 0 V.length 1).isEmpty = true := by rw [no_dq hV]; simp [hq]
      dsimp only
      repeat' ((fail_if_success (with_reducible show UnrPostW _ _ _ _ _ _ _ _)); (first | walk1 | (dsimp only; walk1)))
      all_goals
        show UnrEndW _ _ _ _ _ _
        refine y1 _ _ _ _ ?w (by with_reducible assumption) (by with_reducible assumption)
        case w =>
          first
            | exact way2 htx hK hS hV hb (by with_reducible assumption) (by with_reducible assumption) (by with_reducible assumption) (by with_reducible assumption)
            | exact way3 htx hK hS hV hb (by with_reducible assumption) (by with_reducible assumption) (by with_reducible assumption) (by with_reducible assumption) (by with_reducible assumption)
            | exact way1 htx hK hS hV hb (by with_reducible assumption) (by with_reducible assumption) (by with_reducible assumption) (by with_reducible assumption) (by with_reducible assumption)
  case ldone =>
    rintro m' n' h' tk ⟨tx, tt, k1, k2, k3, rfl, htx, hm⟩ F N
    rw [hD.length, List.length_map, List.take_length] at htx
    have F4 := fr_congr F hm
    clear F hm
    subst htx
    dsimp only
    k_steps
    exact h _ _ _ (by with_reducible assumption) (by with_reducible assumption)
end
/-- texts laid with commas between -/
noncomputable def joinL : List (List Nat) → List Nat
  | [] => []
  | [x] => x
  | x :: y :: r => x ++ 44 :: joinL (y :: r)
theorem strsAre_snoc {vs : List Value} {ys : List Str} {z : Str} {t : Tok} (h : StrsAre vs ys) : StrsAre (vs ++ [.str z t]) (ys ++ [z]) := by
  induction h with
  | nil => exact .cons _ _ .nil
  | cons y t _ ih => exact .cons _ _ ih
theorem joinTxt : ∀ l : List (List Nat), Txt.join (Str.ofString ",") (l.map mkS) = mkS (joinL l) := by
  intro l
  show Builtin.Str.glued _ _ = _
  rw [StrLaws.glued_eq_join]
  induction l with
  | nil => exact mkS_nil.symm ▸ (by decide +kernel)
  | cons x r ih =>
    cases r with
    | nil => rfl
    | cons y r =>
      show mkS x ++ Str.ofString "," ++ Str.join (Str.ofString ",") ((y :: r).map mkS) = _
      rw [ih, show Str.ofString "," = mkS [44] from by decide +kernel, mkS_append, mkS_append]
      show _ = mkS (x ++ 44 :: joinL (y :: r))
      rw [List.append_assoc]; rfl
theorem joinL_len : ∀ {n : Nat} {l : List (List Nat)}, (∀ x ∈ l, x.length ≤ n) → (joinL l).length ≤ (n + 1) * l.length
  | _, [], _ => Nat.zero_le _
  | n, [x], h => by have := h x (.head _); simp [joinL]; omega
  | n, x :: y :: r, h => by
    have h1 := h x (.head _)
    have h2 := joinL_len (l := y :: r) fun z hz => h z (.tail _ hz)
    rw [joinL, List.length_append, List.length_cons]
    rw [List.length_cons, Nat.mul_succ]
    omega
noncomputable abbrev P3 := List Nat × List Nat × List Nat
noncomputable def wA (p : P3) : List Nat := 34 :: 34 :: (p.2.2 ++ p.1)
noncomputable def wB (p : P3) : List Nat := p.2.2 ++ (p.1 ++ [34, 34])
noncomputable def el (p : P3) : List Nat := wA p ++ 44 :: wB p
theorem joinL_el : ∀ ps : List P3, joinL (ps.map el) = joinL (ps.flatMap fun p => [wA p, wB p])
  | [] => rfl
  | [p] => rfl
  | p :: q :: r => by
    have ih := joinL_el (q :: r)
    show el p ++ 44 :: joinL ((q :: r).map el) = wA p ++ 44 :: (wB p ++ 44 :: joinL ((q :: r).flatMap fun p => [wA p, wB p]))
    rw [ih, el]; simp
theorem wq_pe {x : Nat} (h : x ≠ 44) : wq PE x := by
  refine ⟨?_, rfl, by simp⟩
  show hasC (Str.ofString ",") x = false
  unfold hasC
  rw [show (Str.ofString ",").cps.toList = [44] from by decide +kernel]
  simpa using h
theorem pe_first {c : Nat} (h : c ≠ 44) (r : List Nat) (ln : Int) : rt PE (c :: r) ln .blank [] = rt PE r (ln + nlc c) .word [c] := by
  obtain ⟨h1, h2, _⟩ := wq_pe h
  rw [rt_blank, if_neg (by rw [h1]; decide), if_neg (by rw [h2]; decide)]
  split
  · rfl
  · rw [if_neg (by show ¬ hasC (Str.ofString "") c = true; rw [hasC_nil]; decide), if_pos rfl]
theorem pe_word {w : List Nat} (hw : w ≠ []) (hc : 44 ∉ w) (rest : List Nat) (ln : Int) : rt PE (w ++ 44 :: rest) ln .blank [] = .ok rest (ln + nls w) .blank w none := by
  cases w with
  | nil => exact absurd rfl hw
  | cons c r =>
    have h1 : c ≠ 44 := fun e => hc (e ▸ .head _)
    rw [List.cons_append, pe_first h1, rt_w PE r _ _ [c] fun x hx => wq_pe fun e => hc (e ▸ .tail _ hx), rt_word, if_pos (by decide +kernel), show nlc 44 = 0 from rfl, nls_cons]
    simp [Int.add_assoc]
theorem pe_last {w : List Nat} (hw : w ≠ []) (hc : 44 ∉ w) (ln : Int) : rt PE w ln .blank [] = .ok [] (ln + nls w) .dead w none := by
  cases w with
  | nil => exact absurd rfl hw
  | cons c r =>
    have h1 : c ≠ 44 := fun e => hc (e ▸ .head _)
    have := rt_w PE r [] (ln + nlc c) [c] fun x hx => wq_pe fun e => hc (e ▸ .tail _ hx)
    rw [List.append_nil] at this
    rw [pe_first h1, this, rt_word_nil, nls_cons]
    simp [Int.add_assoc]
theorem pe_dead (ln : Int) : gtok PE ⟨[], ln, .dead, none⟩ = .ok [] ⟨[], ln, .dead, none⟩ := gtok_ok (rt_dead_nil PE ln [])
theorem ends_toks : ∀ (ws : List (List Nat)) (ln : Int), (∀ w ∈ ws, w ≠ [] ∧ 44 ∉ w) → ∃ ln', Toks PE ⟨joinL ws, ln, .blank, none⟩ ws ⟨[], ln', .dead, none⟩
  | [], ln, _ => ⟨ln, .stop (gtok_ok (rt_blank_nil PE ln []))⟩
  | [w], ln, h => by
    obtain ⟨h1, h2⟩ := h w (.head _)
    refine ⟨ln + nls w, ?_⟩
    have e := gtok_ok (pe_last h1 h2 ln)
    cases w with
    | nil => exact absurd rfl h1
    | cons c r => exact .more e (.stop (pe_dead _))
  | w :: w2 :: r, ln, h => by
    obtain ⟨h1, h2⟩ := h w (.head _)
    obtain ⟨ln', hT⟩ := ends_toks (w2 :: r) (ln + nls w) fun x hx => h x (.tail _ hx)
    refine ⟨ln', ?_⟩
    have e := gtok_ok (pe_word h1 h2 (joinL (w2 :: r)) ln)
    cases w with
    | nil => exact absurd rfl h1
    | cons c r2 => exact .more e hT
theorem strip_wA {p : P3} (hk : IsKey p.1) : strip (wA p) = 34 :: (p.2.2 ++ p.1) := by
  unfold strip stripA wA
  rw [if_pos (by simp)]
  unfold stripB
  rw [List.tail_cons, if_neg]
  have : ∃ q z, p.1 = q ++ [z] ∧ z ≠ 34 := by
    cases h : p.1 with
    | nil => rw [h] at hk; cases hk
    | cons a b =>
      rw [h] at hk
      cases hk
      · exact ⟨[], 107, rfl, by decide⟩
      · exact ⟨[75], 55, rfl, by decide⟩
      · exact ⟨[95], 120, rfl, by decide⟩
  obtain ⟨q, z, e, hz⟩ := this
  rw [e, show 34 :: (p.2.2 ++ (q ++ [z])) = (34 :: (p.2.2 ++ q)) ++ [z] from by simp, List.getLast?_concat]
  simpa using hz
theorem strip_wB {p : P3} (hk : IsKey p.1) (hv : p.2.2.head? ≠ some 34) : strip (wB p) = p.2.2 ++ (p.1 ++ [34]) := by
  unfold strip stripA wB
  rw [if_neg]
  · unfold stripB
    rw [show p.2.2 ++ (p.1 ++ [34, 34]) = (p.2.2 ++ (p.1 ++ [34])) ++ [34] from by simp, List.getLast?_concat, if_pos rfl, List.dropLast_concat]
  · cases h : p.2.2 with
    | nil =>
      cases h2 : p.1 with
      | nil => rw [h2] at hk; cases hk
      | cons a b => rw [h2] at hk; cases hk <;> simp
    | cons a b => rw [h] at hv; simpa using hv
section
open PyProof.Rows.LCg
noncomputable abbrev edm (x ra : Addr) : Str → Option Value := fun y => if y = Str.ofString "lexer" then some (.ref x) else if y = Str.ofString "rows" then some (.ref ra) else none
theorem edm_init (x ra : Addr) (y : Str) : (if y = Str.ofString "lexer" then some (Value.ref x) else List.lookup y [(Str.ofString "rows", Value.ref ra)]) = edm x ra y := by
  simp only [edm]
  by_cases h1 : y = Str.ofString "lexer"
  · rw [if_pos h1, if_pos h1]
  rw [if_neg h1, if_neg h1]
  by_cases h5 : y = Str.ofString "rows"
  · subst h5; rfl
  · rw [if_neg h5]; show List.lookup y _ = none; rw [List.lookup_cons, beq_false_of_ne h5]; rfl
noncomputable def pkd (f : Nat → Tok) (a4 a6 a8 : Tok) : Nat → Tok := fun n => if n = 4 then a4 else if n = 6 then a6 else if n = 8 then a8 else f n
theorem len_qq : (Str.ofString "\"\"").length = 2 := by decide +kernel
theorem len_comma : (Str.ofString ",").length = 1 := by decide +kernel
theorem el_is {p : P3} {K V q c z1 z2 z3 z4 z5 z6 : Str} (hK : K = mkS p.1) (hV : V = mkS p.2.2) (hq : q = Str.ofString "\"\"") (hc : c = Str.ofString ",") (h1 : SumS z1 q V) (h2 : SumS z2 z1 K) (h3 : SumS z3 z2 c) (h4 : SumS z4 z3 V) (h5 : SumS z5 z4 K) (h6 : SumS z6 z5 q) : z6 = mkS (el p) := by
  obtain ⟨rfl⟩ := h6; obtain ⟨rfl⟩ := h5; obtain ⟨rfl⟩ := h4; obtain ⟨rfl⟩ := h3; obtain ⟨rfl⟩ := h2; obtain ⟨rfl⟩ := h1
  subst hK hV hq hc
  rw [show Str.ofString "\"\"" = mkS [34, 34] from by decide +kernel, show Str.ofString "," = mkS [44] from by decide +kernel, mkS_append, mkS_append, mkS_append, mkS_append, mkS_append, mkS_append]
  simp [el, wA, wB]
section
variable {w : World} {s : Shared} {base h₀ : Heap} {L : Addr} {m : Str → Option Value} {env : Env} {mg mb : Str → Option Value} {mean : ExcName → Option Value} {R : Result → Shared → Prop} {loose : List Str}
  {news : List (Addr × Obj)}
theorem ends_spec {ra : Addr} {rv : List Value} {rc : Nat} {ps : List P3} (C : Amb w (callerA.deeper env) base h₀ [] env L mg mb mean loose 20) (XB : (hd2.heap_1 w.params).In base) (TB : Top hdQ loose mean mg mb base) (F : Fr h₀ L s.heap m) (N : News h₀ L s.heap ((ra, W.listOf rv.toArray rc) :: news))
  (hD : DatAll ((ra, W.listOf rv.toArray rc) :: news) rv (ps.map row3)) (hps : ps.length ≤ 20) (hsh : ∀ p ∈ ps, Short3 p) {whole : List (List Nat)} {lnf : Int} (hT : Toks PE ⟨joinL (ps.map el), 1, .blank, none⟩ whole ⟨[], lnf, .dead, none⟩)
  (hwl : ∀ t ∈ whole, (mkS t).length ≤ 4096)
  (h : ∀ h' tk r ex, Fr h₀ L h' m → DatIn ex (.ref r) (.list ((whole ++ [[]]).map fun t => Dat.str (mkS (strip t)))) → News h₀ L h' (ex ++ ((ra, W.listOf rv.toArray rc) :: news)) → R (.ok (.ret (.ref r))) { s with heap := h', toks := tk }) :
  codeAny (model PySem.Challenge.rw_nq0177_02.row.prog w) (callerA.deeper env) (.call (.ref 757) ⟨[.ref ra], []⟩) R s := by
  obtain ⟨⟨A₀, B⟩, X₀, T, hA, hf, hk, hroom, hh⟩ := C
  simp only [depth_deeper, depth_caller] at hroom
  walk_at "my enterS0"
  intro g L' h₁ FG F₁ N₁ B' X' T' D'
  dsimp only
  k_fold
  repeat ((fail_if_success (with_reducible show wpAny _ _ (eval (Expr.ListComp _ _ _ _) _) _ _ _)); (first | walk1 | (dsimp only; walk1)))
  refine ListComp_3 (F₀ := by k_asm) (by with_unfolding_all rfl) (by decide) (by rfl) (by decide) (by rfl) (by rfl) (by rfl) (by decide) (by decide) (by decide) ?_
  repeat ((fail_if_success (with_reducible show C3At _ _ _ _ _ _ _ _ _ _ _ _ _ _ _ _)); (first | walk1 | (dsimp only; walk1)))
  have hrl : rv.length = ps.length := by rw [hD.length, List.length_map]
  refine ⟨ra, rv, rc, (ra, W.listOf rv.toArray rc) :: news, fun i ys => StrsAre ys ((ps.take i).map fun p => mkS (el p)), rfl, ⟨by rfl, by k_asm, by k_asm, .head _, by rw [sizeLine_eq]; omega, .nil, ?step, ?fin⟩⟩
  case step =>
    intro g9 i ys v hv hI
    have hi : i < ps.length := by rw [← hrl]; exact (List.getElem?_eq_some_iff.mp hv).1
    obtain ⟨v2, hv2, hvd⟩ := hD.get (k := i) (by rw [List.length_map]; exact hi)
    rw [hv] at hv2; cases hv2
    rw [List.getElem_map] at hvd
    obtain ⟨r, n, t1, t2, t3, rfl, hrm⟩ := row3_open hvd
    obtain ⟨sa, sb, sc⟩ := hsh ps[i] (List.getElem_mem hi)
    refine ⟨r, _, _, _, n, rfl, hrm, ?_⟩
    intro I9 oI9 C9 oC9 D9 m9 h9 tk9 E9 hC9 hx9 hy9 hz9 F9 N9 off9 ne9
    obtain ⟨K, hK⟩ : ∃ K, K = mkS ps[i].1 := ⟨_, rfl⟩
    obtain ⟨V, hV⟩ : ∃ K, K = mkS ps[i].2.2 := ⟨_, rfl⟩
    rw [← hK] at sa hx9
    rw [← hV] at sc hz9
    have hl1 := len_qq
    have hl2 := len_comma
    have hs1 : (ps.take (i + 1)).map (fun p => mkS (el p)) = (ps.take i).map (fun p => mkS (el p)) ++ [mkS (el ps[i])] := by
      rw [List.take_add_one, List.getElem?_eq_getElem hi, List.map_append]; rfl
    clear hD hT hsh hvd h
    dsimp only
    repeat ((fail_if_success (with_reducible show C3Q _ _ _ _ _ _ _ _)); (first | walk1 | (dsimp only; walk1)))
    (with_reducible rename Fr g L' _ _ => F5)
    (with_reducible rename News g L' _ _ => N5)
    have ez := el_is (p := ps[i]) hK hV rfl rfl (by with_reducible assumption) (by with_reducible assumption) (by with_reducible assumption) (by with_reducible assumption) (by with_reducible assumption) (by with_reducible assumption)
    refine ⟨_, _, rfl, ?_, F5, N5⟩
    rw [hs1, ← ez]
    exact strsAre_snoc hI
  case fin =>
    intro ys D9 h9 tk9 hI F9 N9 o9
    rw [hrl, List.take_length] at hI
    clear F₁ N₁
    dsimp only
    repeat ((fail_if_success (with_reducible show wpAny _ _ (call (Value.builtin "str.join") _) _ _ _)); (first | walk1 | (dsimp only; walk1)))
    refine join_listW (ys := ps.map fun p => mkS (el p)) (led_any (by k_asm) (by k_mem) rfl rfl) hI (by decide +kernel) ?sz ?_
    case sz =>
      have hb : ∀ q : List P3, (∀ p ∈ q, Short3 p) → ((q.map fun p => mkS (el p)).map (·.length)).sum ≤ 40 * q.length := by
        intro q
        induction q with
        | nil => intro _; exact Nat.le_refl _
        | cons p r ih =>
          intro hq
          have h1 := ih fun x hx => hq x (.tail _ hx)
          obtain ⟨s1, s2, s3⟩ := hq p (.head _)
          rw [mkS_length] at s1 s2 s3
          have h2 : (mkS (el p)).length ≤ 40 := by rw [mkS_length]; simp [el, wA, wB]; omega
          simp only [List.map_cons, List.sum_cons, List.length_cons]
          omega
      have := hb ps hsh
      rw [List.length_map]; omega
    intro tj kj
    rw [show (ps.map fun p => mkS (el p)) = (ps.map el).map mkS from by simp, joinTxt]
    dsimp only
    repeat ((fail_if_success (with_reducible show wpAny _ _ (call (Value.ref 729) _) _ _ _)); (first | walk1 | (dsimp only; walk1)))
    refine wpAny_call ?_
    refine' lex_spec ?C ?F ?N ?_
    case F => k_asm
    case N => k_asm
    case C => walk_at "my amb"
    intro x dx y dy pb fs kh kt vt t0 t1 t2 t3 h2 tk2 F2 N2 o2 l2
    dsimp only
    clear F9 N9
    have hjl : (joinL (ps.map el)).length ≤ 900 := by
      have h1 : ∀ z ∈ ps.map el, z.length ≤ 40 := by
        intro z hz
        obtain ⟨p, hp, rfl⟩ := List.mem_map.mp hz
        obtain ⟨s1, s2, s3⟩ := hsh p hp
        rw [mkS_length] at s1 s2 s3
        simp [el, wA, wB]; omega
      have h2 := joinL_len h1
      rw [List.length_map] at h2
      omega
    have hns : ∀ q ∈ (ra, W.listOf rv.toArray rc) :: news, q ∈ (D9, lst ys) :: (ra, W.listOf rv.toArray rc) :: news := fun q hq => .tail _ hq
    generalize (D9, lst ys) :: (ra, W.listOf rv.toArray rc) :: news = nl at N2 l2 hns
    generalize hjoin : joinL (ps.map el) = l at *
    have hl : (mkS l).length ≤ 4000 := by rw [mkS_length]; omega
    have e1 : ∀ p ∈ nl, p.1 ≠ dx := fun p hp => Nat.ne_of_lt (l2 p hp)
    repeat ((fail_if_success (with_reducible show wpAny _ _ (call (Value.type _) _) _ _ _)); (first | walk1 | (dsimp only; walk1)))
    (with_reducible rename Fr g L' _ _ => F8)
    (with_reducible rename News g L' _ _ => N8)
    obtain ⟨a4, a6, a8, N9⟩ : ∃ a4 a6 a8, News g L' _ (LG kh kt (pkd vt a4 a6 a8) y dy x dx pb fs (Str.ofString "") (Str.ofString ",") (Str.ofString "") true (mkS l) ((fs, dqObj 0 []) :: nl) 0 0 (.str (Str.ofString " ") t0) 1 (Str.ofString "") t1 t2 t3 []) := ⟨_, _, _, N8⟩
    clear N8
    generalize pkd vt a4 a6 a8 = vt9 at N9
    have hl4 : (mkS l).length ≤ 4096 := by rw [mkS_length]; omega
    have hq1 : hasC (Str.ofString "") 97 = false := hasC_nil _
    have hq2 : hasC (Str.ofString "") 32 = false := hasC_nil _
    generalize hlf : (⟨[], lnf, .dead, none⟩ : LX) = lxf at hT
    have F9 : Fr g L' _ (edm x ra) := fr_congr F8 (edm_init x _)
    clear F8
    let fsA : List Addr := List.filterMap (fun x => x.frame) [env]
    refine wpAny_mono (Q := ListQ fsA (callerA.deeper env) base env w loose mean mg mb s g L' (edm x ra) kh kt vt9 y dy x dx pb fs PE (mkS l) nl whole lxf) ?list ?cont (fun _ _ z => z)
    case list =>
      refine' call_list_own (RJ kh kt vt9 y dy x dx pb fs PE (mkS l) nl whole lxf) ?lF ?lN ?lX ?lI ?l1 ?l2 ?iter ?turn
      case lF => k_asm
      case lN => k_asm
      case lX => k_asm
      case lI => k_inst
      case l1 => k_is
      case l2 => k_is
      case iter =>
        intro a h' c F1 N1 I1 hlt
        refine' owit_iter ?F ?X ?I ?hs ?hf ?_
        case F => exact F1
        case X => k_asm
        case I => exact I1
        case hs => k_is
        case hf => k_is
        have y1 : ∀ (tk0 : Nat) (ox : Obj) (od : Option Obj) led, News g L' h' ((a, W.listOf #[] c) :: led) → led = LG kh kt vt9 y dy x dx pb fs (Str.ofString "") (Str.ofString ",") (Str.ofString "") true (mkS l) ((fs, dqObj 0 []) :: nl) 0 0 (.str (Str.ofString " ") t0) 1 (Str.ofString "") t1 t2 t3 [] →
            ∀ h'' tk, Fr g L' h'' (edm x ra) → InstAt h'' x ox 729 od → News g L' h'' ((a, W.listOf #[] c) :: led) → LoIter { s with heap := h', toks := tk0 } g L' (edm x ra) a x 729 ox od (RJ kh kt vt9 y dy x dx pb fs PE (mkS l) nl whole lxf) (.ref x) { s with heap := h'', toks := tk } := by
          rintro tk0 ox od _ N0 rfl h'' tk F I N
          exact ⟨rfl, I, l.length + 1, h'', tk, c, _, rfl, F, N, fun p hp => Nat.ne_of_lt (hlt p hp), Nat.zero_le _, [], ⟨l, 1, .blank, none⟩, 0, t0, t1, t2, t3, t0, [], whole, rfl, rfl, .inl rfl, by simp [LX.meas], .nil, hT, rfl, by rw [mkS_length] at hl; simp [LX.meas]; omega⟩
        clear hT h
        k_steps
        exact y1 _ _ _ _ N1 rfl _ _ (by assumption) (by k_inst) (by assumption)
      case turn =>
        intro a h' n acc s' hlt hs
        obtain ⟨h1, tk1, c, led, rfl, F1, N1, hne, hal, pre, lx, kq, u0, u1, u2, u3, up, done, rest, rfl, hbuf, hok, hm, hD, hTk, hw, hlen⟩ := hs
        refine' owit_next ?F ?X ?I ?hs ?hf ?_
        case F => exact F1
        case X => k_asm
        case I => k_inst
        case hs => k_is
        case hf => k_is
        refine wpAny_call ?_
        have ha : a ≠ dy ∧ a ≠ dx ∧ a ≠ pb := ⟨fun e => hne _ (.tail _ (.head _)) e.symm, fun e => hne _ (.tail _ (.tail _ (.tail _ (.head _)))) e.symm, fun e => hne _ (.tail _ (.tail _ (.tail _ (.tail _ (.head _))))) e.symm⟩
        refine' next_spec (lx := lx) (pre := pre) (out := gtok PE lx) (rest := (a, W.listOf acc.toArray c) :: nl) ?C F1 (news_in N1) ?nne ?nnf ?nr1 ?nr2 ?nr3 hl4 hbuf hok rfl hq1 hq2 ?ok ?stop ?err
        case C => walk_at "my amb"
        case nne => omega
        case nnf => omega
        case nr1 =>
          intro p hp
          rcases List.mem_cons.mp hp with rfl | hp
          · exact ha.1
          · exact Nat.ne_of_lt (Nat.lt_trans (l2 p hp) (Nat.lt_trans o2.1 o2.2.1))
        case nr2 =>
          intro p hp
          rcases List.mem_cons.mp hp with rfl | hp
          · exact ha.2.1
          · exact e1 p hp
        case nr3 =>
          intro p hp
          rcases List.mem_cons.mp hp with rfl | hp
          · exact ha.2.2
          · exact Nat.ne_of_lt (Nat.lt_trans (l2 p hp) (Nat.lt_trans o2.1 (Nat.lt_trans o2.2.1 (Nat.lt_trans o2.2.2.1 o2.2.2.2.1))))
        case ok =>
          intro h' tk' pre' lx' ch res kq' t t0' t1' t2' t3' tp' ho hbuf' F' N'
          obtain ⟨hok', hms⟩ := gtok_left hok ho
          have hms' := hms (by simp)
          have hrest : ∃ rest', rest = (ch :: res) :: rest' ∧ Toks PE lx' rest' lxf := by
            cases hTk with
            | stop h1 => rw [ho] at h1; cases h1
            | more h1 h2 => rw [ho] at h1; cases h1; exact ⟨_, rfl, h2⟩
          obtain ⟨rest', rfl, hTk'⟩ := hrest
          exact ⟨h', tk', c, _, lx'.meas + 1, by omega, rfl, F', news_out N', led_off hne, by omega, pre', lx', kq', t0', t1', t2', t3', tp', done ++ [ch :: res], rest', rfl, hbuf', hok', Nat.lt_succ_self _, by rw [List.map_append]; exact hD.append (.one (DatIn.str _ t)), hTk', by rw [← hw]; simp, by rw [List.length_append, List.length_singleton]; omega⟩
        case stop =>
          intro e t G h' tk' pre' lx' kq' t0' t1' t2' t3' tp' ho hbuf' FG2 US RS
          obtain ⟨hok', _⟩ := gtok_left hok ho
          have hrest : rest = [] ∧ lx' = lxf := by
            cases hTk with
            | stop h1 => rw [ho] at h1; cases h1; exact ⟨rfl, rfl⟩
            | more h1 h2 => rw [ho] at h1; cases h1
          obtain ⟨rfl, rfl⟩ := hrest
          refine stop_S RS FG2 B' US XB TB D' (by rw [isSubtype_type]; kernel_rfl) ?_
          intro g1 KT F' N' B1 X1 T1 D1
          exact ⟨g1, _, _, a, c, acc, pre', kq', t0', t1', t2', t3', tp', rfl, rfl, KT, F', B1, X1, T1, D1, by rw [← hw, List.append_nil]; exact hD, hal, hok', hbuf', led_off hne, news_out N'⟩
        case err =>
          intro e3 t3' tm3 G3 h3 tk3 ho3
          exfalso
          cases hTk with
          | stop h1 => rw [ho3] at h1; cases h1
          | more h1 h2 => rw [ho3] at h1; cases h1
    case cont =>
      rintro v s' ⟨g1, h5, tk5, a, c, acc, pre, kq, u0, u1, u2, u3, up, rfl, rfl, KT, F1, B1, X1, T1, D1, hD2, hal, hok, hbuf, hoa, N1⟩
      clear X' T' B' D' F9 N9 hT
      have ha : a ≠ dy ∧ a ≠ dx ∧ a ≠ pb := ⟨fun e => hoa _ (.tail _ (.head _)) e.symm, fun e => hoa _ (.tail _ (.tail _ (.tail _ (.head _)))) e.symm, fun e => hoa _ (.tail _ (.tail _ (.tail _ (.tail _ (.head _))))) e.symm⟩
      clear hoa
      repeat ((fail_if_success (with_reducible show wpAny _ _ (eval (Expr.ListComp _ _ _ _) _) _ _ _)); (first | walk1 | (dsimp only; walk1)))
      refine ListComp_U (F₀ := by k_asm) (by with_unfolding_all rfl) (by decide) (by rfl) (by decide) (by rfl) ?_
      repeat ((fail_if_success (with_reducible show wpAny _ _ (call (Value.ref 690) _) _ _ _)); (first | walk1 | (dsimp only; walk1)))
      (with_reducible rename Fr g1 L' _ _ => F2)
      (with_reducible rename News g1 L' _ _ => N2)
      have hg : gtok PE lxf = .ok [] lxf := by rw [← hlf]; exact pe_dead lnf
      dsimp only
      refine wpAny_call ?_
      refine' get_spec (lx := lxf) (pre := pre) (out := .ok [] lxf) (rest := (a, W.listOf acc.toArray c) :: nl) ?gC F2 (news_in N2) ?ghne ?ghnf ?ghr1 ?ghr2 ?ghr3 hl4 hbuf hok hg hq1 hq2 ?gok ?gerr
      case gC => walk_at "my amb"
      case ghne => omega
      case ghnf => omega
      case ghr1 =>
        intro p hp
        rcases List.mem_cons.mp hp with rfl | hp
        · exact ha.1
        · exact Nat.ne_of_lt (Nat.lt_trans (l2 p hp) (Nat.lt_trans o2.1 o2.2.1))
      case ghr2 =>
        intro p hp
        rcases List.mem_cons.mp hp with rfl | hp
        · exact ha.2.1
        · exact e1 p hp
      case ghr3 =>
        intro p hp
        rcases List.mem_cons.mp hp with rfl | hp
        · exact ha.2.2
        · exact Nat.ne_of_lt (Nat.lt_trans (l2 p hp) (Nat.lt_trans o2.1 (Nat.lt_trans o2.2.1 (Nat.lt_trans o2.2.2.1 o2.2.2.2.1))))
      case gerr => intro _ _ _ _ _ _ ho; cases ho
      case gok =>
        intro h3 tk3 pre3 lx3 res kq3 u t03 t13 t23 t33 tp3 ho3 hbuf3 F3 N3
        cases ho3
        clear F2 N2
        dsimp only
        have N4 := news_out N3
        clear N3
        generalize LG kh kt vt9 y dy x dx pb fs PE.com PE.ws PE.quotes PE.split (mkS l) ((fs, dqObj 0 []) :: nl) kq3 pre3.length (lxf.st.val t03) lxf.ln (Str.ofString "") t13 t23 t33 (pbsOf lxf.push tp3) = led at N4
        repeat ((fail_if_success (with_reducible show wpAny _ _ (binaryOp _ (Value.ref _) (Value.ref _)) _ _ _)); (first | walk1 | (dsimp only; walk1)))
        (with_reducible rename Fr g1 L' _ _ => F5)
        (with_reducible rename News g1 L' _ _ => N5)
        have hacl : acc.length ≤ 4096 := hal
        refine add_lists (vs := acc) (ws := [Value.str (mkS []) u]) F5 N5 (led_list N5 (.tail _ (.head _))) (led_list N5 (.head _)) ?_ (by rw [sizeLine_eq, List.length_singleton]; omega)
        intro h6 F6 N6
        dsimp only at F6 N6 ⊢
        generalize Array.size (Heap.objs _) = D4 at N6 ⊢
        have N7 : News g1 L' h6 ((D4, W.listOf (acc ++ [Value.str (mkS []) u]).toArray 0) :: nl) := fun q hq => N6 q (by
          rcases List.mem_cons.mp hq with hq | hq
          · exact List.mem_cons.mpr (.inl hq)
          · simp only [List.mem_cons]; simp [hq])
        clear N6 N5
        have hDw : DatAll [] (acc ++ [Value.str (mkS []) u]) ((whole ++ [[]]).map tokD) := by
          rw [List.map_append]; exact hD2.append (.one (.str _ _))
        have hwl2 : ∀ t ∈ whole ++ [[]], (mkS t).length ≤ 4096 := by
          intro t ht
          rcases List.mem_append.mp ht with ht | ht
          · exact hwl t ht
          · rw [List.mem_singleton.mp ht]; decide +kernel
        have hwlen : (acc ++ [Value.str (mkS []) u]).length = (whole ++ [[]]).length := by rw [hDw.length, List.length_map]
        have fin : ∀ h9 tk9 D ys n, Fr h₀ L h9 m → DatAll [] ys ((whole ++ [[]]).map fun t => Dat.str (mkS (strip t))) → (∃ led, News h₀ L h9 led ∧ (D, W.listOf ys.toArray n) ∈ led ∧ ∀ q ∈ nl, q ∈ led) → R (.ok (.ret (.ref D))) { s with heap := h9, toks := tk9 } := by
          rintro h9 tk9 D ys n F9 hd ⟨led, N9, hm, hs⟩
          refine h _ _ D [(D, W.listOf ys.toArray n)] F9 (.list (vs := ys) (n := n) (.head _) (hd.mono fun q hq => by cases hq)) (fun q hq => N9 q ?_)
          rcases List.mem_cons.mp hq with rfl | hq
          · exact hm
          · exact hs q (hns q hq)
        clear h hD2 hsh hD hI
        refine CompSrc.ledger (by rfl) F6 N7 (.head _) (by rw [sizeLine_eq, List.size_toArray, List.length_append, List.length_singleton]; omega) ?_
        intro g9
        refine comp_ind1 (acc ++ [Value.str (mkS []) u]) (fun i ys n9 => n9 = (D4, W.listOf (acc ++ [Value.str (mkS []) u]).toArray 0) :: nl ∧ DatAll [] ys (((whole ++ [[]]).take i).map fun t => Dat.str (mkS (strip t)))) ⟨rfl, .nil⟩ ?cfin ?cstep
        case cstep =>
          rintro i ys v n9 hv ⟨rfl, hI⟩ I9 oI9 C9 oC9 D9 m9 h9 tk9 E9 hC9 hx9 F9 N9 off9 ne9
          have hi : i < (whole ++ [[]]).length := by rw [← hwlen]; exact (List.getElem?_eq_some_iff.mp hv).1
          obtain ⟨v2, hv2, hvd⟩ := hDw.get (k := i) (by rw [List.length_map]; exact hi)
          rw [hv] at hv2; cases hv2
          rw [List.getElem_map] at hvd
          have hlt := hwl2 (whole ++ [[]])[i] (List.getElem_mem hi)
          have hs1 : ((whole ++ [[]]).take (i + 1)).map (fun t => Dat.str (mkS (strip t))) = ((whole ++ [[]]).take i).map (fun t => Dat.str (mkS (strip t))) ++ [Dat.str (mkS (strip (whole ++ [[]])[i]))] := by
            rw [List.take_add_one, List.getElem?_eq_getElem hi, List.map_append]; rfl
          unfold tokD at hvd
          generalize (whole ++ [[]])[i] = tw at *
          cases hvd
          dsimp only
          repeat ((fail_if_success (with_reducible show CompEnd _ _ _ _ _ _ _ _ _ _ _ _ _ _)); (first | walk1 | (dsimp only; walk1)))
          k_unfold
          (with_reducible rename Fr g1 L' _ _ => F5)
          (with_reducible rename News g1 L' _ _ => N5)
          refine ⟨_, _, _, rfl, F5, N5, off9, .inr ⟨_, .head _, rfl, _, rfl⟩, rfl, ?_⟩
          rw [hs1]
          exact hI.append (.one (.str _ _))
        case cfin =>
          rintro ys n9 ⟨rfl, hI⟩
          rw [hwlen, List.take_length] at hI
          intro D9 h9 tk9 F9 N9 o9
          dsimp only
          k_steps
          (with_reducible rename Fr h₀ L _ _ => kF9)
          (with_reducible rename News h₀ L _ _ => kN9)
          exact fin _ _ _ _ _ kF9 hI ⟨_, kN9, .head _, fun q hq => .tail _ (.tail _ hq)⟩
end
end
noncomputable def rowOf (g : Setg) : P3 := (g.key, [61], strip g.tok)
noncomputable def tokOf (g : Setg) : P3 := (g.key, [61], g.tok)
theorem wq_34 : wq P0 34 := ⟨by decide +kernel, by decide +kernel, by decide +kernel⟩
/-- the setting written anew -/
theorem short_of {g : Setg} (h : g.Good) : ∃ g2 : Setg, g2.Ok ∧ g2.text = wr (rowOf g) ∧ rowOf g2 = rowOf g := by
  obtain ⟨⟨hk, _, _, _, _⟩, ⟨hv, _, _, _⟩⟩ := h
  generalize hvv : strip g.tok = v at hv
  have hrow : rowOf g = (g.key, [61], v) := by unfold rowOf; rw [hvv]
  rw [hrow]
  by_cases h34 : 34 ∈ v
  · cases hv with
    | plain h => exact absurd rfl (h 34 h34)
    | @sq c hc =>
      refine ⟨⟨g.key, [], [], 39 :: (c ++ [39]), [], 39 :: (c ++ [39])⟩, ⟨hk, .none, .none, .none, .sq hc⟩, ?_, ?_⟩
      · unfold wr; rw [if_pos h34, if_pos (by simp)]; simp [Setg.text]
      · unfold rowOf; dsimp only; rw [strip_sq]
    | @bare c hc =>
      refine ⟨⟨g.key, [], [], 97 :: ((c ++ [34]) ++ [32]), [], 97 :: (c ++ [34])⟩, ⟨hk, .none, .none, .none, .bare fun x hx => ?_⟩, ?_, ?_⟩
      · rcases List.mem_append.mp hx with hx | hx
        · exact hc x hx
        · rw [List.mem_singleton.mp hx]; exact wq_34
      · unfold wr; rw [if_pos h34, if_neg (by simp)]; simp [Setg.text]
      · unfold rowOf; dsimp only
        rw [strip_bare, cut34, if_pos (by rw [← List.cons_append, List.getLast?_concat]), ← List.cons_append, List.dropLast_concat]
  · refine ⟨⟨g.key, [], [], 34 :: (v ++ [34]), [], 34 :: (v ++ [34])⟩, ⟨hk, .none, .none, .none, .dq fun x hx e => h34 (e ▸ hx)⟩, ?_, ?_⟩
    · unfold wr; rw [if_neg h34]; simp [Setg.text]
    · unfold rowOf; dsimp only; rw [strip_dq]
theorem shorts : ∀ gs : List Setg, (∀ g ∈ gs, g.Good) → ∃ gs2 : List Setg, (∀ g ∈ gs2, g.Ok) ∧ gs2.flatMap Setg.text = (gs.map rowOf).flatMap wr ∧ gs2.map rowOf = gs.map rowOf
  | [], _ => ⟨[], fun _ h => (nomatch h), rfl, rfl⟩
  | g :: gs, h => by
    obtain ⟨g2, a1, a2, a3⟩ := short_of (h g (.head _))
    obtain ⟨gs2, b1, b2, b3⟩ := shorts gs fun x hx => h x (.tail _ hx)
    refine ⟨g2 :: gs2, fun x hx => ?_, by rw [List.flatMap_cons, a2, b2]; rfl, by rw [List.map_cons, a3, b3]; rfl⟩
    rcases List.mem_cons.mp hx with rfl | hx
    · exact a1
    · exact b1 x hx
theorem toks_read (gs : List Setg) (h : ∀ g ∈ gs, g.Ok) : Toks P0 ⟨gs.flatMap Setg.text, 1, .blank, none⟩ ((gs.map tokOf).flatMap fun t => [t.1, t.2.1, t.2.2]) ⟨[], 1 + nls (gs.flatMap Setg.text), .dead, none⟩ := by
  rw [List.flatMap_map]
  exact toks_all gs 1 h
theorem seam_le {s : List Nat} (h : IsSeam s) : s.length ≤ 8 := by cases h <;> decide
theorem key_le {s : List Nat} (h : IsKey s) : s.length ≤ 2 := by cases h <;> decide
theorem row_short {g : Setg} (h : g.Good) : Short3 (rowOf g) := by
  refine ⟨?_, ?_, ?_⟩
  · rw [mkS_length]; have := key_le h.ok.key; unfold rowOf; dsimp only; omega
  · rw [mkS_length]; exact Nat.le_of_ble_eq_true rfl
  · rw [mkS_length]; have := h.val.len; unfold rowOf; dsimp only; omega
theorem key_no44 {k : List Nat} (h : IsKey k) : 44 ∉ k := by cases h <;> decide
theorem words_ok {gs : List Setg} (h : ∀ g ∈ gs, g.Good) : ∀ w ∈ (gs.map rowOf).flatMap (fun p => [wA p, wB p]), w ≠ [] ∧ 44 ∉ w ∧ w.length ≤ 20 := by
  intro w hw
  obtain ⟨p, hp, hw⟩ := List.mem_flatMap.mp hw
  obtain ⟨g, hg, rfl⟩ := List.mem_map.mp hp
  have hG := h g hg
  have k1 := key_no44 hG.ok.key
  have k2 := key_le hG.ok.key
  have v1 : 44 ∉ strip g.tok := fun e => (hG.val.sgn 44 e).1 rfl
  have v2 := hG.val.len
  simp only [List.mem_cons, List.not_mem_nil, or_false] at hw
  rcases hw with rfl | rfl
  · refine ⟨by simp [wA], ?_, by simp [wA, rowOf]; omega⟩
    simp [wA, rowOf, k1, v1]
  · refine ⟨by simp [wB], ?_, by simp [wB, rowOf]; omega⟩
    simp [wB, rowOf, k1, v1]
theorem toks_ends {gs : List Setg} (h : ∀ g ∈ gs, g.Good) : ∃ ln', Toks PE ⟨joinL ((gs.map rowOf).map el), 1, .blank, none⟩ ((gs.map rowOf).flatMap fun p => [wA p, wB p]) ⟨[], ln', .dead, none⟩ := by
  rw [joinL_el]
  exact ends_toks _ 1 fun w hw => ⟨(words_ok h w hw).1, (words_ok h w hw).2.1⟩
/-- what the law lays as the ends -/
noncomputable def endD (g : Setg) : List Dat := [.str (mkS (34 :: (strip g.tok ++ g.key))), .str (mkS (strip g.tok ++ (g.key ++ [34])))]
theorem ends_same {gs : List Setg} (h : ∀ g ∈ gs, g.Good) : (((gs.map rowOf).flatMap fun p => [wA p, wB p]) ++ [[]]).map (fun t => Dat.str (mkS (strip t))) = gs.flatMap endD ++ [Dat.str (Str.ofString "")] := by
  rw [List.map_append]
  refine congr (congrArg _ ?_) ?_
  · induction gs with
    | nil => rfl
    | cons g gs ih =>
      have hG := h g (.head _)
      rw [List.map_cons, List.flatMap_cons, List.map_append, ih fun x hx => h x (.tail _ hx), List.flatMap_cons]
      refine congrArg (· ++ _) ?_
      show [Dat.str (mkS (strip (wA (rowOf g)))), Dat.str (mkS (strip (wB (rowOf g))))] = _
      rw [strip_wA (p := rowOf g) hG.ok.key, strip_wB (p := rowOf g) hG.ok.key hG.val.head]; rfl
  · show [Dat.str (mkS (strip []))] = _
    rw [show strip [] = [] from rfl, mkS_nil]
theorem join0 : ∀ l : List (List Nat), Txt.join (Str.ofString "") (l.map mkS) = mkS (l.flatMap id) := by
  intro l
  show Builtin.Str.glued _ _ = _
  rw [StrLaws.glued_eq_join]
  induction l with
  | nil => exact mkS_nil.symm ▸ (by decide +kernel)
  | cons x r ih =>
    cases r with
    | nil => show mkS x = _; simp
    | cons y r =>
      show mkS x ++ Str.ofString "" ++ Str.join (Str.ofString "") ((y :: r).map mkS) = _
      rw [ih, ← mkS_nil, mkS_append, mkS_append]
      simp
theorem strip_ge (l : List Nat) : l.length ≤ (strip l).length + 2 := by
  unfold strip stripB stripA
  split <;> split <;> simp <;> omega
theorem body_ge {b t : List Nat} (h : Body b t) : b.length ≤ t.length + 9 := by
  cases h <;> simp [rem7] <;> omega
theorem tok_len {g : Setg} (h : g.Good) : g.tok.length ≤ 7 := by
  have h1 := strip_ge g.tok
  have h2 := h.val.len
  omega
theorem text_len {g : Setg} (h : g.Good) : g.text.length ≤ 60 := by
  have h1 := tok_len h
  have h2 := body_ge h.ok.body
  have h3 := seam_le h.ok.s1
  have h4 := seam_le h.ok.s2
  have h5 := seam_le h.ok.s3
  have h6 := key_le h.ok.key
  unfold Setg.text
  simp; omega
theorem texts_len : ∀ {gs : List Setg}, (∀ g ∈ gs, g.Good) → (gs.flatMap Setg.text).length ≤ 60 * gs.length
  | [], _ => Nat.le_refl _
  | g :: gs, h => by
    have h1 := text_len (h g (.head _))
    have h2 := texts_len (gs := gs) fun q hq => h q (.tail _ hq)
    rw [List.flatMap_cons, List.length_append, List.length_cons]; omega
theorem join_texts (gs : List Setg) : Txt.join (Str.ofString "") (gs.map fun g => mkS g.text) = mkS (gs.flatMap Setg.text) := by
  have := join0 (gs.map Setg.text)
  rw [List.map_map] at this
  rw [show (gs.map fun g => mkS g.text) = gs.map (mkS ∘ Setg.text) from rfl, this, List.flatMap_map]; rfl
theorem strOk_lt {l : List Nat} (h : ∀ c ∈ l, c < 128) : PyData.strOk (mkS l) = true := by
  unfold PyData.strOk
  refine Array.all_eq_true_iff_forall_mem.mpr fun c hc => ?_
  have := h c (by simpa [mkS] using hc)
  simp; omega
theorem key_lt {k : List Nat} (h : IsKey k) : ∀ c ∈ k, c < 128 := by cases h <;> decide
theorem row_ok {g : Setg} (h : g.Good) (n : Nat) : kqdOk (n + 1) (row3 (rowOf g)) = true := by
  unfold row3 rowOf
  simp only [kqdOk, List.all_cons, List.all_nil, Bool.and_true]
  rw [strOk_lt (key_lt h.ok.key), strOk_lt (l := [61]) (by decide), strOk_lt fun c hc => (h.val.sgn c hc).2]
  rfl
theorem rows_ok {gs : List Setg} (h : ∀ g ∈ gs, g.Good) (n : Nat) : kqdOk (n + 2) (.list (gs.map fun g => row3 (rowOf g))) = true := by
  simp only [kqdOk, List.all_eq_true]
  intro d hd
  obtain ⟨g, hg, rfl⟩ := List.mem_map.mp hd
  exact row_ok (h g hg) n
theorem count_nl (l : List Nat) : Txt.count (mkS l) (Str.ofString "\n") = nls l := by
  rw [show Str.ofString "\n" = ⟨#[10]⟩ from by decide +kernel, count_cnt, mkS_cps]
  induction l with
  | nil => rfl
  | cons c r ih =>
    rw [nls_cons, ← ih, cnt_cons]; rfl
section
open PyProof.Rows.LCg PyProof.Rows.LCp
theorem units_ok (env : Env) : (callerA.deeper env).units + 100 < cLine := by
  have h := cLine_is
  simp only [units_deeper, units_caller]
  omega
theorem units64 (env : Env) : (callerA.deeper env).units + 64 < cLine := by
  have := units_ok env; omega
theorem dec_self {α : Type} (x : α) [inst : Decidable (x = x)] : decide (x = x) = true := decide_eq_true rfl
theorem listKeep {h₀ h : Heap} {a : Addr} {its : Array Value} (x : h₀.IsList a its) (k : ∀ b o, h₀.get? b = some o → h.get? b = some o) : h.IsList a its := by
  obtain ⟨o, e, r⟩ := x; exact ⟨o, k _ _ e, r⟩
theorem ledOf {h₀ h : Heap} {L : Addr} {p : Addr × Obj} {r : List (Addr × Obj)} (N : News h₀ L h (p :: r)) : ∃ src, p ∈ src ∧ News h₀ L h src := ⟨_, .head _, N⟩
noncomputable def takeOf {vs : List Value} {ns : List Int} (_ : IntsAre vs ns) : List Value := vs
theorem pick5 (vs : List Value) : (slicePick vs.toArray none (some 5) none).toList = vs.take 5 := by
  have := slicePick_upto' vs.toArray 5
  rw [show (some 5 : Option Int) = some ((5 : Nat) : Int) from rfl, this]
theorem ints_item {vs : List Value} {ns : List Int} (h : IntsAre vs ns) : ∀ v ∈ vs, ∃ n t, v = Value.int n t := by
  intro v hv
  obtain ⟨i, hi, rfl⟩ := List.getElem_of_mem hv
  have hl := h.length
  obtain ⟨t, hx⟩ := h.get i (ns[i]'(by omega)) (List.getElem?_eq_getElem (by omega))
  rw [List.getElem?_eq_getElem hi] at hx
  exact ⟨_, t, Option.some.inj hx⟩
theorem two_ints {a b : Int} {t u : Tok} : ∀ v ∈ [Value.int a t, Value.int b u], ∃ n t, v = Value.int n t := by
  intro v hv
  simp only [List.mem_cons, List.not_mem_nil, or_false] at hv
  rcases hv with rfl | rfl <;> exact ⟨_, _, rfl⟩
theorem twoOf {src : List (Addr × Obj)} {D : Addr} {n : Nat} {t u : Tok} (_hm : (D, W.listOf [Value.int 72357 t, Value.int 0 u].toArray n) ∈ src) : (∀ v ∈ [Value.int 72357 t, Value.int 0 u], ∃ n t, v = Value.int n t) ∧ [Value.int 72357 t, Value.int 0 u].length ≤ 5 := ⟨two_ints, Nat.le_of_ble_eq_true rfl⟩
theorem setD_open {led : List (Addr × Obj)} {v : Value} {g : Setg} (h : DatIn led v (setD g)) : ∃ r p n1 n2 t1 t2 t3 t4, v = .ref r ∧ (r, W.listOf #[Value.str (mkS g.text) t1, Value.ref p] n1) ∈ led ∧ (p, W.listOf #[Value.str (mkS g.key) t2, Value.str (Str.ofString "=") t3, Value.str (mkS (strip g.tok)) t4] n2) ∈ led := by
  unfold setD at h
  cases h with
  | list hm hr => cases hr with
    | cons h1 r => cases h1; cases r with
      | cons h2 r => cases r; cases h2 with
        | list hm2 hr2 => cases hr2 with
          | cons h3 r => cases h3; cases r with
            | cons h4 r => cases h4; cases r with
              | cons h5 r => cases h5; cases r; exact ⟨_, _, _, _, _, _, _, _, rfl, hm, hm2⟩
theorem eqs_is : Str.ofString "=" = mkS [61] := by decide +kernel
theorem rows_same (gs : List Setg) : (gs.map tokOf).map rowD = gs.map fun g => row3 (rowOf g) := by rw [List.map_map]; rfl
theorem list2_open {led : List (Addr × Obj)} {r : Addr} {d e : Dat} (h : DatIn led (.ref r) (.list [d, e])) : ∃ v u n, (r, W.listOf [v, u].toArray n) ∈ led ∧ DatIn led v d ∧ DatIn led u e := by
  cases h with
  | list hm hr => cases hr with
    | cons h1 r => cases r with
      | cons h2 r => cases r; exact ⟨_, _, _, hm, h1, h2⟩
theorem list_open {led : List (Addr × Obj)} {v : Value} {ds : List Dat} (h : DatIn led v (.list ds)) : ∃ r vs n, v = .ref r ∧ (r, W.listOf vs.toArray n) ∈ led ∧ DatAll led vs ds := by
  cases h with
  | list hm hr => exact ⟨_, _, _, rfl, hm, hr⟩
noncomputable abbrev em2 (a b : Value) (k1 k2 k3 : Option Value) (mR : Str → Option Value) : Str → Option Value := fun y => if y = Str.ofString "ends" then some a else if y = Str.ofString "read" then some b else if y = Str.ofString "key" then k1 else if y = Str.ofString "sign" then k2 else if y = Str.ofString "value" then k3 else mR y
theorem fr_small {h₀ h : Heap} {L : Addr} {m0 : Str → Option Value} {a b : Value} (F : Fr h₀ L h m0) (h1 : m0 (Str.ofString "ends") = some a) (h2 : m0 (Str.ofString "read") = some b) : ∃ k1 k2 k3 mR, Fr h₀ L h (em2 a b k1 k2 k3 mR) :=
  ⟨m0 (Str.ofString "key"), m0 (Str.ofString "sign"), m0 (Str.ofString "value"), m0, fr_congr F fun y => by
    simp only [em2]
    by_cases e1 : y = Str.ofString "ends"
    · rw [if_pos e1, e1, h1]
    rw [if_neg e1]
    by_cases e2 : y = Str.ofString "read"
    · rw [if_pos e2, e2, h2]
    rw [if_neg e2]
    by_cases e3 : y = Str.ofString "key"
    · rw [if_pos e3, e3]
    rw [if_neg e3]
    by_cases e4 : y = Str.ofString "sign"
    · rw [if_pos e4, e4]
    rw [if_neg e4]
    by_cases e5 : y = Str.ofString "value"
    · rw [if_pos e5, e5]
    rw [if_neg e5]⟩
theorem em2_turn (a b k s v : Value) (k1 k2 k3 : Option Value) (mR : Str → Option Value) (y : Str) : (if y = Str.ofString "value" then some v else if y = Str.ofString "sign" then some s else if y = Str.ofString "key" then some k else em2 a b k1 k2 k3 mR y) = em2 a b (some k) (some s) (some v) mR y := by
  simp only [em2]
  by_cases e5 : y = Str.ofString "value"
  · subst e5; rfl
  rw [if_neg e5]
  by_cases e4 : y = Str.ofString "sign"
  · subst e4; rfl
  rw [if_neg e4]
  by_cases e3 : y = Str.ofString "key"
  · subst e3; rfl
  simp only [e3, e4, e5, if_false]
theorem endA {k v : List Nat} {K V z1 z2 : Str} (hK : K = mkS k) (hV : V = mkS v) (h2 : SumS z2 z1 K) (h1 : SumS z1 (Str.ofString "\"") V) : z2 = mkS (34 :: (v ++ k)) := by
  obtain ⟨rfl⟩ := h2; obtain ⟨rfl⟩ := h1
  subst hK hV
  rw [show Str.ofString "\"" = mkS [34] from by decide +kernel, mkS_append, mkS_append]; rfl
theorem endB {k v : List Nat} {K V z1 z2 : Str} (hK : K = mkS k) (hV : V = mkS v) (h2 : SumS z2 z1 (Str.ofString "\"")) (h1 : SumS z1 V K) : z2 = mkS (v ++ (k ++ [34])) := by
  obtain ⟨rfl⟩ := h2; obtain ⟨rfl⟩ := h1
  subst hK hV
  rw [show Str.ofString "\"" = mkS [34] from by decide +kernel, mkS_append, mkS_append, List.append_assoc]
theorem take5 {vs : List Value} {ns : List Int} (h : IntsAre vs ns) : ∀ v ∈ vs.take 5, ∃ n t, v = Value.int n t := fun v hv => ints_item h v (List.mem_of_mem_take hv)
section
variable {prog : Program} {w : World} {A : Around} {E : Value → Shared → Prop} {s : Shared} {h₀ : Heap} {L : Addr} {m : Str → Option Value} {Q : Flow → Shared → Prop} {stmt : Sem Flow}
noncomputable def NextQ (Q' : Shared → Prop) (f : Flow) (s₁ : Shared) : Prop := f = .next ∧ Q' s₁
noncomputable def SetsQ (s : Shared) (h₀ : Heap) (L : Addr) (m : Str → Option Value) (s' : Shared) : Prop :=
  ∃ h tk D ys n ex, ∃ gs : List Setg, s' = { s with heap := h, toks := tk } ∧ gs.length ≤ 5 ∧ (∀ g ∈ gs, g.Good) ∧ DatAll ex ys (gs.map setD) ∧ Fr h₀ L h (fun y => if y = Str.ofString "settings" then some (.ref D) else m y) ∧ News h₀ L h ((D, W.listOf ys.toArray n) :: ex)
theorem sets_swap (_F : Fr h₀ L s.heap m) (ht : wpAny (model prog w) A stmt (NextQ (SetsQ s h₀ L m)) E s)
    (hr : ∀ h tk D ys n ex, ∀ gs : List Setg, gs.length ≤ 5 → (∀ g ∈ gs, Setg.Good g) → DatAll ex ys (gs.map setD) → Fr h₀ L h (fun y => if y = Str.ofString "settings" then some (.ref D) else m y) → News h₀ L h ((D, W.listOf ys.toArray n) :: ex) → Q .next { s with heap := h, toks := tk }) : wpAny (model prog w) A stmt Q E s := by
  refine wpAny_mono ht (fun f s' h => ?_) fun _ _ z => z
  obtain ⟨rfl, h, tk, D, ys, n, ex, gs, rfl, h1, h2, h3, h4, h5⟩ := h
  exact hr h tk D ys n ex gs h1 h2 h3 h4 h5
end
theorem holds : PySem.Challenge.rw_nq0177_02.Holds := hd2 (by
  k_go0
  (all_goals try k_fold)
  repeat ((fail_if_success (with_reducible show wpAny _ _ (exec _ _) _ _ _)); (first | walk1 | (dsimp only; walk1)))
  refine sets_swap (by k_asm) ?ht ?hr
  case ht =>
    refine LCg.Assign_ListComp_U (F₀ := by k_asm) (by rfl) (by with_unfolding_all rfl) (by with_unfolding_all rfl) (by decide) (by rfl) (by decide) (by rfl) (by rfl) (by rfl) ?_
    repeat' ((fail_if_success (with_reducible show CompSrc _ _ _ _ _ _ _ _ _ _ _ _ _ _)); (fail_if_success (with_reducible show wpAny _ _ (subscriptTail _ _ _ _) _ _ _)); (first | walk1 | (dsimp only; walk1)))
    rotate_left 1
    · (with_reducible rename IntsAre _ _ => hI)
      have hsl := hI.length
      (with_reducible rename Heap.IsList _ _ _ => hLst)
      (with_reducible rename Fr _ _ _ _ => FF)
      have hLst2 := listKeep hLst FF.keep
      refine kmk_slice_lit (by k_asm) (by k_asm) hLst2 .none (.int _ _) (pick5 _) ?_ (by with_unfolding_all rfl) (by intro _; with_unfolding_all rfl) (by rw [sizeLine_eq, List.size_toArray]; omega)
      intro D1 h12 F12 N12 o12
      have hz := take5 hI
      have hzl := List.length_take_le 5 (takeOf hI)
      obtain ⟨src, hm, NN⟩ := ledOf N12
      unfold takeOf at hzl
      refine CompSrc.ledger (by rfl) (by k_asm) NN hm (by rw [sizeLine_eq, List.size_toArray]; omega) ?_
      intro g9
      refine comp_ind1 _ (fun i ys n9 => ∃ (ex : List (Addr × Obj)) (gs : List Setg), n9 = ex ++ src ∧ gs.length = i ∧ (∀ g ∈ gs, g.Good) ∧ DatAll ex ys (gs.map setD)) ⟨[], [], rfl, rfl, (fun _ z => by cases z), .nil⟩ ?cfin ?cstep
      case cfin =>
        rintro ys n9 ⟨ex, gs, rfl, hgl, hG, hDs⟩
        intro D9 h9 tk9 F9 N9 o9
        exact ⟨rfl, _, _, D9, ys, _, ex ++ src, gs, rfl, by omega, hG, hDs.mono fun q hq => List.mem_append_left _ hq, F9, N9⟩
      case cstep =>
        rintro i ys v n9 hv ⟨ex, gs, rfl, rfl, hG, hDs⟩ I9 oI9 C9 oC9 D9 m9 h9 tk9 E9 hC9 hx9 F9 N9 off9 ne9
        obtain ⟨nn, tt, rfl⟩ := hz v (List.mem_of_getElem? hv)
        dsimp only
        repeat ((fail_if_success (with_reducible show wpAny _ _ (call (Value.ref 740) _) _ _ _)); (first | walk1 | (dsimp only; walk1)))
        refine wpAny_call ?_
        refine' setting_spec ?sC ?sF ?sN ?_
        case sC => exact Amb.less (amb_law (by k_asm) (by k_asm) (by k_asm) rfl rfl) 4 (by decide)
        case sF => k_asm
        case sN => k_asm
        intro h' tk' r ex2 g hg hd hne F2 N2
        dsimp only
        k_unfold
        refine ⟨h', tk', (ex2 ++ ex) ++ src, rfl, F2, fun q hq => N2 q ?_, Off3.of fun q hq => ?_, .inr ⟨_, List.mem_append_right _ hm, rfl, _, rfl⟩, ex2 ++ ex, gs ++ [g], rfl, by simp, ?_, ?_⟩
        · simp only [List.mem_cons, List.mem_append] at hq ⊢
          rcases hq with hq | hq | hq | (hq | hq) | hq <;> simp [hq]
        · rcases List.mem_append.mp hq with hq | hq
          · rcases List.mem_append.mp hq with hq | hq
            · exact ⟨hne q hq (I9, oI9) (.head _), hne q hq (C9, oC9) (.tail _ (.head _)), hne q hq (D9, lst ys) (.tail _ (.tail _ (.head _)))⟩
            · exact off9.mem q (List.mem_append_left _ hq)
          · exact off9.mem q (List.mem_append_right _ hq)
        · intro x hx
          rcases List.mem_append.mp hx with hx | hx
          · exact hG x hx
          · rw [List.mem_singleton.mp hx]; exact hg
        · rw [List.map_append]
          exact (hDs.mono fun q hq => List.mem_append_right _ hq).append (.one (hd.mono fun q hq => List.mem_append_left _ hq))
    · (with_reducible rename News _ _ _ _ => N12)
      obtain ⟨src, hm, NN⟩ := ledOf N12
      obtain ⟨hz, hzl⟩ := twoOf hm
      refine CompSrc.ledger (by rfl) (by k_asm) NN hm (by rw [sizeLine_eq, List.size_toArray]; omega) ?_
      intro g9
      refine comp_ind1 _ (fun i ys n9 => ∃ (ex : List (Addr × Obj)) (gs : List Setg), n9 = ex ++ src ∧ gs.length = i ∧ (∀ g ∈ gs, g.Good) ∧ DatAll ex ys (gs.map setD)) ⟨[], [], rfl, rfl, (fun _ z => by cases z), .nil⟩ ?cfin ?cstep
      case cfin =>
        rintro ys n9 ⟨ex, gs, rfl, hgl, hG, hDs⟩
        intro D9 h9 tk9 F9 N9 o9
        exact ⟨rfl, _, _, D9, ys, _, ex ++ src, gs, rfl, by omega, hG, hDs.mono fun q hq => List.mem_append_left _ hq, F9, N9⟩
      case cstep =>
        rintro i ys v n9 hv ⟨ex, gs, rfl, rfl, hG, hDs⟩ I9 oI9 C9 oC9 D9 m9 h9 tk9 E9 hC9 hx9 F9 N9 off9 ne9
        obtain ⟨nn, tt, rfl⟩ := hz v (List.mem_of_getElem? hv)
        dsimp only
        repeat ((fail_if_success (with_reducible show wpAny _ _ (call (Value.ref 740) _) _ _ _)); (first | walk1 | (dsimp only; walk1)))
        refine wpAny_call ?_
        refine' setting_spec ?sC ?sF ?sN ?_
        case sC => exact Amb.less (amb_law (by k_asm) (by k_asm) (by k_asm) rfl rfl) 4 (by decide)
        case sF => k_asm
        case sN => k_asm
        intro h' tk' r ex2 g hg hd hne F2 N2
        dsimp only
        k_unfold
        refine ⟨h', tk', (ex2 ++ ex) ++ src, rfl, F2, fun q hq => N2 q ?_, Off3.of fun q hq => ?_, .inr ⟨_, List.mem_append_right _ hm, rfl, _, rfl⟩, ex2 ++ ex, gs ++ [g], rfl, by simp, ?_, ?_⟩
        · simp only [List.mem_cons, List.mem_append] at hq ⊢
          rcases hq with hq | hq | hq | (hq | hq) | hq <;> simp [hq]
        · rcases List.mem_append.mp hq with hq | hq
          · rcases List.mem_append.mp hq with hq | hq
            · exact ⟨hne q hq (I9, oI9) (.head _), hne q hq (C9, oC9) (.tail _ (.head _)), hne q hq (D9, lst ys) (.tail _ (.tail _ (.head _)))⟩
            · exact off9.mem q (List.mem_append_left _ hq)
          · exact off9.mem q (List.mem_append_right _ hq)
        · intro x hx
          rcases List.mem_append.mp hx with hx | hx
          · exact hG x hx
          · rw [List.mem_singleton.mp hx]; exact hg
        · rw [List.map_append]
          exact (hDs.mono fun q hq => List.mem_append_right _ hq).append (.one (hd.mono fun q hq => List.mem_append_left _ hq))
  case hr =>
    intro h tk D ys n ex gs hg5 hG hDs F N
    dsimp only
    repeat ((fail_if_success (with_reducible show wpAny _ _ (eval (Expr.ListComp _ _ _ _) _) _ _ _)); (first | walk1 | (dsimp only; walk1)))
    have hyl : ys.length = gs.length := by rw [hDs.length, List.length_map]
    refine ListComp_U (F₀ := by k_asm) (by with_unfolding_all rfl) (by decide) (by rfl) (by decide) (by rfl) ?_
    repeat ((fail_if_success (with_reducible show CompSrc _ _ _ _ _ _ _ _ _ _ _ _ _ _)); (first | walk1 | (dsimp only; walk1)))
    refine CompSrc.ledger (by rfl) (by k_asm) N (.head _) (by rw [sizeLine_eq, List.size_toArray]; omega) ?_
    intro g9
    refine comp_ind1 _ (fun i xs n9 => n9 = (D, W.listOf ys.toArray n) :: ex ∧ StrsAre xs ((gs.take i).map fun g => mkS g.text)) ⟨rfl, .nil⟩ ?tfin ?tstep
    case tstep =>
      rintro i xs v n9 hv ⟨rfl, hI⟩ I9 oI9 C9 oC9 D9 m9 h9 tk9 E9 hC9 hx9 F9 N9 off9 ne9
      have hi : i < gs.length := by rw [← hyl]; exact (List.getElem?_eq_some_iff.mp hv).1
      obtain ⟨v2, hv2, hvd⟩ := hDs.get (k := i) (by rw [List.length_map]; exact hi)
      rw [hv] at hv2; cases hv2
      rw [List.getElem_map] at hvd
      obtain ⟨r, p, n1, n2, t1, t2, t3, t4, rfl, m1, m2⟩ := setD_open hvd
      have N10 := news_cons N9 (p := (r, W.listOf #[Value.str (mkS gs[i].text) t1, Value.ref p] n1)) (.tail _ (.tail _ (.tail _ (.tail _ m1))))
      clear N9
      dsimp only
      repeat ((fail_if_success (with_reducible show CompEnd _ _ _ _ _ _ _ _ _ _ _ _ _ _)); (first | walk1 | (dsimp only; walk1)))
      refine ⟨_, _, _, rfl, F9, fun q hq => N10 q (.tail _ hq), off9, .inr ⟨_, .head _, rfl, _, rfl⟩, rfl, ?_⟩
      rw [show (gs.take (i + 1)).map (fun g => mkS g.text) = (gs.take i).map (fun g => mkS g.text) ++ [mkS gs[i].text] from by rw [List.take_add_one, List.getElem?_eq_getElem hi, List.map_append]; rfl]
      exact strsAre_snoc hI
    case tfin =>
      rintro xs n9 ⟨rfl, hI⟩
      rw [hyl, List.take_length] at hI
      intro D2 h2 tk2 F2 N2 o2
      dsimp only
      repeat ((fail_if_success (with_reducible show wpAny _ _ (call (Value.builtin "str.join") _) _ _ _)); (first | walk1 | (dsimp only; walk1)))
      refine join_listW (ys := gs.map fun g => mkS g.text) (led_any (by k_asm) (.head _) rfl rfl) hI (by decide +kernel) ?sz ?_
      case sz =>
        have hb : ∀ q : List Setg, (∀ g ∈ q, g.Good) → ((q.map fun g => mkS g.text).map (·.length)).sum ≤ 60 * q.length := by
          intro q
          induction q with
          | nil => intro _; exact Nat.le_refl _
          | cons p r ih =>
            intro hq
            have h1 := ih fun x hx => hq x (.tail _ hx)
            have h2 : (mkS p.text).length ≤ 60 := by rw [mkS_length]; exact text_len (hq p (.head _))
            simp only [List.map_cons, List.sum_cons, List.length_cons]
            omega
        have := hb gs hG
        rw [List.length_map]; omega
      intro tj kj
      rw [join_texts]
      dsimp only
      have hTl := texts_len hG
      have hToks := toks_read gs fun g hg => (hG g hg).ok
      generalize htx : gs.flatMap Setg.text = tx at hTl hToks ⊢
      repeat ((fail_if_success (with_reducible show wpAny _ _ (exec (Stmt.Assign [Expr.Name (PySem.Str.ofString "told") _] _ _) _) _ _ _)); (first | walk1 | (dsimp only; walk1)))
      refine LCg.Assign_ListComp_U (F₀ := by k_asm) (by rfl) (by with_unfolding_all rfl) (by with_unfolding_all rfl) (by decide) (by rfl) (by decide) (by rfl) (by rfl) (by rfl) ?_
      repeat ((fail_if_success (with_reducible show CompSrc _ _ _ _ _ _ _ _ _ _ _ _ _ _)); (first | walk1 | (dsimp only; walk1)))
      (with_reducible rename News _ _ _ _ => N2)
      have N3 : News _ _ _ ((D, W.listOf ys.toArray n) :: ex) := fun q hq => N2 q (.tail _ hq)
      refine CompSrc.ledger (by rfl) (by k_asm) N3 (.head _) (by rw [sizeLine_eq, List.size_toArray]; omega) ?_
      intro g8
      refine comp_ind1 _ (fun i xs n9 => n9 = (D, W.listOf ys.toArray n) :: ex ∧ DatAll ex xs ((gs.take i).map fun g => row3 (rowOf g))) ⟨rfl, .nil⟩ ?ufin ?ustep
      case ustep =>
        rintro i xs v n9 hv ⟨rfl, hI⟩ I9 oI9 C9 oC9 D9 m9 h9 tk9 E9 hC9 hx9 F9 N9 off9 ne9
        have hi : i < gs.length := by rw [← hyl]; exact (List.getElem?_eq_some_iff.mp hv).1
        obtain ⟨v2, hv2, hvd⟩ := hDs.get (k := i) (by rw [List.length_map]; exact hi)
        rw [hv] at hv2; cases hv2
        rw [List.getElem_map] at hvd
        obtain ⟨r, p, n1, n2, t1, t2, t3, t4, rfl, m1, m2⟩ := setD_open hvd
        have N10 := news_cons N9 (p := (r, W.listOf #[Value.str (mkS gs[i].text) t1, Value.ref p] n1)) (.tail _ (.tail _ (.tail _ (.tail _ m1))))
        clear N9
        dsimp only
        repeat ((fail_if_success (with_reducible show CompEnd _ _ _ _ _ _ _ _ _ _ _ _ _ _)); (first | walk1 | (dsimp only; walk1)))
        refine ⟨_, _, _, rfl, F9, fun q hq => N10 q (.tail _ hq), off9, .inr ⟨_, .head _, rfl, _, rfl⟩, rfl, ?_⟩
        rw [show (gs.take (i + 1)).map (fun g => row3 (rowOf g)) = (gs.take i).map (fun g => row3 (rowOf g)) ++ [row3 (rowOf gs[i])] from by rw [List.take_add_one, List.getElem?_eq_getElem hi, List.map_append]; rfl]
        refine hI.append (.one (DatIn.list (vs := [_, _, _]) (n := n2) (by rw [eqs_is] at m2; exact m2) (.cons (.str _ _) (.cons (.str _ _) (.one (.str _ _))))))
      case ufin =>
        rintro xs n9 ⟨rfl, hTold⟩
        rw [hyl, List.take_length] at hTold
        intro D3 h3 tk3 F3 N4 o3
        clear N2 N3
        dsimp only
        repeat ((fail_if_success (with_reducible show wpAny _ _ (call (Value.ref 745) _) _ _ _)); (first | walk1 | (dsimp only; walk1)))
        have htl : ∀ q ∈ gs.map tokOf, (mkS q.2.2).length ≤ 4096 := by
          intro q hq
          obtain ⟨g, hg, rfl⟩ := List.mem_map.mp hq
          have := tok_len (hG g hg)
          rw [mkS_length]; unfold tokOf; dsimp only; omega
        refine wpAny_call ?_
        refine' read_spec2 (ts := gs.map tokOf) ?rC ?rXB ?rTB ?rF ?rN hToks ?rl ?rts htl ?_
        case rC => exact Amb.less (amb_law (by k_asm) (by k_asm) (by k_asm) rfl rfl) 20 (by decide)
        case rXB => k_asm
        case rTB => k_asm
        case rF => k_asm
        case rN => k_asm
        case rl => rw [mkS_length]; omega
        case rts => rw [List.length_map]; omega
        intro h4 tk4 r1 ex1 F5 hR1 N5
        dsimp only
        repeat ((fail_if_success (with_reducible show wpAny _ _ (compareOp _ (Value.ref _) (Value.ref _)) _ _ _)); (first | walk1 | (dsimp only; walk1)))
        (with_reducible rename News _ _ _ _ => N6)
        rw [rows_same] at hR1
        obtain ⟨v1, u1, m1, hm1, hd1, hd2⟩ := list2_open hR1
        obtain ⟨r2, rv, rc, rfl, hm2, hd3⟩ := list_open hd1
        rw [count_nl] at N6
        have hok2 : ∀ d ∈ [Dat.list (gs.map fun g => row3 (rowOf g)), Dat.int (1 + nls tx)], kqdOk 8 d = true := by
          intro d hd
          simp only [List.mem_cons, List.not_mem_nil, or_false] at hd
          rcases hd with rfl | rfl
          · exact rows_ok hG 6
          · rfl
        have hT9 : DatIn ((D3, lst xs) :: (D, W.listOf ys.toArray n) :: ex) (.ref D3) (.list (gs.map fun g => row3 (rowOf g))) := .list (vs := xs) (n := xs.length) (.head _) (hTold.mono fun q hq => .tail _ (.tail _ hq))
        refine kqd_ne (xs := [Value.ref r2, u1]) N6 (by exact .tail _ (List.mem_append_left _ hm1)) rfl rfl (DatAll.cons hd1 (.one hd2)) (fun q hq => .tail _ (List.mem_append_left _ hq)) (.head _) rfl rfl (DatAll.cons hT9 (.one (.int _ _))) (fun q hq => .tail _ (List.mem_append_right _ hq)) hok2 hok2 (units64 _) ?_
        rw [dec_self]
        obtain ⟨led0, N7, hmr2, hex1, hTL, hTm⟩ : ∃ led0, News _ _ _ ((r1, W.listOf [Value.ref r2, u1].toArray m1) :: led0) ∧ (r2, W.listOf rv.toArray rc) ∈ led0 ∧ (∀ q ∈ ex1, q ∈ led0) ∧ DatAll led0 xs (gs.map fun g => row3 (rowOf g)) ∧ (D3, lst xs) ∈ led0 :=
          ⟨_, news_cons N6 (p := (r1, W.listOf [Value.ref r2, u1].toArray m1)) (.tail _ (List.mem_append_left _ hm1)), .tail _ (List.mem_append_left _ hm2), fun q hq => .tail _ (List.mem_append_left _ hq), hTold.mono fun q hq => .tail _ (List.mem_append_right _ (.tail _ (.tail _ hq))), .tail _ (List.mem_append_right _ (.head _))⟩
        have hrvl : rv.length = gs.length := by rw [hd3.length, List.length_map]
        clear N6 hTold hT9 hDs hR1 hd1 hd2 N4 o3
        dsimp only
        repeat ((fail_if_success (with_reducible show wpAny _ _ (call (Value.ref 752) _) _ _ _)); (first | walk1 | (dsimp only; walk1)))
        (with_reducible rename News _ _ _ _ => N8)
        refine wpAny_call ?_
        refine' write_spec (ra := r2) (rv := rv) (rc := rc) (ps := gs.map rowOf) ?wC ?wF (news_cons N8 (.tail _ hmr2)) ?wD ?wl ?wsh ?_
        case wC => exact Amb.less (amb_law (by k_asm) (by k_asm) (by k_asm) rfl rfl) 4 (by decide)
        case wF => k_asm
        case wD => rw [List.map_map]; exact hd3.mono fun q hq => .tail _ (.tail _ (hex1 q hq))
        case wl => rw [List.length_map]; omega
        case wsh =>
          intro q hq
          obtain ⟨g, hg, rfl⟩ := List.mem_map.mp hq
          exact row_short (hG g hg)
        intro h7 tk7 t7 F7 N9
        obtain ⟨gs2, hOk2, htext2, hrow2⟩ := shorts gs hG
        have hToks2 := toks_read gs2 hOk2
        have hsl2 : ((gs.map rowOf).flatMap wr).length ≤ 26 * gs.length := by
          have := wrs_len (ps := gs.map rowOf) (fun q hq => by
            obtain ⟨g, hg, rfl⟩ := List.mem_map.mp hq
            exact row_short (hG g hg))
          rw [List.length_map] at this; exact this
        have hgl2 : gs2.length = gs.length := by have := congrArg List.length hrow2; rw [List.length_map, List.length_map] at this; exact this
        have htl2 : ∀ q ∈ gs2.map tokOf, (mkS q.2.2).length ≤ 4096 := by
          intro q hq
          obtain ⟨g2, hg2, rfl⟩ := List.mem_map.mp hq
          have h1 : rowOf g2 ∈ gs.map rowOf := hrow2 ▸ List.mem_map_of_mem hg2
          obtain ⟨g, hg, e⟩ := List.mem_map.mp h1
          have h2 := (row_short (hG g hg)).c
          rw [e, mkS_length] at h2
          have h3 := strip_ge g2.tok
          rw [mkS_length]; unfold tokOf; unfold rowOf at h2; dsimp only at h2 ⊢; omega
        rw [← htext2] at hsl2 ⊢
        generalize hsx : gs2.flatMap Setg.text = sx at hsl2 hToks2 ⊢
        clear N8
        dsimp only
        repeat ((fail_if_success (with_reducible show wpAny _ _ (call (Value.ref 745) _) _ _ _)); (first | walk1 | (dsimp only; walk1)))
        (with_reducible rename News _ _ _ _ => N10)
        refine wpAny_call ?_
        refine' read_spec2 (ts := gs2.map tokOf) ?rC ?rXB ?rTB ?rF N10 hToks2 ?rl ?rts htl2 ?_
        case rC => exact Amb.less (amb_law (by k_asm) (by k_asm) (by k_asm) rfl rfl) 20 (by decide)
        case rXB => k_asm
        case rTB => k_asm
        case rF => k_asm
        case rl => rw [mkS_length]; omega
        case rts => rw [List.length_map]; omega
        intro h8 tk8 r3 ex2 F8 hR2 N11
        clear N10
        dsimp only
        repeat ((fail_if_success (with_reducible show wpAny _ _ (compareOp _ (Value.ref _) (Value.ref _)) _ _ _)); (first | walk1 | (dsimp only; walk1)))
        (with_reducible rename News _ _ _ _ => N12)
        rw [count_nl] at N12
        have hs2 : (gs2.map fun g => row3 (rowOf g)) = gs.map fun g => row3 (rowOf g) := by
          have := congrArg (List.map row3) hrow2
          rw [List.map_map, List.map_map] at this; exact this
        rw [rows_same, hs2] at hR2
        obtain ⟨v3, u3, m3, hm3, hd4, hd5⟩ := list2_open hR2
        have hok3 : ∀ d ∈ [Dat.list (gs.map fun g => row3 (rowOf g)), Dat.int (1 + nls sx)], kqdOk 8 d = true := by
          intro d hd
          simp only [List.mem_cons, List.not_mem_nil, or_false] at hd
          rcases hd with rfl | rfl
          · exact rows_ok hG 6
          · rfl
        have hT8 : DatIn led0 (.ref D3) (.list (gs.map fun g => row3 (rowOf g))) := .list (vs := xs) (n := xs.length) hTm hTL
        refine kqd_ne (xs := [v3, u3]) N12 (by exact .tail _ (List.mem_append_left _ hm3)) rfl rfl (DatAll.cons hd4 (.one hd5)) (fun q hq => .tail _ (List.mem_append_left _ hq)) (.head _) rfl rfl (DatAll.cons hT8 (.one (.int _ _))) (fun q hq => .tail _ (List.mem_append_right _ (.tail _ (.tail _ hq)))) hok3 hok3 (units64 _) ?_
        rw [dec_self]
        obtain ⟨led1, N13, hm1, hm2b, hTL1, hTm1⟩ : ∃ led1, News _ _ _ ((D3, lst xs) :: led1) ∧ (r1, W.listOf [Value.ref r2, u1].toArray m1) ∈ led1 ∧ (r2, W.listOf rv.toArray rc) ∈ led1 ∧ DatAll led1 xs (gs.map fun g => row3 (rowOf g)) ∧ (∀ q ∈ ex1, q ∈ led1) :=
          ⟨_, news_cons N12 (p := (D3, lst xs)) (.tail _ (List.mem_append_right _ (.tail _ (.tail _ hTm)))), .tail _ (List.mem_append_right _ (.tail _ (.head _))), .tail _ (List.mem_append_right _ (.head _)), hTL.mono fun q hq => .tail _ (List.mem_append_right _ (.tail _ (.tail _ hq))), fun q hq => .tail _ (List.mem_append_right _ (.tail _ (.tail _ (hex1 q hq))))⟩
        clear N12 hR2 hd4 hd5 hT8 hTL hTm hex1 hToks hToks2 htl htl2
        dsimp only
        repeat ((fail_if_success (with_reducible show wpAny _ _ (exec (Stmt.For _ _ _ _ _) _) _ _ _)); (first | walk1 | (dsimp only; walk1)))
        (with_reducible rename Fr _ _ _ _ => F20)
        refine For_turns F20 ?_
        repeat ((fail_if_success (with_reducible show wpAny _ _ (pyIter _) _ _ _)); (first | walk1 | (dsimp only; walk1)))
        (with_reducible rename Fr _ _ _ _ => F21)
        (with_reducible rename News _ _ _ _ => N21)
        obtain ⟨eA, k1, k2, k3, mR, F22, N22, hlE⟩ : ∃ eA k1 k2 k3 mR, Fr _ _ _ (em2 (.ref eA) (.ref r1) k1 k2 k3 mR) ∧ News _ _ _ ((eA, W.listOf #[] 0) :: (D3, lst xs) :: led1) ∧ (@LT.lt Nat _ D3 eA ∧ AllLt eA led1) := by
          obtain ⟨k1, k2, k3, mR, F22⟩ := fr_small F21 rfl rfl
          exact ⟨_, k1, k2, k3, mR, F22, N21, by with_reducible assumption⟩
        clear F21 N21
        refine iter_listTurns (vs := xs) (n := xs.length) (by rfl) F22 N22 (.tail _ (.head _)) rfl rfl ?_
        intro I hI
        have hxl : xs.length = gs.length := by rw [hTL1.length, List.length_map]
        refine items_vals xs (fun i m' n' => ∃ (ev : List Value) (ec : Nat) (k1 k2 k3 : Option Value), n' = (eA, W.listOf ev.toArray ec) :: (D3, lst xs) :: led1 ∧ (∀ y, m' y = em2 (.ref eA) (.ref r1) k1 k2 k3 mR y) ∧ DatAll [] ev ((gs.take i).flatMap endD)) ?eturn ?edone ?einit
        case einit => exact ⟨[], 0, k1, k2, k3, rfl, fun _ => rfl, .nil⟩
        case eturn =>
          rintro i v m' n' hv ⟨ev, ec, q1, q2, q3, rfl, hm, hE⟩
          have hi : i < gs.length := by rw [← hxl]; exact (List.getElem?_eq_some_iff.mp hv).1
          obtain ⟨v2, hv2, hvd⟩ := hTL1.get (k := i) (by rw [List.length_map]; exact hi)
          rw [hv] at hv2; cases hv2
          rw [List.getElem_map] at hvd
          obtain ⟨r, n9, t1, t2, t3, rfl, hrm⟩ := row3_open hvd
          obtain ⟨sa, sb, sc⟩ := row_short (hG gs[i] (List.getElem_mem hi))
          intro hh1 tk o ho F N
          have N2 := news_cons (p := (r, W.listOf #[Value.str (mkS (rowOf gs[i]).1) t1, Value.str (mkS (rowOf gs[i]).2.1) t2, Value.str (mkS (rowOf gs[i]).2.2) t3] n9)) N (.tail _ (.tail _ (.tail _ hrm)))
          clear N
          have F4 := fr_congr F hm
          clear F hm
          obtain ⟨K, hK⟩ : ∃ K, K = mkS (rowOf gs[i]).1 := ⟨_, rfl⟩
          obtain ⟨S, hS⟩ : ∃ K, K = mkS (rowOf gs[i]).2.1 := ⟨_, rfl⟩
          obtain ⟨V, hV⟩ : ∃ K, K = mkS (rowOf gs[i]).2.2 := ⟨_, rfl⟩
          rw [← hK, ← hS, ← hV] at N2
          rw [← hK] at sa
          rw [← hV] at sc
          have hl1 := len_dqW
          dsimp only
          have hEl : ∀ q ∈ led1, @Ne Nat q.1 eA := fun q hq => Nat.ne_of_lt (allLt_elim hlE.2 q hq)
          have hE3 : @Ne Nat D3 eA := Nat.ne_of_lt hlE.1
          have hEr : @Ne Nat r eA := hEl _ hrm
          have hEI : @Ne Nat I eA := Nat.ne_of_gt (hI _ (.head _))
          have hevl : ev.length ≤ 10 := by
            rw [hE.length]
            have : ∀ q : List Setg, (q.flatMap endD).length = 2 * q.length := by
              intro q
              induction q with
              | nil => rfl
              | cons a b ih => rw [List.flatMap_cons, List.length_append, ih]; simp [endD]; omega
            rw [this, List.length_take]; omega
          repeat ((fail_if_success (with_reducible show wpAny _ _ (call (Value.builtin "list.extend") _) _ _ _)); (first | walk1 | (dsimp only; walk1)))
          (with_reducible rename Fr _ _ _ _ => F30)
          (with_reducible rename News _ _ _ _ => N30)
          refine kl_extend (its := ev.toArray) (its2 := #[_, _]) (l := ev ++ [_, _]) F30 N30 (.head _) rfl (by simp) (by k_upd) (extend_door (by rw [sizeLine_eq]; simp; omega)) (by rw [sizeLine_eq]; simp; omega) (by rw [sizeLine_eq]; simp; omega) ?_
          intro h31 F31 N31
          dsimp only
          repeat ((fail_if_success (with_reducible show UnrPostW _ _ _ _ _ _ _ _)); (first | walk1 | (dsimp only; walk1)))
          obtain ⟨za, zb, ta, tb, N32, hza, hzb⟩ : ∃ za zb ta tb, News _ _ h31 ((I, o) :: (eA, W.listOf (ev ++ [Value.str za ta, Value.str zb tb]).toArray (ec + 1)) :: (D3, lst xs) :: led1) ∧ za = mkS (34 :: (strip gs[i].tok ++ gs[i].key)) ∧ zb = mkS (strip gs[i].tok ++ (gs[i].key ++ [34])) :=
            ⟨_, _, _, _, fun q hq => N31 q (.tail _ (.tail _ hq)), endA hK hV (by with_reducible assumption) (by with_reducible assumption), endB hK hV (by with_reducible assumption) (by with_reducible assumption)⟩
          subst hza hzb
          dsimp only [UnrPostW, UnrEndW]
          refine ⟨_, _, _, (eA, W.listOf (ev ++ [Value.str _ ta, Value.str _ tb]).toArray (ec + 1)) :: (D3, lst xs) :: led1, rfl, F31, N32, ?off, ⟨.tail _ (.head _), trivial⟩, ev ++ [Value.str _ ta, Value.str _ tb], ec + 1, _, _, _, rfl, em2_turn _ _ _ _ _ q1 q2 q3 mR, ?dat⟩
          case off =>
            intro q hq u hu
            rw [List.mem_singleton.mp hu]
            rcases List.mem_cons.mp hq with rfl | hq
            · exact Ne.symm hEI
            · exact Nat.ne_of_lt (hI q (.tail _ hq))
          case dat =>
            rw [List.take_add_one, List.getElem?_eq_getElem hi, List.flatMap_append]
            show DatAll [] _ (_ ++ (endD gs[i] ++ []))
            rw [List.append_nil]
            exact hE.append (.cons (.str _ _) (.one (.str _ _)))
        case edone =>
          rintro m' n' h40 tk40 ⟨ev, ec, q1, q2, q3, rfl, hm, hE⟩ F N
          rw [hxl, List.take_length] at hE
          have F40 := fr_congr F hm
          clear F hm
          have N40 := news_cons N (p := (r1, W.listOf [Value.ref r2, u1].toArray m1)) (.tail _ (.tail _ hm1))
          clear N
          dsimp only
          repeat ((fail_if_success (with_reducible show wpAny _ _ (call (Value.ref 757) _) _ _ _)); (first | walk1 | (dsimp only; walk1)))
          obtain ⟨ln', hTe⟩ := toks_ends hG
          have hwok := words_ok hG
          refine wpAny_call ?_
          refine' ends_spec (ra := r2) (rv := rv) (rc := rc) (ps := gs.map rowOf) ?eC ?eX ?eT ?eF (news_cons N40 (.tail _ (.tail _ (.tail _ hm2b)))) ?ehD ?elen ?eshort hTe ?ehwl ?_
          case eC => exact Amb.less (amb_law (by k_asm) (by k_asm) (by k_asm) rfl rfl) 20 (by decide)
          case eX => k_asm
          case eT => k_asm
          case eF => k_asm
          case ehD => rw [List.map_map]; exact hd3.mono fun q hq => .tail _ (.tail _ (.tail _ (.tail _ (hTm1 q hq))))
          case elen => rw [List.length_map]; omega
          case eshort =>
            intro p hp
            obtain ⟨g, hg, rfl⟩ := List.mem_map.mp hp
            exact row_short (hG g hg)
          case ehwl => intro t ht; rw [mkS_length]; have := (hwok t ht).2.2; omega
          intro h41 tk41 r4 ex4 F41 hR4 N41
          rw [ends_same hG] at hR4
          dsimp only
          obtain ⟨r5, v5, m5, hr5, hm5, hd5⟩ := list_open hR4
          cases hr5
          have hok5 : ∀ d ∈ gs.flatMap endD ++ [Dat.str (Str.ofString "")], kqdOk 8 d = true := by
            intro d hd
            rcases List.mem_append.mp hd with hd | hd
            · obtain ⟨g, hg, hd⟩ := List.mem_flatMap.mp hd
              have h1 := key_lt (hG g hg).ok.key
              have h2 : ∀ c ∈ strip g.tok, c < 128 := fun c hc => ((hG g hg).val.sgn c hc).2
              simp only [endD, List.mem_cons, List.not_mem_nil, or_false] at hd
              rcases hd with rfl | rfl
              · refine strOk_lt fun c hc => ?_
                rcases List.mem_cons.mp hc with rfl | hc
                · decide
                · rcases List.mem_append.mp hc with hc | hc
                  · exact h2 c hc
                  · exact h1 c hc
              · refine strOk_lt fun c hc => ?_
                rcases List.mem_append.mp hc with hc | hc
                · exact h2 c hc
                · rcases List.mem_append.mp hc with hc | hc
                  · exact h1 c hc
                  · rw [List.mem_singleton.mp hc]; decide
            · rw [List.mem_singleton.mp hd]; decide +kernel
          have N42 := news_cons N41 (p := (eA, W.listOf ev.toArray ec)) (List.mem_append_right _ (.tail _ (.tail _ (.head _))))
          clear N41
          have hevl : ev.length ≤ 10 := by
            rw [hE.length]
            have : ∀ q : List Setg, (q.flatMap endD).length = 2 * q.length := by
              intro q
              induction q with
              | nil => rfl
              | cons a b ih => rw [List.flatMap_cons, List.length_append, ih]; simp [endD]; omega
            rw [this]; omega
          repeat ((fail_if_success (with_reducible show wpAny _ _ (binaryOp _ (Value.ref _) (Value.ref _)) _ _ _)); (first | walk1 | (dsimp only; walk1)))
          refine add_lists (vs := ev) (ws := [_]) (by k_asm) (by k_asm) (led_any (by k_asm) (by k_mem) rfl rfl) (led_any (by k_asm) (by k_mem) rfl rfl) ?_ (by rw [sizeLine_eq]; simp only [List.length_cons, List.length_nil]; omega)
          intro h43 F43 N43
          repeat ((fail_if_success (with_reducible show wpAny _ _ (compareOp _ (Value.ref _) (Value.ref _)) _ _ _)); (first | walk1 | (dsimp only; walk1)))
          refine kqd_eq (ds := gs.flatMap endD ++ [Dat.str (Str.ofString "")]) (es := gs.flatMap endD ++ [Dat.str (Str.ofString "")]) (by k_asm) (by exact .tail _ (.tail _ (.tail _ (List.mem_append_left _ hm5)))) rfl rfl hd5 ?sa (by k_mem) rfl rfl (hE.append (.one (.str _ _))) ?sb hok5 hok5 (units64 _) ?_
          case sa => intro q hq; simp only [List.mem_cons, List.mem_append, hq, true_or, or_true]
          case sb => intro q hq; exact absurd hq (List.not_mem_nil)
          rw [dec_self]
          k_steps)
end
end Mine
theorem PySem.Challenge.cw_nq0177_02_holds : PySem.Challenge.rw_nq0177_02.Holds :=
  Mine.holds
