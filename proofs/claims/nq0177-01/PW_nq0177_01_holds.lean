import PyProof.Rows.All
import Wide.All
import OpenK.AllK
import Wide.FinOn
import PySem.Challenge.RW_nq0177_01
open PySem PySem.W PyProof.Rows PySem.Calls
set_option Elab.async false
set_option maxRecDepth 100000
set_option maxHeartbeats 8000000
set_option compiler.extract_closed false
namespace Mine
noncomputable def build : List Obj → BT → Nat → Option (BT × Nat)
  | [], t, n => some (t, n)
  | o :: r, t, n => match ((t.ins n o).get n).isSome with
    | true => build r (t.ins n o) (n + 1)
    | false => none
theorem build_spec : ∀ (l : List Obj) (t : BT) (n : Nat) (t' : BT) (n' : Nat) (life : Life), build l t n = some (t', n') → absHeap t' n' life = ⟨(absHeap t n life).objs ++ l.toArray, life⟩
  | [], t, n, t', n', life, h => by
    simp only [build, Option.some.injEq, Prod.mk.injEq] at h
    obtain ⟨rfl, rfl⟩ := h
    simp [absHeap]
  | o :: r, t, n, t', n', life, h => by
    unfold build at h
    cases e : ((t.ins n o).get n).isSome with
    | false => rw [e] at h; cases h
    | true =>
      rw [e] at h
      have := build_spec r _ _ _ _ life h
      rw [this, absHeap_ins e]
      simp [Heap.push]
theorem seg_zero {tb : String → Option Builtin} {p : Program} {w : World} {n₀ : Nat} {ann : Option Value} : ∀ (n : Nat) (s : Shared) (t : Thread) (r : Flow × Shared × Code × Pos), segRun tb p w n₀ ann 0 n s t = some r → topRun tb p w n₀ ann n s t = some r.2.1
  | 0, _, _, _, h => by cases h
  | n + 1, s, t, r, h => by
    unfold segRun at h
    unfold topRun
    have e : through t = (endAt 0 t).isSome := by
      obtain ⟨cur, code, pos, stack⟩ := t
      cases stack <;> cases cur <;> first | rfl | (rename_i f; cases f <;> rfl)
    cases he : endAt 0 t with
    | some f => rw [he] at h; rw [e, he]; cases h; rfl
    | none =>
      rw [he] at h; rw [e, he]
      dsimp only [Option.isSome]
      cases hk : stepOk n₀ ann t with
      | false => rw [hk] at h; cases h
      | true =>
        rw [hk] at h
        cases hs : step (denote tb) p w s t with
        | halt o s₂ => rw [hs] at h; cases h
        | go s₂ t₂ => rw [hs] at h; exact seg_zero n s₂ t₂ r h
noncomputable def openT (p : Program) (w : World) (k : Nat) : Option Shared :=
  match impGoT treeTable (opening p) w k ⟨.nil, 0, {}, #[], {}, 1, (start (opening p)).1.os⟩ (start (opening p)).2 with
  | some (s, t) => match t.atExitBegin with
    | some [] => fenceModules? p s.abs
    | _ => none
  | none => none
noncomputable def topT (p : Program) (w : World) (m₀ : Nat) (ann : Option Value) (k₀ M : Nat) (s₀ : Shared) : Option SharedT :=
  match build s₀.heap.objs.toList .nil 0 with
  | some (t, _) => match segRunT treeTable p w m₀ ann 0 M ⟨t, m₀, s₀.heap.life, s₀.gens, s₀.drawn, k₀, s₀.os⟩ (topStub p) with
    | some (_, s, _, _) => some s
    | none => none
  | none => none
theorem open_T {p : Program} {w : World} {k N : Nat} {s₀ : Shared} (h : openT p w k = some s₀) (le : Nat.ble (k + 1) N = true) : fencedOpening treeTable p w N = some s₀ := by
  unfold openT at h
  cases e : impGoT treeTable (opening p) w k ⟨.nil, 0, {}, #[], {}, 1, (start (opening p)).1.os⟩ (start (opening p)).2 with
  | none => rw [e] at h; cases h
  | some r =>
    obtain ⟨s, t⟩ := r
    rw [e] at h
    dsimp only at h
    have g := impGo_of e
    cases ha : t.atExitBegin with
    | none => rw [ha] at h; cases h
    | some l =>
      rw [ha] at h
      cases l with
      | cons _ _ => cases h
      | nil =>
        dsimp only at h
        have one : importEnds treeTable (opening p) w 1 s.abs t = some s.abs := by unfold importEnds; rw [ha]
        have a := imp_go g one
        have m := importEnds_mono (N - (k + 1)) _ _ _ _ a
        rw [show k + 1 + (N - (k + 1)) = N by have := Nat.le_of_ble_eq_true le; omega] at m
        unfold fencedOpening
        have z : ((⟨.nil, 0, {}, #[], {}, 1, (start (opening p)).1.os⟩ : SharedT).abs) = (start (opening p)).1 := rfl
        rw [z] at m
        rw [m]
        exact h
theorem top_T {p : Program} {w : World} {m₀ k₀ M N : Nat} {ann : Option Value} {s₀ : Shared} {s : SharedT} (h : topT p w m₀ ann k₀ M s₀ = some s) (le : Nat.ble M N = true)
    (e1 : (s₀.heap.isNs mainGlobals && s₀.gens.size == 0) = true) (e2 : s₀.heap.objs.size = m₀) (e3 : s₀.heap.nsMap mainGlobals "__annotations__" = ann) (e4 : s₀.toks = k₀)
    (l1 : (staticsOk (importedModules p.main.body) s₀.heap s.abs.heap && namesBound p s.abs.heap && gensDone s.abs && laidKept s₀.heap s.abs.heap) = true) : topFrom treeTable p w N s₀ = some s.abs := by
  unfold topT at h
  cases e : build s₀.heap.objs.toList .nil 0 with
  | none => rw [e] at h; cases h
  | some r =>
    obtain ⟨t, n'⟩ := r
    rw [e] at h
    dsimp only at h
    have b := build_spec _ _ _ _ _ s₀.heap.life e
    have b' : absHeap t n' s₀.heap.life = s₀.heap := by
      rw [b]
      have z : (absHeap .nil 0 s₀.heap.life).objs = #[] := rfl
      rw [z]
      simp
    have n1 : n' = m₀ := by rw [← e2, ← b', absHeap_size, ]
    subst n1
    cases q : segRunT treeTable p w n' ann 0 M ⟨t, n', s₀.heap.life, s₀.gens, s₀.drawn, k₀, s₀.os⟩ (topStub p) with
    | none => rw [q] at h; cases h
    | some r =>
      obtain ⟨f, s', c, po⟩ := r
      rw [q] at h
      cases h
      have a := seg_zero _ _ _ _ (segRun_of q)
      have z : (⟨t, n', s₀.heap.life, s₀.gens, s₀.drawn, k₀, s₀.os⟩ : SharedT).abs = s₀ := by
        show (⟨absHeap t n' s₀.heap.life, _, _, _, _⟩ : Shared) = _
        rw [b', ← e4]
      rw [z] at a
      have m := topRun_mono (N - M) _ _ _ _ a
      rw [show M + (N - M) = N by have := Nat.le_of_ble_eq_true le; omega] at m
      unfold topFrom
      rw [e1, e2, e3, m]
      dsimp only [Option.bind]
      rw [l1]
theorem left_of {p q : Program} {loose : List Str} {Xt : Shared → Bool} {α : Type} {Yf : Shared → α} {Ya : World → α} {N : Nat} {g0 : Bool} (k m₀ k₀ M : Nat) (ann : Option Value)
    (le1 : Nat.ble (k + 1) N = true) (le2 : Nat.ble M N = true)
    (h : ∀ w : World, (match openT p w k with
      | some s₀ => match topT p w m₀ ann k₀ M s₀ with
        | some s => some ((s₀.heap.isNs mainGlobals && s₀.gens.size == 0, s₀.heap.objs.size, s₀.heap.nsMap mainGlobals "__annotations__", s₀.toks),
            staticsOk (importedModules p.main.body) s₀.heap s.abs.heap && namesBound p s.abs.heap && gensDone s.abs && laidKept s₀.heap s.abs.heap, openSeen q loose (importedModules p.main.body) Xt g0 s.abs, Yf s.abs)
        | none => none
      | none => none) = some ((true, m₀, ann, k₀), true, openGood q loose, Ya w)) : LeftO p q loose Xt Yf Ya N g0 := fun w => by
  have h := h w
  cases e : openT p w k with
  | none => rw [e] at h; cases h
  | some s₀ =>
    rw [e] at h
    dsimp only at h
    cases e' : topT p w m₀ ann k₀ M s₀ with
    | none => rw [e'] at h; cases h
    | some s =>
      rw [e'] at h
      simp only [Option.some.injEq, Prod.mk.injEq] at h
      obtain ⟨⟨h1, h2, h3, h4⟩, h5, h6, h7⟩ := h
      unfold openEnds
      rw [open_T e le1]
      show (topFrom treeTable p w N s₀).map _ = _
      rw [top_T e' le2 h1 h2 h3 h4 h5]
      exact congrArg some (Prod.ext h6 h7)
noncomputable def getT (s : SharedT) (a : Nat) : Option Obj := match Nat.blt a s.n with
  | true => alive ((s.tree.get a).getD default)
  | false => none
theorem get_T (s : SharedT) : s.abs.heap.get? = getT s := by
  funext a
  show (absHeap s.tree s.n s.life).get? a = _
  unfold getT Heap.get?
  rw [absHeap_at]
  cases e : Nat.blt a s.n with
  | true =>
    have lt : a < s.n := Nat.le_of_ble_eq_true e
    rw [if_pos lt]
    dsimp only
    generalize (s.tree.get a).getD default = o
    obtain ⟨c, d, dt, sl⟩ := o
    cases dt <;> rfl
  | false =>
    have lt : ¬ a < s.n := fun q => by rw [show Nat.blt a s.n = true from Nat.ble_eq_true_of_le q] at e; cases e
    rw [if_neg lt]
theorem obs_T {K : Params → Frag} {as : List Addr} (e : ∀ P, as = (K P).map (·.1)) (s : SharedT) : (kHook K as e).obs s.abs = as.map (getT s) := congrArg (fun f => as.map f) (get_T s)
noncomputable def RunOk {α : Type} (p q : Program) (loose : List Str) (Xt : Shared → Bool) (g0 : Bool) (Yg : SharedT → α) (Ya : World → α)
    (I : (String → Option Builtin) → Program → World → Nat → SharedT → Thread → Option (SharedT × Thread)) (TT : String → Option Builtin) (ST : Program → Shared × Thread) (AE : Thread → Option (List Value))
    (FM : Program → Shared → Option Shared) (SR : (String → Option Builtin) → Program → World → Nat → Option Value → Nat → Nat → SharedT → Thread → Option (Flow × SharedT × Code × Pos))
    (OS : Program → List Str → List Str → (Shared → Bool) → Bool → Shared → (Seen × (Option Str × List (Str × Value)) × Bool × Bool × (List (Option FnShape) × Bool) × List (Option PlainShape) × List (Option (PlainShape × Bool)) × (List (Option FnShape) × Bool) × List (Option (List (Option FnShape) × Bool) × Option (PlainShape × Bool))))
    (k m₀ k₀ M : Nat) (ann : Option Value) : Prop :=
  ∀ w : World, (match (match I TT (opening p) w k ⟨.nil, 0, {}, #[], {}, 1, (ST (opening p)).1.os⟩ (ST (opening p)).2 with
        | some (s, t) => match AE t with
          | some [] => FM p s.abs
          | _ => none
        | none => none) with
      | some s₀ => match build s₀.heap.objs.toList .nil 0 with
        | some (t, _) => match SR TT p w m₀ ann 0 M ⟨t, m₀, s₀.heap.life, s₀.gens, s₀.drawn, k₀, s₀.os⟩ (topStub p) with
          | some (_, s, _, _) => some ((s₀.heap.isNs mainGlobals && s₀.gens.size == 0, s₀.heap.objs.size, s₀.heap.nsMap mainGlobals "__annotations__", s₀.toks),
            staticsOk (importedModules p.main.body) s₀.heap s.abs.heap && namesBound p s.abs.heap && gensDone s.abs && laidKept s₀.heap s.abs.heap, OS q loose (importedModules p.main.body) Xt g0 s.abs, Yg s)
          | none => none
        | none => none
      | none => none) = some ((true, m₀, ann, k₀), true, openGood q loose, Ya w)
theorem left_fast {p q : Program} {loose : List Str} {Xt : Shared → Bool} {α : Type} {Yf : Shared → α} {Ya : World → α} {N : Nat} {g0 : Bool}
    {I : (String → Option Builtin) → Program → World → Nat → SharedT → Thread → Option (SharedT × Thread)} {TT : String → Option Builtin} {ST : Program → Shared × Thread} {AE : Thread → Option (List Value)}
    {FM : Program → Shared → Option Shared} {SR : (String → Option Builtin) → Program → World → Nat → Option Value → Nat → Nat → SharedT → Thread → Option (Flow × SharedT × Code × Pos)}
    {OS : Program → List Str → List Str → (Shared → Bool) → Bool → Shared → _} {Yg : SharedT → α} (eY : ∀ s : SharedT, Yf s.abs = Yg s)
    (eI : @impGoT = I) (eT : @treeTable = TT) (eS : @start = ST) (eA : @Thread.atExitBegin = AE) (eF : @fenceModules? = FM) (eR : @segRunT = SR) (eO : @openSeen = OS)
    (k m₀ k₀ M : Nat) (ann : Option Value) (le1 : Nat.ble (k + 1) N = true) (le2 : Nat.ble M N = true)
    (h : RunOk p q loose Xt g0 Yg Ya I TT ST AE FM SR OS k m₀ k₀ M ann) : LeftO p q loose Xt Yf Ya N g0 := by
  subst eI eT eS eA eF eR eO
  refine left_of k m₀ k₀ M ann le1 le2 fun w => ?_
  have h := h w
  have e0 : openT p w k = (match impGoT treeTable (opening p) w k ⟨.nil, 0, {}, #[], {}, 1, (start (opening p)).1.os⟩ (start (opening p)).2 with
        | some (s, t) => match t.atExitBegin with
          | some [] => fenceModules? p s.abs
          | _ => none
        | none => none) := rfl
  rw [← e0] at h
  cases e : openT p w k with
  | none => rw [e] at h; cases h
  | some s₀ =>
    rw [e] at h
    dsimp only at h ⊢
    unfold topT
    cases e1 : build s₀.heap.objs.toList .nil 0 with
    | none => rw [e1] at h; cases h
    | some r =>
      obtain ⟨t, n⟩ := r
      rw [e1] at h
      dsimp only at h ⊢
      cases e2 : segRunT treeTable p w m₀ ann 0 M ⟨t, m₀, s₀.heap.life, s₀.gens, s₀.drawn, k₀, s₀.os⟩ (topStub p) with
      | none => rw [e2] at h; cases h
      | some r =>
        obtain ⟨f, s, c, o⟩ := r
        rw [e2] at h
        dsimp only at h ⊢
        rw [eY s]
        exact h
noncomputable def hdQ : Program := view PySem.Challenge.pw_nq0177_01 [0, 1, 3, 5, 6, 7, 8, 9, 10, 11, 12, 14, 15, 16, 17, 18, 19, 21, 23, 24, 25, 26, 27, 28]
theorem hd_said : OpenLaw.wellSaid PySem.Challenge.rw_nq0177_01 = true := by
  rw [PySem.W.Fast.te9446332074065402090]
  kernel_rfl
theorem hd_bare : PySem.Challenge.rw_nq0177_01.row.prog.bare := ⟨rfl, rfl, rfl, rfl, rfl, by decide +kernel⟩
theorem hd_ok : (chainsOk hdQ && opensWell PySem.Challenge.rw_nq0177_01.row.prog && (frees PySem.Challenge.rw_nq0177_01.row.toRowW && PySem.Challenge.rw_nq0177_01.row.within.isEmpty)) = true := by kernel_rfl
theorem hd_holds {H : Hook} {Yg : SharedT → H.α} (eY : ∀ s : SharedT, H.obs s.abs = Yg s) {d : DefRec} {kwd : List (Str × Expr)} (hdef : defOf hdQ PySem.Challenge.rw_nq0177_01.row.name = some (d, kwd))
    (hp : PySem.Challenge.rw_nq0177_01.row.prog.theDef PySem.Challenge.rw_nq0177_01.row.name = some (d.params, d.body, d.scope)) (hk : kwWritten? d.params.kwonlyargs d.params.kw_defaults = some kwd)
    (run : RunOk PySem.Challenge.rw_nq0177_01.row.prog hdQ [Str.ofString "UnsupportedOperation", Str.ofString "IOBase", Str.ofString "BufferedIOBase", Str.ofString "TextIOBase", Str.ofString "BytesIO", Str.ofString "StringIO", Str.ofString "shlex"] (fun s => xlAt hdQ [] s && recOk [] s) true Yg H.val PySem.W.Fast.tw14789777615569096658 PySem.W.Fast.tw14364793385576792824 PySem.W.Fast.tw1435165496053646825 PySem.W.Fast.tw3805553451399329143 PySem.W.Fast.tw14289696077712309145 PySem.W.Fast.tw10110043849684766642 PySem.W.Fast.tw4187177175401517315 828 29 273 5031 (some (.ref 6)))
    (said : PySem.Challenge.rw_nq0177_01.row.wellSaid = true) (hw : PySem.Challenge.rw_nq0177_01.row.toRowW.promised)
    (hc : WalkO hdQ [Str.ofString "UnsupportedOperation", Str.ofString "IOBase", Str.ofString "BufferedIOBase", Str.ofString "TextIOBase", Str.ofString "BytesIO", Str.ofString "StringIO", Str.ofString "shlex"] (XL hdQ []) H.says PySem.Challenge.rw_nq0177_01.row.toRowW d kwd fun f vs => PySem.call f vs) : PySem.Challenge.rw_nq0177_01.row.Holds :=
  holds_open (q := hdQ) (Xt := fun s => xlAt hdQ [] s && recOk [] s) (XP := XL hdQ []) (Yf := H.obs) (Ya := H.val) (YP := H.says) (N := 9962)
    (left_fast eY PySem.W.Fast.te14789777615569096658 PySem.W.Fast.te14364793385576792824 PySem.W.Fast.te1435165496053646825 PySem.W.Fast.te3805553451399329143 PySem.W.Fast.te14289696077712309145 PySem.W.Fast.te10110043849684766642 PySem.W.Fast.te4187177175401517315 828 29 273 5031 (some (.ref 6)) (by rfl) (by rfl) run)
    H.of H.keeps (fun s e => xl_of s (Bool.and_eq_true_iff.mp e).1) XL.keeps hdef hp hk (fun s e => recFacts_of (Bool.and_eq_true_iff.mp e).2) (by rfl) said hd_ok hd_bare hw hc
local macro_rules | `(tactic| o_law) => `(tactic| refine holds_law hd_said fun said => ?_)
local macro_rules | `(tactic| o_head $H) => do
  let hw := Lean.mkIdent `hw
  let hc := Lean.mkIdent `hc
  `(tactic| refine hd_holds (H := $H) (obs_T _) (by rfl) (by rfl) (by rfl) (by intro w; kernel_rfl) (by assumption) ?$hw ?$hc)
open_top hd1 for PySem.Challenge.rw_nq0177_01
local macro_rules | `(tactic| k_qdec) => `(tactic| first | (rw [PySem.W.Fast.te17448422675489707002]; kernel_rfl) | (rw [PySem.W.Fast.te2458874890965802552]; kernel_rfl))
local macro_rules | `(tactic| walk_at "my frames") => `(tactic| first | assumption | exact Around.frames_deeper (by walk_at "my frames") | exact rfl)
local macro_rules | `(tactic| walk_at "my room") => `(tactic| ((try simp only [depth_under_make, depth_under_kw, depth_in1, depth_deeper, depth_caller]); omega))
local macro_rules | `(tactic| walk_at "my enter0") => `(tactic| (refine' code_def ?k1 ?k2 ?k3 ?k4 ?k5 ?kA ?kF ?kK ?k6 ?k7 ?k8 ?k9 ?kB ?_ ?c2 ?c3 ?c4 ?c5; (case kA => walk_at "my frames"); (case kF => first | assumption | exact rfl); (case kK => first | assumption | exact rfl); (case k1 => k_asm); (case k2 => k_asm); (case k3 => k_asm); (case k4 => k_asm); (case k5 => k_asm); (case k6 => k_is); (case k7 => k_is); (case k8 => walk_at "my room"); (case k9 => first | exact BindsTo.of_eq rfl | exact binds_K (by k_in) rfl (by k_is) rfl rfl rfl | fail "k_enter: no rule for these arguments"); (case c5 => decide); (case kB => exact locs rfl); (case c2 => exact rfl); (case c3 => exact rfl); (case c4 => exact rfl); k_whole))
local macro_rules | `(tactic| walk_at "my enter") => `(tactic| (walk_at "my enter0"; intro g' L' h' FG' F' N' B' X' T'; (try dsimp only); (try k_lift B'); (try k_fold)))
local macro_rules | `(tactic| walk_at "call ref") => `(tactic| (k_here; k_dflt (first
  | (refine' call_meth ?k1 ?k2 ?_; (case k1 => k_asm); (case k2 => k_mem); k_whole; walk_at "my enter")
  | (refine wpAny_call ?_; walk_at "my enter"))))
theorem fillK : (hd1.heap_1 = hd1.heap_1) ∧ PySem.Challenge.rw_nq0177_01 = PySem.Challenge.rw_nq0177_01 := by
  w_top off
  k_fill
  exact ⟨rfl, rfl⟩
noncomputable abbrev PG := PySem.Challenge.rw_nq0177_01.row.prog
/-- a text out of its signs -/
noncomputable def mkS (l : List Nat) : Str := ⟨l.toArray⟩
theorem mkS_length (l : List Nat) : (mkS l).length = l.length := by simp [mkS, Str.length]
theorem mkS_cps (l : List Nat) : (mkS l).cps.toList = l := by simp [mkS]
theorem slice_nat (x : Str) {a b : Nat} (hab : a ≤ b) (hb : b ≤ x.length) : PySem.Txt.slice x (some (a : Int)) (some (b : Int)) = mkS ((x.cps.toList.drop a).take (b - a)) :=
  StrLaws.sliceText_nat x hab hb
/-- the sign at p, or nothing behind the end -/
noncomputable def chAt (x : Str) (p : Nat) : Str := mkS ((x.cps.toList.drop p).take 1)
noncomputable def nxt (x : Str) (p : Nat) : Nat := if p < x.length then p + 1 else p
structure Amb (w : World) (A : Around) (base h₀ : Heap) (outer : List Env) (env : Env) (L : Addr) (mg mb : Str → Option Value) (mean : ExcName → Option Value) (loose : List Str) (room : Nat) : Prop where
  B : ∃ A₀, Below A₀ base outer h₀
  X : (hd1.heap_1 w.params).In h₀
  T : Top hdQ loose mean mg mb h₀
  hA : A.frames = some (env :: outer)
  hf : env.frame = some L
  hk : env.scope.kind = .function
  hroom : A.depth + room < recursionLimit
  hh : A.handled = none
noncomputable abbrev sioD (kh : Nat → Int) (kt vt : Nat → Tok) (buf : Str) (p : Nat) (t : Tok) : List DictEntry :=
  [⟨kh 100, .str (Str.ofString "_StringIO__newline") (kt 100), .str (Str.ofString "\n") (vt 100)⟩, ⟨kh 101, .str (Str.ofString "_StringIO__buf") (kt 101), .str buf (vt 101)⟩, ⟨kh 102, .str (Str.ofString "_StringIO__pos") (kt 102), .int (p : Int) t⟩]
noncomputable abbrev lexD (kh : Nat → Int) (kt vt : Nat → Tok) (y pb fs : Addr) (com ws quotes : Str) (split : Bool) (state : Value) (lineno : Int) (t1 : Tok) (token : Str) (t2 : Tok) : List DictEntry :=
  [⟨kh 0, .str (Str.ofString "instream") (kt 0), .ref y⟩,
   ⟨kh 1, .str (Str.ofString "infile") (kt 1), .none⟩,
   ⟨kh 2, .str (Str.ofString "posix") (kt 2), .bool false⟩,
   ⟨kh 3, .str (Str.ofString "eof") (kt 3), .str (Str.ofString "") (vt 3)⟩,
   ⟨kh 4, .str (Str.ofString "commenters") (kt 4), .str com (vt 4)⟩,
   ⟨kh 5, .str (Str.ofString "wordchars") (kt 5), .str (Str.ofString "abcdfeghijklmnopqrstuvwxyzABCDEFGHIJKLMNOPQRSTUVWXYZ0123456789_") (vt 5)⟩,
   ⟨kh 6, .str (Str.ofString "whitespace") (kt 6), .str ws (vt 6)⟩,
   ⟨kh 7, .str (Str.ofString "whitespace_split") (kt 7), .bool split⟩,
   ⟨kh 8, .str (Str.ofString "quotes") (kt 8), .str quotes (vt 8)⟩,
   ⟨kh 9, .str (Str.ofString "escape") (kt 9), .str (Str.ofString "\\") (vt 9)⟩,
   ⟨kh 10, .str (Str.ofString "escapedquotes") (kt 10), .str (Str.ofString "\"") (vt 10)⟩,
   ⟨kh 11, .str (Str.ofString "state") (kt 11), state⟩,
   ⟨kh 12, .str (Str.ofString "pushback") (kt 12), .ref pb⟩,
   ⟨kh 13, .str (Str.ofString "lineno") (kt 13), .int lineno t1⟩,
   ⟨kh 14, .str (Str.ofString "debug") (kt 14), .int 0 (vt 14)⟩,
   ⟨kh 15, .str (Str.ofString "token") (kt 15), .str token t2⟩,
   ⟨kh 16, .str (Str.ofString "filestack") (kt 16), .ref fs⟩,
   ⟨kh 17, .str (Str.ofString "source") (kt 17), .none⟩,
   ⟨kh 18, .str (Str.ofString "_punctuation_chars") (kt 18), .str (Str.ofString "") (vt 18)⟩]
section
variable {w : World} {A : Around} {s : Shared} {base h₀ : Heap} {outer : List Env} {L : Addr} {m : Str → Option Value} {env : Env} {mg mb : Str → Option Value} {mean : ExcName → Option Value} {R : Result → Shared → Prop} {loose : List Str}
  {y dy x dx pb fs : Addr} {kh : Nat → Int} {kt vt : Nat → Tok} {buf : Str} {p : Nat} {t0 t1 t2 t3 : Tok} {com ws quotes token : Str} {split : Bool} {lineno : Int} {rest : List (Addr × Obj)} {room : Nat}
end
local macro_rules | `(tactic| k_all) => `(tactic| assumption)
section
variable {w : World} {A : Around} {s : Shared} {base h₀ : Heap} {outer : List Env} {L : Addr} {m : Str → Option Value} {env : Env} {mg mb : Str → Option Value} {mean : ExcName → Option Value} {R : Result → Shared → Prop} {loose : List Str}
  {y dy x dx pb fs : Addr} {kh : Nat → Int} {kt vt : Nat → Tok} {buf : Str} {p : Nat} {t0 t1 t2 t3 : Tok} {com ws quotes token : Str} {split : Bool} {lineno : Int} {rest : List (Addr × Obj)} {room : Nat}
theorem read_spec (C : Amb w A base h₀ outer env L mg mb mean loose 4) (F : Fr h₀ L s.heap m) {t4 : Tok}
  (N : News h₀ L s.heap ((y, instObj 594 dy) :: (dy, dictOf (sioD kh kt vt buf p t3) 3) :: rest))
  (hne : @Ne Nat y dy) (hr1 : ∀ p ∈ rest, p.1 ≠ dy) (hb : buf.length ≤ 1048576) (hp : p ≤ buf.length)
  (h : ∀ h' tk t t', Fr h₀ L h' m → News h₀ L h' ((y, instObj 594 dy) :: (dy, dictOf (sioD kh kt vt buf (nxt buf p) t') 3) :: rest) → R (.ok (.ret (.str (chAt buf p) t))) { s with heap := h', toks := tk }) :
  codeAny (model PySem.Challenge.rw_nq0177_01.row.prog w) A (.call (.ref 540) ⟨[.ref y, .int 1 t4], []⟩) R s := by
  obtain ⟨⟨A₀, B⟩, X₀, T, hA, hf, hk, hroom, hh⟩ := C
  walk_at "my enter"
  k_steps
  · have e : chAt buf p = Str.ofString "" := by
      have : buf.cps.toList.drop p = [] := List.drop_eq_nil_of_le (by simp only [Str.length] at *; simp; omega)
      unfold chAt; rw [this]; decide +kernel
    have e2 : nxt buf p = p := if_neg (by omega)
    rw [← e]; exact h _ _ _ t3 (by assumption) (by rw [e2]; assumption)
  · have e : PySem.Txt.slice buf (some ((p : Nat) : Int)) (some ((p : Nat) + 1 : Int)) = chAt buf p := by
      have := slice_nat buf (a := p) (b := p + 1) (by omega) (by omega)
      rw [show p + 1 - p = 1 from by omega] at this
      exact this
    have e2 : nxt buf p = p + 1 := if_pos (by omega)
    rw [e]; exact h _ _ _ _ (by assumption) (by rw [e2]; assumption)
  · have e3 : buf.length = p + 1 := by omega
    have e : PySem.Txt.slice buf (some ((p : Nat) : Int)) (some ((buf.length : Nat) : Int)) = chAt buf p := by
      have := slice_nat buf (a := p) (b := p + 1) (by omega) (by omega)
      rw [show p + 1 - p = 1 from by omega] at this
      rw [e3]; exact this
    have e2 : nxt buf p = buf.length := by rw [nxt, if_pos (by omega)]; omega
    rw [e]; exact h _ _ _ _ (by assumption) (by rw [e2]; assumption)
theorem punct_spec (C : Amb w A base h₀ outer env L mg mb mean loose 2) (F : Fr h₀ L s.heap m) {state : Value} {n1 n2 : Obj}
  (N : News h₀ L s.heap ((y, n1) :: (dy, n2) :: (x, instObj 729 dx) :: (dx, dictOf (lexD kh kt vt y pb fs com ws quotes split state lineno t1 token t2) 19) :: rest))
  (h : ∀ h' tk, Fr h₀ L h' m → News h₀ L h' ((y, n1) :: (dy, n2) :: (x, instObj 729 dx) :: (dx, dictOf (lexD kh kt vt y pb fs com ws quotes split state lineno t1 token t2) 19) :: rest) → R (.ok (.ret (.str (Str.ofString "") (vt 18)))) { s with heap := h', toks := tk }) :
  codeAny (model PySem.Challenge.rw_nq0177_01.row.prog w) A (.call (.ref 660) ⟨[.ref x], []⟩) R s := by
  obtain ⟨⟨A₀, B⟩, X₀, T, hA, hf, hk, hroom, hh⟩ := C
  walk_at "my enter"
  k_steps
  exact h _ _ (by assumption) (by assumption)
end
open Builtin Builtin.Str in
theorem gives_find_to (x y : Str) (i : Int) (t u v v' : Tok) : Gives («str.find» ⟨[.str x t, .str y u, .int i v, .int (x.length : Int) v'], []⟩) (.int (Txt.find3 x y i)) := by
  have e : fromIndex x.length (x.length : Int) = x.length := by unfold fromIndex; split <;> omega
  show Gives (match occurrences x y (fromIndex x.length i) (min (fromIndex x.length (x.length : Int)) x.length) 1 with | k :: _ => retInt k | [] => (do rule "str.find.not-found"; retInt (-1))) _
  rw [e, Nat.min_self]
  unfold Txt.find3
  cases occurrences x y (fromIndex x.length i) x.length 1 with
  | nil => exact .rule (.of_eq rfl)
  | cons k _ => exact .of_eq rfl
theorem find_to {prog : Program} {w : World} {A : Around} {E : Value → Shared → Prop} {s : Shared} {x y : Str} {t u v v' : Tok} {i : Int} {Q : Value → Shared → Prop} (hq : Q (.int (Txt.find3 x y i) s.toks) { s with toks := s.toks + 1 }) :
    wpAny (model prog w) A (call (.builtin "str.find") [.str x t, .str y u, .int i v, .int (x.length : Int) v']) Q E s :=
  call_gives F.slot_str_find (typeIs_str _ _ _) F.entry_str_find (F.args_str_find_4 _ _ _ _) (gives_find_to x y i t u v v') hq
local macro_rules | `(tactic| walk_at "call builtin:str.find") => `(tactic| refine find_to ?_)
/-- where the line that begins at p ends -/
noncomputable def lineEnd (x : Str) (p : Nat) : Nat := if p < x.length then (if Txt.find3 x (Str.ofString "\n") (p : Int) < 0 then x.length else (Txt.find3 x (Str.ofString "\n") (p : Int)).toNat + 1) else p
section
variable {w : World} {A : Around} {s : Shared} {base h₀ : Heap} {outer : List Env} {L : Addr} {m : Str → Option Value} {env : Env} {mg mb : Str → Option Value} {mean : ExcName → Option Value} {R : Result → Shared → Prop} {loose : List Str}
  {y dy x dx pb fs : Addr} {kh : Nat → Int} {kt vt : Nat → Tok} {buf : Str} {p : Nat} {t0 t1 t2 t3 : Tok} {com ws quotes token : Str} {split : Bool} {lineno : Int} {rest : List (Addr × Obj)} {room : Nat}
theorem readline_spec (C : Amb w A base h₀ outer env L mg mb mean loose 4) (F : Fr h₀ L s.heap m) 
  (N : News h₀ L s.heap ((y, instObj 594 dy) :: (dy, dictOf (sioD kh kt vt buf p t3) 3) :: rest))
  (hne : @Ne Nat y dy) (hr1 : ∀ p ∈ rest, p.1 ≠ dy) (hb : buf.length ≤ 1048576) (hp : p ≤ buf.length)
  (h : ∀ h' tk z t t', Fr h₀ L h' m → News h₀ L h' ((y, instObj 594 dy) :: (dy, dictOf (sioD kh kt vt buf (lineEnd buf p) t') 3) :: rest) → R (.ok (.ret (.str z t))) { s with heap := h', toks := tk }) :
  codeAny (model PySem.Challenge.rw_nq0177_01.row.prog w) A (.call (.ref 548) ⟨[.ref y], []⟩) R s := by
  obtain ⟨⟨A₀, B⟩, X₀, T, hA, hf, hk, hroom, hh⟩ := C
  have hfb := fact_find3 buf (Str.ofString "\n") (p : Int)
  walk_at "my enter"
  k_steps
  · have e : lineEnd buf p = p := if_neg (by omega)
    exact h _ _ _ _ t3 (by assumption) (by rw [e]; assumption)
  · have e : ((lineEnd buf p : Nat) : Int) = Txt.find3 buf (Str.ofString "\n") (p : Int) + 1 := by
      rw [lineEnd, if_pos (by omega), if_neg (by omega)]; omega
    exact h _ _ _ _ _ (by assumption) (by dsimp only [sioD]; rw [e]; assumption)
  · have e : lineEnd buf p = buf.length := by rw [lineEnd, if_pos (by omega), if_pos (by omega)]
    exact h _ _ _ _ _ (by assumption) (by rw [e]; assumption)
end
inductive LS where
  | dead | blank | word | quot (q : Nat)
noncomputable def LS.val (t : Tok) : LS → Value
  | .dead => .none
  | .blank => .str (Str.ofString " ") t
  | .word => .str (Str.ofString "a") t
  | .quot q => .str (mkS [q]) t
/-- is the sign in the text -/
noncomputable def hasC (x : Str) (c : Nat) : Bool := decide (c ∈ x.cps.toList)
theorem contains_one (x : Str) (c : Nat) : Txt.contains x (mkS [c]) = hasC x c := StrLaws.found_one x c
noncomputable abbrev wordS : Str := Str.ofString "abcdfeghijklmnopqrstuvwxyzABCDEFGHIJKLMNOPQRSTUVWXYZ0123456789_"
structure Pm where
  com : Str
  ws : Str
  quotes : Str
  split : Bool
inductive Out where
  | ok (rem : List Nat) (ln : Int) (st : LS) (res : List Nat) (push : Option Nat)
  | err
noncomputable def dropLine : List Nat → List Nat
  | [] => []
  | c :: r => if c = 10 then r else dropLine r
theorem dropLine_le : ∀ l, (dropLine l).length ≤ l.length
  | [] => Nat.le_refl _
  | c :: r => by
    unfold dropLine
    split
    · simp
    · have := dropLine_le r; simp; omega
noncomputable def nlc (c : Nat) : Int := if c = 10 then 1 else 0
noncomputable def rt (P : Pm) : List Nat → Int → LS → List Nat → Out
  | [], ln, .dead, _ => .ok [] ln .dead [] none
  | [], _, .quot _, _ => .err
  | [], ln, .blank, tok => .ok [] ln .dead tok none
  | [], ln, .word, tok => .ok [] ln .dead tok none
  | _ :: _, _, .dead, _ => .err
  | c :: r, ln, .blank, tok =>
    if hasC P.ws c then rt P r (ln + nlc c) .blank tok
    else if hasC P.com c then rt P (dropLine r) (ln + nlc c + 1) .blank tok
    else if hasC wordS c then rt P r (ln + nlc c) .word [c]
    else if hasC P.quotes c then rt P r (ln + nlc c) (.quot c) [c]
    else if P.split then rt P r (ln + nlc c) .word [c]
    else .ok r (ln + nlc c) .blank [c] none
  | c :: r, ln, .quot q, tok => if c = q then .ok r (ln + nlc c) .blank (tok ++ [c]) none else rt P r (ln + nlc c) (.quot q) (tok ++ [c])
  | c :: r, ln, .word, tok =>
    if hasC P.ws c then .ok r (ln + nlc c) .blank tok none
    else if hasC P.com c then rt P (dropLine r) (ln + nlc c + 1) .word tok
    else if hasC wordS c || hasC P.quotes c || P.split then rt P r (ln + nlc c) .word (tok ++ [c])
    else .ok r (ln + nlc c) .blank tok (some c)
termination_by l => l.length
decreasing_by all_goals (simp_wf; try have := dropLine_le r; try omega)
theorem rt_blank (P : Pm) (c : Nat) (r : List Nat) (ln : Int) (tok : List Nat) : rt P (c :: r) ln .blank tok =
    if hasC P.ws c then rt P r (ln + nlc c) .blank tok
    else if hasC P.com c then rt P (dropLine r) (ln + nlc c + 1) .blank tok
    else if hasC wordS c then rt P r (ln + nlc c) .word [c]
    else if hasC P.quotes c then rt P r (ln + nlc c) (.quot c) [c]
    else if P.split then rt P r (ln + nlc c) .word [c]
    else .ok r (ln + nlc c) .blank [c] none := by rw [rt]
theorem rt_quot (P : Pm) (c : Nat) (r : List Nat) (ln : Int) (q : Nat) (tok : List Nat) : rt P (c :: r) ln (.quot q) tok =
    if c = q then .ok r (ln + nlc c) .blank (tok ++ [c]) none else rt P r (ln + nlc c) (.quot q) (tok ++ [c]) := by rw [rt]
theorem rt_word (P : Pm) (c : Nat) (r : List Nat) (ln : Int) (tok : List Nat) : rt P (c :: r) ln .word tok =
    if hasC P.ws c then .ok r (ln + nlc c) .blank tok none
    else if hasC P.com c then rt P (dropLine r) (ln + nlc c + 1) .word tok
    else if hasC wordS c || hasC P.quotes c || P.split then rt P r (ln + nlc c) .word (tok ++ [c])
    else .ok r (ln + nlc c) .blank tok (some c) := by rw [rt]
theorem rt_blank_nil (P : Pm) (ln : Int) (tok : List Nat) : rt P [] ln .blank tok = .ok [] ln .dead tok none := by rw [rt]
theorem rt_word_nil (P : Pm) (ln : Int) (tok : List Nat) : rt P [] ln .word tok = .ok [] ln .dead tok none := by rw [rt]
theorem rt_dead_nil (P : Pm) (ln : Int) (tok : List Nat) : rt P [] ln .dead tok = .ok [] ln .dead [] none := by rw [rt]
theorem rt_quot_nil (P : Pm) (ln : Int) (q : Nat) (tok : List Nat) : rt P [] ln (.quot q) tok = .err := by rw [rt]
noncomputable def okSt (P : Pm) (st : LS) (rem tok : List Nat) : Prop := match st with
  | .dead => rem = [] ∧ tok = []
  | .blank => tok = []
  | .word => tok ≠ []
  | .quot q => hasC P.quotes q = true ∧ tok ≠ []
theorem mkS_append (a b : List Nat) : mkS a ++ mkS b = mkS (a ++ b) := by
  show Str.mk (a.toArray ++ b.toArray) = Str.mk (a ++ b).toArray
  simp
theorem mkS_nil : mkS [] = Str.ofString "" := by decide +kernel
theorem mkS_inj {a b : List Nat} (h : mkS a = mkS b) : a = b := by
  have := congrArg (fun x => x.cps.toList) h
  simpa [mkS] using this
theorem chAt_at {buf : Str} {pre : List Nat} {c : Nat} {r : List Nat} (h : buf = mkS (pre ++ c :: r)) : chAt buf pre.length = mkS [c] := by
  subst h; simp [chAt, mkS_cps]
theorem chAt_end {buf : Str} {pre : List Nat} (h : buf = mkS (pre ++ [])) : chAt buf pre.length = Str.ofString "" := by
  subst h; rw [← mkS_nil]; simp [chAt, mkS_cps]
theorem nxt_at {buf : Str} {pre : List Nat} {c : Nat} {r : List Nat} (h : buf = mkS (pre ++ c :: r)) : nxt buf pre.length = (pre ++ [c]).length := by
  subst h; simp [nxt, mkS_length]
theorem nxt_end {buf : Str} {pre : List Nat} (h : buf = mkS (pre ++ [])) : nxt buf pre.length = pre.length := by
  subst h; simp [nxt, mkS_length]
theorem dropLine_split : ∀ r : List Nat, ∃ u, r = u ++ dropLine r
  | [] => ⟨[], rfl⟩
  | c :: r => by
    unfold dropLine
    split
    · exact ⟨[c], rfl⟩
    · obtain ⟨u, h⟩ := dropLine_split r
      exact ⟨c :: u, by rw [List.cons_append, ← h]⟩
noncomputable abbrev lm (x : Addr) (q : Bool) (te : Tok) (nc : Option Value) : Str → Option Value := fun y => if y = Str.ofString "nextchar" then nc else if y = Str.ofString "escapedstate" then some (.str (Str.ofString " ") te) else if y = Str.ofString "quoted" then some (.bool q) else if y = Str.ofString "self" then some (.ref x) else none
theorem fr_congr {h₀ h : Heap} {L : Addr} {m m' : Str → Option Value} (F : Fr h₀ L h m) (e : ∀ y, m y = m' y) : Fr h₀ L h m' := by
  have : m = m' := funext e
  subst this; exact F
noncomputable abbrev dqObj (k : Int) (xs : List Value) : Obj := { cls := .type "collections.deque", data := .fields (Value.none :: Value.int k 0 :: xs).toArray }
noncomputable def StepQ (I : Nat → Shared → Prop) (P : Shared → Prop) (n : Nat) (f : Flow) (s₃ : Shared) : Prop := match f with
            | .next | .cont => ∃ k, k < n ∧ I k s₃
            | .brk => P s₃
            | .ret _ => False
theorem While_brk {prog : Program} {w : World} {A : Around} {E : Value → Shared → Prop} {Q : Flow → Shared → Prop} {s : Shared} {env : Env}
    {test : Expr} {body : List Stmt} {pos : Pos} (I : Nat → Shared → Prop) (P : Shared → Prop) (n₀ : Nat) (hI : I n₀ s)
    (turn : ∀ n s, I n s → wpAny (model prog w) A (isTrue test env (eval test env)) (fun b s₂ => if b = true then wpAny (model prog w) A (execs body env) (StepQ I P n) E s₂ else False) E s)
    (after : ∀ s', P s' → Q .next s')
    (hE : PassesOwn (model prog w) A env E := by passes_own) :
    wpAny (model prog w) A (exec (.While test body [] pos) env) Q E s := by
  refine wpAny_While (codeAny_whileLoop I ?_ n₀ hI)
  intro n s hn
  refine wpAny_mono (turn n s hn) (fun b s₂ h₂ => ?_) hE
  cases b with
  | false => exact h₂.elim
  | true =>
    simp only [if_true] at h₂ ⊢
    refine wpAny_mono h₂ (fun f s₃ h₃ => ?_) hE
    cases f with
    | next => exact h₃
    | cont => exact h₃
    | brk => exact after _ h₃
    | ret v => exact h₃.elim
local macro_rules | `(tactic| walk_at "my amb") => `(tactic| (refine' ⟨⟨_, ?b⟩, ?x, ?t, ?a, ?f, ?k, ?r, ?hh⟩; (case hh => first | assumption | exact rfl); (case a => walk_at "my frames"); (case f => first | assumption | exact rfl); (case k => first | assumption | exact rfl); (case b => k_asm); (case x => k_asm); (case t => k_asm); (case r => walk_at "my room")))
local macro_rules | `(tactic| walk_at "getAttr ref") => `(tactic| (k_here; (with_reducible show wpAny _ _ (getAttr (Value.ref _) (PySem.Str.ofString "punctuation_chars") _) _ _ _); k_dflt (refine' get_prop ?k1 ?k2 ?k3 ?k4 ?k5 ?k6 ?k7 ?k8 ?k9 ?_; (case k1 => k_asm); (case k2 => k_asm); (case k3 => k_inst); (case k4 => k_is); (case k5 => k_is); (case k6 => k_is); (case k7 => k_is); (case k8 => k_is); (case k9 => k_is); k_whole; refine' punct_spec ?C ?F ?N ?_; (case F => k_asm); (case N => k_asm); (case C => walk_at "my amb"); intro h' tk' F' N'; refine handed_on rfl ?_; (try dsimp only); (try k_sweep))))
local macro_rules | `(tactic| walk_at "exec If") => `(tactic| (k_here; refine wpAny_If ?_))
section
variable {prog : Program} {w : World} {A : Around} {E : Value → Shared → Prop} {s : Shared} {x : Str} {t u : Tok} {Q : Value → Shared → Prop} {c : Nat}
theorem in_one (h : Q (.bool (hasC x c)) s) : wpAny (model prog w) A (compareOp .In (.str (mkS [c]) u) (.str x t)) Q E s := in_str (by rw [show (!(Builtin.Str.occurrences x (mkS [c]) 0 x.length 1).isEmpty) = hasC x c from StrLaws.found_one x c]; exact h)
theorem in_one_no (e : hasC x c = false) (h : Q (.bool false) s) : wpAny (model prog w) A (compareOp .In (.str (mkS [c]) u) (.str x t)) Q E s := in_one (e ▸ h)
theorem in_one_yes (e : hasC x c = true) (h : Q (.bool true) s) : wpAny (model prog w) A (compareOp .In (.str (mkS [c]) u) (.str x t)) Q E s := in_one (e ▸ h)
theorem notin_one_yes (e : hasC x c = false) (h : Q (.bool true) s) : wpAny (model prog w) A (compareOp .NotIn (.str (mkS [c]) u) (.str x t)) Q E s := notIn_str (by rw [show (!(Builtin.Str.occurrences x (mkS [c]) 0 x.length 1).isEmpty) = hasC x c from StrLaws.found_one x c, e]; exact h)
theorem hasC_nil (c : Nat) : hasC (Str.ofString "") c = false := by rw [← mkS_nil]; simp [hasC, mkS_cps]
theorem in_a_no (e : hasC x 97 = false) (h : Q (.bool false) s) : wpAny (model prog w) A (compareOp .In (.str (Str.ofString "a") u) (.str x t)) Q E s := by
  rw [show Str.ofString "a" = mkS [97] from by decide +kernel]; exact in_one_no e h
end
local macro_rules | `(tactic| walk_at "compareOp In str str") => `(tactic| ((with_reducible show wpAny _ _ (compareOp CmpOp.In (Value.str (mkS [_]) _) (Value.str _ _)) _ _ _); first | refine in_one_no (hasC_nil _) ?_ | refine in_one_no (by with_reducible assumption) ?_ | refine in_one_yes (by with_reducible assumption) ?_ | refine in_one ?_))
theorem hasC_esc : hasC (Str.ofString "\\") 97 = false := by decide +kernel
local macro_rules | `(tactic| walk_at "compareOp In str str") => `(tactic| ((with_reducible show wpAny _ _ (compareOp CmpOp.In (Value.str (PySem.Str.ofString "a") _) (Value.str _ _)) _ _ _); first | refine in_a_no hasC_esc ?_ | refine in_a_no (by with_reducible assumption) ?_))
theorem iadd_mk {prog : Program} {w : World} {A : Around} {E : Value → Shared → Prop} {s : Shared} {a b : List Nat} {t u : Tok} {Q : Value → Shared → Prop} (hl : (mkS a).length ≤ 4096) (hl2 : (mkS b).length ≤ 4096) (h : ∀ t' k, Q (.str (mkS a ++ mkS b) t') { s with toks := k }) : wpAny (model prog w) A (inplaceOp .Add (.str (mkS a) t) (.str (mkS b) u)) Q E s :=
  SBL.iadd (fun t' k _ => h t' k) (by rw [sizeLine_eq]; omega)
local macro_rules | `(tactic| walk_at "inplaceOp Add str str") => `(tactic| ((with_reducible show wpAny _ _ (inplaceOp Operator.Add (Value.str (mkS _) _) (Value.str (mkS _) _)) _ _ _); k_dflt (refine iadd_mk (by with_reducible assumption) (Nat.le_of_ble_eq_true rfl) ?_; intro _ _)))
local macro_rules | `(tactic| walk_at "compareOp NotIn str str") => `(tactic| ((with_reducible show wpAny _ _ (compareOp CmpOp.NotIn (Value.str (mkS [_]) _) (Value.str _ _)) _ _ _); refine notin_one_yes (hasC_nil _) ?_))
section
variable {w : World} {A : Around} {s : Shared} {base h₀ : Heap} {outer : List Env} {L : Addr} {m : Str → Option Value} {env : Env} {mg mb : Str → Option Value} {mean : ExcName → Option Value} {R : Result → Shared → Prop} {loose : List Str}
  {y dy x dx pb fs : Addr} {kh : Nat → Int} {kt vt : Nat → Tok} {buf : Str} {p : Nat} {t0 t1 t2 t3 : Tok} {com ws quotes token : Str} {split : Bool} {lineno : Int} {rest : List (Addr × Obj)} {room : Nat}
theorem read_spec' (C : Amb w A base h₀ outer env L mg mb mean loose 4) (F : Fr h₀ L s.heap m) {t4 : Tok}
  (N : News h₀ L s.heap ((y, instObj 594 dy) :: (dy, dictOf (sioD kh kt vt buf p t3) 3) :: rest))
  (hne : @Ne Nat y dy) (hr1 : ∀ p ∈ rest, p.1 ≠ dy) (hb : buf.length ≤ 1048576) (hp : p ≤ buf.length) {z : Str} {p' : Nat} (hz : chAt buf p = z) (hn : nxt buf p = p')
  (h : ∀ h' tk t t', Fr h₀ L h' m → News h₀ L h' ((y, instObj 594 dy) :: (dy, dictOf (sioD kh kt vt buf p' t') 3) :: rest) → R (.ok (.ret (.str z t))) { s with heap := h', toks := tk }) :
  codeAny (model PySem.Challenge.rw_nq0177_01.row.prog w) A (.call (.ref 540) ⟨[.ref y, .int 1 t4], []⟩) R s := by
  subst hz hn; exact read_spec C F N hne hr1 hb hp h
theorem readline_spec' (C : Amb w A base h₀ outer env L mg mb mean loose 4) (F : Fr h₀ L s.heap m)
  (N : News h₀ L s.heap ((y, instObj 594 dy) :: (dy, dictOf (sioD kh kt vt buf p t3) 3) :: rest))
  (hne : @Ne Nat y dy) (hr1 : ∀ p ∈ rest, p.1 ≠ dy) (hb : buf.length ≤ 1048576) (hp : p ≤ buf.length) {p' : Nat} (hn : lineEnd buf p = p')
  (h : ∀ h' tk z t t', Fr h₀ L h' m → News h₀ L h' ((y, instObj 594 dy) :: (dy, dictOf (sioD kh kt vt buf p' t') 3) :: rest) → R (.ok (.ret (.str z t))) { s with heap := h', toks := tk }) :
  codeAny (model PySem.Challenge.rw_nq0177_01.row.prog w) A (.call (.ref 548) ⟨[.ref y], []⟩) R s := by
  subst hn; exact readline_spec C F N hne hr1 hb hp h
end
local macro_rules | `(tactic| walk_at "my ne") => `(tactic| first | with_reducible assumption | exact Ne.symm (by with_reducible assumption) | (with_reducible apply And.intro <;> walk_at "my ne") | fail)
local macro_rules | `(tactic| k_ne) => `(tactic| (refine neN ?_; (try dsimp only); walk_at "my ne"))
local macro_rules | `(tactic| walk_at "call ref") => `(tactic| (k_here; (with_reducible show wpAny _ _ (call (Value.ref 540) _) _ _ _); k_dflt (refine wpAny_call ?_; refine' read_spec' ?C ?F ?N ?h1 ?h2 ?h3 ?h4 ?h5 ?h6 ?_; (case F => k_asm); (case N => k_asm); (case C => walk_at "my amb"); (case h1 => first | walk_at "my ne" | omega); (case h2 => k_all); (case h3 => with_reducible assumption); (case h4 => with_reducible assumption); (case h5 => with_reducible assumption); (case h6 => with_reducible assumption); intro h' tk' t' t2' F' N'; (try dsimp only); (try k_sweep))))
local macro_rules | `(tactic| walk_at "call ref") => `(tactic| (k_here; (with_reducible show wpAny _ _ (call (Value.ref 548) _) _ _ _); k_dflt (refine wpAny_call ?_; refine' readline_spec' ?C ?F ?N ?h1 ?h2 ?h3 ?h4 ?h5 ?_; (case F => k_asm); (case N => k_asm); (case C => walk_at "my amb"); (case h1 => first | walk_at "my ne" | omega); (case h2 => k_all); (case h3 => with_reducible assumption); (case h4 => with_reducible assumption); (case h5 => with_reducible assumption); intro h' tk' z' t' t2' F' N'; (try dsimp only); (try k_sweep))))
local macro_rules | `(tactic| walk_at "truthy str") => `(tactic| (k_here; (with_reducible show wpAny _ _ (PySem.truthy (Value.str (mkS _) _)) _ _ _); (refine KXt.truthy (b := true) ?e ?l ?_; (case e => first | with_reducible assumption | exact rfl); (case l => first | with_reducible assumption | exact Nat.le_of_ble_eq_true rfl); intro _)))
/- the statement that counts the lines -/
noncomputable abbrev scTok : Scope := { kind := ScopeKind.function, names := [(Str.ofString "self", NameKind.local), (Str.ofString "quoted", NameKind.local), (Str.ofString "escapedstate", NameKind.local), (Str.ofString "nextchar", NameKind.local), (Str.ofString "result", NameKind.local), (Str.ofString "print", NameKind.globalImplicit), (Str.ofString "ValueError", NameKind.globalImplicit), (Str.ofString "repr", NameKind.globalImplicit)], isGenerator := false, isCoroutine := false }
theorem nlc_yes {c : Nat} (h : (mkS [c] == Str.ofString "\n") = true) : nlc c = 1 := by
  have : mkS [c] = mkS [10] := by rw [eq_of_beq h]; decide +kernel
  rw [List.head_eq_of_cons_eq (mkS_inj this)]; rfl
theorem nlc_no {c : Nat} (h : (mkS [c] == Str.ofString "\n") = false) : nlc c = 0 := by
  refine if_neg fun e => ?_
  subst e
  rw [show (mkS [10] == Str.ofString "\n") = true from by decide +kernel] at h
  cases h
section
variable {w : World} {A : Around} {s : Shared} {h₀ : Heap} {L : Addr} {m : Str → Option Value} {Q : Flow → Shared → Prop} {E : Value → Shared → Prop}
  {y dy x dx pb fs : Addr} {kh : Nat → Int} {kt vt : Nat → Tok} {buf : Str} {p : Nat} {tc t0 t1 t2 t3 : Tok} {com ws quotes token : Str} {split : Bool} {ln : Int} {rest : List (Addr × Obj)} {state : Value} {c : Nat} {nc : Option Value} {q : Bool} {te : Tok} {n1 n2 : Obj}
  {p1 p2 p3 p4 p5 p6 p7 p8 : Pos} {k2 k6 : Nat}
theorem nl_step (F : Fr h₀ L s.heap (fun y => if y = Str.ofString "nextchar" then some (.str (mkS [c]) tc) else lm x q te nc y)) (X : (hd1.heap_1 w.params).In h₀)
  (N : News h₀ L s.heap ((y, n1) :: (dy, n2) :: (x, instObj 729 dx) :: (dx, dictOf (lexD kh kt vt y pb fs com ws quotes split state ln t1 token t2) 19) :: rest))
  (hne : @Ne Nat y dx ∧ @Ne Nat dy dx ∧ @Ne Nat x dx) (hr2 : ∀ p ∈ rest, p.1 ≠ dx)
  (h : ∀ h' tk t', Fr h₀ L h' (fun y => if y = Str.ofString "nextchar" then some (.str (mkS [c]) tc) else lm x q te nc y) → News h₀ L h' ((y, n1) :: (dy, n2) :: (x, instObj 729 dx) :: (dx, dictOf (lexD kh kt vt y pb fs com ws quotes split state (ln + nlc c) t' token t2) 19) :: rest) → Q .next { s with heap := h', toks := tk }) :
  wpAny (model PySem.Challenge.rw_nq0177_01.row.prog w) A (exec (.If (.Compare (.Name (Str.ofString "nextchar") p1) [.Eq] [.Constant (.str (Str.ofString "\n")) k2 p2] p3) [.AugAssign (.Attribute (.Name (Str.ofString "self") p4) (Str.ofString "lineno") p5) .Add (.Constant (.int 1) k6 p6) p7] [] p8) (envOf (Str.ofString "shlex.read_token") scTok L 697 (.ref 696))) Q E s := by
  k_steps
  · have e := nlc_yes (by assumption)
    exact h _ _ _ (by assumption) (by rw [e]; assumption)
  · have e := nlc_no (by assumption)
    exact h _ _ _ (by assumption) (by rw [e, Int.add_zero]; assumption)
end
local macro_rules | `(tactic| walk_at "exec If") => `(tactic| (k_here; k_dflt (refine' nl_step ?F ?X ?N ?n1 ?n2 ?_; (case F => k_asm); (case X => k_asm); (case N => k_asm); (case n1 => first | walk_at "my ne" | omega); (case n2 => k_all); intro h' tk' t' F' N'; (try k_sweep))))
theorem dq_plain : PlainAttrs "collections.deque" :=
  ⟨⟨"collections.deque.__getattribute__", by rw [typeLookup_type, builtinLookup_eq_fast]; kernel_rfl, by decide +kernel⟩, by rw [typeLookup_type, builtinLookup_eq_fast]; kernel_rfl⟩
theorem dq_owner : Manifest.owners.lookup (String.ofList "collections.deque".toList.reverse.reverse) = some Manifest.sig_collections_deque := by kernel_rfl
theorem dq_slot_al : Slot "collections.deque" "appendleft" "collections.deque.appendleft" :=
  .of (owner := "collections.deque") (n := "appendleft") (by rw [typeLookup_type, builtinLookup_eq_fast]; kernel_rfl) (by decide +kernel) (by decide +kernel) (by decide +kernel)
    (by first | exact .inl (by decide +kernel) | exact .inr (by decide +kernel)) (by rw [isSubtype_type]; kernel_rfl)
theorem dq_slot_pl : Slot "collections.deque" "popleft" "collections.deque.popleft" :=
  .of (owner := "collections.deque") (n := "popleft") (by rw [typeLookup_type, builtinLookup_eq_fast]; kernel_rfl) (by decide +kernel) (by decide +kernel) (by decide +kernel)
    (by first | exact .inl (by decide +kernel) | exact .inr (by decide +kernel)) (by rw [isSubtype_type]; kernel_rfl)
theorem dq_slot_len : Slot "collections.deque" "__len__" "collections.deque.__len__" :=
  .of (owner := "collections.deque") (n := "__len__") (by rw [typeLookup_type, builtinLookup_eq_fast]; kernel_rfl) (by decide +kernel) (by decide +kernel) (by decide +kernel)
    (by first | exact .inl (by decide +kernel) | exact .inr (by decide +kernel)) (by rw [isSubtype_type]; kernel_rfl)
theorem dq_type_al : typeOf (.builtin "collections.deque.appendleft") = pure (.type "method_descriptor") := by show builtinType _ = _; rw [builtinType_eq_fast]; kernel_rfl
theorem dq_type_pl : typeOf (.builtin "collections.deque.popleft") = pure (.type "method_descriptor") := by show builtinType _ = _; rw [builtinType_eq_fast]; kernel_rfl
theorem dq_entry_al : entryFor table "collections.deque.appendleft" = some Builtin.«collections.deque.appendleft» := entryFor_of_tree (by kernel_rfl)
theorem dq_entry_pl : entryFor table "collections.deque.popleft" = some Builtin.«collections.deque.popleft» := entryFor_of_tree (by kernel_rfl)
theorem dq_entry_len : entryFor table "collections.deque.__len__" = some Builtin.«collections.deque.__len__» := entryFor_of_tree (by kernel_rfl)
theorem dq_args_al (a b : Value) : argsOk "collections.deque.appendleft" ⟨[a, b], []⟩ := by
  unfold argsOk; rw [signature?_of (id := "collections.deque.appendleft") (n := "appendleft".toList.reverse) (o := "collections.deque".toList.reverse) (by kernel_rfl) dq_owner]; kernel_rfl
theorem dq_args_pl (a : Value) : argsOk "collections.deque.popleft" ⟨[a], []⟩ := by
  unfold argsOk; rw [signature?_of (id := "collections.deque.popleft") (n := "popleft".toList.reverse) (o := "collections.deque".toList.reverse) (by kernel_rfl) dq_owner]; kernel_rfl
theorem dq_args_len (a : Value) : argsOk "collections.deque.__len__" ⟨[a], []⟩ := by
  unfold argsOk; rw [signature?_of (id := "collections.deque.__len__") (n := "__len__".toList.reverse) (o := "collections.deque".toList.reverse) (by kernel_rfl) dq_owner]; kernel_rfl
theorem dq_noBool : typeLookup (.type "collections.deque") "__bool__" = pure none := by rw [typeLookup_type, builtinLookup_eq_fast]; kernel_rfl
section
variable {prog : Program} {w : World} {A : Around} {E : Value → Shared → Prop} {s : Shared} {h₀ : Heap} {L a : Addr} {m : Str → Option Value} {news news' : List (Addr × Obj)} {k : Int} {xs : List Value} {v : Value}
theorem dq_change {f : Array Value → Array Value} {ys : List Value} {Q : Unit → Shared → Prop} (ho : s.heap.get? a = some (dqObj k xs)) (hf : f xs.toArray = ys.toArray) (hl : ys.length ≤ 1000)
    (h : ∀ h', Heap.SameBut a s.heap h' → h'.get? a = some (dqObj (k + 1) ys) → Q () { s with heap := h' }) : wpAny (model prog w) A (Builtin.Deque.change (.ref a) f) Q E s := by
  unfold Builtin.Deque.change Builtin.Deque.state
  refine wpAny_bind (wpAny_bind (wpAny_field ho rfl (i := 1) (x := .int k 0) (by rfl) (wpAny_pure ?_)))
  have e : (#[(Value.none :: Value.int k 0 :: xs).toArray.getD 0 .none, rawInt (k + 1)] ++ f ((Value.none :: Value.int k 0 :: xs).toArray.extract 2 (Value.none :: Value.int k 0 :: xs).toArray.size) : Array Value) = (Value.none :: Value.int (k + 1) 0 :: ys).toArray := by
    have e1 : (Value.none :: Value.int k 0 :: xs).toArray.extract 2 (Value.none :: Value.int k 0 :: xs).toArray.size = xs.toArray := by
      apply Array.ext'
      simp
    rw [e1, hf]
    apply Array.ext'
    simp [rawInt]
  refine wpAny_updateFields ho rfl (h _ (Heap.SameBut.update ..) ?_) ?_
  · have hd : (Obj.mapFields (fun vs => #[vs.getD 0 .none, rawInt (if true = true then k + 1 else k)] ++ f (vs.extract 2 vs.size)) (dqObj k xs)) = dqObj (k + 1) ys := by
      show ({ cls := Value.type "collections.deque", data := .fields (#[(Value.none :: Value.int k 0 :: xs).toArray.getD 0 .none, rawInt (k + 1)] ++ f ((Value.none :: Value.int k 0 :: xs).toArray.extract 2 (Value.none :: Value.int k 0 :: xs).toArray.size)) } : Obj) = _
      rw [e]
    rw [← hd]
    exact Heap.get?_update_self _ ho (by rw [hd]; rfl)
  · show (#[(Value.none :: Value.int k 0 :: xs).toArray.getD 0 .none, rawInt (k + 1)] ++ f ((Value.none :: Value.int k 0 :: xs).toArray.extract 2 (Value.none :: Value.int k 0 :: xs).toArray.size) : Array Value).size ≤ _
    rw [e]
    simp
    rw [sizeLine_eq]; omega
theorem dq_append {Q : Value → Shared → Prop} (F : Fr h₀ L s.heap m) (N : News h₀ L s.heap news) (U : Upd a (dqObj k xs) (dqObj (k + 1) (v :: xs)) news news') (hl : xs.length ≤ 100)
    (h : ∀ h', Fr h₀ L h' m → News h₀ L h' news' → Q .none { s with heap := h' }) : wpAny (model prog w) A (call (.builtin "collections.deque.appendleft") [.ref a, v]) Q E s := by
  obtain ⟨pre, post, rfl, rfl, p1, p2⟩ := U.split
  have z := N (a, dqObj k xs) (List.mem_append.mpr (.inr (.head _)))
  refine wpAny_call_entry dq_slot_al ⟨_, z.1, rfl⟩ dq_entry_al ?_ (dq_args_al _ _)
  show wpAny _ _ (do Builtin.Deque.pushLeft (.ref a) v; ret .none) _ _ s
  unfold Builtin.Deque.pushLeft
  refine wpAny_bind (wpAny_bind (dq_change z.1 (f := (#[v] ++ ·)) (ys := v :: xs) (by apply Array.ext'; simp) (by simp; omega) fun h' hs ho' => ?_))
  unfold Builtin.Deque.maxlen
  refine wpAny_bind (wpAny_bind (wpAny_field (s := { s with heap := h' }) ho' rfl (i := 0) (x := .none) (by rfl) (wpAny_pure (wpAny_pure (wpAny_pure ⟨_, rfl, ?_⟩)))))
  exact h h' (F.change hs z.2.1 z.2.2) (news_set N p1 p2 hs ho')
theorem dq_popleft {Q : Value → Shared → Prop} (F : Fr h₀ L s.heap m) (N : News h₀ L s.heap news) (U : Upd a (dqObj k (v :: xs)) (dqObj (k + 1) xs) news news') (hl : xs.length ≤ 100)
    (h : ∀ h', Fr h₀ L h' m → News h₀ L h' news' → Q v { s with heap := h' }) : wpAny (model prog w) A (call (.builtin "collections.deque.popleft") [.ref a]) Q E s := by
  obtain ⟨pre, post, rfl, rfl, p1, p2⟩ := U.split
  have z := N (a, dqObj k (v :: xs)) (List.mem_append.mpr (.inr (.head _)))
  refine wpAny_call_entry dq_slot_pl ⟨_, z.1, rfl⟩ dq_entry_pl ?_ (dq_args_pl _)
  unfold Builtin.«collections.deque.popleft»
  refine wpAny_bind (m := selfOnly "deque.popleft" _) (wpAny_pure ?_)
  unfold Builtin.Deque.items
  refine wpAny_bind (wpAny_bind (wpAny_fieldsOf z.1 rfl (wpAny_pure ?_)))
  have e1 : ((Value.none :: Value.int k 0 :: v :: xs).toArray.extract 2 (Value.none :: Value.int k 0 :: v :: xs).toArray.size)[0]? = some v := by simp
  rw [e1]
  refine wpAny_bind (dq_change z.1 (f := (·.eraseIdxIfInBounds 0)) (ys := xs) (by apply Array.ext'; simp) (by omega) fun h' hs ho' => wpAny_pure ⟨_, rfl, ?_⟩)
  exact h h' (F.change hs z.2.1 z.2.2) (news_set N p1 p2 hs ho')
theorem dq_truthy {Q : Bool → Shared → Prop} (ho : s.heap.get? a = some (dqObj k xs)) (hl : xs.length ≤ 100) (h : ∀ tk, Q (!xs.isEmpty) { s with toks := tk }) : wpAny (model prog w) A (truthy (.ref a)) Q E s := by
  have hT : s.TypeIs (.ref a) "collections.deque" := ⟨_, ho, rfl⟩
  have key : wpAny (model prog w) A (runValue (.builtin "len" ⟨[.ref a], []⟩)) (fun r s' => ∃ t tk, r = .int xs.length t ∧ s' = { s with toks := tk }) E s := by
    refine wpAny_runValue (codeAny_builtin entry_len ?_)
    rw [Around.under_plainId plain_len _]
    unfold Builtin.«len»
    refine wpAny_bind (m := oneArg "len" _) (wpAny_pure ?_)
    refine wpAny_bind (m := callSpecial? (.ref a) (Str.ofString "__len__")) (wpAny_callSpecial?_slot (name := Str.ofString "__len__") hT dq_slot_len (wpAny_call_entry dq_slot_len hT dq_entry_len ?_ (dq_args_len _)))
    show wpAny _ _ (do retInt (← Builtin.Deque.size (.ref a))) _ _ s
    unfold Builtin.Deque.size
    refine wpAny_bind (wpAny_bind (wpAny_fieldsOf ho rfl (wpAny_pure ?_)))
    have e : (((Value.none :: Value.int k 0 :: xs).toArray.size - 2 : Nat) : Int) = (xs.length : Int) := by simp
    rw [e]
    refine wpAny_bind (wpAny_mkInt (wpAny_pure ⟨_, rfl, ?_⟩))
    refine wpAny_bind (wpAny_holding (wpAny_pure ?_))
    refine wpAny_bind (wpAny_letGo ?_)
    show wpAny _ _ (if (xs.length : Int) < 0 then _ else _) _ _ _
    rw [if_neg (by omega)]
    show wpAny _ _ (if (xs.length : Int) ≥ 2 ^ 63 then _ else _) _ _ _
    rw [if_neg (by omega)]
    exact wpAny_bind (wpAny_mkInt (wpAny_pure ⟨_, _, rfl, rfl⟩))
  unfold truthy
  refine wpAny_bind (wpAny_callSpecial?_none (name := Str.ofString "__bool__") hT dq_noBool ?_)
  refine wpAny_bind (wpAny_specialOf (name := Str.ofString "__len__") hT dq_slot_len.lookup ?_)
  refine wpAny_bind (wpAny_mono key (fun r s' h' => ?_) fun _ _ e => e)
  obtain ⟨t, tk, rfl, rfl⟩ := h'
  refine wpAny_pure ?_
  have : (((xs.length : Int)) != 0) = !xs.isEmpty := by cases xs <;> simp <;> omega
  rw [this]; exact h _
end
theorem dq_mro : mroOf (.type "collections.deque") = pure [.type "collections.deque", .type "object"] := by rw [mroOf_type]; kernel_rfl
theorem dq_lnew : typeLookup (.type "collections.deque") "__new__" = pure (some (.builtin "collections.deque.__new__")) := by rw [typeLookup_type, builtinLookup_eq_fast]; kernel_rfl
theorem dq_slot_init : Slot "collections.deque" "__init__" "collections.deque.__init__" :=
  .of (owner := "collections.deque") (n := "__init__") (by rw [typeLookup_type, builtinLookup_eq_fast]; kernel_rfl) (by decide +kernel) (by decide +kernel) (by decide +kernel)
    (by first | exact .inl (by decide +kernel) | exact .inr (by decide +kernel)) (by rw [isSubtype_type]; kernel_rfl)
theorem dq_called : TypeCalled "collections.deque" "collections.deque.__new__" "collections.deque.__init__" :=
  ⟨by decide +kernel, by decide +kernel, ⟨_, _, dq_mro⟩, madeBy_type dq_mro dq_lnew (by decide +kernel), by decide +kernel, by rw [isSubtype_type]; kernel_rfl, dq_slot_init⟩
theorem dq_typeCall : checkTypeCall "collections.deque" ⟨[], []⟩ = pure () := by kernel_rfl
theorem dq_newCall : checkBuiltinCall "collections.deque.__new__" ⟨[.type "collections.deque"], []⟩ = pure () := by kernel_rfl
theorem dq_entry_new : entryFor table "collections.deque.__new__" = some Builtin.«collections.deque.__new__» := entryFor_of_tree (by kernel_rfl)
theorem dq_entry_init : entryFor table "collections.deque.__init__" = some Builtin.«collections.deque.__init__» := entryFor_of_tree (by kernel_rfl)
theorem dq_plain_new : plainId "collections.deque.__new__" = true := by decide +kernel
theorem dq_args_init (a : Value) : argsOk "collections.deque.__init__" ⟨[a], []⟩ := by
  unfold argsOk; rw [signature?_of (id := "collections.deque.__init__") (n := "__init__".toList.reverse) (o := "collections.deque".toList.reverse) (by kernel_rfl) dq_owner]; kernel_rfl
theorem dq_sub : isSubtype (.type "collections.deque") (.type "collections.deque") = pure true := by rw [isSubtype_type]; kernel_rfl
section
variable {prog : Program} {w : World} {A : Around} {E : Value → Shared → Prop} {s : Shared}
theorem dq_code_new {Q₁ : Value → Shared → Prop} (h : Q₁ (.ref s.heap.objs.size) { s with heap := s.heap.push (dqObj 0 []) }) :
    codeAny (model prog w) A (.call (.builtin "collections.deque.__new__") ⟨[.type "collections.deque"], []⟩) (wants Q₁ E) s := by
  refine codeAny_of_tree ?_
  show wpAny _ A.in1 (do checkBuiltinCall "collections.deque.__new__" ⟨[.type "collections.deque"], []⟩; again (.builtin "collections.deque.__new__" ⟨[.type "collections.deque"], []⟩)) _ _ s
  refine wpAny_bind (wpAny_of_eq dq_newCall (wpAny_pure ⟨plainId_quiet dq_plain_new _, codeAny_builtin dq_entry_new ?_⟩))
  rw [Around.under_plainId dq_plain_new _]
  unfold Builtin.«collections.deque.__new__» Builtin.Deque.newArgs Builtin.Deque.new
  have hsub := dq_sub
  obtain ⟨hp, g, d, tk, os⟩ := s
  dsimp only
  have hst : isType (.type "collections.deque") = pure true := rfl
  refine wpAny_bind (wpAny_bind (wpAny_of_eq hst ?_))
  simp only [Bool.not_true, Bool.false_eq_true, if_false]
  refine wpAny_bind (wpAny_of_eq hsub ?_)
  simp only [Bool.not_true, Bool.false_eq_true, if_false]
  refine wpAny_pure ?_
  dsimp only
  refine wpAny_bind ?_
  show wpAny _ _ (alloc (dqObj 0 []) >>= fun a => pure (Value.ref a)) _ _ _
  exact wpAny_bind (wpAny_alloc (wpAny_pure (wpAny_pure h)))
theorem dq_init_run {Q : Value → Shared → Prop} {a : Addr} (ho : s.heap.get? a = some (dqObj 0 [])) (h : ∀ h', Heap.SameBut a s.heap h' → h'.get? a = some (dqObj 0 []) → Q .none { s with heap := h' }) :
    wpAny (model prog w) A (Builtin.«collections.deque.__init__» ⟨[.ref a], []⟩) (fun fin s' => ∃ v, fin = .done (.ret v) ∧ Q v s') E s := by
  show wpAny _ _ (do setField (.ref a) 0 .none; Builtin.Deque.clear (.ref a); ret .none) _ _ s
  refine wpAny_bind (wpAny_setField ho rfl (by simp) ?_)
  have g : (s.heap.update a (Obj.mapFields (·.setIfInBounds 0 .none))).get? a = some (dqObj 0 []) := by
    have e : Obj.mapFields (·.setIfInBounds 0 Value.none) (dqObj 0 []) = dqObj 0 [] := rfl
    have := Heap.get?_update_self (Obj.mapFields (·.setIfInBounds 0 Value.none)) ho (by rw [e]; rfl)
    rw [e] at this; exact this
  unfold Builtin.Deque.clear Builtin.Deque.items
  refine wpAny_bind (wpAny_bind (wpAny_bind (wpAny_fieldsOf (s := { s with heap := s.heap.update a (Obj.mapFields (·.setIfInBounds 0 .none)) }) g rfl (wpAny_pure ?_))))
  exact wpAny_pure (wpAny_pure ⟨_, rfl, h _ (Heap.SameBut.update ..) g⟩)
theorem dq_make0 {Q : Value → Shared → Prop} (h : ∀ h', (∀ b o, s.heap.get? b = some o → h'.get? b = some o) → h'.get? s.heap.objs.size = some (dqObj 0 []) → Q (.ref s.heap.objs.size) { s with heap := h' }) :
    wpAny (model prog w) A (call (.type "collections.deque") []) Q E s := by
  obtain ⟨c, tl, hmro⟩ := dq_called.mro
  have hmade := dq_called.made
  have hsub := dq_called.sub
  refine wpAny_call (codeAny_of_tree ?_)
  show wpAny _ _ (callAny (.type "collections.deque") _) _ _ _
  refine wpAny_pure ⟨Code.quiet_builtin _ (by decide +kernel), codeAny_builtin F.entry_type_call ?_⟩
  rw [Around.under_plain (weight_type_call_type "collections.deque" [] []) rfl]
  have h1 := dq_called.notType
  have h2 := dq_called.canCreate
  have hct := dq_typeCall
  repeat (any_goals (first | assumption | wp_step))
  refine codeAny_mono (dq_code_new (E := E) (Q₁ := fun obj s₁ => obj = .ref s.heap.objs.size ∧ s₁ = { s with heap := s.heap.push (dqObj 0 []) }) ⟨rfl, rfl⟩) fun r s₁ hr => ?_
  cases r with
  | error e => exact hr
  | ok fl =>
    cases fl with
    | ret obj =>
      obtain ⟨rfl, rfl⟩ := hr
      have hS : (s.heap.push (dqObj 0 [])).get? s.heap.objs.size = some (dqObj 0 []) := Heap.get?_push_size _ rfl
      have hT : Shared.TypeIs { s with heap := s.heap.push (dqObj 0 []) } (.ref s.heap.objs.size) "collections.deque" := ⟨_, hS, rfl⟩
      have hli := dq_called.init.lookup
      have hbi := dq_called.init.bind (.ref s.heap.objs.size)
      repeat (any_goals (first | assumption | wp_step))
      refine codeAny_call_builtin dq_slot_init.plain dq_entry_init (dq_slot_init.check _ _ _ _ _ _ _ _ hT (dq_args_init _) ?_)
      refine wpAny_mono (dq_init_run (s := { s with heap := s.heap.push (dqObj 0 []) }) (Q := fun v s' => v = .none ∧ Q (.ref s.heap.objs.size) s') hS fun h' hs hg => ⟨rfl, h h' (fun b o e => (hs.2 b (Nat.ne_of_lt (Heap.lt_size e))).trans (Heap.get?_push_of_some _ e)) hg⟩) (fun fin s' z => ?_) (fun _ _ e => e)
      obtain ⟨v, rfl, rfl, q⟩ := z
      exact wpAny_pure (wpAny_pure q)
    | _ => exact hr.elim
theorem dq_makeN {Q : Value → Shared → Prop} {h₀ : Heap} {L : Addr} {m : Str → Option Value} {news : List (Addr × Obj)} (F : Fr h₀ L s.heap m) (N : News h₀ L s.heap news)
    (h : ∀ a h', Fr h₀ L h' m → News h₀ L h' ((a, dqObj 0 []) :: news) → (∀ p ∈ news, p.1 < a) → Q (.ref a) { s with heap := h' }) :
    wpAny (model prog w) A (call (.type "collections.deque") []) Q E s := by
  refine dq_make0 fun h' hk hg => h _ h' ⟨F.ns.keeps hk, fun b o e => hk b o (F.keep b o e), F.above⟩ (fun p hp => ?_) fun p hp => Heap.lt_size (N p hp).1
  rcases List.mem_cons.mp hp with rfl | hp
  · refine ⟨hg, ?_, ?_⟩
    · obtain ⟨oL, _, _, hL, _⟩ := F.ns
      exact Nat.ne_of_gt (Heap.lt_size hL)
    · cases q : h₀.get? s.heap.objs.size with
      | none => rfl
      | some o => exact absurd (Heap.lt_size (F.keep _ _ q)) (Nat.lt_irrefl _)
  · exact ⟨hk _ _ (N p hp).1, (N p hp).2⟩
end
theorem dropLine_none : ∀ r : List Nat, (∀ i, i < r.length → r.getD i 0 ≠ 10) → dropLine r = []
  | [], _ => rfl
  | c :: r, h => by
    unfold dropLine
    rw [if_neg (by have := h 0 (by simp); simpa using this)]
    exact dropLine_none r fun i hi => by have := h (i + 1) (by simp; omega); simpa using this
theorem dropLine_at : ∀ (r : List Nat) (j : Nat), j < r.length → r.getD j 0 = 10 → (∀ i, i < j → r.getD i 0 ≠ 10) → dropLine r = r.drop (j + 1)
  | [], j, h, _, _ => by simp at h
  | c :: r, 0, _, h, _ => by
    unfold dropLine
    rw [if_pos (by simpa using h)]; rfl
  | c :: r, j + 1, hj, h, hn => by
    unfold dropLine
    rw [if_neg (by have := hn 0 (by omega); simpa using this)]
    exact dropLine_at r j (by simp at hj; omega) (by simpa using h) fun i hi => by have := hn (i + 1) (by omega); simpa using this
theorem getD_mkS (l : List Nat) (v : Nat) : (mkS l).cps.getD v 0 = l.getD v 0 := by simp [mkS, Array.getD_eq_getD_getElem?, List.getD_eq_getElem?_getD]
theorem lineEnd_eq (pre r : List Nat) : lineEnd (mkS (pre ++ r)) pre.length = pre.length + (r.length - (dropLine r).length) := by
  have hf : fromIndex (mkS (pre ++ r)).length ((pre.length : Nat) : Int) = pre.length := by unfold fromIndex; split <;> omega
  unfold lineEnd
  rw [mkS_length, List.length_append]
  by_cases hr : r = []
  · subst hr; simp
  have hpos : 0 < r.length := List.length_pos_iff.mpr hr
  rw [if_pos (by omega), show Str.ofString "\n" = ⟨#[10]⟩ from by decide +kernel]
  rcases StrLaws.find3_spec (mkS (pre ++ r)) 10 ((pre.length : Nat) : Int) with ⟨h, hn⟩ | ⟨k, h, h1, h2, h3, h4⟩
  · rw [h, if_pos (by omega)]
    rw [dropLine_none r fun i hi e => hn (pre.length + i) (by rw [hf]; omega) (by rw [mkS_length, List.length_append]; omega) (by
      rw [getD_mkS, List.getD_eq_getElem?_getD, List.getElem?_append_right (by omega), Nat.add_sub_cancel_left, ← List.getD_eq_getElem?_getD]; exact e)]
    simp
  · rw [h, if_neg (by omega)]
    rw [hf] at h1 h4
    rw [mkS_length, List.length_append] at h2
    have g : ∀ v, pre.length ≤ v → (mkS (pre ++ r)).cps.getD v 0 = r.getD (v - pre.length) 0 := fun v hv => by
      rw [getD_mkS, List.getD_eq_getElem?_getD, List.getElem?_append_right hv, ← List.getD_eq_getElem?_getD]
    rw [dropLine_at r (k - pre.length) (by omega) (by rw [← g k h1]; exact h3) (fun i hi e => h4 (pre.length + i) (by omega) (by omega) (by rw [g _ (by omega), Nat.add_sub_cancel_left]; exact e))]
    simp
    omega
theorem dropLine_cut (r : List Nat) : r = r.take (r.length - (dropLine r).length) ++ dropLine r := by
  obtain ⟨u, h⟩ := dropLine_split r
  have : r.length - (dropLine r).length = u.length := by
    have := congrArg List.length h
    simp at this; omega
  rw [this]
  conv => lhs; rw [h]
  congr 1
  conv => rhs; rw [h]
  simp
local macro_rules | `(tactic| walk_at "exec If") => `(tactic| (k_here; refine wpAny_If ?_))
local macro_rules | `(tactic| walk_at "exec If") => `(tactic| (k_here; (with_reducible show wpAny _ _ (exec (Stmt.If (Expr.Compare (Expr.Name (PySem.Str.ofString "nextchar") _) [CmpOp.Eq] _ _) _ _ _) _) _ _ _); k_dflt (refine' nl_step ?F ?X ?N ?n1 ?n2 ?_; (case F => k_asm); (case X => k_asm); (case N => k_asm); (case n1 => first | walk_at "my ne" | omega); (case n2 => k_all); intro h' tk' t' F' N'; (try k_sweep))))
local macro_rules | `(tactic| walk_at "truthy str") => `(tactic| (k_here; (with_reducible show wpAny _ _ (PySem.truthy (Value.str (mkS _) _)) _ _ _); k_dflt (refine KXt.truthy (b := true) ?e ?l ?_; (case e => first | with_reducible assumption | exact rfl); (case l => first | with_reducible assumption | exact Nat.le_of_ble_eq_true rfl); intro _)))
section
variable {prog : Program} {w : World} {A : Around} {E : Value → Shared → Prop} {s : Shared} {h₀ : Heap} {L a : Addr} {m : Str → Option Value} {news : List (Addr × Obj)} {k : Int} {xs : List Value} {pl : Sem Bool}
theorem getMethod_al {Q : Value × List Value → Shared → Prop} (N : News h₀ L s.heap news) (hm : (a, dqObj k xs) ∈ news) (h : Q (.builtin "collections.deque.appendleft", [.ref a]) s) : wpAny (model prog w) A (getMethod (.ref a) (Str.ofString "appendleft") pl) Q E s :=
  getMethod_builtin ⟨_, (N _ hm).1, rfl⟩ dq_plain dq_slot_al dq_type_al (fun b e => by cases e; exact ⟨_, (N _ hm).1, rfl⟩) h
theorem getMethod_pl {Q : Value × List Value → Shared → Prop} (N : News h₀ L s.heap news) (hm : (a, dqObj k xs) ∈ news) (h : Q (.builtin "collections.deque.popleft", [.ref a]) s) : wpAny (model prog w) A (getMethod (.ref a) (Str.ofString "popleft") pl) Q E s :=
  getMethod_builtin ⟨_, (N _ hm).1, rfl⟩ dq_plain dq_slot_pl dq_type_pl (fun b e => by cases e; exact ⟨_, (N _ hm).1, rfl⟩) h
theorem dq_truthyN {Q : Bool → Shared → Prop} (N : News h₀ L s.heap news) (hm : (a, dqObj k xs) ∈ news) (hl : xs.length ≤ 100) (h : ∀ tk, Q (!xs.isEmpty) { s with toks := tk }) : wpAny (model prog w) A (truthy (.ref a)) Q E s := dq_truthy (N _ hm).1 hl h
end
local macro_rules | `(tactic| walk_at "getMethod ref") => `(tactic| (k_here; (with_reducible show wpAny _ _ (getMethod (Value.ref _) (PySem.Str.ofString "appendleft") _) _ _ _); k_dflt (refine' getMethod_al ?N ?m ?_; (case N => k_asm); (case m => k_mem))))
local macro_rules | `(tactic| walk_at "getMethod ref") => `(tactic| (k_here; (with_reducible show wpAny _ _ (getMethod (Value.ref _) (PySem.Str.ofString "popleft") _) _ _ _); k_dflt (refine' getMethod_pl ?N ?m ?_; (case N => k_asm); (case m => k_mem))))
local macro_rules | `(tactic| walk_at "call builtin:collections.deque.appendleft") => `(tactic| (k_here; k_dflt (refine' dq_append ?F ?N ?U ?l ?_; (case F => k_asm); (case N => k_asm); (case U => k_upd); (case l => exact Nat.le_of_ble_eq_true rfl); k_whole; intro h' F' N'; (try k_sweep))))
local macro_rules | `(tactic| walk_at "call builtin:collections.deque.popleft") => `(tactic| (k_here; k_dflt (refine' dq_popleft ?F ?N ?U ?l ?_; (case F => k_asm); (case N => k_asm); (case U => k_upd); (case l => exact Nat.le_of_ble_eq_true rfl); k_whole; intro h' F' N'; (try k_sweep))))
theorem eq_str_no {prog : Program} {w : World} {A : Around} {E : Value → Shared → Prop} {s : Shared} {x y : Str} {t u : Tok} {Q : Value → Shared → Prop} (e : (x == y) = false) (h : Q (.bool false) s) : wpAny (model prog w) A (compareOp .Eq (.str x t) (.str y u)) Q E s := eq_str (e ▸ h)
local macro_rules | `(tactic| walk_at "compareOp Eq str str") => `(tactic| ((with_reducible show wpAny _ _ (compareOp CmpOp.Eq (Value.str (mkS [_]) _) (Value.str (PySem.Str.ofString " ") _)) _ _ _); refine eq_str_no (by with_reducible assumption) ?_))
noncomputable abbrev lm2 (x : Addr) (q : Bool) (te : Tok) (nc : Option Value) (v : Value) : Str → Option Value := fun y => if y = Str.ofString "nextchar" then some v else lm x q te nc y
noncomputable abbrev lm3 (x : Addr) (q : Bool) (te : Tok) (nc : Option Value) (v : Value) : Str → Option Value := fun y => if y = Str.ofString "quoted" then some (.bool true) else lm2 x q te nc v y
noncomputable abbrev LG (kh : Nat → Int) (kt vt : Nat → Tok) (y dy x dx pb fs : Addr) (com ws quotes : Str) (split : Bool) (buf : Str) (rest : List (Addr × Obj)) (kq : Int) (p : Nat) (state : Value) (ln : Int) (tok : Str) (t1 t2 t3 : Tok) (pbs : List Value) : List (Addr × Obj) :=
  (y, instObj 594 dy) :: (dy, dictOf (sioD kh kt vt buf p t3) 3) :: (x, instObj 729 dx) :: (dx, dictOf (lexD kh kt vt y pb fs com ws quotes split state ln t1 tok t2) 19) :: (pb, dqObj kq pbs) :: rest
section
variable {w : World} {A : Around} {s : Shared} {h₀ : Heap} {L : Addr} {Q : Bool → Shared → Prop} {E : Value → Shared → Prop}
  {y dy x dx pb fs : Addr} {kh : Nat → Int} {kt vt : Nat → Tok} {t0 t1 t2 : Tok} {com ws quotes token : Str} {split : Bool} {ln : Int} {rest : List (Addr × Obj)} {v : Value} {nc : Option Value} {q : Bool} {te : Tok} {n1 n2 : Obj}
  {p1 p2 p3 p4 p5 p6 : Pos} {k1 k2 k3 : Nat}
theorem ac_step (F : Fr h₀ L s.heap (lm2 x q te nc v)) (X : (hd1.heap_1 w.params).In h₀)
  (N : News h₀ L s.heap ((y, n1) :: (dy, n2) :: (x, instObj 729 dx) :: (dx, dictOf (lexD kh kt vt y pb fs com ws quotes split (.str (Str.ofString "a") t0) ln t1 token t2) 19) :: rest))
  (h : ∀ h' tk, Fr h₀ L h' (lm2 x q te nc v) → News h₀ L h' ((y, n1) :: (dy, n2) :: (x, instObj 729 dx) :: (dx, dictOf (lexD kh kt vt y pb fs com ws quotes split (.str (Str.ofString "a") t0) ln t1 token t2) 19) :: rest) → Q true { s with heap := h', toks := tk }) :
  wpAny (model PySem.Challenge.rw_nq0177_01.row.prog w) A (isTrue (.Compare (.Attribute (.Name (Str.ofString "self") p1) (Str.ofString "state") p2) [.In] [.Tuple [.Constant (.str (Str.ofString "a")) k1 p3, .Constant (.str (Str.ofString "c")) k2 p4] k3 p5] p6) (envOf (Str.ofString "shlex.read_token") scTok L 697 (.ref 696))
    (eval (.Compare (.Attribute (.Name (Str.ofString "self") p1) (Str.ofString "state") p2) [.In] [.Tuple [.Constant (.str (Str.ofString "a")) k1 p3, .Constant (.str (Str.ofString "c")) k2 p4] k3 p5] p6) (envOf (Str.ofString "shlex.read_token") scTok L 697 (.ref 696)))) Q E s := by
  k_steps
  rename_i N' _
  rw [show ([Str.ofString "a", Str.ofString "c"].any fun x => x == Str.ofString "a") = true from by decide +kernel]
  exact h _ _ (by assumption) fun p hp => N' p (List.mem_cons_of_mem _ hp)
end
local macro_rules | `(tactic| walk_at "isTrue Compare") => `(tactic| (k_here; (with_reducible show wpAny _ _ (isTrue (Expr.Compare (Expr.Attribute _ _ _) [CmpOp.In] [Expr.Tuple _ _ _] _) _ _) _ _ _); k_dflt (refine' ac_step ?F ?X ?N ?_; (case F => k_asm); (case X => k_asm); (case N => k_asm); intro h' tk' F' N'; (try k_sweep))))
section
variable {w : World} {A : Around} {s : Shared} {h₀ : Heap} {L : Addr} {m : Str → Option Value} {Q : Flow → Shared → Prop} {E : Value → Shared → Prop} {p : Program} {loose : List Str} {mg mb : Str → Option Value}
  {p1 p2 p3 p4 : Pos} {k1 : Nat} {msg : Str}
theorem raise_VE (F : Fr h₀ L s.heap m) (X : (hd1.heap_1 w.params).In h₀) (T : TopRead p loose mg mb h₀) (hh : A.handled = none)
  (h : ∀ h' e tk t, Heap.MadeExc s.heap h' e "ValueError" [.str msg t] → E (.ref e) { s with heap := h', toks := tk }) :
  wpAny (model PySem.Challenge.rw_nq0177_01.row.prog w) A (exec (.Raise (some (.Call (.Name (Str.ofString "ValueError") p1) [.Constant (.str msg) k1 p2] [] p3)) none p4) (envOf (Str.ofString "shlex.read_token") scTok L 697 (.ref 696))) Q E s := by
  refine Raise_madeB PySem.F.excCall_ValueError PySem.F.excRaise_ValueError hh (name_B F X T (by k_is) PyProof.Rows.Boot.«ValueError» (by decide) ⟨rfl, ?_⟩)
  iterate 3 walk1
  refine ⟨by rw [sizeLine_eq]; exact Nat.le_of_ble_eq_true rfl, fun h' e hm => h _ _ _ _ hm⟩
theorem RaisedS.sub {base g : Heap} {l : List Env} {e : Addr} {cls : Value} {t : Addr} {vs : List Value} {news news' : List (Addr × Obj)} {h : Heap} (R : RaisedS base g l e cls t vs news h) (k : ∀ q ∈ news', q ∈ news) : RaisedS base g l e cls t vs news' h := by
  obtain ⟨⟨B, a, a2, b, c⟩, d⟩ := R
  exact ⟨⟨B, a, a2, fun q hq => b q (k q hq), c⟩, d⟩
end
theorem lm2_eq (x : Addr) (q : Bool) (te : Tok) (nc : Option Value) (v : Value) (y : Str) : lm2 x q te nc v y = lm x q te (some v) y := by
  simp only [lm2, lm]; split <;> rfl
theorem lm3_eq (x : Addr) (q : Bool) (te : Tok) (nc : Option Value) (v : Value) (y : Str) : lm3 x q te nc v y = lm x true te (some v) y := by
  simp only [lm3, lm2, lm]
  by_cases h1 : y = Str.ofString "quoted"
  · subst h1; rfl
  · rw [if_neg h1]
    split
    · rfl
    · split
      · rfl
      · rfl
noncomputable def pbsOf : Option Nat → Tok → List Value
  | none, _ => []
  | some c, t => [.str (mkS [c]) t]
/-- the loop's word, and what stands behind it; G : the ledger by what turns -/
noncomputable def LoopI (s : Shared) (g : Heap) (L' x : Addr) (P : Pm) (buf : Str) (out : Out) (G : Int → Nat → Value → Int → Str → Tok → Tok → Tok → List Value → List (Addr × Obj)) (kq : Int) (n : Nat) (s' : Shared) : Prop :=
  ∃ h tk rem pre ln st tok q nc t0 t1 t2 t3 te, s' = { s with heap := h, toks := tk } ∧ buf = mkS (pre ++ rem) ∧ rem.length = n ∧ rt P rem ln st tok = out ∧ okSt P st rem tok ∧ tok.length ≤ pre.length ∧ Fr g L' h (lm x q te nc) ∧
     News g L' h (G kq pre.length (st.val t0) ln (mkS tok) t1 t2 t3 [])
noncomputable def LoopP (s : Shared) (g : Heap) (L' x : Addr) (buf : Str) (out : Out) (G : Int → Nat → Value → Int → Str → Tok → Tok → Tok → List Value → List (Addr × Obj)) (s' : Shared) : Prop :=
  ∃ h tk rem pre ln st tok push kq q nc t0 t1 t2 t3 te tp, s' = { s with heap := h, toks := tk } ∧ buf = mkS (pre ++ rem) ∧ out = .ok rem ln st tok push ∧ Fr g L' h (lm x q te nc) ∧
     News g L' h (G kq pre.length (st.val t0) ln (mkS tok) t1 t2 t3 (pbsOf push tp))
section
variable {s : Shared} {g : Heap} {L' x : Addr} {P : Pm} {buf : Str} {out : Out} {G : Int → Nat → Value → Int → Str → Tok → Tok → Tok → List Value → List (Addr × Obj)} {kq : Int} {n : Nat} {h : Heap} {tk t0 t1 t2 t3 te : Tok}
  {rem pre tok : List Nat} {ln : Int} {st : LS} {q : Bool} {nc : Option Value}
theorem goes (f : Flow) (hf : f = .next ∨ f = .cont) (hk : rem.length < n) (hb : buf = mkS (pre ++ rem)) (hr : rt P rem ln st tok = out) (ho : okSt P st rem tok) (htl : tok.length ≤ pre.length) (F : Fr g L' h (lm x q te nc)) (N : News g L' h (G kq pre.length (st.val t0) ln (mkS tok) t1 t2 t3 [])) :
    StepQ (LoopI s g L' x P buf out G kq) (LoopP s g L' x buf out G) n f { s with heap := h, toks := tk } := by
  have : ∃ k, k < n ∧ LoopI s g L' x P buf out G kq k { s with heap := h, toks := tk } := ⟨_, hk, _, _, rem, pre, ln, st, tok, q, nc, t0, t1, t2, t3, te, rfl, hb, rfl, hr, ho, htl, F, N⟩
  rcases hf with rfl | rfl <;> exact this
theorem stops {push : Option Nat} {kq' : Int} {tp : Tok} (hb : buf = mkS (pre ++ rem)) (hr : out = .ok rem ln st tok push) (F : Fr g L' h (lm x q te nc)) (N : News g L' h (G kq' pre.length (st.val t0) ln (mkS tok) t1 t2 t3 (pbsOf push tp))) :
    StepQ (LoopI s g L' x P buf out G kq) (LoopP s g L' x buf out G) n .brk { s with heap := h, toks := tk } :=
  ⟨_, _, rem, pre, ln, st, tok, push, kq', q, nc, t0, t1, t2, t3, te, tp, rfl, hb, hr, F, N⟩
end
section
variable {w : World} {A : Around} {s : Shared} {base h₀ : Heap} {outer : List Env} {L : Addr} {m : Str → Option Value} {env : Env} {mg mb : Str → Option Value} {mean : ExcName → Option Value} {R : Result → Shared → Prop} {loose : List Str}
  {y dy x dx pb fs : Addr} {kh : Nat → Int} {kt vt : Nat → Tok} {buf : Str} {t0 t1 t2 t3 : Tok} {com ws quotes token : Str} {split : Bool} {lineno : Int} {rest : List (Addr × Obj)} {room : Nat}
theorem tok_spec (C : Amb w A base h₀ outer env L mg mb mean loose 6) (F : Fr h₀ L s.heap m) {pre rem : List Nat} {kq : Int} {st : LS} {out : Out}
  (N : News h₀ L s.heap (LG kh kt vt y dy x dx pb fs com ws quotes split buf rest kq pre.length (st.val t0) lineno (Str.ofString "") t1 t2 t3 []))
  (hne : @Ne Nat y dy ∧ @Ne Nat y x ∧ @Ne Nat y dx ∧ @Ne Nat dy x ∧ @Ne Nat dy dx ∧ @Ne Nat x dx ∧ @Ne Nat pb y ∧ @Ne Nat pb dy ∧ @Ne Nat pb x ∧ @Ne Nat pb dx) (hr1 : ∀ p ∈ rest, p.1 ≠ dy) (hr2 : ∀ p ∈ rest, p.1 ≠ dx) (hr3 : ∀ p ∈ rest, p.1 ≠ pb)
  (hb : buf.length ≤ 4096) (hbuf : buf = mkS (pre ++ rem)) (hst : st = .blank ∨ (st = .dead ∧ rem = [])) (hout : rt ⟨com, ws, quotes, split⟩ rem lineno st [] = out)
  (hq1 : hasC quotes 97 = false) (hq2 : hasC quotes 32 = false)
  (h : ∀ h' tk rem' pre' ln' st' res push kq' t t0 t1 t2 t3 tp, out = .ok rem' ln' st' res push → buf = mkS (pre' ++ rem') → Fr h₀ L h' m →
    News h₀ L h' (LG kh kt vt y dy x dx pb fs com ws quotes split buf rest kq' pre'.length (st'.val t0) ln' (Str.ofString "") t1 t2 t3 (pbsOf push tp)) → R (.ok (.ret (.str (mkS res) t))) { s with heap := h', toks := tk })
  (hErr : ∀ e t tm g h' tk, out = .err → Fr h₀ L g m → g.UpToSlots h' → RaisedS base g (env :: outer) e (.type "ValueError") t [.str (Str.ofString "No closing quotation") tm] rest h' → R (.error (.ref e)) { s with heap := h', toks := tk }) :
  codeAny (model PySem.Challenge.rw_nq0177_01.row.prog w) A (.call (.ref 697) ⟨[.ref x], []⟩) R s := by
  obtain ⟨⟨A₀, B⟩, X₀, T, hA, hf, hk, hroom, hh⟩ := C
  have hb2 : buf.length ≤ 1048576 := by omega
  have ⟨ne1, ne2, ne3, ne4, ne5, ne6, ne7, ne8, ne9, ne10⟩ := hne
  walk_at "my enter0"
  intro g L' h₁ FG F₁ N₁ B' X' T'
  dsimp only
  k_fold
  iterate 10 (first | walk1 | (dsimp only; walk1))
  refine While_brk (LoopI s g L' x ⟨com, ws, quotes, split⟩ buf out (LG kh kt vt y dy x dx pb fs com ws quotes split buf rest) kq) (LoopP s g L' x buf out (LG kh kt vt y dy x dx pb fs com ws quotes split buf rest)) rem.length ?init ?turn ?after
  case init =>
    (with_reducible rename Fr g L' _ _ => F0)
    refine ⟨_, _, rem, pre, lineno, st, [], false, none, t0, t1, t2, t3, ?te, rfl, hbuf, rfl, hout, ?ok, Nat.zero_le _, fr_congr F0 fun y => ?fr, by rw [mkS_nil]; assumption⟩
    case ok =>
      rcases hst with rfl | ⟨rfl, rfl⟩
      · rfl
      · exact ⟨rfl, rfl⟩
    case fr =>
      simp only [lm]
      by_cases h1 : y = Str.ofString "nextchar"
      · subst h1; rfl
      rw [if_neg h1]
      by_cases h2 : y = Str.ofString "escapedstate"
      · subst h2; rfl
      rw [if_neg h2, if_neg h2]
      by_cases h3 : y = Str.ofString "quoted"
      · subst h3; rfl
      rw [if_neg h3, if_neg h3]
      show List.lookup y [(Str.ofString "self", Value.ref x)] = _
      by_cases h4 : y = Str.ofString "self"
      · subst h4; rfl
      · rw [if_neg h4, List.lookup_cons, beq_false_of_ne h4]; rfl
  case after =>
    rintro s' ⟨h', tk', rem', pre', ln', st', tok', push', kq', q', nc', t0', t1', t2', t3', te', tp', rfl, hbuf', hout', F', N'⟩
    have y1 : ∀ h'' tk t ta tb td, Fr h₀ L h'' m → News h₀ L h'' (LG kh kt vt y dy x dx pb fs com ws quotes split buf rest kq' pre'.length (st'.val t0') ln' (Str.ofString "") ta tb td (pbsOf push' tp')) → R (.ok (.ret (.str (mkS tok') t))) { s with heap := h'', toks := tk } :=
      fun h'' tk t ta tb td F N => h h'' tk rem' pre' ln' st' tok' push' kq' t t0' ta tb td tp' hout' hbuf' F N
    dsimp only
    clear F N hout' hout hbuf hbuf' h hst hErr
    k_steps
    all_goals (try dsimp only)
    all_goals first
      | exact y1 _ _ _ _ _ _ (by with_reducible assumption) (by with_reducible assumption)
  rintro n s' ⟨h', tk', rem', pre', ln', st', tok', q', nc', t0', t1', t2', t3', te', rfl, hbuf', hn', hout', hok', htl', F', N'⟩
  have hp' : pre'.length ≤ buf.length := by rw [hbuf', mkS_length]; simp
  cases st' with
  | dead =>
    obtain ⟨rfl, rfl⟩ := hok'
    rw [rt_dead_nil] at hout'
    dsimp only [LS.val] at N'
    have hz := chAt_end hbuf'
    have hnx := nxt_end hbuf'
    have x1 : ∀ h tk tc ta tb td, Fr g L' h (lm2 x q' te' nc' (.str (Str.ofString "") tc)) → News g L' h (LG kh kt vt y dy x dx pb fs com ws quotes split buf rest kq pre'.length .none ln' (Str.ofString "") ta tb td []) → StepQ (LoopI s g L' x ⟨com, ws, quotes, split⟩ buf out (LG kh kt vt y dy x dx pb fs com ws quotes split buf rest) kq) (LoopP s g L' x buf out (LG kh kt vt y dy x dx pb fs com ws quotes split buf rest)) n .brk { s with heap := h, toks := tk } :=
      fun h tk tc ta tb td F N => stops (rem := []) (push := none) (st := .dead) (tok := []) (t0 := 0) (tp := 0) hbuf' hout'.symm (fr_congr F (lm2_eq _ _ _ _ _)) (by rw [mkS_nil]; exact N)
    generalize StepQ _ _ n = SQ at x1 ⊢
    clear F N hout' hout hn' hbuf hbuf' h hst
    k_steps
    all_goals (try dsimp only)
    all_goals exact x1 _ _ _ _ _ _ (by with_reducible assumption) (by with_reducible assumption)
  | quot q =>
    obtain ⟨hqq, htn⟩ := hok'
    dsimp only [LS.val] at N'
    have htl2 : (mkS tok').length ≤ 4096 := by rw [mkS_length]; omega
    have hqs : (mkS [q] == Str.ofString " ") = false := by
      refine beq_eq_false_iff_ne.mpr fun e => ?_
      have : [q] = [32] := mkS_inj (e.trans (by decide +kernel))
      cases this
      rw [hq2] at hqq; cases hqq
    cases rem' with
    | nil =>
      have hz := chAt_end hbuf'
      have hnx := nxt_end hbuf'
      rw [rt_quot_nil] at hout'
      generalize StepQ _ _ n = SQ
      clear F N hout hn' hbuf hbuf' h hst
      k_steps
      refine raise_VE (by k_asm) (by k_asm) (by k_asm) (by assumption) ?_
      intro h' e tk t hm
      k_unfold
      dsimp only
      refine leave_raiseS B' (Heap.MadeExc.of hm) (by assumption) (by assumption) ?_
      intro h2 t2 RK _ US
      exact hErr _ _ _ _ _ _ hout'.symm FG US (RaisedS.sub RK fun q hq => by simp only [List.mem_cons]; exact .inr (.inr (.inr (.inr (.inr hq)))))
    | cons c r =>
      have hz := chAt_at hbuf'
      have hnx := nxt_at hbuf'
      have hp2 : (pre' ++ [c]).length ≤ buf.length := by rw [hbuf', mkS_length]; simp
      have hbc : buf = mkS ((pre' ++ [c]) ++ r) := by rw [hbuf']; simp
      have hrn : r.length < n := by simp at hn'; omega
      rw [rt_quot] at hout'
      have x1 : ∀ h tk tc ta tb td te2, (mkS [c] == mkS [q]) = true → Fr g L' h (lm3 x q' te' nc' (.str (mkS [c]) tc)) → News g L' h (LG kh kt vt y dy x dx pb fs com ws quotes split buf rest kq (pre' ++ [c]).length (.str (Str.ofString " ") te2) (ln' + nlc c) (mkS tok' ++ mkS [c]) ta tb td []) → StepQ (LoopI s g L' x ⟨com, ws, quotes, split⟩ buf out (LG kh kt vt y dy x dx pb fs com ws quotes split buf rest) kq) (LoopP s g L' x buf out (LG kh kt vt y dy x dx pb fs com ws quotes split buf rest)) n .brk { s with heap := h, toks := tk } :=
        fun h tk tc ta tb td te2 c1 F N => stops (st := .blank) (push := none) (tp := 0) (tok := tok' ++ [c]) hbc (by rw [if_pos (List.head_eq_of_cons_eq (mkS_inj (eq_of_beq c1)))] at hout'; exact hout'.symm) (fr_congr F (lm3_eq _ _ _ _ _)) (by rw [← mkS_append]; exact N)
      have x2 : ∀ h tk tc ta tb td te2, (mkS [c] == mkS [q]) = false → Fr g L' h (lm3 x q' te' nc' (.str (mkS [c]) tc)) → News g L' h (LG kh kt vt y dy x dx pb fs com ws quotes split buf rest kq (pre' ++ [c]).length (.str (mkS [q]) te2) (ln' + nlc c) (mkS tok' ++ mkS [c]) ta tb td []) → StepQ (LoopI s g L' x ⟨com, ws, quotes, split⟩ buf out (LG kh kt vt y dy x dx pb fs com ws quotes split buf rest) kq) (LoopP s g L' x buf out (LG kh kt vt y dy x dx pb fs com ws quotes split buf rest)) n .next { s with heap := h, toks := tk } :=
        fun h tk tc ta tb td te2 c1 F N => goes (st := .quot q) (tok := tok' ++ [c]) _ (.inl rfl) hrn hbc (by rw [if_neg (fun e => by rw [e, beq_self_eq_true] at c1; cases c1)] at hout'; exact hout') ⟨hqq, by simp⟩ (by simp; omega) (fr_congr F (lm3_eq _ _ _ _ _)) (by rw [← mkS_append]; exact N)
      generalize StepQ _ _ n = SQ at x1 x2 ⊢
      clear F N hout' hout hn' hbuf hbuf' h hst hbc hrn
      k_steps
      all_goals (try dsimp only)
      all_goals first
        | exact x1 _ _ _ _ _ _ _ (by with_reducible assumption) (by with_reducible assumption) (by with_reducible assumption)
        | exact x2 _ _ _ _ _ _ _ (by with_reducible assumption) (by with_reducible assumption) (by with_reducible assumption)
  | word =>
    have htn : tok' ≠ [] := hok'
    dsimp only [LS.val] at N'
    have htl2 : (mkS tok').length ≤ 4096 := by rw [mkS_length]; omega
    have htl3 : (mkS tok').length ≤ 16777216 := by omega
    have htb : (((mkS tok').length : Int) != 0) = true := by
      rw [mkS_length, bne_iff_ne]; have := List.length_pos_iff.mpr htn; omega
    cases rem' with
    | nil =>
      have hz := chAt_end hbuf'
      have hnx := nxt_end hbuf'
      rw [rt_word_nil] at hout'
      have x1 : ∀ h tk tc ta tb td, Fr g L' h (lm2 x q' te' nc' (.str (Str.ofString "") tc)) → News g L' h (LG kh kt vt y dy x dx pb fs com ws quotes split buf rest kq pre'.length .none ln' (mkS tok') ta tb td []) → StepQ (LoopI s g L' x ⟨com, ws, quotes, split⟩ buf out (LG kh kt vt y dy x dx pb fs com ws quotes split buf rest) kq) (LoopP s g L' x buf out (LG kh kt vt y dy x dx pb fs com ws quotes split buf rest)) n .brk { s with heap := h, toks := tk } :=
        fun h tk tc ta tb td F N => stops (rem := []) (push := none) (st := .dead) (t0 := 0) (tp := 0) hbuf' hout'.symm (fr_congr F (lm2_eq _ _ _ _ _)) N
      generalize StepQ _ _ n = SQ at x1 ⊢
      clear F N hout' hout hn' hbuf hbuf' h hst
      k_steps
      all_goals (try dsimp only)
      all_goals first | exact x1 _ _ _ _ _ _ (by with_reducible assumption) (by with_reducible assumption)
    | cons c r =>
      have hz := chAt_at hbuf'
      have hnx := nxt_at hbuf'
      have hp2 : (pre' ++ [c]).length ≤ buf.length := by rw [hbuf', mkS_length]; simp
      have hbc : buf = mkS ((pre' ++ [c]) ++ r) := by rw [hbuf']; simp
      have hrn : r.length < n := by simp at hn'; omega
      have hle : lineEnd buf (pre' ++ [c]).length = (pre' ++ [c] ++ r.take (r.length - (dropLine r).length)).length := by rw [hbc, lineEnd_eq]; simp; omega
      have hbd : buf = mkS ((pre' ++ [c] ++ r.take (r.length - (dropLine r).length)) ++ dropLine r) := by rw [hbc, List.append_assoc (pre' ++ [c]), ← dropLine_cut]
      have hdl := dropLine_le r
      rw [rt_word] at hout'
      dsimp only at hout'
      have x1 : ∀ h tk tc ta tb td te2, hasC ws c = true → Fr g L' h (lm2 x q' te' nc' (.str (mkS [c]) tc)) → News g L' h (LG kh kt vt y dy x dx pb fs com ws quotes split buf rest kq (pre' ++ [c]).length (.str (Str.ofString " ") te2) (ln' + nlc c) (mkS tok') ta tb td []) → StepQ (LoopI s g L' x ⟨com, ws, quotes, split⟩ buf out (LG kh kt vt y dy x dx pb fs com ws quotes split buf rest) kq) (LoopP s g L' x buf out (LG kh kt vt y dy x dx pb fs com ws quotes split buf rest)) n .brk { s with heap := h, toks := tk } :=
        fun h tk tc ta tb td te2 c1 F N => stops (st := .blank) (push := none) (tp := 0) hbc (by rw [if_pos c1] at hout'; exact hout'.symm) (fr_congr F (lm2_eq _ _ _ _ _)) N
      have x2 : ∀ h tk tc ta tb td te2, hasC ws c = false → hasC com c = true → Fr g L' h (lm2 x q' te' nc' (.str (mkS [c]) tc)) → News g L' h (LG kh kt vt y dy x dx pb fs com ws quotes split buf rest kq (pre' ++ [c] ++ r.take (r.length - (dropLine r).length)).length (.str (Str.ofString "a") te2) (ln' + nlc c + 1) (mkS tok') ta tb td []) → StepQ (LoopI s g L' x ⟨com, ws, quotes, split⟩ buf out (LG kh kt vt y dy x dx pb fs com ws quotes split buf rest) kq) (LoopP s g L' x buf out (LG kh kt vt y dy x dx pb fs com ws quotes split buf rest)) n .next { s with heap := h, toks := tk } :=
        fun h tk tc ta tb td te2 c1 c2 F N => goes (st := .word) (tok := tok') _ (.inl rfl) (by omega) hbd (by rw [c1, c2] at hout'; exact hout') htn (by simp; omega) (fr_congr F (lm2_eq _ _ _ _ _)) N
      have x3 : ∀ h tk tc ta tb td te2, hasC ws c = false → hasC com c = false → (hasC wordS c || hasC quotes c || split) = true → Fr g L' h (lm2 x q' te' nc' (.str (mkS [c]) tc)) → News g L' h (LG kh kt vt y dy x dx pb fs com ws quotes split buf rest kq (pre' ++ [c]).length (.str (Str.ofString "a") te2) (ln' + nlc c) (mkS tok' ++ mkS [c]) ta tb td []) → StepQ (LoopI s g L' x ⟨com, ws, quotes, split⟩ buf out (LG kh kt vt y dy x dx pb fs com ws quotes split buf rest) kq) (LoopP s g L' x buf out (LG kh kt vt y dy x dx pb fs com ws quotes split buf rest)) n .next { s with heap := h, toks := tk } :=
        fun h tk tc ta tb td te2 c1 c2 c3 F N => goes (st := .word) (tok := tok' ++ [c]) _ (.inl rfl) hrn hbc (by rw [c1, c2, if_pos c3] at hout'; exact hout') (show tok' ++ [c] ≠ [] by simp) (by simp; omega) (fr_congr F (lm2_eq _ _ _ _ _)) (by rw [← mkS_append]; exact N)
      have x4 : ∀ h tk tc ta tb td te2 tp, hasC ws c = false → hasC com c = false → (hasC wordS c || hasC quotes c || split) = false → Fr g L' h (lm2 x q' te' nc' (.str (mkS [c]) tc)) → News g L' h (LG kh kt vt y dy x dx pb fs com ws quotes split buf rest (kq + 1) (pre' ++ [c]).length (.str (Str.ofString " ") te2) (ln' + nlc c) (mkS tok') ta tb td [.str (mkS [c]) tp]) → StepQ (LoopI s g L' x ⟨com, ws, quotes, split⟩ buf out (LG kh kt vt y dy x dx pb fs com ws quotes split buf rest) kq) (LoopP s g L' x buf out (LG kh kt vt y dy x dx pb fs com ws quotes split buf rest)) n .brk { s with heap := h, toks := tk } :=
        fun h tk tc ta tb td te2 tp c1 c2 c3 F N => stops (st := .blank) (push := some c) (tp := tp) hbc (by rw [c1, c2, c3] at hout'; exact hout'.symm) (fr_congr F (lm2_eq _ _ _ _ _)) N
      have or1 : ∀ a b : Bool, hasC wordS c = true → (hasC wordS c || a || b) = true := fun a b e => by rw [e]; rfl
      generalize StepQ _ _ n = SQ at x1 x2 x3 x4 ⊢
      clear F N hout' hout hn' hbuf hbuf' h hst hbc hbd hrn
      k_steps
      all_goals (try dsimp only)
      all_goals first
        | exact x1 _ _ _ _ _ _ _ (by with_reducible assumption) (by with_reducible assumption) (by with_reducible assumption)
        | exact x2 _ _ _ _ _ _ _ (by with_reducible assumption) (by with_reducible assumption) (by with_reducible assumption) (by with_reducible assumption)
        | exact x3 _ _ _ _ _ _ _ (by with_reducible assumption) (by with_reducible assumption) (by simp only [*, Bool.true_or, Bool.or_true, Bool.false_or, Bool.or_false]) (by with_reducible assumption) (by with_reducible assumption)
        | exact x4 _ _ _ _ _ _ _ _ (by with_reducible assumption) (by with_reducible assumption) (by simp only [*, Bool.true_or, Bool.or_true, Bool.false_or, Bool.or_false]) (by with_reducible assumption) (by with_reducible assumption)
  | blank =>
    obtain rfl : tok' = [] := hok'
    rw [mkS_nil] at N'
    dsimp only [LS.val] at N'
    cases rem' with
    | nil =>
      have hz := chAt_end hbuf'
      have hnx := nxt_end hbuf'
      rw [rt_blank_nil] at hout'
      have x1 : ∀ h tk tc ta tb td, Fr g L' h (lm2 x q' te' nc' (.str (Str.ofString "") tc)) → News g L' h (LG kh kt vt y dy x dx pb fs com ws quotes split buf rest kq pre'.length .none ln' (Str.ofString "") ta tb td []) → StepQ (LoopI s g L' x ⟨com, ws, quotes, split⟩ buf out (LG kh kt vt y dy x dx pb fs com ws quotes split buf rest) kq) (LoopP s g L' x buf out (LG kh kt vt y dy x dx pb fs com ws quotes split buf rest)) n .brk { s with heap := h, toks := tk } :=
        fun h tk tc ta tb td F N => stops (rem := []) (push := none) (st := .dead) (tok := []) (t0 := 0) (tp := 0) hbuf' hout'.symm (fr_congr F (lm2_eq _ _ _ _ _)) (by rw [mkS_nil]; exact N)
      generalize StepQ _ _ n = SQ at x1 ⊢
      clear F N hout' hout hn' hbuf hbuf' h hst
      k_steps
      all_goals (try dsimp only)
      all_goals exact x1 _ _ _ _ _ _ (by with_reducible assumption) (by with_reducible assumption)
    | cons c r =>
      have hz := chAt_at hbuf'
      have hnx := nxt_at hbuf'
      have hp2 : (pre' ++ [c]).length ≤ buf.length := by rw [hbuf', mkS_length]; simp
      have hbc : buf = mkS ((pre' ++ [c]) ++ r) := by rw [hbuf']; simp
      have hrn : r.length < n := by simp at hn'; omega
      have hle : lineEnd buf (pre' ++ [c]).length = (pre' ++ [c] ++ r.take (r.length - (dropLine r).length)).length := by rw [hbc, lineEnd_eq]; simp; omega
      have hbd : buf = mkS ((pre' ++ [c] ++ r.take (r.length - (dropLine r).length)) ++ dropLine r) := by rw [hbc, List.append_assoc (pre' ++ [c]), ← dropLine_cut]
      have hdl := dropLine_le r
      rw [rt_blank] at hout'
      dsimp only at hout'
      have x1 : ∀ h tk tc ta tb td te2, hasC ws c = true → Fr g L' h (lm2 x q' te' nc' (.str (mkS [c]) tc)) → News g L' h (LG kh kt vt y dy x dx pb fs com ws quotes split buf rest kq (pre' ++ [c]).length (.str (Str.ofString " ") te2) (ln' + nlc c) (Str.ofString "") ta tb td []) → StepQ (LoopI s g L' x ⟨com, ws, quotes, split⟩ buf out (LG kh kt vt y dy x dx pb fs com ws quotes split buf rest) kq) (LoopP s g L' x buf out (LG kh kt vt y dy x dx pb fs com ws quotes split buf rest)) n .cont { s with heap := h, toks := tk } :=
        fun h tk tc ta tb td te2 c1 F N => goes (st := .blank) (tok := []) _ (.inr rfl) hrn hbc (by rw [if_pos c1] at hout'; exact hout') rfl (by simp) (fr_congr F (lm2_eq _ _ _ _ _)) (by rw [mkS_nil]; exact N)
      have x2 : ∀ h tk tc ta tb td te2, hasC ws c = false → hasC com c = true → Fr g L' h (lm2 x q' te' nc' (.str (mkS [c]) tc)) → News g L' h (LG kh kt vt y dy x dx pb fs com ws quotes split buf rest kq (pre' ++ [c] ++ r.take (r.length - (dropLine r).length)).length (.str (Str.ofString " ") te2) (ln' + nlc c + 1) (Str.ofString "") ta tb td []) → StepQ (LoopI s g L' x ⟨com, ws, quotes, split⟩ buf out (LG kh kt vt y dy x dx pb fs com ws quotes split buf rest) kq) (LoopP s g L' x buf out (LG kh kt vt y dy x dx pb fs com ws quotes split buf rest)) n .next { s with heap := h, toks := tk } :=
        fun h tk tc ta tb td te2 c1 c2 F N => goes (st := .blank) (tok := []) _ (.inl rfl) (by omega) hbd (by rw [c1, c2] at hout'; exact hout') rfl (by simp) (fr_congr F (lm2_eq _ _ _ _ _)) (by rw [mkS_nil]; exact N)
      have x3 : ∀ h tk tc ta tb td te2, hasC ws c = false → hasC com c = false → hasC wordS c = true → Fr g L' h (lm2 x q' te' nc' (.str (mkS [c]) tc)) → News g L' h (LG kh kt vt y dy x dx pb fs com ws quotes split buf rest kq (pre' ++ [c]).length (.str (Str.ofString "a") te2) (ln' + nlc c) (mkS [c]) ta tb td []) → StepQ (LoopI s g L' x ⟨com, ws, quotes, split⟩ buf out (LG kh kt vt y dy x dx pb fs com ws quotes split buf rest) kq) (LoopP s g L' x buf out (LG kh kt vt y dy x dx pb fs com ws quotes split buf rest)) n .next { s with heap := h, toks := tk } :=
        fun h tk tc ta tb td te2 c1 c2 c3 F N => goes (st := .word) (tok := [c]) _ (.inl rfl) hrn hbc (by rw [c1, c2, c3] at hout'; exact hout') (List.cons_ne_nil _ _) (by simp) (fr_congr F (lm2_eq _ _ _ _ _)) N
      have x4 : ∀ h tk tc ta tb td te2, hasC ws c = false → hasC com c = false → hasC wordS c = false → hasC quotes c = true → Fr g L' h (lm2 x q' te' nc' (.str (mkS [c]) tc)) → News g L' h (LG kh kt vt y dy x dx pb fs com ws quotes split buf rest kq (pre' ++ [c]).length (.str (mkS [c]) te2) (ln' + nlc c) (mkS [c]) ta tb td []) → StepQ (LoopI s g L' x ⟨com, ws, quotes, split⟩ buf out (LG kh kt vt y dy x dx pb fs com ws quotes split buf rest) kq) (LoopP s g L' x buf out (LG kh kt vt y dy x dx pb fs com ws quotes split buf rest)) n .next { s with heap := h, toks := tk } :=
        fun h tk tc ta tb td te2 c1 c2 c3 c4 F N => goes (st := .quot c) (tok := [c]) _ (.inl rfl) hrn hbc (by rw [c1, c2, c3, c4] at hout'; exact hout') ⟨c4, List.cons_ne_nil _ _⟩ (by simp) (fr_congr F (lm2_eq _ _ _ _ _)) N
      have x5 : ∀ h tk tc ta tb td te2, hasC ws c = false → hasC com c = false → hasC wordS c = false → hasC quotes c = false → split = true → Fr g L' h (lm2 x q' te' nc' (.str (mkS [c]) tc)) → News g L' h (LG kh kt vt y dy x dx pb fs com ws quotes split buf rest kq (pre' ++ [c]).length (.str (Str.ofString "a") te2) (ln' + nlc c) (mkS [c]) ta tb td []) → StepQ (LoopI s g L' x ⟨com, ws, quotes, split⟩ buf out (LG kh kt vt y dy x dx pb fs com ws quotes split buf rest) kq) (LoopP s g L' x buf out (LG kh kt vt y dy x dx pb fs com ws quotes split buf rest)) n .next { s with heap := h, toks := tk } :=
        fun h tk tc ta tb td te2 c1 c2 c3 c4 c5 F N => goes (st := .word) (tok := [c]) _ (.inl rfl) hrn hbc (by rw [c1, c2, c3, c4, c5] at hout'; rw [c5]; exact hout') (List.cons_ne_nil _ _) (by simp) (fr_congr F (lm2_eq _ _ _ _ _)) N
      have x6 : ∀ h tk tc ta tb td te2, hasC ws c = false → hasC com c = false → hasC wordS c = false → hasC quotes c = false → split = false → Fr g L' h (lm2 x q' te' nc' (.str (mkS [c]) tc)) → News g L' h (LG kh kt vt y dy x dx pb fs com ws quotes split buf rest kq (pre' ++ [c]).length (.str (Str.ofString " ") te2) (ln' + nlc c) (mkS [c]) ta tb td []) → StepQ (LoopI s g L' x ⟨com, ws, quotes, split⟩ buf out (LG kh kt vt y dy x dx pb fs com ws quotes split buf rest) kq) (LoopP s g L' x buf out (LG kh kt vt y dy x dx pb fs com ws quotes split buf rest)) n .brk { s with heap := h, toks := tk } :=
        fun h tk tc ta tb td te2 c1 c2 c3 c4 c5 F N => stops (st := .blank) (tok := [c]) (push := none) (tp := 0) hbc (by rw [c1, c2, c3, c4, c5] at hout'; exact hout'.symm) (fr_congr F (lm2_eq _ _ _ _ _)) N
      generalize StepQ _ _ n = SQ at x1 x2 x3 x4 x5 x6 ⊢
      clear F N hout' hout hn' hbuf hbuf' h hst hbc hbd hrn
      k_steps
      all_goals (try dsimp only)
      all_goals first
        | exact x1 _ _ _ _ _ _ _ (by with_reducible assumption) (by with_reducible assumption) (by with_reducible assumption)
        | exact x2 _ _ _ _ _ _ _ (by with_reducible assumption) (by with_reducible assumption) (by with_reducible assumption) (by with_reducible assumption)
        | exact x3 _ _ _ _ _ _ _ (by with_reducible assumption) (by with_reducible assumption) (by with_reducible assumption) (by with_reducible assumption) (by with_reducible assumption)
        | exact x4 _ _ _ _ _ _ _ (by with_reducible assumption) (by with_reducible assumption) (by with_reducible assumption) (by with_reducible assumption) (by with_reducible assumption) (by with_reducible assumption)
        | exact x5 _ _ _ _ _ _ _ (by with_reducible assumption) (by with_reducible assumption) (by with_reducible assumption) (by with_reducible assumption) (by with_reducible assumption) (by with_reducible assumption) (by with_reducible assumption)
        | exact x6 _ _ _ _ _ _ _ (by with_reducible assumption) (by with_reducible assumption) (by with_reducible assumption) (by with_reducible assumption) (by with_reducible assumption) (by with_reducible assumption) (by with_reducible assumption)
end
structure LX where
  rem : List Nat
  ln : Int
  st : LS
  push : Option Nat
inductive GOut where
  | ok (res : List Nat) (lx : LX)
  | err
noncomputable def LX.ok (l : LX) : Prop := l.st = .blank ∨ (l.st = .dead ∧ l.rem = [])
noncomputable def gtok (P : Pm) (l : LX) : GOut := match l.push with
  | some c => .ok [c] { l with push := none }
  | none => match rt P l.rem l.ln l.st [] with
    | .ok rem ln st res push => .ok res ⟨rem, ln, st, push⟩
    | .err => .err
local macro_rules | `(tactic| walk_at "truthy ref") => `(tactic| (k_here; k_dflt (refine' dq_truthyN ?N ?m ?l ?_; (case N => k_asm); (case m => k_mem); (case l => exact Nat.le_of_ble_eq_true rfl); intro _; (try dsimp only [List.isEmpty, Bool.not_true, Bool.not_false]))))
local macro_rules | `(tactic| walk_at "compareOp Eq str str") => `(tactic| ((with_reducible show wpAny _ _ (compareOp CmpOp.Eq (Value.str (mkS _) _) (Value.str (PySem.Str.ofString "") _)) _ _ _); refine eq_str_no (by with_reducible assumption) ?_))
section
variable {w : World} {A : Around} {s : Shared} {base h₀ : Heap} {outer : List Env} {L : Addr} {m : Str → Option Value} {env : Env} {mg mb : Str → Option Value} {mean : ExcName → Option Value} {R : Result → Shared → Prop} {loose : List Str}
  {y dy x dx pb fs : Addr} {kh : Nat → Int} {kt vt : Nat → Tok} {buf : Str} {t0 t1 t2 t3 tp : Tok} {com ws quotes token : Str} {split : Bool} {lineno : Int} {rest : List (Addr × Obj)} {room : Nat} {kf : Int}
theorem get_spec (C : Amb w A base h₀ outer env L mg mb mean loose 8) (F : Fr h₀ L s.heap m) {pre : List Nat} {kq : Int} {lx : LX} {out : GOut}
  (N : News h₀ L s.heap (LG kh kt vt y dy x dx pb fs com ws quotes split buf ((fs, dqObj kf []) :: rest) kq pre.length (lx.st.val t0) lx.ln (Str.ofString "") t1 t2 t3 (pbsOf lx.push tp)))
  (hne : @Ne Nat y dy ∧ @Ne Nat y x ∧ @Ne Nat y dx ∧ @Ne Nat dy x ∧ @Ne Nat dy dx ∧ @Ne Nat x dx ∧ @Ne Nat pb y ∧ @Ne Nat pb dy ∧ @Ne Nat pb x ∧ @Ne Nat pb dx) (hnf : @Ne Nat fs dy ∧ @Ne Nat fs dx ∧ @Ne Nat fs pb) (hr1 : ∀ p ∈ rest, p.1 ≠ dy) (hr2 : ∀ p ∈ rest, p.1 ≠ dx) (hr3 : ∀ p ∈ rest, p.1 ≠ pb)
  (hb : buf.length ≤ 4096) (hbuf : buf = mkS (pre ++ lx.rem)) (hst : lx.ok) (hout : gtok ⟨com, ws, quotes, split⟩ lx = out)
  (hq1 : hasC quotes 97 = false) (hq2 : hasC quotes 32 = false)
  (h : ∀ h' tk pre' lx' res kq' t t0 t1 t2 t3 tp, out = .ok res lx' → buf = mkS (pre' ++ lx'.rem) → Fr h₀ L h' m →
    News h₀ L h' (LG kh kt vt y dy x dx pb fs com ws quotes split buf ((fs, dqObj kf []) :: rest) kq' pre'.length (lx'.st.val t0) lx'.ln (Str.ofString "") t1 t2 t3 (pbsOf lx'.push tp)) → R (.ok (.ret (.str (mkS res) t))) { s with heap := h', toks := tk })
  (hErr : ∀ e t tm g h' tk, out = .err → Fr h₀ L g m → g.UpToSlots h' → RaisedS base g (env :: outer) e (.type "ValueError") t [.str (Str.ofString "No closing quotation") tm] rest h' → R (.error (.ref e)) { s with heap := h', toks := tk }) :
  codeAny (model PySem.Challenge.rw_nq0177_01.row.prog w) A (.call (.ref 690) ⟨[.ref x], []⟩) R s := by
  obtain ⟨⟨A₀, B⟩, X₀, T, hA, hf, hk, hroom, hh⟩ := C
  obtain ⟨rem, ln, st, push⟩ := lx
  dsimp only at *
  cases push with
  | some c =>
    dsimp only [gtok] at hout
    have y1 : ∀ h'' tk t, Fr h₀ L h'' m → News h₀ L h'' (LG kh kt vt y dy x dx pb fs com ws quotes split buf ((fs, dqObj kf []) :: rest) (kq + 1) pre.length (st.val t0) ln (Str.ofString "") t1 t2 t3 []) → R (.ok (.ret (.str (mkS [c]) t))) { s with heap := h'', toks := tk } :=
      fun h'' tk t F N => h h'' tk pre ⟨rem, ln, st, none⟩ [c] (kq + 1) t t0 t1 t2 t3 tp hout.symm hbuf F N
    dsimp only [pbsOf] at N
    clear h hErr hout hbuf hst
    walk_at "my enter"
    k_steps
    all_goals (try dsimp only)
    all_goals exact y1 _ _ _ (by with_reducible assumption) (by with_reducible assumption)
  | none =>
    dsimp only [pbsOf] at N
    walk_at "my enter0"
    intro g L' h₁ FG F₁ N₁ B' X' T'
    dsimp only
    k_fold
    iterate 16 (first | walk1 | (dsimp only; walk1))
    refine wpAny_call ?_
    have hrf1 : ∀ p ∈ ((fs, dqObj kf []) :: rest), p.1 ≠ dy := by k_all
    have hrf2 : ∀ p ∈ ((fs, dqObj kf []) :: rest), p.1 ≠ dx := by k_all
    have hrf3 : ∀ p ∈ ((fs, dqObj kf []) :: rest), p.1 ≠ pb := by k_all
    refine' tok_spec (st := st) (rem := rem) (pre := pre) (out := rt ⟨com, ws, quotes, split⟩ rem ln st []) ?C ?F ?N hne hrf1 hrf2 hrf3 hb hbuf hst rfl hq1 hq2 ?ok ?err
    case F => k_asm
    case N => k_asm
    case C => walk_at "my amb"
    case err =>
      intro e t tm g2 h' tk ho FG2 US RK
      dsimp only
      k_unfold
      try dsimp only
      refine leave_onS B' FG2 (RaisedS.sub RK fun q hq => List.mem_cons_of_mem _ hq) US ?_
      intro h2 RK2 _ US2
      refine hErr _ _ _ _ _ _ ?_ FG US2 RK2
      rw [← hout, gtok]; dsimp only; rw [ho]
    case ok =>
      intro h' tk rem' pre' ln' st' res push' kq' t t0' t1' t2' t3' tp' ho hbuf' F' N'
      have hout2 : out = .ok res ⟨rem', ln', st', push'⟩ := by rw [← hout, gtok]; dsimp only; rw [ho]
      have y1 : ∀ h'' tk t, Fr h₀ L h'' m → News h₀ L h'' (LG kh kt vt y dy x dx pb fs com ws quotes split buf ((fs, dqObj kf []) :: rest) kq' pre'.length (st'.val t0') ln' (Str.ofString "") t1' t2' t3' (pbsOf push' tp')) → R (.ok (.ret (.str (mkS res) t))) { s with heap := h'', toks := tk } :=
        fun h'' tk t F N => h h'' tk pre' ⟨rem', ln', st', push'⟩ res kq' t t0' t1' t2' t3' tp' hout2 hbuf' F N
      dsimp only
      clear h hErr hout hbuf hst hout2 hbuf' ho F N
      cases res with
      | nil =>
        rw [mkS_nil] at y1 ⊢
        k_steps
        all_goals (try dsimp only)
        all_goals exact y1 _ _ _ (by with_reducible assumption) (by with_reducible assumption)
      | cons c0 r0 =>
        have hemp : (mkS (c0 :: r0) == Str.ofString "") = false := by
          refine beq_eq_false_iff_ne.mpr fun e => ?_
          have := mkS_inj (e.trans mkS_nil.symm)
          cases this
        k_steps
        all_goals (try dsimp only)
        all_goals exact y1 _ _ _ (by with_reducible assumption) (by with_reducible assumption)
end
section
variable {w : World} {A : Around} {s : Shared} {base h₀ : Heap} {outer : List Env} {L : Addr} {m : Str → Option Value} {env : Env} {mg mb : Str → Option Value} {mean : ExcName → Option Value} {R : Result → Shared → Prop} {loose : List Str}
  {y dy x dx pb fs : Addr} {kh : Nat → Int} {kt vt : Nat → Tok} {buf : Str} {t0 t1 t2 t3 tp : Tok} {com ws quotes token : Str} {split : Bool} {lineno : Int} {rest : List (Addr × Obj)} {room : Nat} {kf : Int}
theorem next_spec (C : Amb w A base h₀ outer env L mg mb mean loose 10) (F : Fr h₀ L s.heap m) {pre : List Nat} {kq : Int} {lx : LX} {out : GOut}
  (N : News h₀ L s.heap (LG kh kt vt y dy x dx pb fs com ws quotes split buf ((fs, dqObj kf []) :: rest) kq pre.length (lx.st.val t0) lx.ln (Str.ofString "") t1 t2 t3 (pbsOf lx.push tp)))
  (hne : @Ne Nat y dy ∧ @Ne Nat y x ∧ @Ne Nat y dx ∧ @Ne Nat dy x ∧ @Ne Nat dy dx ∧ @Ne Nat x dx ∧ @Ne Nat pb y ∧ @Ne Nat pb dy ∧ @Ne Nat pb x ∧ @Ne Nat pb dx) (hnf : @Ne Nat fs dy ∧ @Ne Nat fs dx ∧ @Ne Nat fs pb) (hr1 : ∀ p ∈ rest, p.1 ≠ dy) (hr2 : ∀ p ∈ rest, p.1 ≠ dx) (hr3 : ∀ p ∈ rest, p.1 ≠ pb)
  (hb : buf.length ≤ 4096) (hbuf : buf = mkS (pre ++ lx.rem)) (hst : lx.ok) (hout : gtok ⟨com, ws, quotes, split⟩ lx = out)
  (hq1 : hasC quotes 97 = false) (hq2 : hasC quotes 32 = false)
  (h : ∀ h' tk pre' lx' c res kq' t t0 t1 t2 t3 tp, out = .ok (c :: res) lx' → buf = mkS (pre' ++ lx'.rem) → Fr h₀ L h' m →
    News h₀ L h' (LG kh kt vt y dy x dx pb fs com ws quotes split buf ((fs, dqObj kf []) :: rest) kq' pre'.length (lx'.st.val t0) lx'.ln (Str.ofString "") t1 t2 t3 (pbsOf lx'.push tp)) → R (.ok (.ret (.str (mkS (c :: res)) t))) { s with heap := h', toks := tk })
  (hStop : ∀ e t g h' tk pre' lx' kq' t0 t1 t2 t3 tp, out = .ok [] lx' → buf = mkS (pre' ++ lx'.rem) → Fr h₀ L g m → g.UpToSlots h' →
    RaisedS base g (env :: outer) e (.type "StopIteration") t [] (LG kh kt vt y dy x dx pb fs com ws quotes split buf ((fs, dqObj kf []) :: rest) kq' pre'.length (lx'.st.val t0) lx'.ln (Str.ofString "") t1 t2 t3 (pbsOf lx'.push tp)) h' → R (.error (.ref e)) { s with heap := h', toks := tk })
  (hErr : ∀ e t tm g h' tk, out = .err → Fr h₀ L g m → g.UpToSlots h' → RaisedS base g (env :: outer) e (.type "ValueError") t [.str (Str.ofString "No closing quotation") tm] rest h' → R (.error (.ref e)) { s with heap := h', toks := tk }) :
  codeAny (model PySem.Challenge.rw_nq0177_01.row.prog w) A (.call (.ref 726) ⟨[.ref x], []⟩) R s := by
  obtain ⟨⟨A₀, B⟩, X₀, T, hA, hf, hk, hroom, hh⟩ := C
  walk_at "my enter0"
  intro g L' h₁ FG F₁ N₁ B' X' T'
  dsimp only
  k_fold
  iterate 7 (first | walk1 | (dsimp only; walk1))
  refine wpAny_call ?_
  refine' get_spec (lx := lx) (pre := pre) (out := out) (rest := rest) ?C ?F ?N hne hnf hr1 hr2 hr3 hb hbuf hst hout hq1 hq2 ?ok ?err
  case F => k_asm
  case N => k_asm
  case C => walk_at "my amb"
  case err =>
    intro e t tm g2 h' tk ho FG2 US RK
    dsimp only
    k_unfold
    try dsimp only
    refine leave_onS B' FG2 RK US ?_
    intro h2 RK2 _ US2
    exact hErr _ _ _ _ _ _ ho FG US2 RK2
  case ok =>
    intro h' tk pre' lx' res kq' t t0' t1' t2' t3' tp' ho hbuf' F' N'
    cases res with
    | nil =>
      have y1 : ∀ e t g h' tk, Fr h₀ L g m → g.UpToSlots h' → RaisedS base g (env :: outer) e (.type "StopIteration") t [] (LG kh kt vt y dy x dx pb fs com ws quotes split buf ((fs, dqObj kf []) :: rest) kq' pre'.length (lx'.st.val t0') lx'.ln (Str.ofString "") t1' t2' t3' (pbsOf lx'.push tp')) h' → R (.error (.ref e)) { s with heap := h', toks := tk } :=
        fun e t g h' tk a b c => hStop e t g h' tk pre' lx' kq' t0' t1' t2' t3' tp' ho hbuf' a b c
      rw [mkS_nil]
      dsimp only
      clear h hErr hStop hout hbuf hst hbuf' ho F N
      k_steps
      (with_reducible rename Fr _ _ _ _ => kF)
      refine owsi_raiseC hh ?hx ?_
      case hx => refine' name_B kF X' (topRead_of T') ?k3 PyProof.Rows.Boot.«StopIteration» ?k5 ⟨rfl, rfl⟩; (case k3 => k_is); (case k5 => decide)
      intro h' e hm
      k_unfold
      try dsimp only
      refine leave_raiseS B' (Heap.MadeExc.of hm) kF (by assumption) ?_
      intro h2 t2 RK _ US
      exact y1 _ _ _ _ _ FG US RK
    | cons c0 r0 =>
      have hemp : (mkS (c0 :: r0) == Str.ofString "") = false := by
        refine beq_eq_false_iff_ne.mpr fun e => ?_
        have := mkS_inj (e.trans mkS_nil.symm)
        cases this
      have y1 : ∀ h'' tk t, Fr h₀ L h'' m → News h₀ L h'' (LG kh kt vt y dy x dx pb fs com ws quotes split buf ((fs, dqObj kf []) :: rest) kq' pre'.length (lx'.st.val t0') lx'.ln (Str.ofString "") t1' t2' t3' (pbsOf lx'.push tp')) → R (.ok (.ret (.str (mkS (c0 :: r0)) t))) { s with heap := h'', toks := tk } :=
        fun h'' tk t F N => h h'' tk pre' lx' c0 r0 kq' t t0' t1' t2' t3' tp' ho hbuf' F N
      dsimp only
      clear h hErr hStop hout hbuf hst hbuf' ho F N
      k_steps
      all_goals (try dsimp only)
      all_goals exact y1 _ _ _ (by with_reducible assumption) (by with_reducible assumption)
end
theorem sio_made (w : World) : peek (hd1.heap_1 w.params) ⟨PySem.Challenge.rw_nq0177_01.row.prog, w.params⟩ (Bind.madeBy (.ref 594)) = some none := by kernel_rfl
theorem sio_here (w : World) : peek (hd1.heap_1 w.params) ⟨PySem.Challenge.rw_nq0177_01.row.prog, w.params⟩ (Bind.madeHere "object.__new__" (.ref 594)) = some () := by kernel_rfl
theorem sio_mro (w : World) : peek (hd1.heap_1 w.params) ⟨PySem.Challenge.rw_nq0177_01.row.prog, w.params⟩ (mroOf (.ref 594)) = some [.ref 594, .ref 117, .ref 90, .type "object"] := by kernel_rfl
theorem sio_isType (w : World) : peek (hd1.heap_1 w.params) ⟨PySem.Challenge.rw_nq0177_01.row.prog, w.params⟩ (isType (.ref 594)) = some true := by kernel_rfl
theorem sio_call (w : World) : peek (hd1.heap_1 w.params) ⟨PySem.Challenge.rw_nq0177_01.row.prog, w.params⟩ (specialOf (.ref 594) "__call__") = some (some (.builtin "type.__call__")) := by kernel_rfl
theorem sio_inst (w : World) : peek (hd1.heap_1 w.params) ⟨PySem.Challenge.rw_nq0177_01.row.prog, w.params⟩ (isInstance (.ref 594) (.type "type")) = some true := by kernel_rfl
theorem sio_sub (w : World) : peek (hd1.heap_1 w.params) ⟨PySem.Challenge.rw_nq0177_01.row.prog, w.params⟩ (isSubtype (.ref 594) (.ref 594)) = some true := by kernel_rfl
theorem sio_subo (w : World) : peek (hd1.heap_1 w.params) ⟨PySem.Challenge.rw_nq0177_01.row.prog, w.params⟩ (isSubtype (.ref 594) (.type "object")) = some true := by kernel_rfl
theorem sio_check (w : World) : peek (hd1.heap_1 w.params) ⟨PySem.Challenge.rw_nq0177_01.row.prog, w.params⟩ (checkBuiltinCall "object.__new__" ⟨[.ref 594], []⟩) = some () := by kernel_rfl
theorem sio_clsB (w : World) : (match (hd1.heap_1 w.params).lookup 594 with | some ⟨_, _, .cls cd, _⟩ => !cd.abstract && !cd.hasDel | _ => false) = true := by kernel_rfl
theorem sio_cls (w : World) : ∃ oc od cd sl, (hd1.heap_1 w.params).lookup 594 = some ⟨oc, od, .cls cd, sl⟩ ∧ cd.abstract = false ∧ cd.hasDel = false := by
  have e := sio_clsB w
  split at e
  · rename_i ho
    simp only [Bool.and_eq_true, Bool.not_eq_true'] at e
    exact ⟨_, _, _, _, ho, e.1, e.2⟩
  · cases e
section
open Builtin Builtin.ObjectAttr Builtin.Getset_descriptor
variable {w : World} {A : Around} {R : Result → Shared → Prop} {h : Heap} {g : Array GenState} {d : Drawn} {t : Nat} {os : OsState}
theorem sio_new (X : (hd1.heap_1 w.params).In h)
    (hq : R (.ok (.ret (.ref (h.objs.size + 1)))) ⟨(h.push emptyDict).push (instObj 594 h.objs.size), g, d, t, os⟩) :
    codeAny (model PySem.Challenge.rw_nq0177_01.row.prog w) A (.call (.builtin "object.__new__") ⟨[.ref 594], []⟩) R ⟨h, g, d, t, os⟩ := by
  obtain ⟨oc, od, cd, sl, hC, e1, e2⟩ := sio_cls w
  replace hC := X _ _ hC
  have here : Looks (model PySem.Challenge.rw_nq0177_01.row.prog w) h (Bind.madeHere "object.__new__" (.ref 594)) () := Looks.of_peek X (sio_here w)
  have typ : Looks (model PySem.Challenge.rw_nq0177_01.row.prog w) h (isType (.ref 594)) true := Looks.of_peek X (sio_isType w)
  have top : Looks (model PySem.Challenge.rw_nq0177_01.row.prog w) h (isSubtype (.ref 594) (.type "object")) true := Looks.of_peek X (sio_subo w)
  have F := PySem.F.objNew
  refine codeAny_call_builtin_code (Code.quiet_builtin _ F.quiet) ?_
  refine (Looks.of_peek X (sio_check w) : Looks (model PySem.Challenge.rw_nq0177_01.row.prog w) h (checkBuiltinCall "object.__new__" ⟨[.ref 594], []⟩) ()).here ?_
  refine codeAny_builtin F.entry ?_
  unfold Builtin.«object.__new__»
  have fin : ∀ A', wpAny (model PySem.Challenge.rw_nq0177_01.row.prog w) A' (do
      let d ← if typeHasDict (.ref 594) then some <$> alloc { cls := .type "dict", data := .dict #[] } else pure none
      ret (← newObj (.ref 594) .plain d)) (fun fin s' => match fin with | .done f => R (.ok f) s' | .again c' => c'.quiet = true ∧ codeAny (model PySem.Challenge.rw_nq0177_01.row.prog w) A c' R s') (fun e s' => R (.error e) s') ⟨h, g, d, t, os⟩ := by
    intro A'
    show wpAny _ _ ((alloc emptyDict >>= fun x => pure (some x)) >>= _) _ _ _
    refine wpAny_bind (wpAny_bind (wpAny_alloc (wpAny_pure (wpAny_bind ?_))))
    show wpAny _ _ (newObjAsIs _ _ _) _ _ _
    unfold newObjAsIs classHasDel
    refine wpAny_bind (wpAny_alloc (wpAny_bind (wpAny_bind (wpAny_load (Heap.get?_push_of_some _ (Heap.get?_push_of_some _ hC)) (wpAny_pure ?_)))))
    rw [e2]
    refine wpAny_pure (wpAny_pure ?_)
    show R _ _
    rw [Heap.size_push]
    exact hq
  repeat (first | simp only [e1, Bool.false_eq_true, if_false, Bool.not_true] | exact fin _ | lk)
end
section
variable {w : World} {A : Around} {s : Shared} {base h₀ : Heap} {outer : List Env} {L : Addr} {m : Str → Option Value} {env : Env} {mg mb : Str → Option Value} {mean : ExcName → Option Value} {R : Result → Shared → Prop} {loose : List Str}
  {news : List (Addr × Obj)} {text : Str} {tt : Tok}
theorem newfn_spec (C : Amb w A base h₀ outer env L mg mb mean loose 4) (F : Fr h₀ L s.heap m) (N : News h₀ L s.heap news)
  (h : ∀ y dy h' tk, Fr h₀ L h' m → News h₀ L h' ((y, instObj 594 dy) :: (dy, emptyDict) :: news) → (∀ p ∈ news, p.1 < dy) → dy < y → R (.ok (.ret (.ref y))) { s with heap := h', toks := tk }) :
  codeAny (model PySem.Challenge.rw_nq0177_01.row.prog w) A (.call (.ref 87) ⟨[.ref 594, .str text tt], []⟩) R s := by
  obtain ⟨⟨A₀, B⟩, X₀, T, hA, hf, hk, hroom, hh⟩ := C
  refine' kp_both (DD := []) (vs := [.str text tt]) (ex := []) B F X₀ N T hA hf hk ?ho ?hcd ?room ?v ?x ?nr ?nm ?kn ?hD ?fr ?hp ?hp2 ?hk2 ?hloc ?_ ?c2 ?c3 ?c4 ?c5
  case ho => k_is
  case hcd => k_is
  case room => walk_at "my room"
  case v => exact rfl
  case x => exact rfl
  case nr => exact rfl
  case nm => exact rfl
  case kn => exact rfl
  case hD => constructor
  case fr => exact rfl
  case hp => exact rfl
  case hp2 => exact fun _ => rfl
  case hk2 => exact fun _ _ => rfl
  case hloc => exact fun _ _ => locs rfl
  case c5 => decide
  case c2 => exact rfl
  case c3 => exact rfl
  case c4 => exact rfl
  intro C1 D1 o1 g L' h₁ tk l1 l2 _ _ _ FG F₁ N₁ B' X' T'
  try dsimp only
  k_fold
  k_steps
  refine wpAny_call (sio_new (X'.keeps F₁.keep) ?_)
  have N2 := (N₁.push F₁ emptyDict).push (F₁.push _) (instObj 594 h₁.objs.size)
  rw [Heap.size_push] at N2
  have F2 := (F₁.push emptyDict).push (instObj 594 h₁.objs.size)
  try dsimp only
  try k_unfold
  try dsimp only
  refine leaveK_ F2 N2 fun kF kN => ?_
  refine h _ _ _ _ kF (fun p hp => kN p ?_) (fun p hp => Heap.lt_size (N₁ p (by simp only [List.mem_cons]; exact .inr (.inr hp))).1) (Nat.lt_succ_self _)
  simp only [List.mem_cons] at hp ⊢
  rcases hp with hp | hp | hp
  · exact .inl hp
  · exact .inr (.inl hp)
  · exact .inr (.inr (.inr (.inr hp)))
/- the class called: StringIO(text) -/
theorem sio_make (C : Amb w A base h₀ outer env L mg mb mean loose 8) (F : Fr h₀ L s.heap m) (N : News h₀ L s.heap news)
  (h : ∀ y dy h' tk, Fr h₀ L h' m → News h₀ L h' ((y, instObj 594 dy) :: (dy, emptyDict) :: news) → (∀ p ∈ news, p.1 < dy) → dy < y →
    codeAny (model PySem.Challenge.rw_nq0177_01.row.prog w) (A.under (.builtin "type.__call__" ⟨[.ref 594, .str text tt], []⟩)) (.call (.ref 364) ⟨[.ref y, .str text tt], []⟩) (InitBack y R) { s with heap := h', toks := tk }) :
  codeAny (model PySem.Challenge.rw_nq0177_01.row.prog w) A (.call (.ref 594) ⟨[.str text tt], []⟩) R s := by
  obtain ⟨⟨A₀, B⟩, X₀, T, hA, hf, hk, hroom, hh⟩ := C
  have X := X₀.keeps F.keep
  obtain ⟨H, gg, d, t, os⟩ := s
  dsimp only at *
  obtain ⟨oc, od, cd, sl, hC, e1, e2⟩ := sio_cls w
  replace hC := X _ _ hC
  have call : Looks (model PySem.Challenge.rw_nq0177_01.row.prog w) H (specialOf (.ref 594) "__call__") (some (.builtin "type.__call__")) := Looks.of_peek X (sio_call w)
  have typ : Looks (model PySem.Challenge.rw_nq0177_01.row.prog w) H (isInstance (.ref 594) (.type "type")) true := Looks.of_peek X (sio_inst w)
  refine codeAny_of_tree ?_
  show wpAny _ _ (callAny (.ref 594) _) _ _ _
  refine nd_load hC ?_
  show wpAny _ _ (callAny.viaDunder (.ref 594) _) _ _ _
  unfold callAny.viaDunder
  refine wpAny_bind (call.at ?_)
  dsimp only
  rw [tc_bind]
  refine wpAny_bind (wpAny_pure (wpAny_bind (wpAny_pure ?_)))
  refine wpAny_pure (a := Fin.again (.call (.builtin "type.__call__") ⟨[.ref 594, .str text tt], []⟩)) (And.intro rfl ?_)
  refine codeAny_call_builtin_at (Code.quiet_builtin _ (by decide +kernel)) entry_typeCall (check_slot tc_kind tc_split typ (tc_args _ _ _) ?_)
  unfold Builtin.«type.__call__»
  have hm : Looks (model PySem.Challenge.rw_nq0177_01.row.prog w) H (mroOf (.ref 594)) [.ref 594, .ref 117, .ref 90, .type "object"] := Looks.of_peek X (sio_mro w)
  have hmade : Looks (model PySem.Challenge.rw_nq0177_01.row.prog w) H (Bind.madeBy (.ref 594)) none := Looks.of_peek X (sio_made w)
  have F' : Fr h₀ L (⟨H, gg, d, t, os⟩ : Shared).heap m := F
  have hget : ∀ {A' : Around} {Q : Value → Shared → Prop} {E : Value → Shared → Prop} {b : Bool}, (∀ tk, Q (.ref 87) ⟨H, gg, d, tk, os⟩) → wpAny (model PySem.Challenge.rw_nq0177_01.row.prog w) A' (getAttr (.ref 594) "__new__" b) Q E ⟨H, gg, d, t, os⟩ := by
    intro A' Q E b q
    refine' cls_sm F' X₀ ?k3 ?k4 ?k5 ?k6 ?k7 ?_
    case k3 => k_is
    case k4 => k_is
    case k5 => k_is
    case k6 => k_is
    case k7 => k_handed
    exact q _
  repeat (first | simp only [List.isEmpty_cons, Bool.false_eq_true, if_false] | with_reducible refine hget ?_ | with_reducible refine wpAny_call ?_ | lk)
  intro tk
  refine wpAny_bind (wpAny_holding (wpAny_call ?_))
  refine newfn_spec (env := env) (outer := outer) (base := base) (loose := loose) (mean := mean) (mg := mg) (mb := mb) (h₀ := h₀) (L := L) (m := m) (news := news) ⟨⟨A₀, B⟩, X₀, T, hA, hf, hk, by walk_at "my room", hh⟩ F N ?_
  intro y dy h' tk' F2 N2 l1 l2
  dsimp only
  have X2 := X₀.keeps F2.keep
  have I := InstAt.of_news N2 (List.Mem.head _) (List.Mem.tail _ (List.Mem.head _))
  have inst : Looks (model PySem.Challenge.rw_nq0177_01.row.prog w) h' (isInstance (.ref y) (.ref 594)) true := I.type.andThen (Looks.of_peek X2 (sio_sub w))
  refine wpAny_bind (inst.at ?_)
  simp only [Bool.not_true, Bool.false_eq_true, if_false]
  refine wpAny_bind (wpAny_holding (special_fn (s := ⟨h', gg, d, tk', os⟩) (f := 364) X2 I ?k1 ?k2 (wpAny_call (codeAny_mono (h y dy h' tk' F2 N2 l1 l2) fun r s' z => ?_))))
  case k1 => k_is
  case k2 => k_is
  rcases r with e | (v | _ | _ | _) <;> first | exact z | exact z.elim | skip
  obtain ⟨rfl, z⟩ := z
  exact wpAny_pure z
end
section
variable {w : World} {A : Around} {s : Shared} {base h₀ : Heap} {outer : List Env} {L : Addr} {m : Str → Option Value} {env : Env} {mg mb : Str → Option Value} {mean : ExcName → Option Value} {R : Result → Shared → Prop} {loose : List Str}
  {news : List (Addr × Obj)} {text : Str} {tt : Tok} {y dy : Addr}
theorem sinit_spec (C : Amb w A base h₀ outer env L mg mb mean loose 4) (F : Fr h₀ L s.heap m) (N : News h₀ L s.heap ((y, instObj 594 dy) :: (dy, emptyDict) :: news)) (hl : ∀ p ∈ news, p.1 < dy) (hlt : dy < y)
  (h : ∀ h' tk q0 q1 q2 k0 k1 k2 v0 v1 t, Fr h₀ L h' m → News h₀ L h' ((y, instObj 594 dy) :: (dy, dictOf [⟨q0, .str (Str.ofString "_StringIO__newline") k0, .str (Str.ofString "\n") v0⟩, ⟨q1, .str (Str.ofString "_StringIO__buf") k1, .str text v1⟩, ⟨q2, .str (Str.ofString "_StringIO__pos") k2, .int 0 t⟩] 3) :: news) → R (.ok (.ret .none)) { s with heap := h', toks := tk }) :
  codeAny (model PySem.Challenge.rw_nq0177_01.row.prog w) A (.call (.ref 364) ⟨[.ref y, .str text tt], []⟩) R s := by
  obtain ⟨⟨A₀, B⟩, X₀, T, hA, hf, hk, hroom, hh⟩ := C
  have hr1 : ∀ p ∈ news, p.1 ≠ dy := fun p hp => Nat.ne_of_lt (hl p hp)
  have hne : @Ne Nat y dy := Nat.ne_of_gt hlt
  clear hl hlt
  walk_at "my enter"
  k_steps
  exact h _ _ _ _ _ _ _ _ _ _ _ (by assumption) (by assumption)
theorem sio_spec (C : Amb w A base h₀ outer env L mg mb mean loose 8) (F : Fr h₀ L s.heap m) (N : News h₀ L s.heap news)
  (h : ∀ y dy h' tk q0 q1 q2 k0 k1 k2 v0 v1 t, Fr h₀ L h' m → News h₀ L h' ((y, instObj 594 dy) :: (dy, dictOf [⟨q0, .str (Str.ofString "_StringIO__newline") k0, .str (Str.ofString "\n") v0⟩, ⟨q1, .str (Str.ofString "_StringIO__buf") k1, .str text v1⟩, ⟨q2, .str (Str.ofString "_StringIO__pos") k2, .int 0 t⟩] 3) :: news) → (∀ p ∈ news, p.1 < dy) → dy < y → R (.ok (.ret (.ref y))) { s with heap := h', toks := tk }) :
  codeAny (model PySem.Challenge.rw_nq0177_01.row.prog w) A (.call (.ref 594) ⟨[.str text tt], []⟩) R s := by
  refine sio_make C F N fun y dy h' tk F2 N2 l1 l2 => ?_
  obtain ⟨⟨A₀, B⟩, X₀, T, hA, hf, hk, hroom, hh⟩ := C
  refine sinit_spec (env := env) (outer := outer) (base := base) (loose := loose) (mean := mean) (mg := mg) (mb := mb) (h₀ := h₀) (L := L) (m := m) ⟨⟨A₀, B⟩, X₀, T, hA, hf, hk, by walk_at "my room", hh⟩ F2 N2 l1 l2 ?_
  intro h3 tk3 q0 q1 q2 k0 k1 k2 v0 v1 t F3 N3
  exact ⟨rfl, h _ _ _ _ _ _ _ _ _ _ _ _ _ F3 N3 l1 l2⟩
end
noncomputable def pk {α : Type} (d : α) : List (Nat × α) → Nat → α
  | [], _ => d
  | (k, v) :: r, n => if n = k then v else pk d r n
theorem news_order {h₀ h : Heap} {L : Addr} {news : List (Addr × Obj)} {f p y d x e : Addr × Obj} (N : News h₀ L h (f :: p :: y :: d :: x :: e :: news)) : News h₀ L h (y :: d :: x :: e :: p :: f :: news) := fun q hq => N q (by
  simp only [List.mem_cons] at hq ⊢
  rcases hq with h | h | h | h | h | h | h <;> simp [h])
theorem allLt_intro {d : Addr} {l : List (Addr × Obj)} (h : ∀ p ∈ l, p.1 < d) : AllLt d l := allLt_of h
local macro_rules | `(tactic| walk_at "call ref") => `(tactic| (k_here; (with_reducible show wpAny _ _ (call (Value.ref 594) _) _ _ _); k_dflt (refine wpAny_call ?_; refine' sio_spec ?C ?F ?N ?_; (case F => k_asm); (case N => k_asm); (case C => walk_at "my amb"); intro y' dy' h' tk' q0' q1' q2' k0' k1' k2' v0' v1' t' F' N' l1 l2; (try k_lt l1); (try k_lt2 l2); (try dsimp only); (try k_sweep))))
local macro_rules | `(tactic| walk_at "call type:collections.deque") => `(tactic| (k_here; k_dflt (refine' dq_makeN ?F ?N ?_; (case F => k_asm); (case N => k_asm); intro a' h' F' N' l1; (try k_lt l1); (try dsimp only); (try k_sweep))))
section
variable {w : World} {A : Around} {s : Shared} {base h₀ : Heap} {outer : List Env} {L : Addr} {m : Str → Option Value} {env : Env} {mg mb : Str → Option Value} {mean : ExcName → Option Value} {R : Result → Shared → Prop} {loose : List Str}
  {news : List (Addr × Obj)} {text : Str} {tt : Tok} {x dx : Addr}
theorem linit_spec (C : Amb w A base h₀ outer env L mg mb mean loose 12) (F : Fr h₀ L s.heap m) (N : News h₀ L s.heap ((x, instObj 729 dx) :: (dx, emptyDict) :: news)) (hl : ∀ p ∈ news, p.1 < dx) (hlt : @LT.lt Nat _ dx x)
  (h : ∀ y dy pb fs kh kt vt t0 t1 t2 t3 h' tk, Fr h₀ L h' m → News h₀ L h' (LG kh kt vt y dy x dx pb fs (Str.ofString "#") (Str.ofString " \t\r\n") (Str.ofString "'\"") false text ((fs, dqObj 0 []) :: news) 0 0 (.str (Str.ofString " ") t0) 1 (Str.ofString "") t1 t2 t3 []) →
    (@LT.lt Nat _ x dy ∧ @LT.lt Nat _ dy y ∧ @LT.lt Nat _ y pb ∧ @LT.lt Nat _ pb fs) → R (.ok (.ret .none)) { s with heap := h', toks := tk }) :
  codeAny (model PySem.Challenge.rw_nq0177_01.row.prog w) A (.call (.ref 653) ⟨[.ref x, .str text tt], []⟩) R s := by
  obtain ⟨⟨A₀, B⟩, X₀, T, hA, hf, hk, hroom, hh⟩ := C
  have hr1 : ∀ p ∈ news, p.1 ≠ dx := fun p hp => Nat.ne_of_lt (hl p hp)
  walk_at "my enter"
  k_steps
  rename_i N' _ _
  refine h _ _ _ _ (pk 0 [(0, _), (1, _), (2, _), (3, _), (4, _), (5, _), (6, _), (7, _), (8, _), (9, _), (10, _), (11, _), (12, _), (13, _), (14, _), (15, _), (16, _), (17, _), (18, _), (100, _), (101, _), (102, _)]) (pk 0 [(0, _), (1, _), (2, _), (3, _), (4, _), (5, _), (6, _), (7, _), (8, _), (9, _), (10, _), (11, _), (12, _), (13, _), (14, _), (15, _), (16, _), (17, _), (18, _), (100, _), (101, _), (102, _)]) (pk 0 [(3, _), (4, _), (5, _), (6, _), (8, _), (9, _), (10, _), (14, _), (18, _), (100, _), (101, _)]) _ _ _ _ _ _ (by assumption) (news_order N') ?_
  omega
end
section
variable {w : World} {A : Around} {s : Shared} {base h₀ : Heap} {outer : List Env} {L : Addr} {m : Str → Option Value} {env : Env} {mg mb : Str → Option Value} {mean : ExcName → Option Value} {R : Result → Shared → Prop} {loose : List Str}
  {news : List (Addr × Obj)} {text : Str} {tt : Tok}
theorem lex_spec (C : Amb w A base h₀ outer env L mg mb mean loose 14) (F : Fr h₀ L s.heap m) (N : News h₀ L s.heap news)
  (h : ∀ x dx y dy pb fs kh kt vt t0 t1 t2 t3 h' tk, Fr h₀ L h' m → News h₀ L h' (LG kh kt vt y dy x dx pb fs (Str.ofString "#") (Str.ofString " \t\r\n") (Str.ofString "'\"") false text ((fs, dqObj 0 []) :: news) 0 0 (.str (Str.ofString " ") t0) 1 (Str.ofString "") t1 t2 t3 []) →
    (@LT.lt Nat _ dx x ∧ @LT.lt Nat _ x dy ∧ @LT.lt Nat _ dy y ∧ @LT.lt Nat _ y pb ∧ @LT.lt Nat _ pb fs) → (∀ p ∈ news, p.1 < dx) → R (.ok (.ret (.ref x))) { s with heap := h', toks := tk }) :
  codeAny (model PySem.Challenge.rw_nq0177_01.row.prog w) A (.call (.ref 729) ⟨[.str text tt], []⟩) R s := by
  obtain ⟨⟨A₀, B⟩, X₀, T, hA, hf, hk, hroom, hh⟩ := C
  refine' make_K (fI := 653) F N (X₀.keeps F.keep) ?k1 ?k2 ?k3 ?_
  case k1 => k_is
  case k2 => k_is
  case k3 => k_is
  intro x dx h' F2 N2 l1 l2
  refine linit_spec (env := env) (outer := outer) (base := base) (loose := loose) (mean := mean) (mg := mg) (mb := mb) (h₀ := h₀) (L := L) (m := m) ⟨⟨A₀, B⟩, X₀, T, hA, hf, hk, by walk_at "my room", hh⟩ F2 N2 l1 l2 ?_
  intro y dy pb fs kh kt vt t0 t1 t2 t3 h3 tk3 F3 N3 o
  exact ⟨rfl, h _ _ _ _ _ _ _ _ _ _ _ _ _ _ _ F3 N3 ⟨l2, o⟩ l1⟩
end
/-- one mark taken off ahead, one behind -/
noncomputable def stripA (l : List Nat) : List Nat := if l.head? = some 34 then l.tail else l
noncomputable def stripB (l : List Nat) : List Nat := if l.getLast? = some 34 then l.dropLast else l
noncomputable def strip (l : List Nat) : List Nat := stripB (stripA l)
theorem quo : Str.ofString "\"" = mkS [34] := by decide +kernel
theorem starts_quo (l : List Nat) : Txt.startswith (mkS l) (Str.ofString "\"") = decide (l.head? = some 34) := by
  rw [quo, Txt.startswith, StrLaws.subAt_eq, mkS_cps, mkS_cps, mkS_length, mkS_length]
  cases l with
  | nil => simp
  | cons a r => simp; rfl
theorem ends_quo (l : List Nat) : Txt.endswith (mkS l) (Str.ofString "\"") = decide (l.getLast? = some 34) := by
  rw [quo, Txt.endswith, StrLaws.subAt_eq, mkS_cps, mkS_cps, mkS_length, mkS_length]
  rcases List.eq_nil_or_concat l with rfl | ⟨r, a, rfl⟩
  · simp; try rfl
  · simp; try rfl
theorem slice_tail {l : List Nat} (h : l ≠ []) : PySem.Txt.slice (mkS l) (some 1) none = mkS l.tail := by
  have hl : 1 ≤ l.length := List.length_pos_iff.mpr h
  refine (StrLaws.sliceText_from (x := mkS l) (i := 1) ⟨by omega, by rw [mkS_cps]; omega⟩).trans ?_
  rw [mkS_cps]
  cases l with
  | nil => exact absurd rfl h
  | cons a r => simp [mkS]
theorem slice_init {l : List Nat} (h : l ≠ []) : PySem.Txt.slice (mkS l) none (some (-1)) = mkS l.dropLast := by
  have hl : 1 ≤ l.length := List.length_pos_iff.mpr h
  refine (StrLaws.sliceText_to_neg (x := mkS l) (j := -1) (by omega) (by rw [mkS_length]; omega)).trans ?_
  rw [mkS_cps, mkS_length]
  simp [mkS, List.dropLast_eq_take]
  congr 1; omega
theorem head_ne {l : List Nat} (h : l.head? = some 34) : l ≠ [] := by rintro rfl; cases h
theorem last_ne {l : List Nat} (h : l.getLast? = some 34) : l ≠ [] := by rintro rfl; cases h
theorem strip_len (l : List Nat) : (strip l).length ≤ l.length := by
  unfold strip stripB stripA
  split <;> split <;> simp <;> omega
section
variable {l : List Nat}
theorem strip_tt (a : Txt.startswith (mkS l) (Str.ofString "\"") = true) (b : Txt.endswith (Txt.slice (mkS l) (some 1) none) (Str.ofString "\"") = true) : Txt.slice (Txt.slice (mkS l) (some 1) none) none (some (-1)) = mkS (strip l) := by
  rw [starts_quo, decide_eq_true_eq] at a
  rw [slice_tail (head_ne a)] at b ⊢
  rw [ends_quo, decide_eq_true_eq] at b
  rw [slice_init (last_ne b), strip, stripB, stripA, if_pos a, if_pos b]
theorem strip_tf (a : Txt.startswith (mkS l) (Str.ofString "\"") = true) (b : Txt.endswith (Txt.slice (mkS l) (some 1) none) (Str.ofString "\"") = false) : Txt.slice (mkS l) (some 1) none = mkS (strip l) := by
  rw [starts_quo, decide_eq_true_eq] at a
  rw [slice_tail (head_ne a)] at b ⊢
  rw [ends_quo, decide_eq_false_iff_not] at b
  rw [strip, stripB, stripA, if_pos a, if_neg b]
theorem strip_ft (a : Txt.startswith (mkS l) (Str.ofString "\"") = false) (b : Txt.endswith (mkS l) (Str.ofString "\"") = true) : Txt.slice (mkS l) none (some (-1)) = mkS (strip l) := by
  rw [starts_quo, decide_eq_false_iff_not] at a
  rw [ends_quo, decide_eq_true_eq] at b
  rw [slice_init (last_ne b), strip, stripB, stripA, if_neg a, if_pos b]
theorem strip_ff (a : Txt.startswith (mkS l) (Str.ofString "\"") = false) (b : Txt.endswith (mkS l) (Str.ofString "\"") = false) : mkS l = mkS (strip l) := by
  rw [starts_quo, decide_eq_false_iff_not] at a
  rw [ends_quo, decide_eq_false_iff_not] at b
  rw [strip, stripB, stripA, if_neg a, if_neg b]
end
section
variable {w : World} {A : Around} {s : Shared} {base h₀ : Heap} {outer : List Env} {L : Addr} {m : Str → Option Value} {env : Env} {mg mb : Str → Option Value} {mean : ExcName → Option Value} {R : Result → Shared → Prop} {loose : List Str}
  {news : List (Addr × Obj)} {l : List Nat} {tt : Tok}
theorem strip_spec (C : Amb w A base h₀ outer env L mg mb mean loose 2) (F : Fr h₀ L s.heap m) (N : News h₀ L s.heap news) (hl : (mkS l).length ≤ 4096)
  (h : ∀ h' tk t, Fr h₀ L h' m → News h₀ L h' news → R (.ok (.ret (.str (mkS (strip l)) t))) { s with heap := h', toks := tk }) :
  codeAny (model PySem.Challenge.rw_nq0177_01.row.prog w) A (.call (.ref 46) ⟨[.str (mkS l) tt], []⟩) R s := by
  obtain ⟨⟨A₀, B⟩, X₀, T, hA, hf, hk, hroom, hh⟩ := C
  have y1 : ∀ z h' tk t, z = mkS (strip l) → Fr h₀ L h' m → News h₀ L h' news → R (.ok (.ret (.str z t))) { s with heap := h', toks := tk } := fun z h' tk t e F N => e ▸ h h' tk t F N
  clear h
  walk_at "my enter"
  k_steps
  all_goals refine y1 _ _ _ _ ?_ (by with_reducible assumption) (by with_reducible assumption)
  all_goals first
    | with_reducible exact strip_tt (by with_reducible assumption) (by with_reducible assumption)
    | with_reducible exact strip_tf (by with_reducible assumption) (by with_reducible assumption)
    | with_reducible exact strip_ft (by with_reducible assumption) (by with_reducible assumption)
    | with_reducible exact strip_ff (by with_reducible assumption) (by with_reducible assumption)
end
section
variable {prog : Program} {w : World} {A : Around} {E : Value → Shared → Prop} {s : Shared} {env : Env}
noncomputable def OwnStep (Q : Flow → Shared → Prop) (I : Nat → Shared → Prop) (n : Nat) (f : Flow) (s₃ : Shared) : Prop := match f with
      | .next | .cont => ∃ k, k < n ∧ I k s₃
      | .brk => Q .next s₃
      | .ret v => Q (.ret v) s₃
noncomputable def OwnTurn (prog : Program) (w : World) (A : Around) (E : Value → Shared → Prop) (env : Env) (v : Str) (body : List Stmt) (Q : Flow → Shared → Prop) (I : Nat → Shared → Prop) (n : Nat) (r : Option Value) (s₁ : Shared) : Prop := match r with
  | none => Q .next s₁
  | some y => wpAny (model prog w) A (storeName env v y) (fun _ s₂ => wpAny (model prog w) A (execs body env) (OwnStep Q I n) E s₂) E s₁
noncomputable def IterQ (X : Addr) (I : Nat → Shared → Prop) (it : Value) (s₂ : Shared) : Prop := it = .ref X ∧ ∃ n, I n s₂
theorem For_own {v : Str} {px pos : Pos} {iter : Expr} {body : List Stmt} {Q : Flow → Shared → Prop} (X : Addr) (I : Nat → Shared → Prop)
    (h : wpAny (model prog w) A (eval iter env) (fun xv s₁ => wpAny (model prog w) A (pyIter xv) (IterQ X I) E s₁) E s)
    (turn : ∀ n s, I n s → wpAny (model prog w) A (pyNext (.ref X)) (OwnTurn prog w A E env v body Q I n) E s)
    (hs : ∀ x, foldedSetIterable iter env x = pure x := by intro _; rfl) (hE : PassesOwn (model prog w) A env E := by passes_own) :
    wpAny (model prog w) A (exec (.For (.Name v px) iter body [] pos) env) Q E s := by
  refine wpAny_For (wpAny_mono h (fun xv s₁ h₁ => wpAny_mono h₁ (fun it s₂ h₂ => ?_) fun _ _ z => z) fun _ _ z => z) hs
  obtain ⟨rfl, n, h₂⟩ := h₂
  refine codeAny_forLoop (R := fun r s' => match r with | .ok f => Q f s' | .error e => cameBackBy (model prog w) A env E e s') I ?_ n h₂
  intro k s' hk
  refine wpAny_passesOwn hE (wpAny_mono (turn k s' hk) (fun r s₁ hr => ?_) fun _ _ z => z)
  cases r with
  | none => exact wpAny_execs_nil hr
  | some y =>
    refine wpAny_passesOwn hE (wpAny_assign_Name (wpAny_mono hr (fun _ s₂ h₂ => ?_) fun _ _ z => z))
    refine wpAny_passesOwn hE (wpAny_mono h₂ (fun f s₃ h₃ => ?_) fun _ _ z => z)
    cases f with
    | next => exact h₃
    | cont => exact h₃
    | brk => exact h₃
    | ret _ => exact h₃
end
section
variable {M : Model} {A A₀ : Around} {E : Value → Shared → Prop} {s : Shared} {base g G : Heap} {outer : List Env} {L a e t : Addr} {m : Str → Option Value} {name : Str} {scope : Scope} {cd : Value}
  {vs : List Value} {news : List (Addr × Obj)} {KF : Frag} {p : Program} {loose : List Str} {mean : ExcName → Option Value} {mg mb : Str → Option Value} {X : String}
theorem stop_S {Q : Option Value → Shared → Prop} (R : RaisedS base G (envOf name scope L a cd :: outer) e (.type X) t vs news s.heap) (F : Fr g L G m) (K : Below A₀ base outer g) (hsm : G.UpToSlots s.heap) (XB : KF.In base) (TB : Top p loose mean mg mb base)
    (D : KtsDicts (outer.filterMap (·.frame)) g) (hsub : isSubtype (.type X) (.type "StopIteration") = pure true)
    (k : ∀ g', KtsTurn (outer.filterMap (·.frame)) g g' → Fr g' L s.heap m → News g' L s.heap news → Below A₀ base outer g' → KF.In g' → Top p loose mean mg mb g' → KtsDicts (outer.filterMap (·.frame)) g' → Q none s) : OwitStop M A Q E (.ref e) s := by
  obtain ⟨⟨B, hB, hBG, hl, hfl, hnew⟩, htup⟩ := R
  have hL : B.get? L = none := by
    obtain ⟨_, ⟨L', _, hf, hn', _⟩, _⟩ := hfl.2.2.1
    obtain rfl : L = L' := Option.some.inj hf
    exact hn'
  have hf' := flyingW_base hB hfl
  obtain ⟨ob, hob, hobc⟩ := hf'.there
  have hT : s.TypeIs (.ref e) X := (show ∃ o, s.heap.get? e = some o ∧ o.cls = .type X from ⟨ob, hob, hobc⟩)
  unfold OwitStop
  refine wpAny_isInstance hT hsub ?_
  show (if true = true then Q none s else E (.ref e) s)
  rw [if_pos rfl]
  obtain ⟨g₆, T₆, F₆, K₆⟩ := kts_ground K F hBG hfl.1 hsm
  refine k g₆ T₆ F₆ (fun q hq => ⟨hfl.1 _ _ (hl q hq).1, (fun z => by have := (hl q hq).1; rw [z, hL] at this; cases this), T₆.none_ _ (kts_none F.keep (hl q hq).2.1)⟩) K₆ (XB.keeps K₆.stays) (TB.keeps K₆.stays) (D.turn T₆)
end
section
variable {M : Model} {A A₀ : Around} {E : Value → Shared → Prop} {s : Shared} {base G : Heap} {outer : List Env} {L a e t : Addr} {name : Str} {scope : Scope} {cd : Value} {vs : List Value} {news : List (Addr × Obj)} {X : String}
theorem miss_S {Q : Option Value → Shared → Prop} (R : RaisedS base G (envOf name scope L a cd :: outer) e (.type X) t vs news s.heap) (hsub : isSubtype (.type X) (.type "StopIteration") = pure false) (k : E (.ref e) s) : OwitStop M A Q E (.ref e) s := by
  obtain ⟨⟨B, hB, hBG, hl, hfl, hnew⟩, htup⟩ := R
  have hf' := flyingW_base hB hfl
  obtain ⟨ob, hob, hobc⟩ := hf'.there
  have hT : s.TypeIs (.ref e) X := (show ∃ o, s.heap.get? e = some o ∧ o.cls = .type X from ⟨ob, hob, hobc⟩)
  unfold OwitStop
  refine wpAny_isInstance hT hsub ?_
  show (if false = true then Q none s else E (.ref e) s)
  rw [if_neg (by decide)]
  exact k
end
noncomputable def errD : Dat := .list [.str (Str.ofString "No closing quotation")]
noncomputable def rowF (P : Pm) : Nat → LX → List Dat
  | 0, _ => []
  | n + 1, lx => match gtok P lx with
    | .err => [errD]
    | .ok (c :: res) lx' => .str (mkS (strip (c :: res))) :: rowF P n lx'
    | .ok [] lx' => match gtok P lx' with
      | .ok res _ => [.str (mkS (strip res))]
      | .err => [errD]
noncomputable def LX.meas (l : LX) : Nat := l.rem.length + (match l.push with | none => 0 | some _ => 1)
/-- what a token leaves -/
theorem rt_left (P : Pm) : ∀ (n : Nat) (rem : List Nat) (ln : Int) (st : LS) (tok : List Nat) (rem' : List Nat) (ln' : Int) (st' : LS) (res : List Nat) (push : Option Nat), rem.length ≤ n → okSt P st rem tok → rt P rem ln st tok = .ok rem' ln' st' res push →
    (st' = .blank ∨ (st' = .dead ∧ rem' = [])) ∧ (rem'.length + (match push with | none => 0 | some _ => 1) ≤ rem.length) ∧ ((st = .blank ∧ res ≠ []) → rem'.length + (match push with | none => 0 | some _ => 1) < rem.length) ∧ (st = .dead → res = [] ∧ st' = .dead ∧ rem' = [] ∧ push = none) := by
  intro n
  induction n with
  | zero =>
    intro rem ln st tok rem' ln' st' res push hn ho h
    obtain rfl : rem = [] := List.length_eq_zero_iff.mp (Nat.le_zero.mp hn)
    cases st with
    | dead => rw [rt_dead_nil] at h; cases h; simp
    | blank => rw [rt_blank_nil] at h; cases h; simp [okSt] at ho; simp [ho]
    | word => rw [rt_word_nil] at h; cases h; simp
    | quot q => rw [rt_quot_nil] at h; cases h
  | succ n ih =>
    intro rem ln st tok rem' ln' st' res push hn ho h
    cases rem with
    | nil =>
      cases st with
      | dead => rw [rt_dead_nil] at h; cases h; simp
      | blank => rw [rt_blank_nil] at h; cases h; simp [okSt] at ho; simp [ho]
      | word => rw [rt_word_nil] at h; cases h; simp
      | quot q => rw [rt_quot_nil] at h; cases h
    | cons c r =>
      have hr : r.length ≤ n := by simp at hn; omega
      have hd : (dropLine r).length ≤ n := Nat.le_trans (dropLine_le r) hr
      have hdl := dropLine_le r
      cases st with
      | dead => exact absurd ho.1 (by simp)
      | blank =>
        rw [rt_blank] at h
        split at h
        · obtain ⟨a, b, c', d⟩ := ih _ _ _ _ _ _ _ _ _ hr ho h
          refine ⟨a, ?_, fun z => ?_, fun z => (nomatch z)⟩
          · simp only [List.length_cons]; omega
          · have := c' ⟨rfl, z.2⟩; simp only [List.length_cons]; omega
        split at h
        · obtain ⟨a, b, c', d⟩ := ih _ _ _ _ _ _ _ _ _ hd ho h
          refine ⟨a, ?_, fun z => ?_, fun z => (nomatch z)⟩
          · simp only [List.length_cons]; omega
          · have := c' ⟨rfl, z.2⟩; simp only [List.length_cons]; omega
        split at h
        · obtain ⟨a, b, c', d⟩ := ih _ _ _ _ _ _ _ _ _ hr (by simp [okSt]) h
          refine ⟨a, ?_, fun z => ?_, fun z => (nomatch z)⟩ <;> (simp only [List.length_cons]; omega)
        split at h
        · rename_i hq
          obtain ⟨a, b, c', d⟩ := ih _ _ (.quot c) [c] _ _ _ _ _ hr (show okSt P (.quot c) r [c] from ⟨hq, by simp⟩) h
          refine ⟨a, ?_, fun z => ?_, fun z => (nomatch z)⟩ <;> (simp only [List.length_cons]; omega)
        split at h
        · obtain ⟨a, b, c', d⟩ := ih _ _ _ _ _ _ _ _ _ hr (by simp [okSt]) h
          refine ⟨a, ?_, fun z => ?_, fun z => (nomatch z)⟩ <;> (simp only [List.length_cons]; omega)
        · cases h; simp
      | quot q =>
        rw [rt_quot] at h
        split at h
        · cases h; simp
        · obtain ⟨a, b, c', d⟩ := ih _ _ (.quot q) (tok ++ [c]) _ _ _ _ _ hr (show okSt P (.quot q) r (tok ++ [c]) from ⟨ho.1, by simp⟩) h
          refine ⟨a, ?_, fun z => (nomatch z.1), fun z => (nomatch z)⟩
          simp only [List.length_cons]; omega
      | word =>
        rw [rt_word] at h
        split at h
        · cases h; simp
        split at h
        · obtain ⟨a, b, c', d⟩ := ih _ _ _ _ _ _ _ _ _ hd ho h
          refine ⟨a, ?_, fun z => (nomatch z.1), fun z => (nomatch z)⟩
          simp only [List.length_cons]; omega
        split at h
        · obtain ⟨a, b, c', d⟩ := ih _ _ _ _ _ _ _ _ _ hr (by simp [okSt]) h
          refine ⟨a, ?_, fun z => (nomatch z.1), fun z => (nomatch z)⟩
          simp only [List.length_cons]; omega
        · cases h; simp
theorem rt_len (P : Pm) : ∀ (n : Nat) (rem : List Nat) (ln : Int) (st : LS) (tok : List Nat) (rem' : List Nat) (ln' : Int) (st' : LS) (res : List Nat) (push : Option Nat), rem.length ≤ n → rt P rem ln st tok = .ok rem' ln' st' res push →
    res.length ≤ rem.length + tok.length := by
  intro n
  induction n with
  | zero =>
    intro rem ln st tok rem' ln' st' res push hn h
    obtain rfl : rem = [] := List.length_eq_zero_iff.mp (Nat.le_zero.mp hn)
    cases st with
    | dead => rw [rt_dead_nil] at h; cases h; simp
    | blank => rw [rt_blank_nil] at h; cases h; simp
    | word => rw [rt_word_nil] at h; cases h; simp
    | quot q => rw [rt_quot_nil] at h; cases h
  | succ n ih =>
    intro rem ln st tok rem' ln' st' res push hn h
    cases rem with
    | nil =>
      cases st with
      | dead => rw [rt_dead_nil] at h; cases h; simp
      | blank => rw [rt_blank_nil] at h; cases h; simp
      | word => rw [rt_word_nil] at h; cases h; simp
      | quot q => rw [rt_quot_nil] at h; cases h
    | cons c r =>
      have hr : r.length ≤ n := by simp at hn; omega
      have hd : (dropLine r).length ≤ n := Nat.le_trans (dropLine_le r) hr
      have hdl := dropLine_le r
      cases st with
      | dead => rw [rt] at h; cases h
      | blank =>
        rw [rt_blank] at h
        repeat' split at h
        · have := ih _ _ _ _ _ _ _ _ _ hr h; simp only [List.length_cons]; omega
        · have := ih _ _ _ _ _ _ _ _ _ hd h; simp only [List.length_cons]; omega
        · have := ih _ _ _ _ _ _ _ _ _ hr h; simp only [List.length_cons, List.length_nil] at this ⊢; omega
        · have := ih _ _ _ _ _ _ _ _ _ hr h; simp only [List.length_cons, List.length_nil] at this ⊢; omega
        · have := ih _ _ _ _ _ _ _ _ _ hr h; simp only [List.length_cons, List.length_nil] at this ⊢; omega
        · cases h; simp; omega
      | quot q =>
        rw [rt_quot] at h
        repeat' split at h
        · cases h; simp; omega
        · have := ih _ _ _ _ _ _ _ _ _ hr h; simp only [List.length_cons, List.length_append, List.length_nil] at this ⊢; omega
      | word =>
        rw [rt_word] at h
        repeat' split at h
        · cases h; simp
        · have := ih _ _ _ _ _ _ _ _ _ hd h; simp only [List.length_cons]; omega
        · have := ih _ _ _ _ _ _ _ _ _ hr h; simp only [List.length_cons, List.length_append, List.length_nil] at this ⊢; omega
        · cases h; simp
theorem gtok_len {P : Pm} {l l' : LX} {res : List Nat} (h : gtok P l = .ok res l') : res.length ≤ l.rem.length + 1 := by
  obtain ⟨rem, ln, st, push⟩ := l
  cases push with
  | some c => dsimp only [gtok] at h; cases h; simp
  | none =>
    dsimp only [gtok] at h
    split at h
    · rename_i rem' ln' st' res' push' hr
      cases h
      have := rt_len P rem.length rem ln st [] _ _ _ _ _ (Nat.le_refl _) hr
      simp at this ⊢; omega
    · cases h
theorem gtok_left {P : Pm} {l l' : LX} {res : List Nat} (ho : l.ok) (h : gtok P l = .ok res l') : l'.ok ∧ (res ≠ [] → l'.meas < l.meas) := by
  obtain ⟨rem, ln, st, push⟩ := l
  cases push with
  | some c => dsimp only [gtok] at h; cases h; exact ⟨ho, fun _ => by simp [LX.meas]⟩
  | none =>
    dsimp only [gtok] at h
    split at h
    · rename_i rem' ln' st' res' push' hr
      cases h
      have hok : okSt P st rem [] := by
        rcases ho with rfl | ⟨rfl, e⟩
        · rfl
        · exact ⟨e, rfl⟩
      obtain ⟨a, b, c, d⟩ := rt_left P rem.length rem ln st [] _ _ _ _ _ (Nat.le_refl _) hok hr
      refine ⟨a, fun hne => ?_⟩
      rcases ho with e | ⟨e, _⟩
      · have := c ⟨e, hne⟩
        simpa [LX.meas] using this
      · exact absurd (d e).1 hne
    · cases h
section
open PySem.Spec
section
variable {prog : Program} {w : World} {A₀ A : Around} {s : Shared} {base h₀ : Heap} {env : Env} {L : Addr} {m : Str → Option Value} {news : List (Addr × Obj)} {K : Frag} {p : Program} {loose : List Str} {mean : ExcName → Option Value} {mg mb : Str → Option Value}
    {R : Result → Shared → Prop} {name qual : Str} {params : Arguments} {body : List Stmt} {scope : Scope} {dV kV doc pm cdv ct oc : Value} {an od : Option Addr} {osl : Array (Option Value)} {f : Addr} {args : Args} {binds : List (Str × Value)}
theorem code_defS0E (B : Below A₀ base [] h₀) (F : Fr h₀ L s.heap m) (X₀ : K.In h₀) (N : News h₀ L s.heap news) (T : Top p loose mean mg mb h₀) (hA : A.frames = some [env]) (hf : env.frame = some L) (hke : env.scope.kind = .function)
    (ho : K.lookup f = some ⟨oc, od, .func (fnOf name qual params body scope dV kV doc pm an cdv ct), osl⟩) (hcd : codeIn K cdv qual = true) (hroom : A.depth < recursionLimit)
    (hbind : BindsTo s (fnOf name qual params body scope dV kV doc pm an cdv ct) args binds) (hloc : ∀ y ∈ binds, scope.names.lookup y.1 = some .local)
    (h : ∀ g L' h₁, Fr h₀ L g m → Fr g L' h₁ (fun y => binds.reverse.lookup y) → News g L' h₁ news → Below A base [env] g → K.In g → Top p loose mean mg mb g → KtsDicts ([env].filterMap (·.frame)) g →
      wpAny (model prog w) (A.deeper (envOf qual scope L' f cdv)) (execs body (envOf qual scope L' f cdv))
        (fun fl s' => LeaveS0 ([env].filterMap (·.frame)) h₀ L m g R (match fl with | .ret v => v | _ => .none) s')
        (fun e s' => wpAny (model prog w) (A.deeper (envOf qual scope L' f cdv)) (leaving (envOf qual scope L' f cdv) e) (fun _ s'' => R (.error e) s'') (fun e' s'' => R (.error e') s'') s')
        { s with heap := h₁, toks := s.toks + binds.length })
    (hco : scope.isCoroutine = false) (hgen : scope.isGenerator = false) (hk : scope.kind = .function)
    (hcell : ∀ x ∈ scope.names, x.2 ≠ .cell) : codeAny (model prog w) A (.call (.ref f) args) R s := by
  have X := X₀.keeps F.keep
  refine codeAny_call_def (fd := fnOf name qual params body scope dV kV doc pm an cdv ct) (body := body) (binds := binds) hroom (X _ _ ho) rfl (T.nolimit.keeps F.keep) (codeRec_of X hcd) rfl hbind hcell hloc (fun h₁ hns hk₁ => ?_) hco hgen hk
  obtain ⟨FG, BG, st, _⟩ := groundX (R := R) B F N hA hf hke
  obtain ⟨oL, es, ep, hL, hLd, hLk, hLf⟩ := F.ns
  have nL : L ∉ news.map (·.1) := fun q => by
    obtain ⟨p, hp, e⟩ := List.mem_map.mp q
    exact (N p hp).2.1 e
  have hLg := hideAll_get (news.map (·.1)) hL nL
  have hmem : ∀ b, b ∈ [env].filterMap (·.frame) → b = L := fun b hb => by
    simp [hf] at hb; exact hb
  refine wpAny_mono (h _ s.heap.objs.size h₁ FG ⟨hns, fun b o e => hk₁ b o (of_hideAll _ e), Nat.le_of_eq (hideAll_size _ _)⟩
    (fun p hp => ⟨hk₁ _ _ (N p hp).1, Nat.ne_of_lt (Heap.lt_size (N p hp).1), hideAll_none _ (List.mem_map_of_mem hp)⟩) BG (X₀.keeps st) (T.keeps st) (fun b hb => by
      rw [hmem b hb]; exact ⟨oL, es, ep, hLg, hLd⟩)) (fun fl s' hl => ?_) fun _ _ y => y
  obtain ⟨g', L', m', news', T', F', N', k⟩ := hl
  have nL₀ : h₀.get? L = none := kts_self F
  obtain ⟨sl, hs⟩ := T'.up hLg
  refine k ⟨⟨_, es, ep, F'.keep _ _ hs, hLd, hLk, hLf⟩, fun b o e => F'.keep b o (T'.other b o (st b o e) (fun q => by
    rw [hmem b q, nL₀] at e
    cases e)), F.above⟩ fun p hp => ⟨(N' p hp).1, fun q => ?_, ?_⟩
  · have := (N' p hp).2.2; rw [q, hs] at this; cases this
  · cases q : h₀.get? p.1 with
    | none => rfl
    | some o =>
      obtain ⟨sl', hs'⟩ := T'.up (st _ _ q)
      have := (N' p hp).2.2
      rw [hs'] at this
      cases this
end
end
local macro_rules | `(tactic| walk_at "my enterS0") => `(tactic| (refine' code_defS0E ?k1 ?k2 ?k3 ?k4 ?k5 ?kA ?kF ?kK ?k6 ?k7 ?k8 ?k9 ?kB ?_ ?c2 ?c3 ?c4 ?c5; (case kA => walk_at "my frames"); (case k2 => k_asm); (case k1 => k_asm); (case k3 => k_asm); (case k4 => k_asm); (case k5 => k_asm); (case k6 => k_is); (case k7 => k_is); (case k8 => walk_at "my room"); (case k9 => first | exact BindsTo.of_eq rfl | exact binds_K (by k_in) rfl (by k_is) rfl rfl rfl); (case kB => exact locs rfl); (case kF => first | assumption | exact rfl); (case kK => first | assumption | exact rfl); (case c2 => exact rfl); (case c3 => exact rfl); (case c4 => exact rfl); (case c5 => decide); k_whole))
local macro_rules | `(tactic| walk_at "call ref") => `(tactic| (k_here; (with_reducible show wpAny _ _ (call (Value.ref 46) _) _ _ _); k_dflt (refine wpAny_call ?_; refine' strip_spec ?C ?F ?N ?l ?_; (case F => k_asm); (case N => k_asm); (case C => walk_at "my amb"); (case l => with_reducible assumption); intro h' tk' t' F' N'; (try dsimp only); (try k_sweep))))
theorem allLt_elim {d : Nat} : ∀ {l : List (Addr × Obj)}, AllLt d l → ∀ p ∈ l, @LT.lt Nat _ p.1 d
  | [], _, _, hp => nomatch hp
  | _ :: _, h, p, hp => by
    rcases List.mem_cons.mp hp with rfl | hp
    · exact h.1
    · exact allLt_elim h.2 p hp
noncomputable abbrev scRow : Scope := { kind := ScopeKind.function, names := [(Str.ofString "text", NameKind.local), (Str.ofString "marks", NameKind.local), (Str.ofString "lexer", NameKind.local), (Str.ofString "row", NameKind.local), (Str.ofString "token", NameKind.local), (Str.ofString "error", NameKind.local), (Str.ofString "shlex", NameKind.globalImplicit), (Str.ofString "strip_quotes", NameKind.globalImplicit), (Str.ofString "ValueError", NameKind.globalImplicit), (Str.ofString "str", NameKind.globalImplicit)], isGenerator := false, isCoroutine := false }
noncomputable abbrev rm (x r : Addr) (vx vm : Value) (tokv : Option Value) : Str → Option Value := fun y => if y = Str.ofString "token" then tokv else if y = Str.ofString "row" then some (.ref r) else if y = Str.ofString "lexer" then some (.ref x) else if y = Str.ofString "marks" then some vm else if y = Str.ofString "text" then some vx else none
theorem rm2_eq (x r : Addr) (vx vm : Value) (tokv : Option Value) (v : Value) (y : Str) : (if y = Str.ofString "token" then some v else rm x r vx vm tokv y) = rm x r vx vm (some v) y := by
  simp only [rm]; split <;> rfl
theorem rm_init (x r : Addr) (vx vm : Value) (y : Str) : (if y = Str.ofString "row" then some (Value.ref r) else if y = Str.ofString "lexer" then some (.ref x) else List.lookup y [(Str.ofString "marks", vm), (Str.ofString "text", vx)]) = rm x r vx vm none y := by
  simp only [rm]
  by_cases h1 : y = Str.ofString "token"
  · subst h1; rfl
  rw [if_neg h1]
  by_cases h2 : y = Str.ofString "row"
  · rw [if_pos h2, if_pos h2]
  rw [if_neg h2, if_neg h2]
  by_cases h3 : y = Str.ofString "lexer"
  · rw [if_pos h3, if_pos h3]
  rw [if_neg h3, if_neg h3]
  by_cases h4 : y = Str.ofString "marks"
  · subst h4; rfl
  rw [if_neg h4, List.lookup_cons, beq_false_of_ne h4]
  by_cases h5 : y = Str.ofString "text"
  · subst h5; rfl
  · rw [if_neg h5]; show List.lookup y _ = none; rw [List.lookup_cons, beq_false_of_ne h5]; rfl
noncomputable def pkd (f : Nat → Tok) (a4 a6 a8 : Tok) : Nat → Tok := fun n => if n = 4 then a4 else if n = 6 then a6 else if n = 8 then a8 else f n
theorem news_mv {h₀ h : Heap} {L : Addr} {news : List (Addr × Obj)} {r y d x e p f : Addr × Obj} (N : News h₀ L h (r :: y :: d :: x :: e :: p :: f :: news)) : News h₀ L h (y :: d :: x :: e :: p :: f :: r :: news) := fun q hq => N q (by
  simp only [List.mem_cons] at hq ⊢
  rcases hq with h | h | h | h | h | h | h | h <;> simp [h])
noncomputable def RowI (s : Shared) (g : Heap) (L' x r : Addr) (vx vm : Value) (P : Pm) (buf : Str) (whole : List Dat) (G : Nat → Int → Value → Int → Tok → Tok → Tok → List Value → List Value → Nat → List (Addr × Obj)) (n : Nat) (s' : Shared) : Prop :=
  ∃ h tk pre lx kq t0 t1 t2 t3 tp vs nr done tokv, s' = { s with heap := h, toks := tk } ∧ buf = mkS (pre ++ lx.rem) ∧ LX.ok lx ∧ lx.meas < n ∧ DatAll [] vs done ∧ done ++ rowF P n lx = whole ∧ vs.length + lx.meas ≤ 4096 ∧ Fr g L' h (rm x r vx vm tokv) ∧
    News g L' h (G pre.length kq (lx.st.val t0) lx.ln t1 t2 t3 (pbsOf lx.push tp) vs nr)
noncomputable def NextQ (Q' : Shared → Prop) (f : Flow) (s₁ : Shared) : Prop := f = .next ∧ Q' s₁
section
variable {prog : Program} {w : World} {A : Around} {E : Value → Shared → Prop} {s : Shared} {env : Env}
theorem Try_by {body : List Stmt} {h₀ : ExceptHandler} {hs : List ExceptHandler} {pos : Pos} {Q : Flow → Shared → Prop} (Pre : Value → Shared → Prop) (Q' : Shared → Prop)
    (hb : ∀ E', PassesOwn (model prog w) A env E' → (∀ e s₁, Pre e s₁ → E' e s₁) → wpAny (model prog w) A (execs body env) (NextQ Q') E' s)
    (hc : ∀ e s₁, Pre e s₁ → wpAny (model prog w) A (noteFrame e env) (fun _ s₂ => wpAny (model prog w) A (setFlight e none) (fun _ s₃ => wpAny (model prog w) A (handleBy e env (h₀ :: hs)) Q E s₃) E s₂) E s₁)
    (hq : ∀ s₁, Q' s₁ → Q .next s₁) :
    wpAny (model prog w) A (exec (.Try body (h₀ :: hs) [] [] pos) env) Q E s := by
  refine wpAny_Try_except ?_
  refine wpAny_mono (hb _ PassesOwn.looking hc) (fun f s₁ h => ?_) fun _ _ z => z
  obtain ⟨rfl, h⟩ := h
  exact wpAny_execs_nil (hq _ h)
end
section
variable {w : World} {A : Around} {s : Shared} {base h₀ : Heap} {L : Addr} {m : Str → Option Value} {env : Env} {mg mb : Str → Option Value} {mean : ExcName → Option Value} {R : Result → Shared → Prop} {loose : List Str}
  {news : List (Addr × Obj)} {l : List Nat} {marks : Str} {tt tm : Tok}
theorem row_spec (C : Amb w A base h₀ [] env L mg mb mean loose 20) (XB : (hd1.heap_1 w.params).In base) (TB : Top hdQ loose mean mg mb base) (F : Fr h₀ L s.heap m) (N : News h₀ L s.heap news) (hl : (mkS l).length ≤ 4000) (hU : A.units + 100 < cLine)
  (hq1 : hasC marks 97 = false) (hq2 : hasC marks 32 = false)
  (h : ∀ h' tk r nr vs extra, Fr h₀ L h' m → News h₀ L h' ((r, listOf vs.toArray nr) :: (extra ++ news)) → DatAll extra vs (rowF ⟨Str.ofString "", Str.ofString " \t", marks, true⟩ (l.length + 1) ⟨l, 1, .blank, none⟩) → R (.ok (.ret (.ref r))) { s with heap := h', toks := tk }) :
  codeAny (model PySem.Challenge.rw_nq0177_01.row.prog w) A (.call (.ref 747) ⟨[.str (mkS l) tt, .str marks tm], []⟩) R s := by
  obtain ⟨⟨A₀, B⟩, X₀, T, hA, hf, hk, hroom, hh⟩ := C
  walk_at "my enterS0"
  intro g L' h₁ FG F₁ N₁ B' X' T' D'
  dsimp only
  k_fold
  iterate 10 (first | walk1 | (dsimp only; walk1))
  refine wpAny_call ?_
  refine' lex_spec ?C ?F ?N ?_
  case F => k_asm
  case N => k_asm
  case C => walk_at "my amb"
  intro x dx y dy pb fs kh kt vt t0 t1 t2 t3 h2 tk2 F2 N2 o2 l2
  dsimp only
  have e1 : ∀ p ∈ news, p.1 ≠ dx := fun p hp => Nat.ne_of_lt (l2 p hp)
  clear F₁ N₁
  iterate 30 (first | walk1 | (dsimp only; walk1))
  rename_i r h7 l1 h8 F8 N8
  have F9 : Fr g L' h8 (rm x r (.str (mkS l) tt) (.str marks tm) none) := fr_congr F8 (rm_init x r _ _)
  obtain ⟨a4, a6, a8, N9⟩ : ∃ a4 a6 a8, News g L' h8 (LG kh kt (pkd vt a4 a6 a8) y dy x dx pb fs (Str.ofString "") (Str.ofString " \t") marks true (mkS l) ((fs, dqObj 0 []) :: (r, W.listOf #[] 0) :: news) 0 0 (.str (Str.ofString " ") t0) 1 (Str.ofString "") t1 t2 t3 []) := ⟨_, _, _, news_mv N8⟩
  have hlt : ∀ p ∈ news, @LT.lt Nat _ p.1 r := allLt_elim l1.2.2.2.2.2.2
  have e2 : ∀ p ∈ news, p.1 ≠ dy := fun p hp => Nat.ne_of_lt (Nat.lt_trans (l2 p hp) (Nat.lt_trans o2.1 o2.2.1))
  have e3 : ∀ p ∈ news, p.1 ≠ pb := fun p hp => Nat.ne_of_lt (Nat.lt_trans (l2 p hp) (Nat.lt_trans o2.1 (Nat.lt_trans o2.2.1 (Nat.lt_trans o2.2.2.1 o2.2.2.2.1))))
  have e4 : ∀ p ∈ news, p.1 ≠ r := fun p hp => Nat.ne_of_lt (hlt p hp)
  clear F8 N8
  have hl4 : (mkS l).length ≤ 4096 := by omega
  generalize hwh : rowF ⟨Str.ofString "", Str.ofString " \t", marks, true⟩ (l.length + 1) ⟨l, 1, .blank, none⟩ = whole at h
  let fsA : List Addr := List.filterMap (fun x => x.frame) [env]
  refine Try_by (fun ev s₁ => ∃ e t tm2 g1 G h5 tk5 nr vs done tokv, ev = .ref e ∧ s₁ = { s with heap := h5, toks := tk5 } ∧ KtsTurn fsA g g1 ∧ Fr g1 L' G (rm x r (.str (mkS l) tt) (.str marks tm) tokv) ∧ G.UpToSlots h5 ∧ Below A base [env] g1 ∧ KtsDicts fsA g1 ∧
      RaisedS base G (envOf (Str.ofString "_law_row") scRow L' 747 (Value.ref 746) :: [env]) e (.type "ValueError") t [.str (Str.ofString "No closing quotation") tm2] ((r, W.listOf vs.toArray nr) :: news) h5 ∧ DatAll [] vs done ∧ done ++ [errD] = whole ∧ vs.length ≤ 4096)
    (fun s₁ => ∃ g1 h5 tk5 mm nr vs extra, s₁ = { s with heap := h5, toks := tk5 } ∧ KtsTurn fsA g g1 ∧ Fr g1 L' h5 (rm x r (.str (mkS l) tt) (.str marks tm) mm) ∧ Below A base [env] g1 ∧ (hd1.heap_1 w.params).In g1 ∧ Top hdQ loose mean mg mb g1 ∧ News g1 L' h5 ((r, W.listOf vs.toArray nr) :: (extra ++ news)) ∧ DatAll extra vs whole) ?body ?caught ?after
  case body =>
    intro E' hE hPre
    walk1
    refine For_own x (RowI s g L' x r (.str (mkS l) tt) (.str marks tm) ⟨Str.ofString "", Str.ofString " \t", marks, true⟩ (mkS l) whole (fun p kq st ln ta tb td pbs vs nr => LG kh kt (pkd vt a4 a6 a8) y dy x dx pb fs (Str.ofString "") (Str.ofString " \t") marks true (mkS l) ((fs, dqObj 0 []) :: (r, W.listOf vs.toArray nr) :: news) kq p st ln (Str.ofString "") ta tb td pbs)) ?init ?turn (hE := hE)
    case init =>
      walk1
      refine' owit_iter ?F ?X ?I ?hs ?hf ?_
      case F => k_asm
      case X => k_asm
      case I => k_inst
      case hs => k_is
      case hf => k_is
      k_steps
      (with_reducible rename Fr g L' _ _ => Fi)
      (with_reducible rename News g L' _ _ => Ni)
      refine ⟨rfl, l.length + 1, _, _, [], ⟨l, 1, .blank, none⟩, 0, t0, t1, t2, t3, t0, [], 0, [], none, rfl, rfl, .inl rfl, ?_, .nil, hwh, ?_, Fi, Ni⟩
      · simp [LX.meas]
      · rw [mkS_length] at hl4; simpa [LX.meas] using hl4
    case turn =>
      rintro n s1 ⟨h1, tk1, pre, lx, kq, u0, u1, u2, u3, up, vs, nr, done, tokv, rfl, hbuf, hok, hm, hD, hw, hlen, F, N⟩
      refine' owit_next ?F ?X ?I ?hs ?hf ?_
      case F => exact F
      case X => k_asm
      case I => k_inst
      case hs => k_is
      case hf => k_is
      refine wpAny_call ?_
      refine' next_spec (lx := lx) (pre := pre) (out := gtok ⟨Str.ofString "", Str.ofString " \t", marks, true⟩ lx) (rest := (r, W.listOf vs.toArray nr) :: news) ?C ?F ?N ?hne ?hnf ?hr1 ?hr2 ?hr3 hl4 hbuf hok rfl hq1 hq2 ?ok ?stop ?err
      case F => exact F
      case N => exact N
      case C => walk_at "my amb"
      case hne => omega
      case hnf => omega
      case hr1 => k_all
      case hr2 => k_all
      case hr3 => k_all
      case ok =>
        intro h' tk' pre' lx' c res kq' t t0' t1' t2' t3' tp' ho hbuf' F' N'
        obtain ⟨hok', hms⟩ := gtok_left hok ho
        have hms' := hms (by simp)
        have hrl : (mkS (c :: res)).length ≤ 4096 := by
          have := gtok_len ho
          have h3 := congrArg Str.length hbuf
          rw [mkS_length (pre ++ lx.rem), List.length_append] at h3
          rw [mkS_length (c :: res)]
          omega
        obtain ⟨k, rfl⟩ : ∃ k, n = k + 1 := ⟨n - 1, by omega⟩
        have hw' : (done ++ [Dat.str (mkS (strip (c :: res)))]) ++ rowF ⟨Str.ofString "", Str.ofString " \t", marks, true⟩ k lx' = whole := by
          rw [← hw, List.append_assoc]; congr 1; rw [rowF, ho]; rfl
        have y1 : ∀ h'' tk t nr' tokv', Fr g L' h'' (fun y => if y = Str.ofString "token" then some (.str (mkS (c :: res)) tokv') else rm x r (.str (mkS l) tt) (.str marks tm) tokv y) → News g L' h'' (LG kh kt (pkd vt a4 a6 a8) y dy x dx pb fs (Str.ofString "") (Str.ofString " \t") marks true (mkS l) ((fs, dqObj 0 []) :: (r, W.listOf (vs.toArray.push (Value.str (mkS (strip (c :: res))) t)) nr') :: news) kq' pre'.length (lx'.st.val t0') lx'.ln (Str.ofString "") t1' t2' t3' (pbsOf lx'.push tp')) →
            ∃ j, j < k + 1 ∧ RowI s g L' x r (.str (mkS l) tt) (.str marks tm) ⟨Str.ofString "", Str.ofString " \t", marks, true⟩ (mkS l) whole (fun p kq st ln ta tb td pbs vs nr => LG kh kt (pkd vt a4 a6 a8) y dy x dx pb fs (Str.ofString "") (Str.ofString " \t") marks true (mkS l) ((fs, dqObj 0 []) :: (r, W.listOf vs.toArray nr) :: news) kq p st ln (Str.ofString "") ta tb td pbs) j { s with heap := h'', toks := tk } :=
          fun h'' tk t nr' tokv' F N => ⟨k, Nat.lt_succ_self k, _, _, pre', lx', kq', t0', t1', t2', t3', tp', _, nr', _, _, rfl, hbuf', hok', by omega, hD.append (.one (DatIn.str _ t)), hw', by simp; omega, fr_congr F (rm2_eq x r _ _ _ _), by dsimp only; rw [show (vs ++ [Value.str (mkS (strip (c :: res))) t]).toArray = vs.toArray.push (Value.str (mkS (strip (c :: res))) t) from by simp]; exact N⟩
        have hvl : vs.length ≤ 4096 := by omega
        clear hPre hw hw' h hwh hbuf hbuf' ho N9 F9
        dsimp only [OwnTurn]
        k_steps
        exact y1 _ _ _ _ _ (by assumption) (by assumption)
      case stop =>
        intro e t G h' tk pre' lx' kq' t0 t1 t2 t3 tp ho hbuf' FG2 US RS
        obtain ⟨hok', _⟩ := gtok_left hok ho
        obtain ⟨k, rfl⟩ : ∃ k, n = k + 1 := ⟨n - 1, by omega⟩
        dsimp only
        refine stop_S RS FG2 B' US XB TB D' (by rw [isSubtype_type]; kernel_rfl) ?_
        intro g1 KT F' N' B1 X1 T1 D1
        dsimp only [OwnTurn]
        clear X' T' B' D' N F
        have hrl : ∀ res lx2, gtok ⟨Str.ofString "", Str.ofString " \t", marks, true⟩ lx' = .ok res lx2 → (mkS res).length ≤ 4096 := fun res lx2 ho => by
          have := gtok_len ho
          have h3 := congrArg Str.length hbuf'
          rw [mkS_length (pre' ++ lx'.rem), List.length_append] at h3
          rw [mkS_length res]
          omega
        repeat ((fail_if_success (with_reducible show wpAny _ _ (call (Value.ref 690) _) _ _ _)); (first | walk1 | (dsimp only; walk1)))
        refine wpAny_call ?_
        refine' get_spec (lx := lx') (pre := pre') (out := gtok ⟨Str.ofString "", Str.ofString " \t", marks, true⟩ lx') (rest := (r, W.listOf vs.toArray nr) :: news) ?gC ?gF ?gN ?ghne ?ghnf ?ghr1 ?ghr2 ?ghr3 hl4 hbuf' hok' rfl hq1 hq2 ?gok ?gerr
        case gF => k_asm
        case gN => k_asm
        case gC => walk_at "my amb"
        case ghne => omega
        case ghnf => omega
        case ghr1 => k_all
        case ghr2 => k_all
        case ghr3 => k_all
        case gok =>
          intro h3 tk3 pre3 lx3 res kq3 u t03 t13 t23 t33 tp3 ho3 hbuf3 F3 N3
          have hres := hrl _ _ ho3
          have y1 : ∀ h'' tk t nr', Fr g1 L' h'' (rm x r (.str (mkS l) tt) (.str marks tm) tokv) → News g1 L' h'' (LG kh kt (pkd vt a4 a6 a8) y dy x dx pb fs (Str.ofString "") (Str.ofString " \t") marks true (mkS l) ((fs, dqObj 0 []) :: (r, W.listOf (vs.toArray.push (Value.str (mkS (strip res)) t)) nr') :: news) kq3 pre3.length (lx3.st.val t03) lx3.ln (Str.ofString "") t13 t23 t33 (pbsOf lx3.push tp3)) →
              ∃ g1 h5 tk5 mm nr vs extra, ({ s with heap := h'', toks := tk } : Shared) = { s with heap := h5, toks := tk5 } ∧ KtsTurn fsA g g1 ∧ Fr g1 L' h5 (rm x r (.str (mkS l) tt) (.str marks tm) mm) ∧ Below A base [env] g1 ∧ (hd1.heap_1 w.params).In g1 ∧ Top hdQ loose mean mg mb g1 ∧ News g1 L' h5 ((r, W.listOf vs.toArray nr) :: (extra ++ news)) ∧ DatAll extra vs whole :=
            fun h'' tk t nr' F N => ⟨g1, _, _, _, nr', vs ++ [Value.str (mkS (strip res)) t], [], rfl, KT, F, B1, X1, T1, by
              rw [show (vs ++ [Value.str (mkS (strip res)) t]).toArray = vs.toArray.push (Value.str (mkS (strip res)) t) from by simp]
              intro q hq
              refine N q ?_
              rw [List.nil_append] at hq
              simp only [List.mem_cons] at hq ⊢
              rcases hq with hq | hq <;> simp [hq], by
              rw [← hw, rowF, ho]; dsimp only; rw [ho3]
              exact hD.append (.one (DatIn.str _ t))⟩
          have hvl : vs.length ≤ 4096 := by omega
          dsimp only
          clear hPre hw h hwh hbuf hbuf' ho N9 F9
          k_steps
          exact ⟨rfl, y1 _ _ _ _ (by assumption) (by assumption)⟩
        case gerr =>
          intro e3 t3' tm3 G3 h3 tk3 ho3 F3 US3 RS3
          dsimp only
          refine hPre _ _ ⟨e3, t3', tm3, g1, G3, h3, tk3, nr, vs, done, tokv, rfl, rfl, KT, F3, US3, B1, D1, RS3, hD, ?_, by omega⟩
          rw [← hw, rowF, ho]; dsimp only; rw [ho3]
      case err =>
        intro e3 t3' tm3 G3 h3 tk3 ho3 F3 US3 RS3
        obtain ⟨k, rfl⟩ : ∃ k, n = k + 1 := ⟨n - 1, by omega⟩
        dsimp only
        refine miss_S RS3 (by rw [isSubtype_type]; kernel_rfl) ?_
        refine hPre _ _ ⟨e3, t3', tm3, g, G3, h3, tk3, nr, vs, done, tokv, rfl, rfl, .refl, F3, US3, B', D', RS3, hD, ?_, by omega⟩
        rw [← hw, rowF, ho3]
  case after =>
    rintro s₁ ⟨g1, h5, tk5, mm, nr, vs, extra, rfl, KT, F1, B1, X1, T1, N1, D1⟩
    clear F9 N9
    dsimp only
    k_steps
    exact h _ _ _ _ _ _ (by assumption) (by assumption) D1
  case caught =>
    rintro ev s₁ ⟨e, t, tm2, g1, G, h5, tk5, nr, vs, done, tokv, rfl, rfl, KT, F1, US, B1, D1, RS, hD, hw, hlen⟩
    refine caught_SB (T' := "ValueError") RS F1 B1 US XB TB D1 KT ?e1 PyProof.Rows.Boot.«ValueError» (by decide) PySem.F.isExc_ValueError PySem.F.notTuple_ValueError (by rw [isSubtype_type]; kernel_rfl) ?_
    case e1 => k_is
    intro h6 g6 news2 tk6 KT6 F6 N6 G6 N6' B6 X6 T6 D6
    clear X' T' B' D' N F F9 N9 B1 D1 F1
    have y1 : ∀ h' tk b nb t nr', Fr h₀ L h' m → News h₀ L h' ((b, W.listOf #[Value.str (Str.ofString "No closing quotation") t] nb) :: (r, W.listOf (vs.toArray.push (.ref b)) nr') :: news) → R (.ok (.ret (.ref r))) { s with heap := h', toks := tk } := by
      intro h' tk b nb t nr' F N
      refine h _ _ r nr' (vs ++ [Value.ref b]) [(b, W.listOf #[Value.str (Str.ofString "No closing quotation") t] nb)] F (fun q hq => N q ?_) ?_
      · rw [show (vs ++ [Value.ref b]).toArray = vs.toArray.push (.ref b) from by simp] at hq
        simp only [List.mem_cons, List.mem_append, List.not_mem_nil, or_false] at hq ⊢
        rcases hq with hq | hq | hq <;> simp [hq]
      · rw [← hw]
        refine DatAll.append (hD.mono (fun _ z => by cases z)) (.one (DatIn.list (vs := [_]) (n := nb) (.head _) (.one (DatIn.str _ t))))
    clear h
    repeat ((fail_if_success (with_reducible show wpAny _ _ (call (Value.type "str") _) _ _ _)); (first | walk1 | (dsimp only; walk1)))
    refine str_got_one PySem.F.excStr_ValueError N6 G6 (by simp only [units_deeper, Around.mark_units]; omega) ?_
    clear N6 G6
    k_steps
    exact y1 _ _ _ _ _ _ (by assumption) (by assumption)
end
theorem charAt_nat (l : List Nat) (k : Nat) (hk : k < l.length) : Txt.charAt (mkS l) (k : Int) = some (l.getD k 0) := by
  unfold Txt.charAt
  have e : seqIndex? (k : Int) (mkS l).length = some k := by
    rw [mkS_length]; unfold seqIndex?
    have h1 : ¬ ((k : Int) < 0) := by omega
    simp [h1, hk]
  rw [e]; simp [mkS, hk]
theorem charAt_last (l : List Nat) (hl : l ≠ []) : Txt.charAt (mkS l) (-1) = some (l.getLast hl) := by
  unfold Txt.charAt
  have hp : 0 < l.length := List.length_pos_iff.mpr hl
  have e : seqIndex? (-1) (mkS l).length = some (l.length - 1) := by
    rw [mkS_length]; unfold seqIndex?
    have h1 : (0 : Int) ≤ -1 + (l.length : Int) := by omega
    have h2 : -1 + (l.length : Int) < l.length := by omega
    have h3 : (-1 + (l.length : Int)).toNat = l.length - 1 := by omega
    simp [h1, h2, h3]
  rw [e]; simp [mkS, List.getLast_eq_getElem]
theorem item_nat (l : List Nat) (k : Nat) (hk : k < l.length) : Txt.item (mkS l) (k : Int) = mkS [l.getD k 0] := by
  unfold Txt.item; rw [charAt_nat l k hk]; rfl
theorem item_last (l : List Nat) (hl : l ≠ []) : Txt.item (mkS l) (-1) = mkS [l.getLast hl] := by
  unfold Txt.item; rw [charAt_last l hl]; rfl
theorem one_quo (c : Nat) : (mkS [c] == Str.ofString "\"") = decide (c = 34) := by
  rw [quo]
  by_cases h : c = 34
  · subst h; simp
  · rw [decide_eq_false h]; exact beq_eq_false_iff_ne.mpr fun e => h (List.head_eq_of_cons_eq (mkS_inj e))
theorem item_head_quo {l : List Nat} (hl : l ≠ []) : (Txt.item (mkS l) 0 == Str.ofString "\"") = decide (l.head? = some 34) := by
  have hp : 0 < l.length := List.length_pos_iff.mpr hl
  rw [show (0 : Int) = ((0 : Nat) : Int) from rfl, item_nat l 0 hp, one_quo]
  cases l with
  | nil => exact absurd rfl hl
  | cons a r => simp
theorem item_last_quo {l : List Nat} (hl : l ≠ []) : (Txt.item (mkS l) (-1) == Str.ofString "\"") = decide (l.getLast? = some 34) := by
  rw [item_last l hl, one_quo, List.getLast?_eq_some_getLast hl]; simp
section
variable {l : List Nat} (hl : 0 < (mkS l).length)
include hl
theorem ne_of_pos : l ≠ [] := by rw [mkS_length] at hl; exact List.length_pos_iff.mp hl
theorem bare_tt (a : (Txt.item (mkS l) 0 == Str.ofString "\"") = true) (b : (Txt.item (mkS l) (-1) == Str.ofString "\"") = true) : Txt.slice (mkS l) (some 1) (some ((mkS l).length - 1)) = mkS (strip l) := by
  have hne := ne_of_pos hl
  rw [item_head_quo hne, decide_eq_true_eq] at a
  rw [item_last_quo hne, decide_eq_true_eq] at b
  cases l with
  | nil => exact absurd rfl hne
  | cons c r =>
    obtain rfl : c = 34 := by simpa using a
    cases r with
    | nil => decide +kernel
    | cons d q =>
      have h1 := slice_nat (mkS (34 :: d :: q)) (a := 1) (b := (d :: q).length) (by simp) (by rw [mkS_length]; simp)
      rw [mkS_length, show (((34 :: d :: q).length : Nat) : Int) - 1 = (((d :: q).length : Nat) : Int) from by simp]
      refine h1.trans ?_
      rw [mkS_cps]
      have e1 : stripA (34 :: d :: q) = d :: q := by simp [stripA]
      have e2 : (d :: q).getLast? = some 34 := by simpa using b
      rw [strip, e1, stripB, if_pos e2, List.dropLast_eq_take]
      simp
theorem bare_tf (a : (Txt.item (mkS l) 0 == Str.ofString "\"") = true) (b : (Txt.item (mkS l) (-1) == Str.ofString "\"") = false) : Txt.slice (mkS l) (some 1) (some ((mkS l).length : Int)) = mkS (strip l) := by
  have hne := ne_of_pos hl
  rw [item_head_quo hne, decide_eq_true_eq] at a
  rw [item_last_quo hne, decide_eq_false_iff_not] at b
  cases l with
  | nil => exact absurd rfl hne
  | cons c r =>
    obtain rfl : c = 34 := by simpa using a
    cases r with
    | nil => simp at b
    | cons d q =>
      have h1 := slice_nat (mkS (34 :: d :: q)) (a := 1) (b := (mkS (34 :: d :: q)).length) (by rw [mkS_length]; simp) (Nat.le_refl _)
      refine h1.trans ?_
      rw [mkS_cps, mkS_length]
      have e1 : stripA (34 :: d :: q) = d :: q := by simp [stripA]
      have e2 : ¬ (d :: q).getLast? = some 34 := by simpa using b
      rw [strip, e1, stripB, if_neg e2]
      simp
theorem bare_ft (a : (Txt.item (mkS l) 0 == Str.ofString "\"") = false) (b : (Txt.item (mkS l) (-1) == Str.ofString "\"") = true) : Txt.slice (mkS l) (some 0) (some ((mkS l).length - 1)) = mkS (strip l) := by
  have hne := ne_of_pos hl
  rw [item_head_quo hne, decide_eq_false_iff_not] at a
  rw [item_last_quo hne, decide_eq_true_eq] at b
  have hp : 0 < l.length := List.length_pos_iff.mpr hne
  have h1 := slice_nat (mkS l) (a := 0) (b := l.length - 1) (by omega) (by rw [mkS_length]; omega)
  rw [mkS_length, show ((l.length : Nat) : Int) - 1 = ((l.length - 1 : Nat) : Int) from by omega]
  refine h1.trans ?_
  rw [mkS_cps, strip, stripA, if_neg a, stripB, if_pos b, List.dropLast_eq_take]
  simp
theorem bare_ff (a : (Txt.item (mkS l) 0 == Str.ofString "\"") = false) (b : (Txt.item (mkS l) (-1) == Str.ofString "\"") = false) : Txt.slice (mkS l) (some 0) (some ((mkS l).length : Int)) = mkS (strip l) := by
  have hne := ne_of_pos hl
  rw [item_head_quo hne, decide_eq_false_iff_not] at a
  rw [item_last_quo hne, decide_eq_false_iff_not] at b
  have h1 := slice_nat (mkS l) (a := 0) (b := (mkS l).length) (by omega) (Nat.le_refl _)
  refine h1.trans ?_
  rw [mkS_cps, mkS_length, strip, stripA, if_neg a, stripB, if_neg b]
  simp
end
section
variable {w : World} {A : Around} {s : Shared} {base h₀ : Heap} {outer : List Env} {L : Addr} {m : Str → Option Value} {env : Env} {mg mb : Str → Option Value} {mean : ExcName → Option Value} {R : Result → Shared → Prop} {loose : List Str}
  {news : List (Addr × Obj)} {l : List Nat} {tt : Tok}
theorem bare_spec (C : Amb w A base h₀ outer env L mg mb mean loose 2) (F : Fr h₀ L s.heap m) (N : News h₀ L s.heap news) (hl : (mkS l).length ≤ 4096) (hne : 0 < (mkS l).length)
  (h : ∀ h' tk t, Fr h₀ L h' m → News h₀ L h' news → R (.ok (.ret (.str (mkS (strip l)) t))) { s with heap := h', toks := tk }) :
  codeAny (model PySem.Challenge.rw_nq0177_01.row.prog w) A (.call (.ref 761) ⟨[.str (mkS l) tt], []⟩) R s := by
  obtain ⟨⟨A₀, B⟩, X₀, T, hA, hf, hk, hroom, hh⟩ := C
  have y1 : ∀ z h' tk t, z = mkS (strip l) → Fr h₀ L h' m → News h₀ L h' news → R (.ok (.ret (.str z t))) { s with heap := h', toks := tk } := fun z h' tk t e F N => e ▸ h h' tk t F N
  clear h
  walk_at "my enter"
  k_steps
  all_goals refine y1 _ _ _ _ ?_ (by with_reducible assumption) (by with_reducible assumption)
  all_goals first
    | with_reducible exact bare_tt hne (by with_reducible assumption) (by with_reducible assumption)
    | with_reducible exact bare_tf hne (by with_reducible assumption) (by with_reducible assumption)
    | with_reducible exact bare_ft hne (by with_reducible assumption) (by with_reducible assumption)
    | with_reducible exact bare_ff hne (by with_reducible assumption) (by with_reducible assumption)
end
/-- the pieces, after k turns; and where the next begins -/
noncomputable def isWs (c : Nat) : Bool := hasC (Str.ofString " \t") c
noncomputable def pF (l : List Nat) : Nat → List (Nat × Nat) × Nat
  | 0 => ([], 0)
  | k + 1 => if k = l.length ∨ isWs (l.getD k 0) = true then (if (pF l k).2 < k then ((pF l k).1 ++ [((pF l k).2, k)], k + 1) else ((pF l k).1, k + 1)) else pF l k
noncomputable def pD (p : Nat × Nat) : Dat := .tuple [.int p.1, .int p.2]
noncomputable def PInv (l : List Nat) (pre : List Int) (ds : List Dat) (b : Int) : Prop := ds = (pF l pre.length).1.map pD ∧ b = ((pF l pre.length).2 : Int) ∧ (pF l pre.length).2 ≤ pre.length
theorem pstart (l : List Nat) : PInv l [] [] 0 ∧ ([] : List Dat).length ≤ ([] : List Int).length := ⟨⟨rfl, rfl, Nat.le_refl _⟩, Nat.le_refl _⟩
theorem mem_sw {α : Type} (a b : List α) : ∀ q ∈ a ++ b, q ∈ b ++ a := fun q hq => (List.mem_append.mp hq).elim (fun z => List.mem_append.mpr (.inr z)) fun z => List.mem_append.mpr (.inl z)
theorem news_sw {h₀ h : Heap} {L : Addr} {p : Addr × Obj} {a b : List (Addr × Obj)} (N : News h₀ L h (p :: (a ++ b))) : News h₀ L h (p :: (b ++ a)) := fun q hq => N q (by
  rcases List.mem_cons.mp hq with hq | hq
  · exact List.mem_cons.mpr (.inl hq)
  · exact List.mem_cons.mpr (.inr (mem_sw _ _ q hq)))
theorem ws_item {l : List Nat} {n : Nat} (h : n < l.length) : (Builtin.Str.occurrences (Str.ofString " \t") (Txt.item (mkS l) (n : Int)) 0 (Str.ofString " \t").length 1).isEmpty = !isWs (l.getD n 0) := by
  rw [item_nat l n h]
  have := contains_one (Str.ofString " \t") (l.getD n 0)
  unfold Txt.contains at this
  rw [isWs, ← this, Bool.not_not]
section
variable {l : List Nat} {pre : List Int} {ds : List Dat} {b k : Int}
theorem pinv_addG (hP : PInv l pre ds b) (hlen : ds.length ≤ pre.length) (kEq : k = 0 + (pre.length : Int)) (hw : pre.length = l.length ∨ isWs (l.getD pre.length 0) = true) (hb : b < k) :
    PInv l (pre ++ [k]) (ds ++ [Dat.tuple [Dat.int b, Dat.int k]]) (k + 1) ∧ (ds ++ [Dat.tuple [Dat.int b, Dat.int k]]).length ≤ (pre ++ [k]).length := by
  obtain ⟨rfl, rfl, h3⟩ := hP
  have e : pF l (pre ++ [k]).length = ((pF l pre.length).1 ++ [((pF l pre.length).2, pre.length)], pre.length + 1) := by
    rw [List.length_append, List.length_singleton, pF, if_pos hw, if_pos (by omega)]
  refine ⟨⟨?_, ?_, ?_⟩, by simp at hlen ⊢; omega⟩
  · rw [e, List.map_append]; congr 1; simp [pD]; omega
  · rw [e]; simp; omega
  · rw [e]; simp
theorem pinv_sameG (hP : PInv l pre ds b) (hlen : ds.length ≤ pre.length) (kEq : k = 0 + (pre.length : Int)) (hw : pre.length = l.length ∨ isWs (l.getD pre.length 0) = true) (hb : ¬ b < k) :
    PInv l (pre ++ [k]) ds (k + 1) ∧ ds.length ≤ (pre ++ [k]).length := by
  obtain ⟨rfl, rfl, h3⟩ := hP
  have e : pF l (pre ++ [k]).length = ((pF l pre.length).1, pre.length + 1) := by
    rw [List.length_append, List.length_singleton, pF, if_pos hw, if_neg (by omega)]
  refine ⟨⟨?_, ?_, ?_⟩, by simp at hlen ⊢; omega⟩
  · rw [e]
  · rw [e]; simp; omega
  · rw [e]; simp
theorem pinv_eA (hP : PInv l pre ds b) (hlen : ds.length ≤ pre.length) (kEq : k = 0 + (pre.length : Int)) (hk : k = ((mkS l).length : Int)) (hb : b < k) :
    PInv l (pre ++ [k]) (ds ++ [Dat.tuple [Dat.int b, Dat.int k]]) (k + 1) ∧ (ds ++ [Dat.tuple [Dat.int b, Dat.int k]]).length ≤ (pre ++ [k]).length :=
  pinv_addG hP hlen kEq (.inl (by rw [mkS_length] at hk; omega)) hb
theorem pinv_eS (hP : PInv l pre ds b) (hlen : ds.length ≤ pre.length) (kEq : k = 0 + (pre.length : Int)) (hk : k = ((mkS l).length : Int)) (hb : ¬ b < k) : PInv l (pre ++ [k]) ds (k + 1) ∧ ds.length ≤ (pre ++ [k]).length :=
  pinv_sameG hP hlen kEq (.inl (by rw [mkS_length] at hk; omega)) hb
theorem pre_lt (kEq : k = 0 + (pre.length : Int)) (kLt : pre.length < (((mkS l).length : Int) + 1 - 0).toNat) (hk : k ≠ ((mkS l).length : Int)) : pre.length < l.length := by
  rw [mkS_length] at kLt hk; omega
theorem pinv_wA (hP : PInv l pre ds b) (hlen : ds.length ≤ pre.length) (kEq : k = 0 + (pre.length : Int)) (kLt : pre.length < (((mkS l).length : Int) + 1 - 0).toNat) (hk : k ≠ ((mkS l).length : Int))
    (hw : (Builtin.Str.occurrences (Str.ofString " \t") (Txt.item (mkS l) k) 0 (Str.ofString " \t").length 1).isEmpty = false) (hb : b < k) :
    PInv l (pre ++ [k]) (ds ++ [Dat.tuple [Dat.int b, Dat.int k]]) (k + 1) ∧ (ds ++ [Dat.tuple [Dat.int b, Dat.int k]]).length ≤ (pre ++ [k]).length := by
  refine pinv_addG hP hlen kEq (.inr ?_) hb
  rw [kEq, Int.zero_add, ws_item (pre_lt kEq kLt hk)] at hw
  simpa using hw
theorem pinv_wS (hP : PInv l pre ds b) (hlen : ds.length ≤ pre.length) (kEq : k = 0 + (pre.length : Int)) (kLt : pre.length < (((mkS l).length : Int) + 1 - 0).toNat) (hk : k ≠ ((mkS l).length : Int))
    (hw : (Builtin.Str.occurrences (Str.ofString " \t") (Txt.item (mkS l) k) 0 (Str.ofString " \t").length 1).isEmpty = false) (hb : ¬ b < k) : PInv l (pre ++ [k]) ds (k + 1) ∧ ds.length ≤ (pre ++ [k]).length := by
  refine pinv_sameG hP hlen kEq (.inr ?_) hb
  rw [kEq, Int.zero_add, ws_item (pre_lt kEq kLt hk)] at hw
  simpa using hw
theorem pinv_n (hP : PInv l pre ds b) (hlen : ds.length ≤ pre.length) (kEq : k = 0 + (pre.length : Int)) (kLt : pre.length < (((mkS l).length : Int) + 1 - 0).toNat) (hk : k ≠ ((mkS l).length : Int))
    (hw : (Builtin.Str.occurrences (Str.ofString " \t") (Txt.item (mkS l) k) 0 (Str.ofString " \t").length 1).isEmpty = true) : PInv l (pre ++ [k]) ds b ∧ ds.length ≤ (pre ++ [k]).length := by
  have hlt := pre_lt kEq kLt hk
  rw [kEq, Int.zero_add, ws_item hlt] at hw
  obtain ⟨rfl, rfl, h3⟩ := hP
  have e : pF l (pre ++ [k]).length = pF l pre.length := by
    rw [List.length_append, List.length_singleton, pF, if_neg]
    rintro (h | h)
    · omega
    · rw [h] at hw; cases hw
  exact ⟨⟨by rw [e], by rw [e], by rw [e]; simp; omega⟩, by simp at hlen ⊢; omega⟩
theorem pinv_end (hP : PInv l (rangeKs 0 (((mkS l).length : Int) + 1 - 0).toNat) ds b) : ds = (pF l (l.length + 1)).1.map pD := by
  have := hP.1
  rw [rangeKs_length, mkS_length, show ((l.length : Int) + 1 - 0).toNat = l.length + 1 from by omega] at this
  exact this
end
section
variable {w : World} {A : Around} {s : Shared} {base h₀ : Heap} {outer : List Env} {L : Addr} {m : Str → Option Value} {env : Env} {mg mb : Str → Option Value} {mean : ExcName → Option Value} {R : Result → Shared → Prop} {loose : List Str}
  {news : List (Addr × Obj)} {l : List Nat} {tt : Tok}
theorem pieces_spec (C : Amb w (callerA.deeper env) base h₀ [] env L mg mb mean loose 2) (F : Fr h₀ L s.heap m) (N : News h₀ L s.heap news) (hl : (mkS l).length ≤ 4000)
  (h : ∀ h' tk r nr vs extra, Fr h₀ L h' m → News h₀ L h' ((r, W.listOf vs.toArray nr) :: (extra ++ news)) → DatAll (extra ++ news) vs ((pF l (l.length + 1)).1.map pD) → R (.ok (.ret (.ref r))) { s with heap := h', toks := tk }) :
  codeAny (model PySem.Challenge.rw_nq0177_01.row.prog w) (callerA.deeper env) (.call (.ref 754) ⟨[.str (mkS l) tt], []⟩) R s := by
  obtain ⟨⟨A₀, B⟩, X₀, T, hA, hf, hk, hroom, hh⟩ := C
  simp only [depth_deeper, depth_caller] at hroom
  walk_at "my enter"
  k_with "pyIter ref" => k_dat (fun pre ds b => PInv l pre ds b ∧ ds.length ≤ pre.length) "pieces*" "begin"
  k_with "state" => first | exact pstart l | exact pinv_eA (by assumption) (by assumption) (by assumption) (by assumption) (by assumption) | exact pinv_eS (by assumption) (by assumption) (by assumption) (by assumption) (by assumption) | exact pinv_wA (by assumption) (by assumption) (by assumption) (by assumption) (by assumption) (by assumption) (by assumption) | exact pinv_wS (by assumption) (by assumption) (by assumption) (by assumption) (by assumption) (by assumption) (by assumption) | exact pinv_n (by assumption) (by assumption) (by assumption) (by assumption) (by assumption) (by assumption)
  k_steps
  (with_reducible rename News h₀ L _ _ => kN9)
  (with_reducible rename PInv _ _ _ _ => kP9)
  refine h _ _ _ _ _ kTl (by assumption) (news_sw kN9) ?_
  rw [← pinv_end kP9]; exact kFacts.mono (mem_sw _ _)
end
/-- one sign, and a lawful one -/
noncomputable def okS (z : Str) : Prop := z.length = 1 ∧ PyData.strOk z = true
theorem strOk_append {a b : Str} (ha : PyData.strOk a = true) (hb : PyData.strOk b = true) : PyData.strOk (a ++ b) = true := by
  unfold PyData.strOk at *
  rw [show (a ++ b).cps = a.cps ++ b.cps from rfl, Array.all_append, ha, hb]; rfl
theorem item_ok {x : Str} (i : Int) (hx : PyData.strOk x = true) : okS (Txt.item x i) := by
  refine ⟨rfl, ?_⟩
  unfold PyData.strOk Txt.item
  have : (Txt.charAt x i).getD 0 < 0x110000 := by
    unfold Txt.charAt
    cases h : seqIndex? i x.length with
    | none => simp
    | some j =>
      rw [Option.bind_some]
      cases h2 : x.cps[j]? with
      | none => simp
      | some c =>
        have hm := Array.mem_of_getElem? h2
        unfold PyData.strOk at hx
        have := (Array.all_eq_true_iff_forall_mem.mp hx) c hm
        simpa using this
  simp [this]
section
variable {prog : Program} {w : World} {A : Around} {E : Value → Shared → Prop} {s : Shared} {h₀ : Heap} {L a : Addr} {news : List (Addr × Obj)} {value slice : PySem.Expr} {k : Int} {u : Tok} {Q : Value → Shared → Prop} {xs : List Value} {n : Nat}
theorem item_any (N : News h₀ L s.heap news) (hm : (a, W.listOf xs.toArray n) ∈ news) (h0 : 0 ≤ k) (hk : k < (xs.length : Int)) (hl : xs.length ≤ 100) (hP : ∀ v ∈ xs, ∃ z t, v = .str z t ∧ okS z)
    (h : ∀ z t, z.length = 1 → PyData.strOk z = true → Q (.str z t) s) (hs : subscripted slice false (.ref a) (.int k u) = operate [.ref a, .int k u] (getItem (.ref a) (.int k u)) := by with_unfolding_all rfl) :
    wpAny (model prog w) A (subscriptTail value slice (.ref a) (.int k u)) Q E s := by
  have hlt : k.toNat < xs.length := by omega
  obtain ⟨z, t, e, hz⟩ := hP xs[k.toNat] (List.getElem_mem hlt)
  have hI : s.heap.IsList a xs.toArray := ⟨_, (N _ hm).1, rfl, _, rfl⟩
  exact item_litK (v := .str z t) hI h0 (by omega) (by rw [List.getElem?_eq_getElem hlt, e]) (h z t hz.1 hz.2) hs
end
theorem text_step {a z : Str} {pre : List Int} {n : Int} (h : a.length ≤ pre.length) (h2 : PyData.strOk a = true) (hz : z.length = 1) (hk : PyData.strOk z = true) : (a ++ z).length ≤ (pre ++ [n]).length ∧ PyData.strOk (a ++ z) = true := by
  have e : (a ++ z).length = a.length + z.length := Str.length_append a z
  exact ⟨by rw [e, List.length_append]; simp; omega, strOk_append h2 hk⟩
theorem text_start : (Str.ofString "").length ≤ ([] : List Int).length ∧ PyData.strOk (Str.ofString "") = true := by decide +kernel
theorem one_all {t0 t1 t2 t3 t4 t5 t6 t7 : Tok} {i j : Int} : ∀ v ∈ [Value.str (Str.ofString " ") t0, Value.str (Str.ofString "\"") t1, Value.str (Str.ofString "\"") t2, Value.str (Str.ofString "'") t3, Value.str (Str.ofString "a") t4, Value.str (Txt.item (Str.ofString " \t\x0d\n") i) t5, Value.str (Txt.item (Str.ofString "\\#=é") j) t6, Value.str (Str.ofString "b") t7], ∃ z t, v = .str z t ∧ okS z := by
  intro v hv
  simp only [List.mem_cons, List.not_mem_nil, or_false] at hv
  rcases hv with rfl | rfl | rfl | rfl | rfl | rfl | rfl | rfl <;> exact ⟨_, _, rfl, by first | exact item_ok _ (by decide +kernel) | exact ⟨by decide +kernel, by decide +kernel⟩⟩
theorem fmod8 (k : Int) : 0 ≤ k.fmod 8 ∧ k.fmod 8 < 8 := ⟨Int.fmod_nonneg_of_pos k (by decide), Int.fmod_lt_of_pos k (by decide)⟩
local macro_rules | `(tactic| walk_at "subscriptTail") => `(tactic| (k_here; (with_reducible show wpAny _ _ (subscriptTail (Expr.Name (PySem.Str.ofString "signs") _) _ (Value.ref _) (Value.int _ _)) _ _ _); k_dflt (refine' item_any (xs := [_, _, _, _, _, _, _, _]) ?N ?m ?h0 ?hk ?hl ?hP ?_ ?hs; (case N => k_asm); (case m => k_mem); (case h0 => exact (fmod8 _).1); (case hk => exact (fmod8 _).2); (case hl => exact Nat.le_of_ble_eq_true rfl); (case hP => exact one_all); (case hs => with_unfolding_all rfl); intro z' t' hz' hk')))
section
variable {w : World} {A : Around} {s : Shared} {base h₀ : Heap} {outer : List Env} {L : Addr} {m : Str → Option Value} {env : Env} {mg mb : Str → Option Value} {mean : ExcName → Option Value} {R : Result → Shared → Prop} {loose : List Str}
  {news : List (Addr × Obj)} {l : List Nat} {tt : Tok}
theorem text_spec {sc : Addr} {vs : List Value} {ns : List Int} (C : Amb w (callerA.deeper env) base h₀ [] env L mg mb mean loose 2) (F : Fr h₀ L s.heap m) (N : News h₀ L s.heap news) (hsc : h₀.IsList sc vs.toArray) (hi : IntsAre vs ns) (hln : ns.length ≤ 63)
  (h : ∀ h' tk t l, l.length ≤ 63 → PyData.strOk (mkS l) = true → Fr h₀ L h' m → News h₀ L h' news → R (.ok (.ret (.str (mkS l) t))) { s with heap := h', toks := tk }) :
  codeAny (model PySem.Challenge.rw_nq0177_01.row.prog w) (callerA.deeper env) (.call (.ref 740) ⟨[.ref sc], []⟩) R s := by
  obtain ⟨⟨A₀, B⟩, X₀, T, hA, hf, hk, hroom, hh⟩ := C
  simp only [depth_deeper, depth_caller] at hroom
  have y1 : ∀ z h' tk t, z.length ≤ 63 → PyData.strOk z = true → Fr h₀ L h' m → News h₀ L h' news → R (.ok (.ret (.str z t))) { s with heap := h', toks := tk } := fun z h' tk t e e2 F N => h h' tk t z.cps.toList e e2 F N
  clear h
  walk_at "my enter0"
  intro g L' h₁ FG F₁ N₁ B' X' T'
  try dsimp only
  k_fold
  have hsc' : g.IsList sc vs.toArray := by
    obtain ⟨o, e, r⟩ := hsc; exact ⟨o, FG.keep _ _ e, r⟩
  clear hsc
  k_with "pyIter ref" => k_state (fun pre text => text.length ≤ pre.length ∧ PyData.strOk text = true) "text"
  k_with "state" => first | exact text_step (by assumption) (by assumption) (by assumption) (by assumption) | exact text_start
  k_steps
  (with_reducible rename News h₀ L _ _ => kN9)
  exact y1 _ _ _ _ (by omega) (by assumption) (by assumption) (fun q hq => kN9 q (by first | exact hq | exact List.mem_append_left _ hq))
end
theorem amb_law {w : World} {env : Env} {h₀ : Heap} {L : Addr} {mg mb : Str → Option Value} {mean : ExcName → Option Value} {loose : List Str} (B : Below callerA h₀ [] h₀) (X : (hd1.heap_1 w.params).In h₀) (T : Top hdQ loose mean mg mb h₀) (hf : env.frame = some L) (hk : env.scope.kind = .function) :
    Amb w (callerA.deeper env) h₀ h₀ [] env L mg mb mean loose 20 := ⟨⟨_, B⟩, X, T, rfl, hf, hk, by simp only [depth_deeper, depth_caller]; decide, rfl⟩
theorem Amb.less {w : World} {A : Around} {base h₀ : Heap} {outer : List Env} {env : Env} {L : Addr} {mg mb : Str → Option Value} {mean : ExcName → Option Value} {loose : List Str} {n : Nat} (C : Amb w A base h₀ outer env L mg mb mean loose n) (k : Nat) (h : k ≤ n) : Amb w A base h₀ outer env L mg mb mean loose k :=
  ⟨C.B, C.X, C.T, C.hA, C.hf, C.hk, by have := C.hroom; omega, C.hh⟩
theorem sum_len {a z : Str} {n : Nat} (h : a.length ≤ n) (hz : z.length = 1) : (a ++ z).length ≤ n + 1 := by
  rw [Str.length_append]; omega
section
variable {w : World} {A : Around} {s : Shared} {base h₀ : Heap} {outer : List Env} {L : Addr} {m : Str → Option Value} {env : Env} {mg mb : Str → Option Value} {mean : ExcName → Option Value} {R : Result → Shared → Prop} {loose : List Str}
  {news : List (Addr × Obj)} {l : List Nat} {t1 t2 t3 t4 : Tok}
theorem text_spec2 {sc : Addr} {n : Nat} {vs : List Value} {ns : List Int} (hi : IntsAre vs ns) (hln : ns.length ≤ 63) (C : Amb w (callerA.deeper env) base h₀ [] env L mg mb mean loose 2) (F : Fr h₀ L s.heap m) (N : News h₀ L s.heap ((sc, W.listOf vs.toArray n) :: news))
  (h : ∀ h' tk t l, l.length ≤ 63 → PyData.strOk (mkS l) = true → Fr h₀ L h' m → News h₀ L h' news → R (.ok (.ret (.str (mkS l) t))) { s with heap := h', toks := tk }) :
  codeAny (model PySem.Challenge.rw_nq0177_01.row.prog w) (callerA.deeper env) (.call (.ref 740) ⟨[.ref sc], []⟩) R s := by
  obtain ⟨⟨A₀, B⟩, X₀, T, hA, hf, hk, hroom, hh⟩ := C
  simp only [depth_deeper, depth_caller] at hroom
  have y1 : ∀ z h' tk t q, z.length ≤ 63 → PyData.strOk z = true → Fr h₀ L h' m → News h₀ L h' (q ++ news) → R (.ok (.ret (.str z t))) { s with heap := h', toks := tk } := fun z h' tk t q e e2 F N => h h' tk t z.cps.toList e e2 F fun p hp => N p (List.mem_append_right _ hp)
  clear h
  walk_at "my enter"
  k_with "pyIter ref" => k_state (fun pre text => text.length ≤ pre.length ∧ PyData.strOk text = true) "text"
  k_with "state" => first | exact text_step (by assumption) (by assumption) (by assumption) (by assumption) | exact text_start
  k_steps
  (with_reducible rename News h₀ L _ _ => kN9)
  refine y1 _ _ _ _ [] ?_ (by assumption) (by assumption) (fun q hq => kN9 q (List.mem_cons_of_mem _ (by first | exact hq | exact List.mem_append_left _ hq)))
  omega
end
/-- a piece that breaks the rule -/
noncomputable def badP (l : List Nat) (p : Nat × Nat) : Bool := hasC (Str.ofString "'\"") (l.getD p.1 0) && !(Txt.find3 (mkS l) (mkS [l.getD p.1 0]) ((p.1 : Int) + 1) == (p.2 : Int) - 1)
noncomputable def okP (l : List Nat) (p : Nat × Nat) : Prop := p.1 < p.2 ∧ p.2 ≤ l.length
theorem q_item {l : List Nat} {n : Nat} (h : n < l.length) : (Builtin.Str.occurrences (Str.ofString "'\"") (Txt.item (mkS l) (n : Int)) 0 (Str.ofString "'\"").length 1).isEmpty = !hasC (Str.ofString "'\"") (l.getD n 0) := by
  rw [item_nat l n h]
  have := contains_one (Str.ofString "'\"") (l.getD n 0)
  unfold Txt.contains at this
  rw [← this, Bool.not_not]
section
variable {l : List Nat} {b e : Nat} (hb : b < l.length)
include hb
theorem bad_no1 (h : (Builtin.Str.occurrences (Str.ofString "'\"") (Txt.item (mkS l) (b : Int)) 0 (Str.ofString "'\"").length 1).isEmpty = true) : badP l (b, e) = false := by
  rw [q_item hb] at h
  simp only [badP, Bool.and_eq_false_iff]; left; simpa using h
theorem bad_no2 (h : Txt.find3 (mkS l) (Txt.item (mkS l) (b : Int)) ((b : Int) + 1) = (e : Int) - 1) : badP l (b, e) = false := by
  rw [item_nat l b hb] at h
  simp only [badP, Bool.and_eq_false_iff]; right
  simp only [Bool.not_eq_false', beq_iff_eq]; exact h
theorem bad_yes (h1 : (Builtin.Str.occurrences (Str.ofString "'\"") (Txt.item (mkS l) (b : Int)) 0 (Str.ofString "'\"").length 1).isEmpty = false) (h : Txt.find3 (mkS l) (Txt.item (mkS l) (b : Int)) ((b : Int) + 1) ≠ (e : Int) - 1) : badP l (b, e) = true := by
  rw [item_nat l b hb] at h
  rw [q_item hb] at h1
  simp only [badP, Bool.and_eq_true]
  refine ⟨by simpa using h1, ?_⟩
  simp only [Bool.not_eq_true', beq_eq_false_iff_ne]; exact h
end
theorem first_at {l : List Nat} {ps : List (Nat × Nat)} {n : Nat} {p : Nat × Nat} {k : Int} (hk : k = 0 + (n : Int)) (hP : ∀ (i : Nat), i < n → ∀ (p : Nat × Nat), ps[i]? = some p → badP l p = false) (hpi : ps[n]? = some p) (hb : badP l p = true) : k = (ps.findIdx (badP l) : Int) := by
  obtain ⟨hlt, e⟩ := List.getElem?_eq_some_iff.mp hpi
  have : ps.findIdx (badP l) = n := (List.findIdx_eq hlt).mpr ⟨by rw [e]; exact hb, fun j hj => hP j hj _ (List.getElem?_eq_getElem (by omega))⟩
  rw [this]; omega
theorem first_go {l : List Nat} {ps : List (Nat × Nat)} {pre : List Int} {p : Nat × Nat} {k : Int} (hP : ∀ (i : Nat), i < pre.length → ∀ (p : Nat × Nat), ps[i]? = some p → badP l p = false) (hpi : ps[pre.length]? = some p) (hb : badP l p = false) :
    ∀ (i : Nat), i < (pre ++ [k]).length → ∀ (p : Nat × Nat), ps[i]? = some p → badP l p = false := by
  intro i hi q hq
  rw [List.length_append, List.length_singleton] at hi
  by_cases h : i < pre.length
  · exact hP i h q hq
  · obtain rfl : i = pre.length := by omega
    rw [hpi] at hq; cases hq; exact hb
theorem news_cons {h₀ h : Heap} {L : Addr} {p : Addr × Obj} {a : List (Addr × Obj)} (N : News h₀ L h a) (hp : p ∈ a) : News h₀ L h (p :: a) := fun q hq => N q (by
  rcases List.mem_cons.mp hq with rfl | hq
  · exact hp
  · exact hq)
theorem datIn_pD {news : List (Addr × Obj)} {v : Value} {p : Nat × Nat} (h : DatIn news v (pD p)) : ∃ t n u1 u2, v = .ref t ∧ (t, ({ cls := .type "tuple", data := .seq #[.int (p.1 : Int) u1, .int (p.2 : Int) u2] n } : Obj)) ∈ news := by
  unfold pD at h
  cases h with
  | tuple hm hr =>
    cases hr with
    | cons h1 r =>
      cases h1
      cases r with
      | cons h2 r2 =>
        cases h2
        cases r2
        exact ⟨_, _, _, _, rfl, hm⟩
theorem led_list {h₀ h : Heap} {L a : Addr} {news : List (Addr × Obj)} {xs : List Value} {n : Nat} (N : News h₀ L h news) (hm : (a, W.listOf xs.toArray n) ∈ news) : h.IsList a xs.toArray := ⟨_, (N _ hm).1, rfl, _, rfl⟩
local macro_rules | `(tactic| walk_at "call builtin:len") => `(tactic| (k_here; (with_reducible show wpAny _ _ (call (Value.builtin "len") [Value.ref _]) _ _ _); k_dflt (refine' len_list (items := List.toArray _) ?l ?f ?_; (case l => refine' led_list ?N ?m; (case N => k_asm); (case m => k_mem)); (case f => simp only [List.size_toArray]; omega); (try simp only [List.size_toArray]))))
local macro_rules | `(tactic| walk_at "subscriptTail") => `(tactic| (k_here; (with_reducible show wpAny _ _ (subscriptTail (Expr.Name (PySem.Str.ofString "pieces") _) (Expr.Name (PySem.Str.ofString "k") _) (Value.ref _) (Value.int _ _)) _ _ _); k_dflt (refine' item_litK ?l ?h0 ?hk ?hx ?_ ?hs; (case hx => assumption); (case l => refine' led_list ?N ?m; (case N => k_asm); (case m => k_mem)); (case h0 => omega); (case hk => omega); (case hs => with_unfolding_all rfl))))
section
variable {w : World} {A : Around} {s : Shared} {base h₀ : Heap} {outer : List Env} {L : Addr} {m : Str → Option Value} {env : Env} {mg mb : Str → Option Value} {mean : ExcName → Option Value} {R : Result → Shared → Prop} {loose : List Str}
  {news : List (Addr × Obj)} {l : List Nat} {tt : Tok}
theorem first_spec {pc : Addr} {vs : List Value} {n : Nat} {ps : List (Nat × Nat)} (C : Amb w (callerA.deeper env) base h₀ [] env L mg mb mean loose 2) (F : Fr h₀ L s.heap m) (N : News h₀ L s.heap ((pc, W.listOf vs.toArray n) :: news)) (hD : DatAll ((pc, W.listOf vs.toArray n) :: news) vs (ps.map pD)) (hok : ∀ p ∈ ps, okP l p) (hl : (mkS l).length ≤ 4000) (hpl : ps.length ≤ 4000)
  (h : ∀ h' tk t, Fr h₀ L h' m → News h₀ L h' ((pc, W.listOf vs.toArray n) :: news) → R (.ok (.ret (.int (ps.findIdx (badP l)) t))) { s with heap := h', toks := tk }) :
  codeAny (model PySem.Challenge.rw_nq0177_01.row.prog w) (callerA.deeper env) (.call (.ref 768) ⟨[.str (mkS l) tt, .ref pc], []⟩) R s := by
  obtain ⟨⟨A₀, B⟩, X₀, T, hA, hf, hk, hroom, hh⟩ := C
  simp only [depth_deeper, depth_caller] at hroom
  have y1 : ∀ (z : Int) h' tk t, z = ps.findIdx (badP l) → Fr h₀ L h' m → News h₀ L h' ((pc, W.listOf vs.toArray n) :: news) → R (.ok (.ret (.int z t))) { s with heap := h', toks := tk } := fun z h' tk t e F N => e ▸ h h' tk t F N
  have hvl : vs.length = ps.length := by rw [hD.length, List.length_map]
  have hvl2 : vs.length ≤ 4000 := by omega
  clear h
  walk_at "my enter0"
  intro g L' h₁ FG F₁ N₁ B' X' T'
  try dsimp only
  k_fold
  repeat ((fail_if_success (with_reducible show wpAny _ _ (pyIter _) _ _ _)); (first | walk1 | (dsimp only; walk1)))
  (with_reducible rename Fr _ _ _ _ => lF')
  (with_reducible rename News _ _ _ _ => lN')
  (rename IsRange _ _ _ _ _ _ _ _ => rgX)
  refine' kd_range (σ := Unit) (n := vs.length) (fun _ => []) ((pc, W.listOf vs.toArray n) :: news) (fun _ => []) (fun _ _ => True) [Str.ofString "begin", Str.ofString "end"] (fun pre _ => ∀ i, i < pre.length → ∀ p, ps[i]? = some p → badP l p = false) (((pc, W.listOf vs.toArray n) :: news).map (·.1)) () rfl rgX ?hsmall ?hsz lF' lN' ?hn (fun _ => rfl) trivial ?hk ?hp ?turn ?done
  case hsmall => exact small_one (by omega) (by omega) (by omega) (by omega)
  case hsz => simp only [Builtin.Range.rangeSize]; split <;> omega
  case hn => intro p hp; simpa using hp
  case hk => intro p hp; cases hp
  case hp => intro i hi; simp at hi
  case turn =>
    intro c tl pre k t u h tk own kEq kLt hsep hoff _ hP F' N'
    have hlt : pre.length < ps.length := by omega
    obtain ⟨v, hv, hvd⟩ := hD.get (k := pre.length) (by rw [List.length_map]; exact hlt)
    rw [List.getElem_map] at hvd
    obtain ⟨ta, tn, u1, u2, rfl, htm⟩ := datIn_pD hvd
    have hpk := hok ps[pre.length] (List.getElem_mem hlt)
    have hpi : ps[pre.length]? = some ps[pre.length] := List.getElem?_eq_getElem hlt
    generalize ps[pre.length] = p at hpi htm hpk hvd
    obtain ⟨b, e⟩ := p
    obtain ⟨hp1, hp2⟩ := hpk
    dsimp only at hp1 hp2 htm
    have hb1 : (b : Int) < ((mkS l).length : Int) := by rw [mkS_length]; omega
    have hb0 : 0 ≤ (b : Int) := by omega
    have he0 : (e : Int) ≤ ((mkS l).length : Int) := by rw [mkS_length]; omega
    have hx : vs[k.toNat]? = some (.ref ta) := by rw [kEq, show (0 + (pre.length : Int)).toNat = pre.length from by omega]; exact hv
    have hk0 : 0 ≤ k := by omega
    have hk1 : k < 4001 := by omega
    have N2 : News g L' h ((ta, ({ cls := .type "tuple", data := .seq #[.int (b : Int) u1, .int (e : Int) u2] tn } : Obj)) :: (pc, W.listOf vs.toArray n) :: (news ++ (tl ++ own))) := by
      refine news_cons (p := (ta, _)) N' ?_
      exact List.mem_append.mpr (.inl htm)
    have hbl : b < l.length := by omega
    clear lF' lN' N' hD rgX N
    k_steps
    rotate_left 1
    · (with_reducible rename News h₀ L _ _ => kN9)
      have hbad := bad_yes hbl (e := e) (by assumption) (by assumption)
      refine y1 _ _ _ _ (first_at kEq hP hpi hbad) (by assumption) (fun q hq => kN9 q ?_)
      rcases List.mem_cons.mp hq with hq | hq
      · exact List.mem_cons.mpr (.inr (List.mem_cons.mpr (.inl hq)))
      · exact List.mem_cons.mpr (.inr (List.mem_cons.mpr (.inr (List.mem_append.mpr (.inl hq)))))
    all_goals
      have hbad : badP l (b, e) = false := by first | exact bad_no1 hbl (by assumption) | exact bad_no2 hbl (by assumption)
      (with_reducible rename Fr g _ _ _ => eF)
      (with_reducible rename News g _ _ _ => eN)
      refine kd_end () [] hsep eF eN ?_ ?_ rfl (fun q hq => nomatch hq) (fun q hq => nomatch hq) (fun q hq => nomatch hq) ?_ trivial (first_go hP hpi hbad)
      · intro q hq
        simp only [List.nil_append, List.cons_append, List.mem_cons, List.mem_append] at hq ⊢
        rcases hq with hq | hq | hq <;> simp [hq]
      · intro q hq
        simp only [List.mem_cons, List.mem_append]
        simp [hq]
      · intro z hz _ hs
        have h1 : z ≠ Str.ofString "begin" ∧ z ≠ Str.ofString "end" := by
          refine ⟨fun q => ?_, fun q => ?_⟩ <;> (subst q; revert hs; decide)
        simp [hz, h1.1, h1.2, hs, kstB]
  case done =>
    intro c tl u h tk hoff _ hP F' N'
    have N2 : News g L' h ((pc, W.listOf vs.toArray n) :: (news ++ tl)) := N'
    have hidx : (vs.length : Int) = ps.findIdx (badP l) := by
      rw [rangeKs_length] at hP
      rw [hvl]
      congr 1
      refine (List.findIdx_eq_length.mpr fun p hp => ?_).symm
      obtain ⟨i, hi, rfl⟩ := List.getElem_of_mem hp
      rw [hP i (by omega) _ (List.getElem?_eq_getElem hi)]
    clear lF' lN' N' hD rgX N
    dsimp only
    k_steps
    (with_reducible rename News h₀ L _ _ => kN9)
    exact y1 _ _ _ _ hidx (by assumption) (fun q hq => kN9 q (by rcases List.mem_cons.mp hq with hq | hq; exact List.mem_cons.mpr (.inl hq); exact List.mem_cons.mpr (.inr (List.mem_append.mpr (.inl hq)))))
end
section
open PyProof.Rows.LCg PyProof.Rows.LCp
section
variable {prog : Program} {w : World} {A : Around} {h₀ : Heap} {L : Addr} {m : Str → Option Value} {env : Env} {elt : Expr} {x x₂ : Str} {scope : Scope} {cl : List (Str × Addr)} {s : Shared} {S : List (Addr × Obj) → Prop} {Fin : List Value → List (Addr × Obj) → Prop} {news : List (Addr × Obj)}
noncomputable def CompQ (s : Shared) (h₀ : Heap) (L : Addr) (m : Str → Option Value) (led : List (Addr × Obj)) (J : Value → Prop) (y : Value) (s' : Shared) : Prop := ∃ h' tk', s' = { s with heap := h', toks := tk' } ∧ J y ∧ Fr h₀ L h' m ∧ News h₀ L h' led
theorem comp_ind (vs : List Value) (Inv : Nat → List Value → Prop) (h0 : Inv 0 []) (hS : S news) (hfin : ∀ ys, Inv vs.length ys → Fin ys news)
    (step : ∀ i ys v, vs[i]? = some v → Inv i ys → ∃ (t : Addr) (ot : Obj) (v₁ v₂ : Value) (nt : Nat), v = .ref t ∧ (t, ot) ∈ news ∧ ot.cls = .type "tuple" ∧ ot.data = .seq #[v₁, v₂] nt ∧
      ∀ I oI C oC D m₂ h tk (E' : Value → Shared → Prop), NsObj oC m₂ → m₂ x = some v₁ → m₂ x₂ = some v₂ → Fr h₀ L h m → News h₀ L h ((I, oI) :: (C, oC) :: (D, lst ys) :: news) → Off3 I C D news → ((@Ne Nat I C) ∧ (@Ne Nat I D) ∧ (@Ne Nat C D)) →
      wpAny (model prog w) A (eval elt (compEnvC scope cl C env)) (CompQ s h₀ L m ((I, oI) :: (C, oC) :: (D, lst ys) :: news) (fun y => Inv (i + 1) (ys ++ [y]))) E' { s with heap := h, toks := tk }) :
    CompRestP prog w A h₀ L m env elt x x₂ scope cl s S (fun i v => vs.toArray[i]? = some v) Fin vs.toArray.size 0 [] news := by
  have main : ∀ k i ys, i + k = vs.length → Inv i ys → CompRestP prog w A h₀ L m env elt x x₂ scope cl s S (fun i v => vs.toArray[i]? = some v) Fin k i ys news := by
    intro k
    induction k with
    | zero => intro i ys hi hv; exact CompRestP.zero (hfin ys (by rw [show vs.length = i from by omega]; exact hv))
    | succ k ih =>
      intro i ys hi hv
      refine CompRestP.succ fun v hvi => ?_
      obtain ⟨t, ot, v₁, v₂, nt, e1, e2, e3, e4, st⟩ := step i ys v (by simpa using hvi) hv
      refine ⟨t, ot, v₁, v₂, nt, e1, e2, e3, e4, fun I oI C oC D m₂ h tk E' a b c d e f g => wpAny_mono (st I oI C oC D m₂ h tk E' a b c d e f g) (fun y s' hq => ?_) fun _ _ z => z⟩
      obtain ⟨h', tk', rfl, hj, F', N'⟩ := hq
      exact ⟨h', tk', news, rfl, F', N', f, hS, ih (i + 1) (ys ++ [y]) (by omega) hj⟩
  have := main vs.length 0 [] (by omega) h0
  simpa using this
end
theorem sub_slice {l : List Nat} {b e : Nat} (h1 : b < e) (h2 : e ≤ l.length) : Txt.slice (mkS l) (some (b : Int)) (some (e : Int)) = mkS ((l.drop b).take (e - b)) := by
  have := slice_nat (mkS l) (a := b) (b := e) (by omega) (by rw [mkS_length]; exact h2)
  rwa [mkS_cps] at this
noncomputable def pieceD (l : List Nat) (p : Nat × Nat) : Dat := .str (mkS (strip ((l.drop p.1).take (p.2 - p.1))))
theorem pF_ok (l : List Nat) : ∀ k, k ≤ l.length + 1 → (∀ p ∈ (pF l k).1, okP l p) ∧ (pF l k).1.length ≤ k := by
  intro k
  induction k with
  | zero => intro _; simp [pF]
  | succ k ih =>
    intro hk
    obtain ⟨h1, h2⟩ := ih (by omega)
    rw [pF]
    split
    · split
      · refine ⟨fun p hp => ?_, by simp; omega⟩
        rcases List.mem_append.mp hp with hp | hp
        · exact h1 p hp
        · rw [List.mem_singleton.mp hp]; exact ⟨by assumption, by dsimp only; omega⟩
      · exact ⟨h1, Nat.le_succ_of_le h2⟩
    · exact ⟨h1, Nat.le_succ_of_le h2⟩
end
noncomputable def sOk (l : List Nat) : Prop := ∀ c ∈ l, c < 0x110000
theorem sOk_of {l : List Nat} (h : PyData.strOk (mkS l) = true) : sOk l := by
  intro c hc
  unfold PyData.strOk at h
  have := (Array.all_eq_true_iff_forall_mem.mp h) c (by simpa [mkS] using hc)
  simpa using this
theorem strOk_of {l : List Nat} (h : sOk l) : PyData.strOk (mkS l) = true := by
  unfold PyData.strOk
  refine Array.all_eq_true_iff_forall_mem.mpr fun c hc => ?_
  have := h c (by simpa [mkS] using hc)
  simpa using this
theorem sOk_dropLine {r : List Nat} (h : sOk r) : sOk (dropLine r) := by
  obtain ⟨u, e⟩ := dropLine_split r
  intro c hc
  exact h c (by rw [e]; exact List.mem_append_right _ hc)
theorem sOk_cons {c : Nat} {r : List Nat} (h : sOk (c :: r)) : c < 0x110000 ∧ sOk r := ⟨h c (.head _), fun d hd => h d (.tail _ hd)⟩
theorem sOk_snoc {t : List Nat} {c : Nat} (h : sOk t) (hc : c < 0x110000) : sOk (t ++ [c]) := by
  intro d hd
  rcases List.mem_append.mp hd with hd | hd
  · exact h d hd
  · rw [List.mem_singleton.mp hd]; exact hc
theorem sOk_one {c : Nat} (hc : c < 0x110000) : sOk [c] := fun d hd => by rw [List.mem_singleton.mp hd]; exact hc
theorem sOk_nil : sOk [] := fun _ h => nomatch h
theorem rt_ok (P : Pm) : ∀ (n : Nat) (rem : List Nat) (ln : Int) (st : LS) (tok : List Nat) (rem' : List Nat) (ln' : Int) (st' : LS) (res : List Nat) (push : Option Nat), rem.length ≤ n → sOk rem → sOk tok → rt P rem ln st tok = .ok rem' ln' st' res push →
    sOk res ∧ sOk rem' ∧ (∀ c, push = some c → c < 0x110000) := by
  intro n
  induction n with
  | zero =>
    intro rem ln st tok rem' ln' st' res push hn ho ht h
    obtain rfl : rem = [] := List.length_eq_zero_iff.mp (Nat.le_zero.mp hn)
    cases st with
    | dead => rw [rt_dead_nil] at h; cases h; exact ⟨sOk_nil, sOk_nil, fun _ z => nomatch z⟩
    | blank => rw [rt_blank_nil] at h; cases h; exact ⟨ht, sOk_nil, fun _ z => nomatch z⟩
    | word => rw [rt_word_nil] at h; cases h; exact ⟨ht, sOk_nil, fun _ z => nomatch z⟩
    | quot q => rw [rt_quot_nil] at h; cases h
  | succ n ih =>
    intro rem ln st tok rem' ln' st' res push hn ho ht h
    cases rem with
    | nil =>
      cases st with
      | dead => rw [rt_dead_nil] at h; cases h; exact ⟨sOk_nil, sOk_nil, fun _ z => nomatch z⟩
      | blank => rw [rt_blank_nil] at h; cases h; exact ⟨ht, sOk_nil, fun _ z => nomatch z⟩
      | word => rw [rt_word_nil] at h; cases h; exact ⟨ht, sOk_nil, fun _ z => nomatch z⟩
      | quot q => rw [rt_quot_nil] at h; cases h
    | cons c r =>
      obtain ⟨hc, hr'⟩ := sOk_cons ho
      have hr : r.length ≤ n := by simp at hn; omega
      have hd : (dropLine r).length ≤ n := Nat.le_trans (dropLine_le r) hr
      cases st with
      | dead => rw [rt] at h; cases h
      | blank =>
        rw [rt_blank] at h
        repeat' split at h
        · exact ih _ _ _ _ _ _ _ _ _ hr hr' ht h
        · exact ih _ _ _ _ _ _ _ _ _ hd (sOk_dropLine hr') ht h
        · exact ih _ _ _ _ _ _ _ _ _ hr hr' (sOk_one hc) h
        · exact ih _ _ _ _ _ _ _ _ _ hr hr' (sOk_one hc) h
        · exact ih _ _ _ _ _ _ _ _ _ hr hr' (sOk_one hc) h
        · cases h; exact ⟨sOk_one hc, hr', fun _ z => nomatch z⟩
      | quot q =>
        rw [rt_quot] at h
        repeat' split at h
        · cases h; exact ⟨sOk_snoc ht hc, hr', fun _ z => nomatch z⟩
        · exact ih _ _ _ _ _ _ _ _ _ hr hr' (sOk_snoc ht hc) h
      | word =>
        rw [rt_word] at h
        repeat' split at h
        · cases h; exact ⟨ht, hr', fun _ z => nomatch z⟩
        · exact ih _ _ _ _ _ _ _ _ _ hd (sOk_dropLine hr') ht h
        · exact ih _ _ _ _ _ _ _ _ _ hr hr' (sOk_snoc ht hc) h
        · cases h; exact ⟨ht, hr', fun d z => by cases z; exact hc⟩
theorem gtok_ok {P : Pm} {l l' : LX} {res : List Nat} (ho : sOk l.rem) (hp : ∀ c, l.push = some c → c < 0x110000) (h : gtok P l = .ok res l') : sOk res ∧ sOk l'.rem ∧ (∀ c, l'.push = some c → c < 0x110000) := by
  obtain ⟨rem, ln, st, push⟩ := l
  cases push with
  | some c => dsimp only [gtok] at h; cases h; exact ⟨sOk_one (hp c rfl), ho, fun _ z => nomatch z⟩
  | none =>
    dsimp only [gtok] at h
    split at h
    · rename_i rem' ln' st' res' push' hr
      cases h
      exact rt_ok P rem.length rem ln st [] _ _ _ _ _ (Nat.le_refl _) ho sOk_nil hr
    · cases h
theorem strip_ok {l : List Nat} (h : sOk l) : sOk (strip l) := by
  have hA : sOk (stripA l) := by
    unfold stripA; split
    · exact fun c hc => h c (List.mem_of_mem_tail hc)
    · exact h
  unfold strip stripB; split
  · exact fun c hc => hA c (List.mem_of_mem_take (by rwa [List.dropLast_eq_take] at hc))
  · exact hA
theorem errD_ok : kqdOk 8 errD = true := by decide +kernel
theorem dstr_ok {l : List Nat} (h : sOk l) : kqdOk 8 (.str (mkS l)) = true := by simp [kqdOk, strOk_of h]
theorem rowF_ok (P : Pm) : ∀ (n : Nat) (lx : LX), sOk lx.rem → (∀ c, lx.push = some c → c < 0x110000) → ∀ d ∈ rowF P n lx, kqdOk 8 d = true := by
  intro n
  induction n with
  | zero => intro lx _ _ d hd; simp [rowF] at hd
  | succ n ih =>
    intro lx ho hp d hd
    rw [rowF] at hd
    split at hd
    · rw [List.mem_singleton.mp hd]; exact errD_ok
    · rename_i c res lx' hg
      obtain ⟨a, b, e⟩ := gtok_ok ho hp hg
      rcases List.mem_cons.mp hd with rfl | hd
      · exact dstr_ok (strip_ok a)
      · exact ih lx' b e d hd
    · rename_i lx' hg
      obtain ⟨a, b, e⟩ := gtok_ok ho hp hg
      split at hd
      · rename_i res _ hg2
        rw [List.mem_singleton.mp hd]; exact dstr_ok (strip_ok (gtok_ok b e hg2).1)
      · rw [List.mem_singleton.mp hd]; exact errD_ok
theorem pieces_ok {l : List Nat} (h : sOk l) (ps : List (Nat × Nat)) : ∀ d ∈ ps.map (pieceD l), kqdOk 8 d = true := by
  intro d hd
  obtain ⟨p, _, rfl⟩ := List.mem_map.mp hd
  exact dstr_ok (strip_ok fun c hc => h c (List.mem_of_mem_drop (List.mem_of_mem_take hc)))
/-- the first lexer's way: no comments, no quotes, split -/
noncomputable abbrev P1 : Pm := ⟨Str.ofString "", Str.ofString " \t", Str.ofString "", true⟩
noncomputable abbrev P2 : Pm := ⟨Str.ofString "", Str.ofString " \t", Str.ofString "'\"", true⟩
theorem hasC_none (c : Nat) : hasC (Str.ofString "") c = false := hasC_nil c
/-- the signs up to the next white one, and what stands behind -/
noncomputable def wordOf : List Nat → List Nat
  | [] => []
  | c :: r => if isWs c then [] else c :: wordOf r
noncomputable def restOf : List Nat → List Nat
  | [] => []
  | c :: r => if isWs c then c :: r else restOf r
theorem word_rest (r : List Nat) : wordOf r ++ restOf r = r := by
  induction r with
  | nil => rfl
  | cons c r ih => unfold wordOf restOf; split <;> simp [ih]
/-- in a word: to its end (any quotes, since the lexer splits) -/
theorem rt_wordOf (q : Str) : ∀ (r : List Nat) (ln : Int) (tok : List Nat), ∃ ln',
    rt ⟨Str.ofString "", Str.ofString " \t", q, true⟩ r ln .word tok = match restOf r with
      | [] => .ok [] ln' .dead (tok ++ wordOf r) none
      | _ :: r' => .ok r' ln' .blank (tok ++ wordOf r) none := by
  intro r
  induction r with
  | nil => intro ln tok; exact ⟨ln, by rw [rt_word_nil]; simp [restOf, wordOf]⟩
  | cons c r ih =>
    intro ln tok
    rw [rt_word]
    dsimp only
    by_cases hw : isWs c = true
    · refine ⟨ln + nlc c, ?_⟩
      rw [if_pos (by exact hw)]
      simp [restOf, wordOf, hw]
    · rw [if_neg (by exact hw), if_neg (by rw [hasC_none]; decide), if_pos (by simp)]
      obtain ⟨ln', e⟩ := ih (ln + nlc c) (tok ++ [c])
      refine ⟨ln', ?_⟩
      rw [e]
      have hw' : isWs c = false := by simpa using hw
      simp [restOf, wordOf, hw', List.append_assoc]
noncomputable def skipW : List Nat → List Nat
  | [] => []
  | c :: r => if isWs c then skipW r else c :: r
theorem skipW_le (r : List Nat) : (skipW r).length ≤ r.length := by
  induction r with
  | nil => exact Nat.le_refl _
  | cons c r ih => unfold skipW; split <;> simp <;> omega
theorem restOf_le (r : List Nat) : (restOf r).length ≤ r.length := by
  have := congrArg List.length (word_rest r)
  simp at this; omega
theorem skipW_head : ∀ (l : List Nat) {c : Nat} {r : List Nat}, skipW l = c :: r → isWs c = false := by
  intro l
  induction l with
  | nil => intro c r h; cases h
  | cons d l ih =>
    intro c r h
    unfold skipW at h
    split at h
    · exact ih h
    · cases h; simpa using ‹¬ isWs d = true›
theorem restOf_head : ∀ (l : List Nat) {c : Nat} {r : List Nat}, restOf l = c :: r → isWs c = true := by
  intro l
  induction l with
  | nil => intro c r h; cases h
  | cons d l ih =>
    intro c r h
    unfold restOf at h
    split at h
    · cases h; assumption
    · exact ih h
theorem rt_skip (q : Str) : ∀ (r : List Nat) (ln : Int), ∃ ln', rt ⟨Str.ofString "", Str.ofString " \t", q, true⟩ r ln .blank [] = rt ⟨Str.ofString "", Str.ofString " \t", q, true⟩ (skipW r) ln' .blank [] := by
  intro r
  induction r with
  | nil => intro ln; exact ⟨ln, rfl⟩
  | cons c r ih =>
    intro ln
    by_cases hw : isWs c = true
    · obtain ⟨ln', e⟩ := ih (ln + nlc c)
      refine ⟨ln', ?_⟩
      rw [rt_blank, if_pos (by exact hw), e]
      simp [skipW, hw]
    · exact ⟨ln, by simp [skipW, hw]⟩
/-- the runs of signs that are not white -/
noncomputable def runs (l : List Nat) : List (List Nat) := match h : skipW l with
  | [] => []
  | c :: r => (c :: wordOf r) :: runs (restOf r)
termination_by l.length
decreasing_by
  have h1 := skipW_le l
  have h2 := restOf_le r
  rw [h] at h1
  simp at h1; omega
theorem runs_nil {l : List Nat} (h : skipW l = []) : runs l = [] := by
  rw [runs]; split
  · rfl
  · rename_i c r e; rw [h] at e; cases e
theorem runs_cons {l : List Nat} {c : Nat} {r : List Nat} (h : skipW l = c :: r) : runs l = (c :: wordOf r) :: runs (restOf r) := by
  rw [runs]; split
  · rename_i e; rw [h] at e; cases e
  · rename_i c' r' e; rw [h] at e; cases e; rfl
theorem runs_skip {l : List Nat} {c : Nat} (h : isWs c = true) : runs (c :: l) = runs l := by
  have e : skipW (c :: l) = skipW l := by simp [skipW, h]
  cases h2 : skipW l with
  | nil => rw [runs_nil h2, runs_nil (e.trans h2)]
  | cons d r => rw [runs_cons h2, runs_cons (e.trans h2)]
/-- a word from a blank state: the sign is no white sign and no quote -/
theorem gtok_word {q : Str} {l : List Nat} {ln : Int} {c : Nat} {r : List Nat} (h : skipW l = c :: r) (hq : hasC q c = false) : ∃ ln',
    gtok ⟨Str.ofString "", Str.ofString " \t", q, true⟩ ⟨l, ln, .blank, none⟩ = match restOf r with
      | [] => .ok (c :: wordOf r) ⟨[], ln', .dead, none⟩
      | _ :: r' => .ok (c :: wordOf r) ⟨r', ln', .blank, none⟩ := by
  obtain ⟨ln1, e1⟩ := rt_skip q l ln
  obtain ⟨ln2, e2⟩ := rt_wordOf q r (ln1 + nlc c) [c]
  have hw : ¬ hasC (Str.ofString " \t") c = true := by have := skipW_head l h; unfold isWs at this; simp [this]
  refine ⟨ln2, ?_⟩
  have e3 : rt ⟨Str.ofString "", Str.ofString " \t", q, true⟩ l ln .blank [] = rt ⟨Str.ofString "", Str.ofString " \t", q, true⟩ r (ln1 + nlc c) .word [c] := by
    rw [e1, h, rt_blank]
    dsimp only
    rw [if_neg hw, if_neg (by rw [hasC_none]; decide)]
    split
    · rfl
    · rw [if_neg (by rw [hq]; decide), if_pos rfl]
  unfold gtok
  dsimp only
  rw [e3, e2]
  cases restOf r <;> simp
theorem gtok_none {q : Str} {l : List Nat} {ln : Int} (h : skipW l = []) : ∃ ln', gtok ⟨Str.ofString "", Str.ofString " \t", q, true⟩ ⟨l, ln, .blank, none⟩ = .ok [] ⟨[], ln', .dead, none⟩ := by
  obtain ⟨ln1, e1⟩ := rt_skip q l ln
  refine ⟨ln1, ?_⟩
  unfold gtok
  dsimp only
  rw [e1, h, rt_blank_nil]
theorem gtok_dead {P : Pm} {ln : Int} : gtok P ⟨[], ln, .dead, none⟩ = .ok [] ⟨[], ln, .dead, none⟩ := by
  unfold gtok; dsimp only; rw [rt_dead_nil]
noncomputable def runD (w : List Nat) : Dat := .str (mkS (strip w))
theorem strip_nil : strip [] = [] := rfl
theorem row_dead {P : Pm} {ln : Int} (n : Nat) : rowF P (n + 1) ⟨[], ln, .dead, none⟩ = [.str (Str.ofString "")] := by
  rw [rowF, gtok_dead]; dsimp only; rw [gtok_dead]; dsimp only; rw [strip_nil, mkS_nil]
theorem row_none {q : Str} {l : List Nat} {ln : Int} (n : Nat) (h : skipW l = []) : rowF ⟨Str.ofString "", Str.ofString " \t", q, true⟩ (n + 1) ⟨l, ln, .blank, none⟩ = [.str (Str.ofString "")] := by
  obtain ⟨ln', e⟩ := gtok_none (q := q) (ln := ln) h
  rw [rowF, e]; dsimp only; rw [gtok_dead]; dsimp only; rw [strip_nil, mkS_nil]
theorem row1 : ∀ (n : Nat) (l : List Nat) (ln : Int), l.length < n → rowF P1 n ⟨l, ln, .blank, none⟩ = (runs l).map runD ++ [.str (Str.ofString "")] := by
  intro n
  induction n with
  | zero => intro l ln h; omega
  | succ n ih =>
    intro l ln hn
    cases h : skipW l with
    | nil => rw [runs_nil h]; exact row_none n h
    | cons c r =>
      obtain ⟨ln', e⟩ := gtok_word (q := Str.ofString "") (ln := ln) h (hasC_none c)
      have h1 := skipW_le l
      have h2 := restOf_le r
      rw [h] at h1
      simp only [List.length_cons] at h1
      rw [runs_cons h, rowF, e]
      cases h3 : restOf r with
      | nil =>
        dsimp only
        rw [runs_nil (l := []) rfl]
        obtain ⟨k, rfl⟩ : ∃ k, n = k + 1 := ⟨n - 1, by omega⟩
        rw [row_dead]; rfl
      | cons d r' =>
        dsimp only
        rw [h3] at h2
        simp only [List.length_cons] at h2
        rw [ih r' ln' (by omega), runs_skip (restOf_head r h3)]; rfl
/-- the runs with their places -/
noncomputable def pcs (p : Nat) (l : List Nat) : List (Nat × Nat) := match h : skipW l with
  | [] => []
  | c :: r => (p + (l.length - (skipW l).length), p + (l.length - (skipW l).length) + 1 + (wordOf r).length) :: pcs (p + (l.length - (skipW l).length) + 1 + (wordOf r).length) (restOf r)
termination_by l.length
decreasing_by
  have h1 := skipW_le l
  have h2 := restOf_le r
  rw [h] at h1
  simp at h1; omega
theorem pcs_nil {p : Nat} {l : List Nat} (h : skipW l = []) : pcs p l = [] := by
  rw [pcs]; split
  · rfl
  · rename_i c r e; rw [h] at e; cases e
theorem pcs_cons {p : Nat} {l : List Nat} {c : Nat} {r : List Nat} (h : skipW l = c :: r) : pcs p l = (p + (l.length - (r.length + 1)), p + (l.length - (r.length + 1)) + 1 + (wordOf r).length) :: pcs (p + (l.length - (r.length + 1)) + 1 + (wordOf r).length) (restOf r) := by
  rw [pcs]; split
  · rename_i e; rw [h] at e; cases e
  · rename_i c' r' e; rw [h] at e; cases e; simp [h]
theorem pcs_ws {p : Nat} {l : List Nat} {c : Nat} (h : isWs c = true) : pcs p (c :: l) = pcs (p + 1) l := by
  have e : skipW (c :: l) = skipW l := by simp [skipW, h]
  cases h2 : skipW l with
  | nil => rw [pcs_nil h2, pcs_nil (e.trans h2)]
  | cons d r =>
    have := skipW_le l
    rw [h2] at this
    simp only [List.length_cons] at this
    rw [pcs_cons h2, pcs_cons (e.trans h2)]
    simp only [List.length_cons]
    rw [show p + (l.length + 1 - (r.length + 1)) = p + 1 + (l.length - (r.length + 1)) from by omega]
theorem pcs_no {p : Nat} {r : List Nat} {c : Nat} (h : isWs c = false) : pcs p (c :: r) = (p, p + 1 + (wordOf r).length) :: pcs (p + 1 + (wordOf r).length) (restOf r) := by
  have e : skipW (c :: r) = c :: r := by simp [skipW, h]
  rw [pcs_cons e]; simp
noncomputable def gap (b k : Nat) (suf : List Nat) : List (Nat × Nat) := if b < k then (b, k + (wordOf suf).length) :: pcs (k + (wordOf suf).length) (restOf suf) else pcs k suf
theorem pF_gap (l : List Nat) : ∀ (suf : List Nat) (k : Nat), l.drop k = suf → k ≤ l.length → (pF l k).2 ≤ k ∧ (pF l (l.length + 1)).1 = (pF l k).1 ++ gap (pF l k).2 k suf := by
  have bnd : ∀ k, (pF l k).2 ≤ k := by
    intro k
    induction k with
    | zero => simp [pF]
    | succ k ih =>
      rw [pF]
      split
      · split <;> simp
      · omega
  intro suf
  induction suf with
  | nil =>
    intro k hk hkl
    refine ⟨bnd k, ?_⟩
    have e : k = l.length := by
      have := congrArg List.length hk
      simp at this; omega
    subst e
    rw [pF, if_pos (.inl rfl)]
    unfold gap
    split <;> simp [wordOf, restOf, pcs_nil (l := []) rfl]
  | cons c r ih =>
    intro k hk hkl
    refine ⟨bnd k, ?_⟩
    have hlt : k < l.length := by
      have := congrArg List.length hk
      simp at this; omega
    have hc : l.getD k 0 = c := by
      have := congrArg List.head? hk
      rw [List.head?_drop] at this
      simp [List.getD_eq_getElem?_getD, this]
    have hr : l.drop (k + 1) = r := by
      rw [← List.drop_drop, hk]; rfl
    obtain ⟨_, e⟩ := ih (k + 1) hr (by omega)
    rw [e]
    have hb := bnd k
    by_cases hw : isWs c = true
    · rw [pF, if_pos (.inr (by rw [hc]; exact hw))]
      unfold gap
      have e1 : wordOf (c :: r) = [] := by simp [wordOf, hw]
      have e2 : restOf (c :: r) = c :: r := by simp [restOf, hw]
      by_cases hbk : (pF l k).2 < k
      · simp [hbk, e1, e2, pcs_ws hw]
      · simp [hbk, pcs_ws hw]
    · have hw' : isWs c = false := by simpa using hw
      have e0 : pF l (k + 1) = pF l k := by
        rw [pF, if_neg]
        rintro (h | h)
        · omega
        · rw [hc] at h; exact hw h
      rw [e0]
      unfold gap
      have e1 : wordOf (c :: r) = c :: wordOf r := by simp [wordOf, hw']
      have e2 : restOf (c :: r) = restOf r := by simp [restOf, hw']
      rw [if_pos (by omega)]
      by_cases hbk : (pF l k).2 < k
      · rw [if_pos hbk, e1, e2]; simp [Nat.add_comm, Nat.add_left_comm, Nat.add_assoc]
      · rw [if_neg hbk, pcs_no hw', show (pF l k).2 = k from by omega]
theorem pF_pcs (l : List Nat) : (pF l (l.length + 1)).1 = pcs 0 l := by
  have := (pF_gap l l 0 rfl (Nat.zero_le _)).2
  simpa [pF, gap] using this
theorem skip_drop : ∀ l : List Nat, l.drop (l.length - (skipW l).length) = skipW l := by
  intro l
  induction l with
  | nil => rfl
  | cons c r ih =>
    by_cases hw : isWs c = true
    · have e : skipW (c :: r) = skipW r := by simp [skipW, hw]
      have := skipW_le r
      rw [e, List.length_cons, show r.length + 1 - (skipW r).length = (r.length - (skipW r).length) + 1 from by omega, List.drop_succ_cons, ih]
    · have e : skipW (c :: r) = c :: r := by simp [skipW, hw]
      rw [e]; simp
theorem word_take (r : List Nat) : r.take (wordOf r).length = wordOf r ∧ r.drop (wordOf r).length = restOf r := by
  have h := word_rest r
  refine ⟨?_, ?_⟩
  · have e : r.take (wordOf r).length = (wordOf r ++ restOf r).take (wordOf r).length := by rw [h]
    rw [e]; exact List.take_left
  · have e : r.drop (wordOf r).length = (wordOf r ++ restOf r).drop (wordOf r).length := by rw [h]
    rw [e]; exact List.drop_left
theorem pcs_runs (L : List Nat) : ∀ (n : Nat) (l : List Nat) (p : Nat), l.length ≤ n → L.drop p = l → (pcs p l).map (fun q => (L.drop q.1).take (q.2 - q.1)) = runs l := by
  intro n
  induction n with
  | zero =>
    intro l p hn _
    obtain rfl : l = [] := List.length_eq_zero_iff.mp (Nat.le_zero.mp hn)
    rw [pcs_nil rfl, runs_nil rfl]; rfl
  | succ n ih =>
    intro l p hn hp
    cases h : skipW l with
    | nil => rw [pcs_nil h, runs_nil h]; rfl
    | cons c r =>
      have h1 := skipW_le l
      have h2 := restOf_le r
      have h3 := skip_drop l
      rw [h] at h1 h3
      simp only [List.length_cons] at h1 h3
      have hd : L.drop (p + (l.length - (r.length + 1))) = c :: r := by rw [← List.drop_drop, hp, h3]
      rw [pcs_cons h, runs_cons h, List.map_cons]
      congr 1
      · dsimp only
        rw [hd, show p + (l.length - (r.length + 1)) + 1 + (wordOf r).length - (p + (l.length - (r.length + 1))) = (wordOf r).length + 1 from by omega, List.take_succ_cons, (word_take r).1]
      · refine ih _ _ (by omega) ?_
        rw [show p + (l.length - (r.length + 1)) + 1 + (wordOf r).length = p + (l.length - (r.length + 1)) + ((wordOf r).length + 1) from by omega, ← List.drop_drop, hd, List.drop_succ_cons, (word_take r).2]
theorem plain1 (l : List Nat) : rowF ⟨Str.ofString "", Str.ofString " \t", Str.ofString "", true⟩ (l.length + 1) ⟨l, 1, .blank, none⟩ = (pF l (l.length + 1)).1.map (pieceD l) ++ [.str (Str.ofString "")] := by
  rw [row1 _ l 1 (Nat.lt_succ_self _), pF_pcs, ← pcs_runs l l.length l 0 (Nat.le_refl _) rfl, List.map_map]
  rfl
/-- up to the next like mark (it too), and what stands behind; none if there is none -/
noncomputable def qcut (q : Nat) : List Nat → Option (List Nat × List Nat)
  | [] => none
  | c :: r => if c = q then some ([c], r) else (qcut q r).map fun z => (c :: z.1, z.2)
theorem rt_qcut (P : Pm) (q : Nat) : ∀ (r : List Nat) (ln : Int) (tok : List Nat), ∃ ln', rt P r ln (.quot q) tok = match qcut q r with
    | none => .err
    | some z => .ok z.2 ln' .blank (tok ++ z.1) none := by
  intro r
  induction r with
  | nil => intro ln tok; exact ⟨ln, by rw [rt_quot_nil]; rfl⟩
  | cons c r ih =>
    intro ln tok
    rw [rt_quot]
    by_cases h : c = q
    · refine ⟨ln + nlc c, ?_⟩
      rw [if_pos h]; simp [qcut, h]
    · rw [if_neg h]
      obtain ⟨ln', e⟩ := ih (ln + nlc c) (tok ++ [c])
      refine ⟨ln', ?_⟩
      rw [e]
      simp only [qcut, h, if_false]
      cases qcut q r <;> simp
theorem word_q {c : Nat} (h : hasC (Str.ofString "'\"") c = true) : hasC wordS c = false ∧ hasC (Str.ofString " \t") c = false ∧ (c = 34 ∨ c = 39) := by
  have h2 : c = 39 ∨ c = 34 := by
    have e : (Str.ofString "'\"").cps.toList = [39, 34] := by decide +kernel
    unfold hasC at h
    rw [e] at h
    simpa using h
  rcases h2 with rfl | rfl
  · exact ⟨by decide +kernel, by decide +kernel, .inr rfl⟩
  · exact ⟨by decide +kernel, by decide +kernel, .inl rfl⟩
theorem gtok_quote {l : List Nat} {ln : Int} {c : Nat} {r : List Nat} (h : skipW l = c :: r) (hq : hasC (Str.ofString "'\"") c = true) : ∃ ln', gtok P2 ⟨l, ln, .blank, none⟩ = match qcut c r with
    | none => .err
    | some z => .ok (c :: z.1) ⟨z.2, ln', .blank, none⟩ := by
  obtain ⟨ln1, e1⟩ := rt_skip (Str.ofString "'\"") l ln
  obtain ⟨ln2, e2⟩ := rt_qcut P2 c r (ln1 + nlc c) [c]
  obtain ⟨w1, w2, _⟩ := word_q hq
  refine ⟨ln2, ?_⟩
  have e3 : rt P2 l ln .blank [] = rt P2 r (ln1 + nlc c) (.quot c) [c] := by
    rw [e1, h, rt_blank]
    dsimp only
    rw [if_neg (by rw [w2]; decide), if_neg (by rw [hasC_none]; decide), if_neg (by rw [w1]; decide), if_pos hq]
  unfold gtok
  dsimp only
  rw [e3, e2]
  cases qcut c r <;> simp
theorem qcut_none {c : Nat} : ∀ {r : List Nat}, qcut c r = none → ∀ i, i < r.length → r.getD i 0 ≠ c
  | [], _, i, hi => by simp at hi
  | d :: r, h, i, hi => by
    unfold qcut at h
    split at h
    · cases h
    · rename_i hd
      have h2 : qcut c r = none := by simpa using h
      cases i with
      | zero => simpa using hd
      | succ i => have := qcut_none h2 i (by simpa using hi); simpa using this
theorem qcut_some {c : Nat} : ∀ {r : List Nat} {z : List Nat × List Nat}, qcut c r = some z → 1 ≤ z.1.length ∧ r = z.1 ++ z.2 ∧ r.getD (z.1.length - 1) 0 = c ∧ z.1.getLast? = some c ∧ ∀ i, i < z.1.length - 1 → r.getD i 0 ≠ c
  | [], z, h => by cases h
  | d :: r, z, h => by
    unfold qcut at h
    split at h
    · rename_i hd
      cases h
      refine ⟨by simp, by simp, by simpa using hd, by simpa using hd, fun i hi => by simp at hi⟩
    · rename_i hd
      cases h2 : qcut c r with
      | none => rw [h2] at h; cases h
      | some y =>
        rw [h2] at h
        cases h
        obtain ⟨a, b, e, g, f⟩ := qcut_some h2
        refine ⟨by simp, by simp [← b], ?_, ?_, fun i hi => ?_⟩
        · obtain ⟨m, hm⟩ : ∃ m, y.1.length = m + 1 := ⟨y.1.length - 1, by omega⟩
          simp only [List.length_cons, hm, Nat.add_sub_cancel] at e ⊢
          simpa using e
        · rw [List.getLast?_cons, g]; rfl
        · cases i with
          | zero => simpa using hd
          | succ i =>
            have := f i (by simp at hi; omega)
            simpa using this
/-- what find3 tells, by qcut -/
theorem find_qcut (pre r : List Nat) (c : Nat) : Txt.find3 (mkS (pre ++ r)) (mkS [c]) (pre.length : Int) = match qcut c r with
    | none => -1
    | some z => ((pre.length + z.1.length - 1 : Nat) : Int) := by
  have hf : fromIndex (mkS (pre ++ r)).length ((pre.length : Nat) : Int) = pre.length := by unfold fromIndex; split <;> omega
  have g : ∀ v, pre.length ≤ v → (mkS (pre ++ r)).cps.getD v 0 = r.getD (v - pre.length) 0 := fun v hv => by
    rw [getD_mkS, List.getD_eq_getElem?_getD, List.getElem?_append_right hv, ← List.getD_eq_getElem?_getD]
  rcases StrLaws.find3_spec (mkS (pre ++ r)) c ((pre.length : Nat) : Int) with ⟨h, hn⟩ | ⟨k, h, h1, h2, h3, h4⟩
  · refine Eq.trans h ?_
    cases hq : qcut c r with
    | none => rfl
    | some z =>
      exfalso
      obtain ⟨a, b, e, _, f⟩ := qcut_some hq
      have hl := congrArg List.length b
      rw [List.length_append] at hl
      refine hn (pre.length + (z.1.length - 1)) (by rw [hf]; omega) (by rw [mkS_length, List.length_append]; omega) ?_
      rw [g _ (by omega), Nat.add_sub_cancel_left]; exact e
  · refine Eq.trans h ?_
    rw [hf] at h1 h4
    rw [mkS_length, List.length_append] at h2
    rw [g k h1] at h3
    cases hq : qcut c r with
    | none => exact absurd h3 (qcut_none hq _ (by omega))
    | some z =>
      obtain ⟨a, b, e, _, f⟩ := qcut_some hq
      have hl := congrArg List.length b
      rw [List.length_append] at hl
      dsimp only
      have c1 : ¬ (k - pre.length < z.1.length - 1) := fun q => f _ q h3
      have c2 : ¬ (z.1.length - 1 < k - pre.length) := fun q => h4 (pre.length + (z.1.length - 1)) (by omega) (by omega) (by rw [g _ (by omega), Nat.add_sub_cancel_left]; exact e)
      congr 1
      omega
theorem bad_qcut {L : List Nat} {b c : Nat} {r : List Nat} (h : L.drop b = c :: r) (hq : hasC (Str.ofString "'\"") c = true) (e : Nat) : badP L (b, e) = !((match qcut c r with
    | none => (-1 : Int)
    | some z => ((b + z.1.length : Nat) : Int)) == (e : Int) - 1) := by
  have hb : b < L.length := by
    have := congrArg List.length h
    simp at this; omega
  have hL : L = (L.take b ++ [c]) ++ r := by
    rw [List.append_assoc, List.singleton_append, ← h, List.take_append_drop]
  have hlen : (L.take b ++ [c]).length = b + 1 := by simp; omega
  have hc : L.getD b 0 = c := by
    have := congrArg List.head? h
    rw [List.head?_drop] at this
    simp [List.getD_eq_getElem?_getD, this]
  have f := find_qcut (L.take b ++ [c]) r c
  rw [← hL, hlen] at f
  unfold badP
  dsimp only
  rw [hc, hq, show ((b : Int) + 1) = ((b + 1 : Nat) : Int) from rfl, f]
  cases hz : qcut c r with
  | none => rfl
  | some z =>
    dsimp only
    rw [show b + 1 + z.1.length - 1 = b + z.1.length from by omega]; rfl
theorem cut_word {c : Nat} {r : List Nat} {z : List Nat × List Nat} (h : qcut c r = some z) (hl : z.1.length = (wordOf r).length) : z.1 = wordOf r ∧ z.2 = restOf r := by
  obtain ⟨_, e, _⟩ := qcut_some h
  have := word_rest r
  rw [e] at this hl
  have w := List.append_inj (this.trans rfl) (by rw [← hl])
  rw [← e] at w
  exact ⟨w.1.symm, w.2.symm⟩
theorem row2 (L : List Nat) : ∀ (n : Nat) (l : List Nat) (p : Nat) (ln : Int), l.length < n → L.drop p = l → (∀ q ∈ pcs p l, badP L q = false) → rowF P2 n ⟨l, ln, .blank, none⟩ = (runs l).map runD ++ [.str (Str.ofString "")] := by
  intro n
  induction n with
  | zero => intro l p ln h; omega
  | succ n ih =>
    intro l p ln hn hp hbad
    cases h : skipW l with
    | nil => rw [runs_nil h]; exact row_none n h
    | cons c r =>
      have h1 := skipW_le l
      have h2 := restOf_le r
      have h3 := skip_drop l
      rw [h] at h1 h3
      simp only [List.length_cons] at h1 h3
      have hd : L.drop (p + (l.length - (r.length + 1))) = c :: r := by rw [← List.drop_drop, hp, h3]
      rw [pcs_cons h] at hbad
      have hb1 := hbad _ (.head _)
      have hb2 : ∀ q ∈ pcs (p + (l.length - (r.length + 1)) + 1 + (wordOf r).length) (restOf r), badP L q = false := fun q hq => hbad q (.tail _ hq)
      have hdr : L.drop (p + (l.length - (r.length + 1)) + 1 + (wordOf r).length) = restOf r := by
        rw [show p + (l.length - (r.length + 1)) + 1 + (wordOf r).length = p + (l.length - (r.length + 1)) + ((wordOf r).length + 1) from by omega, ← List.drop_drop, hd, List.drop_succ_cons, (word_take r).2]
      rw [runs_cons h]
      by_cases hq : hasC (Str.ofString "'\"") c = true
      · obtain ⟨ln', e⟩ := gtok_quote (ln := ln) h hq
        rw [bad_qcut hd hq] at hb1
        cases hz : qcut c r with
        | none =>
          rw [hz] at hb1
          simp only [Bool.not_eq_false', beq_iff_eq] at hb1
          omega
        | some z =>
          rw [hz] at hb1 e
          simp only [Bool.not_eq_false', beq_iff_eq] at hb1
          obtain ⟨z1, z2⟩ := cut_word hz (by omega)
          dsimp only at e
          rw [rowF, e]
          dsimp only
          rw [z1, z2, ih (restOf r) _ ln' (by omega) hdr hb2]; rfl
      · have hq' : hasC (Str.ofString "'\"") c = false := by simpa using hq
        obtain ⟨ln', e⟩ := gtok_word (q := Str.ofString "'\"") (ln := ln) h hq'
        rw [rowF, e]
        cases h4 : restOf r with
        | nil =>
          dsimp only
          rw [runs_nil (l := []) rfl]
          obtain ⟨k, rfl⟩ : ∃ k, n = k + 1 := ⟨n - 1, by omega⟩
          rw [row_dead]; rfl
        | cons d r' =>
          dsimp only
          rw [h4] at h2 hdr hb2
          simp only [List.length_cons] at h2
          have hw := restOf_head r h4
          rw [pcs_ws hw] at hb2
          rw [ih r' _ ln' (by omega) (by rw [← List.drop_drop, hdr]; rfl) hb2, runs_skip hw]; rfl
theorem plain2 (l : List Nat) (h : (pF l (l.length + 1)).1.findIdx (badP l) = (pF l (l.length + 1)).1.length) : rowF ⟨Str.ofString "", Str.ofString " \t", Str.ofString "'\"", true⟩ (l.length + 1) ⟨l, 1, .blank, none⟩ = (pF l (l.length + 1)).1.map (pieceD l) ++ [.str (Str.ofString "")] := by
  rw [pF_pcs] at h ⊢
  rw [row2 l _ l 0 1 (Nat.lt_succ_self _) rfl (fun q hq => by simpa using List.findIdx_eq_length.mp h q hq), ← pcs_runs l l.length l 0 (Nat.le_refl _) rfl, List.map_map]
  rfl
theorem stripB_len (w : List Nat) : (stripB w).length = w.length ∨ (w.getLast? = some 34 ∧ (stripB w).length = w.length - 1) := by
  unfold stripB; split
  · rename_i h; exact .inr ⟨h, by simp⟩
  · exact .inl rfl
theorem strip_q34 {z : List Nat} (hl : z.getLast? = some 34) : strip (34 :: z) = z.dropLast := by simp [strip, stripA, stripB, hl]
theorem strip_h34 (z : List Nat) : strip (34 :: z) = stripB z := by simp [strip, stripA]
theorem strip_h39 (z : List Nat) : strip (39 :: z) = stripB (39 :: z) := by simp [strip, stripA]
theorem strip_q39 {z : List Nat} (hl : z.getLast? = some 39) : strip (39 :: z) = 39 :: z := by
  rw [strip_h39, stripB, if_neg]
  rw [List.getLast?_cons, hl]; simp
theorem word_noWs : ∀ (r : List Nat), ∀ c ∈ wordOf r, isWs c = false := by
  intro r
  induction r with
  | nil => intro c hc; simp [wordOf] at hc
  | cons d r ih =>
    intro c hc
    unfold wordOf at hc
    split at hc
    · simp at hc
    · rename_i hd
      rcases List.mem_cons.mp hc with rfl | hc
      · simpa using hd
      · exact ih c hc
theorem runs_noWs : ∀ (n : Nat) (l : List Nat), l.length ≤ n → ∀ w ∈ runs l, ∀ c ∈ w, isWs c = false := by
  intro n
  induction n with
  | zero =>
    intro l hn w hw
    obtain rfl : l = [] := List.length_eq_zero_iff.mp (Nat.le_zero.mp hn)
    rw [runs_nil rfl] at hw; cases hw
  | succ n ih =>
    intro l hn w hw c hc
    cases h : skipW l with
    | nil => rw [runs_nil h] at hw; cases hw
    | cons d r =>
      have h1 := skipW_le l
      have h2 := restOf_le r
      rw [h] at h1
      simp only [List.length_cons] at h1
      rw [runs_cons h] at hw
      rcases List.mem_cons.mp hw with rfl | hw
      · rcases List.mem_cons.mp hc with rfl | hc
        · exact skipW_head l h
        · exact word_noWs r c hc
      · exact ih (restOf r) (by omega) w hw c hc
theorem strip_sub {l : List Nat} {c : Nat} (h : c ∈ strip l) : c ∈ l := by
  have hA : ∀ d ∈ stripA l, d ∈ l := by
    intro d hd; unfold stripA at hd; split at hd
    · exact List.mem_of_mem_tail hd
    · exact hd
  unfold strip stripB at h; split at h
  · exact hA c (List.mem_of_mem_take (by rwa [List.dropLast_eq_take] at h))
  · exact hA c h
theorem dat_str_inj {a b : List Nat} (h : Dat.str (mkS a) = Dat.str (mkS b)) : a = b := by
  cases h' : h; exact mkS_inj (by injection h)
theorem ws34 : isWs 34 = false := by decide +kernel
theorem ws39 : isWs 39 = false := by decide +kernel
/-- a quoted token that reaches over a white sign is no item of the first row -/
theorem tail_ne {R : List Nat} {m : Nat} {ln : Int} (hR : R = [] ∨ ∃ d R', R = d :: R' ∧ isWs d = true) :
    rowF P2 (m + 1) ⟨34 :: R, ln, .blank, none⟩ ≠ (runs R).map runD ++ [.str (Str.ofString "")] := by
  have hs : skipW (34 :: R) = 34 :: R := by simp [skipW, ws34]
  obtain ⟨ln', e⟩ := gtok_quote (ln := ln) hs (by decide +kernel)
  intro h
  rw [rowF, e] at h
  cases hq : qcut 34 R with
  | none =>
    rw [hq] at h
    dsimp only at h
    cases hr : runs R with
    | nil => rw [hr] at h; simp [errD] at h
    | cons w ws => rw [hr] at h; simp [errD, runD] at h
  | some y =>
    rw [hq] at h
    dsimp only at h
    obtain ⟨a, b, e2, g, f⟩ := qcut_some hq
    rw [strip_q34 g] at h
    obtain ⟨d, y', hy⟩ : ∃ d y', y.1 = d :: y' := by
      cases hy : y.1 with
      | nil => rw [hy] at a; simp at a
      | cons d y' => exact ⟨d, y', rfl⟩
    have hd : isWs d = true := by
      rcases hR with rfl | ⟨d2, R', rfl, hw⟩
      · rw [hy] at b; cases b
      · rw [hy] at b; cases b; exact hw
    have hy2 : y' ≠ [] := by
      rintro rfl
      rw [hy] at g
      simp at g
      subst g
      rw [ws34] at hd; cases hd
    have hmem : d ∈ y.1.dropLast := by
      rw [hy]
      cases y' with
      | nil => exact absurd rfl hy2
      | cons u v => simp
    cases hr : runs R with
    | nil =>
      rw [hr] at h
      simp only [List.map_nil, List.nil_append, List.cons.injEq] at h
      have := dat_str_inj (h.1.trans (by rw [← mkS_nil]))
      rw [this] at hmem; cases hmem
    | cons w ws =>
      rw [hr] at h
      simp only [List.map_cons, List.cons_append, List.cons.injEq, runD] at h
      have := dat_str_inj h.1
      rw [this] at hmem
      have := runs_noWs R.length R (Nat.le_refl _) w (by rw [hr]; exact .head _) d (strip_sub hmem)
      rw [hd] at this; cases this
theorem rest_shape (r : List Nat) : restOf r = [] ∨ ∃ d R', restOf r = d :: R' ∧ isWs d = true := by
  cases h : restOf r with
  | nil => exact .inl rfl
  | cons d R' => exact .inr ⟨d, R', rfl, restOf_head r h⟩
theorem bad_head_ne {c : Nat} {r : List Nat} {z : List Nat × List Nat} (hc : c = 34 ∨ c = 39) (hz : qcut c r = some z) (hne : z.1.length ≠ (wordOf r).length) (n : Nat) (ln : Int) (hn : z.2.length < n) :
    (Dat.str (mkS (strip (c :: z.1))) :: rowF P2 n ⟨z.2, ln, .blank, none⟩) ≠ runD (c :: wordOf r) :: ((runs (restOf r)).map runD ++ [.str (Str.ofString "")]) := by
  intro h
  simp only [List.cons.injEq] at h
  obtain ⟨h1, h2⟩ := h
  have hs := dat_str_inj h1
  obtain ⟨a, b, e, g, f⟩ := qcut_some hz
  have hw := word_rest r
  have hlen := congrArg List.length hs
  rcases Nat.lt_or_gt_of_ne hne with hlt | hgt
  · rcases hc with rfl | rfl
    · rw [strip_q34 g, strip_h34] at hlen
      have := stripB_len (wordOf r)
      simp at hlen
      omega
    · rw [strip_q39 g, strip_h39] at hlen
      rcases stripB_len (39 :: wordOf r) with q | ⟨q1, q2⟩
      · rw [q] at hlen; simp at hlen; omega
      · rw [q2] at hlen
        simp at hlen
        have hwn : wordOf r ≠ [] := by intro q; rw [q] at hlt; simp at hlt
        have hl34 : (wordOf r).getLast? = some 34 := by
          rw [List.getLast?_cons, List.getLast?_eq_some_getLast hwn] at q1
          rw [List.getLast?_eq_some_getLast hwn]; simpa using q1
        obtain ⟨u, hu⟩ := List.getLast?_eq_some_iff.mp hl34
        rw [hu] at hw hlen
        rw [b, List.append_assoc] at hw
        simp at hlen
        have hz2 : z.2 = 34 :: restOf r := by
          have := (List.append_inj hw (by omega)).2
          rw [← b] at this
          exact this.symm
        obtain ⟨m, rfl⟩ : ∃ m, n = m + 1 := ⟨n - 1, by omega⟩
        rw [hz2] at h2
        exact tail_ne (rest_shape r) h2
  · have h3 : z.1 ++ z.2 = wordOf r ++ restOf r := by rw [hw, ← b]
    obtain ⟨v, hv1, hv2⟩ : ∃ v, z.1 = wordOf r ++ v ∧ restOf r = v ++ z.2 := by
      rcases List.append_eq_append_iff.mp h3 with ⟨v, q1, q2⟩ | ⟨v, q1, q2⟩
      · rw [q1] at hgt; simp at hgt; omega
      · exact ⟨v, q1, q2⟩
    have hvl : 2 ≤ v.length := by
      cases v with
      | nil => rw [hv1] at hgt; simp at hgt
      | cons d v' =>
        cases v' with
        | cons _ _ => simp
        | nil =>
          exfalso
          have hd := restOf_head r hv2
          rw [hv1] at g
          simp at g
          rcases hc with rfl | rfl
          · rw [g, ws34] at hd; cases hd
          · rw [g, ws39] at hd; cases hd
    have hzl : z.1.length = (wordOf r).length + v.length := by rw [hv1, List.length_append]
    rcases hc with rfl | rfl
    · rw [strip_q34 g, strip_h34] at hlen
      have := stripB_len (wordOf r)
      simp at hlen
      omega
    · rw [strip_q39 g, strip_h39] at hlen
      have := stripB_len (39 :: wordOf r)
      simp at hlen this
      omega
noncomputable def closeAt (L : List Nat) (b : Nat) : Int := Txt.find3 (mkS L) (mkS [L.getD b 0]) ((b : Int) + 1)
noncomputable def valD (L : List Nat) (b : Nat) : Dat := if closeAt L b < 0 then errD else .str (mkS (strip ((L.drop b).take ((closeAt L b).toNat + 1 - b))))
theorem close_cut {L : List Nat} {b c : Nat} {r : List Nat} (h : L.drop b = c :: r) : closeAt L b = match qcut c r with
    | none => (-1 : Int)
    | some z => ((b + z.1.length : Nat) : Int) := by
  have hb : b < L.length := by
    have := congrArg List.length h
    simp at this; omega
  have hL : L = (L.take b ++ [c]) ++ r := by
    rw [List.append_assoc, List.singleton_append, ← h, List.take_append_drop]
  have hlen : (L.take b ++ [c]).length = b + 1 := by simp; omega
  have hc : L.getD b 0 = c := by
    have := congrArg List.head? h
    rw [List.head?_drop] at this
    simp [List.getD_eq_getElem?_getD, this]
  have f := find_qcut (L.take b ++ [c]) r c
  rw [← hL, hlen] at f
  unfold closeAt
  rw [hc, show ((b : Int) + 1) = ((b + 1 : Nat) : Int) from rfl, f]
  cases hz : qcut c r with
  | none => rfl
  | some z =>
    dsimp only
    rw [show b + 1 + z.1.length - 1 = b + z.1.length from by omega]
theorem row3 (L : List Nat) : ∀ (n : Nat) (l : List Nat) (p : Nat) (ln : Int), l.length < n → L.drop p = l → ∀ (k : Nat) (q : Nat × Nat), (pcs p l).findIdx (badP L) = k → (pcs p l)[k]? = some q →
    (rowF P2 n ⟨l, ln, .blank, none⟩).take (k + 1) = ((pcs p l).map (pieceD L)).take k ++ [valD L q.1] ∧ rowF P2 n ⟨l, ln, .blank, none⟩ ≠ (runs l).map runD ++ [.str (Str.ofString "")] := by
  intro n
  induction n with
  | zero => intro l p ln h; omega
  | succ n ih =>
    intro l p ln hn hp k q hk hq
    cases h : skipW l with
    | nil => rw [pcs_nil h] at hq; simp at hq
    | cons c r =>
      have h1 := skipW_le l
      have h2 := restOf_le r
      have h3 := skip_drop l
      rw [h] at h1 h3
      simp only [List.length_cons] at h1 h3
      have hd : L.drop (p + (l.length - (r.length + 1))) = c :: r := by rw [← List.drop_drop, hp, h3]
      have hdr : L.drop (p + (l.length - (r.length + 1)) + 1 + (wordOf r).length) = restOf r := by
        rw [show p + (l.length - (r.length + 1)) + 1 + (wordOf r).length = p + (l.length - (r.length + 1)) + ((wordOf r).length + 1) from by omega, ← List.drop_drop, hd, List.drop_succ_cons, (word_take r).2]
      rw [pcs_cons h] at hk hq ⊢
      rw [runs_cons h]
      generalize hb : p + (l.length - (r.length + 1)) = b at *
      have hpd : pieceD L (b, b + 1 + (wordOf r).length) = runD (c :: wordOf r) := by
        unfold pieceD runD
        dsimp only
        rw [hd, show b + 1 + (wordOf r).length - b = (wordOf r).length + 1 from by omega, List.take_succ_cons, (word_take r).1]
      rw [List.findIdx_cons] at hk
      by_cases hbad : badP L (b, b + 1 + (wordOf r).length) = true
      · rw [hbad] at hk
        simp only [cond_true] at hk
        subst hk
        simp only [List.getElem?_cons_zero, Option.some.injEq] at hq
        subst hq
        have hqc : hasC (Str.ofString "'\"") c = true := by
          have hc : L.getD b 0 = c := by
            have := congrArg List.head? hd
            rw [List.head?_drop] at this
            simp [List.getD_eq_getElem?_getD, this]
          unfold badP at hbad
          simp only [Bool.and_eq_true] at hbad
          rw [← hc]; exact hbad.1
        obtain ⟨ln', e⟩ := gtok_quote (ln := ln) h hqc
        have hcl := close_cut hd
        rw [bad_qcut hd hqc] at hbad
        rw [rowF, e]
        cases hz : qcut c r with
        | none =>
          rw [hz] at hcl
          dsimp only at hcl ⊢
          refine ⟨?_, ?_⟩
          · unfold valD; rw [hcl]; simp
          · intro q; simp [errD, runD] at q
        | some z =>
          rw [hz] at hcl hbad
          dsimp only at hcl hbad ⊢
          obtain ⟨za, zb, ze, zg, zf⟩ := qcut_some hz
          have hzl := congrArg List.length zb
          rw [List.length_append] at hzl
          refine ⟨?_, ?_⟩
          · have hv : valD L b = .str (mkS (strip (c :: z.1))) := by
              unfold valD
              rw [hcl, if_neg (Int.not_lt.mpr (Int.natCast_nonneg _)), Int.toNat_natCast, hd, show b + z.1.length + 1 - b = z.1.length + 1 from by omega, List.take_succ_cons]
              have e5 : r.take z.1.length = z.1 := by
                have e6 : r.take z.1.length = (z.1 ++ z.2).take z.1.length := by rw [← zb]
                rw [e6]; exact List.take_left
              rw [e5]
            rw [hv]; simp
          · refine bad_head_ne (word_q hqc).2.2 hz ?_ n ln' (by omega)
            intro q
            simp only [Bool.not_eq_true', beq_eq_false_iff_ne] at hbad
            apply hbad
            have q2 : b + z.1.length = b + (wordOf r).length := by rw [q]
            rw [q2]
            show ((b + (wordOf r).length : Nat) : Int) = ((b + 1 + (wordOf r).length : Nat) : Int) - 1
            omega
      · have hbad' : badP L (b, b + 1 + (wordOf r).length) = false := by simpa using hbad
        rw [hbad'] at hk
        simp only [cond_false] at hk
        subst hk
        simp only [List.getElem?_cons_succ] at hq
        by_cases hqc : hasC (Str.ofString "'\"") c = true
        · obtain ⟨ln', e⟩ := gtok_quote (ln := ln) h hqc
          rw [bad_qcut hd hqc] at hbad'
          cases hz : qcut c r with
          | none =>
            rw [hz] at hbad'
            simp only [Bool.not_eq_false', beq_iff_eq] at hbad'
            omega
          | some z =>
            rw [hz] at hbad' e
            simp only [Bool.not_eq_false', beq_iff_eq] at hbad'
            obtain ⟨z1, z2⟩ := cut_word hz (by omega)
            dsimp only at e
            obtain ⟨i1, i2⟩ := ih (restOf r) _ ln' (by omega) hdr _ q rfl hq
            rw [rowF, e]
            dsimp only
            rw [z1, z2]
            refine ⟨?_, fun w => i2 (List.cons.inj w).2⟩
            rw [List.take_succ_cons, i1, List.map_cons, List.take_succ_cons, hpd]; rfl
        · have hqc' : hasC (Str.ofString "'\"") c = false := by simpa using hqc
          obtain ⟨ln', e⟩ := gtok_word (q := Str.ofString "'\"") (ln := ln) h hqc'
          rw [rowF, e]
          cases h4 : restOf r with
          | nil => rw [h4, pcs_nil rfl] at hq; simp at hq
          | cons d r' =>
            dsimp only
            have hw := restOf_head r h4
            rw [h4] at h2 hdr hq
            simp only [List.length_cons] at h2
            rw [pcs_ws hw] at hq ⊢
            obtain ⟨i1, i2⟩ := ih r' _ ln' (by omega) (by rw [← List.drop_drop, hdr]; rfl) _ q rfl hq
            rw [runs_skip hw]
            refine ⟨?_, fun w => i2 (List.cons.inj w).2⟩
            rw [List.take_succ_cons, i1, List.map_cons, List.take_succ_cons, hpd]; rfl
theorem plain3 (l : List Nat) {k : Nat} {q : Nat × Nat} (hk : (pF l (l.length + 1)).1.findIdx (badP l) = k) (hq : (pF l (l.length + 1)).1[k]? = some q) :
    (rowF ⟨Str.ofString "", Str.ofString " \t", Str.ofString "'\"", true⟩ (l.length + 1) ⟨l, 1, .blank, none⟩).take (k + 1) = ((pF l (l.length + 1)).1.map (pieceD l)).take k ++ [valD l q.1] ∧
    rowF ⟨Str.ofString "", Str.ofString " \t", Str.ofString "'\"", true⟩ (l.length + 1) ⟨l, 1, .blank, none⟩ ≠ (pF l (l.length + 1)).1.map (pieceD l) ++ [.str (Str.ofString "")] := by
  rw [pF_pcs] at hk hq ⊢
  obtain ⟨a, b⟩ := row3 l _ l 0 1 (Nat.lt_succ_self _) rfl k q hk hq
  refine ⟨a, fun h => b (h.trans ?_)⟩
  rw [← pcs_runs l l.length l 0 (Nat.le_refl _) rfl, List.map_map]
  rfl
section
open PyProof.Rows.LCg PyProof.Rows.LCp
theorem hq_a1 : hasC (Str.ofString "") 97 = false := by decide +kernel
theorem hq_a2 : hasC (Str.ofString "") 32 = false := by decide +kernel
theorem hq_b1 : hasC (Str.ofString "'\"") 97 = false := by decide +kernel
theorem hq_b2 : hasC (Str.ofString "'\"") 32 = false := by decide +kernel
theorem ints4 (a b c d : Tok) : IntsAre [.int 3 a, .int 4 b, .int 3 c, .int 1 d] [3, 4, 3, 1] := by l_ints
theorem units_ok (env : Env) : (callerA.deeper env).units + 100 < cLine := by
  have h := cLine_is
  simp only [units_deeper, units_caller]
  omega
local macro_rules | `(tactic| walk_at "call ref") => `(tactic| (k_here; (with_reducible show wpAny _ _ (call (Value.ref 740) _) _ _ _); k_dflt (refine wpAny_call ?_; first
  | (refine' text_spec ?C ?F ?N ?hs ?hi ?hl ?_; (case C => exact Amb.less (amb_law (by k_asm) (by k_asm) (by k_asm) rfl rfl) 2 (by decide)); (case F => k_asm); (case N => k_asm); (case hs => with_reducible assumption); (case hi => with_reducible assumption); (case hl => omega); intro h' tk' t' l' hl' hk' F' N'; (try dsimp only); (try k_sweep))
  | (refine' text_spec2 (ints4 _ _ _ _) (by decide) ?C ?F ?N ?_; (case C => exact Amb.less (amb_law (by k_asm) (by k_asm) (by k_asm) rfl rfl) 2 (by decide)); (case F => k_asm); (case N => k_asm); intro h' tk' t' l' hl' hk' F' N'; (try dsimp only); (try k_sweep)))))
local macro_rules | `(tactic| walk_at "call ref") => `(tactic| (k_here; (with_reducible show wpAny _ _ (call (Value.ref 747) _) _ _ _); k_dflt (refine wpAny_call ?_; refine' row_spec ?C ?XB ?TB ?F ?N ?hl ?hU ?h1 ?h2 ?_; (case C => exact amb_law (by k_asm) (by k_asm) (by k_asm) rfl rfl); (case F => k_asm); (case N => k_asm); (case XB => k_asm); (case TB => k_asm); (case hl => rw [mkS_length]; omega); (case hU => exact units_ok _); (case h1 => first | exact hq_a1 | exact hq_b1); (case h2 => first | exact hq_a2 | exact hq_b2); intro h' tk' r' nr' vs' ex' F' N' D'; (replace N' := news_sw N'); (try simp only [List.cons_append, List.nil_append] at N'); (try dsimp only); (try k_sweep))))
local macro_rules | `(tactic| walk_at "call ref") => `(tactic| (k_here; (with_reducible show wpAny _ _ (call (Value.ref 754) _) _ _ _); k_dflt (refine wpAny_call ?_; refine' pieces_spec ?C ?F ?N ?hl ?_; (case C => exact Amb.less (amb_law (by k_asm) (by k_asm) (by k_asm) rfl rfl) 2 (by decide)); (case F => k_asm); (case N => k_asm); (case hl => rw [mkS_length]; omega); intro h' tk' r' nr' vs' ex' F' N' D'; (replace N' := news_sw N'); (try simp only [List.cons_append, List.nil_append] at N'); (try dsimp only); (try k_sweep))))
theorem units64 (env : Env) : (callerA.deeper env).units + 64 < cLine := by
  have := units_ok env; omega
theorem dec_self {α : Type} (x : α) [inst : Decidable (x = x)] : decide (x = x) = true := decide_eq_true rfl
theorem led_any {h₀ h : Heap} {L a : Addr} {news : List (Addr × Obj)} {o : Obj} {xs : List Value} {n : Nat} (N : News h₀ L h news) (hm : (a, o) ∈ news) (hc : o.cls = .type "list") (hd : o.data = .seq xs.toArray n) : h.IsList a xs.toArray := ⟨_, (N _ hm).1, hc, _, hd⟩
section
variable {prog : Program} {w : World} {A : Around} {E : Value → Shared → Prop} {s : Shared} {h₀ : Heap} {L : Addr} {m : Str → Option Value} {Q : Flow → Shared → Prop} {stmt : Sem Flow}
noncomputable def TextQ (s : Shared) (h₀ : Heap) (L : Addr) (m : Str → Option Value) (s' : Shared) : Prop :=
  ∃ h tk l t o la, s' = { s with heap := h, toks := tk } ∧ l.length ≤ 63 ∧ PyData.strOk (mkS l) = true ∧ o.data = Data.cell (some (Value.str (mkS l) t)) ∧ Fr h₀ L h m ∧ News h₀ L h [(la, W.listOf #[] 0), (L + 1, o)] ∧ @LT.lt Nat _ (L + 1) la
theorem text_swap (F : Fr h₀ L s.heap m) (ht : wpAny (model prog w) A stmt (NextQ (TextQ s h₀ L m)) E s)
    (hr : ∀ h tk l t o la, l.length ≤ 63 → PyData.strOk (mkS l) = true → o.data = Data.cell (some (Value.str (mkS l) t)) → Fr h₀ L h m → News h₀ L h [(la, W.listOf #[] 0), (L + 1, o)] → @LT.lt Nat _ (L + 1) la → Q .next { s with heap := h, toks := tk }) : wpAny (model prog w) A stmt Q E s := by
  refine wpAny_mono ht (fun f s' h => ?_) fun _ _ z => z
  obtain ⟨rfl, h, tk, l, t, o, la, rfl, h1, h6, h2, h3, h4, h5⟩ := h
  exact hr h tk l t o la h1 h6 h2 h3 h4 h5
end
theorem close_bd {L : List Nat} {b : Nat} (hb : b < L.length) : closeAt L b < 0 ∨ (∃ n : Nat, closeAt L b = (n : Int) ∧ b < n ∧ n < L.length) := by
  cases h : L.drop b with
  | nil =>
    have := congrArg List.length h
    simp at this; omega
  | cons c r =>
    have e := close_cut h
    cases hz : qcut c r with
    | none => rw [hz] at e; dsimp only at e; left; omega
    | some z =>
      rw [hz] at e; dsimp only at e
      obtain ⟨z1, z2, _⟩ := qcut_some hz
      have h1 := congrArg List.length h
      have h2 := congrArg List.length z2
      rw [List.length_append] at h2
      rw [List.length_drop, List.length_cons] at h1
      exact .inr ⟨b + z.1.length, e, by omega, by omega⟩
theorem valD_err {L : List Nat} {b : Nat} (h : closeAt L b < 0) : valD L b = errD := if_pos h
theorem valD_ok {L : List Nat} {b n : Nat} (h : closeAt L b = (n : Int)) : valD L b = .str (mkS (strip ((L.drop b).take (n + 1 - b)))) := by
  unfold valD; rw [if_neg (by omega), h]; rfl
section
variable {prog : Program} {w : World} {A : Around} {E : Value → Shared → Prop} {s : Shared} {h₀ : Heap} {L : Addr} {m : Str → Option Value} {Q : Flow → Shared → Prop} {stmt : Sem Flow} {led : List (Addr × Obj)}
noncomputable def ValQ (s : Shared) (h₀ : Heap) (L : Addr) (m : Str → Option Value) (led : List (Addr × Obj)) (D : Dat) (s' : Shared) : Prop :=
  ∃ h tk v ex, s' = { s with heap := h, toks := tk } ∧ DatIn ex v D ∧ Fr h₀ L h (fun y => if y = Str.ofString "value" then some v else m y) ∧ News h₀ L h (ex ++ led)
theorem val_swap (D : Dat) (F : Fr h₀ L s.heap m) (N : News h₀ L s.heap led) (ht : wpAny (model prog w) A stmt (NextQ (ValQ s h₀ L m led D)) E s)
    (hr : ∀ h tk v ex, DatIn ex v D → Fr h₀ L h (fun y => if y = Str.ofString "value" then some v else m y) → News h₀ L h (led ++ ex) → Q .next { s with heap := h, toks := tk }) : wpAny (model prog w) A stmt Q E s := by
  refine wpAny_mono ht (fun f s' h => ?_) fun _ _ z => z
  obtain ⟨rfl, h, tk, v, ex, rfl, h1, h2, h3⟩ := h
  exact hr h tk v ex h1 h2 fun q hq => h3 q (by rcases List.mem_append.mp hq with hq | hq; exact List.mem_append_right _ hq; exact List.mem_append_left _ hq)
end
theorem datAll_take {news : List (Addr × Obj)} : ∀ {vs : List Value} {ds : List Dat} (k : Nat), DatAll news vs ds → DatAll news (vs.take k) (ds.take k)
  | _, _, 0, _ => by simp only [List.take_zero]; exact .nil
  | _, _, _ + 1, .nil => by simp only [List.take_nil]; exact .nil
  | _, _, k + 1, .cons h r => by simp only [List.take_succ_cons]; exact .cons h (datAll_take k r)
theorem sOk_sub {l : List Nat} (h : sOk l) (a b : Nat) : sOk ((l.drop a).take b) := fun c hc => h c (List.mem_of_mem_drop (List.mem_of_mem_take hc))
theorem rowF_len (P : Pm) : ∀ (n : Nat) (lx : LX), (rowF P n lx).length ≤ n
  | 0, _ => Nat.le_refl _
  | n + 1, lx => by
    unfold rowF
    split
    · simp
    · have := rowF_len P n; simp; exact this _
    · split <;> simp
theorem pick_upto (vs : List Value) (k : Nat) : (slicePick vs.toArray none (some (k : Int)) none).toList = vs.take k := by
  rw [slicePick_upto']
theorem pick_upto1 (vs : List Value) (k : Nat) : (slicePick vs.toArray none (some ((k : Int) + 1)) none).toList = vs.take (k + 1) := pick_upto vs (k + 1)
theorem holds : PySem.Challenge.rw_nq0177_01.Holds := hd1 (by
  k_go0
  (all_goals try k_fold)
  repeat ((fail_if_success (with_reducible show wpAny _ _ (exec _ _) _ _ _)); (first | walk1 | (dsimp only; walk1)))
  refine text_swap (by k_asm) ?ht ?hr
  case ht =>
    k_steps
    all_goals exact ⟨rfl, _, _, _, _, _, _, rfl, by with_reducible assumption, by with_reducible assumption, by with_reducible assumption, by with_reducible assumption, by with_reducible assumption, by omega⟩
  case hr =>
    intro h tk l t o la hl hsk hd F N hlt
    dsimp only
    repeat ((fail_if_success (with_reducible show wpAny _ _ (eval (Expr.ListComp _ _ _ _) _) _ _ _)); (first | walk1 | (dsimp only; walk1)))
    (with_reducible rename DatAll _ _ (List.map pD _) => hDP)
    have hpl := hDP.length
    rw [List.length_map] at hpl
    have hok := pF_ok l (l.length + 1) (Nat.le_refl _)
    generalize hps : (pF l (l.length + 1)).1 = ps at hDP hpl hok
    refine LCp.ListComp_P (F₀ := by k_asm) (by with_unfolding_all rfl) (by decide) (by rfl) (by decide) (by rfl) (by rfl) (by decide) ?_
    walk1
    refine LCp.SrcLP.ledger (by rfl) (by k_asm) (by k_asm) (by k_mem) (by rw [sizeLine_eq]; simp only [List.size_toArray]; omega) ?_
    intro g2
    refine comp_ind _ (fun i ys => DatAll [] ys ((ps.take i).map (pieceD l))) .nil (.inr ⟨_, .head _, rfl, _, rfl⟩) ?fin ?step
    case step =>
      intro i ys v hv hI
      obtain ⟨hlt, _⟩ := List.getElem?_eq_some_iff.mp hv
      obtain ⟨v2, hv2, hvd⟩ := hDP.get (k := i) (by rw [List.length_map]; omega)
      rw [hv] at hv2; cases hv2
      rw [List.getElem_map] at hvd
      obtain ⟨ta, tn, u1, u2, rfl, htm⟩ := datIn_pD hvd
      have hpi : i < ps.length := by omega
      refine ⟨ta, ({ cls := .type "tuple", data := .seq #[.int (ps[i].1 : Int) u1, .int (ps[i].2 : Int) u2] tn } : Obj), _, _, tn, rfl, ?mem, rfl, rfl, ?_⟩
      case mem =>
        simp only [List.mem_append, List.mem_cons] at htm ⊢
        rcases htm with h | h | h | h | h | h | h <;> simp only [h, true_or, or_true]
      have hpk := hok.1 ps[i] (List.getElem_mem (by omega))
      have hnx : ∀ t, DatAll [] (ys ++ [.str (mkS (strip ((l.drop ps[i].1).take (ps[i].2 - ps[i].1)))) t]) ((ps.take (i + 1)).map (pieceD l)) := by
        intro t
        rw [List.take_add_one, List.getElem?_eq_getElem (by omega), List.map_append]
        exact hI.append (.one (DatIn.str _ t))
      generalize ps[i] = p at hpk hnx
      obtain ⟨b, e⟩ := p
      obtain ⟨hp1, hp2⟩ := hpk
      dsimp only at hp1 hp2 hnx ⊢
      intro I oI C oC D m₂ h3 tk3 E' hns hm1 hm2 F3 N3 off ne
      have hb1 : (b : Int) ≤ (e : Int) := by omega
      have hb2 : (e : Int) ≤ ((mkS l).length : Int) := by rw [mkS_length]; omega
      have hl64 : (mkS l).length ≤ 4096 := by rw [mkS_length]; omega
      clear hok hDP hvd htm hv hI
      repeat ((fail_if_success (with_reducible show wpAny _ _ (call (Value.ref 761) _) _ _ _)); (first | walk1 | (dsimp only; walk1)))
      rw [sub_slice hp1 hp2]
      refine wpAny_call ?_
      refine' bare_spec ?C ?F ?N ?h1 ?h2 ?_
      case C => exact Amb.less (amb_law (by k_asm) (by k_asm) (by k_asm) rfl rfl) 2 (by decide)
      case F => k_asm
      case N => k_asm
      case h1 => rw [mkS_length]; simp; omega
      case h2 => rw [mkS_length]; simp; omega
      intro h4 tk4 t4 F4 N4
      dsimp only
      k_unfold
      exact ⟨_, _, rfl, hnx _, F4, N4⟩
    case fin =>
      intro ys hys
      rw [hpl, List.take_length] at hys
      unfold LCg.FinE
      intro D h5 tk5 F5 N5 o5
      (try dsimp only)
      repeat ((fail_if_success (with_reducible show wpAny _ _ (binaryOp _ (Value.ref _) (Value.ref _)) _ _ _)); (first | walk1 | (dsimp only; walk1)))
      have hyl : ys.length ≤ 100 := by
        have := hys.length
        rw [List.length_map] at this
        omega
      refine add_lists (vs := ys) (ws := [_]) (by k_asm) (by k_asm) (led_any (by k_asm) (by k_mem) rfl rfl) (led_any (by k_asm) (by k_mem) rfl rfl) ?_ (by rw [sizeLine_eq]; simp only [List.length_cons, List.length_nil]; omega)
      intro h6 F6 N6
      (try dsimp only)
      repeat ((fail_if_success (with_reducible show wpAny _ _ (compareOp _ (Value.ref _) (Value.ref _)) _ _ _)); (first | walk1 | (dsimp only; walk1)))
      (with_reducible rename DatAll _ _ (rowF ⟨_, _, Str.ofString "", _⟩ _ _) => hRP)
      (with_reducible rename DatAll _ _ (rowF ⟨_, _, Str.ofString "'\"", _⟩ _ _) => hRK)
      rw [plain1 l, hps] at hRP
      have hso := sOk_of hsk
      have hok1 : ∀ d ∈ ps.map (pieceD l) ++ [Dat.str (Str.ofString "")], kqdOk 8 d = true := by
        intro d hd
        rcases List.mem_append.mp hd with hd | hd
        · exact pieces_ok hso ps d hd
        · rw [List.mem_singleton.mp hd, ← mkS_nil]; exact dstr_ok sOk_nil
      refine kqd_ne (es := ps.map (pieceD l) ++ [Dat.str (Str.ofString "")]) (by k_asm) (by k_mem) rfl rfl hRP ?sa (by k_mem) rfl rfl (hys.append (.one (DatIn.str _ _))) (fun _ z => nomatch z) hok1 hok1 (units64 _) ?_
      case sa => intro q hq; simp only [List.mem_cons, List.mem_append, hq, true_or, or_true]
      rw [dec_self]
      repeat ((fail_if_success (with_reducible show wpAny _ _ (call (Value.ref 768) _) _ _ _)); (first | walk1 | (dsimp only; walk1)))
      refine wpAny_call ?_
      refine' first_spec (ps := ps) ?fC ?fF (news_cons (by k_asm) (by k_mem)) ?fD hok.1 ?fl ?fp ?_
      case fC => exact Amb.less (amb_law (by k_asm) (by k_asm) (by k_asm) rfl rfl) 2 (by decide)
      case fF => k_asm
      case fD =>
        refine hDP.mono fun q hq => ?_
        simp only [List.mem_append, List.mem_cons] at hq ⊢
        rcases hq with h | h | h | h | h | h | h <;> simp only [h, true_or, or_true]
      case fl => rw [mkS_length]; omega
      case fp => have := hok.2; omega
      intro h7 tk7 t7 F7 N7
      dsimp only
      repeat ((fail_if_success (with_reducible show wpAny _ _ (compareOp _ (Value.int _ _) (Value.int _ _)) _ _ _)); (first | walk1 | (dsimp only; walk1)))
      have hokK : ∀ d ∈ rowF ⟨Str.ofString "", Str.ofString " \t", Str.ofString "'\"", true⟩ (l.length + 1) ⟨l, 1, .blank, none⟩, kqdOk 8 d = true := rowF_ok _ _ _ hso (fun _ z => nomatch z)
      by_cases hidx : ps.findIdx (badP l) = ps.length
      · have hP2 := plain2 l (by rw [hps]; exact hidx)
        rw [hps] at hP2
        rw [hP2] at hRK
        rw [hidx, hpl]
        repeat ((fail_if_success (with_reducible show wpAny _ _ (compareOp _ (Value.ref _) (Value.ref _)) _ _ _)); (first | walk1 | (dsimp only; walk1)))
        refine kqd_eq (by k_asm) (by k_mem) rfl rfl hRK ?sc (by k_mem) rfl rfl hRP ?sd hok1 hok1 (units64 _) ?_
        case sc => intro q hq; simp only [List.mem_cons, List.mem_append, hq, true_or, or_true]
        case sd => intro q hq; simp only [List.mem_cons, List.mem_append, hq, true_or, or_true]
        rw [dec_self]
        k_steps
        all_goals (exfalso; omega)
      · have hlt2 : ps.findIdx (badP l) < ps.length := Nat.lt_of_le_of_ne (List.findIdx_le_length) hidx
        obtain ⟨hP3, hP4⟩ := plain3 l (k := ps.findIdx (badP l)) (q := ps[ps.findIdx (badP l)]) (by rw [hps]) (by rw [hps]; exact List.getElem?_eq_getElem hlt2)
        rw [hps] at hP3 hP4
        obtain ⟨v2, hv2, hvd⟩ := hDP.get (k := ps.findIdx (badP l)) (by rw [List.length_map]; exact hlt2)
        rw [List.getElem_map] at hvd
        obtain ⟨ta, tn, u1, u2, rfl, htm⟩ := datIn_pD hvd
        have hpk := hok.1 ps[ps.findIdx (badP l)] (List.getElem_mem hlt2)
        generalize ps[ps.findIdx (badP l)] = q at hP3 hvd htm hpk
        obtain ⟨b, e⟩ := q
        obtain ⟨hp1, hp2⟩ := hpk
        dsimp only at hp1 hp2 hP3 htm
        generalize ps.findIdx (badP l) = kf at *
        iterate 3 (first | walk1 | (dsimp only; walk1))
        · exfalso; omega
        · have hx : ∀ (kk : Int), kk = (kf : Int) → True := fun _ _ => trivial
          repeat ((fail_if_success (with_reducible show wpAny _ _ (subscriptTail _ _ _ _) _ _ _)); (first | walk1 | (dsimp only; walk1)))
          refine item_litK (led_list (by k_asm) (by k_mem)) (by omega) (by omega) (show _ = some (Value.ref ta) from by rw [Int.toNat_natCast]; exact hv2) ?_ (by with_unfolding_all rfl)
          (with_reducible rename News _ _ _ _ => NN)
          have N8 := news_cons (p := (ta, ({ cls := .type "tuple", data := .seq #[.int (b : Int) u1, .int (e : Int) u2] tn } : Obj))) NN (by
            simp only [List.mem_append, List.mem_cons] at htm ⊢
            rcases htm with h | h | h | h | h | h | h <;> simp only [h, true_or, or_true])
          have hb1 : (b : Int) < ((mkS l).length : Int) := by rw [mkS_length]; omega
          have hb0 : 0 ≤ (b : Int) := by omega
          clear NN
          iterate 3 (first | walk1 | (dsimp only; walk1))
          dsimp only
          (with_reducible rename Fr _ _ _ _ => F9)
          generalize bindL _ _ = m0 at F9
          have hps64 : ps.length ≤ 64 := by have := hok.2; omega
          clear F N hDP hps hok hys hvd hv2 htm hidx hx hpl
          repeat ((fail_if_success (with_reducible show wpAny _ _ (exec (Stmt.Assign [Expr.Name (Str.ofString "value") _] _ _) _) _ _ _)); (first | walk1 | (dsimp only; walk1)))
          (with_reducible rename Fr _ _ _ _ => F8)
          (with_reducible rename News _ _ _ _ => N8)
          have hbl : b < l.length := by omega
          rw [item_nat l b hbl] at F8
          rw [show Txt.find3 (mkS l) (mkS [l.getD b 0]) ((b : Int) + 1) = closeAt l b from rfl] at F8
          have hcl := close_bd hbl
          refine val_swap (valD l b) F8 N8 ?vt ?vr
          case vt =>
            have hve : closeAt l b < 0 → valD l b = errD := valD_err
            have hvo : ∀ n : Nat, closeAt l b = (n : Int) → valD l b = .str (mkS (strip ((l.drop b).take (n + 1 - b)))) := fun n => valD_ok
            clear hP3 hP4 hokK hok1 hRK hRP
            generalize hvd : valD l b = vd at hve hvo
            generalize closeAt l b = cl at F8 hcl hve hvo
            rcases hcl with hcl | ⟨n, rfl, hn1, hn2⟩
            · rw [hve hcl]
              clear hve hvo
              k_steps
              (with_reducible rename Fr _ _ _ _ => F10)
              (with_reducible rename News _ _ _ _ => N10)
              exact ⟨rfl, _, _, _, [(_, _)], rfl, .list (List.Mem.head _) (.one (.str _ _)), F10, N10⟩
            · rw [hvo n rfl]
              clear hve hvo
              have hs1 : (b : Int) ≤ (n : Int) + 1 := by omega
              have hs2 : (n : Int) + 1 ≤ ((mkS l).length : Int) := by rw [mkS_length]; omega
              have hs3 : (mkS l).length ≤ 4096 := by rw [mkS_length]; omega
              repeat ((fail_if_success (with_reducible show wpAny _ _ (call (Value.ref 761) _) _ _ _)); (first | walk1 | (dsimp only; walk1)))
              rw [show ((n : Int) + 1) = ((n + 1 : Nat) : Int) from rfl, sub_slice (by omega) (by omega)]
              refine wpAny_call ?_
              refine' bare_spec ?bC ?bF ?bN ?b1 ?b2 ?_
              case bC => exact Amb.less (amb_law (by k_asm) (by k_asm) (by k_asm) rfl rfl) 2 (by decide)
              case bF => k_asm
              case bN => k_asm
              case b1 => rw [mkS_length]; simp; omega
              case b2 => rw [mkS_length]; simp; omega
              intro h4 tk4 t4 F4 N4
              dsimp only
              k_steps
              (with_reducible rename Fr _ _ _ _ => F10)
              (with_reducible rename News _ _ _ _ => N10)
              exact ⟨rfl, _, _, _, [], rfl, .str _ _, F10, N10⟩
          case vr =>
            intro h11 tk11 v11 ex11 hd11 F11 N11
            clear F8 N8
            dsimp only
            repeat ((fail_if_success (with_reducible show wpAny _ _ (subscriptTail _ _ _ _) _ _ _)); (first | walk1 | (dsimp only; walk1)))
            have hzK := hRK.length
            have hzP := hRP.length
            have hzF := rowF_len ⟨Str.ofString "", Str.ofString " \t", Str.ofString "'\"", true⟩ (l.length + 1) ⟨l, 1, .blank, none⟩
            rw [List.length_append, List.length_map] at hzP
            have hps64 : ps.length ≤ 64 := hps64
            refine kmk_slice_lit (by k_asm) (by k_asm) (led_list (by k_asm) (by k_mem)) .none (.int _ _) (pick_upto1 _ kf) ?_ (by with_unfolding_all rfl) (by intro _; with_unfolding_all rfl) (by rw [sizeLine_eq, List.size_toArray]; omega)
            intro D1 h12 F12 N12 o12
            clear F11 N11
            dsimp only
            repeat ((fail_if_success (with_reducible show wpAny _ _ (subscriptTail _ _ _ _) _ _ _)); (first | walk1 | (dsimp only; walk1)))
            refine kmk_slice_lit (by k_asm) (by k_asm) (led_list (by k_asm) (by k_mem)) .none (.int _ _) (pick_upto _ kf) ?_ (by with_unfolding_all rfl) (by intro _; with_unfolding_all rfl) (by rw [sizeLine_eq, List.size_toArray]; simp only [List.length_singleton] at hzP; omega)
            intro D2 h13 F13 N13 o13
            clear F12 N12
            dsimp only
            repeat ((fail_if_success (with_reducible show wpAny _ _ (binaryOp _ (Value.ref _) (Value.ref _)) _ _ _)); (first | walk1 | (dsimp only; walk1)))
            refine add_lists (vs := List.take kf _) (ws := [_]) (by k_asm) (by k_asm) (led_any (by k_asm) (by k_mem) rfl rfl) (led_any (by k_asm) (by k_mem) rfl rfl) ?_ (by rw [sizeLine_eq]; simp only [List.length_cons, List.length_nil, List.length_take]; omega)
            intro h14 F14 N14
            dsimp only
            have hT1 : ((ps.map (pieceD l) ++ [Dat.str (Str.ofString "")]).take kf) = (ps.map (pieceD l)).take kf := List.take_append_of_le_length (by rw [List.length_map]; omega)
            have hRP2 := datAll_take kf hRP
            rw [hT1] at hRP2
            have hokT : ∀ d ∈ (rowF ⟨Str.ofString "", Str.ofString " \t", Str.ofString "'\"", true⟩ (l.length + 1) ⟨l, 1, .blank, none⟩).take (kf + 1), kqdOk 8 d = true := fun d hd => hokK d (List.mem_of_mem_take hd)
            refine kqd_eq (ds := (rowF ⟨Str.ofString "", Str.ofString " \t", Str.ofString "'\"", true⟩ (l.length + 1) ⟨l, 1, .blank, none⟩).take (kf + 1)) (es := (ps.map (pieceD l)).take kf ++ [valD l b]) (by k_asm) (by k_mem) rfl rfl (datAll_take (kf + 1) hRK) ?sc (by k_mem) rfl rfl ((hRP2.mono (fun _ z => List.mem_append_left _ z)).append (.one (hd11.mono (fun _ z => List.mem_append_right _ z)))) ?sd hokT (hP3 ▸ hokT) (units64 _) ?_
            case sc => intro q hq; simp only [List.mem_cons, List.mem_append, hq, true_or, or_true]
            case sd =>
              intro q hq
              rcases List.mem_append.mp hq with hq | hq <;> simp only [List.mem_cons, List.mem_append, hq, true_or, or_true]
            rw [@decide_eq_true _ (_) hP3]
            repeat ((fail_if_success (with_reducible show wpAny _ _ (compareOp _ (Value.ref _) (Value.ref _)) _ _ _)); (first | walk1 | (dsimp only; walk1)))
            refine kqd_ne (by k_asm) (by k_mem) rfl rfl hRK ?sa (by k_mem) rfl rfl hRP ?sb hokK hok1 (units64 _) ?_
            case sa => intro q hq; simp only [List.mem_cons, List.mem_append, hq, true_or, or_true]
            case sb => intro q hq; simp only [List.mem_cons, List.mem_append, hq, true_or, or_true]
            rw [@decide_eq_false _ (_) hP4]
            k_steps)
end
end Mine
theorem PySem.Challenge.cw_nq0177_01_holds : PySem.Challenge.rw_nq0177_01.Holds :=
  Mine.holds
