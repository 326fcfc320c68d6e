import PyProof.Rows.All
import Wide.All
import OpenK.AllK
import Wide.FinOn
import PySem.Challenge.RW_cy0005_05
open PySem PySem.W PyProof.Rows
set_option Elab.async false
set_option compiler.extract_closed false
set_option maxRecDepth 100000
set_option linter.all false
namespace Mine
section
set_option maxHeartbeats 8000000
open_top hd for PySem.Challenge.rw_cy0005_05
end
section
theorem top_off : True := by
  w_top off
  trivial
end
set_option maxHeartbeats 1000000
noncomputable abbrev Pr : Program := PySem.Challenge.rw_cy0005_05.row.prog
theorem allLt_ne {d d' : Nat} : ∀ {l : List (Addr × Obj)}, AllLt d l → d ≤ d' → ∀ p ∈ l, p.1 ≠ d'
  | [], _, _ => fun _ h => (nomatch h)
  | q :: r, h, hd => fun p hp => by
    rcases List.mem_cons.mp hp with rfl | hp
    · exact Nat.ne_of_lt (Nat.lt_of_lt_of_le h.1 hd)
    · exact allLt_ne h.2 hd p hp
theorem aln0 {d d' : Nat} {l : List (Addr × Obj)} (h : AllLt d l) (hd : d ≤ d') : ∀ p ∈ l, p.1 ≠ d' := allLt_ne h hd
theorem aln1 {a0 : Prop} {d d' : Nat} {l : List (Addr × Obj)} (h : a0 ∧ AllLt d l) (hd : d ≤ d') : ∀ p ∈ l, p.1 ≠ d' := aln0 h.2 hd
theorem aln2 {a0 a1 : Prop} {d d' : Nat} {l : List (Addr × Obj)} (h : a0 ∧ a1 ∧ AllLt d l) (hd : d ≤ d') : ∀ p ∈ l, p.1 ≠ d' := aln1 h.2 hd
theorem aln3 {a0 a1 a2 : Prop} {d d' : Nat} {l : List (Addr × Obj)} (h : a0 ∧ a1 ∧ a2 ∧ AllLt d l) (hd : d ≤ d') : ∀ p ∈ l, p.1 ≠ d' := aln2 h.2 hd
theorem aln4 {a0 a1 a2 a3 : Prop} {d d' : Nat} {l : List (Addr × Obj)} (h : a0 ∧ a1 ∧ a2 ∧ a3 ∧ AllLt d l) (hd : d ≤ d') : ∀ p ∈ l, p.1 ≠ d' := aln3 h.2 hd
theorem aln5 {a0 a1 a2 a3 a4 : Prop} {d d' : Nat} {l : List (Addr × Obj)} (h : a0 ∧ a1 ∧ a2 ∧ a3 ∧ a4 ∧ AllLt d l) (hd : d ≤ d') : ∀ p ∈ l, p.1 ≠ d' := aln4 h.2 hd
theorem aln6 {a0 a1 a2 a3 a4 a5 : Prop} {d d' : Nat} {l : List (Addr × Obj)} (h : a0 ∧ a1 ∧ a2 ∧ a3 ∧ a4 ∧ a5 ∧ AllLt d l) (hd : d ≤ d') : ∀ p ∈ l, p.1 ≠ d' := aln5 h.2 hd
theorem aln7 {a0 a1 a2 a3 a4 a5 a6 : Prop} {d d' : Nat} {l : List (Addr × Obj)} (h : a0 ∧ a1 ∧ a2 ∧ a3 ∧ a4 ∧ a5 ∧ a6 ∧ AllLt d l) (hd : d ≤ d') : ∀ p ∈ l, p.1 ≠ d' := aln6 h.2 hd
theorem aln8 {a0 a1 a2 a3 a4 a5 a6 a7 : Prop} {d d' : Nat} {l : List (Addr × Obj)} (h : a0 ∧ a1 ∧ a2 ∧ a3 ∧ a4 ∧ a5 ∧ a6 ∧ a7 ∧ AllLt d l) (hd : d ≤ d') : ∀ p ∈ l, p.1 ≠ d' := aln7 h.2 hd
theorem aln9 {a0 a1 a2 a3 a4 a5 a6 a7 a8 : Prop} {d d' : Nat} {l : List (Addr × Obj)} (h : a0 ∧ a1 ∧ a2 ∧ a3 ∧ a4 ∧ a5 ∧ a6 ∧ a7 ∧ a8 ∧ AllLt d l) (hd : d ≤ d') : ∀ p ∈ l, p.1 ≠ d' := aln8 h.2 hd
theorem aln10 {a0 a1 a2 a3 a4 a5 a6 a7 a8 a9 : Prop} {d d' : Nat} {l : List (Addr × Obj)} (h : a0 ∧ a1 ∧ a2 ∧ a3 ∧ a4 ∧ a5 ∧ a6 ∧ a7 ∧ a8 ∧ a9 ∧ AllLt d l) (hd : d ≤ d') : ∀ p ∈ l, p.1 ≠ d' := aln9 h.2 hd
theorem aln11 {a0 a1 a2 a3 a4 a5 a6 a7 a8 a9 a10 : Prop} {d d' : Nat} {l : List (Addr × Obj)} (h : a0 ∧ a1 ∧ a2 ∧ a3 ∧ a4 ∧ a5 ∧ a6 ∧ a7 ∧ a8 ∧ a9 ∧ a10 ∧ AllLt d l) (hd : d ≤ d') : ∀ p ∈ l, p.1 ≠ d' := aln10 h.2 hd
theorem aln12 {a0 a1 a2 a3 a4 a5 a6 a7 a8 a9 a10 a11 : Prop} {d d' : Nat} {l : List (Addr × Obj)} (h : a0 ∧ a1 ∧ a2 ∧ a3 ∧ a4 ∧ a5 ∧ a6 ∧ a7 ∧ a8 ∧ a9 ∧ a10 ∧ a11 ∧ AllLt d l) (hd : d ≤ d') : ∀ p ∈ l, p.1 ≠ d' := aln11 h.2 hd
theorem aln13 {a0 a1 a2 a3 a4 a5 a6 a7 a8 a9 a10 a11 a12 : Prop} {d d' : Nat} {l : List (Addr × Obj)} (h : a0 ∧ a1 ∧ a2 ∧ a3 ∧ a4 ∧ a5 ∧ a6 ∧ a7 ∧ a8 ∧ a9 ∧ a10 ∧ a11 ∧ a12 ∧ AllLt d l) (hd : d ≤ d') : ∀ p ∈ l, p.1 ≠ d' := aln12 h.2 hd
theorem aln14 {a0 a1 a2 a3 a4 a5 a6 a7 a8 a9 a10 a11 a12 a13 : Prop} {d d' : Nat} {l : List (Addr × Obj)} (h : a0 ∧ a1 ∧ a2 ∧ a3 ∧ a4 ∧ a5 ∧ a6 ∧ a7 ∧ a8 ∧ a9 ∧ a10 ∧ a11 ∧ a12 ∧ a13 ∧ AllLt d l) (hd : d ≤ d') : ∀ p ∈ l, p.1 ≠ d' := aln13 h.2 hd
theorem allLt_mem {d : Nat} : ∀ {l : List (Addr × Obj)}, AllLt d l → ∀ p ∈ l, p.1 < d
  | [], _ => fun _ h => (nomatch h)
  | q :: r, h => fun p hp => by
    rcases List.mem_cons.mp hp with rfl | hp
    · exact h.1
    · exact allLt_mem h.2 p hp
theorem sub_self {α : Type} {l : List α} : ∀ q ∈ l, q ∈ l := fun _ h => h
theorem sub_left {α : Type} {l r : List α} : ∀ q ∈ l, q ∈ l ++ r := fun _ h => List.mem_append_left _ h
theorem sub_tail {α : Type} {l r : List α} {a : α} (h : ∀ q ∈ l, q ∈ r) : ∀ q ∈ l, q ∈ a :: r := fun q hq => .tail _ (h q hq)
theorem sub_right {α : Type} {l r r' : List α} (h : ∀ q ∈ l, q ∈ r) : ∀ q ∈ l, q ∈ r' ++ r := fun q hq => List.mem_append_right _ (h q hq)
theorem sub_inl {α : Type} {l r r' : List α} (h : ∀ q ∈ l, q ∈ r) : ∀ q ∈ l, q ∈ r ++ r' := fun q hq => List.mem_append_left _ (h q hq)
theorem sub_cons {α : Type} {a : α} {l r : List α} (h1 : a ∈ r) (h2 : ∀ q ∈ l, q ∈ r) : ∀ q ∈ a :: l, q ∈ r := List.forall_mem_cons.mpr ⟨h1, h2⟩
theorem sub_app {α : Type} {l l' r : List α} (h1 : ∀ q ∈ l, q ∈ r) (h2 : ∀ q ∈ l', q ∈ r) : ∀ q ∈ l ++ l', q ∈ r := fun q hq => (List.mem_append.mp hq).elim (h1 q) (h2 q)
local macro_rules | `(tactic| walk_at "elem") => `(tactic| first | with_reducible exact List.mem_cons_self | ((with_reducible refine List.mem_cons_of_mem _ ?_); walk_at "elem") | ((with_reducible refine List.mem_append_right _ ?_); walk_at "elem") | ((with_reducible refine List.mem_append_left _ ?_); walk_at "elem"))
local macro_rules | `(tactic| walk_at "leaf") => `(tactic| first | with_reducible exact sub_self | with_reducible exact sub_left | ((with_reducible refine sub_tail ?_); walk_at "leaf") | ((with_reducible refine sub_right ?_); walk_at "leaf") | ((with_reducible refine sub_inl ?_); walk_at "leaf"))
local macro_rules | `(tactic| walk_at "sub") => `(tactic| first | with_reducible exact sub_self | with_reducible exact List.forall_mem_nil _ | ((with_reducible refine sub_cons ?a ?b); (case a => walk_at "elem"); (case b => walk_at "sub")) | ((with_reducible refine sub_app ?a ?b); (case a => walk_at "sub"); (case b => walk_at "sub")) | walk_at "leaf")
local macro_rules | `(tactic| walk_at "alns") => `(tactic| first | (refine aln0 (by with_reducible assumption) ?_; omega) | (refine aln1 (by with_reducible assumption) ?_; omega) | (refine aln2 (by with_reducible assumption) ?_; omega) | (refine aln3 (by with_reducible assumption) ?_; omega) | (refine aln4 (by with_reducible assumption) ?_; omega) | (refine aln5 (by with_reducible assumption) ?_; omega) | (refine aln6 (by with_reducible assumption) ?_; omega) | (refine aln7 (by with_reducible assumption) ?_; omega) | (refine aln8 (by with_reducible assumption) ?_; omega) | (refine aln9 (by with_reducible assumption) ?_; omega) | (refine aln10 (by with_reducible assumption) ?_; omega) | (refine aln11 (by with_reducible assumption) ?_; omega) | (refine aln12 (by with_reducible assumption) ?_; omega) | (refine aln13 (by with_reducible assumption) ?_; omega) | (refine aln14 (by with_reducible assumption) ?_; omega))
local macro_rules | `(tactic| k_all) => `(tactic| first | assumption | (refine' List.forall_mem_cons.mpr ⟨?a, ?b⟩; (case a => k_ne); (case b => k_all)) | exact List.forall_mem_nil _ | walk_at "alns")
local macro_rules | `(tactic| k_ne) => `(tactic| first | assumption | exact Ne.symm (by assumption) | (refine neN ?_; (try dsimp only); first | assumption | exact Ne.symm (by assumption) | exact Nat.ne_of_lt (by assumption) | exact Nat.ne_of_gt (by assumption) | omega))
local macro_rules | `(tactic| k_room) => `(tactic| ((try simp only [depth_under_make, depth_under_kw, depth_in1, depth_deeper, depth_caller, recursionLimit]); omega))
local macro_rules | `(tactic| walk_at "zz") => `(tactic| (first | (k_unfold; (try dsimp only)) | (k_end; wrow_close) | walk1 | (dsimp only; walk1) | (leave1; walk_say "STEP leave1"; try dsimp only) | fail "no step"))
local macro_rules | `(tactic| walk_at "zl") => `(tactic| (fail_if_success with_reducible first | show wpAny _ _ (call (Value.ref _) _ _) _ _ _ | show wpAny _ _ (exec (Stmt.For _ _ _ _ _) _) _ _ _ | show wpAny _ _ (exec (Stmt.While _ _ _ _) _) _ _ _ | show wpAny _ _ (pyIter _) _ _ _))
local macro_rules | `(tactic| walk_at "zt") => `(tactic| (fail_if_success with_reducible first | show wpAny _ _ (call (Value.type "tuple") _ _) _ _ _))
local macro_rules | `(tactic| walk_at "zs") => `(tactic| (fail_if_success with_reducible first | show wpAny _ _ (subscriptTail _ _ _ _) _ _ _))
local macro_rules | `(tactic| walk_at "zw") => `(tactic| (fail_if_success with_reducible first | show wpAny _ _ (truthy (Value.ref _)) _ _ _ | show wpAny _ _ (callWith _ (Value.ref _) _ _ _) _ _ _))
local macro_rules | `(tactic| walk_at "zc") => `(tactic| (fail_if_success with_reducible first | show wpAny _ _ (eval (PySem.Expr.ListComp _ _ _ _) _) _ _ _))
local macro_rules | `(tactic| walk_at "go") => `(tactic| repeat' (walk_at "zl"; walk_at "zt"; walk_at "zz"))
local macro_rules | `(tactic| walk_at "go2") => `(tactic| repeat' (walk_at "zl"; walk_at "zs"; walk_at "zw"; walk_at "zt"; walk_at "zz"))
local macro_rules | `(tactic| walk_at "go3") => `(tactic| repeat' (walk_at "zl"; walk_at "zc"; (fail_if_success with_reducible first | show wpAny _ _ (getMethod (Value.ref _) _ _) _ _ _); walk_at "zs"; walk_at "zw"; walk_at "zt"; walk_at "zz"))
local macro_rules | `(tactic| walk_at "gok") => `(tactic| repeat' (walk_at "zl"; walk_at "zc"; walk_at "zs"; (fail_if_success with_reducible first | show wpAny _ _ (setItem _ _ _) _ _ _ | show wpAny _ _ (binaryOp _ (Value.ref _) _) _ _ _ | show wpAny _ _ (call (Value.builtin "max") _) _ _ _ | show wpAny _ _ (compareOp _ _ (Value.ref _)) _ _ _); walk_at "zz"))
theorem frag_on : (fun (_ : Params → Frag) => PySem.Challenge.rw_cy0005_05.Holds) hd.heap_39 → True := by
  k_fill
  intro _; trivial
/-! one _NodeInfo as it lies: the object, its (empty) dict, the list of its successors -/
structure NI where
  info : Addr
  dx : Addr
  node : Int
  ntok : Tok
  np : Int
  nptok : Tok
  sl : Addr
  sv : List Value
  ep : Nat
noncomputable abbrev NI.o (x : NI) : Obj := ⟨.ref 40, some x.dx, .plain, [some (.int x.node x.ntok), some (.int x.np x.nptok), some (.ref x.sl)].toArray⟩
noncomputable abbrev NI.l (x : NI) : Obj := listOf x.sv.toArray x.ep
noncomputable abbrev NI.led (x : NI) : List (Addr × Obj) := [(x.info, x.o), (x.dx, dictOf [] 0), (x.sl, x.l)]
noncomputable def ledN (xs : List NI) : List (Addr × Obj) := xs.flatMap NI.led
noncomputable def kvsN (xs : List NI) : List (Int × Value) := xs.map fun x => (x.node, Value.ref x.info)
/-- the sorter's own addresses and the tokens of its dict's keys -/
structure Srt where
  S : Addr
  D : Addr
  Nd : Addr
  t1 : Tok
  t2 : Tok
  t3 : Tok
  t4 : Tok
noncomputable abbrev Srt.d (σ : Srt) (w : World) (rv po nf : Value) : Obj := dictOf [⟨PyData.keyHash w.params (Str.ofString "_node2info"), .str (Str.ofString "_node2info") σ.t1, .ref σ.Nd⟩, ⟨PyData.keyHash w.params (Str.ofString "_ready_nodes"), .str (Str.ofString "_ready_nodes") σ.t2, rv⟩, ⟨PyData.keyHash w.params (Str.ofString "_npassedout"), .str (Str.ofString "_npassedout") σ.t3, po⟩, ⟨PyData.keyHash w.params (Str.ofString "_nfinished"), .str (Str.ofString "_nfinished") σ.t4, nf⟩] 4
theorem News.sub {h₀ h : Heap} {L : Addr} {l l' : List (Addr × Obj)} (N : News h₀ L h l) (hs : ∀ q ∈ l', q ∈ l) : News h₀ L h l' := fun q hq => N q (hs q hq)
theorem valueAt_kvsN (xs : List NI) (k : Int) : valueAt (kvsN xs) k = (xs.find? fun x => x.node = k).map fun x => Value.ref x.info := by
  unfold valueAt kvsN
  induction xs with
  | nil => rfl
  | cons x r ih =>
    simp only [List.map_cons, List.find?_cons]
    by_cases h : x.node = k
    · simp [h]
    · simp only [h, decide_false]; exact ih
section
variable {w : World} {A₀ A : Around} {base h₀ : Heap} {outer : List Env} {env : Env} {L : Addr} {m mg mb : Str → Option Value} {p : Program} {loose : List Str} {mean : ExcName → Option Value} {s : Shared}
  {R : Result → Shared → Prop}
/-- self._get_nodeinfo(k) -/
theorem c_get_nodeinfo {σ : Srt} {rv po nf : Value} {oN : Obj} {xs : List NI} {rest : List (Addr × Obj)} {k : Int} {tk : Tok}
    (hh : A.handled = none) (hfr : A.frames = some (env :: outer)) (hdp : A.depth < 900) (hf : env.frame = some L) (hke : env.scope.kind = .function)
    (B : Below A₀ base outer h₀) (X₀ : (hd.heap_39 w.params).In h₀) (T : Top p loose mean mg mb h₀) (F : Fr h₀ L s.heap m)
    (lo : (σ.Nd == sysModules) = false) (hdN : oN.IsDictOf (intKind Pr w) (kvsN xs)) (hsz : xs.length ≤ 10000) (hne : (σ.S ≠ σ.Nd ∧ σ.D ≠ σ.Nd) ∧ ∀ p ∈ rest, p.1 ≠ σ.Nd)
    (N : News h₀ L s.heap ((σ.S, instObj 137 σ.D) :: (σ.D, σ.d w rv po nf) :: (σ.Nd, oN) :: rest))
    (hold : ∀ h' tk' x, (xs.find? fun x => x.node = k) = some x → Fr h₀ L h' m → News h₀ L h' ((σ.S, instObj 137 σ.D) :: (σ.D, σ.d w rv po nf) :: (σ.Nd, oN) :: rest) →
      R (.ok (.ret (.ref x.info))) { s with heap := h', toks := tk' })
    (hnew : ∀ h' tk' oN' x, (xs.find? fun x => x.node = k) = none → x.node = k → x.np = 0 → x.sv = [] → oN'.IsDictOf (intKind Pr w) (kvsN (xs ++ [x])) →
      (∀ p ∈ (σ.S, instObj 137 σ.D) :: (σ.D, σ.d w rv po nf) :: (σ.Nd, oN) :: rest, p.1 < x.dx) → x.dx < x.info → x.info < x.sl → Fr h₀ L h' m →
      News h₀ L h' ((σ.S, instObj 137 σ.D) :: (σ.D, σ.d w rv po nf) :: (σ.Nd, oN') :: (x.led ++ rest)) → R (.ok (.ret (.ref x.info))) { s with heap := h', toks := tk' }) :
    codeAny (model Pr w) A (.call (.ref 80) ⟨[.ref σ.S, .int k tk], []⟩) R s := by
  obtain ⟨_, d, _, gs, u⟩ := A
  dsimp only at hh hfr hdp
  subst hh hfr
  refine' code_def B F X₀ N T rfl hf hke ?k6 ?k7 ?k8 ?k9 ?kB ?_ ?c2 ?c3 ?c4 ?c5
  case k6 => k_is
  case k7 => k_is
  case k8 => k_room
  case k9 => exact BindsTo.of_eq rfl
  case c5 => decide
  case kB => exact locs rfl
  case c2 => exact rfl
  case c3 => exact rfl
  case c4 => exact rfl
  intro g' L' h' FG' F' N' B' X' T'
  (try dsimp only)
  k_fold
  k_steps
  rcases hv : (xs.find? fun x => x.node = k) with _ | x
  · have fin : ∀ h' tk' o9 l x d t1 t2, o9.IsDictOf (intKind Pr w) (kvsN xs ++ [(k, Value.ref x)]) → Fr h₀ L h' m →
        News h₀ L h' ((l, W.listOf #[] 0) :: (x, ⟨.ref 40, some d, .plain, [some (.int k t1), some (.int 0 t2), some (.ref l)].toArray⟩) :: (d, dictOf [] 0) :: (σ.S, instObj 137 σ.D) :: (σ.D, σ.d w rv po nf) :: (σ.Nd, o9) :: rest) →
        σ.S < d → σ.D < d → σ.Nd < d → d < x → AllLt d rest → x < l → R (.ok (.ret (.ref x))) { s with heap := h', toks := tk' } := by
      intro h' tk' o9 l x d t1 t2 hd9 F9 N9 q1 q2 q3 q4 q5 q6
      refine hnew h' tk' o9 ⟨x, d, k, t1, 0, t2, l, [], 0⟩ hv rfl rfl rfl (by unfold kvsN at hd9 ⊢; rw [List.map_append]; exact hd9) ?_ q4 q6 F9 (News.sub N9 ?_)
      · exact allLt_mem ⟨q1, q2, q3, q5⟩
      · intro q hq
        simp only [NI.led, List.cons_append, List.nil_append, List.mem_cons] at hq ⊢
        grind
    have hva : valueAt (kvsN xs) k = none := by rw [valueAt_kvsN, hv]; rfl
    refine kdg_get1 (knd := intKind _ _) N' (by k_mem) hdN lo (intKind_is _ _ _ _) none hva ?_
    dsimp only [Option.getD]
    k_steps
    obtain ⟨⟨ne1, ne2⟩, ne3⟩ := hne
    refine' kda_set (knd := intKind _ _) ?F ?N ?U ?d (intKind_is _ _ _ _) ?z ?_
    case F => k_asm
    case N => k_asm
    case U => k_updF
    case d => exact hdN
    case z => simp only [kvsN, List.length_map]; rw [sizeLine_eq]; omega
    intro h9 o9 F9 N9 hd9
    rw [stored_absent hva] at hd9
    (try dsimp only at N9)
    k_steps
    exact fin _ _ _ _ _ _ _ _ hd9 (by assumption) (by assumption) (ltN (by omega)) (ltN (by omega)) (ltN (by omega)) (ltN (by omega)) (by first | assumption | exact And.right (And.right (And.right (by assumption)))) (ltN (by omega))
  · have hva : valueAt (kvsN xs) k = some (.ref x.info) := by rw [valueAt_kvsN, hv]; rfl
    refine kdg_get1 (knd := intKind _ _) N' (by k_mem) hdN lo (intKind_is _ _ _ _) _ hva ?_
    dsimp only [Option.getD]
    k_steps
    exact hold _ _ _ hv (by assumption) (by assumption)
end
section
set_option maxHeartbeats 1000000
/-! plain data: a node, the number of its predecessors, its successors -/
structure PN where
  node : Int
  np : Int
  succ : List Int
noncomputable def intOf : Value → Int
  | .int i _ => i
  | _ => 0
noncomputable def IsI (v : Value) : Prop := ∃ i t, v = .int i t
theorem intsAre_of : ∀ {vs : List Value}, (∀ v ∈ vs, IsI v) → IntsAre vs (vs.map intOf)
  | [], _ => .nil
  | v :: r, h => by
    obtain ⟨i, t, rfl⟩ := h v (.head _)
    exact .cons i t (intsAre_of fun u hu => h u (.tail _ hu))
noncomputable def NI.pn (x : NI) : PN := ⟨x.node, x.np, x.sv.map intOf⟩
noncomputable def hasP (ps : List PN) (k : Int) : Bool := ps.any fun p => p.node = k
noncomputable def ensP (ps : List PN) (k : Int) : List PN := if hasP ps k then ps else ps ++ [⟨k, 0, []⟩]
noncomputable def modP (ps : List PN) (k : Int) (f : PN → PN) : List PN := ps.map fun p => if p.node = k then f p else p
noncomputable def linkP (b : Int) (ps : List PN) (a : Int) : List PN := modP (ensP ps a) a fun p => { p with succ := p.succ ++ [b] }
noncomputable def addP (ps : List PN) (b : Int) (as : List Int) : List PN := as.foldl (linkP b) (modP (ensP ps b) b fun p => { p with np := p.np + as.length })
noncomputable def addrN (xs : List NI) : List Addr := xs.flatMap fun x => [x.info, x.dx, x.sl]
noncomputable def addrS (σ : Srt) (xs : List NI) : List Addr := σ.S :: σ.D :: σ.Nd :: addrN xs
theorem map_ledN (xs : List NI) : (ledN xs).map (·.1) = addrN xs := by
  unfold ledN addrN
  induction xs with
  | nil => rfl
  | cons x r ih => simp only [List.flatMap_cons, List.map_append, ih]; rfl
theorem ledN_app (a b : List NI) : ledN (a ++ b) = ledN a ++ ledN b := by unfold ledN; rw [List.flatMap_append]
theorem ledN_cons (a : NI) (b : List NI) : ledN (a :: b) = a.led ++ ledN b := by unfold ledN; rw [List.flatMap_cons]
theorem addrN_app (a b : List NI) : addrN (a ++ b) = addrN a ++ addrN b := by unfold addrN; rw [List.flatMap_append]
theorem addrN_cons (a : NI) (b : List NI) : addrN (a :: b) = a.info :: a.dx :: a.sl :: addrN b := by unfold addrN; rw [List.flatMap_cons]; rfl
theorem ne_all {l : List (Addr × Obj)} {a : Addr} (h : a ∉ l.map (·.1)) : ∀ p ∈ l, p.1 ≠ a := fun p hp e => h (e ▸ List.mem_map_of_mem hp)
structure SOK (σ : Srt) (xs : List NI) (rest : List (Addr × Obj)) (n : Nat) : Prop where
  nd : (addrS σ xs).Nodup
  off : ∀ a ∈ addrS σ xs, ∀ p ∈ rest, p.1 ≠ a
  keys : (xs.map (·.node)).Nodup
  isi : ∀ x ∈ xs, ∀ v ∈ x.sv, IsI v
  len : xs.length ≤ n
  slen : ∀ x ∈ xs, x.sv.length ≤ n
  lo : (σ.Nd == sysModules) = false
noncomputable abbrev ledS (σ : Srt) (w : World) (rv po nf : Value) (oN : Obj) (xs : List NI) (rest : List (Addr × Obj)) : List (Addr × Obj) :=
  (σ.S, instObj 137 σ.D) :: (σ.D, σ.d w rv po nf) :: (σ.Nd, oN) :: (ledN xs ++ rest)
theorem find_none_hasP {xs : List NI} {k : Int} (h : (xs.find? fun x => x.node = k) = none) : hasP (xs.map NI.pn) k = false := by
  unfold hasP
  rw [List.find?_eq_none] at h
  rw [List.any_eq_false]
  intro p hp
  obtain ⟨x, hx, rfl⟩ := List.mem_map.mp hp
  have := h x hx
  simp only [decide_eq_true_eq] at this
  exact fun e => this (of_decide_eq_true (p := x.pn.node = k) e)
theorem find_some_hasP {xs : List NI} {k : Int} {x : NI} (h : (xs.find? fun x => x.node = k) = some x) : hasP (xs.map NI.pn) k = true ∧ x ∈ xs ∧ x.node = k := by
  have h1 := List.mem_of_find?_eq_some h
  have h2 := List.find?_some h
  simp at h2
  refine ⟨?_, h1, h2⟩
  unfold hasP
  rw [List.any_eq_true]
  exact ⟨x.pn, List.mem_map_of_mem h1, decide_eq_true (p := x.pn.node = k) h2⟩
theorem modP_split {pre post : List NI} {x x' : NI} {f : PN → PN} (hk : ((pre ++ x :: post).map (·.node)).Nodup) (hx : x'.pn = f x.pn) :
    (pre ++ x' :: post).map NI.pn = modP ((pre ++ x :: post).map NI.pn) x.node f := by
  have ne : ∀ y, y ∈ pre ∨ y ∈ post → y.node ≠ x.node := by
    rw [List.map_append, List.map_cons] at hk
    rw [List.nodup_append] at hk
    obtain ⟨_, h2, h3⟩ := hk
    rw [List.nodup_cons] at h2
    rintro y (hy | hy) e
    · exact h3 _ (List.mem_map_of_mem hy) _ (.head _) e
    · exact h2.1 (e ▸ List.mem_map_of_mem hy)
  have same : ∀ l : List NI, (∀ y ∈ l, y.node ≠ x.node) → (l.map NI.pn).map (fun p => if p.node = x.node then f p else p) = l.map NI.pn := by
    intro l hl
    rw [List.map_map]
    refine List.map_congr_left fun y hy => ?_
    have : ¬ y.pn.node = x.node := hl y hy
    simp only [Function.comp, this, if_false]
  unfold modP
  rw [List.map_append, List.map_cons, List.map_append, List.map_cons, List.map_append, List.map_cons, same pre fun y hy => ne y (.inl hy), same post fun y hy => ne y (.inr hy)]
  have : x.pn.node = x.node := rfl
  simp only [this, if_true, hx]
inductive E2 {α0 α1 : Type} (p : α0 → α1 → Prop) : Prop
  | mk (a0 : α0) (a1 : α1) (h : p a0 a1) : E2 p
inductive E3 {α0 α1 α2 : Type} (p : α0 → α1 → α2 → Prop) : Prop
  | mk (a0 : α0) (a1 : α1) (a2 : α2) (h : p a0 a1 a2) : E3 p
inductive E4 {α0 α1 α2 α3 : Type} (p : α0 → α1 → α2 → α3 → Prop) : Prop
  | mk (a0 : α0) (a1 : α1) (a2 : α2) (a3 : α3) (h : p a0 a1 a2 a3) : E4 p
inductive E5 {α0 α1 α2 α3 α4 : Type} (p : α0 → α1 → α2 → α3 → α4 → Prop) : Prop
  | mk (a0 : α0) (a1 : α1) (a2 : α2) (a3 : α3) (a4 : α4) (h : p a0 a1 a2 a3 a4) : E5 p
inductive A3 (a0 a1 a2 : Prop) : Prop
  | mk (h0 : a0) (h1 : a1) (h2 : a2) : A3 a0 a1 a2
inductive A4 (a0 a1 a2 a3 : Prop) : Prop
  | mk (h0 : a0) (h1 : a1) (h2 : a2) (h3 : a3) : A4 a0 a1 a2 a3
inductive A5 (a0 a1 a2 a3 a4 : Prop) : Prop
  | mk (h0 : a0) (h1 : a1) (h2 : a2) (h3 : a3) (h4 : a4) : A5 a0 a1 a2 a3 a4
inductive A6 (a0 a1 a2 a3 a4 a5 : Prop) : Prop
  | mk (h0 : a0) (h1 : a1) (h2 : a2) (h3 : a3) (h4 : a4) (h5 : a5) : A6 a0 a1 a2 a3 a4 a5
inductive A8 (a0 a1 a2 a3 a4 a5 a6 a7 : Prop) : Prop
  | mk (h0 : a0) (h1 : a1) (h2 : a2) (h3 : a3) (h4 : a4) (h5 : a5) (h6 : a6) (h7 : a7) : A8 a0 a1 a2 a3 a4 a5 a6 a7
inductive A9 (a0 a1 a2 a3 a4 a5 a6 a7 a8 : Prop) : Prop
  | mk (h0 : a0) (h1 : a1) (h2 : a2) (h3 : a3) (h4 : a4) (h5 : a5) (h6 : a6) (h7 : a7) (h8 : a8) : A9 a0 a1 a2 a3 a4 a5 a6 a7 a8
/-- the goal as a variable, while hypotheses are taken apart: the motives stay small -/
theorem hide {P : Prop} (h : ∀ G : Prop, (P → G) → G) : P := h P fun x => x
theorem wpAny_boxed {α : Type} {M : Model} {A : Around} {t : Sem α} {Q : α → Shared → Prop} {E : Value → Shared → Prop} {s : Shared} (P : α → Shared → Prop) (h1 : ∀ a s', P a s' → Q a s')
    (h : ∀ PQ : α → Shared → Prop, (∀ a s', P a s' → PQ a s') → wpAny M A t PQ (fun _ _ => False) s) : wpAny M A t Q E s :=
  wpAny_mono (h P fun _ _ x => x) h1 fun _ _ x => x.elim
end
section
set_option maxHeartbeats 1000000
section
variable {prog : Program} {w : World} {A : Around} {E : Value → Shared → Prop} {s : Shared} {env : Env} {h₀ : Heap} {x : Str} {body : List Stmt} {Q : Flow → Shared → Prop}
noncomputable abbrev tupOf (its : Array Value) (n : Nat) : Obj := { cls := .type "tuple", data := .seq its n }
noncomputable def TurnEnd (h₀ : Heap) (L : Addr) (own : List (Addr × Obj)) (Jn : (Str → Option Value) → List (Addr × Obj) → Prop) (s₁ : Shared) (Q : Flow → Shared → Prop) (f : Flow) (s₂ : Shared) : Prop :=
  match f with
  | .ret v => Q (.ret v) s₂
  | .brk => Q .next s₂
  | _ => ∃ h' tk m' news', s₂ = { s₁ with heap := h', toks := tk } ∧ Fr h₀ L h' m' ∧ News h₀ L h' (news' ++ own) ∧ (∀ p ∈ news', ∀ q ∈ own, p.1 ≠ q.1) ∧ Jn m' news'
theorem iter_core {I l : Addr} {o : Obj} {n : Nat} {P : Nat → Value → Prop} {St : Nat → Heap → Prop} {m₀ : Str → Option Value} {news : List (Addr × Obj)} (J : Nat → (Str → Option Value) → List (Addr × Obj) → Prop)
    (W : Walks prog w A I [I, l] [I] n P St) (hI : s.heap.objs.size ≤ I) (hst : ∀ i h, St i h → ∃ oI, h.get? I = some oI) {s₂ : Shared}
    (hs₂ : ∃ h tk, s₂ = { s with heap := h, toks := tk }) (hst0 : St 0 s₂.heap) (F : Fr h₀ env.locals s₂.heap m₀)
    (N : News h₀ env.locals s₂.heap ((l, o) :: news)) (hold : ∀ p ∈ (l, o) :: news, p.1 < s.heap.objs.size) (hL : env.locals < s.heap.objs.size) (hI0 : h₀.get? I = none)
    (hln : ∀ p ∈ news, p.1 ≠ l) (hj : J 0 m₀ news)
    (turn : ∀ i v m₁ news₁ h tk oI, i < n → P i v → J i m₁ news₁ → (∀ p ∈ news₁, ∀ q ∈ [(l, o), (I, oI)], p.1 ≠ q.1) → Fr h₀ env.locals h (fun y => if y = x then some v else m₁ y) → News h₀ env.locals h (news₁ ++ [(l, o), (I, oI)]) →
      wpAny (model prog w) A (execs body env) (TurnEnd h₀ env.locals [(l, o), (I, oI)] (J (i + 1)) { s with heap := h, toks := tk } Q) E { s with heap := h, toks := tk })
    (done : ∀ m₁ news₁ h tk, J n m₁ news₁ → (∀ p ∈ news₁, p.1 ≠ l) → Fr h₀ env.locals h m₁ → News h₀ env.locals h ((l, o) :: news₁) → Q .next { s with heap := h, toks := tk }) :
    LoopAtV prog w A h₀ env x body Q E (.ref I) s₂ := by
  obtain ⟨h2, tk2, rfl⟩ := hs₂
  have hlI : l ≠ I := Nat.ne_of_lt (Nat.lt_of_lt_of_le (hold _ (.head _)) hI)
  refine ⟨I, [I, l], [I], n, P, St, m₀, (l, o) :: news, (fun i m₁ nw => ∃ news₁, A3 (nw = (l, o) :: news₁) ((∀ p ∈ news₁, p.1 ≠ l)) (J i m₁ news₁)), rfl, W, ?_, ?_, ?_, hst0, F, N, ⟨news, rfl, hln, hj⟩, ?_, ?_⟩
  · intro hm
    rcases List.mem_cons.mp hm with e | hm
    · exact absurd hI (Nat.not_le.mpr (e ▸ hL))
    · exact (N (l, o) (.head _)).2.1 (List.mem_singleton.mp hm).symm
  · intro b hb; rw [List.mem_singleton.mp hb]; exact hI0
  · intro p hp hI'
    exact absurd (hold p hp) (Nat.not_lt.mpr ((List.mem_singleton.mp hI') ▸ hI))
  · intro i v m₁ nw s₁ own hI0 hi hP hI1 hoff hown hget hall hst₁ F₁ N₁
    refine hide fun G hG => ?_
    obtain ⟨hh', tk', rfl⟩ := hI0
    obtain ⟨news₁, rfl, hn1, hJ⟩ := hI1
    refine hG ?_
    clear hG G
    obtain ⟨oI, hoI⟩ := hst _ _ hst₁
    have inI : (I, oI) ∈ own := hall I (by simp) hI0 oI hoI
    have nI : ∀ p ∈ news₁, p.1 ≠ I := fun p hp e => hoff p (.tail _ hp) (by simp [e])
    have sub : ∀ p ∈ own, p ∈ [(l, o), (I, oI)] := by
      intro p hp
      have g := hget p hp
      rcases List.mem_cons.mp (hown p hp) with e | e
      · obtain ⟨pa, po⟩ := p; dsimp only at e g; subst e; rw [hoI] at g; cases g; simp
      · obtain ⟨pa, po⟩ := p
        have e := List.mem_singleton.mp e
        dsimp only at e g; subst e
        rw [(N₁ _ (List.mem_append_right _ (.head _))).1] at g; cases g; simp
    refine wpAny_mono (turn i v m₁ news₁ hh' tk' oI hi hP hJ ?_ F₁ ?_) (fun f s₃ h₃ => ?_) fun _ _ e => e
    · intro p hp q hq
      rcases List.mem_cons.mp hq with rfl | hq
      · exact hn1 p hp
      · rw [List.mem_singleton.mp hq]; exact nI p hp
    · intro p hp
      refine N₁ p ?_
      rcases List.mem_append.mp hp with h | h
      · exact List.mem_append_right _ (.tail _ h)
      · rcases List.mem_cons.mp h with rfl | h
        · exact List.mem_append_right _ (.head _)
        · rw [List.mem_singleton.mp h]; exact List.mem_append_left _ inI
    · have fin : TurnEnd h₀ env.locals [(l, o), (I, oI)] (J (i + 1)) { s with heap := hh', toks := tk' } Q .next s₃ →
          LoopStepU h₀ env.locals [I] own (fun m₁ nw => ∃ news₁, A3 (nw = (l, o) :: news₁) ((∀ p ∈ news₁, p.1 ≠ l)) (J (i + 1) m₁ news₁)) { s with heap := hh', toks := tk' } .next s₃ := by
        intro hI0
        refine hide fun G hG => ?_
        obtain ⟨h', tk, m', news', e, F', N', hd, hJ'⟩ := hI0
        refine hG ?_
        clear hG G
        refine ⟨rfl, h', tk, m', (l, o) :: news', e, F', ?_, ?_, news', rfl, fun p hp => hd p hp _ (.head _), hJ'⟩
        · intro p hp
          refine N' p ?_
          rcases List.mem_append.mp hp with h | h
          · exact List.mem_append_right _ (sub p h)
          · rcases List.mem_cons.mp h with rfl | h
            · exact List.mem_append_right _ (.head _)
            · exact List.mem_append_left _ h
        · intro p hp hI'
          rcases List.mem_cons.mp hp with rfl | hp
          · exact hlI (List.mem_singleton.mp hI')
          · exact hd p hp _ (.tail _ (.head _)) (List.mem_singleton.mp hI')
      cases f with
      | ret v => exact .ret h₃
      | brk => exact .brk h₃
      | next => exact .next (fin h₃)
      | cont => exact .cont (fin h₃)
  · rintro h' tk m' nw F' N' _ ⟨news₁, rfl, hn1, hJ⟩
    exact done m' news₁ h' tk hJ hn1 F' N'
theorem iter_tup {l : Addr} {vs : List Value} {ep : Nat} {m₀ : Str → Option Value} {news : List (Addr × Obj)} (J : Nat → (Str → Option Value) → List (Addr × Obj) → Prop)
    (hh : A.handled = none) (F : Fr h₀ env.locals s.heap m₀) (N : News h₀ env.locals s.heap ((l, tupOf vs.toArray ep) :: news)) (hln : ∀ p ∈ news, p.1 ≠ l) (hj : J 0 m₀ news)
    (turn : ∀ i v m₁ news₁ h tk it, vs[i]? = some v → J i m₁ news₁ → (∀ p ∈ news₁, ∀ q ∈ [(l, tupOf vs.toArray ep), it], p.1 ≠ q.1) → Fr h₀ env.locals h (fun y => if y = x then some v else m₁ y) → News h₀ env.locals h (news₁ ++ [(l, tupOf vs.toArray ep), it]) →
      wpAny (model prog w) A (execs body env) (TurnEnd h₀ env.locals [(l, tupOf vs.toArray ep), it] (J (i + 1)) { s with heap := h, toks := tk } Q) E { s with heap := h, toks := tk })
    (done : ∀ m₁ news₁ h tk, J vs.length m₁ news₁ → (∀ p ∈ news₁, p.1 ≠ l) → Fr h₀ env.locals h m₁ → News h₀ env.locals h ((l, tupOf vs.toArray ep) :: news₁) → Q .next { s with heap := h, toks := tk }) :
    wpAny (model prog w) A (pyIter (.ref l)) (fun it s₂ => LoopAtV prog w A h₀ env x body Q E it s₂) E s := by
  have hl : s.heap.IsTuple l vs.toArray := ⟨_, (N _ (.head _)).1, rfl, _, rfl⟩
  have hne : l ≠ s.heap.objs.size := Nat.ne_of_lt (Heap.lt_size (N _ (.head _)).1)
  refine wpAny_pyIter_tuple hl ?_
  have W := Walks.tuple (prog := prog) (w := w) hh s.heap.objs.size l hne vs.toArray
  have hlen : vs.toArray.size = vs.length := by simp
  rw [hlen] at W
  refine iter_core J W (Nat.le_refl _) (fun i h st => ?_) ⟨_, _, rfl⟩ ⟨⟨_, Heap.get?_push_size _ rfl, rfl, rfl⟩, hl.at fun o e => Heap.get?_push_of_some _ e⟩ (F.push _) (fun p hp => ⟨Heap.get?_push_of_some _ (N p hp).1, (N p hp).2⟩)
    (fun p hp => Heap.lt_size (N p hp).1) F.ns.lt (next_is_new F) hln hj (fun i v m₁ news₁ h tk oI _ hP => turn i v m₁ news₁ h tk (_, oI) (by simpa using hP)) done
  obtain ⟨⟨o, ho, _⟩, _⟩ := st
  exact ⟨o, ho⟩
noncomputable def Agree (x : Str) (ys : List Str) (m₀ m' : Str → Option Value) : Prop := ∀ y, y ≠ x → ys.contains y = false → m' y = m₀ y
theorem Agree.put {x : Str} {ys : List Str} {m₀ m₁ : Str → Option Value} (h : Agree x ys m₀ m₁) (v : Option Value) : (fun y => if y = x then v else m₁ y) = fun y => if y = x then v else if ys.contains y then m₁ y else m₀ y := by
  funext y
  by_cases e : y = x
  · simp [e]
  · simp only [if_neg e]
    cases c : ys.contains y with
    | true => rfl
    | false => simp only [Bool.false_eq_true, if_false]; exact h y e c
theorem Agree.out {x : Str} {ys : List Str} {m₀ m₁ : Str → Option Value} (h : Agree x ys m₀ m₁) : m₁ = fun y => if y = x then m₁ y else if ys.contains y then m₁ y else m₀ y := by
  funext y
  by_cases e : y = x
  · simp [e]
  · simp only [if_neg e]
    cases c : ys.contains y with
    | true => rfl
    | false => simp only [Bool.false_eq_true, if_false]; exact h y e c
theorem iter_tupM {l : Addr} {vs : List Value} {ep : Nat} {m₀ : Str → Option Value} {news : List (Addr × Obj)} (ys : List Str) (J : Nat → List (Addr × Obj) → Prop)
    (hh : A.handled = none) (F : Fr h₀ env.locals s.heap m₀) (N : News h₀ env.locals s.heap ((l, tupOf vs.toArray ep) :: news)) (hln : ∀ p ∈ news, p.1 ≠ l) (hj : J 0 news)
    (turn : ∀ i v (u : Str → Option Value) news₁ h tk it, vs[i]? = some v → J i news₁ → (∀ p ∈ news₁, ∀ q ∈ [(l, tupOf vs.toArray ep), it], p.1 ≠ q.1) → Fr h₀ env.locals h (fun y => if y = x then some v else if ys.contains y then u y else m₀ y) → News h₀ env.locals h (news₁ ++ [(l, tupOf vs.toArray ep), it]) →
      wpAny (model prog w) A (execs body env) (TurnEnd h₀ env.locals [(l, tupOf vs.toArray ep), it] (fun m' nx => Agree x ys m₀ m' ∧ J (i + 1) nx) { s with heap := h, toks := tk } Q) E { s with heap := h, toks := tk })
    (done : ∀ (u : Str → Option Value) news₁ h tk, J vs.length news₁ → (∀ p ∈ news₁, p.1 ≠ l) → Fr h₀ env.locals h (fun y => if y = x then u y else if ys.contains y then u y else m₀ y) → News h₀ env.locals h ((l, tupOf vs.toArray ep) :: news₁) → Q .next { s with heap := h, toks := tk }) :
    wpAny (model prog w) A (pyIter (.ref l)) (fun it s₂ => LoopAtV prog w A h₀ env x body Q E it s₂) E s :=
  iter_tup (fun i m nx => Agree x ys m₀ m ∧ J i nx) hh F N hln ⟨fun _ _ _ => rfl, hj⟩
    (fun i v m₁ news₁ h tk it hv hJ ho F' N' => turn i v m₁ news₁ h tk it hv hJ.2 ho (hJ.1.put _ ▸ F') N')
    (fun m₁ news₁ h tk hJ ho F' N' => done m₁ news₁ h tk hJ.2 ho (hJ.1.out ▸ F') N')
end
end
section
set_option maxHeartbeats 1000000
theorem frag_on2 : (fun (_ : Params → Frag) => PySem.Challenge.rw_cy0005_05.Holds) hd.heap_39 → True := by
  k_fill
  intro _; trivial
theorem newTuple_eq {vs : List Value} (h : vs.length ≤ sizeLine) : newTuple vs = (alloc { cls := .type "tuple", data := .seq vs.toArray } >>= fun a => pure (.ref a)) := by
  unfold newTuple newObj
  have : ¬ (vs.toArray.size > sizeLine) := by simp; omega
  simp only [this, if_false]
  rfl
section
variable {w : World} {A₀ A : Around} {base h₀ : Heap} {outer : List Env} {env : Env} {L : Addr} {m mg mb : Str → Option Value} {p : Program} {loose : List Str} {mean : ExcName → Option Value} {s : Shared}
  {R : Result → Shared → Prop}
theorem SOK.more {σ : Srt} {xs : List NI} {rest : List (Addr × Obj)} {n : Nat} {x : NI} (hs : SOK σ xs rest n) (hx : x.node ∉ xs.map (·.node)) (hv : x.sv = [])
    (hlt : ∀ a ∈ addrS σ xs, a < x.dx) (hlr : ∀ p ∈ rest, p.1 < x.dx) (h1 : x.dx < x.info) (h2 : x.info < x.sl) : SOK σ (xs ++ [x]) rest (n + 1) where
  nd := by
    have e : (addrS σ (xs ++ [x])).Perm (x.info :: x.dx :: x.sl :: addrS σ xs) := by
      unfold addrS
      rw [addrN_app, addrN_cons]
      show List.Perm (σ.S :: σ.D :: σ.Nd :: (addrN xs ++ x.info :: x.dx :: x.sl :: [])) _
      refine List.perm_iff_count.mpr fun a => ?_
      simp only [List.count_cons, List.count_append, List.count_nil]
      omega
    rw [e.nodup_iff]
    have g : ∀ b : Addr, x.dx ≤ b → b ∉ addrS σ xs := fun b hb q => absurd (hlt b q) (Nat.not_lt.mpr hb)
    refine List.nodup_cons.mpr ⟨?_, List.nodup_cons.mpr ⟨?_, List.nodup_cons.mpr ⟨g _ (Nat.le_of_lt (Nat.lt_trans h1 h2)), hs.nd⟩⟩⟩
    · intro q
      rcases List.mem_cons.mp q with e | q
      · exact absurd h1 (e ▸ Nat.lt_irrefl _)
      · rcases List.mem_cons.mp q with e | q
        · exact absurd h2 (e ▸ Nat.lt_irrefl _)
        · exact g _ (Nat.le_of_lt h1) q
    · intro q
      rcases List.mem_cons.mp q with e | q
      · exact absurd (Nat.lt_trans h1 h2) (e ▸ Nat.lt_irrefl _)
      · exact g _ (Nat.le_refl _) q
  off := by
    intro a ha q hq
    have ha' : a ∈ addrS σ xs ∨ x.dx ≤ a := by
      unfold addrS at ha ⊢
      rw [addrN_app, addrN_cons] at ha
      simp only [List.mem_cons, List.mem_append, addrN, List.flatMap_nil, List.not_mem_nil, or_false] at ha ⊢
      have e1 := Nat.le_of_lt h1
      have e2 := Nat.le_of_lt (Nat.lt_trans h1 h2)
      rcases ha with ha | ha | ha | ha | rfl | rfl | rfl
      · exact .inl (.inl ha)
      · exact .inl (.inr (.inl ha))
      · exact .inl (.inr (.inr (.inl ha)))
      · exact .inl (.inr (.inr (.inr ha)))
      · exact .inr e1
      · exact .inr (Nat.le_refl _)
      · exact .inr e2
    rcases ha' with ha' | ha'
    · exact hs.off a ha' q hq
    · exact fun e => absurd (hlr q hq) (Nat.not_lt.mpr (e ▸ ha'))
  keys := by
    rw [List.map_append, List.nodup_append]
    refine ⟨hs.keys, by simp, fun a ha b hb e => ?_⟩
    rw [List.map_cons, List.map_nil, List.mem_singleton] at hb
    exact hx (hb ▸ e ▸ ha)
  isi := by
    intro y hy v hv'
    rcases List.mem_append.mp hy with hy | hy
    · exact hs.isi y hy v hv'
    · rw [List.mem_singleton.mp hy, hv] at hv'; cases hv'
  len := by rw [List.length_append]; have := hs.len; simp; omega
  slen := by
    intro y hy
    rcases List.mem_append.mp hy with hy | hy
    · exact Nat.le_succ_of_le (hs.slen y hy)
    · rw [List.mem_singleton.mp hy, hv]; simp
  lo := hs.lo
theorem SOK.wk {σ : Srt} {xs : List NI} {rest : List (Addr × Obj)} {n n' : Nat} (hs : SOK σ xs rest n) (h : n ≤ n') : SOK σ xs rest n' :=
  ⟨hs.nd, hs.off, hs.keys, hs.isi, Nat.le_trans hs.len h, fun x hx => Nat.le_trans (hs.slen x hx) h, hs.lo⟩
theorem map_ledS {σ : Srt} {w : World} {rv po nf : Value} {oN : Obj} {xs : List NI} {rest : List (Addr × Obj)} : (ledS σ w rv po nf oN xs rest).map (·.1) = addrS σ xs ++ rest.map (·.1) := by
  simp only [ledS, addrS, List.map_cons, List.map_append, map_ledN, List.cons_append]
theorem inL {σ : Srt} {w : World} {rv po nf : Value} {oN : Obj} {ys : List NI} {rest : List (Addr × Obj)} : ∀ q ∈ ledS σ w rv po nf oN ys rest, q.1 ∈ addrS σ ys ∨ q ∈ rest := by
  intro q hq
  simp only [ledS, List.mem_cons, List.mem_append] at hq
  unfold addrS
  simp only [List.mem_cons]
  rcases hq with rfl | rfl | rfl | hq | hq
  · exact .inl (.inl rfl)
  · exact .inl (.inr (.inl rfl))
  · exact .inl (.inr (.inr (.inl rfl)))
  · exact .inl (.inr (.inr (.inr (by rw [← map_ledN]; exact List.mem_map_of_mem hq))))
  · exact .inr hq
/-- self._get_nodeinfo(k), over the whole ledger -/
theorem c_gn {σ : Srt} {rv po nf : Value} {oN : Obj} {xs : List NI} {rest : List (Addr × Obj)} {k : Int} {tk : Tok} {n : Nat}
    (hh : A.handled = none) (hfr : A.frames = some (env :: outer)) (hdp : A.depth < 900) (hf : env.frame = some L) (hke : env.scope.kind = .function)
    (B : Below A₀ base outer h₀) (X₀ : (hd.heap_39 w.params).In h₀) (T : Top p loose mean mg mb h₀) (F : Fr h₀ L s.heap m)
    (hs : SOK σ xs rest n) (hn : n ≤ 9000) (hdN : oN.IsDictOf (intKind Pr w) (kvsN xs)) (N : News h₀ L s.heap (ledS σ w rv po nf oN xs rest))
    (hq : ∀ h' tk' oN' xs' x, x ∈ xs' → x.node = k → xs'.map NI.pn = ensP (xs.map NI.pn) k → SOK σ xs' rest (n + 1) → oN'.IsDictOf (intKind Pr w) (kvsN xs') → Fr h₀ L h' m →
      News h₀ L h' (ledS σ w rv po nf oN' xs' rest) → R (.ok (.ret (.ref x.info))) { s with heap := h', toks := tk' }) :
    codeAny (model Pr w) A (.call (.ref 80) ⟨[.ref σ.S, .int k tk], []⟩) R s := by
  have nd := hs.nd
  have hne : (σ.S ≠ σ.Nd ∧ σ.D ≠ σ.Nd) ∧ ∀ p ∈ ledN xs ++ rest, p.1 ≠ σ.Nd := by
    have off := hs.off σ.Nd (by unfold addrS; simp)
    unfold addrS at nd
    simp only [List.nodup_cons, List.mem_cons, not_or] at nd
    refine ⟨⟨nd.1.2.1, nd.2.1.1⟩, fun q hq => ?_⟩
    rcases List.mem_append.mp hq with h | h
    · refine ne_all ?_ q h; rw [map_ledN]; exact nd.2.2.1
    · exact off q h
  refine c_get_nodeinfo hh hfr hdp hf hke B X₀ T F hs.lo hdN (Nat.le_trans hs.len (by omega)) hne N ?_ ?_
  · intro h' tk' x hx F' N'
    obtain ⟨h1, h2, h3⟩ := find_some_hasP hx
    exact hq h' tk' oN xs x h2 h3 (by unfold ensP; rw [h1]; rfl) (hs.wk (Nat.le_succ _)) hdN F' N'
  · intro h' tk' oN' x hx e1 e2 e3 hd' hlt l1 l2 F' N'
    have hp := find_none_hasP hx
    refine hq h' tk' oN' (xs ++ [x]) x (by simp) e1 ?_ (hs.more ?_ e3 ?_ ?_ l1 l2) hd' F' (News.sub N' ?_)
    · unfold ensP; rw [hp, List.map_append]; simp [NI.pn, e1, e2, e3]
    · intro q
      rw [e1] at q
      obtain ⟨y, hy, hyk⟩ := List.mem_map.mp q
      rw [List.find?_eq_none] at hx
      exact hx y hy (by simp [hyk])
    · intro a ha
      have ha : a ∈ addrS σ xs ++ rest.map (·.1) := List.mem_append_left _ ha
      rw [← map_ledS (w := w) (rv := rv) (po := po) (nf := nf) (oN := oN)] at ha
      obtain ⟨q, hq', rfl⟩ := List.mem_map.mp ha
      exact hlt q hq'
    · exact fun q hq' => hlt q (by simp only [List.mem_cons, List.mem_append]; exact .inr (.inr (.inr (.inr hq'))))
    · intro q hq'
      simp only [ledS, ledN_app, ledN_cons, ledN, List.flatMap_nil, List.append_nil, NI.led, List.mem_cons, List.mem_append, List.not_mem_nil, or_false] at hq' ⊢
      grind
end
end
section
set_option maxHeartbeats 1000000
theorem frag_on3 : (fun (_ : Params → Frag) => PySem.Challenge.rw_cy0005_05.Holds) hd.heap_39 → True := by
  k_fill
  intro _; trivial
section
variable {w : World} {A₀ A : Around} {base h₀ : Heap} {outer : List Env} {env : Env} {L : Addr} {m mg mb : Str → Option Value} {p : Program} {loose : List Str} {mean : ExcName → Option Value} {s : Shared}
  {R : Result → Shared → Prop}
/-- the ledger with one node laid open -/
noncomputable abbrev ledO (σ : Srt) (w : World) (rv po nf : Value) (oN : Obj) (x : NI) (rest : List (Addr × Obj)) : List (Addr × Obj) :=
  (x.info, x.o) :: (x.dx, dictOf [] 0) :: (x.sl, x.l) :: (σ.S, instObj 137 σ.D) :: (σ.D, σ.d w rv po nf) :: (σ.Nd, oN) :: rest
structure Dst (σ : Srt) (x : NI) (rest : List (Addr × Obj)) : Prop where
  e0 : @Ne Nat x.info x.dx
  e0' : @Ne Nat x.dx x.sl
  e1 : @Ne Nat x.info x.sl
  e2 : @Ne Nat x.info σ.S
  e3 : @Ne Nat x.info σ.D
  e4 : @Ne Nat x.info σ.Nd
  e5 : @Ne Nat x.sl σ.S
  e6 : @Ne Nat x.sl σ.D
  e7 : @Ne Nat x.sl σ.Nd
  e8 : @Ne Nat σ.S σ.D
  e9 : @Ne Nat σ.S σ.Nd
  e10 : @Ne Nat σ.D σ.Nd
  r1 : ∀ p ∈ rest, p.1 ≠ x.info
  r2 : ∀ p ∈ rest, p.1 ≠ x.sl
  r3 : ∀ p ∈ rest, p.1 ≠ σ.S
  r4 : ∀ p ∈ rest, p.1 ≠ σ.D
  r5 : ∀ p ∈ rest, p.1 ≠ σ.Nd
noncomputable abbrev restO (pre post : List NI) (x : NI) (rest : List (Addr × Obj)) : List (Addr × Obj) := ledN pre ++ (ledN post ++ rest)
theorem SOK.dst {σ : Srt} {pre post : List NI} {x : NI} {rest : List (Addr × Obj)} {n : Nat} (hs : SOK σ (pre ++ x :: post) rest n) : Dst σ x (restO pre post x rest) := by
  have e : (addrS σ (pre ++ x :: post)).Perm (x.info :: x.dx :: x.sl :: σ.S :: σ.D :: σ.Nd :: (addrN pre ++ addrN post)) := by
    unfold addrS
    rw [addrN_app, addrN_cons]
    refine List.perm_iff_count.mpr fun a => ?_
    simp only [List.count_cons, List.count_append]
    omega
  have nd := e.nodup_iff.mp hs.nd
  have off : ∀ a ∈ addrS σ (pre ++ x :: post), a ∉ addrN pre ++ addrN post → ∀ q ∈ restO pre post x rest, q.1 ≠ a := by
    intro a ha hn q hq
    simp only [restO, List.mem_append] at hq
    rcases hq with h | h | h
    · exact fun e => hn (List.mem_append_left _ (by rw [← map_ledN, ← e]; exact List.mem_map_of_mem h))
    · exact fun e => hn (List.mem_append_right _ (by rw [← map_ledN, ← e]; exact List.mem_map_of_mem h))
    · exact hs.off a ha q h
  simp only [List.nodup_cons, List.mem_cons, not_or] at nd
  obtain ⟨⟨a0, a1, a2, a3, a4, a5⟩, ⟨z1, _⟩, ⟨b1, b2, b3, b4⟩, ⟨c1, c2, c3⟩, ⟨d1, d2⟩, f1, _⟩ := nd
  have inS : ∀ a, a ∈ [x.info, x.sl, σ.S, σ.D, σ.Nd] → a ∈ addrS σ (pre ++ x :: post) := by
    intro a ha
    rw [e.mem_iff]
    simp only [List.mem_cons, List.not_mem_nil, or_false] at ha ⊢
    grind
  exact ⟨a0, z1, a1, a2, a3, a4, b1, b2, b3, c1, c2, d1, off _ (inS _ (by simp)) a5, off _ (inS _ (by simp)) b4, off _ (inS _ (by simp)) c3, off _ (inS _ (by simp)) d2, off _ (inS _ (by simp)) f1⟩
theorem led_open {σ : Srt} {rv po nf : Value} {oN : Obj} {pre post : List NI} {x : NI} {rest : List (Addr × Obj)} {h : Heap} (N : News h₀ L h (ledS σ w rv po nf oN (pre ++ x :: post) rest)) :
    News h₀ L h (ledO σ w rv po nf oN x (restO pre post x rest)) := News.sub N fun q hq => by
  simp only [ledS, ledO, restO, ledN_app, ledN_cons, NI.led, List.mem_cons, List.mem_append, List.not_mem_nil, or_false] at hq ⊢
  grind
theorem led_shut {σ : Srt} {rv po nf : Value} {oN : Obj} {pre post : List NI} {x : NI} {rest : List (Addr × Obj)} {h : Heap} (N : News h₀ L h (ledO σ w rv po nf oN x (restO pre post x rest))) :
    News h₀ L h (ledS σ w rv po nf oN (pre ++ x :: post) rest) := News.sub N fun q hq => by
  simp only [ledS, ledO, restO, ledN_app, ledN_cons, NI.led, List.mem_cons, List.mem_append, List.not_mem_nil, or_false] at hq ⊢
  grind
theorem SOK.put {σ : Srt} {pre post : List NI} {x x' : NI} {rest : List (Addr × Obj)} {n n' : Nat} (hs : SOK σ (pre ++ x :: post) rest n) (e1 : x'.info = x.info) (e2 : x'.dx = x.dx) (e3 : x'.sl = x.sl) (e4 : x'.node = x.node)
    (hv : ∀ v ∈ x'.sv, IsI v) (hl : x'.sv.length ≤ n') (hn : n ≤ n') : SOK σ (pre ++ x' :: post) rest n' where
  nd := by
    have := hs.nd
    unfold addrS at this ⊢
    rw [addrN_app, addrN_cons] at this ⊢
    rw [e1, e2, e3]; exact this
  off := by
    have := hs.off
    unfold addrS at this ⊢
    rw [addrN_app, addrN_cons] at this ⊢
    rw [e1, e2, e3]; exact this
  keys := by have := hs.keys; rw [List.map_append, List.map_cons] at this ⊢; rw [e4]; exact this
  isi := by
    intro y hy
    rcases List.mem_append.mp hy with q | q
    · exact hs.isi y (List.mem_append_left _ q)
    · rcases List.mem_cons.mp q with rfl | q
      · exact hv
      · exact hs.isi y (List.mem_append_right _ (.tail _ q))
  len := by have := hs.len; simp only [List.length_append, List.length_cons] at this ⊢; omega
  slen := by
    intro y hy
    rcases List.mem_append.mp hy with q | q
    · exact Nat.le_trans (hs.slen y (List.mem_append_left _ q)) hn
    · rcases List.mem_cons.mp q with rfl | q
      · exact hl
      · exact Nat.le_trans (hs.slen y (List.mem_append_right _ (.tail _ q))) hn
  lo := hs.lo
theorem kvsN_put {pre post : List NI} {x x' : NI} (e1 : x'.info = x.info) (e4 : x'.node = x.node) : kvsN (pre ++ x' :: post) = kvsN (pre ++ x :: post) := by
  unfold kvsN; simp only [List.map_append, List.map_cons, e1, e4]
theorem led_np {σ : Srt} {rv po nf : Value} {oN : Obj} {pre post : List NI} {x : NI} {rest : List (Addr × Obj)} {h : Heap} {D' : Addr} {oD : Obj} {np : Int} {t : Tok}
    (N : News h₀ L h ((D', oD) :: (x.info, ⟨.ref 40, some x.dx, .plain, [some (.int x.node x.ntok), some (.int np t), some (.ref x.sl)].toArray⟩) :: (x.dx, dictOf [] 0) :: (x.sl, x.l) :: (σ.S, instObj 137 σ.D) :: (σ.D, σ.d w rv po nf) :: (σ.Nd, oN) :: restO pre post x rest)) :
    ∃ x2 : NI, (x2.info = x.info ∧ x2.dx = x.dx ∧ x2.node = x.node ∧ x2.np = np ∧ x2.sl = x.sl ∧ x2.sv = x.sv) ∧ News h₀ L h (ledS σ w rv po nf oN (pre ++ x2 :: post) ((D', oD) :: rest)) :=
  ⟨⟨x.info, x.dx, x.node, x.ntok, np, t, x.sl, x.sv, x.ep⟩, ⟨rfl, rfl, rfl, rfl, rfl, rfl⟩, led_shut (News.sub N (by walk_at "sub"))⟩
theorem led_sv {σ : Srt} {rv po nf : Value} {oN : Obj} {pre post : List NI} {x : NI} {rest : List (Addr × Obj)} {h : Heap} {v : Value} {ep : Nat}
    (N : News h₀ L h ((x.info, x.o) :: (x.dx, dictOf [] 0) :: (x.sl, listOf (x.sv.toArray.push v) ep) :: (σ.S, instObj 137 σ.D) :: (σ.D, σ.d w rv po nf) :: (σ.Nd, oN) :: restO pre post x rest)) :
    ∃ x2 : NI, (x2.info = x.info ∧ x2.dx = x.dx ∧ x2.node = x.node ∧ x2.np = x.np ∧ x2.sl = x.sl ∧ x2.sv = x.sv ++ [v]) ∧ News h₀ L h (ledS σ w rv po nf oN (pre ++ x2 :: post) rest) := by
  rw [List.push_toArray] at N
  exact ⟨⟨x.info, x.dx, x.node, x.ntok, x.np, x.nptok, x.sl, x.sv ++ [v], ep⟩, ⟨rfl, rfl, rfl, rfl, rfl, rfl⟩, led_shut N⟩
theorem c_add {σ : Srt} {po nf : Value} {oN : Obj} {xs : List NI} {rest : List (Addr × Obj)} {k : Int} {tk : Tok} {n : Nat} {vs : List Value}
    (hh : A.handled = none) (hfr : A.frames = some (env :: outer)) (hdp : A.depth < 800) (hf : env.frame = some L) (hke : env.scope.kind = .function)
    (B : Below A₀ base outer h₀) (X₀ : (hd.heap_39 w.params).In h₀) (T : Top p loose mean mg mb h₀) (F : Fr h₀ L s.heap m)
    (hs : SOK σ xs rest n) (hn : n + 2 * vs.length ≤ 8000) (hvs : ∀ v ∈ vs, IsI v) (hdN : oN.IsDictOf (intKind Pr w) (kvsN xs)) (N : News h₀ L s.heap (ledS σ w .none po nf oN xs rest))
    (hq : ∀ h' tk' oN' xs', xs'.map NI.pn = addP (xs.map NI.pn) k (vs.map intOf) → SOK σ xs' rest (n + 1 + 2 * vs.length) → oN'.IsDictOf (intKind Pr w) (kvsN xs') → Fr h₀ L h' m →
      News h₀ L h' (ledS σ w .none po nf oN' xs' rest) → R (.ok (.ret .none)) { s with heap := h', toks := tk' }) :
    codeAny (model Pr w) A (.call (.ref 87) ⟨.ref σ.S :: .int k tk :: vs, []⟩) R s := by
  obtain ⟨_, d, _, gs, u⟩ := A
  dsimp only at hh hfr hdp
  subst hh hfr
  refine' kp_rest (vs := vs) (binds := fun D => [(Str.ofString "self", .ref σ.S), (Str.ofString "node", .int k tk), (Str.ofString "predecessors", .ref D)]) (g₁ := fun D => some [(Str.ofString "self", .ref σ.S), (Str.ofString "node", .int k tk), (Str.ofString "predecessors", .ref D)]) B F X₀ N T rfl hf hke ?k6 ?k7 ?k8 ?kV ?kP ?kG ?kB ?_ ?c2 ?c3 ?c4 ?c5
  case k6 => k_is
  case k7 => k_is
  case k8 => k_room
  case kV => exact rfl
  case kP =>
    unfold bindArgs
    dsimp only [List.map, List.length, List.append, List.zip, List.zipWith]
    rw [newTuple_eq]
    · cases vs <;> rfl
    · rw [sizeLine_eq]; show vs.length ≤ _; omega
  case kG => exact fun _ => rfl
  case kB => exact fun _ => locs rfl
  case c5 => decide
  case c2 => exact rfl
  case c3 => exact rfl
  case c4 => exact rfl
  intro D' g' L' h' l1 FG' F' N' B' X' T'
  have hD : SOK σ xs ((D', tupOf vs.toArray 0) :: rest) n := by
    refine ⟨hs.nd, fun a ha q hq => ?_, hs.keys, hs.isi, hs.len, hs.slen, hs.lo⟩
    rcases List.mem_cons.mp hq with rfl | hq
    · have ha : a ∈ addrS σ xs ++ rest.map (·.1) := List.mem_append_left _ ha
      rw [← map_ledS (w := w) (rv := .none) (po := po) (nf := nf) (oN := oN)] at ha
      obtain ⟨y, hy, e⟩ := List.mem_map.mp ha
      exact fun e' => absurd (l1 y hy) (by rw [e, ← e']; exact Nat.lt_irrefl _)
    · exact hs.off a ha q hq
  have hDr : ∀ q ∈ rest, q.1 ≠ D' := fun q hq e => absurd (l1 q (by simp only [ledS, List.mem_cons, List.mem_append]; exact .inr (.inr (.inr (.inr hq))))) (e ▸ Nat.lt_irrefl _)
  replace N' : News g' L' h' (ledS σ w .none po nf oN xs ((D', tupOf vs.toArray 0) :: rest)) := News.sub N' (by walk_at "sub")
  clear l1
  (try dsimp only)
  (try k_fold)
  walk_at "go"
  refine wpAny_call (c_gn (rest := (D', tupOf vs.toArray 0) :: rest) rfl rfl (by k_room) rfl rfl B' X' T' (by assumption) hD (by omega) hdN (by assumption) ?_)
  intro h1 tk1 oN1 xs1 x hx hxk hx1 hs1 hd1 F1 N1
  obtain ⟨pre, post, rfl⟩ := List.append_of_mem hx
  obtain ⟨q0, q0', q1, q2, q3, q4, q5, q6, q7, q8, q9, q10, r1, r2, r3, r4, r5⟩ := hs1.dst
  have mD : (D', tupOf vs.toArray 0) ∈ restO pre post x ((D', tupOf vs.toArray 0) :: rest) := by simp [restO]
  have d1 : @Ne Nat D' x.info := r1 _ mD
  have d2 : @Ne Nat D' x.sl := r2 _ mD
  have mR : ∀ q ∈ restO pre post x rest, q ∈ restO pre post x ((D', tupOf vs.toArray 0) :: rest) := by
    intro q hq; simp only [restO, List.mem_cons, List.mem_append] at hq ⊢; grind
  replace r1 : ∀ q ∈ restO pre post x rest, q.1 ≠ x.info := fun q hq => r1 q (mR q hq)
  replace r2 : ∀ q ∈ restO pre post x rest, q.1 ≠ x.sl := fun q hq => r2 q (mR q hq)
  have mR' := led_open N1
  replace N1 : News g' L' h1 ((D', tupOf vs.toArray 0) :: ledO σ w .none po nf oN1 x (restO pre post x rest)) := News.sub mR' (by walk_at "sub")
  clear mR' mR mD r3 r4 r5
  obtain ⟨ro, hro⟩ : ∃ ro, restO pre post x rest = ro := ⟨_, rfl⟩
  rw [hro] at N1 r1 r2
  dsimp only
  walk_at "go"
  refine len_tuple (News.isTup (by k_asm) (by k_mem)) (by simp only [List.size_toArray]; omega) ?_
  walk_at "go"
  rename News g' L' _ _ => N2
  rename Fr g' L' _ _ => F2
  subst hro
  refine hide fun G hG => ?_
  obtain ⟨x2, ⟨z1, z2, z3, z4, z5, z6⟩, N3⟩ := led_np N2
  refine hG ?_
  clear hG G
  have hk2 := hs1.keys
  have hs2 : SOK σ (pre ++ x2 :: post) ((D', tupOf vs.toArray 0) :: rest) (n + 1) := hs1.put z1 z2 z5 z3 (by rw [z6]; exact hs1.isi x (by simp)) (by rw [z6]; exact hs1.slen x (by simp)) (Nat.le_refl _)
  have hd2 : oN1.IsDictOf (intKind Pr w) (kvsN (pre ++ x2 :: post)) := by rw [kvsN_put z1 z3]; exact hd1
  have hp2 : (pre ++ x2 :: post).map NI.pn = modP (ensP (xs.map NI.pn) k) k fun p => { p with np := p.np + (vs.map intOf).length } := by
    rw [modP_split (x := x) (f := fun p => { p with np := p.np + ((vs.map intOf).length : Int) }) hk2 (by simp only [NI.pn, z3, z4, z6, List.length_map, List.size_toArray]), hxk, hx1]
  obtain ⟨ys, hys⟩ : ∃ ys, pre ++ x2 :: post = ys := ⟨_, rfl⟩
  rw [hys] at N3 hs2 hd2 hp2
  clear N2 z1 z2 z3 z4 z5 z6 hx1 hs1 hd1 hk2
  refine For_invVF F2 rfl rfl ?_
  walk1
  have hnD : ∀ q ∈ ledS σ w .none po nf oN1 ys rest, q.1 ≠ D' := by
    intro q hq e
    rcases inL q hq with h | h
    · exact hs2.off _ h (D', tupOf vs.toArray 0) (.head _) e.symm
    · exact hDr q h e
  refine iter_tupM (vs := vs) (ep := 0) [Str.ofString "pred_info"] (fun i nx => E2 fun oNi xsi => A4 (nx = ledS σ w .none po nf oNi xsi rest) (SOK σ xsi ((D', tupOf vs.toArray 0) :: rest) (n + 1 + 2 * i)) (oNi.IsDictOf (intKind Pr w) (kvsN xsi)) (xsi.map NI.pn = ((vs.take i).map intOf).foldl (linkP k) (modP (ensP (xs.map NI.pn) k) k fun p => { p with np := p.np + (vs.map intOf).length }))) rfl F2 (News.sub N3 ?_) hnD ⟨oN1, ys, rfl, hs2, hd2, hp2⟩ ?_ ?_
  · walk_at "sub"
  · intro i v u' nx h3 tk3 it hv hI0 hoff F4 N4
    refine hide fun G hG => ?_
    obtain ⟨oNi, xsi, rfl, hsi, hdi, hpi⟩ := hI0
    refine hG ?_
    clear hG G
    have hi : i < vs.length := by
      rcases Nat.lt_or_ge i vs.length with h | h
      · exact h
      · rw [List.getElem?_eq_none h] at hv; cases hv
    obtain ⟨vi, vt, rfl⟩ := hvs v (List.mem_of_getElem? hv)
    have hsi' : SOK σ xsi ((D', tupOf vs.toArray 0) :: it :: rest) (n + 1 + 2 * i) := by
      refine ⟨hsi.nd, fun a ha q hq => ?_, hsi.keys, hsi.isi, hsi.len, hsi.slen, hsi.lo⟩
      rcases List.mem_cons.mp hq with rfl | hq
      · exact hsi.off a ha _ (.head _)
      · rcases List.mem_cons.mp hq with rfl | hq
        · have : ∃ q' ∈ ledS σ w .none po nf oNi xsi rest, q'.1 = a := by
            have ha' : a ∈ (ledS σ w .none po nf oNi xsi rest).map (·.1) := by rw [map_ledS]; exact List.mem_append_left _ ha
            obtain ⟨q', h1, h2⟩ := List.mem_map.mp ha'
            exact ⟨q', h1, h2⟩
          obtain ⟨q', h1, rfl⟩ := this
          exact fun e => hoff q' h1 q (.tail _ (.head _)) e.symm
        · exact hsi.off a ha q (.tail _ hq)
    replace N4 : News g' L' h3 (ledS σ w .none po nf oNi xsi ((D', tupOf vs.toArray 0) :: it :: rest)) := News.sub N4 (by walk_at "sub")
    clear N3 F2
    refine wpAny_boxed _ (fun _ _ x => x) fun PQ hPQ => ?_
    walk_at "go"
    refine wpAny_call (c_gn (rest := (D', tupOf vs.toArray 0) :: it :: rest) rfl rfl (by k_room) rfl rfl B' X' T' (by assumption) hsi' (by omega) hdi (by assumption) ?_)
    intro h5 tk5 oN5 xs5 x5 hx5 hxk5 hx15 hs5 hd5 F5 N5
    obtain ⟨pre5, post5, rfl⟩ := List.append_of_mem hx5
    obtain ⟨q0, q0', q1, q2, q3, q4, q5, q6, q7, q8, q9, q10, r1, r2, r3, r4, r5⟩ := hs5.dst
    replace N5 := led_open N5
    obtain ⟨ro, hro⟩ : ∃ ro, restO pre5 post5 x5 ((D', tupOf vs.toArray 0) :: it :: rest) = ro := ⟨_, rfl⟩
    rw [hro] at N5 r1 r2 r3 r4 r5
    dsimp only
    walk_at "go"
    have hsl := hs5.slen x5 (by simp)
    refine' append_K ?k1 ?k2 ?k3 ?_ ?z
    case k1 => k_asm
    case k2 => k_asm
    case k3 => k_upd
    case z => simp only [List.size_toArray]; rw [sizeLine_eq]; omega
    intro h6 F6 N6
    subst hro
    refine hide fun G hG => ?_
    obtain ⟨x6, ⟨z1, z2, z3, z4, z5, z6⟩, N7⟩ := led_sv N6
    refine hG ?_
    clear hG G
    walk_at "go"
    have hs6 : SOK σ (pre5 ++ x6 :: post5) ((D', tupOf vs.toArray 0) :: it :: rest) (n + 1 + 2 * (i + 1)) := by
      refine hs5.put z1 z2 z5 z3 ?_ ?_ (by omega)
      · rw [z6]
        intro v hv
        rcases List.mem_append.mp hv with h | h
        · exact hs5.isi x5 (by simp) v h
        · rw [List.mem_singleton.mp h]; exact ⟨_, _, rfl⟩
      · rw [z6, List.length_append]; simp only [List.length_cons, List.length_nil]; omega
    refine hPQ _ _ ⟨_, _, _, ledS σ w .none po nf oN5 (pre5 ++ x6 :: post5) rest, rfl, F6, News.sub N7 ?_, ?_, ?_, oN5, _, rfl, ?_, ?_, ?_⟩
    · walk_at "sub"
    · intro q hq r hr
      rcases inL q hq with h | h
      · refine fun e => hs6.off _ h r ?_ e.symm
        simp only [List.mem_cons, List.not_mem_nil, or_false] at hr ⊢
        rcases hr with h | h
        · exact .inl h
        · exact .inr (.inl h)
      · exact hoff q (by simp only [ledS, List.mem_cons, List.mem_append]; exact .inr (.inr (.inr (.inr h)))) r hr
    · intro y h1 h2
      have h3 : y ≠ Str.ofString "pred_info" := by intro e; subst e; revert h2; decide
      simp only [if_neg h1, if_neg h3, h2, Bool.false_eq_true, if_false]
    · exact ⟨hs6.nd, fun a ha q hq => hs6.off a ha q (by
        rcases List.mem_cons.mp hq with h | h
        · exact h ▸ .head _
        · exact .tail _ (.tail _ h)), hs6.keys, hs6.isi, hs6.len, hs6.slen, hs6.lo⟩
    · rw [kvsN_put z1 z3]; exact hd5
    · rw [modP_split (x := x5) (f := fun p => { p with succ := p.succ ++ [k] }) hs5.keys (by simp only [NI.pn, z3, z4, z6, List.map_append, List.map_cons, List.map_nil, intOf]), hxk5, hx15, List.take_add_one, hv]
      simp only [Option.toList, List.map_append, List.map_cons, List.map_nil, intOf, List.foldl_append, List.foldl_cons, List.foldl_nil, hpi]
      rfl
  · intro u' nx h3 tk3 hI0 hoff F4 N4
    refine hide fun G hG => ?_
    obtain ⟨oNi, xsi, rfl, hsi, hdi, hpi⟩ := hI0
    refine hG ?_
    clear hG G
    dsimp only
    walk_at "go"
    refine hq _ _ oNi xsi (by rw [hpi, List.take_length]; rfl) ⟨hsi.nd, fun a ha q hq => hsi.off a ha q (.tail _ hq), hsi.keys, hsi.isi, hsi.len, hsi.slen, hsi.lo⟩ hdi (by assumption) ?_
    rename News h₀ L _ _ => N9
    exact News.sub N9 fun q hq => .tail _ hq
end
end
section
set_option maxHeartbeats 1000000
theorem meets_bool_new_list (l : Addr) (items : Array Value) (hfit : (items.size : Int) < 2 ^ 63) :
    Meets (Builtin.«bool.__new__» ⟨[.type "bool", .ref l], []⟩) (fun _ R s => s.heap.IsList l items ∧ R (.ok (.ret (.bool (!items.isEmpty)))) { s with toks := s.toks + 1 + 1 }) :=
  Meets.of_wp fun prog w A R s hs => by
    obtain ⟨hl, hs⟩ := hs
    obtain ⟨hp, g, d, tk, os⟩ := s
    have f1 := PySem.F.conv_sub_bool
    repeat (any_goals (first | assumption | (with_reducible refine wpAny_truthy_list hl hfit ?_) | wp_step))
    all_goals first | exact ⟨_, rfl, hs⟩ | exact hs | skip
theorem call_bool_list {prog : Program} {w : World} {A : Around} {E : Value → Shared → Prop} {s : Shared} {l : Addr} {items : Array Value} {Q : Value → Shared → Prop} (hl : s.heap.IsList l items) (hfit : (items.size : Int) < 2 ^ 63)
    (h : Q (.bool (!items.isEmpty)) { s with toks := s.toks + 1 + 1 }) : wpAny (model prog w) A (call (.type "bool") [.ref l]) Q E s :=
  call_bool_1 (meets_bool_new_list l items hfit) ⟨hl, show wants (fun obj s₁ => s₁.TypeIs obj "bool" ∧ Q obj s₁) E _ _ from ⟨rfl, h⟩⟩
theorem frag_on4 : (fun (_ : Params → Frag) => PySem.Challenge.rw_cy0005_05.Holds) hd.heap_39 → True := by
  k_fill
  intro _; trivial
section
variable {w : World} {A₀ A : Around} {base h₀ : Heap} {outer : List Env} {env : Env} {L : Addr} {m mg mb : Str → Option Value} {p : Program} {loose : List Str} {mean : ExcName → Option Value} {s : Shared}
  {R : Result → Shared → Prop}
theorem c_is_active {σ : Srt} {po nf : Int} {t1 t2 : Tok} {Rl : Addr} {rs : List Value} {ep : Nat} {rest : List (Addr × Obj)}
    (hh : A.handled = none) (hfr : A.frames = some (env :: outer)) (hdp : A.depth < 800) (hf : env.frame = some L) (hke : env.scope.kind = .function)
    (B : Below A₀ base outer h₀) (X₀ : (hd.heap_39 w.params).In h₀) (T : Top p loose mean mg mb h₀) (F : Fr h₀ L s.heap m) (hrs : rs.length ≤ 10000)
    (N : News h₀ L s.heap ((Rl, listOf rs.toArray ep) :: (σ.S, instObj 137 σ.D) :: (σ.D, σ.d w (.ref Rl) (.int po t1) (.int nf t2)) :: rest))
    (hq : ∀ h' tk', Fr h₀ L h' m →
      News h₀ L h' ((Rl, listOf rs.toArray ep) :: (σ.S, instObj 137 σ.D) :: (σ.D, σ.d w (.ref Rl) (.int po t1) (.int nf t2)) :: rest) →
      R (.ok (.ret (.bool (decide (nf < po) || !rs.isEmpty)))) { s with heap := h', toks := tk' }) :
    codeAny (model Pr w) A (.call (.ref 106) ⟨[.ref σ.S], []⟩) R s := by
  obtain ⟨_, d, _, gs, u⟩ := A
  dsimp only at hh hfr hdp
  subst hh hfr
  refine' code_def B F X₀ N T rfl hf hke ?k6 ?k7 ?k8 ?k9 ?kB ?_ ?c2 ?c3 ?c4 ?c5
  case k6 => k_is
  case k7 => k_is
  case k8 => k_room
  case k9 => exact BindsTo.of_eq rfl
  case c5 => decide
  case kB => exact locs rfl
  case c2 => exact rfl
  case c3 => exact rfl
  case c4 => exact rfl
  intro g' L' h' FG' F' N' B' X' T'
  (try dsimp only)
  k_fold
  walk_at "go"
  · rename nf < po => hlt
    simp only [decide_eq_true hlt, Bool.true_or] at hq ⊢
    exact hq _ _ (by assumption) (by assumption)
  · rename ¬ nf < po => hlt
    simp only [decide_eq_false hlt, Bool.false_or] at hq
    refine call_bool_list (items := rs.toArray) ⟨_, (N' _ (.head _)).1, rfl, _, rfl⟩ (by simp only [List.size_toArray]; omega) ?_
    walk_at "go"
    have e : (!rs.toArray.isEmpty) = !rs.isEmpty := by simp
    rw [e]
    exact hq _ _ (by assumption) (by assumption)
end
end
section
set_option maxHeartbeats 1000000
theorem frag_on5 : (fun (_ : Params → Frag) => PySem.Challenge.rw_cy0005_05.Holds) hd.heap_39 → True := by
  k_fill
  intro _; trivial
noncomputable def outP (ps : List PN) (r : Int) : List PN := modP ps r fun p => { p with np := -1 }
theorem SOK.ext {σ : Srt} {xs : List NI} {rest extra led : List (Addr × Obj)} {n : Nat} (hs : SOK σ xs rest n) (hl : ∀ a ∈ addrS σ xs, ∃ q ∈ led, q.1 = a) (hoff : ∀ q ∈ led, ∀ r ∈ extra, q.1 ≠ r.1) : SOK σ xs (extra ++ rest) n :=
  ⟨hs.nd, fun a ha q hq => by
    rcases List.mem_append.mp hq with h | h
    · obtain ⟨r, hr, rfl⟩ := hl a ha
      exact fun e => hoff r hr q h e.symm
    · exact hs.off a ha q h, hs.keys, hs.isi, hs.len, hs.slen, hs.lo⟩
theorem SOK.sub {σ : Srt} {xs : List NI} {rest rest' : List (Addr × Obj)} {n : Nat} (hs : SOK σ xs rest n) (h : ∀ q ∈ rest', ∃ q' ∈ rest, q'.1 = q.1) : SOK σ xs rest' n :=
  ⟨hs.nd, fun a ha q hq => by
    obtain ⟨q', h1, h2⟩ := h q hq
    exact h2 ▸ hs.off a ha q' h1, hs.keys, hs.isi, hs.len, hs.slen, hs.lo⟩
theorem find_of_mem {xs : List NI} {x : NI} (hk : (xs.map (·.node)).Nodup) (hx : x ∈ xs) : (xs.find? fun y => y.node = x.node) = some x := by
  induction xs with
  | nil => cases hx
  | cons y r ih =>
    rw [List.map_cons, List.nodup_cons] at hk
    rw [List.find?_cons]
    rcases List.mem_cons.mp hx with rfl | hx
    · simp
    · have : ¬ y.node = x.node := fun e => hk.1 (e ▸ List.mem_map_of_mem hx)
      simp only [this, decide_false]
      exact ih hk.2 hx
theorem value_of_mem {xs : List NI} {x : NI} {k : Int} (hk : (xs.map (·.node)).Nodup) (hx : x ∈ xs) (e : x.node = k) : valueAt (kvsN xs) k = some (.ref x.info) := by
  subst e; rw [valueAt_kvsN, find_of_mem hk hx]; rfl
theorem addrS_led {σ : Srt} {w : World} {rv po nf : Value} {oN : Obj} {xs : List NI} {rest : List (Addr × Obj)} : ∀ a ∈ addrS σ xs, ∃ q ∈ ledS σ w rv po nf oN xs rest, q.1 = a := by
  intro a ha
  have ha' : a ∈ (ledS σ w rv po nf oN xs rest).map (·.1) := by rw [map_ledS]; exact List.mem_append_left _ ha
  obtain ⟨q', h1, h2⟩ := List.mem_map.mp ha'
  exact ⟨q', h1, h2⟩
section
variable {w : World} {A₀ A : Around} {base h₀ : Heap} {outer : List Env} {env : Env} {L : Addr} {m mg mb : Str → Option Value} {p : Program} {loose : List Str} {mean : ExcName → Option Value} {s : Shared}
  {R : Result → Shared → Prop}
theorem clear_any {its : Array Value} {n : Nat} {D : Addr} {E : Value → Shared → Prop} {Q : Value → Shared → Prop} {news : List (Addr × Obj)} {news' : Nat → List (Addr × Obj)} (F : Fr h₀ L s.heap m) (N : News h₀ L s.heap news) (U : ∀ n', Upd D (listOf its n) (listOf #[] n') news (news' n')) (hz : its.size ≤ 100000)
    (h : ∀ h' n', Fr h₀ L h' m → News h₀ L h' (news' n') → Q .none { s with heap := h' }) : wpAny (model Pr w) A (call (.builtin "list.clear") [.ref D]) Q E s := by
  by_cases e : its.size = 0
  · obtain ⟨pre, post, rfl, hnw, a, c⟩ := (U n).split
    have z := N (D, listOf its n) (List.mem_append.mpr (.inr (.head _)))
    refine call_meets PySem.F.slot_list_clear ⟨_, z.1, rfl⟩ PySem.F.entry_list_clear (PySem.F.args_list_clear_1 _) (PySem.AutoSeq1.list_clear_list_0 D its n (by rw [sizeLine_eq]; omega)) ⟨z.1, h _ n (F.change (Heap.SameBut.update ..) z.2.1 z.2.2) (hnw ▸ kl_turn0 (fun _ => #[]) N a c rfl (by simpa using e.symm))⟩
  · exact kl_clear F N (U (n + 1)) (by simpa using e) (by rw [sizeLine_eq, Array.length_toList]; omega) fun h' F' N' => h h' _ F' N'
theorem led_np0 {σ : Srt} {rv po nf : Value} {oN : Obj} {pre post : List NI} {x : NI} {rest : List (Addr × Obj)} {h : Heap} {np : Int} {t : Tok}
    (N : News h₀ L h ((x.info, ⟨.ref 40, some x.dx, .plain, [some (.int x.node x.ntok), some (.int np t), some (.ref x.sl)].toArray⟩) :: (x.dx, dictOf [] 0) :: (x.sl, x.l) :: (σ.S, instObj 137 σ.D) :: (σ.D, σ.d w rv po nf) :: (σ.Nd, oN) :: restO pre post x rest)) :
    ∃ x2 : NI, (x2.info = x.info ∧ x2.dx = x.dx ∧ x2.node = x.node ∧ x2.np = np ∧ x2.sl = x.sl ∧ x2.sv = x.sv) ∧ News h₀ L h (ledS σ w rv po nf oN (pre ++ x2 :: post) rest) :=
  ⟨⟨x.info, x.dx, x.node, x.ntok, np, t, x.sl, x.sv, x.ep⟩, ⟨rfl, rfl, rfl, rfl, rfl, rfl⟩, led_shut N⟩
theorem c_get_ready {σ : Srt} {po : Int} {nf : Value} {t1 : Tok} {Rl : Addr} {rs : List Value} {ep : Nat} {oN : Obj} {xs : List NI} {rest : List (Addr × Obj)} {n : Nat}
    (hh : A.handled = none) (hfr : A.frames = some (env :: outer)) (hdp : A.depth < 800) (hf : env.frame = some L) (hke : env.scope.kind = .function)
    (B : Below A₀ base outer h₀) (X₀ : (hd.heap_39 w.params).In h₀) (T : Top p loose mean mg mb h₀) (F : Fr h₀ L s.heap m) (hrs : rs.length ≤ 10000) (hri : ∀ v ∈ rs, IsI v) (hrm : ∀ v ∈ rs, intOf v ∈ xs.map (·.node))
    (hs : SOK σ xs ((Rl, listOf rs.toArray ep) :: rest) n) (hdN : oN.IsDictOf (intKind Pr w) (kvsN xs)) (hRr : ∀ q ∈ rest, q.1 ≠ Rl)
    (N : News h₀ L s.heap ((Rl, listOf rs.toArray ep) :: ledS σ w (.ref Rl) (.int po t1) nf oN xs rest))
    (hq : ∀ h' tk' Tt ep' t' xs', Fr h₀ L h' m → SOK σ xs' ((Rl, listOf #[] ep') :: rest) n → oN.IsDictOf (intKind Pr w) (kvsN xs') → xs'.map NI.pn = (rs.map intOf).foldl outP (xs.map NI.pn) →
      (∀ q ∈ (Rl, listOf #[] ep') :: ledS σ w (.ref Rl) (.int (po + rs.length) t') nf oN xs' rest, q.1 < Tt) →
      News h₀ L h' ((Tt, tupOf rs.toArray 0) :: (Rl, listOf #[] ep') :: ledS σ w (.ref Rl) (.int (po + rs.length) t') nf oN xs' rest) →
      R (.ok (.ret (.ref Tt))) { s with heap := h', toks := tk' }) :
    codeAny (model Pr w) A (.call (.ref 99) ⟨[.ref σ.S], []⟩) R s := by
  obtain ⟨_, d, _, gs, u⟩ := A
  dsimp only at hh hfr hdp
  subst hh hfr
  refine' code_def (binds := [(Str.ofString "self", .ref σ.S)]) B F X₀ N T rfl hf hke ?k6 ?k7 ?k8 ?k9 ?kB ?_ ?c2 ?c3 ?c4 ?c5
  case k6 => k_is
  case k7 => k_is
  case k8 => k_room
  case k9 => exact BindsTo.of_eq rfl
  case c5 => decide
  case kB => exact locs rfl
  case c2 => exact rfl
  case c3 => exact rfl
  case c4 => exact rfl
  intro g' L' h' FG' F' N' B' X' T'
  (try dsimp only)
  k_fold
  walk_at "go"
  refine kde_tupleOf (zs := rs) (items := rs.toArray) (by assumption) N' ⟨_, (N' _ (.head _)).1, rfl, _, rfl⟩ (by simp only [List.size_toArray]; omega) (by simp) ?_
  intro Tt h1 F1 N1 l1
  walk_at "go"
  rename News g' L' _ _ => N2
  rename Fr g' L' _ _ => F2
  refine For_invVF F2 rfl rfl ?_
  walk1
  refine iter_tupM (vs := rs) (ep := 0) [] (fun i nx => ∃ xsi, A6 (nx = (Rl, listOf rs.toArray ep) :: ledS σ w (.ref Rl) (.int po t1) nf oN xsi rest) (addrN xsi = addrN xs) (xsi.map (·.node) = xs.map (·.node)) (SOK σ xsi ((Rl, listOf rs.toArray ep) :: rest) n) (oN.IsDictOf (intKind Pr w) (kvsN xsi)) (xsi.map NI.pn = ((rs.take i).map intOf).foldl outP (xs.map NI.pn))) rfl F2 N2 ?_ ⟨xs, rfl, rfl, rfl, hs, hdN, rfl⟩ ?_ ?_
  · exact fun q hq e => absurd (l1 q hq) (e ▸ Nat.lt_irrefl _)
  · intro i v u' nx h3 tk3 it hv hI0 hoff F4 N4
    refine hide fun G hG => ?_
    obtain ⟨xsi, rfl, hai, hki, hsi, hdi, hpi⟩ := hI0
    refine hG ?_
    clear hG G
    have hi : i < rs.length := by
      rcases Nat.lt_or_ge i rs.length with h | h
      · exact h
      · rw [List.getElem?_eq_none h] at hv; cases hv
    have hvm := List.mem_of_getElem? hv
    obtain ⟨vi, vt, rfl⟩ := hri v hvm
    have hin : vi ∈ xsi.map (·.node) := by rw [hki]; exact hrm _ hvm
    obtain ⟨x5, hx5, hxk5⟩ := List.mem_map.mp hin
    obtain ⟨pre5, post5, rfl⟩ := List.append_of_mem hx5
    have hse : SOK σ (pre5 ++ x5 :: post5) ([(Tt, tupOf rs.toArray 0), it] ++ (Rl, listOf rs.toArray ep) :: rest) n := hsi.ext (fun a ha => by
      obtain ⟨q, h1, h2⟩ := addrS_led (w := w) (rv := .ref Rl) (po := .int po t1) (nf := nf) (oN := oN) (rest := rest) a ha
      exact ⟨q, .tail _ h1, h2⟩) hoff
    obtain ⟨q0, q0', q1, q2, q3, q4, q5, q6, q7, q8, q9, q10, r1, r2, r3, r4, r5⟩ := hse.dst
    replace N4 : News g' L' h3 (ledS σ w (.ref Rl) (.int po t1) nf oN (pre5 ++ x5 :: post5) ([(Tt, tupOf rs.toArray 0), it] ++ (Rl, listOf rs.toArray ep) :: rest)) := News.sub N4 (by walk_at "sub")
    replace N4 := led_open N4
    obtain ⟨ro, hro⟩ : ∃ ro, restO pre5 post5 x5 ([(Tt, tupOf rs.toArray 0), it] ++ (Rl, listOf rs.toArray ep) :: rest) = ro := ⟨_, rfl⟩
    rw [hro] at N4 r1 r2 r3 r4 r5
    refine wpAny_boxed _ (fun _ _ x => x) fun PQ hPQ => ?_
    walk_at "go"
    refine kda_item (knd := intKind _ _) (by assumption) (by k_mem) hdi (intKind_is _ _ _ _) (value_of_mem hsi.keys hx5 hxk5) ?_
    walk_at "go"
    rename News g' L' _ _ => N6
    rename Fr g' L' _ _ => F6
    subst hro
    refine hide fun G hG => ?_
    obtain ⟨x6, ⟨z1, z2, z3, z4, z5, z6⟩, N7⟩ := led_np0 N6
    refine hG ?_
    clear hG G
    have hs6 : SOK σ (pre5 ++ x6 :: post5) ((Rl, listOf rs.toArray ep) :: rest) n := hsi.put z1 z2 z5 z3 (by rw [z6]; exact hsi.isi x5 hx5) (by rw [z6]; exact hsi.slen x5 hx5) (Nat.le_refl _)
    have ha6 : addrN (pre5 ++ x6 :: post5) = addrN (pre5 ++ x5 :: post5) := by rw [addrN_app, addrN_cons, addrN_app, addrN_cons, z1, z2, z5]
    refine hPQ _ _ ⟨_, _, _, (Rl, listOf rs.toArray ep) :: ledS σ w (.ref Rl) (.int po t1) nf oN (pre5 ++ x6 :: post5) rest, rfl, F6, News.sub N7 ?_, ?_, ?_, _, rfl, ?_, ?_, hs6, ?_, ?_⟩
    · walk_at "sub"
    · intro q hq r hr
      rcases List.mem_cons.mp hq with rfl | hq
      · exact hoff _ (.head _) r hr
      · rcases inL q hq with h | h
        · obtain ⟨q', h1, h2⟩ := addrS_led (w := w) (rv := .ref Rl) (po := .int po t1) (nf := nf) (oN := oN) (rest := rest) (xs := pre5 ++ x5 :: post5) q.1 (by unfold addrS at h ⊢; rw [← ha6]; exact h)
          rw [← h2]; exact hoff q' (.tail _ h1) r hr
        · exact hoff q (by simp only [ledS, List.mem_cons, List.mem_append]; exact .inr (.inr (.inr (.inr (.inr h))))) r hr
    · intro y h1 h2
      simp only [if_neg h1, h2, Bool.false_eq_true, if_false]
    · exact ha6.trans hai
    · rw [← hki]; simp only [List.map_append, List.map_cons, z3]
    · rw [kvsN_put z1 z3]; exact hdi
    · rw [modP_split (x := x5) (f := fun p => { p with np := -1 }) hsi.keys (by simp only [NI.pn, z3, z4, z6]), hxk5, hpi, List.take_add_one, hv]
      simp only [Option.toList, List.map_append, List.map_cons, List.map_nil, intOf, List.foldl_append, List.foldl_cons, List.foldl_nil]
      rfl
  · intro u' nx h3 tk3 hI0 hoff F4 N4
    refine hide fun G hG => ?_
    obtain ⟨xsi, rfl, hai, hki, hsi, hdi, hpi⟩ := hI0
    refine hG ?_
    clear hG G
    have eR : ∀ a ∈ addrS σ xsi, @Ne Nat a Rl := fun a ha e => hsi.off a ha _ (.head _) e.symm
    have e1 := eR σ.S (by unfold addrS; simp)
    have e2 := eR σ.D (by unfold addrS; simp)
    have e3 := eR σ.Nd (by unfold addrS; simp)
    have e4 : ∀ q ∈ ledN xsi ++ rest, q.1 ≠ Rl := fun q hq => by
      rcases List.mem_append.mp hq with h | h
      · exact eR _ (by unfold addrS; simp only [List.mem_cons]; exact .inr (.inr (.inr (by rw [← map_ledN]; exact List.mem_map_of_mem h))))
      · exact hRr q h
    have e5 : @Ne Nat Tt Rl := fun e => hoff _ (.head _) e.symm
    have nd := hsi.nd
    unfold addrS at nd
    simp only [List.nodup_cons, List.mem_cons, not_or] at nd
    have f1 : @Ne Nat σ.S σ.D := nd.1.1
    have f2 : @Ne Nat σ.D σ.Nd := nd.2.1.1
    have f3 : @Ne Nat Tt σ.D := fun e => hoff (σ.D, σ.d w (.ref Rl) (.int po t1) nf) (by simp [ledS]) e.symm
    have f4 : ∀ q ∈ ledN xsi ++ rest, q.1 ≠ σ.D := fun q hq => by
      rcases List.mem_append.mp hq with h | h
      · exact fun e => nd.2.1.2 (by rw [← e, ← map_ledN]; exact List.mem_map_of_mem h)
      · exact hsi.off σ.D (by unfold addrS; simp) q (.tail _ h)
    obtain ⟨ro, hro⟩ : ∃ ro, ledN xsi ++ rest = ro := ⟨_, rfl⟩
    rw [hro] at e4 f4
    replace N4 : News g' L' h3 ((Tt, tupOf rs.toArray 0) :: (Rl, listOf rs.toArray ep) :: (σ.S, instObj 137 σ.D) :: (σ.D, σ.d w (.ref Rl) (.int po t1) nf) :: (σ.Nd, oN) :: ro) := hro ▸ N4
    dsimp only
    walk_at "go"
    dsimp only
    refine' clear_any (its := rs.toArray) (n := ep) (news' := fun n' => (Tt, tupOf rs.toArray 0) :: (Rl, listOf #[] n') :: (σ.S, instObj 137 σ.D) :: (σ.D, σ.d w (.ref Rl) (.int po t1) nf) :: (σ.Nd, oN) :: ro) ?F ?N ?U ?z ?_
    case F => k_asm
    case N => k_asm
    case U => intro n'; k_upd
    case z => simp only [List.size_toArray]; omega
    intro h5 n5 F5 N5
    walk_at "go"
    refine len_tuple (News.isTup (by k_asm) (by k_mem)) (by simp only [List.size_toArray]; omega) ?_
    walk_at "go"
    rename News h₀ L _ _ => N9
    subst hro
    simp only [List.size_toArray] at N9
    refine hq _ _ Tt n5 _ xsi (by assumption) (hsi.sub fun q hq => ?_) hdi (by rw [hpi, List.take_length]) ?_ N9
    · rcases List.mem_cons.mp hq with rfl | hq
      · exact ⟨_, .head _, rfl⟩
      · exact ⟨q, .tail _ hq, rfl⟩
    · intro q hq
      rcases List.mem_cons.mp hq with rfl | hq
      · exact l1 (Rl, listOf rs.toArray ep) (.head _)
      · rcases inL q hq with h | h
        · obtain ⟨q', h1, h2⟩ := addrS_led (w := w) (rv := .ref Rl) (po := .int po t1) (nf := nf) (oN := oN) (rest := rest) (xs := xs) q.1 (by unfold addrS at h ⊢; rw [← hai]; exact h)
          rw [← h2]; exact l1 q' (.tail _ h1)
        · exact l1 q (by simp only [ledS, List.mem_cons, List.mem_append]; exact .inr (.inr (.inr (.inr (.inr h)))))
end
end
section
set_option maxHeartbeats 1000000
section
variable {prog : Program} {w : World} {A : Around} {E : Value → Shared → Prop} {s : Shared} {env : Env} {h₀ : Heap} {x : Str} {body : List Stmt} {Q : Flow → Shared → Prop}
/-- a loop over an object that stays in the ledger -/
theorem iter_coreX {l : Addr} {o oI0 : Obj} {n : Nat} {P : Nat → Value → Prop} {St : Nat → Heap → Prop} {m₀ : Str → Option Value} {news : List (Addr × Obj)} (ys : List Str) (J : Nat → List (Addr × Obj) → Prop)
    (W : Walks prog w A s.heap.objs.size [s.heap.objs.size, l] [s.heap.objs.size] n P St) (hst : ∀ i h, St i h → ∃ oI, h.get? s.heap.objs.size = some oI) (hst0 : St 0 (s.heap.push oI0))
    (F : Fr h₀ env.locals s.heap m₀) (N : News h₀ env.locals s.heap news) (hJl : ∀ i nx, J i nx → (l, o) ∈ nx) (hj : J 0 news)
    (turn : ∀ i v (u : Str → Option Value) news₁ h tk it, i < n → P i v → J i news₁ → (∀ p ∈ news₁, ∀ q ∈ [it], p.1 ≠ q.1) → Fr h₀ env.locals h (fun y => if y = x then some v else if ys.contains y then u y else m₀ y) → News h₀ env.locals h (news₁ ++ [it]) →
      wpAny (model prog w) A (execs body env) (TurnEnd h₀ env.locals [it] (fun m' nx => Agree x ys m₀ m' ∧ J (i + 1) nx) { s with heap := h, toks := tk } Q) E { s with heap := h, toks := tk })
    (done : ∀ (u : Str → Option Value) news₁ h tk, J n news₁ → Fr h₀ env.locals h (fun y => if y = x then u y else if ys.contains y then u y else m₀ y) → News h₀ env.locals h news₁ → Q .next { s with heap := h, toks := tk }) :
    LoopAtV prog w A h₀ env x body Q E (.ref s.heap.objs.size) { s with heap := s.heap.push oI0 } := by
  have hml := hJl 0 news hj
  have hne : l ≠ s.heap.objs.size := Nat.ne_of_lt (Heap.lt_size (N _ hml).1)
  have hI0 : h₀.get? s.heap.objs.size = none := next_is_new F
  refine ⟨_, _, _, n, _, _, m₀, news, (fun i m₁ nx => Agree x ys m₀ m₁ ∧ J i nx), rfl, W, ?_, ?_, ?_, hst0, F.push _, (fun p hp => ⟨Heap.get?_push_of_some _ (N p hp).1, (N p hp).2⟩), ⟨fun _ _ _ => rfl, hj⟩, ?_, ?_⟩
  · intro hm
    rcases List.mem_cons.mp hm with e | hm
    · exact absurd F.ns.lt (e ▸ Nat.lt_irrefl _)
    · exact (N _ hml).2.1 (List.mem_singleton.mp hm).symm
  · intro b hb; rw [List.mem_singleton.mp hb]; exact hI0
  · intro p hp hI
    exact absurd (Heap.lt_size (N p hp).1) ((List.mem_singleton.mp hI) ▸ Nat.lt_irrefl _)
  · intro i v m₁ nx s₁ own hI0 hi hP hI1 hoff hown hget hall hst₁ F₁ N₁
    refine hide fun G hG => ?_
    obtain ⟨hh', tk', rfl⟩ := hI0
    obtain ⟨hA, hJ⟩ := hI1
    refine hG ?_
    clear hG G
    obtain ⟨oI, hoI⟩ := hst _ _ hst₁
    have inI : (s.heap.objs.size, oI) ∈ own := hall _ (by simp) hI0 oI hoI
    have hml' := hJl i nx hJ
    have sub : ∀ p ∈ own, p = (s.heap.objs.size, oI) ∨ p = (l, o) := by
      intro p hp
      have g := hget p hp
      rcases List.mem_cons.mp (hown p hp) with e | e
      · obtain ⟨pa, po⟩ := p; dsimp only at e g; subst e; rw [hoI] at g; cases g; exact .inl rfl
      · obtain ⟨pa, po⟩ := p
        have e := List.mem_singleton.mp e
        dsimp only at e g; subst e
        rw [(N₁ _ (List.mem_append_right _ hml')).1] at g; cases g; exact .inr rfl
    refine wpAny_mono (turn i v m₁ nx hh' tk' (s.heap.objs.size, oI) hi hP hJ ?_ (hA.put _ ▸ F₁) ?_) (fun f s₃ h₃ => ?_) fun _ _ e => e
    · intro p hp q hq
      rw [List.mem_singleton.mp hq]
      exact fun e => hoff p hp (by simp [e])
    · intro p hp
      refine N₁ p ?_
      rcases List.mem_append.mp hp with h | h
      · exact List.mem_append_right _ h
      · rw [List.mem_singleton.mp h]; exact List.mem_append_left _ inI
    · have fin : TurnEnd h₀ env.locals [(s.heap.objs.size, oI)] (fun m' nx => Agree x ys m₀ m' ∧ J (i + 1) nx) { s with heap := hh', toks := tk' } Q .next s₃ →
          LoopStepU h₀ env.locals [s.heap.objs.size] own (fun m' nx => Agree x ys m₀ m' ∧ J (i + 1) nx) { s with heap := hh', toks := tk' } .next s₃ := by
        intro hI0
        refine hide fun G hG => ?_
        obtain ⟨h', tk, m', news', e, F', N', hd, hJ'⟩ := hI0
        refine hG ?_
        clear hG G
        refine ⟨rfl, h', tk, m', news', e, F', ?_, ?_, hJ'⟩
        · intro p hp
          refine N' p ?_
          rcases List.mem_append.mp hp with h | h
          · rcases sub p h with rfl | rfl
            · exact List.mem_append_right _ (.head _)
            · exact List.mem_append_left _ (hJl _ _ hJ'.2)
          · exact List.mem_append_left _ h
        · intro p hp hI'
          exact hd p hp _ (.head _) (List.mem_singleton.mp hI')
      cases f with
      | ret v => exact .ret h₃
      | brk => exact .brk h₃
      | next => exact .next (fin h₃)
      | cont => exact .cont (fin h₃)
  · rintro h' tk m' nx F' N' _ ⟨hA, hJ⟩
    exact done m' nx h' tk hJ (hA.out ▸ F') N'
theorem iter_listX {l : Addr} {vs : List Value} {ep : Nat} {m₀ : Str → Option Value} {news : List (Addr × Obj)} (ys : List Str) (J : Nat → List (Addr × Obj) → Prop)
    (hh : A.handled = none) (F : Fr h₀ env.locals s.heap m₀) (N : News h₀ env.locals s.heap news) (hJl : ∀ i nx, J i nx → (l, listOf vs.toArray ep) ∈ nx) (hj : J 0 news)
    (turn : ∀ i v (u : Str → Option Value) news₁ h tk it, vs[i]? = some v → J i news₁ → (∀ p ∈ news₁, ∀ q ∈ [it], p.1 ≠ q.1) → Fr h₀ env.locals h (fun y => if y = x then some v else if ys.contains y then u y else m₀ y) → News h₀ env.locals h (news₁ ++ [it]) →
      wpAny (model prog w) A (execs body env) (TurnEnd h₀ env.locals [it] (fun m' nx => Agree x ys m₀ m' ∧ J (i + 1) nx) { s with heap := h, toks := tk } Q) E { s with heap := h, toks := tk })
    (done : ∀ (u : Str → Option Value) news₁ h tk, J vs.length news₁ → Fr h₀ env.locals h (fun y => if y = x then u y else if ys.contains y then u y else m₀ y) → News h₀ env.locals h news₁ → Q .next { s with heap := h, toks := tk }) :
    wpAny (model prog w) A (pyIter (.ref l)) (fun it s₂ => LoopAtV prog w A h₀ env x body Q E it s₂) E s := by
  have hml := hJl 0 news hj
  have hl : s.heap.IsList l vs.toArray := ⟨_, (N _ hml).1, rfl, _, rfl⟩
  have hne : l ≠ s.heap.objs.size := Nat.ne_of_lt (Heap.lt_size (N _ hml).1)
  refine wpAny_pyIter_list hl ?_
  have W := Walks.list (prog := prog) (w := w) hh s.heap.objs.size l hne vs.toArray
  have hlen : vs.toArray.size = vs.length := by simp
  rw [hlen] at W
  exact iter_coreX ys J W (fun i h st => let ⟨⟨o, ho, _⟩, _⟩ := st; ⟨o, ho⟩) ⟨⟨_, Heap.get?_push_size _ rfl, rfl, rfl⟩, hl.push _⟩ F N hJl hj
    (fun i v u news₁ h tk it _ hP => turn i v u news₁ h tk it (by simpa using hP)) done
/-- a loop over a dict's keys -/
theorem iter_dictX {d : Addr} {o : Obj} {kvs : List (Int × Value)} {m₀ : Str → Option Value} {news : List (Addr × Obj)} (ys : List Str) (J : Nat → List (Addr × Obj) → Prop)
    (hh : A.handled = none) (lo : (d == sysModules) = false) (hd : o.IsDictOf (intKind prog w) kvs) (F : Fr h₀ env.locals s.heap m₀) (N : News h₀ env.locals s.heap news) (hJl : ∀ i nx, J i nx → (d, o) ∈ nx) (hj : J 0 news)
    (turn : ∀ i k (t : Tok) (u : Str → Option Value) news₁ h tk it, (kvs.map (·.1))[i]? = some k → J i news₁ → (∀ p ∈ news₁, ∀ q ∈ [it], p.1 ≠ q.1) → Fr h₀ env.locals h (fun y => if y = x then some (.int k t) else if ys.contains y then u y else m₀ y) → News h₀ env.locals h (news₁ ++ [it]) →
      wpAny (model prog w) A (execs body env) (TurnEnd h₀ env.locals [it] (fun m' nx => Agree x ys m₀ m' ∧ J (i + 1) nx) { s with heap := h, toks := tk } Q) E { s with heap := h, toks := tk })
    (done : ∀ (u : Str → Option Value) news₁ h tk, J kvs.length news₁ → Fr h₀ env.locals h (fun y => if y = x then u y else if ys.contains y then u y else m₀ y) → News h₀ env.locals h news₁ → Q .next { s with heap := h, toks := tk }) :
    wpAny (model prog w) A (pyIter (.ref d)) (fun it s₂ => LoopAtV prog w A h₀ env x body Q E it s₂) E s := by
  have hml := hJl 0 news hj
  obtain ⟨ep, hm⟩ := (Heap.dictOf_iff.mpr ⟨o, (N _ hml).1, hd⟩ : s.heap.DictOf (intKind prog w) d kvs).dictAt
  have hne : d ≠ s.heap.objs.size := Nat.ne_of_lt (Heap.lt_size (N _ hml).1)
  refine wpAny_pyIter_dict lo hm ?_
  have W := Walks.dictKeys (prog := prog) (w := w) (knd := intKind prog w) hh s.heap.objs.size d hne kvs ep
  refine iter_coreX ys J W (fun i h st => let ⟨⟨o, ho, _⟩, _⟩ := st; ⟨o, ho⟩) ⟨⟨_, Heap.get?_push_size _ rfl, rfl, rfl⟩, hm.push _⟩ F N hJl hj (fun i v u news₁ h tk it hi hP => ?_) done
  obtain ⟨k, y, hk, hv⟩ := hP
  obtain ⟨t, rfl⟩ := Value.isInt_shape hv
  exact turn i k t u news₁ h tk it (by rw [List.getElem?_map, hk]; rfl)
end
end
section
set_option maxHeartbeats 8000000
theorem frag_on6 : (fun (_ : Params → Frag) => PySem.Challenge.rw_cy0005_05.Holds) hd.heap_39 → True := by
  k_fill
  intro _; trivial
/-! what of a node does not change once the graph stands -/
noncomputable def NI.st (x : NI) : NI := { x with np := 0, nptok := 0 }
theorem st_map {α : Type} (f : NI → α) (hf : ∀ x, f x.st = f x) {xs ys : List NI} (h : xs.map NI.st = ys.map NI.st) : xs.map f = ys.map f := by
  have : ∀ l : List NI, l.map f = (l.map NI.st).map f := fun l => by rw [List.map_map]; exact List.map_congr_left fun x _ => (hf x).symm
  rw [this xs, this ys, h]
theorem st_addr {xs ys : List NI} (h : xs.map NI.st = ys.map NI.st) : addrN xs = addrN ys := by
  have : ∀ l : List NI, addrN l = (l.map fun x => [x.info, x.dx, x.sl]).flatten := fun l => by unfold addrN; rw [List.flatMap_def]
  rw [this, this, st_map (fun x => [x.info, x.dx, x.sl]) (fun _ => rfl) h]
theorem st_kvs {xs ys : List NI} (h : xs.map NI.st = ys.map NI.st) : kvsN xs = kvsN ys := st_map (fun x => (x.node, Value.ref x.info)) (fun _ => rfl) h
theorem st_mem {xs ys : List NI} (h : xs.map NI.st = ys.map NI.st) {x : NI} (hx : x ∈ xs) : ∃ y ∈ ys, y.st = x.st := by
  have : x.st ∈ ys.map NI.st := h ▸ List.mem_map_of_mem hx
  obtain ⟨y, hy, e⟩ := List.mem_map.mp this
  exact ⟨y, hy, e⟩
theorem st_sv {x y : NI} (h : y.st = x.st) : y.sv = x.sv := (congrArg NI.sv h : y.st.sv = x.st.sv)
theorem st_node {x y : NI} (h : y.st = x.st) : y.node = x.node := (congrArg NI.node h : y.st.node = x.st.node)
theorem SOK.same {σ : Srt} {xs ys : List NI} {rest : List (Addr × Obj)} {n : Nat} (hs : SOK σ xs rest n) (h : ys.map NI.st = xs.map NI.st) : SOK σ ys rest n where
  nd := by have := hs.nd; unfold addrS at this ⊢; rw [st_addr h]; exact this
  off := by have := hs.off; unfold addrS at this ⊢; rw [st_addr h]; exact this
  keys := by rw [st_map (·.node) (fun _ => rfl) h]; exact hs.keys
  isi := by intro x hx; obtain ⟨y, hy, e⟩ := st_mem h hx; rw [← st_sv e]; exact hs.isi y hy
  len := by have := congrArg List.length h; simp only [List.length_map] at this; rw [this]; exact hs.len
  slen := by intro x hx; obtain ⟨y, hy, e⟩ := st_mem h hx; rw [← st_sv e]; exact hs.slen y hy
  lo := hs.lo
/-- the successors stand among the nodes, none is its own successor -/
noncomputable def Closed (xs : List NI) : Prop := ∀ x ∈ xs, ∀ v ∈ x.sv, intOf v ∈ xs.map (·.node) ∧ intOf v ≠ x.node
theorem Closed.same {xs ys : List NI} (hs : Closed xs) (h : ys.map NI.st = xs.map NI.st) : Closed ys := by
  intro x hx v hv
  obtain ⟨y, hy, e⟩ := st_mem h hx
  rw [← st_sv e] at hv
  rw [st_map (·.node) (fun _ => rfl) h, ← st_node e]
  exact hs y hy v hv
noncomputable def lookP (ps : List PN) (k : Int) : Option PN := ps.find? fun p => p.node = k
noncomputable def decP (st : List PN × List Int) (s : Int) : List PN × List Int :=
  (modP st.1 s fun p => { p with np := p.np - 1 }, if (lookP st.1 s).any (fun p => p.np - 1 = 0) then st.2 ++ [s] else st.2)
noncomputable def doneP (st : List PN × List Int) (k : Int) : List PN × List Int :=
  (((lookP st.1 k).map PN.succ).getD []).foldl decP (modP st.1 k fun p => { p with np := -2 }, st.2)
theorem lookP_map {xs : List NI} {x : NI} (hk : (xs.map (·.node)).Nodup) (hx : x ∈ xs) : lookP (xs.map NI.pn) x.node = some x.pn := by
  unfold lookP
  have h := find_of_mem hk hx
  rw [List.find?_map]
  have : (fun y : NI => decide (y.node = x.node)) = ((fun p : PN => decide (p.node = x.node)) ∘ NI.pn) := rfl
  rw [← this, h]; rfl
section
variable {w : World} {A₀ A : Around} {base h₀ : Heap} {outer : List Env} {env : Env} {L : Addr} {m mg mb : Str → Option Value} {p : Program} {loose : List Str} {mean : ExcName → Option Value} {s : Shared}
  {R : Result → Shared → Prop}
theorem led_np1 {σ : Srt} {rv po nf : Value} {oN : Obj} {pre post : List NI} {x : NI} {rest : List (Addr × Obj)} {h : Heap} {np : Int} {t : Tok}
    (N : News h₀ L h ((x.info, ⟨.ref 40, some x.dx, .plain, [some (.int x.node x.ntok), some (.int np t), some (.ref x.sl)].toArray⟩) :: (x.dx, dictOf [] 0) :: (x.sl, x.l) :: (σ.S, instObj 137 σ.D) :: (σ.D, σ.d w rv po nf) :: (σ.Nd, oN) :: restO pre post x rest)) :
    ∃ x2 : NI, (x2.st = x.st ∧ x2.np = np) ∧ News h₀ L h (ledS σ w rv po nf oN (pre ++ x2 :: post) rest) :=
  ⟨⟨x.info, x.dx, x.node, x.ntok, np, t, x.sl, x.sv, x.ep⟩, ⟨rfl, rfl⟩, led_shut N⟩
theorem st_put {pre post : List NI} {x x2 : NI} (h : x2.st = x.st) : (pre ++ x2 :: post).map NI.st = (pre ++ x :: post).map NI.st := by
  simp only [List.map_append, List.map_cons, h]
theorem pn_of {x x2 : NI} (h : x2.st = x.st) : x2.pn = { x.pn with np := x2.np } := by
  unfold NI.pn; rw [st_node h, st_sv h]
theorem led_np2 {σ : Srt} {rv po nf : Value} {oN oR : Obj} {Rl : Addr} {pre post : List NI} {x : NI} {rest : List (Addr × Obj)} {h : Heap} {np : Int} {t : Tok}
    (N : News h₀ L h ((Rl, oR) :: (x.info, ⟨.ref 40, some x.dx, .plain, [some (.int x.node x.ntok), some (.int np t), some (.ref x.sl)].toArray⟩) :: (x.dx, dictOf [] 0) :: (x.sl, x.l) :: (σ.S, instObj 137 σ.D) :: (σ.D, σ.d w rv po nf) :: (σ.Nd, oN) :: restO pre post x rest)) :
    ∃ x2 : NI, (x2.st = x.st ∧ x2.np = np) ∧ News h₀ L h ((Rl, oR) :: ledS σ w rv po nf oN (pre ++ x2 :: post) rest) :=
  ⟨⟨x.info, x.dx, x.node, x.ntok, np, t, x.sl, x.sv, x.ep⟩, ⟨rfl, rfl⟩, fun q hq => by
    rcases List.mem_cons.mp hq with rfl | hq
    · exact N _ (.head _)
    · exact led_shut (x := ⟨x.info, x.dx, x.node, x.ntok, np, t, x.sl, x.sv, x.ep⟩) (News.sub N fun q hq => .tail _ hq) q hq⟩
theorem decP_step {P Q : List NI} {y y2 : NI} {r : List Int} (hk : ((P ++ y :: Q).map (·.node)).Nodup) (h1 : y2.st = y.st) (h2 : y2.np = y.np - 1) :
    decP ((P ++ y :: Q).map NI.pn, r) y.node = ((P ++ y2 :: Q).map NI.pn, if y.np - 1 = 0 then r ++ [y.node] else r) := by
  unfold decP
  have e := modP_split (pre := P) (post := Q) (x := y) (x' := y2) (f := fun p => { p with np := p.np - 1 }) hk (by rw [pn_of h1, h2]; rfl)
  rw [lookP_map hk (by simp), ← e]
  have : (Option.any (fun p : PN => decide (p.np - 1 = 0)) (some y.pn)) = decide (y.np - 1 = 0) := rfl
  rw [this]
  by_cases h : y.np - 1 = 0 <;> simp [h]
theorem c_done {σ : Srt} {nf : Int} {po : Value} {t1 : Tok} {Rl : Addr} {rs vs : List Value} {ep : Nat} {oN : Obj} {xs : List NI} {rest : List (Addr × Obj)} {n : Nat}
    (hh : A.handled = none) (hfr : A.frames = some (env :: outer)) (hdp : A.depth < 800) (hf : env.frame = some L) (hke : env.scope.kind = .function)
    (B : Below A₀ base outer h₀) (X₀ : (hd.heap_39 w.params).In h₀) (T : Top p loose mean mg mb h₀) (F : Fr h₀ L s.heap m) (hri : ∀ v ∈ rs, IsI v) (hvi : ∀ v ∈ vs, IsI v)
    (hlen : rs.length + vs.length * n ≤ 1000000) (hlv : vs.length ≤ 10000) (hvm : ∀ v ∈ vs, intOf v ∈ xs.map (·.node))
    (hgo : ∀ i k, (vs.map intOf)[i]? = some k → ∀ p, lookP (((vs.map intOf).take i).foldl doneP (xs.map NI.pn, rs.map intOf)).1 k = some p → p.np = -1)
    (hs : SOK σ xs ((Rl, listOf rs.toArray ep) :: rest) n) (hcl : Closed xs) (hdN : oN.IsDictOf (intKind Pr w) (kvsN xs)) (hRr : ∀ q ∈ rest, q.1 ≠ Rl)
    (N : News h₀ L s.heap ((Rl, listOf rs.toArray ep) :: ledS σ w (.ref Rl) po (.int nf t1) oN xs rest))
    (hq : ∀ h' tk' ep' t' xs' (rs' : List Value), Fr h₀ L h' m → xs'.map NI.st = xs.map NI.st → (∀ v ∈ rs', IsI v) → (xs'.map NI.pn, rs'.map intOf) = (vs.map intOf).foldl doneP (xs.map NI.pn, rs.map intOf) →
      News h₀ L h' ((Rl, listOf rs'.toArray ep') :: ledS σ w (.ref Rl) po (.int (nf + vs.length) t') oN xs' rest) →
      R (.ok (.ret .none)) { s with heap := h', toks := tk' }) :
    codeAny (model Pr w) A (.call (.ref 120) ⟨.ref σ.S :: vs, []⟩) R s := by
  obtain ⟨_, d, _, gs, u⟩ := A
  dsimp only at hh hfr hdp
  subst hh hfr
  refine' kp_rest (vs := vs) (binds := fun D => [(Str.ofString "self", .ref σ.S), (Str.ofString "nodes", .ref D)]) (g₁ := fun D => some [(Str.ofString "self", .ref σ.S), (Str.ofString "nodes", .ref D)]) B F X₀ N T rfl hf hke ?k6 ?k7 ?k8 ?kV ?kP ?kG ?kB ?_ ?c2 ?c3 ?c4 ?c5
  case k6 => k_is
  case k7 => k_is
  case k8 => k_room
  case kV => exact rfl
  case kP =>
    unfold bindArgs
    dsimp only [List.map, List.length, List.append, List.zip, List.zipWith]
    rw [newTuple_eq]
    · cases vs <;> rfl
    · rw [sizeLine_eq]; show vs.length ≤ _; omega
  case kG => exact fun _ => rfl
  case kB => exact fun _ => locs rfl
  case c5 => decide
  case c2 => exact rfl
  case c3 => exact rfl
  case c4 => exact rfl
  intro D' g' L' h' l1 FG' F' N' B' X' T'
  (try dsimp only)
  (try k_fold)
  have hu' := l1
  have eR0 : ∀ a ∈ addrS σ xs, @Ne Nat a Rl := fun a ha e => hs.off a ha _ (.head _) e.symm
  walk_at "go"
  rename News g' L' _ _ => N2
  rename Fr g' L' _ _ => F2
  refine For_invVF F2 rfl rfl ?_
  walk1
  refine iter_tupM (vs := vs) (ep := 0) [Str.ofString "nodeinfo", Str.ofString "stat", Str.ofString "successor", Str.ofString "successor_info"] (fun i nx => E4 fun xsi rsi epi ti => A5 (nx = (Rl, listOf rsi.toArray epi) :: ledS σ w (.ref Rl) po (.int (nf + i) ti) oN xsi rest) (xsi.map NI.st = xs.map NI.st) ((∀ v ∈ rsi, IsI v)) (rsi.length ≤ rs.length + i * n) ((xsi.map NI.pn, rsi.map intOf) = ((vs.map intOf).take i).foldl doneP (xs.map NI.pn, rs.map intOf))) rfl F2 N2 ?_ ⟨xs, rs, ep, t1, by simp, rfl, hri, by simp, rfl⟩ ?_ ?_
  · exact fun q hq e => absurd (l1 q hq) (e ▸ Nat.lt_irrefl _)
  · intro i v u' nx h3 tk3 it hv hI0 hoff F4 N4
    refine hide fun G hG => ?_
    obtain ⟨xsi, rsi, epi, ti, rfl, hsti, hrii, hrli, hpi⟩ := hI0
    refine hG ?_
    clear hG G
    have hi : i < vs.length := by
      rcases Nat.lt_or_ge i vs.length with h | h
      · exact h
      · rw [List.getElem?_eq_none h] at hv; cases hv
    have hvm' := List.mem_of_getElem? hv
    obtain ⟨vi, vt, rfl⟩ := hvi v hvm'
    have hsi := hs.same hsti
    have hcli := hcl.same hsti
    have hdi : oN.IsDictOf (intKind Pr w) (kvsN xsi) := by rw [st_kvs hsti]; exact hdN
    have hin : vi ∈ xsi.map (·.node) := by rw [st_map (·.node) (fun _ => rfl) hsti]; exact hvm _ hvm'
    obtain ⟨x5, hx5, hxk5⟩ := List.mem_map.mp hin
    have hnp : x5.np = -1 := by
      have h1 := lookP_map hsi.keys hx5
      rw [hxk5] at h1
      have h2 := hgo i vi (by rw [List.getElem?_map, hv]; rfl) x5.pn (by rw [← hpi]; exact h1)
      exact h2
    obtain ⟨pre5, post5, rfl⟩ := List.append_of_mem hx5
    have hse : SOK σ (pre5 ++ x5 :: post5) ([(D', tupOf vs.toArray 0), it] ++ (Rl, listOf rsi.toArray epi) :: rest) n := (hsi.sub fun q hq => by
        rcases List.mem_cons.mp hq with rfl | hq
        · exact ⟨_, .head _, rfl⟩
        · exact ⟨q, .tail _ hq, rfl⟩ : SOK σ (pre5 ++ x5 :: post5) ((Rl, listOf rsi.toArray epi) :: rest) n).ext (fun a ha => by
      obtain ⟨q, h1, h2⟩ := addrS_led (w := w) (rv := .ref Rl) (po := po) (nf := .int (nf + i) ti) (oN := oN) (rest := rest) a ha
      exact ⟨q, .tail _ h1, h2⟩) hoff
    obtain ⟨q0, q0', q1, q2, q3, q4, q5, q6, q7, q8, q9, q10, r1, r2, r3, r4, r5⟩ := hse.dst
    replace N4 : News g' L' h3 (ledS σ w (.ref Rl) po (.int (nf + i) ti) oN (pre5 ++ x5 :: post5) ([(D', tupOf vs.toArray 0), it] ++ (Rl, listOf rsi.toArray epi) :: rest)) := News.sub N4 (by walk_at "sub")
    replace N4 := led_open N4
    obtain ⟨ro, hro⟩ : ∃ ro, restO pre5 post5 x5 ([(D', tupOf vs.toArray 0), it] ++ (Rl, listOf rsi.toArray epi) :: rest) = ro := ⟨_, rfl⟩
    rw [hro] at r1 r2 r3 r4 r5
    replace N4 : News g' L' h3 ((x5.info, ⟨.ref 40, some x5.dx, .plain, [some (.int x5.node x5.ntok), some (.int (-1) x5.nptok), some (.ref x5.sl)].toArray⟩) :: (x5.dx, dictOf [] 0) :: (x5.sl, x5.l) :: (σ.S, instObj 137 σ.D) :: (σ.D, σ.d w (.ref Rl) po (.int (nf + i) ti)) :: (σ.Nd, oN) :: ro) := by rw [← hnp, ← hro]; exact N4
    refine wpAny_boxed _ (fun _ _ x => x) fun PQ hPQ => ?_
    walk_at "go"
    refine kdg_get1 (knd := intKind _ _) (by assumption) (by k_mem) hdi hs.lo (intKind_is _ _ _ _) _ (value_of_mem hsi.keys hx5 hxk5) ?_
    dsimp only [Option.getD]
    walk_at "go"
    rename News g' L' _ _ => N6
    rename Fr g' L' _ _ => F6
    subst hro
    refine hide fun G hG => ?_
    obtain ⟨x6, ⟨z1, z4⟩, N7⟩ := led_np1 N6
    refine hG ?_
    clear hG G
    have hst6 : (pre5 ++ x6 :: post5).map NI.st = xs.map NI.st := (st_put z1).trans hsti
    have hp6 : (pre5 ++ x6 :: post5).map NI.pn = modP ((pre5 ++ x5 :: post5).map NI.pn) vi fun p => { p with np := -2 } := by
      rw [modP_split (x := x5) (f := fun p => { p with np := -2 }) hsi.keys (by rw [pn_of z1, z4]), hxk5]
    have hx6 : x6 ∈ pre5 ++ x6 :: post5 := by simp
    have e6 : x6.info = x5.info := (congrArg NI.info z1 : x6.st.info = x5.st.info)
    rw [← e6] at F6
    generalize hxs6 : pre5 ++ x6 :: post5 = xs6 at *
    have N8 := N7
    rw [← hxs6] at N8
    replace N8 := led_open N8
    clear N6
    refine For_invVF F6 rfl rfl ?_
    walk_at "go"
    have dR : @Ne Nat D' Rl := fun e => hoff _ (.head _) _ (.head _) e.symm
    have iR : @Ne Nat it.1 Rl := fun e => hoff _ (.head _) _ (.tail _ (.head _)) e.symm
    have hs6 : SOK σ xs6 ((Rl, listOf rsi.toArray epi) :: ([(D', tupOf vs.toArray 0), it] ++ rest)) n := (hse.same (hst6.trans hsti.symm)).sub fun q hq => ⟨q, by
      simp only [List.mem_cons, List.mem_append, List.not_mem_nil, or_false] at hq ⊢; grind, rfl⟩
    refine iter_listX (l := x6.sl) (vs := x6.sv) (ep := x6.ep) [Str.ofString "successor_info"] (fun j nx => E3 fun xsj rsj epj => A5 (nx = (Rl, listOf rsj.toArray epj) :: ledS σ w (.ref Rl) po (.int (nf + i) ti) oN xsj ([(D', tupOf vs.toArray 0), it] ++ rest)) (xsj.map NI.st = xs6.map NI.st) ((∀ v ∈ rsj, IsI v)) (rsj.length ≤ rsi.length + j) ((xsj.map NI.pn, rsj.map intOf) = ((x6.sv.map intOf).take j).foldl decP (xs6.map NI.pn, rsi.map intOf))) rfl F6
      (news := (Rl, listOf rsi.toArray epi) :: ledS σ w (.ref Rl) po (.int (nf + i) ti) oN xs6 ([(D', tupOf vs.toArray 0), it] ++ rest)) (News.sub N7 ?_) ?_ ⟨xs6, rsi, epi, rfl, rfl, hrii, Nat.le_refl _, rfl⟩ ?_ ?_
    · walk_at "sub"
    · rintro j nx ⟨xsj, rsj, epj, rfl, hstj, _, _, _⟩
      obtain ⟨y, hy, e⟩ := st_mem hstj.symm hx6
      have : (x6.sl, listOf x6.sv.toArray x6.ep) ∈ ledN xsj := by
        unfold ledN
        refine List.mem_flatMap.mpr ⟨y, hy, ?_⟩
        have e1 : y.sl = x6.sl := (congrArg NI.sl e : y.st.sl = x6.st.sl)
        have e2 : y.ep = x6.ep := (congrArg NI.ep e : y.st.ep = x6.st.ep)
        simp only [NI.led, NI.l, e1, e2, st_sv e, List.mem_cons, true_or, or_true]
      simp only [ledS, List.mem_cons, List.mem_append]
      exact .inr (.inr (.inr (.inr (.inl this))))
    · intro j v2 u2 nx h7 tk7 it2 hv2 hI0 hoff2 F9 N9
      refine hide fun G hG => ?_
      obtain ⟨xsj, rsj, epj, rfl, hstj, hrij, hrlj, hpj⟩ := hI0
      refine hG ?_
      clear hG G
      have hv2m := List.mem_of_getElem? hv2
      obtain ⟨wi, wt, rfl⟩ := hs6.isi x6 hx6 v2 hv2m
      have hcl6 := hcl.same hst6
      have hin2 : wi ∈ xsj.map (·.node) := by rw [st_map (·.node) (fun _ => rfl) hstj]; exact (hcl6 x6 hx6 _ hv2m).1
      obtain ⟨y, hy, hyk⟩ := List.mem_map.mp hin2
      have hsj : SOK σ xsj ([it2] ++ ((Rl, listOf rsj.toArray epj) :: ([(D', tupOf vs.toArray 0), it] ++ rest))) n := ((hs6.same hstj).sub (fun q hq => by
        rcases List.mem_cons.mp hq with rfl | hq
        · exact ⟨_, .head _, rfl⟩
        · exact ⟨q, .tail _ hq, rfl⟩) : SOK σ xsj ((Rl, listOf rsj.toArray epj) :: ([(D', tupOf vs.toArray 0), it] ++ rest)) n).ext (fun a ha => by
          obtain ⟨q, h1, h2⟩ := addrS_led (w := w) (rv := .ref Rl) (po := po) (nf := .int (nf + i) ti) (oN := oN) (rest := [(D', tupOf vs.toArray 0), it] ++ rest) a ha
          exact ⟨q, .tail _ h1, h2⟩) hoff2
      have hdj : oN.IsDictOf (intKind Pr w) (kvsN xsj) := by rw [st_kvs hstj, st_kvs hst6]; exact hdN
      obtain ⟨P, Q, rfl⟩ := List.append_of_mem hy
      obtain ⟨q0, q0', q1, q2, q3, q4, q5, q6, q7, q8, q9, q10, r1, r2, r3, r4, r5⟩ := hsj.dst
      have eR : ∀ a ∈ addrS σ (P ++ y :: Q), @Ne Nat a Rl := fun a ha e => hsj.off a ha _ (.tail _ (.head _)) e.symm
      have g1 := eR σ.S (by unfold addrS; simp)
      have g2 := eR σ.D (by unfold addrS; simp)
      have g3 := eR σ.Nd (by unfold addrS; simp)
      have g4 := eR y.info (by unfold addrS; rw [addrN_app, addrN_cons]; simp)
      have g5 := eR y.dx (by unfold addrS; rw [addrN_app, addrN_cons]; simp)
      have g6 := eR y.sl (by unfold addrS; rw [addrN_app, addrN_cons]; simp)
      have iR2 : @Ne Nat it2.1 Rl := fun e => hoff2 _ (.head _) _ (.head _) e.symm
      have rS : ∀ q ∈ restO P Q y ([it2] ++ ([(D', tupOf vs.toArray 0), it] ++ rest)), q ∈ restO P Q y ([it2] ++ ((Rl, listOf rsj.toArray epj) :: ([(D', tupOf vs.toArray 0), it] ++ rest))) := by
        intro q hq; simp only [restO, List.mem_cons, List.mem_append, List.not_mem_nil, or_false] at hq ⊢; grind
      have rR : ∀ q ∈ restO P Q y ([it2] ++ ([(D', tupOf vs.toArray 0), it] ++ rest)), q.1 ≠ Rl := by
        intro q hq
        simp only [restO, List.mem_cons, List.mem_append, List.not_mem_nil, or_false] at hq
        rcases hq with h | h | rfl | (rfl | rfl) | h
        · exact eR _ (by unfold addrS; rw [addrN_app, ← map_ledN P]; simp only [List.mem_cons, List.mem_append]; exact .inr (.inr (.inr (.inl (List.mem_map_of_mem h)))))
        · exact eR _ (by unfold addrS; rw [addrN_app, addrN_cons, ← map_ledN Q]; simp only [List.mem_cons, List.mem_append]; exact .inr (.inr (.inr (.inr (.inr (.inr (.inr (List.mem_map_of_mem h)))))))) 
        · exact iR2
        · exact dR
        · exact iR
        · exact hRr q h
      replace r1 : ∀ q ∈ restO P Q y ([it2] ++ ([(D', tupOf vs.toArray 0), it] ++ rest)), q.1 ≠ y.info := fun q hq => r1 q (rS q hq)
      have N10 : News g' L' h7 ((Rl, listOf rsj.toArray epj) :: ledO σ w (.ref Rl) po (.int (nf + i) ti) oN y (restO P Q y ([it2] ++ ([(D', tupOf vs.toArray 0), it] ++ rest)))) := News.sub N9 fun q hq => by
        simp only [ledS, ledO, restO, ledN_app, ledN_cons, NI.led, List.mem_cons, List.mem_append, List.not_mem_nil, or_false] at hq ⊢; grind
      clear N9 r2 r3 r4 r5 N7 N8 hu' rS
      obtain ⟨ro, hro⟩ : ∃ ro, restO P Q y ([it2] ++ ([(D', tupOf vs.toArray 0), it] ++ rest)) = ro := ⟨_, rfl⟩
      rw [hro] at N10 r1 rR
      have hval := value_of_mem hsj.keys hy hyk
      have hsz : rsj.length ≤ 16000000 := by
        have := hs6.slen x6 hx6
        have hj : j < x6.sv.length := by
          rcases Nat.lt_or_ge j x6.sv.length with h | h
          · exact h
          · rw [List.getElem?_eq_none h] at hv2; cases hv2
        have h1 : i * n + n ≤ vs.length * n := by have := Nat.mul_le_mul_right n hi; rw [Nat.succ_mul] at this; exact this
        omega
      have fin : ∀ (h' : Heap) (y2 : NI) (rs2 : List Value) (ep2 : Nat), y2.st = y.st → y2.np = y.np - 1 → (∀ v ∈ rs2, IsI v) → rs2.length ≤ rsj.length + 1 → rs2.map intOf = (if y.np - 1 = 0 then rsj.map intOf ++ [wi] else rsj.map intOf) →
          News g' L' h' ((Rl, listOf rs2.toArray ep2) :: ledS σ w (.ref Rl) po (.int (nf + i) ti) oN (P ++ y2 :: Q) ([it2] ++ ([(D', tupOf vs.toArray 0), it] ++ rest))) →
          ∃ nx, News g' L' h' (nx ++ [it2]) ∧ (∀ p ∈ nx, ∀ q ∈ [it2], p.1 ≠ q.1) ∧ E3 fun (xsj : List NI) (rsj : List Value) (epj : Nat) => A5 (nx = (Rl, listOf rsj.toArray epj) :: ledS σ w (.ref Rl) po (.int (nf + i) ti) oN xsj ([(D', tupOf vs.toArray 0), it] ++ rest)) (xsj.map NI.st = xs6.map NI.st) ((∀ v ∈ rsj, IsI v)) (rsj.length ≤ rsi.length + (j + 1)) ((xsj.map NI.pn, rsj.map intOf) = ((x6.sv.map intOf).take (j + 1)).foldl decP (xs6.map NI.pn, rsi.map intOf)) := by
        intro h' y2 rs2 ep2 e1 e2 e3 e4 e5 Nx
        refine ⟨(Rl, listOf rs2.toArray ep2) :: ledS σ w (.ref Rl) po (.int (nf + i) ti) oN (P ++ y2 :: Q) ([(D', tupOf vs.toArray 0), it] ++ rest), News.sub Nx ?_, ?_, _, _, _, rfl, (st_put e1).trans hstj, e3, by omega, ?_⟩
        · walk_at "sub"
        · intro q hq r hr
          rw [List.mem_singleton.mp hr]
          rcases List.mem_cons.mp hq with rfl | hq
          · exact iR2.symm
          · rcases inL q hq with h | h
            · obtain ⟨q', h1, h2⟩ := addrS_led (w := w) (rv := .ref Rl) (po := po) (nf := .int (nf + i) ti) (oN := oN) (rest := [(D', tupOf vs.toArray 0), it] ++ rest) (xs := P ++ y :: Q) q.1 (by unfold addrS at h ⊢; rw [← st_addr (st_put e1)]; exact h)
              rw [← h2]; exact hoff2 q' (.tail _ h1) _ (.head _)
            · exact hoff2 q (by simp only [ledS, List.mem_cons, List.mem_append] at h ⊢; exact .inr (.inr (.inr (.inr (.inr h))))) _ (.head _)
        · rw [List.take_add_one, List.getElem?_map, hv2]
          simp only [Option.map, Option.toList, List.foldl_append, List.foldl_cons, List.foldl_nil, intOf]
          rw [← hpj, ← hyk, decP_step hsj.keys e1 e2, e5, hyk]
      clear hq hgo hcli hlen hlv hvm hri hvi hRr hrii hrli hi hvm' hnp hpi hse hsti hp6 hst6 e6 z1 z4 hs6 hrlj hpj hstj hoff2 hcl6 hin2 hv2m eR hsj hin hxk5 hv hv2 hcl hdi hx5 hoff eR0 l1 N
      clear hPQ
      refine wpAny_boxed _ (fun _ _ x => x) fun PQ2 hPQ2 => ?_
      walk_at "go"
      refine kda_item (knd := intKind _ _) (by assumption) (by k_mem) hdj (intKind_is _ _ _ _) hval ?_
      walk_at "go"
      · rename News g' L' _ _ => N8
        rename Fr g' L' _ _ => F8
        subst hro
        rw [List.push_toArray] at N8
        refine hide fun G hG => ?_
        obtain ⟨y2, ⟨z1', z4'⟩, N9⟩ := led_np2 N8
        refine hG ?_
        clear hG G
        rename y.np - 1 = 0 => hz
        have hI : ∀ v ∈ rsj ++ [Value.int wi wt], IsI v := by
          intro v hv
          rcases List.mem_append.mp hv with h | h
          · exact hrij v h
          · rw [List.mem_singleton.mp h]; exact ⟨_, _, rfl⟩
        refine hide fun G hG => ?_
        obtain ⟨nx, n1, n2, n3⟩ := fin _ y2 _ _ z1' z4' hI (by simp) (by rw [if_pos hz]; simp [intOf]) N9
        refine hG ?_
        clear hG G
        refine hPQ2 _ _ ⟨_, _, _, nx, rfl, F8, n1, n2, ?_, n3⟩
        intro y h1 h2
        have h3 : y ≠ Str.ofString "successor_info" := by intro e; subst e; revert h2; decide
        simp only [if_neg h1, if_neg h3, h2, Bool.false_eq_true, if_false]
      · rename News g' L' _ _ => N8
        rename Fr g' L' _ _ => F8
        subst hro
        refine hide fun G hG => ?_
        obtain ⟨y2, ⟨z1', z4'⟩, N9⟩ := led_np2 N8
        refine hG ?_
        clear hG G
        rename ¬ y.np - 1 = 0 => hz
        refine hide fun G hG => ?_
        obtain ⟨nx, n1, n2, n3⟩ := fin _ y2 _ _ z1' z4' hrij (by omega) (by rw [if_neg hz]) N9
        refine hG ?_
        clear hG G
        refine hPQ2 _ _ ⟨_, _, _, nx, rfl, F8, n1, n2, ?_, n3⟩
        intro y h1 h2
        have h3 : y ≠ Str.ofString "successor_info" := by intro e; subst e; revert h2; decide
        simp only [if_neg h1, if_neg h3, h2, Bool.false_eq_true, if_false]
    · intro u2 nx h7 tk7 hI0 F9 N9
      refine hide fun G hG => ?_
      obtain ⟨xsj, rsj, epj, rfl, hstj, hrij, hrlj, hpj⟩ := hI0
      refine hG ?_
      clear hG G
      dsimp only
      have hsj : SOK σ xsj ((Rl, listOf rsj.toArray epj) :: ([(D', tupOf vs.toArray 0), it] ++ rest)) n := (hs6.same hstj).sub fun q hq => by
        rcases List.mem_cons.mp hq with rfl | hq
        · exact ⟨_, .head _, rfl⟩
        · exact ⟨q, .tail _ hq, rfl⟩
      have nd := hsj.nd
      unfold addrS at nd
      simp only [List.nodup_cons, List.mem_cons, not_or] at nd
      have f1 : @Ne Nat σ.S σ.D := nd.1.1
      have f2 : @Ne Nat σ.D σ.Nd := nd.2.1.1
      have f3 : @Ne Nat Rl σ.D := hsj.off σ.D (by unfold addrS; simp) _ (.head _)
      have f4 : ∀ q ∈ ledN xsj ++ ([(D', tupOf vs.toArray 0), it] ++ rest), q.1 ≠ σ.D := fun q hq => by
        rcases List.mem_append.mp hq with h | h
        · exact fun e => nd.2.1.2 (by rw [← e, ← map_ledN]; exact List.mem_map_of_mem h)
        · exact hsj.off σ.D (by unfold addrS; simp) q (.tail _ h)
      obtain ⟨ro, hro⟩ : ∃ ro, ledN xsj ++ ([(D', tupOf vs.toArray 0), it] ++ rest) = ro := ⟨_, rfl⟩
      rw [hro] at f4
      replace N9 : News g' L' h7 ((Rl, listOf rsj.toArray epj) :: (σ.S, instObj 137 σ.D) :: (σ.D, σ.d w (.ref Rl) po (.int (nf + i) ti)) :: (σ.Nd, oN) :: ro) := hro ▸ N9
      walk_at "go"
      rename News g' L' _ _ => N10
      rename Fr g' L' _ _ => F10
      subst hro
      obtain ⟨tt, N11⟩ : ∃ tt, News g' L' _ ((Rl, listOf rsj.toArray epj) :: (σ.S, instObj 137 σ.D) :: (σ.D, σ.d w (.ref Rl) po (.int (nf + i + 1) tt)) :: (σ.Nd, oN) :: (ledN xsj ++ ([(D', tupOf vs.toArray 0), it] ++ rest))) := ⟨_, N10⟩
      refine hPQ _ _ ⟨_, _, _, (Rl, listOf rsj.toArray epj) :: ledS σ w (.ref Rl) po (.int (nf + i + 1) tt) oN xsj rest, rfl, F10, News.sub N11 ?_, ?_, ?_, xsj, rsj, epj, _, by rw [Int.add_assoc]; rfl, hstj.trans hst6, hrij, ?_, ?_⟩
      · walk_at "sub"
      · intro q hq r hr
        rcases List.mem_cons.mp hq with rfl | hq
        · exact hoff (Rl, listOf rsi.toArray epi) (.head _) r hr
        · rcases inL q hq with h | h
          · obtain ⟨q', h1, h2⟩ := addrS_led (w := w) (rv := .ref Rl) (po := po) (nf := .int (nf + i) ti) (oN := oN) (rest := rest) (xs := pre5 ++ x5 :: post5) q.1 (by unfold addrS at h ⊢; rw [st_addr (hsti.trans (hstj.trans hst6).symm)]; exact h)
            rw [← h2]; exact hoff q' (.tail _ h1) r hr
          · exact hoff q (by simp only [ledS, List.mem_cons, List.mem_append] at h ⊢; exact .inr (.inr (.inr (.inr (.inr h))))) r hr
      · intro y h1 h2
        have h3 : y ≠ Str.ofString "successor_info" := by intro e; subst e; revert h2; decide
        have h4 : y ≠ Str.ofString "successor" := by intro e; subst e; revert h2; decide
        have h5 : y ≠ Str.ofString "stat" := by intro e; subst e; revert h2; decide
        have h6 : y ≠ Str.ofString "nodeinfo" := by intro e; subst e; revert h2; decide
        have h7 : [Str.ofString "successor_info"].contains y = false := by
          simp only [List.contains_cons, List.contains_nil, Bool.or_false, beq_eq_false_iff_ne]; exact h3
        simp only [if_neg h1, if_neg h3, if_neg h4, if_neg h5, if_neg h6, h2, h7, Bool.false_eq_true, if_false]
      · have h1 := hs6.slen x6 hx6
        rw [Nat.succ_mul]; omega
      · rw [hpj, List.take_of_length_le (by simp), List.take_add_one, List.getElem?_map, hv]
        simp only [Option.map, Option.toList, List.foldl_append, List.foldl_cons, List.foldl_nil, intOf]
        rw [← hpi]
        unfold doneP
        have hl : lookP ((pre5 ++ x5 :: post5).map NI.pn) vi = some x5.pn := hxk5 ▸ lookP_map hsi.keys hx5
        have hsv : x6.sv = x5.sv := st_sv z1
        simp only [hl, Option.map_some, Option.getD_some, hp6, hsv]
        rfl
  · intro u' nx h3 tk3 hI0 hoff F4 N4
    refine hide fun G hG => ?_
    obtain ⟨xsi, rsi, epi, ti, rfl, hsti, hrii, hrli, hpi⟩ := hI0
    refine hG ?_
    clear hG G
    dsimp only
    walk_at "go"
    rename News h₀ L _ _ => N9
    exact hq _ _ epi ti xsi rsi (by assumption) hsti hrii (by rw [hpi, List.take_of_length_le (by simp)]) (News.sub N9 fun q hq => .tail _ hq)
end
end
section
set_option maxHeartbeats 1000000
open PySem PySem.Calls PySem.W Builtin Builtin.ObjectAttr
theorem nx_slot_ga : Slot "list_iterator" "__getattribute__" "object.__getattribute__" :=
  .of (owner := "object") (n := "__getattribute__") (by rw [typeLookup_type, builtinLookup_eq_fast]; kernel_rfl) (by decide +kernel) (by decide +kernel) (by decide +kernel)
    (by first | exact .inl (by decide +kernel) | exact .inr (by decide +kernel)) (by rw [isSubtype_type]; kernel_rfl)
theorem nx_lookup : typeLookup (.type "list_iterator") "__next__" = pure (some (.builtin "list_iterator.__next__")) := by rw [typeLookup_type, builtinLookup_eq_fast]; kernel_rfl
theorem nx_type : typeOf (.builtin "list_iterator.__next__") = pure (.type "wrapper_descriptor") := by show builtinType _ = _; rw [builtinType_eq_fast]; kernel_rfl
theorem nx_get : Slot "wrapper_descriptor" "__get__" "wrapper_descriptor.__get__" :=
  .of (owner := "wrapper_descriptor") (n := "__get__") (by rw [typeLookup_type, builtinLookup_eq_fast]; kernel_rfl) (by decide +kernel) (by decide +kernel) (by decide +kernel)
    (by first | exact .inl (by decide +kernel) | exact .inr (by decide +kernel)) (by rw [isSubtype_type]; kernel_rfl)
theorem nx_set : typeLookup (.type "wrapper_descriptor") "__set__" = pure none := by rw [typeLookup_type, builtinLookup_eq_fast]; kernel_rfl
theorem nx_del : typeLookup (.type "wrapper_descriptor") "__delete__" = pure none := by rw [typeLookup_type, builtinLookup_eq_fast]; kernel_rfl
theorem nx_hook : typeLookup (.type "list_iterator") "__getattr__" = pure none := by rw [typeLookup_type, builtinLookup_eq_fast]; kernel_rfl
theorem nx_entry_ga : entryFor table "object.__getattribute__" = some Builtin.«object.__getattribute__» := entryFor_of_tree (by kernel_rfl)
theorem nx_args_ga (a b : Value) : argsOk "object.__getattribute__" ⟨[a, b], []⟩ := by unfold argsOk; kernel_rfl
theorem nx_entry_get : entryFor table "wrapper_descriptor.__get__" = some Builtin.«wrapper_descriptor.__get__» := entryFor_of_tree (by kernel_rfl)
theorem nx_args_get (a b c : Value) : argsOk "wrapper_descriptor.__get__" ⟨[a, b, c], []⟩ := by unfold argsOk; kernel_rfl
theorem nx_sub : isSubtype (.type "list_iterator") (.type "list_iterator") = pure true := by rw [isSubtype_type]; kernel_rfl
noncomputable abbrev wrapObj (it : Addr) : Obj := { cls := .type "method-wrapper", data := .fields #[.builtin "list_iterator.__next__", .ref it] }
noncomputable abbrev iterObj (l : Addr) (i : Nat) : Obj := { cls := .type "list_iterator", data := .fields #[.ref l, .int i 0] }
theorem nx_run_get {M : Model} {A : Around} {E : Value → Shared → Prop} {s : Shared} {it l : Addr} {i : Nat} {P : Fin → Shared → Prop} (hit : s.heap.get? it = some (iterObj l i))
    (h : P (.done (.ret (.ref s.heap.objs.size))) { s with heap := s.heap.push (wrapObj it) }) :
    wpAny M A (Builtin.«wrapper_descriptor.__get__» ⟨[.builtin "list_iterator.__next__", .ref it, .type "list_iterator"], []⟩) P E s := by
  obtain ⟨hp, g, d, tk, os⟩ := s
  have hT : (⟨hp, g, d, tk, os⟩ : Shared).TypeIs (.ref it) "list_iterator" := ⟨_, hit, rfl⟩
  have f1 := nx_sub
  have f2 : ".".intercalate ("list_iterator.__next__".cutAt '.').dropLast = "list_iterator" := by decide +kernel
  unfold Builtin.«wrapper_descriptor.__get__»
  repeat (any_goals (first | assumption | wp_step))
  rw [f2]
  repeat (any_goals (first | assumption | wp_step))
theorem nx_getattribute (it l : Addr) (i : Nat) (u : Tok) :
    Meets (Builtin.«object.__getattribute__» ⟨[.ref it, .str (Str.ofString "__next__") u], []⟩) (fun _ R s => s.heap.get? it = some (iterObj l i) ∧ R (.ok (.ret (.ref s.heap.objs.size))) { s with heap := s.heap.push (wrapObj it) }) :=
  Meets.of_wp fun prog w A R s hs => by
    obtain ⟨hp, g, d, tk, os⟩ := s
    obtain ⟨hx, hs⟩ := hs
    have hT : (⟨hp, g, d, tk, os⟩ : Shared).TypeIs (.ref it) "list_iterator" := ⟨_, hx, rfl⟩
    have f1 := nx_lookup
    have f2 := nx_type
    have f3 := nx_get.lookup
    have f4 := nx_set
    have f5 := nx_del
    unfold Builtin.«object.__getattribute__»
    repeat (any_goals (first | assumption | ((with_reducible show wpAny _ _ (call (Value.builtin "wrapper_descriptor.__get__") _ _) _ _ _); refine wpAny_call_entry nx_get nx_type nx_entry_get (nx_run_get hx ⟨_, rfl, ?_⟩) (nx_args_get _ _ _)) | wp_step))
    exact ⟨_, rfl, hs⟩
theorem nx_attr {prog : Program} {w : World} {A : Around} {E : Value → Shared → Prop} {s : Shared} {it l : Addr} {i : Nat} {Q : Value → Shared → Prop} (hx : s.heap.get? it = some (iterObj l i))
    (h : Q (.ref s.heap.objs.size) { s with heap := s.heap.push (wrapObj it), toks := s.toks + 1 }) : wpAny (model prog w) A (getAttr (.ref it) (Str.ofString "__next__") true) Q E s := by
  obtain ⟨hp, g, d, tk, os⟩ := s
  have hT : ∀ tk', (⟨hp, g, d, tk', os⟩ : Shared).TypeIs (.ref it) "list_iterator" := fun _ => ⟨_, hx, rfl⟩
  have f3 := nx_slot_ga.lookup
  have f4 := nx_slot_ga.bind (.ref it)
  have f5 := nx_hook
  unfold getAttr getAttrBy
  repeat (any_goals (first | assumption | exact hT _ | ((with_reducible show wpAny _ _ (call (Value.builtin "object.__getattribute__") _ _) _ _ _); refine call_meets nx_slot_ga (hT _) nx_entry_ga (nx_args_ga _ _) (nx_getattribute it l i _) ⟨hx, ?_⟩) | wp_step))
  exact wpAny_pure h
theorem nx_check (it : Addr) : checkBoundCall "list_iterator.__next__" ⟨[.ref it], []⟩ = pure () := by kernel_rfl
theorem nx_quiet (as : Args) : (Code.builtin "list_iterator.__next__" as).quiet = true := Code.quiet_builtin _ (by decide +kernel)
theorem nx_plain : plainId "list_iterator.__next__" = true := by decide +kernel
theorem nx_enter {prog : Program} {w : World} {A : Around} {R : Result → Shared → Prop} {s : Shared} {W it : Addr} (hw : s.heap.get? W = some (wrapObj it))
    (h : wpAny (model prog w) A.in1 (Builtin.«list_iterator.__next__» ⟨[.ref it], []⟩) (fun fin s' => match fin with | .done f => R (.ok f) s' | .again c' => c'.quiet = true ∧ codeAny (model prog w) A c' R s') (fun e s' => R (.error e) s') s) :
    codeAny (model prog w) A (.call (.ref W) ⟨[], []⟩) R s := by
  refine codeAny_of_tree ?_
  show wpAny _ A.in1 (callAny (.ref W) ⟨[], []⟩) _ _ s
  simp only [callAny]
  refine wpAny_bind (wpAny_load hw ?_)
  show wpAny _ A.in1 (checkBoundCall "list_iterator.__next__" ⟨[.ref it], []⟩ >>= fun _ => again (.builtin "list_iterator.__next__" ⟨[.ref it], []⟩)) _ _ s
  refine wpAny_bind (wpAny_of_eq (nx_check it) (wpAny_pure (And.intro (nx_quiet _) (codeAny_builtin entry_listiter_next ?_))))
  rw [Around.under_plainId nx_plain _]
  exact h
theorem nx_item {prog : Program} {w : World} {A : Around} {E : Value → Shared → Prop} {s : Shared} {W it l : Addr} {i : Nat} {items : Array Value} {x : Value} {Q : Value → Shared → Prop} (hw : s.heap.get? W = some (wrapObj it))
    (hit : s.heap.get? it = some (iterObj l i)) (hl : s.heap.IsList l items) (hx : items[i]? = some x)
    (hQ : ∀ h', h'.get? it = some (iterObj l (i + 1)) → Heap.SameBut it s.heap h' → Q x { s with heap := h' }) : wpAny (model prog w) A (call (.ref W) [] []) Q E s := by
  obtain ⟨ol, hol, _, nl, hdl⟩ := hl
  refine wpAny_call (nx_enter hw ?_)
  show wpAny _ _ (field (.ref it) 0 >>= _) _ _ s
  refine wpAny_bind (wpAny_field hit rfl (x := .ref l) rfl ?_)
  show wpAny _ _ (if (Value.ref l == Value.none) = true then _ else _) _ _ s
  rw [if_neg (show ¬ ((Value.ref l == Value.none) = true) from Bool.false_ne_true)]
  show wpAny _ _ (field (.ref it) 1 >>= _) _ _ s
  refine wpAny_bind (wpAny_field hit rfl (x := .int i 0) rfl ?_)
  show wpAny _ _ (seqItems? (.ref l) >>= _) _ _ s
  refine wpAny_bind (wpAny_seqItems hol hdl ?_)
  simp only [Int.toNat_natCast, hx]
  refine wpAny_bind (wpAny_setField hit rfl (by simp) (wpAny_pure (hQ _ ?_ (Heap.SameBut.update ..))))
  exact Heap.get?_update_self _ hit rfl
theorem nx_end {prog : Program} {w : World} {A : Around} {E : Value → Shared → Prop} {s : Shared} {W it l : Addr} {i : Nat} {items : Array Value} {Q : Value → Shared → Prop} (hh : A.handled = none) (hw : s.heap.get? W = some (wrapObj it))
    (hit : s.heap.get? it = some (iterObj l i)) (hl : s.heap.IsList l items) (hx : items[i]? = none)
    (hQ : ∀ h1 h' e, Heap.SameBut it s.heap h1 → Heap.NewExc h1 h' e "StopIteration" → E (.ref e) { s with heap := h' }) : wpAny (model prog w) A (call (.ref W) [] []) Q E s := by
  obtain ⟨ol, hol, _, nl, hdl⟩ := hl
  refine wpAny_call (nx_enter hw ?_)
  show wpAny _ _ (field (.ref it) 0 >>= _) _ _ s
  refine wpAny_bind (wpAny_field hit rfl (x := .ref l) rfl ?_)
  show wpAny _ _ (if (Value.ref l == Value.none) = true then _ else _) _ _ s
  rw [if_neg (show ¬ ((Value.ref l == Value.none) = true) from Bool.false_ne_true)]
  show wpAny _ _ (field (.ref it) 1 >>= _) _ _ s
  refine wpAny_bind (wpAny_field hit rfl (x := .int i 0) rfl ?_)
  show wpAny _ _ (seqItems? (.ref l) >>= _) _ _ s
  refine wpAny_bind (wpAny_seqItems hol hdl ?_)
  simp only [Int.toNat_natCast, hx]
  refine wpAny_bind (wpAny_rule (wpAny_bind (wpAny_setField hit rfl (by simp) ?_)))
  show wpAny _ _ (newExc (.type "StopIteration") [] >>= _) _ _ _
  refine wpAny_bind ?_
  simp only [newExc, newTuple]
  refine wpAny_bind (wpAny_newObj_type ?_ (by size_fits))
  refine wpAny_bind (m := firstArgMember _ _) (wpAny_of_eq (a := Value.none) (by first | rfl | (simp only [firstArgMember]; rfl)) ?_)
  refine wpAny_newObj_type ?_ (by size_fits)
  simp only [raiseNew]
  refine wpAny_bind (wpAny_handled ?_)
  rw [show A.in1.handled = none from hh]
  refine wpAny_bind (wpAny_pure (wpAny_throw ?_))
  refine hQ _ _ _ (Heap.SameBut.update ..) ⟨fun b o e => Heap.get?_push_of_some _ (Heap.get?_push_of_some _ e), ?_, ⟨_, _, Heap.get?_push_size _ rfl, rfl, rfl⟩⟩
  cases e : (s.heap.update it (Obj.mapFields fun x => x.setIfInBounds 0 Value.none)).get? _ with
  | none => rfl
  | some o => have := Heap.lt_size e; rw [Heap.size_push] at this; exact absurd this (Nat.not_lt.mpr (Nat.le_succ _))
theorem nx_iter {prog : Program} {w : World} {A : Around} {E : Value → Shared → Prop} {s : Shared} {l : Addr} {items : Array Value} {Q : Value → Shared → Prop} (hl : s.heap.IsList l items)
    (h : Q (.ref s.heap.objs.size) { s with heap := s.heap.push (iterObj l 0) }) : wpAny (model prog w) A (call (.builtin "iter") [.ref l]) Q E s := by
  refine call_function_entry (by decide +kernel) (by decide +kernel) kdk_entry_iter (kdk_args_iter _) ?_
  unfold Builtin.«iter»
  refine wpAny_bind (m := someArgs "iter" 1 2 _) (wpAny_of_eq (a := [Value.ref l]) (by first | rfl | kernel_rfl!) ?_)
  show wpAny _ _ (pyIter (.ref l) >>= _) _ _ _
  exact wpAny_bind (wpAny_pyIter_list hl (wpAny_pure ⟨_, rfl, h⟩))
end
section
set_option maxHeartbeats 1000000
open PySem PySem.Calls PySem.W PyProof.Rows Builtin Builtin.ObjectAttr
theorem nx_callWith {M : Model} {A : Around} {E : Value → Shared → Prop} {s : Shared} {env : Env} {pos : Pos} {first : List Value} {Q : Value → Shared → Prop} {W it : Addr} (hw : s.heap.get? W = some (wrapObj it))
    (h : wpAny M A (call (.ref W) (first ++ [])) Q E s) : wpAny M A (callWith pos (.ref W) first (backTo pos (starEach [] env)) []) Q E s := by
  unfold callWith
  refine wpAny_bind (wpAny_holding (evalArgs_nil3 (wpAny_bind (wpAny_standAt ?_))))
  show wpAny M A (keeperOf (.ref W) >>= _) _ _ _
  refine wpAny_bind (m := keeperOf (.ref W)) ?_
  unfold keeperOf
  refine wpAny_bind (wpAny_load hw ?_)
  simp only [wrapObj, show (Value.type "method-wrapper" != Value.type "method") = true by decide, show (Value.type "method-wrapper" == Value.type "builtin_function_or_method" || Value.type "method-wrapper" == Value.type "method-wrapper") = true by decide, if_true]
  refine wpAny_pure ?_
  exact wpAny_bind (wpAny_mono h (fun r s₂ hr => wpAny_bind (wpAny_holding (wpAny_point (wpAny_pure hr)))) fun _ _ x => x)
end
section
set_option maxHeartbeats 1000000
/-! the search for a cycle, as plain data: one entry of its stack -/
structure SE where
  k : Int
  t : Tok
  it : Addr
  W : Addr
  l : Addr
  ep : Nat
  vs : List Value
  pos : Nat
noncomputable abbrev SE.val (e : SE) : Value := .int e.k e.t
noncomputable abbrev SE.led (e : SE) : List (Addr × Obj) := [(e.W, wrapObj e.it), (e.it, iterObj e.l e.pos)]
noncomputable def itL (st : List SE) : List (Addr × Obj) := st.flatMap SE.led
theorem itL_app (a b : List SE) : itL (a ++ b) = itL a ++ itL b := by unfold itL; rw [List.flatMap_append]
theorem itL_one (e : SE) : itL [e] = e.led := by unfold itL; simp
structure FOK (xs : List NI) (BA : List Addr) (st : List SE) (sn : List Int) : Prop where
  fro : ∀ e ∈ st, ∃ x ∈ xs, x.node = e.k ∧ x.sl = e.l ∧ x.sv = e.vs ∧ x.ep = e.ep
  inc : st.Pairwise fun a b => a.k < b.k ∧ @LT.lt Nat _ a.W b.it
  ad : ∀ e ∈ st, @LT.lt Nat _ e.it e.W ∧ ∀ a ∈ BA, @LT.lt Nat _ a e.it
  snd : sn.Nodup
  ssub : ∀ k ∈ sn, k ∈ xs.map (·.node)
theorem nodup_sub_len : ∀ {l m : List Int}, l.Nodup → (∀ a ∈ l, a ∈ m) → l.length ≤ m.length
  | [], _, _, _ => Nat.zero_le _
  | a :: l, m, h, hs => by
    rw [List.nodup_cons] at h
    have h1 : a ∈ m := hs a (.head _)
    have h2 : l.length ≤ (m.erase a).length := nodup_sub_len h.2 fun b hb => by
      have : b ≠ a := fun e => h.1 (e ▸ hb)
      exact (List.mem_erase_of_ne this).mpr (hs b (.tail _ hb))
    rw [List.length_erase_of_mem h1] at h2
    have : 0 < m.length := List.length_pos_of_mem h1
    simp only [List.length_cons]; omega
noncomputable def unseen (sn : List Int) (x : NI) : Nat := if x.node ∈ sn then 0 else x.sv.length + 2
noncomputable def mu (xs : List NI) (sn : List Int) (st : List SE) : Nat := (xs.map (unseen sn)).sum + (st.map fun e => e.vs.length - e.pos + 1).sum
theorem unseen_le {sn : List Int} {k : Int} (xs : List NI) : (xs.map (unseen (sn ++ [k]))).sum ≤ (xs.map (unseen sn)).sum := by
  induction xs with
  | nil => simp
  | cons x r ih =>
    simp only [List.map_cons, List.sum_cons]
    have : unseen (sn ++ [k]) x ≤ unseen sn x := by
      unfold unseen
      by_cases h : x.node ∈ sn
      · simp [h]
      · simp only [h, if_false]; split <;> omega
    omega
theorem unseen_drop {sn : List Int} {xs : List NI} {x : NI} (hx : x ∈ xs) (hn : x.node ∉ sn) : (xs.map (unseen (sn ++ [x.node]))).sum + (x.sv.length + 2) ≤ (xs.map (unseen sn)).sum := by
  induction xs with
  | nil => cases hx
  | cons y r ih =>
    simp only [List.map_cons, List.sum_cons]
    rcases List.mem_cons.mp hx with rfl | hx
    · have h1 : unseen (sn ++ [x.node]) x = 0 := by unfold unseen; simp
      have h2 : unseen sn x = x.sv.length + 2 := by unfold unseen; simp [hn]
      have := unseen_le (sn := sn) (k := x.node) r
      omega
    · have := ih hx
      have : unseen (sn ++ [x.node]) y ≤ unseen sn y := by
        unfold unseen
        by_cases h : y.node ∈ sn
        · simp [h]
        · simp only [h, if_false]; split <;> omega
      omega
theorem FOK.stlen {xs : List NI} {BA : List Addr} {st : List SE} {sn : List Int} (h : FOK xs BA st sn) : st.length ≤ xs.length := by
  have := nodup_sub_len (l := st.map (·.k)) (m := xs.map (·.node)) (List.pairwise_map.mpr (h.inc.imp fun r e => absurd (e ▸ r.1 : _ < _) (by intro q; exact Int.lt_irrefl _ q))) fun a ha => by
    obtain ⟨e, he, rfl⟩ := List.mem_map.mp ha
    obtain ⟨x, hx, e1, _⟩ := h.fro e he
    exact e1 ▸ List.mem_map_of_mem hx
  simpa using this
theorem FOK.snlen {xs : List NI} {BA : List Addr} {st : List SE} {sn : List Int} (h : FOK xs BA st sn) : sn.length ≤ xs.length := by
  simpa using nodup_sub_len h.snd h.ssub
theorem FOK.push {xs : List NI} {BA : List Addr} {st : List SE} {sn : List Int} (h : FOK xs BA st sn) {x : NI} (hx : x ∈ xs) (hn : x.node ∉ sn) (hu : ∀ e ∈ st, e.k < x.node) (t : Tok) {it W : Addr} (hW : @LT.lt Nat _ it W) (hB : ∀ a ∈ BA, @LT.lt Nat _ a it)
    (hS : ∀ e ∈ st, @LT.lt Nat _ e.W it) : FOK xs BA (st ++ [⟨x.node, t, it, W, x.sl, x.ep, x.sv, 0⟩]) (sn ++ [x.node]) := by
  refine ⟨?_, ?_, ?_, ?_, ?_⟩
  · intro e he
    rcases List.mem_append.mp he with he | he
    · exact h.fro e he
    · rw [List.mem_singleton.mp he]; exact ⟨x, hx, rfl, rfl, rfl, rfl⟩
  · rw [List.pairwise_append]
    refine ⟨h.inc, List.pairwise_singleton _ _, ?_⟩
    intro a ha b hb
    rw [List.mem_singleton.mp hb]
    exact ⟨hu a ha, hS a ha⟩
  · intro e he
    rcases List.mem_append.mp he with he | he
    · exact h.ad e he
    · rw [List.mem_singleton.mp he]; exact ⟨hW, hB⟩
  · rw [List.nodup_append]
    refine ⟨h.snd, by simp, ?_⟩
    intro a ha b hb e
    rw [List.mem_singleton.mp hb] at e
    exact hn (e ▸ ha)
  · intro k hk
    rcases List.mem_append.mp hk with hk | hk
    · exact h.ssub k hk
    · rw [List.mem_singleton.mp hk]; exact List.mem_map_of_mem hx
theorem FOK.pop {xs : List NI} {BA : List Addr} {st : List SE} {e : SE} {sn : List Int} (h : FOK xs BA (st ++ [e]) sn) : FOK xs BA st sn :=
  ⟨fun e he => h.fro e (List.mem_append_left _ he), (List.pairwise_append.mp h.inc).1, fun e he => h.ad e (List.mem_append_left _ he), h.snd, h.ssub⟩
theorem FOK.step {xs : List NI} {BA : List Addr} {st : List SE} {e : SE} {sn : List Int} (h : FOK xs BA (st ++ [e]) sn) : FOK xs BA (st ++ [{ e with pos := e.pos + 1 }]) sn := by
  refine ⟨?_, ?_, ?_, h.snd, h.ssub⟩
  · intro e' he
    rcases List.mem_append.mp he with he | he
    · exact h.fro e' (List.mem_append_left _ he)
    · rw [List.mem_singleton.mp he]; exact h.fro e (by simp)
  · obtain ⟨h1, h2, h3⟩ := List.pairwise_append.mp h.inc
    refine List.pairwise_append.mpr ⟨h1, List.pairwise_singleton _ _, ?_⟩
    intro a ha b hb
    rw [List.mem_singleton.mp hb]
    exact h3 a ha e (.head _)
  · intro e' he
    rcases List.mem_append.mp he with he | he
    · exact h.ad e' (List.mem_append_left _ he)
    · rw [List.mem_singleton.mp he]; exact h.ad e (by simp)
theorem FOK.below {xs : List NI} {BA : List Addr} {st : List SE} {e : SE} {sn : List Int} (h : FOK xs BA (st ++ [e]) sn) : ∀ a ∈ st, a.k < e.k := fun a ha => ((List.pairwise_append.mp h.inc).2.2 a ha e (.head _)).1
/-- the addresses of the lower entries are not those of the top -/
theorem FOK.apart {xs : List NI} {BA : List Addr} {st : List SE} {e : SE} {sn : List Int} (h : FOK xs BA (st ++ [e]) sn) : ∀ q ∈ itL st, @LT.lt Nat _ q.1 e.it := by
  intro q hq
  obtain ⟨a, ha, hq⟩ := List.mem_flatMap.mp hq
  have h1 := ((List.pairwise_append.mp h.inc).2.2 a ha e (.head _)).2
  have h2 := (h.ad a (List.mem_append_left _ ha)).1
  simp only [SE.led, List.mem_cons, List.not_mem_nil, or_false] at hq
  rcases hq with rfl | rfl
  · exact h1
  · exact Nat.lt_trans h2 h1
theorem itL_off {xs : List NI} {BA : List Addr} {st : List SE} {sn : List Int} (h : FOK xs BA st sn) {a : Addr} (ha : a ∈ BA) : ∀ q ∈ itL st, q.1 ≠ a := by
  intro q hq
  obtain ⟨e, he, hq⟩ := List.mem_flatMap.mp hq
  have h1 := (h.ad e he).2 a ha
  have h2 := (h.ad e he).1
  simp only [SE.led, List.mem_cons, List.not_mem_nil, or_false] at hq
  rcases hq with rfl | rfl
  · exact Nat.ne_of_gt (Nat.lt_trans h1 h2)
  · exact Nat.ne_of_gt h1
theorem mu_push {xs : List NI} {sn : List Int} {st : List SE} {x : NI} {t : Tok} {it W : Addr} (hx : x ∈ xs) (hn : x.node ∉ sn) : mu xs (sn ++ [x.node]) (st ++ [⟨x.node, t, it, W, x.sl, x.ep, x.sv, 0⟩]) < mu xs sn st := by
  have := unseen_drop hx hn
  unfold mu
  simp only [List.map_append, List.map_cons, List.map_nil, List.sum_append, List.sum_cons, List.sum_nil]
  omega
theorem mu_pop {xs : List NI} {sn : List Int} {st : List SE} {e : SE} : mu xs sn st < mu xs sn (st ++ [e]) := by
  unfold mu
  simp only [List.map_append, List.map_cons, List.map_nil, List.sum_append, List.sum_cons, List.sum_nil]
  omega
theorem mu_step {xs : List NI} {sn : List Int} {st : List SE} {e : SE} (h : e.pos < e.vs.length) : mu xs sn (st ++ [{ e with pos := e.pos + 1 }]) < mu xs sn (st ++ [e]) := by
  unfold mu
  simp only [List.map_append, List.map_cons, List.map_nil, List.sum_append, List.sum_cons, List.sum_nil]
  omega
theorem valueAt_keys {kvs : List (Int × Value)} {k : Int} : (valueAt kvs k).isSome = true ↔ k ∈ kvs.map (·.1) := by
  unfold valueAt
  induction kvs with
  | nil => simp
  | cons p r ih =>
    simp only [List.find?_cons, List.map_cons, List.mem_cons]
    by_cases h : p.1 = k
    · simp [h]
    · have h' : ¬ k = p.1 := fun e => h e.symm
      simp only [h, decide_false, h', false_or]; exact ih
theorem keys_without {kvs : List (Int × Value)} {st : List SE} {e : SE} (hk : kvs.map (·.1) = (st ++ [e]).map (·.k)) (hl : ∀ a ∈ st, a.k < e.k) : (without kvs e.k).map (·.1) = st.map (·.k) := by
  have h1 : (without kvs e.k).map (·.1) = (kvs.map (·.1)).filter fun a => decide (a ≠ e.k) := by
    unfold without
    rw [List.filter_map]; rfl
  rw [h1, hk, List.map_append, List.filter_append]
  have h2 : (st.map (·.k)).filter (fun a => decide (a ≠ e.k)) = st.map (·.k) := List.filter_eq_self.mpr fun a ha => by
    obtain ⟨b, hb, rfl⟩ := List.mem_map.mp ha
    have := hl b hb
    simp only [decide_eq_true_eq]; omega
  rw [h2]; simp
end
section
set_option maxHeartbeats 8000000
theorem frag_on7 : (fun (_ : Params → Frag) => PySem.Challenge.rw_cy0005_05.Holds) hd.heap_39 → True := by
  k_fill
  intro _; trivial
open PySem.Calls PyProof.Rows.TI
theorem sameUp_map : ∀ {a b : List (Addr × Obj)}, SameUp a b → b.map (·.1) = a.map (·.1)
  | [], [], _ => rfl
  | [], _ :: _, h => h.elim
  | _ :: _, [], h => h.elim
  | p :: ps, q :: qs, h => by simp only [List.map_cons, sameUp_map h.2.2, h.1]
noncomputable abbrev LF (nd sna isa ss : Addr) (od os : Obj) (ei es : Nat) (st : List SE) (B : List (Addr × Obj)) : List (Addr × Obj) :=
  (nd, od) :: (sna, os) :: (isa, listOf (st.map fun e => Value.ref e.W).toArray ei) :: (ss, listOf (st.map SE.val).toArray es) :: (itL st ++ B)
noncomputable def mB (S Nd nd sna isa ss : Addr) : Str → Option Value := fun y => if y = Str.ofString "node2stacki" then some (Value.ref nd) else if y = Str.ofString "seen" then some (Value.ref sna) else if y = Str.ofString "itstack" then some (Value.ref isa) else if y = Str.ofString "stack" then some (Value.ref ss)
    else if y = Str.ofString "n2i" then some (Value.ref Nd) else List.lookup y [(Str.ofString "self", Value.ref S)].reverse
structure Box (P : Prop) : Prop where
  get : P
theorem News.dup {h₀ h : Heap} {L : Addr} {l e : List (Addr × Obj)} (N : News h₀ L h l) (hs : ∀ q ∈ e, q ∈ l) : News h₀ L h (e ++ l) := fun q hq => by
  rcases List.mem_append.mp hq with h | h
  · exact N q (hs q h)
  · exact N q h
theorem kl_last_app : ∀ (l : List SE) (e : SE), kl_last ((l ++ [e]).map SE.val) = some (l.map SE.val, e.val)
  | [], _ => rfl
  | x :: r, e => by
    show (match kl_last ((r ++ [e]).map SE.val) with | some (p, y) => some (x.val :: p, y) | none => some ([], x.val)) = _
    rw [kl_last_app r e]; rfl
theorem kl_last_appW : ∀ (l : List SE) (e : SE), kl_last ((l ++ [e]).map fun e => Value.ref e.W) = some (l.map (fun e => Value.ref e.W), Value.ref e.W)
  | [], _ => rfl
  | x :: r, e => by
    show (match kl_last ((r ++ [e]).map fun e => Value.ref e.W) with | some (p, y) => some (Value.ref x.W :: p, y) | none => some ([], Value.ref x.W)) = _
    rw [kl_last_appW r e]; rfl
theorem ledS_rest {σ : Srt} {w : World} {rv po nf : Value} {oN : Obj} {xs : List NI} {rest : List (Addr × Obj)} {q : Addr × Obj} (h : q ∈ rest) : q ∈ ledS σ w rv po nf oN xs rest :=
  .tail _ (.tail _ (.tail _ (List.mem_append_right _ h)))
theorem ledS_node {σ : Srt} {w : World} {rv po nf : Value} {oN : Obj} {xs : List NI} {rest : List (Addr × Obj)} {q : Addr × Obj} (h : q ∈ ledN xs) : q ∈ ledS σ w rv po nf oN xs rest :=
  .tail _ (.tail _ (.tail _ (List.mem_append_left _ h)))
theorem ledS_up {σ : Srt} {w : World} {rv po nf : Value} {oN : Obj} {xs : List NI} {rest fr fr' : List (Addr × Obj)} (hf : fr'.map (·.1) = fr.map (·.1)) {q : Addr × Obj} (hq : q ∈ ledS σ w rv po nf oN xs (rest ++ fr')) :
    ∃ q' ∈ ledS σ w rv po nf oN xs (rest ++ fr), q'.1 = q.1 := by
  have h : q.1 ∈ (ledS σ w rv po nf oN xs (rest ++ fr')).map (·.1) := List.mem_map_of_mem hq
  rw [map_ledS, List.map_append, hf, ← List.map_append, ← map_ledS (w := w) (rv := rv) (po := po) (nf := nf) (oN := oN)] at h
  exact List.mem_map.mp h
/-- a state of the search -/
inductive FS (w : World) (xs : List NI) (h₀ : Heap) (L' S Nd nd sna isa ss : Addr) (fr0 : List (Addr × Obj)) (BF : List (Addr × Obj) → List (Addr × Obj)) (h : Heap) (v : Value) (st : List SE) (sn : List Int) : Prop
  | mk (od os : Obj) (ei es : Nat) (fr : List (Addr × Obj)) (kvs : List (Int × Value)) (hf : SameUp fr0 fr) (hF : Fr h₀ L' h (fun y => if y = Str.ofString "node" then some v else mB S Nd nd sna isa ss y)) (hN : News h₀ L' h (LF nd sna isa ss od os ei es st (BF fr)))
    (hd : od.IsDictOf (intKind Pr w) kvs) (hk : kvs.map (·.1) = st.map (·.k)) (hs : os.SetObjOf (intKind Pr w) (fun k => decide (k ∈ sn)) sn.length) (ho : FOK xs ([nd, sna, isa, ss] ++ (BF fr0).map (·.1)) st sn)
/-- between two turns of the search's outer loop -/
inductive DI (w : World) (xs : List NI) (nd sna isa ss : Addr) (fr0 : List (Addr × Obj)) (LS : List (Addr × Obj) → List (Addr × Obj)) (nx : List (Addr × Obj)) : Prop
  | mk (sn : List Int) (od os : Obj) (ei es : Nat) (fr : List (Addr × Obj)) (he : nx = (nd, od) :: (sna, os) :: (isa, listOf #[] ei) :: (ss, listOf #[] es) :: LS fr) (hf : SameUp fr0 fr)
    (hd : od.IsDictOf (intKind Pr w) []) (hs : os.SetObjOf (intKind Pr w) (fun k => decide (k ∈ sn)) sn.length) (ho : FOK xs [] [] sn)
/-- ahead of a turn of «while True» -/
inductive WI (s : Shared) (xs : List NI) (FSv : Heap → Value → List SE → List Int → Prop) (n : Nat) (s1 : Shared) : Prop
  | mk (h : Heap) (tk : Tok) (k : Int) (t : Tok) (st : List SE) (sn : List Int) (he : s1 = { s with heap := h, toks := tk }) (hf : FSv h (.int k t) st sn) (hl : ∀ e ∈ st, e.k < k) (hm : k ∈ xs.map (·.node)) (hn : mu xs sn st = n)
/-- ahead of a turn of «while stack» -/
inductive WS (s : Shared) (xs : List NI) (FSv : Heap → Value → List SE → List Int → Prop) (n4 n : Nat) (s1 : Shared) : Prop
  | mk (h : Heap) (tk : Tok) (v : Value) (st : List SE) (sn : List Int) (he : s1 = { s with heap := h, toks := tk }) (hf : FSv h v st sn) (hn : mu xs sn st = n) (hl : n ≤ n4)
theorem wpAny_to {α : Type} {M : Model} {A : Around} {t : Sem α} {Q : α → Shared → Prop} {E : Value → Shared → Prop} {s S : Shared} {v : α} (h1 : wpAny M A t (fun b s₂ => b = v ∧ s₂ = S) (fun _ _ => False) s) (h2 : Q v S) : wpAny M A t Q E s :=
  wpAny_mono h1 (fun _ _ h => h.1 ▸ h.2 ▸ h2) fun _ _ x => x.elim
theorem wpAny_toT {α : Type} {M : Model} {A : Around} {t : Sem α} {Q : α → Shared → Prop} {E : Value → Shared → Prop} {s : Shared} {v : α} {h : Heap} (h1 : ∀ PQ : α → Shared → Prop, (∀ tk, PQ v { s with heap := h, toks := tk }) → wpAny M A t PQ (fun _ _ => False) s) (h2 : ∀ tk, Q v { s with heap := h, toks := tk }) : wpAny M A t Q E s :=
  wpAny_mono (h1 Q h2) (fun _ _ x => x) fun _ _ x => x.elim
section
variable {w : World} {A₀ A : Around} {base h₀ : Heap} {outer : List Env} {env : Env} {L : Addr} {m mg mb : Str → Option Value} {p : Program} {loose : List Str} {mean : ExcName → Option Value} {s : Shared}
  {R : Result → Shared → Prop} {news : List (Addr × Obj)}
/-- a def's frame is entered; the caller's frame goes onto the ledger -/
theorem enter_def {name qual : Str} {params : Arguments} {body : List Stmt} {scope : Scope} {dV kV doc pm cdv ct oc : Value} {an od : Option Addr} {osl : Array (Option Value)} {f : Addr} {args : Args} {binds : List (Str × Value)}
    (F : Fr h₀ L s.heap m) (X₀ : (hd.heap_39 w.params).In h₀) (N : News h₀ L s.heap news) (T : Top p loose mean mg mb h₀)
    (ho : (hd.heap_39 w.params).lookup f = some ⟨oc, od, .func (fnOf name qual params body scope dV kV doc pm an cdv ct), osl⟩) (hcd : codeIn (hd.heap_39 w.params) cdv qual = true) (hroom : A.depth < recursionLimit)
    (hbind : BindsTo s (fnOf name qual params body scope dV kV doc pm an cdv ct) args binds) (hloc : ∀ y ∈ binds, scope.names.lookup y.1 = some .local)
    (h : ∀ L' h₁ oL, (∃ es ep, oL.data = .dict es ep) → (∀ (h2 : Heap) (sl : Array (Option Value)), h2.get? L = some { oL with slots := sl } → (∀ b o, h₀.get? b = some o → h2.get? b = some o) → Fr h₀ L h2 m) →
      (∀ q ∈ (L, oL) :: news, q.1 < L') → Fr h₀ L' h₁ (fun y => binds.reverse.lookup y) → News h₀ L' h₁ ((L, oL) :: news) →
      wpAny (model Pr w) (A.deeper (envOf qual scope L' f cdv)) (execs body (envOf qual scope L' f cdv)) (fun fl s' => R (.ok (.ret (match fl with | .ret v => v | _ => .none))) s') (fun _ _ => False)
        { s with heap := h₁, toks := s.toks + binds.length })
    (hco : scope.isCoroutine = false) (hgen : scope.isGenerator = false) (hk : scope.kind = .function)
    (hcell : ∀ x ∈ scope.names, x.2 ≠ .cell) : codeAny (model Pr w) A (.call (.ref f) args) R s := by
  have X := X₀.keeps F.keep
  refine codeAny_call_def (fd := fnOf name qual params body scope dV kV doc pm an cdv ct) (body := body) (binds := binds) hroom (X _ _ ho) rfl (T.nolimit.keeps F.keep) (codeRec_of X hcd) rfl hbind hcell hloc (fun h₁ hns hk₁ => ?_) hco hgen hk
  obtain ⟨oL, es, ep, hL, hLd, hLk, hLf⟩ := F.ns
  have hL0 : h₀.get? L = none := by
    cases q : h₀.get? L with
    | none => rfl
    | some o => exact absurd (Heap.lt_size q) (Nat.not_lt.mpr F.above)
  have hlt := Heap.lt_size hL
  refine wpAny_mono (h s.heap.objs.size h₁ oL ⟨es, ep, hLd⟩ (fun h2 sl e k => ⟨⟨_, es, ep, e, hLd, hLk, hLf⟩, k, F.above⟩) ?_ ⟨hns, fun b o e => hk₁ b o (F.keep b o e), Nat.le_trans F.above (Nat.le_of_lt hlt)⟩ ?_) (fun _ _ x => x) fun _ _ x => x.elim
  · intro q hq
    rcases List.mem_cons.mp hq with rfl | hq
    · exact hlt
    · exact Heap.lt_size (N q hq).1
  · intro q hq
    rcases List.mem_cons.mp hq with rfl | hq
    · exact ⟨hk₁ _ _ hL, Nat.ne_of_lt hlt, hL0⟩
    · exact ⟨hk₁ _ _ (N q hq).1, Nat.ne_of_lt (Heap.lt_size (N q hq).1), (N q hq).2.2⟩
theorem c_find_cycle {σ : Srt} {rv po nf : Value} {oN : Obj} {xs : List NI} {rest frs : List (Addr × Obj)} {n : Nat}
    (hh : A.handled = none) (hfr : A.frames = some (env :: outer)) (hdp : A.depth < 800) (hf : env.frame = some L) (hke : env.scope.kind = .function) (Fs : Frs outer frs) (hra : ∀ q ∈ rest, ∀ r ∈ frs, q.1 ≠ r.1)
    (X₀ : (hd.heap_39 w.params).In h₀) (T : Top p loose mean mg mb h₀) (F : Fr h₀ L s.heap m)
    (hs : SOK σ xs (rest ++ frs) n) (hn : n ≤ 1000) (hcl : Closed xs) (hup : ∀ x ∈ xs, ∀ v ∈ x.sv, x.node < intOf v) (hdN : oN.IsDictOf (intKind Pr w) (kvsN xs))
    (N : News h₀ L s.heap (ledS σ w rv po nf oN xs (rest ++ frs)))
    (hq : ∀ h' tk' frs', SameUp frs frs' → Fr h₀ L h' m → News h₀ L h' (ledS σ w rv po nf oN xs (rest ++ frs')) → R (.ok (.ret .none)) { s with heap := h', toks := tk' }) :
    codeAny (model Pr w) A (.call (.ref 127) ⟨[.ref σ.S], []⟩) R s := by
  obtain ⟨_, d, _, gs, u⟩ := A
  dsimp only at hh hfr hdp
  subst hh hfr
  refine' enter_def (binds := [(Str.ofString "self", .ref σ.S)]) F X₀ N T ?k6 ?k7 ?k8 ?k9 ?kB ?_ ?c2 ?c3 ?c4 ?c5
  case k6 => k_is
  case k7 => k_is
  case k8 => k_room
  case k9 => exact BindsTo.of_eq rfl
  case c5 => decide
  case kB => exact locs rfl
  case c2 => exact rfl
  case c3 => exact rfl
  case c4 => exact rfl
  intro L' h' oL hoL hback hlt F' N'
  replace N' : News h₀ L' h' (ledS σ w rv po nf oN xs (rest ++ ((L, oL) :: frs))) := News.sub N' (by walk_at "sub")
  (try dsimp only)
  (try k_fold)
  walk_at "go"
  rename_i hA ss hB lA hC tkA isA hD lB hE sna hF led hsn hz lC hG nda hH od0 lod hod1 fs hod2 fi lD hI F2 N2
  have C4 : (@Ne Nat nda sna ∧ @Ne Nat nda isA ∧ @Ne Nat nda ss) ∧ (@Ne Nat sna isA ∧ @Ne Nat sna ss) ∧ @Ne Nat isA ss := by
    have a1 : @LT.lt Nat _ ss isA := lB.1
    have a2 : @LT.lt Nat _ isA sna := lC.1
    have a3 : @LT.lt Nat _ sna nda := lD.1
    omega
  have Cb : ∀ q ∈ ledS σ w rv po nf oN xs (rest ++ (L, oL) :: frs), @LT.lt Nat _ q.1 ss ∧ @LT.lt Nat _ q.1 isA ∧ @LT.lt Nat _ q.1 sna ∧ @LT.lt Nat _ q.1 nda := fun q hq => by
    have a1 : @LT.lt Nat _ ss isA := lB.1
    have a2 : @LT.lt Nat _ isA sna := lC.1
    have a3 : @LT.lt Nat _ sna nda := lD.1
    have a4 : @LT.lt Nat _ q.1 ss := allLt_mem (l := ledS σ w rv po nf oN xs (rest ++ (L, oL) :: frs)) lA q hq
    omega
  have hapC : ∀ q ∈ ledS σ w rv po nf oN xs rest, ∀ r ∈ (L, oL) :: frs, @Ne Nat q.1 r.1 := by
    intro q hq r hr
    have hq2 : q ∈ ledS σ w rv po nf oN xs (rest ++ frs) := (by walk_at "sub" : ∀ q ∈ ledS σ w rv po nf oN xs rest, q ∈ ledS σ w rv po nf oN xs (rest ++ frs)) q hq
    rcases List.mem_cons.mp hr with rfl | hr
    · exact (N q hq2).2.1
    · have hm : q.1 ∈ (ledS σ w rv po nf oN xs rest).map (·.1) := List.mem_map_of_mem hq
      rw [map_ledS] at hm
      rcases List.mem_append.mp hm with h | h
      · exact fun e => hs.off q.1 h r (List.mem_append_right _ hr) e.symm
      · obtain ⟨q', h1, h2⟩ := List.mem_map.mp h
        rw [← h2]; exact hra q' h1 r hr
  clear lA lB lC lD hz hod1 fs fi
  generalize hmB : (fun y : Str => if y = Str.ofString "node2stacki" then some (Value.ref nda) else if y = Str.ofString "seen" then some (Value.ref sna) else if y = Str.ofString "itstack" then some (Value.ref isA) else if y = Str.ofString "stack" then some (Value.ref ss)
    else if y = Str.ofString "n2i" then some (Value.ref σ.Nd) else List.lookup y [(Str.ofString "self", Value.ref σ.S)].reverse) = mB at F2
  refine For_invVF F2 rfl rfl ?_
  subst hmB
  walk_at "go"
  refine iter_dictX (o := oN) (kvs := kvsN xs) [] (fun i nx => DI w xs nda sna isA ss ((L, oL) :: frs) (fun fr => ledS σ w rv po nf oN xs (rest ++ fr)) nx) rfl hs.lo hdN F2 N2 ?_ ⟨[], _, _, _, _, _, rfl, SameUp.refl _, hod2, ?_, ?_⟩ ?_ ?_
  · rintro i nx ⟨sn, od, os, ei, es, fr, rfl, _⟩
    simp [ledS]
  · simpa using hsn
  · exact ⟨fun _ h => (nomatch h), .nil, fun _ h => (nomatch h), List.nodup_nil, fun _ h => (nomatch h)⟩
  · intro i k t u' nx h3 tk3 it hk hI hoff F4 N4
    refine hide fun G hG => ?_
    obtain ⟨sn, od, os, ei, es, fr, rfl, hfr, hod, hos, hok⟩ := hI
    refine hG ?_
    clear hG G
    have hkm : k ∈ xs.map (·.node) := by
      have := List.mem_of_getElem? hk
      simpa [kvsN] using this
    have hlen := hok.snlen
    have hxl := hs.len
    obtain ⟨BF, hBF⟩ : ∃ BF : List (Addr × Obj) → List (Addr × Obj), BF = fun fr => it :: ledS σ w rv po nf oN xs (rest ++ fr) := ⟨_, rfl⟩
    have hBFe : ∀ fr, BF fr = it :: ledS σ w rv po nf oN xs (rest ++ fr) := fun fr => by rw [hBF]
    have N5 : News h₀ L' h3 ((nda, od) :: (sna, os) :: (isA, listOf #[] ei) :: (ss, listOf #[] es) :: BF fr) := by rw [hBFe]; exact News.sub N4 (by walk_at "sub")
    have hBA : ∀ fr', SameUp ((L, oL) :: frs) fr' → ∀ q ∈ BF fr', @Ne Nat q.1 nda ∧ @Ne Nat q.1 sna ∧ @Ne Nat q.1 isA ∧ @Ne Nat q.1 ss := by
      intro fr' hf' q hq
      rw [hBF] at hq
      rcases List.mem_cons.mp hq with rfl | hq
      · refine ⟨fun e => hoff (nda, od) (by simp) _ (.head _) e.symm, fun e => hoff (sna, os) (by simp) _ (.head _) e.symm, fun e => hoff (isA, listOf #[] ei) (by simp) _ (.head _) e.symm, fun e => hoff (ss, listOf #[] es) (by simp) _ (.head _) e.symm⟩
      · obtain ⟨q', hq', e⟩ := ledS_up (sameUp_map hf') hq
        have := Cb q' hq'
        rw [e] at this
        omega
    have hitF : ∀ r ∈ (L, oL) :: frs, @Ne Nat it.1 r.1 := by
      intro r hr e
      have hm : r.1 ∈ fr.map (·.1) := by rw [sameUp_map hfr]; exact List.mem_map_of_mem hr
      obtain ⟨q, hq, e2⟩ := List.mem_map.mp hm
      exact hoff q (.tail _ (.tail _ (.tail _ (.tail _ (ledS_rest (List.mem_append_right _ hq)))))) it (.head _) (e2.trans e.symm)
    have c1 : ∀ q ∈ BF fr, q.1 ≠ nda := fun q hq => (hBA fr hfr q hq).1
    have c2 : ∀ q ∈ BF fr, q.1 ≠ sna := fun q hq => (hBA fr hfr q hq).2.1
    obtain ⟨C1, C2, C3⟩ := C4
    have F5 : Fr h₀ L' h3 (fun y => if y = Str.ofString "node" then some (.int k t) else mB σ.S σ.Nd nda sna isA ss y) := F4
    clear F4 N4
    obtain ⟨d11, d12, d13⟩ := C1
    obtain ⟨d21, d22⟩ := C2
    obtain ⟨FSv, fI, fE⟩ : ∃ FSv : Heap → Value → List SE → List Int → Prop, (∀ {h v st sn}, FS w xs h₀ L' σ.S σ.Nd nda sna isA ss ((L, oL) :: frs) BF h v st sn → FSv h v st sn) ∧ (∀ {h v st sn}, FSv h v st sn → FS w xs h₀ L' σ.S σ.Nd nda sna isA ss ((L, oL) :: frs) BF h v st sn) := ⟨_, fun x => x, fun x => x⟩
    have start : FSv h3 (.int k t) [] sn := fI ⟨od, os, ei, es, fr, [], hfr, F5, N5, hod, rfl, hos, ⟨fun _ h => (nomatch h), .nil, fun _ h => (nomatch h), hok.snd, hok.ssub⟩⟩
    refine wpAny_boxed (fun f s' => (f = .next ∨ f = .cont) ∧ ∃ h4 tk4 v4 sn4, s' = ({ s with heap := h4, toks := tk4 } : Shared) ∧ FSv h4 v4 [] sn4) ?_ fun PQ hPQ => ?_
    · rintro f s' ⟨hf, h4, tk4, v4, sn4, rfl, hFS⟩
      refine hide fun G hG => ?_
      obtain ⟨od', os', ei', es', fr', kvs', hf', F', N', hd', hkv', hos', hok'⟩ := fE hFS
      refine hG ?_
      clear hG G
      have hkv : kvs' = [] := List.map_eq_nil_iff.mp hkv'
      subst hkv
      obtain ⟨m', news', r⟩ : ∃ (m' : Str → Option Value) (news' : List (Addr × Obj)), Fr h₀ L' h4 m' ∧ News h₀ L' h4 (news' ++ [it]) ∧ (∀ p ∈ news', ∀ q ∈ [it], p.1 ≠ q.1) ∧
          Agree (Str.ofString "node") [] (mB σ.S σ.Nd nda sna isA ss) m' ∧ DI w xs nda sna isA ss ((L, oL) :: frs) (fun fr => ledS σ w rv po nf oN xs (rest ++ fr)) news' := by
        refine ⟨_, (nda, od') :: (sna, os') :: (isA, listOf #[] ei') :: (ss, listOf #[] es') :: ledS σ w rv po nf oN xs (rest ++ fr'), F', ?_, ?_, ?_, ⟨sn4, od', os', ei', es', fr', rfl, hf', hd', hos', ⟨fun _ h => (nomatch h), .nil, fun _ h => (nomatch h), hok'.snd, hok'.ssub⟩⟩⟩
        · have N'' : News h₀ L' h4 ((nda, od') :: (sna, os') :: (isA, listOf #[] ei') :: (ss, listOf #[] es') :: BF fr') := N'
          rw [hBFe] at N''
          exact News.sub N'' (by walk_at "sub")
        · intro q hq r hr
          obtain ⟨q', h1, h2⟩ : ∃ q' ∈ (nda, od) :: (sna, os) :: (isA, listOf #[] ei) :: (ss, listOf #[] es) :: ledS σ w rv po nf oN xs (rest ++ fr), q'.1 = q.1 := by
            rcases List.mem_cons.mp hq with rfl | hq
            · exact ⟨_, .head _, rfl⟩
            rcases List.mem_cons.mp hq with rfl | hq
            · exact ⟨_, .tail _ (.head _), rfl⟩
            rcases List.mem_cons.mp hq with rfl | hq
            · exact ⟨_, .tail _ (.tail _ (.head _)), rfl⟩
            rcases List.mem_cons.mp hq with rfl | hq
            · exact ⟨_, .tail _ (.tail _ (.tail _ (.head _))), rfl⟩
            obtain ⟨q', h1, h2⟩ := ledS_up ((sameUp_map hf').trans (sameUp_map hfr).symm) hq
            exact ⟨q', .tail _ (.tail _ (.tail _ (.tail _ h1))), h2⟩
          rw [← h2]
          exact hoff q' h1 r hr
        · intro y h1 h2
          simp only [if_neg h1]
      rcases hf with rfl | rfl
      · exact ⟨h4, _, m', news', rfl, r⟩
      · exact ⟨h4, _, m', news', rfl, r⟩
    have k0 : ∀ {f h4 tk4 v4 sn4}, (f = .next ∨ f = .cont) → FSv h4 v4 [] sn4 → PQ f { s with heap := h4, toks := tk4 } := fun a b => hPQ _ _ ⟨a, _, _, _, _, rfl, b⟩
    clear hPQ hq
    walk_at "go"
    · exact k0 (.inr rfl) start
    clear N5 F5 c1 c2 hoff hos hod
    refine wpAny_While (codeAny_whileLoop (WI s xs FSv) ?_ (mu xs sn [])
      ⟨h3, _, k, t, [], sn, rfl, start, fun _ h => (nomatch h), hkm, rfl⟩)
    intro n4 s4 hI
    refine hide fun G hG => ?_
    obtain ⟨h4, tk4, k4, t4, st4, sn4, rfl, hFS4, hlt4, hkm4, hmu4⟩ := hI
    refine hG ?_
    clear hG G
    refine hide fun G hG => ?_
    obtain ⟨od4, os4, ei4, es4, fr4, kvs4, hf4, F6, N6, hod4, hkv4, hos4, hok4⟩ := fE hFS4
    refine hG ?_
    clear hG G
    refine wpAny_to (v := true) (S := { s with heap := h4, toks := tk4 }) ?_ ?_
    · walk_at "go"
    rw [if_pos rfl]
    refine wpAny_boxed (fun f s' => (f = .next ∧ ∃ m, m < n4 ∧ WI s xs FSv m s') ∨
      (f = .brk ∧ ∃ h4 tk4 v4 sn4, s' = ({ s with heap := h4, toks := tk4 } : Shared) ∧ FSv h4 v4 [] sn4)) ?_ fun PQ2 hPQ2 => ?_
    · rintro f s' (⟨rfl, h⟩ | ⟨rfl, h4, tk4, v4, sn4, rfl, h⟩)
      · exact h
      · dsimp only
        walk_at "go"
        exact k0 (.inl rfl) h
    have kB : ∀ {h4 tk4 v4 sn4}, FSv h4 v4 [] sn4 → PQ2 .brk { s with heap := h4, toks := tk4 } := fun a => hPQ2 _ _ (.inr ⟨rfl, _, _, _, _, rfl, a⟩)
    have kN : ∀ {h4 tk4 k t st sn}, FSv h4 (.int k t) st sn → (∀ e ∈ st, e.k < k) → k ∈ xs.map (·.node) → mu xs sn st < n4 → PQ2 .next { s with heap := h4, toks := tk4 } := fun a b c d => hPQ2 _ _ (.inl ⟨rfl, _, d, ⟨_, _, _, _, _, _, rfl, a, b, c, rfl⟩⟩)
    clear hPQ2 k0
    have eBA : ∀ fr', SameUp ((L, oL) :: frs) fr' → (BF fr').map (·.1) = (BF ((L, oL) :: frs)).map (·.1) := fun fr' hf => by
      rw [hBFe, hBFe]
      refine congrArg (it.1 :: ·) ((map_ledS (rest := rest ++ fr')).trans (.trans ?_ (map_ledS (rest := rest ++ (L, oL) :: frs)).symm))
      rw [List.map_append, List.map_append, sameUp_map hf]
    have tlOff : ∀ fr' st' sn', SameUp ((L, oL) :: frs) fr' → FOK xs ([nda, sna, isA, ss] ++ (BF ((L, oL) :: frs)).map (·.1)) st' sn' → ∀ q ∈ itL st' ++ BF fr', @Ne Nat q.1 nda ∧ @Ne Nat q.1 sna ∧ @Ne Nat q.1 isA ∧ @Ne Nat q.1 ss := by
      intro fr' st' sn' hf hk q hq
      rcases List.mem_append.mp hq with h | h
      · exact ⟨itL_off hk (by simp) q h, itL_off hk (by simp) q h, itL_off hk (by simp) q h, itL_off hk (by simp) q h⟩
      · exact hBA fr' hf q h
    have e4 := tlOff fr4 st4 sn4 hf4 hok4
    have hl4 : sn4.length ≤ 1000 := by have := hok4.snlen; omega
    have hst4 : st4.length ≤ 1000 := by have := hok4.stlen; omega
    refine hide fun G hG => ?_
    obtain ⟨x, hx, hxk⟩ := List.mem_map.mp hkm4
    subst hxk
    refine hG ?_
    clear hG G
    have hval := value_of_mem hs.keys hx rfl
    have hndk : (valueAt kvs4 x.node).isSome = false := by
      rcases e : (valueAt kvs4 x.node).isSome with _ | _
      · rfl
      · exfalso
        have := valueAt_keys.mp e
        rw [hkv4] at this
        obtain ⟨a, ha, e⟩ := List.mem_map.mp this
        have := hlt4 a ha
        omega
    have hNd : (σ.Nd, oN) ∈ BF fr4 := by rw [hBFe]; exact .tail _ (.tail _ (.tail _ (.head _)))
    have hxl4 : ∀ q ∈ x.led, q ∈ BF fr4 := by
      intro q hq
      rw [hBFe]
      exact .tail _ (ledS_node (List.mem_flatMap.mpr ⟨x, hx, hq⟩))
    obtain ⟨tl, htl⟩ : ∃ tl, itL st4 ++ BF fr4 = tl := ⟨_, rfl⟩
    have hNd' : (σ.Nd, oN) ∈ tl := htl ▸ List.mem_append_right _ hNd
    have hxl' : ∀ q ∈ x.led, q ∈ tl := fun q hq => htl ▸ List.mem_append_right _ (hxl4 q hq)
    rw [htl] at e4
    have f1 : ∀ q ∈ tl, q.1 ≠ nda := fun q hq => (e4 q hq).1
    have f2 : ∀ q ∈ tl, q.1 ≠ sna := fun q hq => (e4 q hq).2.1
    have f3 : ∀ q ∈ tl, q.1 ≠ isA := fun q hq => (e4 q hq).2.2.1
    have f4 : ∀ q ∈ tl, q.1 ≠ ss := fun q hq => (e4 q hq).2.2.2
    replace N6 : News h₀ L' h4 ((nda, od4) :: (sna, os4) :: (isA, listOf (st4.map fun e => Value.ref e.W).toArray ei4) :: (ss, listOf (st4.map SE.val).toArray es4) :: tl) := by rw [← htl]; exact N6
    obtain ⟨wsA, hwsA⟩ : ∃ wsA, (st4.map fun e => Value.ref e.W).toArray = wsA := ⟨_, rfl⟩
    obtain ⟨ksA, hksA⟩ : ∃ ksA, (st4.map SE.val).toArray = ksA := ⟨_, rfl⟩
    rw [hwsA, hksA] at N6
    walk1
    refine wpAny_boxed (fun f s' => f = .next ∧ ∃ h5 tk5 v st5 sn5, s' = ({ s with heap := h5, toks := tk5 } : Shared) ∧ FSv h5 v st5 sn5 ∧ mu xs sn5 st5 ≤ n4) ?_ ?_
    rotate_left
    · intro PQ3 hPQ3
      have k3 : ∀ {h5 tk5 v st5 sn5}, FSv h5 v st5 sn5 → mu xs sn5 st5 ≤ n4 → PQ3 .next { s with heap := h5, toks := tk5 } := fun a b => hPQ3 _ _ ⟨rfl, _, _, _, _, _, rfl, a, b⟩
      clear hPQ3 kB kN
      clear start hup Cb hlt hback N e4 tlOff hcl Fs hra hk
      walk_at "go"
      · refine kda_in (knd := intKind _ _) (by assumption) (by k_mem) hod4 lod (intKind_is _ _ _ _) false hndk ?_
        walk_at "go"
        exact k3 hFS4 (Nat.le_of_eq hmu4)
      · refine kda_item (knd := intKind _ _) (by assumption) (.tail _ (.tail _ (.tail _ (.tail _ hNd')))) hdN (intKind_is _ _ _ _) hval ?_
        rename News h₀ L' _ _ => N7
        have N8 := News.dup (e := x.led) N7 (fun q hq => .tail _ (.tail _ (.tail _ (.tail _ (hxl' q hq)))))
        simp only [NI.led, List.cons_append, List.nil_append] at N8
        clear N6
        have N9 := N7
        clear N7
        have N7 := N8
        clear N8
        walk_at "go"
        rename Fr h₀ L' _ _ => F7
        rename ¬ x.node ∈ sn4 => hns
        rename_i h6 os6 hos6
        refine nx_iter (items := x.sv.toArray) ⟨_, (N7 (x.sl, x.l) (by simp)).1, rfl, _, rfl⟩ ?_
        refine nx_attr (l := x.sl) (i := 0) (Heap.get?_push_size _ rfl) ?_
        clear N7
        have F8 := F7.push (iterObj x.sl 0)
        have F9 := F8.push (wrapObj h6.objs.size)
        have M2 := (N9.push F7 (iterObj x.sl 0)).push F8 (wrapObj h6.objs.size)
        have l1 : ∀ q ∈ (nda, od4) :: (sna, os6) :: (isA, listOf wsA ei4) :: (ss, listOf ksA es4) :: tl, @LT.lt Nat _ q.1 h6.objs.size := fun q hq => Heap.lt_size (N9 q hq).1
        have hWs : (h6.push (iterObj x.sl 0)).objs.size = h6.objs.size + 1 := Heap.size_push ..
        dsimp only
        rw [hWs] at M2 ⊢
        generalize hh7 : (h6.push (iterObj x.sl 0)).push (wrapObj h6.objs.size) = h7 at F9 M2 ⊢
        generalize h6.objs.size = itA at M2 l1 ⊢
        obtain ⟨tl2, htl2⟩ : ∃ tl2, (itA + 1, wrapObj itA) :: (itA, iterObj x.sl 0) :: tl = tl2 := ⟨_, rfl⟩
        have m1 : @LT.lt Nat _ nda itA := l1 (nda, od4) (by simp)
        have m2 : @LT.lt Nat _ sna itA := l1 (sna, os6) (by simp)
        have m3 : @LT.lt Nat _ isA itA := l1 (isA, listOf wsA ei4) (by simp)
        have m4 : @LT.lt Nat _ ss itA := l1 (ss, listOf ksA es4) (by simp)
        have g1 : ∀ q ∈ tl2, q.1 ≠ nda := fun q hq => by
          rw [← htl2] at hq
          rcases List.mem_cons.mp hq with rfl | hq
          · k_ne
          rcases List.mem_cons.mp hq with rfl | hq
          · k_ne
          · exact f1 q hq
        have g2 : ∀ q ∈ tl2, q.1 ≠ sna := fun q hq => by
          rw [← htl2] at hq
          rcases List.mem_cons.mp hq with rfl | hq
          · k_ne
          rcases List.mem_cons.mp hq with rfl | hq
          · k_ne
          · exact f2 q hq
        have g3 : ∀ q ∈ tl2, q.1 ≠ isA := fun q hq => by
          rw [← htl2] at hq
          rcases List.mem_cons.mp hq with rfl | hq
          · k_ne
          rcases List.mem_cons.mp hq with rfl | hq
          · k_ne
          · exact f3 q hq
        have g4 : ∀ q ∈ tl2, q.1 ≠ ss := fun q hq => by
          rw [← htl2] at hq
          rcases List.mem_cons.mp hq with rfl | hq
          · k_ne
          rcases List.mem_cons.mp hq with rfl | hq
          · k_ne
          · exact f4 q hq
        have N10 : News h₀ L' h7 ((nda, od4) :: (sna, os6) :: (isA, listOf wsA ei4) :: (ss, listOf ksA es4) :: tl2) := News.sub M2 (by rw [← htl2]; walk_at "sub")
        have hks : ksA.size ≤ 1000 := by rw [← hksA]; simpa using hst4
        have hws : wsA.size ≤ 1000 := by rw [← hwsA]; simpa using hst4
        have hkvl : kvs4.length ≤ 1000 := by
          have : (kvs4.map (·.1)).length = (st4.map (·.k)).length := by rw [hkv4]
          simp only [List.length_map] at this
          omega
        clear M2 F7 F8 N9 f1 f2 f3 f4
        walk_at "go"
        refine' kda_set (knd := intKind _ _) ?F ?N ?U hod4 (intKind_is _ _ _ _) ?z ?_
        case F => k_asm
        case N => k_asm
        case U => k_updF
        case z => rw [sizeLine_eq]; omega
        intro h8 od8 F10 N11 hod8
        walk_at "go"
        rename News h₀ L' _ _ => N12
        rename Fr h₀ L' _ _ => F12
        refine k3 (st5 := st4 ++ [⟨x.node, t4, itA, itA + 1, x.sl, x.ep, x.sv, 0⟩]) (sn5 := sn4 ++ [x.node]) (fI ⟨od8, os6, ei4 + 1, es4 + 1, fr4, _, hf4, F12, ?_, hod8, ?_, ?_, ?_⟩) ?_
        · rw [← htl2, ← htl, ← hwsA, ← hksA] at N12
          simp only [LF, List.map_append, List.map_cons, List.map_nil, itL_app, itL_one, List.push_toArray, SE.val] at N12 ⊢
          exact News.sub N12 (by walk_at "sub")
        · have hnone : valueAt kvs4 x.node = none := by
            cases e : valueAt kvs4 x.node with
            | none => rfl
            | some v => rw [e] at hndk; cases hndk
          rw [stored_absent hnone]
          simp only [List.map_append, List.map_cons, List.map_nil, hkv4]
        · have e1 : (fun k => decide (k ∈ sn4 ++ [x.node])) = fun k' => decide (k' ∈ sn4) || decide (k' = x.node) := by
            funext k'; simp
          rw [if_neg (by simpa using hns)] at hos6
          rw [e1, List.length_append]; exact hos6
        · refine hok4.push hx hns hlt4 t4 (Nat.lt_succ_self _) ?_ ?_
          · intro a ha
            have ha' : a ∈ ([nda, sna, isA, ss] ++ (BF fr4).map (·.1)) := by
              rw [eBA fr4 hf4]; exact ha
            simp only [List.mem_append, List.mem_cons, List.not_mem_nil, or_false] at ha'
            rcases ha' with (rfl | rfl | rfl | rfl) | ha'
            · exact m1
            · exact m2
            · exact m3
            · exact m4
            · obtain ⟨q, hq1, rfl⟩ := List.mem_map.mp ha'
              exact l1 q (.tail _ (.tail _ (.tail _ (.tail _ (htl ▸ List.mem_append_right _ hq1)))))
          · intro e he
            exact l1 (e.W, wrapObj e.it) (.tail _ (.tail _ (.tail _ (.tail _ (htl ▸ List.mem_append_left _ (List.mem_flatMap.mpr ⟨e, he, by simp [SE.led]⟩))))))
        · rw [← hmu4]; exact Nat.le_of_lt (mu_push hx hns)
    · intro f s' hI
      refine hide fun G hG => ?_
      obtain ⟨rfl, h5, tk5, v5, st5, sn5, rfl, hFS5, hmu5⟩ := hI
      refine hG ?_
      clear hG G
      dsimp only
      clear N6 F6 hod4 hkv4 hos4 hok4 e4 f1 f2 f3 f4 hxl' hxl4 hNd hNd' htl hwsA hksA hval hx hndk hst4 hl4
      walk1
      refine wpAny_While (codeAny_whileLoop (WS s xs FSv n4) ?_ (mu xs sn5 st5) ⟨h5, tk5, v5, st5, sn5, rfl, hFS5, rfl, hmu5⟩)
      intro m6 s6 hI
      refine hide fun G hG => ?_
      obtain ⟨h6, tk6, v6, st6, sn6, rfl, hFS6, hmu6, hle6⟩ := hI
      refine hG ?_
      clear hG G
      have hFS6' := hFS6
      refine hide fun G hG => ?_
      obtain ⟨od6, os6, ei6, es6, fr6, kvs6, hf6, F6, N6, hod6, hkv6, hos6, hok6⟩ := fE hFS6
      refine hG ?_
      clear hG G
      have e6 := tlOff fr6 st6 sn6 hf6 hok6
      obtain ⟨tl, htl⟩ : ∃ tl, itL st6 ++ BF fr6 = tl := ⟨_, rfl⟩
      rw [htl] at e6
      have f1 : ∀ q ∈ tl, q.1 ≠ nda := fun q hq => (e6 q hq).1
      have f3 : ∀ q ∈ tl, q.1 ≠ isA := fun q hq => (e6 q hq).2.2.1
      have f4 : ∀ q ∈ tl, q.1 ≠ ss := fun q hq => (e6 q hq).2.2.2
      replace N6 : News h₀ L' h6 ((nda, od6) :: (sna, os6) :: (isA, listOf (st6.map fun e => Value.ref e.W).toArray ei6) :: (ss, listOf (st6.map SE.val).toArray es6) :: tl) := by rw [← htl]; exact N6
      rcases List.eq_nil_or_concat st6 with rfl | ⟨st7, e7, rfl⟩
      · refine wpAny_toT (v := false) (h := h6) (fun PQ hPQ => ?_) fun tk2 => ?_
        · clear start
          walk_at "go2"
          refine wpAny_truthy_list (items := #[]) ⟨_, (N6 _ (.tail _ (.tail _ (.tail _ (.head _))))).1, rfl, _, rfl⟩ (by decide) ?_
          exact hPQ _
        rw [if_neg (by decide)]
        refine wpAny_to (v := .brk) (S := { s with heap := h6, toks := tk2 }) ?_ ?_
        · walk_at "go"
        · exact kB hFS6'
      · have hst7 : st7.length + 1 ≤ 1000 := by have := hok6.stlen; simp only [List.length_append, List.length_cons, List.length_nil, List.concat_eq_append] at this; omega
        rw [List.concat_eq_append] at N6 htl hok6 hkv6 hmu6 hFS6'
        obtain ⟨wsA, hwsA⟩ : ∃ wsA, (st7 ++ [e7]).map (fun e => Value.ref e.W) = wsA := ⟨_, rfl⟩
        obtain ⟨ksA, hksA⟩ : ∃ ksA, (st7 ++ [e7]).map SE.val = ksA := ⟨_, rfl⟩
        have hwl : wsA.length = st7.length + 1 := by rw [← hwsA]; simp
        have hkl : ksA.length = st7.length + 1 := by rw [← hksA]; simp
        rw [hwsA, hksA] at N6
        refine wpAny_toT (v := true) (h := h6) (fun PQ hPQ => ?_) fun tk2 => ?_
        · clear start
          walk_at "go2"
          refine wpAny_truthy_list (items := ksA.toArray) ⟨_, (N6 _ (.tail _ (.tail _ (.tail _ (.head _))))).1, rfl, _, rfl⟩ (by simp only [List.size_toArray]; omega) ?_
          have hne : (!ksA.toArray.isEmpty) = true := by cases ksA with
            | nil => simp at hkl
            | cons _ _ => rfl
          rw [hne]
          exact hPQ _
        rw [if_pos rfl]
        refine wpAny_boxed (fun f s' => (f = .next ∧ ∃ m, m < m6 ∧ WS s xs FSv n4 m s') ∨
          (f = .brk ∧ ∃ h4 tk4 k t st sn, s' = ({ s with heap := h4, toks := tk4 } : Shared) ∧ FSv h4 (.int k t) st sn ∧ (∀ e ∈ st, e.k < k) ∧ k ∈ xs.map (·.node) ∧ mu xs sn st < m6)) ?_ ?_
        · rintro f s' (⟨rfl, h⟩ | ⟨rfl, h4, tk4, k, t, st, sn, rfl, h, h1, h2, h3⟩)
          · exact h
          · dsimp only
            refine wpAny_to (v := .next) (S := { s with heap := h4, toks := tk4 }) ?_ ?_
            · walk_at "go"
            · exact kN h h1 h2 (by omega)
        intro PQ4 hPQ4
        have kM : ∀ {h6 tk6 v6 st6 sn6}, FSv h6 v6 st6 sn6 → mu xs sn6 st6 < m6 → PQ4 .next { s with heap := h6, toks := tk6 } := fun a b => hPQ4 _ _ (.inl ⟨rfl, _, b, ⟨_, _, _, _, _, rfl, a, rfl, Nat.le_trans (Nat.le_of_lt b) hle6⟩⟩)
        have kO : ∀ {h4 tk4 k t st sn}, FSv h4 (.int k t) st sn → (∀ e ∈ st, e.k < k) → k ∈ xs.map (·.node) → mu xs sn st < m6 → PQ4 .brk { s with heap := h4, toks := tk4 } := fun a b c d => hPQ4 _ _ (.inr ⟨rfl, _, _, _, _, _, _, rfl, a, b, c, d⟩)
        clear hPQ4 kB kN start
        walk_at "go2"
        refine kde_neg (vs := wsA) (j := st7.length) (v := .ref e7.W) ⟨_, (N6 _ (.tail _ (.tail _ (.head _)))).1, rfl, _, rfl⟩ (by decide) (by decide) ?_ ?_ ?_
        · rw [hwl]
          unfold seqIndex?
          simp
          omega
        · rw [← hwsA]; simp
        obtain ⟨x7, hx7, y1, y2, y3, y4⟩ := hok6.fro e7 (by simp)
        have i1 : (e7.W, wrapObj e7.it) ∈ tl := by rw [← htl, itL_app, itL_one]; simp
        have i2 : (e7.it, iterObj e7.l e7.pos) ∈ tl := by rw [← htl, itL_app, itL_one]; simp
        have i3 : (e7.l, listOf e7.vs.toArray e7.ep) ∈ tl := by
          rw [← htl, hBFe]
          exact List.mem_append_right _ (.tail _ (ledS_node (List.mem_flatMap.mpr ⟨x7, hx7, by rw [← y2, ← y3, ← y4]; exact .tail _ (.tail _ (.head _))⟩)))
        have off7 : ∀ a ∈ [nda, sna, isA, ss] ++ ((itL st7).map (·.1) ++ (BF fr6).map (·.1)), @LT.lt Nat _ a e7.it := by
          intro a ha
          rcases List.mem_append.mp ha with h | h
          · exact (hok6.ad e7 (by simp)).2 a (List.mem_append_left _ h)
          rcases List.mem_append.mp h with h | h
          · obtain ⟨q, hq, rfl⟩ := List.mem_map.mp h
            exact hok6.apart q hq
          · exact (hok6.ad e7 (by simp)).2 a (List.mem_append_right _ (eBA fr6 hf6 ▸ h))
        have hWit : @LT.lt Nat _ e7.it e7.W := (hok6.ad e7 (by simp)).1
        have j1 := N6 _ (.tail _ (.tail _ (.tail _ (.tail _ i1))))
        have j2 := N6 _ (.tail _ (.tail _ (.tail _ (.tail _ i2))))
        have j3 := N6 _ (.tail _ (.tail _ (.tail _ (.tail _ i3))))
        refine nx_callWith j1.1 ?_
        cases hv : e7.vs[e7.pos]? with
        | some v =>
          refine nx_item (l := e7.l) (i := e7.pos) (items := e7.vs.toArray) (x := v) j1.1 j2.1 ⟨_, j3.1, rfl, _, rfl⟩ (by simpa using hv) ?_
          intro h8 hit8 hsame
          have F8 := F6.change hsame j2.2.1 j2.2.2
          have N8 : News h₀ L' h8 (LF nda sna isA ss od6 os6 ei6 es6 (st7 ++ [{ e7 with pos := e7.pos + 1 }]) (BF fr6)) := by
            subst hwsA hksA htl
            have keep : ∀ q ∈ (nda, od6) :: (sna, os6) :: (isA, listOf ((st7 ++ [e7]).map fun e => Value.ref e.W).toArray ei6) :: (ss, listOf ((st7 ++ [e7]).map SE.val).toArray es6) :: (itL (st7 ++ [e7]) ++ BF fr6), @Ne Nat q.1 e7.it →
                h8.get? q.1 = some q.2 ∧ q.1 ≠ L' ∧ h₀.get? q.1 = none := fun q hq hne => ⟨(hsame.2 q.1 hne).trans (N6 q hq).1, (N6 q hq).2⟩
            intro q hq
            by_cases e : q = (e7.it, iterObj e7.l (e7.pos + 1))
            · rw [e]; exact ⟨hit8, j2.2⟩
            · have hq' : q ∈ (nda, od6) :: (sna, os6) :: (isA, listOf ((st7 ++ [e7]).map fun e => Value.ref e.W).toArray ei6) :: (ss, listOf ((st7 ++ [e7]).map SE.val).toArray es6) :: (itL (st7 ++ [e7]) ++ BF fr6) ∧ @Ne Nat q.1 e7.it := by
                simp only [LF, List.map_append, List.map_cons, List.map_nil, itL_app, itL_one, SE.led, SE.val, List.mem_cons, List.mem_append, List.not_mem_nil, or_false] at hq ⊢
                rcases hq with rfl | rfl | rfl | rfl | (h | rfl | rfl) | h
                · exact ⟨by simp, Nat.ne_of_lt (off7 _ (by simp))⟩
                · exact ⟨by simp, Nat.ne_of_lt (off7 _ (by simp))⟩
                · exact ⟨by simp, Nat.ne_of_lt (off7 _ (by simp))⟩
                · exact ⟨by simp, Nat.ne_of_lt (off7 _ (by simp))⟩
                · exact ⟨by simp [h], Nat.ne_of_lt (off7 _ (List.mem_append_right _ (List.mem_append_left _ (List.mem_map_of_mem h))))⟩
                · exact ⟨by simp, Nat.ne_of_gt hWit⟩
                · exact absurd rfl e
                · exact ⟨by simp [h], Nat.ne_of_lt (off7 _ (List.mem_append_right _ (List.mem_append_right _ (List.mem_map_of_mem h))))⟩
              exact keep q hq'.1 hq'.2
          have hvm : v ∈ x7.sv := by rw [y3]; exact List.mem_of_getElem? hv
          obtain ⟨vi, vt, rfl⟩ := hs.isi x7 hx7 v hvm
          have hgt : e7.k < vi := y1 ▸ hup x7 hx7 _ hvm
          have hin := (hcl x7 hx7 _ hvm).1
          have hpos : e7.pos < e7.vs.length := by
            rcases Nat.lt_or_ge e7.pos e7.vs.length with h | h
            · exact h
            · rw [List.getElem?_eq_none h] at hv; cases hv
          clear N6 F6 f1 f3 f4 e6 hFS6' htl hwsA hksA i1 i2 i3 j1 j2 j3 off7
          walk_at "go"
          rename News h₀ L' _ _ => N9
          rename Fr h₀ L' _ _ => F9
          refine kO (k := vi) (t := vt) (st := st7 ++ [{ e7 with pos := e7.pos + 1 }]) (sn := sn6) (fI ⟨od6, os6, ei6, es6, fr6, kvs6, hf6, ?_, N9, hod6, ?_, hos6, hok6.step⟩) ?_ hin ?_
          · have e : (fun y => if y = Str.ofString "node" then some (Value.int vi vt) else mB σ.S σ.Nd nda sna isA ss y) = fun y => if y = Str.ofString "node" then some (Value.int vi vt) else if y = Str.ofString "node" then some v6 else mB σ.S σ.Nd nda sna isA ss y := by
              funext y; by_cases h : y = Str.ofString "node" <;> simp [h]
            rw [e]; exact F9
          · rw [hkv6]; simp
          · intro e he
            rcases List.mem_append.mp he with h | h
            · have := hok6.below e h; omega
            · rw [List.mem_singleton.mp h]; exact hgt
          · rw [← hmu6]; exact mu_step hpos
        | none =>
          refine nx_end (l := e7.l) (i := e7.pos) (items := e7.vs.toArray) rfl j1.1 j2.1 ⟨_, j3.1, rfl, _, rfl⟩ (by simpa using hv) ?_
          intro h8 h9 ex hsame hnew
          have F8 := F6.change hsame j2.2.1 j2.2.2
          have N8 : News h₀ L' h8 (((nda, od6) :: (sna, os6) :: (isA, listOf wsA.toArray ei6) :: (ss, listOf ksA.toArray es6) :: (itL st7 ++ it :: ledS σ w rv po nf oN xs rest)) ++ fr6) := by
            intro q hq
            have hq' : q ∈ (nda, od6) :: (sna, os6) :: (isA, listOf wsA.toArray ei6) :: (ss, listOf ksA.toArray es6) :: tl ∧ q.1 ∈ [nda, sna, isA, ss] ++ ((itL st7).map (·.1) ++ (BF fr6).map (·.1)) := by
              rw [← htl, hBFe, itL_app, itL_one]
              have hq3 := (by walk_at "sub" : ∀ q ∈ ((nda, od6) :: (sna, os6) :: (isA, listOf wsA.toArray ei6) :: (ss, listOf ksA.toArray es6) :: (itL st7 ++ it :: ledS σ w rv po nf oN xs rest)) ++ fr6, q ∈ (nda, od6) :: (sna, os6) :: (isA, listOf wsA.toArray ei6) :: (ss, listOf ksA.toArray es6) :: (itL st7 ++ it :: ledS σ w rv po nf oN xs (rest ++ fr6))) q hq
              rcases List.mem_cons.mp hq3 with rfl | hq3
              · exact ⟨.head _, .head _⟩
              rcases List.mem_cons.mp hq3 with rfl | hq3
              · exact ⟨.tail _ (.head _), .tail _ (.head _)⟩
              rcases List.mem_cons.mp hq3 with rfl | hq3
              · exact ⟨.tail _ (.tail _ (.head _)), .tail _ (.tail _ (.head _))⟩
              rcases List.mem_cons.mp hq3 with rfl | hq3
              · exact ⟨.tail _ (.tail _ (.tail _ (.head _))), .tail _ (.tail _ (.tail _ (.head _)))⟩
              rcases List.mem_append.mp hq3 with h | h
              · exact ⟨.tail _ (.tail _ (.tail _ (.tail _ (List.mem_append_left _ (List.mem_append_left _ h))))), List.mem_append_right _ (List.mem_append_left _ (List.mem_map_of_mem h))⟩
              · exact ⟨.tail _ (.tail _ (.tail _ (.tail _ (List.mem_append_right _ h)))), List.mem_append_right _ (List.mem_append_right _ (List.mem_map_of_mem h))⟩
            exact ⟨(hsame.2 q.1 (Nat.ne_of_lt (off7 q.1 hq'.2))).trans (N6 q hq'.1).1, (N6 q hq'.1).2⟩
          have Fs6 : Frs (env :: outer) fr6 := Frs.up (show Frs (env :: outer) ((L, oL) :: frs) from ⟨by rw [hke]; decide, hf, hoL, Fs⟩) hf6
          have hap : ∀ q ∈ ((nda, od6) :: (sna, os6) :: (isA, listOf wsA.toArray ei6) :: (ss, listOf ksA.toArray es6) :: (itL st7 ++ it :: ledS σ w rv po nf oN xs rest)), q.1 ∉ L' :: fr6.map (·.1) := by
            intro q hq hm
            rcases List.mem_cons.mp hm with e | hm
            · exact (N8 q (List.mem_append_left _ hq)).2.1 e
            rw [sameUp_map hf6] at hm
            obtain ⟨r, hr, e⟩ := List.mem_map.mp hm
            have hrC := Cb r (ledS_rest (List.mem_append_right _ hr))
            have e' : @Eq Nat r.1 q.1 := e
            have hrB : r.1 ∈ [nda, sna, isA, ss] ++ (BF ((L, oL) :: frs)).map (·.1) := by
              rw [hBFe]
              exact List.mem_append_right _ (List.mem_map_of_mem (.tail _ (ledS_rest (List.mem_append_right _ hr))))
            obtain ⟨c1, c2, c3, c4⟩ := hrC
            rcases List.mem_cons.mp hq with rfl | hq
            · exact Nat.ne_of_lt c4 e'
            rcases List.mem_cons.mp hq with rfl | hq
            · exact Nat.ne_of_lt c3 e'
            rcases List.mem_cons.mp hq with rfl | hq
            · exact Nat.ne_of_lt c2 e'
            rcases List.mem_cons.mp hq with rfl | hq
            · exact Nat.ne_of_lt c1 e'
            rcases List.mem_append.mp hq with h | h
            · exact itL_off hok6.pop hrB q h e.symm
            rcases List.mem_cons.mp h with rfl | h
            · exact hitF r hr e.symm
            · exact hapC q h r hr e.symm
          refine TLg.noted_newA (frs := fr6) rfl Fs6 hnew F8 N8 hap ?_
          intro h10 fr10 hf10 Fs10 H10
          refine H10.land ?_
          intro h11 H11
          refine wpAny_handleBy_builtin (X := "StopIteration") (T := "StopIteration") (b := true) (isSubtype_of_subB (by decide +kernel)) (isSubtype_of_subB (by decide +kernel)) (isSubtype_of_subB (by decide +kernel)) (wpAny_passesOwnAt (by passes_own) ?_)
          have F11 : Fr h₀ L' h11 _ := H11.held.fr
          refine wpAny_mono (Q := fun v s' => Box (v = .type "StopIteration" ∧ ∃ tk, s' = ({ s with heap := h11, toks := tk } : Shared))) (E := fun _ _ => False) ?_ ?_ (fun _ _ x => x)
          · clear N6 F6 f1 f3 f4 e6 hFS6' htl i1 i2 i3 j1 j2 j3 off7 N8 hap H10 Fs6 Fs10 F8 hsame hnew hv
            walk_at "go2"
            exact ⟨rfl, _, rfl⟩
          rintro v s' ⟨rfl, tk11, rfl⟩
          refine ⟨rfl, H11.isA, ?_⟩
          rw [if_pos rfl]
          refine H11.lands fun h12 F12 N12 => wpAny_passesOwnAt (by passes_own) ?_
          have hf12 : SameUp ((L, oL) :: frs) fr10 := hf6.trans hf10
          have e12 := tlOff fr10 st7 sn6 hf12 hok6.pop
          obtain ⟨tl3, htl3⟩ : ∃ tl3, itL st7 ++ BF fr10 = tl3 := ⟨_, rfl⟩
          rw [htl3] at e12
          have g1 : ∀ q ∈ tl3, q.1 ≠ nda := fun q hq => (e12 q hq).1
          have g3 : ∀ q ∈ tl3, q.1 ≠ isA := fun q hq => (e12 q hq).2.2.1
          have g4 : ∀ q ∈ tl3, q.1 ≠ ss := fun q hq => (e12 q hq).2.2.2
          have N13 : News h₀ L' h12 ((nda, od6) :: (sna, os6) :: (isA, listOf wsA.toArray ei6) :: (ss, listOf ksA.toArray es6) :: tl3) := News.sub N12 (by rw [← htl3, hBFe]; walk_at "sub")
          have hkvl : kvs6.length ≤ 1000 := by
            have : (kvs6.map (·.1)).length = ((st7 ++ [e7]).map (·.k)).length := by rw [hkv6]
            simp only [List.length_map, List.length_append, List.length_cons, List.length_nil] at this
            omega
          have hsome : (valueAt kvs6 e7.k).isSome = true := valueAt_keys.mpr (by rw [hkv6]; simp)
          clear N12 N6 F6 f1 f3 f4 e6 hFS6' htl i1 i2 i3 j1 j2 j3 off7 N8 hap H10 H11 Fs6 Fs10 F8 hsame hnew e12 hv
          walk_at "go2"
          dsimp only
          refine' kl_pop (p := st7.map SE.val) (y := e7.val) ?F ?N ?e ?U ?z ?_
          case F => k_asm
          case N => k_asm
          case U => k_upd
          case e => simp only [← hksA]; exact kl_last_app _ _
          case z => simp only [sizeLine_eq]; omega
          intro h14 F14 N14
          dsimp only [SE.val]
          walk_at "go2"
          refine' kob_del (knd := intKind _ _) ?F ?N ?U hod6 (intKind_is _ _ _ _) hsome ?z ?_
          case F => k_asm
          case N => k_asm
          case U => k_updF
          case z => rw [sizeLine_eq]; omega
          intro h15 od15 F15 N15 hod15
          walk_at "go2"
          dsimp only
          refine' kl_pop (p := st7.map fun e => Value.ref e.W) (y := .ref e7.W) ?F ?N ?e ?U ?z ?_
          case F => k_asm
          case N => k_asm
          case U => k_upd
          case e => simp only [← hwsA]; exact kl_last_appW _ _
          case z => simp only [sizeLine_eq]; omega
          intro h16 F16 N16
          walk_at "go2"
          rename News h₀ L' _ _ => N17
          rename Fr h₀ L' _ _ => F17
          refine kM (st6 := st7) (sn6 := sn6) (fI ⟨od15, os6, ei6 + 1, es6 + 1, fr10, _, hf12, F17, ?_, hod15, keys_without hkv6 hok6.below, hos6, hok6.pop⟩) (by rw [← hmu6]; exact mu_pop)
          rw [← htl3] at N17
          exact N17
  · intro u' nx h3 tk3 hI F4 N4
    refine hide fun G hG => ?_
    obtain ⟨sn, od, os, ei, es, fr, rfl, hfr, hod, hos, hok⟩ := hI
    refine hG ?_
    clear hG G
    dsimp only
    walk_at "go"
    dsimp only
    cases fr with
    | nil => exact hfr.elim
    | cons q fr =>
      obtain ⟨q1, qo⟩ := q
      obtain ⟨e1, ⟨sl, e2⟩, hfr'⟩ := hfr
      replace e1 : q1 = L := e1
      replace e2 : qo = { oL with slots := sl } := e2
      have F4' : Fr h₀ L' h3 _ := F4
      have hL : h3.get? L = some { oL with slots := sl } := by
        have := (N4 (q1, qo) (by simp [ledS])).1
        rw [e1, e2] at this
        exact this
      refine hq h3 tk3 fr hfr' (hback h3 sl hL F4'.keep) ?_
      intro q hqm
      have hm : q ∈ (nda, od) :: (sna, os) :: (isA, listOf #[] ei) :: (ss, listOf #[] es) :: ledS σ w rv po nf oN xs (rest ++ (q1, qo) :: fr) := (by walk_at "sub" : ∀ q ∈ ledS σ w rv po nf oN xs (rest ++ fr), q ∈ (nda, od) :: (sna, os) :: (isA, listOf #[] ei) :: (ss, listOf #[] es) :: ledS σ w rv po nf oN xs (rest ++ (q1, qo) :: fr)) q hqm
      refine ⟨(N4 q hm).1, ?_, (N4 q hm).2.2⟩
      obtain ⟨q', h1, h2⟩ := ledS_up (sameUp_map hfr') hqm
      rw [← h2]
      exact (N q' h1).2.1
end
end
section
set_option maxHeartbeats 1000000
open PySem.Calls PyProof.Rows.LCg
section
variable {prog : Program} {w : World} {A : Around} {E : Value → Shared → Prop} {s : Shared} {h₀ : Heap} {L : Addr} {m : Str → Option Value} {env : Env}
/-- a turn of a comprehension ends: the ledger stands as it stood -/
noncomputable def CTurn (h₀ : Heap) (L : Addr) (m : Str → Option Value) (s₁ : Shared) (led : List (Addr × Obj)) (P : Prop) (s₂ : Shared) : Prop :=
  ∃ h' tk, s₂ = { s₁ with heap := h', toks := tk } ∧ Fr h₀ L h' m ∧ News h₀ L h' led ∧ P
/-- what a list comprehension of one clause wants of its iterator: the items, the target, what holds between the turns -/
noncomputable def CW (prog : Program) (w : World) (A : Around) (h₀ : Heap) (L : Addr) (m : Str → Option Value) (env : Env) (tg : Expr) (ifs : List Expr) (elt : Expr) (scope : Scope) (cl : List (Str × Addr)) (Fin : Addr → List Value → List (Addr × Obj) → Shared → Prop) (it : Value) (s₂ : Shared) : Prop :=
  ∃ (I : Addr) (fp : List Addr) (n : Nat) (P : Nat → Value → Prop) (St : Nat → Heap → Prop) (news : List (Addr × Obj)) (Bd : Nat → Value → (Str → Option Value) → Prop) (J : Nat → List Value → Prop),
    it = .ref I ∧ Walks prog w A I fp [I] n P St ∧ n ≤ sizeLine ∧ (∀ i h, St i h → ∃ o, h.get? I = some o) ∧ St 0 s₂.heap ∧ (∀ b ∈ fp, b < s₂.heap.objs.size) ∧ (∀ b ∈ fp, b = I ∨ (∃ o, h₀.get? b = some o) ∨ ∃ o, (b, o) ∈ news) ∧
    Fr h₀ L s₂.heap m ∧ News h₀ L s₂.heap news ∧ L ≠ I ∧ h₀.get? I = none ∧ (∀ p ∈ news, p.1 ≠ I) ∧ J 0 [] ∧
    (∀ i v C m₀ (s₁ : Shared) Q' E', i < n → P i v → St (i + 1) s₁.heap → News h₀ L s₁.heap news → s₁.heap.Ns C m₀ → (∀ h' tk m₂, h'.Ns C m₂ → Bd i v m₂ → (∀ b o, b ≠ C → s₁.heap.get? b = some o → h'.get? b = some o) → Q' { s₁ with heap := h', toks := tk }) →
      wpAny (model prog w) A (letOwnedTupleGo tg (.ref I) v) (fun _ s₂ => wpAny (model prog w) A (assign tg (compEnvC scope cl C env) v) (fun _ => Q') E' s₂) E' s₁) ∧
    (∀ i v ys oI C oC D m₂ h tk (E' : Value → Shared → Prop), i < n → P i v → J i ys → NsObj oC m₂ → Bd i v m₂ → Fr h₀ L h m → News h₀ L h ((I, oI) :: (C, oC) :: (D, lst ys) :: news) → Off3 I C D news → ((@Ne Nat I C) ∧ (@Ne Nat I D) ∧ (@Ne Nat C D)) →
      wpAny (model prog w) A (forIn ifs true fun c r => if r = true then do let ok ← isTrue c (compEnvC scope cl C env) (eval c (compEnvC scope cl C env)); pure (ForInStep.yield ok) else pure (ForInStep.yield r)) (fun ok s₃ =>
        if ok = true then wpAny (model prog w) A (eval elt (compEnvC scope cl C env)) (fun y s₄ => CTurn h₀ L m { s₂ with heap := h, toks := tk } ((I, oI) :: (C, oC) :: (D, lst ys) :: news) (J (i + 1) (ys ++ [y])) s₄) E' s₃
        else CTurn h₀ L m { s₂ with heap := h, toks := tk } ((I, oI) :: (C, oC) :: (D, lst ys) :: news) (J (i + 1) ys) s₃) E' { s₂ with heap := h, toks := tk }) ∧
    (∀ D ys h tk, J n ys → ys.length ≤ n → Fr h₀ L h m → News h₀ L h ((D, lst ys) :: news) → (∀ q ∈ news, q.1 < D) → Fin D ys news { s₂ with heap := h, toks := tk })
theorem comp_loop {elt tg iter : Expr} {ifs : List Expr} {scope : Scope} {pos : Pos} {it acc : Value} {env : Env} {R : Result → Shared → Prop} (I : Nat → Shared → Prop)
    (turn : ∀ n s, I n s → wpAny (model prog w) A (pyNext it) (fun r s₁ => match r with
      | none => R (.ok .next) s₁
      | some v => wpAny (model prog w) A (letOwnedTupleGo tg it v) (fun _ s₀ => wpAny (model prog w) A (assign tg env v) (fun _ s₂ =>
          wpAny (model prog w) A (forIn ifs true fun c r => if r = true then do let ok ← isTrue c env (eval c env); pure (ForInStep.yield ok) else pure (ForInStep.yield r)) (fun ok s₃ =>
            if ok = true then wpAny (model prog w) A (eval elt env) (fun x s₄ =>
              wpAny (model prog w) A (call (.builtin "list.append") [acc, x]) (fun _ s₅ => ∃ m, m < n ∧ I m s₅) (notedBy (model prog w) A env fun e s' => R (.error e) s') s₄) (notedBy (model prog w) A env fun e s' => R (.error e) s') s₃
            else ∃ m, m < n ∧ I m s₃) (notedBy (model prog w) A env fun e s' => R (.error e) s') s₂) (notedBy (model prog w) A env fun e s' => R (.error e) s') s₀) (notedBy (model prog w) A env fun e s' => R (.error e) s') s₁)
      (notedBy (model prog w) A env fun e s' => R (.error e) s') s)
    (n : Nat) (h : I n s) : codeAny (model prog w) A (.compLoop (.ListComp elt [⟨tg, iter, ifs, 0⟩] scope pos) 0 it acc env) R s := by
  refine codeAny_loop rfl I (fun n s hI => ?_) n h
  show wpAny _ A ((compTurn (.ListComp elt [⟨tg, iter, ifs, 0⟩] scope pos) 0 it acc env).onRaise (fun x => do noteFrame x env; theTreesLotGoes x)) _ _ s
  refine wpAny_noted ?_
  rw [compTurn_list]
  refine wpAny_bind (wpAny_standAt (wpAny_bind (wpAny_mono (turn n s hI) (fun r s₁ h₁ => ?_) fun _ _ h' => h')))
  cases r with
  | none => exact wpAny_pure h₁
  | some v =>
    refine wpAny_bind (wpAny_mono h₁ (fun _ s₀ h₂ => wpAny_bind (wpAny_mono h₂ (fun _ s₂ h₃ => wpAny_bind (wpAny_mono h₃ (fun ok s₃ h₄ => ?_) fun _ _ h' => h')) fun _ _ h' => h')) fun _ _ h' => h')
    cases ok with
    | false => exact wpAny_pure ⟨rfl, h₄⟩
    | true => exact wpAny_bind (wpAny_bind (wpAny_mono h₄ (fun x s₄ h₅ => wpAny_bind (wpAny_mono h₅ (fun _ s₅ h₆ => wpAny_pure (wpAny_pure ⟨rfl, h₆⟩)) fun _ _ h' => h')) fun _ _ h' => h'))
theorem fresh_of {h : Heap} {a : Addr} (ha : h.objs.size ≤ a) : h.get? a = none := by
  cases e : h.get? a with
  | none => rfl
  | some o => exact absurd (Heap.lt_size e) (Nat.not_lt.mpr ha)
theorem comp_block {elt tg iter : Expr} {ifs : List Expr} {scope : Scope} {cl : List (Str × Addr)} {pos : Pos} {s₂ : Shared} {it : Value} {Fin : Addr → List Value → List (Addr × Obj) → Shared → Prop} {RR : Value → Addr → Result → Shared → Prop}
    (hcell : ∀ y ∈ scope.names, y.2 ≠ .cell) (hkind : scope.kind = .function) (cw : CW prog w A h₀ L m env tg ifs elt scope cl Fin it s₂)
    (hRR : ∀ D C h tk m' ys news, Fr h₀ L h m → h.Ns C m' → h₀.get? C = none → C ≠ L → C ≠ D → (∀ p ∈ news, p.1 ≠ C) → News h₀ L h ((D, lst ys) :: news) →
      (∀ h', Fr h₀ L h' m → News h₀ L h' ((D, lst ys) :: news) → ∀ tk, Fin D ys news { s₂ with heap := h', toks := tk }) → RR (.ref D) C (.ok .next) { s₂ with heap := h, toks := tk }) :
    wpAny (model prog w) A (newList []) (fun acc s₃ => wpAny (model prog w) A (newFunctionEnv scope env.globals cl [] env.qual none .none (some env)) (fun cenv s₄ =>
      codeAny (model prog w) A (.compStart (.ListComp elt [⟨tg, iter, ifs, 0⟩] scope pos) 0 it acc { cenv with scope := relabel scope env }) (RR acc cenv.locals) s₄) E s₃) E s₂ := by
  obtain ⟨I, fp, n, P, St, news, Bd, J, rfl, W, hsz, hIo, hst, hfp, hfn, F, N, hIL, hI₀, off, hJ, asg, turn, fin⟩ := cw
  refine wpAny_newObj_type (wpAny_newFunctionEnv hcell (by intro y hy; simp at hy) (fun h₁ hns₁ hsb₁ => ?_) hkind)
  dsimp only at hns₁ hsb₁ ⊢
  generalize hH2 : s₂.heap.push { cls := .type "list", dict := none, data := .seq ([] : List Value).toArray } = H2 at hns₁ hsb₁ ⊢
  obtain ⟨D, hD⟩ : ∃ D, s₂.heap.objs.size = D := ⟨_, rfl⟩
  obtain ⟨C, hC⟩ : ∃ C, H2.objs.size = C := ⟨_, rfl⟩
  have hCD : @Eq Nat C (D + 1) := by rw [← hC, ← hH2, Heap.size_push, hD]
  have hnD : @Ne Nat D C := by omega
  rw [hC] at hns₁ hsb₁ ⊢
  rw [hD] at hfp ⊢
  have below : ∀ b : Addr, @LT.lt Nat _ b D → b ≠ C ∧ b ≠ D := fun b hb => ⟨neN (by omega), neN (by omega)⟩
  have old : ∀ b o, s₂.heap.get? b = some o → h₁.get? b = some o := fun b o e => by
    have hb : @LT.lt Nat _ b D := by rw [← hD]; exact Heap.lt_size e
    exact hsb₁.extBut b o (below b hb).1 (Heap.get?_push_of_some _ (hH2 ▸ Heap.get?_push_of_some _ e))
  have hacc : h₁.get? D = some (lst []) := hsb₁.extBut _ _ hnD (Heap.get?_push_of_some _ (by rw [← hH2, ← hD]; exact Heap.get?_push_size _ rfl))
  have hD₀ : h₀.get? D = none := by
    cases e : h₀.get? D with
    | none => rfl
    | some o => have := F.keep D o e; rw [fresh_of (Nat.le_of_eq hD)] at this; cases this
  have hC₀ : h₀.get? C = none := by
    cases e : h₀.get? C with
    | none => rfl
    | some o => have := F.keep C o e; rw [fresh_of (by rw [hD]; show @LE.le Nat _ D C; omega)] at this; cases this
  have hLlt : @LT.lt Nat _ L D := by rw [← hD]; exact F.ns.lt
  have hIlt : @LT.lt Nat _ I D := hfp I (W.sub I (List.mem_singleton.mpr rfl))
  have hDL : D ≠ L := neN (by omega)
  have hCL : C ≠ L := neN (by omega)
  have hIC : @Ne Nat I C := by omega
  have hID : @Ne Nat I D := by omega
  have hlt : ∀ q ∈ news, @LT.lt Nat _ q.1 D := fun q hq => by rw [← hD]; exact Heap.lt_size (N q hq).1
  have off3 : Off3 I C D news := Off3.of fun p hp => ⟨off p hp, (below _ (hlt p hp)).1, (below _ (hlt p hp)).2⟩
  have hDf : D ∉ fp := fun hm => absurd (hfp _ hm) (Nat.lt_irrefl _)
  have hCf : C ∉ fp := fun hm => by have : @LT.lt Nat _ C D := hfp _ hm; omega
  have mem3 := off3.mem
  have loop : ∀ s₃ : Shared, s₃ = { s₂ with heap := h₁, toks := s₂.toks + ([] : List (Str × Value)).length } →
      codeAny (model prog w) A (.compLoop (.ListComp elt [⟨tg, iter, ifs, 0⟩] scope pos) 0 (.ref I) (.ref D) (compEnvC scope cl C env)) (RR (.ref D) C) s₃ := by
    rintro s₃ rfl
    refine comp_loop (fun k s' => E5 fun h' tk i ys m' => A9 (s' = { s₂ with heap := h', toks := tk }) (i ≤ n) (k = n + 1 - i) (ys.length ≤ i) (St i h') (Fr h₀ L h' m) (h'.Ns C m') (News h₀ L h' ((D, lst ys) :: news)) (J i ys)) ?_ (n + 1)
      ⟨h₁, _, 0, [], _, rfl, Nat.zero_le _, rfl, Nat.le_refl _, W.frame _ _ _ hst fun b _ o e => old b o e, F.keeps old, hns₁, fun p hp => ?_, hJ⟩
    · intro k s' hI0
      refine hide fun G hG => ?_
      obtain ⟨h', tk, i, ys, m', rfl, hi, rfl, hyl, hst', F', hn', N', hJ'⟩ := hI0
      refine hG ?_
      clear hG G
      by_cases hlt' : i < n
      · refine W.item i _ _ _ hlt' hst' fun v h₂ tk₂ hPv hst₂ hk₂ => ?_
        have N₂ : News h₀ L h₂ ((D, lst ys) :: news) := news_but N' hk₂ fun p hp => by
          rcases List.mem_cons.mp hp with rfl | hp
          · exact Ne.symm hID
          · exact (mem3 p hp).1
        refine asg i v C m' { s₂ with heap := h₂, toks := tk₂ } _ _ hlt' hPv hst₂ (fun p hp => N₂ p (.tail _ hp)) (hn'.at' fun o e => hk₂ _ o (by simpa using Ne.symm hIC) e) ?_
        intro h₃ tk₃ m₃ hn₃ hB hk₃
        have hst₃ : St (i + 1) h₃ := W.frame _ _ _ hst₂ fun b hb o e => hk₃ b o (fun q => hCf (q ▸ hb)) e
        obtain ⟨oI, heI⟩ := hIo _ _ hst₃
        obtain ⟨oC, heC, hoC⟩ := ns_obj hn₃
        have F₂ : Fr h₀ L h₂ m := fr_but F' hk₂ hIL hI₀
        have F₃ : Fr h₀ L h₃ m := ⟨F₂.ns.at' fun o e => hk₃ L o (Ne.symm hCL) e, fun b o e => hk₃ b o (fun q => by rw [q, hC₀] at e; cases e) (F₂.keep b o e), F₂.above⟩
        have N₃ : News h₀ L h₃ ((I, oI) :: (C, oC) :: (D, lst ys) :: news) := fun p hp => by
          rcases List.mem_cons.mp hp with rfl | hp
          · exact ⟨heI, Ne.symm hIL, hI₀⟩
          rcases List.mem_cons.mp hp with rfl | hp
          · exact ⟨heC, hCL, hC₀⟩
          · refine ⟨hk₃ _ _ ?_ (N₂ p hp).1, (N₂ p hp).2⟩
            rcases List.mem_cons.mp hp with rfl | hp
            · exact hnD
            · exact (mem3 p hp).2.1
        have again : ∀ h₄, News h₀ L h₄ ((I, oI) :: (C, oC) :: (D, lst ys) :: news) → Fr h₀ L h₄ m → St (i + 1) h₄ := fun h₄ N₄ F₄ => W.frame _ _ _ hst₃ fun b hb o e => by
          rcases hfn b hb with rfl | ⟨o', ho'⟩ | ⟨o', ho'⟩
          · rw [heI] at e; cases e; exact (N₄ _ (.head _)).1
          · rw [F₃.keep _ _ ho'] at e; cases e; exact F₄.keep _ _ ho'
          · rw [(N₃ _ (.tail _ (.tail _ (.tail _ ho')))).1] at e; cases e; exact (N₄ _ (.tail _ (.tail _ (.tail _ ho')))).1
        refine wpAny_mono (turn i v ys oI C oC D m₃ h₃ tk₃ _ hlt' hPv hJ' hoC hB F₃ N₃ off3 ⟨hIC, hID, fun e => hnD e.symm⟩) (fun ok s₄ h₄ => ?_) fun _ _ e => e
        cases ok with
        | true =>
          simp only [if_true] at h₄ ⊢
          refine wpAny_mono h₄ (fun y s₅ h₅ => ?_) fun _ _ e => e
          refine hide fun G hG => ?_
          obtain ⟨h₅, tk₅, rfl, F₅, N₅, hJ₅⟩ := h₅
          refine hG ?_
          clear hG G
          have zC := (N₅ (C, oC) (.tail _ (.head _))).1
          have zD := (N₅ (D, lst ys) (.tail _ (.tail _ (.head _)))).1
          refine append_at (hsz := by show ys.toArray.size ≤ sizeLine; rw [List.size_toArray]; exact Nat.le_trans (Nat.le_trans hyl hi) hsz) zD fun h₆ hs₆ hD₆ => ?_
          refine ⟨n + 1 - (i + 1), by omega, h₆, tk₅, i + 1, ys ++ [y], _, rfl, hlt', rfl, by rw [List.length_append, List.length_singleton]; exact Nat.succ_le_succ hyl, W.frame _ _ _ (again _ N₅ F₅) fun b hb o e => hs₆.extBut b o (fun q => hDf (q ▸ hb)) e, F₅.change hs₆ hDL hD₀, (hoC.ns zC).sameBut hs₆ (Ne.symm hnD), fun p hp => ?_, hJ₅⟩
          rcases List.mem_cons.mp hp with rfl | hp
          · exact ⟨hD₆.trans (congrArg some (lst_snoc ys y)), hDL, hD₀⟩
          · have z := N₅ p (.tail _ (.tail _ (.tail _ hp)))
            exact ⟨hs₆.extBut _ _ (mem3 p hp).2.2 z.1, z.2⟩
        | false =>
          simp only [Bool.false_eq_true, if_false] at h₄ ⊢
          refine hide fun G hG => ?_
          obtain ⟨h₅, tk₅, rfl, F₅, N₅, hJ₅⟩ := h₄
          refine hG ?_
          clear hG G
          have zC := (N₅ (C, oC) (.tail _ (.head _))).1
          exact ⟨n + 1 - (i + 1), by omega, h₅, tk₅, i + 1, ys, _, rfl, hlt', rfl, Nat.le_succ_of_le hyl, again _ N₅ F₅, F₅, hoC.ns zC, fun p hp => N₅ p (.tail _ (.tail _ hp)), hJ₅⟩
      · obtain rfl : i = n := Nat.le_antisymm hi (Nat.not_lt.mp hlt')
        refine W.done _ _ _ hst' fun h₂ tk₂ hk₂ => ?_
        refine hRR D C h₂ tk₂ m' ys news (fr_but F' hk₂ hIL hI₀) (hn'.at' fun o e => hk₂ _ o (by simpa using Ne.symm hIC) e) hC₀ hCL (Ne.symm hnD) (fun p hp => (mem3 p hp).2.1) (news_but N' hk₂ fun p hp => ?_) fun h3 F3 N3 tk => fin D ys h3 tk hJ' hyl F3 N3 hlt
        rcases List.mem_cons.mp hp with rfl | hp
        · exact Ne.symm hID
        · exact (mem3 p hp).1
    · rcases List.mem_cons.mp hp with rfl | hp
      · exact ⟨hacc, hDL, hD₀⟩
      · exact ⟨old _ _ (N p hp).1, (N p hp).2⟩
  exact codeAny_compStart_list (loop _ rfl) (W.self 0 _ _ _ (W.frame _ _ _ hst fun b _ o e => old b o e) (loop _ rfl))
/-- [elt for tg in iter if ..] -/
theorem comp_gen {elt tg iter : Expr} {ifs : List Expr} {scope : Scope} {cl : List (Str × Addr)} {pos : Pos} {Q : Value → Shared → Prop}
    (hclos : closureFor scope env = pure cl) (hcell : ∀ y ∈ scope.names, y.2 ≠ .cell) (hkind : scope.kind = .function)
    (hnames : ∀ y ∈ scope.names, y.2 = .local → scope.names.lookup y.1 = some .local)
    (h : wpAny (model prog w) A (eval iter env) (fun xv s₁ => wpAny (model prog w) A (pyIter xv) (CW prog w A h₀ L m env tg ifs elt scope cl fun D _ _ s' => Q (.ref D) s') E s₁) E s)
    (hs : ∀ x, foldedSetIterable iter env x = pure x := by intro _; rfl) :
    wpAny (model prog w) A (eval (.ListComp elt [⟨tg, iter, ifs, 0⟩] scope pos) env) Q E s := by
  rw [eval_ListComp]
  refine wpAny_comprehension_free (use := none) rfl hs hclos hkind hnames (wpAny_mono h (fun xv s₁ h₁ => wpAny_mono h₁ (fun it s₂ h₂ => ?_) fun _ _ e => e) fun _ _ e => e)
  refine comp_block hcell hkind h₂ ?_
  intro D C h tk m' ys news F' hn hC₀ hCL hCD offC N' fin
  refine ⟨m', hn, fun h'' hs'' => fin h'' (F'.change hs'' hCL hC₀) (fun p hp => ?_) tk⟩
  refine ⟨hs''.extBut _ _ ?_ (N' p hp).1, (N' p hp).2⟩
  rcases List.mem_cons.mp hp with rfl | hp
  · exact Ne.symm hCD
  · exact offC p hp
/-- the target is a name -/
theorem asg_name {x : Str} {px : Pos} {scope : Scope} {cl : List (Str × Addr)} {I : Addr} (hkind : scope.kind = .function) (hx : scope.names.lookup x = some .local) {v : Value} {C : Addr} {m₀ : Str → Option Value} {s₁ : Shared} {Q' : Shared → Prop} {E' : Value → Shared → Prop}
    (hn : s₁.heap.Ns C m₀) (k : ∀ h' tk m₂, h'.Ns C m₂ → m₂ x = some v → (∀ b o, b ≠ C → s₁.heap.get? b = some o → h'.get? b = some o) → Q' { s₁ with heap := h', toks := tk }) :
      wpAny (model prog w) A (letOwnedTupleGo (.Name x px) (.ref I) v) (fun _ s₂ => wpAny (model prog w) A (assign (.Name x px) (compEnvC scope cl C env) v) (fun _ => Q') E' s₂) E' s₁ := by
  refine wpAny_pure (wpAny_assign_Name (wpAny_storeName_local (lookup_relabel_local hx) hn (fun h₃ hn₃ hs₃ => ?_) (by simp [compEnvC, relabel, hkind])))
  exact k h₃ _ _ hn₃ (by simp) fun b o hb e => hs₃.extBut b o hb e
/-- the source: the values of a dict -/
theorem cw_values {K : Type} [DecidableEq K] {knd : KeyKind prog w K} {elt : Expr} {ifs : List Expr} {x : Str} {px : Pos} {scope : Scope} {cl : List (Str × Addr)} {Fin : Addr → List Value → List (Addr × Obj) → Shared → Prop} {v d : Addr} {o : Obj} {kvs : List (K × Value)} {news : List (Addr × Obj)} (J : Nat → List Value → Prop)
    (hh : A.handled = none) (hkind : scope.kind = .function) (hx : scope.names.lookup x = some .local) (F : Fr h₀ L s.heap m) (N : News h₀ L s.heap news) (hv : (v, { cls := .type "dict_values", data := .fields #[.ref d] }) ∈ news) (hd : (d, o) ∈ news) (hdo : o.IsDictOf knd kvs) (hsz : kvs.length ≤ sizeLine) (hJ : J 0 [])
    (turn : ∀ i u ys I oI C oC D m₂ h tk (E' : Value → Shared → Prop), (kvs.map (·.2))[i]? = some u → J i ys → NsObj oC m₂ → m₂ x = some u → Fr h₀ L h m → News h₀ L h ((I, oI) :: (C, oC) :: (D, lst ys) :: news) → Off3 I C D news → ((@Ne Nat I C) ∧ (@Ne Nat I D) ∧ (@Ne Nat C D)) →
      wpAny (model prog w) A (forIn ifs true fun c r => if r = true then do let ok ← isTrue c (compEnvC scope cl C env) (eval c (compEnvC scope cl C env)); pure (ForInStep.yield ok) else pure (ForInStep.yield r)) (fun ok s₃ =>
        if ok = true then wpAny (model prog w) A (eval elt (compEnvC scope cl C env)) (fun y s₄ => CTurn h₀ L m { s with heap := h, toks := tk } ((I, oI) :: (C, oC) :: (D, lst ys) :: news) (J (i + 1) (ys ++ [y])) s₄) E' s₃
        else CTurn h₀ L m { s with heap := h, toks := tk } ((I, oI) :: (C, oC) :: (D, lst ys) :: news) (J (i + 1) ys) s₃) E' { s with heap := h, toks := tk })
    (fin : ∀ D ys h tk, J kvs.length ys → Fr h₀ L h m → News h₀ L h ((D, lst ys) :: news) → (∀ q ∈ news, q.1 < D) → Fin D ys news { s with heap := h, toks := tk }) :
    wpAny (model prog w) A (pyIter (.ref v)) (CW prog w A h₀ L m env (.Name x px) ifs elt scope cl Fin) E s := by
  obtain ⟨ep, hat⟩ := (kda_dict N hd hdo).dictAt
  have hne : d ≠ s.heap.objs.size := Nat.ne_of_lt (Heap.lt_size (N _ hd).1)
  refine wpAny_pyIter_values (knd := knd) ⟨_, (N _ hv).1, rfl, rfl⟩ hat ?_
  have up : ∀ (o' : Obj) b o, s.heap.get? b = some o → (s.heap.push o').get? b = some o := fun o' b o e => Heap.get?_push_of_some _ e
  refine ⟨s.heap.objs.size, _, kvs.length, _, _, news, fun _ u m₂ => m₂ x = some u, J, rfl, Walks.dictValues (knd := knd) hh s.heap.objs.size d hne kvs ep, hsz, fun i h st => let ⟨⟨o, ho, _⟩, _⟩ := st; ⟨o, ho⟩, ⟨⟨_, Heap.get?_push_size _ rfl, rfl, rfl⟩, hat.push _⟩, ?_, ?_,
    F.push _, N.grown (up _), Nat.ne_of_lt F.ns.lt, next_is_new F, fun p hp => Nat.ne_of_lt (Heap.lt_size (N p hp).1), hJ, fun _ _ _ _ _ _ _ _ _ _ _ hn k => asg_name hkind hx hn k, ?_, ?_⟩
  · intro b hb
    show b < (s.heap.push _).objs.size
    rw [Heap.size_push]
    rcases List.mem_cons.mp hb with rfl | hb
    · exact Nat.lt_succ_self _
    · rw [List.mem_singleton.mp hb]; exact Nat.lt_succ_of_lt (Heap.lt_size (N _ hd).1)
  · intro b hb
    rcases List.mem_cons.mp hb with rfl | hb
    · exact .inl rfl
    · rw [List.mem_singleton.mp hb]; exact .inr (.inr ⟨_, hd⟩)
  · intro i u ys oI C oC D m₂ h tk E' hi hP hJ' hC hB F' N' o3 ne
    obtain ⟨k, hk⟩ := hP
    exact turn i u ys _ oI C oC D m₂ h tk E' (by rw [List.getElem?_map, hk]; rfl) hJ' hC hB F' N' o3 ne
  · intro D ys h tk hJ' _ F' N' hlt
    exact fin D ys h tk hJ' F' N' hlt
/-- the source: a list of the ledger -/
theorem cw_list {elt tg : Expr} {ifs : List Expr} {scope : Scope} {cl : List (Str × Addr)} {Fin : Addr → List Value → List (Addr × Obj) → Shared → Prop} {l : Addr} {vs : List Value} {ep : Nat} {news : List (Addr × Obj)} (Bd : Nat → Value → (Str → Option Value) → Prop) (J : Nat → List Value → Prop)
    (hh : A.handled = none) (F : Fr h₀ L s.heap m) (N : News h₀ L s.heap news) (hl : (l, listOf vs.toArray ep) ∈ news) (hsz : vs.length ≤ sizeLine) (hJ : J 0 [])
    (asg : ∀ I i v C m₀ (s₁ : Shared) Q' E', i < vs.length → vs[i]? = some v → (∃ l i, s₁.heap.IsListIter I l i) → News h₀ L s₁.heap news → s₁.heap.Ns C m₀ → (∀ h' tk m₂, h'.Ns C m₂ → Bd i v m₂ → (∀ b o, b ≠ C → s₁.heap.get? b = some o → h'.get? b = some o) → Q' { s₁ with heap := h', toks := tk }) →
      wpAny (model prog w) A (letOwnedTupleGo tg (.ref I) v) (fun _ s₂ => wpAny (model prog w) A (assign tg (compEnvC scope cl C env) v) (fun _ => Q') E' s₂) E' s₁)
    (turn : ∀ i u ys I oI C oC D m₂ h tk (E' : Value → Shared → Prop), vs[i]? = some u → J i ys → NsObj oC m₂ → Bd i u m₂ → Fr h₀ L h m → News h₀ L h ((I, oI) :: (C, oC) :: (D, lst ys) :: news) → Off3 I C D news → ((@Ne Nat I C) ∧ (@Ne Nat I D) ∧ (@Ne Nat C D)) →
      wpAny (model prog w) A (forIn ifs true fun c r => if r = true then do let ok ← isTrue c (compEnvC scope cl C env) (eval c (compEnvC scope cl C env)); pure (ForInStep.yield ok) else pure (ForInStep.yield r)) (fun ok s₃ =>
        if ok = true then wpAny (model prog w) A (eval elt (compEnvC scope cl C env)) (fun y s₄ => CTurn h₀ L m { s with heap := h, toks := tk } ((I, oI) :: (C, oC) :: (D, lst ys) :: news) (J (i + 1) (ys ++ [y])) s₄) E' s₃
        else CTurn h₀ L m { s with heap := h, toks := tk } ((I, oI) :: (C, oC) :: (D, lst ys) :: news) (J (i + 1) ys) s₃) E' { s with heap := h, toks := tk })
    (fin : ∀ D ys h tk, J vs.length ys → ys.length ≤ vs.length → Fr h₀ L h m → News h₀ L h ((D, lst ys) :: news) → (∀ q ∈ news, q.1 < D) → Fin D ys news { s with heap := h, toks := tk }) :
    wpAny (model prog w) A (pyIter (.ref l)) (CW prog w A h₀ L m env tg ifs elt scope cl Fin) E s := by
  have hls : s.heap.IsList l vs.toArray := ⟨_, (N _ hl).1, rfl, _, rfl⟩
  have hne : l ≠ s.heap.objs.size := Nat.ne_of_lt (Heap.lt_size (N _ hl).1)
  refine wpAny_pyIter_list hls ?_
  have up : ∀ (o' : Obj) b o, s.heap.get? b = some o → (s.heap.push o').get? b = some o := fun o' b o e => Heap.get?_push_of_some _ e
  have W := Walks.list (prog := prog) (w := w) hh s.heap.objs.size l hne vs.toArray
  have hlen : vs.toArray.size = vs.length := by simp
  rw [hlen] at W
  refine ⟨s.heap.objs.size, _, vs.length, _, _, news, Bd, J, rfl, W, hsz, fun i h st => let ⟨⟨o, ho, _⟩, _⟩ := st; ⟨o, ho⟩, ⟨⟨_, Heap.get?_push_size _ rfl, rfl, rfl⟩, hls.push _⟩, ?_, ?_,
    F.push _, N.grown (up _), Nat.ne_of_lt F.ns.lt, next_is_new F, fun p hp => Nat.ne_of_lt (Heap.lt_size (N p hp).1), hJ, ?_, ?_, ?_⟩
  · intro b hb
    show b < (s.heap.push _).objs.size
    rw [Heap.size_push]
    rcases List.mem_cons.mp hb with rfl | hb
    · exact Nat.lt_succ_self _
    · rw [List.mem_singleton.mp hb]; exact Nat.lt_succ_of_lt (Heap.lt_size (N _ hl).1)
  · intro b hb
    rcases List.mem_cons.mp hb with rfl | hb
    · exact .inl rfl
    · rw [List.mem_singleton.mp hb]; exact .inr (.inr ⟨_, hl⟩)
  · intro i v C m₀ s₁ Q' E' hi hP st N' hn k
    exact asg _ i v C m₀ s₁ Q' E' hi (by simpa using hP) ⟨_, _, st.1⟩ N' hn k
  · intro i u ys oI C oC D m₂ h tk E' hi hP hJ' hC hB F' N' o3 ne
    exact turn i u ys _ oI C oC D m₂ h tk E' (by simpa using hP) hJ' hC hB F' N' o3 ne
  · intro D ys h tk hJ' hl' F' N' hlt
    exact fin D ys h tk hJ' hl' F' N' hlt
end
end
section
set_option maxHeartbeats 8000000
theorem frag_on8 : (fun (_ : Params → Frag) => PySem.Challenge.rw_cy0005_05.Holds) hd.heap_39 → True := by
  k_fill
  intro _; trivial
open PySem.Calls PyProof.Rows.TI
section
variable {w : World} {A₀ A : Around} {base h₀ : Heap} {outer : List Env} {env : Env} {L : Addr} {m mg mb : Str → Option Value} {p : Program} {loose : List Str} {mean : ExcName → Option Value} {s : Shared}
  {R : Result → Shared → Prop} {news : List (Addr × Obj)}
theorem c_prepare {σ : Srt} {po nf : Value} {oN : Obj} {xs : List NI} {rest frs : List (Addr × Obj)} {n : Nat}
    (hh : A.handled = none) (hfr : A.frames = some (env :: outer)) (hdp : A.depth < 700) (hf : env.frame = some L) (hke : env.scope.kind = .function) (Fs : Frs outer frs) (hra : ∀ q ∈ rest, ∀ r ∈ frs, q.1 ≠ r.1)
    (X₀ : (hd.heap_39 w.params).In h₀) (T : Top p loose mean mg mb h₀) (F : Fr h₀ L s.heap m)
    (hs : SOK σ xs (rest ++ frs) n) (hn : n ≤ 1000) (hcl : Closed xs) (hup : ∀ x ∈ xs, ∀ v ∈ x.sv, x.node < intOf v) (hdN : oN.IsDictOf (intKind Pr w) (kvsN xs))
    (N : News h₀ L s.heap (ledS σ w .none po nf oN xs (rest ++ frs)))
    (hq : ∀ h' tk' frs' (Rl : Addr) (rs : List Value) (ep : Nat), SameUp frs frs' → Fr h₀ L h' m → (∀ v ∈ rs, IsI v) → rs.map intOf = (xs.filter fun x => decide (x.np = 0)).map (·.node) →
      (∀ q ∈ ledS σ w .none po nf oN xs (rest ++ frs), q.1 < Rl) → News h₀ L h' ((Rl, listOf rs.toArray ep) :: ledS σ w (.ref Rl) po nf oN xs (rest ++ frs')) → R (.ok (.ret .none)) { s with heap := h', toks := tk' }) :
    codeAny (model Pr w) A (.call (.ref 92) ⟨[.ref σ.S], []⟩) R s := by
  obtain ⟨_, d, _, gs, u⟩ := A
  dsimp only at hh hfr hdp
  subst hh hfr
  refine' enter_def (binds := [(Str.ofString "self", .ref σ.S)]) F X₀ N T ?k6 ?k7 ?k8 ?k9 ?kB ?_ ?c2 ?c3 ?c4 ?c5
  case k6 => k_is
  case k7 => k_is
  case k8 => k_room
  case k9 => exact BindsTo.of_eq rfl
  case c5 => decide
  case kB => exact locs rfl
  case c2 => exact rfl
  case c3 => exact rfl
  case c4 => exact rfl
  intro L' h' oL hoL hback hlt F' N'
  replace N' : News h₀ L' h' (ledS σ w .none po nf oN xs (rest ++ ((L, oL) :: frs))) := News.sub N' (by walk_at "sub")
  (try dsimp only)
  (try k_fold)
  walk_at "go3"
  refine comp_gen (cl := []) (h₀ := h₀) (L := L') (m := fun y => List.lookup y [(Str.ofString "self", Value.ref σ.S)].reverse) (by with_unfolding_all rfl) (by decide) rfl (by decide) ?_
  walk_at "go3"
  refine kdl_method (knd := intKind _ _) PySem.F.slot_dict_values PySem.F.type_dict_values (by k_asm) (by k_mem) hdN ?_
  walk_at "go3"
  dsimp only
  refine kdl_view_values (knd := intKind _ _) (by k_asm) (by k_asm) (by k_mem) hdN hs.lo ?_
  intro V h1 F1 N1 l1
  refine cw_values (knd := intKind _ _) (fun i ys => (∀ v ∈ ys, IsI v) ∧ ys.map intOf = ((xs.take i).filter fun x => decide (x.np = 0)).map (·.node)) rfl rfl rfl F1 N1 (.head _) (by simp [ledS]) hdN (by simp only [kvsN, List.length_map]; rw [sizeLine_eq]; have := hs.len; omega) ⟨fun _ h => (nomatch h), rfl⟩ ?_ ?_
  · intro i u ys I oI C oC D m₂ h2 tk2 E' hu hJ hC hm₂ F2 N2 o3 ne3
    obtain ⟨x, hx, hxu⟩ : ∃ x, xs[i]? = some x ∧ u = .ref x.info := by
      simp only [kvsN, List.map_map, List.getElem?_map] at hu
      cases e : xs[i]? with
      | none => rw [e] at hu; cases hu
      | some x => rw [e] at hu; cases hu; exact ⟨x, rfl, rfl⟩
    subst hxu
    have hmem : ∀ q ∈ x.led, q ∈ (I, oI) :: (C, oC) :: (D, LCg.lst ys) :: (V, ({ cls := .type "dict_values", data := .fields #[.ref σ.Nd] } : Obj)) :: ledS σ w .none po nf oN xs (rest ++ (L, oL) :: frs) := fun q hq => by
      have : q ∈ ledN xs := List.mem_flatMap.mpr ⟨x, List.mem_of_getElem? hx, hq⟩
      simp only [ledS, List.mem_cons, List.mem_append]; grind
    refine wpAny_tests_one ?_
    have N3 := News.dup (e := x.led) N2 hmem
    have e1 : xs.take (i + 1) = xs.take i ++ [x] := by rw [List.take_add_one, hx]; rfl
    have hyes : x.np = 0 → ∀ t, (∀ v ∈ ys ++ [Value.int x.node t], IsI v) ∧ (ys ++ [Value.int x.node t]).map intOf = ((xs.take (i + 1)).filter fun x => decide (x.np = 0)).map (·.node) := by
      intro h t
      refine ⟨fun v hv => ?_, ?_⟩
      · rcases List.mem_append.mp hv with h | h
        · exact hJ.1 v h
        · rw [List.mem_singleton.mp h]; exact ⟨_, _, rfl⟩
      · rw [e1, List.filter_append, List.map_append, List.map_append, hJ.2]; simp [h, intOf]
    have hno : ¬ x.np = 0 → (∀ v ∈ ys, IsI v) ∧ ys.map intOf = ((xs.take (i + 1)).filter fun x => decide (x.np = 0)).map (·.node) := by
      intro h
      refine ⟨hJ.1, ?_⟩
      rw [e1, List.filter_append, hJ.2]; simp [h]
    simp only [NI.led, List.cons_append, List.nil_append] at N3
    generalize hled : (I, oI) :: (C, oC) :: (D, LCg.lst ys) :: (V, ({ cls := .type "dict_values", data := .fields #[.ref σ.Nd] } : Obj)) :: ledS σ w .none po nf oN xs (rest ++ (L, oL) :: frs) = led at *
    have hCl : (C, oC) ∈ led := by rw [← hled]; simp
    replace N3 := News.dup (e := [(C, oC)]) N3 (fun q hq => by rw [List.mem_singleton.mp hq]; simp [hCl])
    simp only [List.cons_append, List.nil_append] at N3
    clear hq hback hlt l1 hmem
    walk_at "go3"
    · exact ⟨h2, _, rfl, F2, N2, hyes (by assumption) _⟩
    · exact ⟨h2, _, rfl, F2, N2, hno (by assumption)⟩
  · rintro Rl ys h2 tk2 ⟨hys, hyn⟩ F2 N2 l2
    obtain ⟨ro, hro⟩ : ∃ ro, ledN xs ++ (rest ++ (L, oL) :: frs) = ro := ⟨_, rfl⟩
    have nd := hs.nd
    unfold addrS at nd
    simp only [List.nodup_cons, List.mem_cons, not_or] at nd
    have f1 : @Ne Nat σ.S σ.D := nd.1.1
    have f2 : @Ne Nat σ.D σ.Nd := nd.2.1.1
    have f3 : @LT.lt Nat _ σ.D Rl := l2 (σ.D, σ.d w .none po nf) (by simp [ledS])
    have f5 : @LT.lt Nat _ σ.D V := l1 (σ.D, σ.d w .none po nf) (by simp [ledS])
    have f4 : ∀ q ∈ ro, q.1 ≠ σ.D := fun q hq => by
      rw [← hro] at hq
      simp only [List.mem_append, List.mem_cons] at hq
      rcases hq with h | h | rfl | h
      · exact fun e => nd.2.1.2 (by rw [← e, ← map_ledN]; exact List.mem_map_of_mem h)
      · exact hs.off σ.D (by unfold addrS; simp) q (List.mem_append_left _ h)
      · exact fun e => (N (σ.D, σ.d w .none po nf) (by simp [ledS])).2.1 e.symm
      · exact hs.off σ.D (by unfold addrS; simp) q (List.mem_append_right _ h)
    replace N2 : News h₀ L' h2 ((Rl, LCg.lst ys) :: (V, ({ cls := .type "dict_values", data := .fields #[.ref σ.Nd] } : Obj)) :: (σ.S, instObj 137 σ.D) :: (σ.D, σ.d w .none po nf) :: (σ.Nd, oN) :: ro) := hro ▸ N2
    clear N1 N'
    walk_at "go"
    rename News h₀ L' _ _ => N3
    rename Fr h₀ L' _ _ => F3
    have N4 : News h₀ L' _ (ledS σ w (.ref Rl) po nf oN xs (((Rl, LCg.lst ys) :: (V, ({ cls := .type "dict_values", data := .fields #[.ref σ.Nd] } : Obj)) :: rest) ++ (L, oL) :: frs)) := News.sub N3 (by rw [← hro]; walk_at "sub")
    have hs4 : SOK σ xs (((Rl, LCg.lst ys) :: (V, ({ cls := .type "dict_values", data := .fields #[.ref σ.Nd] } : Obj)) :: rest) ++ (L, oL) :: frs) n := by
      refine ⟨hs.nd, fun a ha q hq => ?_, hs.keys, hs.isi, hs.len, hs.slen, hs.lo⟩
      obtain ⟨q', hq', e⟩ := addrS_led (w := w) (rv := .none) (po := po) (nf := nf) (oN := oN) (rest := rest ++ (L, oL) :: frs) a ha
      obtain ⟨q2, hq2, e2⟩ := addrS_led (w := w) (rv := .none) (po := po) (nf := nf) (oN := oN) (rest := rest ++ frs) a ha
      simp only [List.cons_append, List.mem_cons, List.mem_append] at hq
      rcases hq with rfl | rfl | h | rfl | h
      · exact fun e' => absurd (l2 q' (.tail _ hq')) (by rw [e, ← e']; exact Nat.lt_irrefl _)
      · exact fun e' => absurd (l1 q' hq') (by rw [e, ← e']; exact Nat.lt_irrefl _)
      · exact hs.off a ha q (List.mem_append_left _ h)
      · exact fun e' => (N q2 hq2).2.1 (e2.trans e'.symm)
      · exact hs.off a ha q (List.mem_append_right _ h)
    have hLn : ∀ q ∈ ledS σ w .none po nf oN xs (rest ++ frs), @LT.lt Nat _ q.1 V ∧ @LT.lt Nat _ q.1 Rl := fun q hq => by
      have hq' : q ∈ ledS σ w .none po nf oN xs (rest ++ (L, oL) :: frs) := by
        simp only [ledS, List.mem_cons, List.mem_append] at hq ⊢; grind
      exact ⟨l1 q hq', l2 q (.tail _ hq')⟩
    have hLV : @LT.lt Nat _ L V ∧ @LT.lt Nat _ L Rl := by
      have hq' : (L, oL) ∈ ledS σ w .none po nf oN xs (rest ++ (L, oL) :: frs) := by simp [ledS]
      exact ⟨l1 _ hq', l2 _ (.tail _ hq')⟩
    have hVR : @LT.lt Nat _ V Rl := l2 _ (.head _)
    have ap : ∀ q ∈ ((Rl, LCg.lst ys) :: (V, ({ cls := .type "dict_values", data := .fields #[.ref σ.Nd] } : Obj)) :: rest), ∀ r ∈ (L, oL) :: frs, q.1 ≠ r.1 := by
      intro q hq r hr
      have hr' : @LT.lt Nat _ r.1 V ∧ @LT.lt Nat _ r.1 Rl := by
        rcases List.mem_cons.mp hr with rfl | hr
        · exact hLV
        · exact hLn r (by simp only [ledS, List.mem_cons, List.mem_append]; grind)
      rcases List.mem_cons.mp hq with rfl | hq
      · k_ne
      rcases List.mem_cons.mp hq with rfl | hq
      · k_ne
      rcases List.mem_cons.mp hr with rfl | hr
      · exact (N q (by simp only [ledS, List.mem_cons, List.mem_append]; grind)).2.1
      · exact hra q hq r hr
    refine wpAny_call (c_find_cycle (frs := (L, oL) :: frs) rfl rfl (by k_room) rfl rfl ⟨by rw [hke]; decide, hf, hoL, Fs⟩ ap X₀ T F3 hs4 hn hcl hup hdN N4 ?_)
    intro h5 tk5 frs5 hsu F5 N5
    have post : ∀ h5 m5, Fr h₀ L' h5 m5 → News h₀ L' h5 (ledS σ w (.ref Rl) po nf oN xs (((Rl, LCg.lst ys) :: (V, ({ cls := .type "dict_values", data := .fields #[.ref σ.Nd] } : Obj)) :: rest) ++ frs5)) → ∃ frs', SameUp frs frs' ∧ Fr h₀ L h5 m ∧ News h₀ L h5 ((Rl, listOf ys.toArray ys.length) :: ledS σ w (.ref Rl) po nf oN xs (rest ++ frs')) := by
      clear N5 F5
      intro h5 m5 F5 N5
      cases frs5 with
      | nil => exact hsu.elim
      | cons q fr =>
        obtain ⟨q1, qo⟩ := q
        obtain ⟨e1, ⟨sl, e2⟩, hfr'⟩ := hsu
        replace e1 : q1 = L := e1
        replace e2 : qo = { oL with slots := sl } := e2
        have hL : h5.get? L = some { oL with slots := sl } := by
          have := (N5 (q1, qo) (by simp [ledS])).1
          rw [e1, e2] at this
          exact this
        refine ⟨fr, hfr', hback h5 sl hL F5.keep, ?_⟩
        intro q hqm
        have hm : q ∈ ledS σ w (.ref Rl) po nf oN xs (((Rl, LCg.lst ys) :: (V, ({ cls := .type "dict_values", data := .fields #[.ref σ.Nd] } : Obj)) :: rest) ++ (q1, qo) :: fr) := by
          simp only [ledS, List.cons_append, List.mem_cons, List.mem_append] at hqm ⊢; grind
        refine ⟨(N5 q hm).1, ?_, (N5 q hm).2.2⟩
        rcases List.mem_cons.mp hqm with rfl | hqm
        · k_ne
        · obtain ⟨q', h1, h2⟩ : ∃ q' ∈ ledS σ w .none po nf oN xs (rest ++ frs), q'.1 = q.1 := by
            simp only [ledS, List.mem_cons, List.mem_append] at hqm
            rcases hqm with h | h | h | h | h | h
            · exact ⟨(σ.S, instObj 137 σ.D), by simp [ledS], by rw [h]⟩
            · exact ⟨(σ.D, σ.d w .none po nf), by simp [ledS], by rw [h]⟩
            · exact ⟨q, by simp [ledS, h], rfl⟩
            · exact ⟨q, by simp only [ledS, List.mem_cons, List.mem_append]; exact .inr (.inr (.inr (.inl h))), rfl⟩
            · exact ⟨q, by simp only [ledS, List.mem_cons, List.mem_append]; exact .inr (.inr (.inr (.inr (.inl h)))), rfl⟩
            · obtain ⟨q', h1, h2⟩ := hfr'.fwd q h
              exact ⟨q', by simp only [ledS, List.mem_cons, List.mem_append]; exact .inr (.inr (.inr (.inr (.inr h1)))), h2.symm⟩
          rw [← h2]
          exact (N q' h1).2.1
    have hl : ∀ q ∈ ledS σ w .none po nf oN xs (rest ++ frs), q.1 < Rl := fun q hq => (hLn q hq).2
    have hfin : ∀ h5 m5, Fr h₀ L' h5 m5 → News h₀ L' h5 (ledS σ w (.ref Rl) po nf oN xs (((Rl, LCg.lst ys) :: (V, ({ cls := .type "dict_values", data := .fields #[.ref σ.Nd] } : Obj)) :: rest) ++ frs5)) → ∀ tk', R (.ok (.ret .none)) { s with heap := h5, toks := tk' } := fun h5 m5 F5 N5 tk' => by
      obtain ⟨frs6, hsu6, F6, N6⟩ := post h5 m5 F5 N5
      exact hq h5 tk' frs6 Rl ys ys.length hsu6 F6 hys (by rw [hyn]; simp [kvsN]) hl N6
    clear hq hback hlt l1 N3 N4 hs4 N hLn hl ap post
    walk_at "go"
    exact hfin _ _ (by assumption) (by assumption) _
end
end
section
set_option maxHeartbeats 1000000
open PySem.Calls PyProof.Rows.LCg
section
variable {prog : Program} {w : World} {A : Around} {E : Value → Shared → Prop} {s : Shared} {h₀ : Heap} {L : Addr} {m : Str → Option Value} {env : Env}
/-- how a turn of a for ends -/
noncomputable def TurnF (h₀ : Heap) (L : Addr) (it : Addr × Obj) (Jn : (Str → Option Value) → List (Addr × Obj) → Prop) (s₁ : Shared) (Q : Flow → Shared → Prop) (f : Flow) (s₂ : Shared) : Prop :=
  match f with
  | .ret v => Q (.ret v) s₂
  | .brk => Q .next s₂
  | _ => ∃ h' tk m' nx, s₂ = { s₁ with heap := h', toks := tk } ∧ Fr h₀ L h' m' ∧ News h₀ L h' (it :: nx) ∧ (∀ p ∈ nx, p.1 ≠ it.1) ∧ Jn m' nx
/-- any target, any source that walks; the target's assignment is left to the walk -/
theorem for_walk {tg : Expr} {body : List Stmt} {I : Addr} {fp : List Addr} {n : Nat} {P : Nat → Value → Prop} {St : Nat → Heap → Prop} {m₀ : Str → Option Value} {news src : List (Addr × Obj)} {Q : Flow → Shared → Prop} {s₂ : Shared} (J : Nat → (Str → Option Value) → List (Addr × Obj) → Prop)
    (W : Walks prog w A I fp [I] n P St) (hIo : ∀ i h, St i h → ∃ o, h.get? I = some o) (hfn : ∀ b ∈ fp, b = I ∨ (∃ o, h₀.get? b = some o) ∨ ∃ o, (b, o) ∈ src) (hsrc : ∀ i m nx, J i m nx → ∀ q ∈ src, q ∈ nx)
    (hst : St 0 s₂.heap) (hs₂ : ∃ h tk, s₂ = { s with heap := h, toks := tk }) (F : Fr h₀ L s₂.heap m₀) (N : News h₀ L s₂.heap news) (hIL : L ≠ I) (hI₀ : h₀.get? I = none) (off : ∀ p ∈ news, p.1 ≠ I) (hj : J 0 m₀ news)
    (turn : ∀ i v m₁ nx h tk oI, i < n → P i v → J i m₁ nx → (∀ p ∈ nx, p.1 ≠ I) → St (i + 1) h → Fr h₀ L h m₁ → News h₀ L h ((I, oI) :: nx) →
      wpAny (model prog w) A (letOwnedTupleGo tg (.ref I) v) (fun _ s₁ => wpAny (model prog w) A (assign tg env v) (fun _ s₂ => wpAny (model prog w) A (execs body env) (TurnF h₀ L (I, oI) (J (i + 1)) { s with heap := h, toks := tk } Q) (fun _ _ => False) s₂) (fun _ _ => False) s₁) (fun _ _ => False) { s with heap := h, toks := tk })
    (done : ∀ m₁ nx h tk, J n m₁ nx → Fr h₀ L h m₁ → News h₀ L h nx → Q .next { s with heap := h, toks := tk }) :
    codeAny (model prog w) A (.forLoop tg (.ref I) body [] env) (fun r s' => match r with | .ok f => Q f s' | .error e => cameBackBy (model prog w) A env E e s') s₂ := by
  obtain ⟨h2, tk2, rfl⟩ := hs₂
  refine codeAny_forLoop_any (fun k s' => E5 fun h tk m₁ nx i => A8 (s' = { s with heap := h, toks := tk }) (i ≤ n) (k = n + 1 - i) (St i h) (Fr h₀ L h m₁) (News h₀ L h nx) ((∀ p ∈ nx, p.1 ≠ I)) (J i m₁ nx)) ?_ (n + 1) ⟨h2, tk2, m₀, news, 0, rfl, Nat.zero_le _, rfl, hst, F, N, off, hj⟩
  intro k s' hI0
  refine hide fun G hG => ?_
  obtain ⟨h, tk, m₁, nx, i, rfl, hi, rfl, hst', F', N', off', hj'⟩ := hI0
  refine hG ?_
  clear hG G
  by_cases hlt : i < n
  · refine W.item i _ _ _ hlt hst' fun v h₃ tk₃ hPv hst₃ hk₃ => ?_
    obtain ⟨oI, heI⟩ := hIo _ _ hst₃
    have F₃ : Fr h₀ L h₃ m₁ := fr_but F' hk₃ hIL hI₀
    have N₃ : News h₀ L h₃ nx := news_but N' hk₃ off'
    have N₄ : News h₀ L h₃ ((I, oI) :: nx) := fun p hp => by
      rcases List.mem_cons.mp hp with rfl | hp
      · exact ⟨heI, Ne.symm hIL, hI₀⟩
      · exact N₃ p hp
    refine wpAny_mono (turn i v m₁ nx h₃ tk₃ oI hlt hPv hj' off' hst₃ F₃ N₄) (fun _ s₄ h₄ => wpAny_mono h₄ (fun _ s₅ h₅ => wpAny_mono h₅ (fun f s₆ h₆ => ?_) fun _ _ x => x.elim) fun _ _ x => x.elim) fun _ _ x => x.elim
    have fin : TurnF h₀ L (I, oI) (J (i + 1)) { s with heap := h₃, toks := tk₃ } Q .next s₆ → ∃ m, m < n + 1 - i ∧ E5 fun h tk m₁ nx i => A8 (s₆ = { s with heap := h, toks := tk }) (i ≤ n) (m = n + 1 - i) (St i h) (Fr h₀ L h m₁) (News h₀ L h nx) ((∀ p ∈ nx, p.1 ≠ I)) (J i m₁ nx) := by
      intro hI0
      refine hide fun G hG => ?_
      obtain ⟨h', tk', m', nx', rfl, F₆, N₆, off₆, hj₆⟩ := hI0
      refine hG ?_
      clear hG G
      refine ⟨n + 1 - (i + 1), by omega, h', tk', m', nx', i + 1, rfl, hlt, rfl, W.frame _ _ _ hst₃ fun b hb o e => ?_, F₆, fun p hp => N₆ p (.tail _ hp), off₆, hj₆⟩
      rcases hfn b hb with rfl | ⟨o', ho'⟩ | ⟨o', ho'⟩
      · rw [heI] at e; cases e; exact (N₆ _ (.head _)).1
      · rw [F₃.keep _ _ ho'] at e; cases e; exact F₆.keep _ _ ho'
      · rw [(N₃ _ (hsrc _ _ _ hj' _ ho')).1] at e; cases e; exact (N₆ _ (.tail _ (hsrc _ _ _ hj₆ _ ho'))).1
    cases f with
    | ret v => exact h₆
    | brk => exact h₆
    | next => exact fin h₆
    | cont => exact fin h₆
  · obtain rfl : i = n := Nat.le_antisymm hi (Nat.not_lt.mp hlt)
    refine W.done _ _ _ hst' fun h₃ tk₃ hk₃ => wpAny_pure ?_
    exact done m₁ nx h₃ tk₃ hj' (fr_but F' hk₃ hIL hI₀) (news_but N' hk₃ off')
end
end
section
set_option maxHeartbeats 1000000
theorem sok_rest {σ : Srt} {xs : List NI} {rest rest' : List (Addr × Obj)} {n : Nat} (hs : SOK σ xs rest n) (h : ∀ a ∈ addrS σ xs, ∀ q ∈ rest', q.1 ≠ a) : SOK σ xs rest' n := ⟨hs.nd, h, hs.keys, hs.isi, hs.len, hs.slen, hs.lo⟩
end
section
set_option maxHeartbeats 8000000
theorem frag_on10 : (fun (_ : Params → Frag) => PySem.Challenge.rw_cy0005_05.Holds) hd.heap_39 → True := by
  k_fill
  intro _; trivial
section
variable {w : World} {A₀ A : Around} {base h₀ : Heap} {outer : List Env} {env : Env} {L : Addr} {m mg mb : Str → Option Value} {p : Program} {loose : List Str} {mean : ExcName → Option Value} {s : Shared}
  {Q : Value → Shared → Prop} {E : Value → Shared → Prop} {rest : List (Addr × Obj)}
/-- TopologicalSorter() -/
theorem c_new
    (hh : A.handled = none) (hfr : A.frames = some (env :: outer)) (hdp : A.depth < 700) (hf : env.frame = some L) (hke : env.scope.kind = .function)
    (B : Below A₀ base outer h₀) (X₀ : (hd.heap_39 w.params).In h₀) (T : Top p loose mean mg mb h₀) (F : Fr h₀ L s.heap m) (N : News h₀ L s.heap rest)
    (hq : ∀ h' tk' σ oN t1 t2, SOK σ [] rest 0 → (∀ q ∈ rest, q.1 < σ.S) → oN.IsDictOf (intKind Pr w) [] → Fr h₀ L h' m → News h₀ L h' (ledS σ w .none (.int 0 t1) (.int 0 t2) oN [] rest) → Q (.ref σ.S) { s with heap := h', toks := tk' }) :
    wpAny (model Pr w) A (call (.ref 137) []) Q E s := by
  obtain ⟨_, d, _, gs, u⟩ := A
  dsimp only at hh hfr hdp
  subst hh hfr
  refine' call_cls (fI := 73) F X₀ N ?k4 ?k5 ?k6 ?_
  case k4 => k_is
  case k5 => k_is
  case k6 => k_is
  have fin : ∀ h' tk' (σ : Srt) oN t1 t2, oN.IsDictOf (intKind Pr w) [] → Fr h₀ L h' m → News h₀ L h' ((σ.Nd, oN) :: (σ.S, instObj 137 σ.D) :: (σ.D, σ.d w .none (.int 0 t1) (.int 0 t2)) :: rest) → @LT.lt Nat _ σ.D σ.S → @LT.lt Nat _ σ.S σ.Nd → AllLt σ.D rest → (σ.Nd == sysModules) = false →
      Q (.ref σ.S) { s with heap := h', toks := tk' } := by
    intro h' tk' σ oN t1 t2 hi9 F9 N9 e1 e2 l1 lo9
    refine hq _ _ σ _ t1 t2 ⟨?_, ?_, List.nodup_nil, fun _ h => (nomatch h), Nat.le_refl _, fun _ h => (nomatch h), lo9⟩ ?_ hi9 F9 (News.sub N9 fun q hq => ?_)
    · unfold addrS addrN
      simp only [List.flatMap_nil, List.nodup_cons, List.mem_cons, List.not_mem_nil, or_false, not_or, not_false_eq_true, List.nodup_nil, and_true]
      exact ⟨⟨neN (by omega), neN (by omega)⟩, neN (by omega)⟩
    · intro a ha q hq
      have h1 : @LT.lt Nat _ q.1 σ.D := allLt_mem l1 q hq
      unfold addrS addrN at ha
      simp only [List.flatMap_nil, List.mem_cons, List.not_mem_nil, or_false] at ha
      rcases ha with rfl | rfl | rfl <;> k_ne
    · intro q hq
      have h1 : @LT.lt Nat _ q.1 σ.D := allLt_mem l1 q hq
      exact ltN (by omega)
    · simp only [ledS, ledN, List.flatMap_nil, List.nil_append, List.mem_cons] at hq ⊢
      rcases hq with h | h | h | h
      · exact .inr (.inl h)
      · exact .inr (.inr (.inl h))
      · exact .inl h
      · exact .inr (.inr (.inr h))
  intro x d' h' F' N' l1 l2
  replace l1 := allLt_of l1
  k_lt2 l2
  refine' code_def (binds := [(Str.ofString "self", .ref x), (Str.ofString "graph", .none)]) B F' X₀ N' T rfl hf hke ?k6 ?k7 ?k8 ?k9 ?kB ?_ ?c2 ?c3 ?c4 ?c5
  case k6 => k_is
  case k7 => k_is
  case k8 => k_room
  case k9 => first | exact BindsTo.of_eq rfl | exact binds_K (by k_in) rfl (by k_is) rfl rfl rfl
  case c5 => decide
  case kB => exact locs rfl
  case c2 => exact rfl
  case c3 => exact rfl
  case c4 => exact rfl
  intro g' L' h' FG' F' N' B' X' T'
  (try dsimp only)
  k_fold
  walk_at "go"
  rename (_ == sysModules) = false => lo9
  rename _ ∧ _ ∧ AllLt _ rest => l9
  exact fin _ _ ⟨x, d', _, _, _, _, _⟩ _ _ _ (by assumption) (by assumption) (by assumption) l2 l9.1 l1 lo9
end
end
section
set_option maxHeartbeats 8000000
open PySem.Calls PyProof.Rows.LCg
/-- the law's own body and scope, taken out of the program -/
noncomputable def lawOf (p : Program) : List Stmt × Scope := match p.main.body.getLast? with
  | some (.FunctionDef _ _ body _ _ _ sc _ _ _) => (body, sc)
  | _ => ([], { kind := .function, names := [], isGenerator := false, isCoroutine := false })
noncomputable def lawB : List Stmt := (lawOf PySem.Challenge.pw_cy0005_05).1
noncomputable def lawS : Scope := (lawOf PySem.Challenge.pw_cy0005_05).2
noncomputable abbrev lawE (L fa : Addr) (cv : Value) : Env := envOfC (Str.ofString "law") lawS L fa cv
noncomputable def lawSt (i : Nat) : Stmt := lawB.getD i (.Pass ⟨0, 0, 0, 0⟩)
/-- the frame's map, but for the names that a loop stores -/
noncomputable def Agr (ys : List Str) (m₀ m : Str → Option Value) : Prop := ∀ y, ys.contains y = false → m y = m₀ y
theorem Agr.rfl' {ys : List Str} {m₀ : Str → Option Value} : Agr ys m₀ m₀ := fun _ _ => rfl
theorem Agr.eq {ys : List Str} {m₀ m : Str → Option Value} (h : Agr ys m₀ m) : m = fun y => if ys.contains y then m y else m₀ y := by
  funext y
  cases c : ys.contains y with
  | true => rfl
  | false => simp only [Bool.false_eq_true, if_false]; exact h y c
theorem Agr.put {ys : List Str} {m₀ m : Str → Option Value} {x : Str} {v : Option Value} (hx : ys.contains x = true) (h : Agr ys m₀ m) : Agr ys m₀ (fun y => if y = x then v else m y) := by
  intro y hy
  have : y ≠ x := fun e => by rw [e, hx] at hy; cases hy
  simp only [if_neg this]; exact h y hy
theorem Agr.base {ys : List Str} {m₀ u : Str → Option Value} : Agr ys m₀ (fun y => if ys.contains y then u y else m₀ y) := fun y hy => by simp only [hy, Bool.false_eq_true, if_false]
section
variable {prog : Program} {w : World} {A : Around} {E : Value → Shared → Prop} {s : Shared} {h₀ : Heap} {L : Addr} {m : Str → Option Value} {env : Env}
theorem own_name {x : Str} {px : Pos} {it v : Value} : letOwnedTupleGo (.Name x px) it v = pure () := rfl
theorem turn_name {x : Str} {px : Pos} {it v : Value} {body : List Stmt} {R : Flow → Shared → Prop}
    (h : wpAny (model prog w) A (storeName env x v) (fun _ s₂ => wpAny (model prog w) A (execs body env) R (fun _ _ => False) s₂) (fun _ _ => False) s) :
    wpAny (model prog w) A (letOwnedTupleGo (.Name x px) it v) (fun _ s₁ => wpAny (model prog w) A (assign (.Name x px) env v) (fun _ s₂ => wpAny (model prog w) A (execs body env) R (fun _ _ => False) s₂) (fun _ _ => False) s₁) (fun _ _ => False) s :=
  wpAny_of_eq own_name (wpAny_assign_Name h)
end
section
variable {prog : Program} {w : World} {A : Around} {E : Value → Shared → Prop} {s : Shared} {h₀ : Heap} {L : Addr} {m : Str → Option Value} {env : Env}
theorem intsAre_getD : ∀ {vs : List Value} {ns : List Int}, IntsAre vs ns → ∀ k, k < ns.length → ∃ t, vs[k]? = some (.int (ns.getD k 0) t)
  | _, _, .nil, k, h => by simp at h
  | _, _, .cons i t r, 0, _ => ⟨t, rfl⟩
  | _, _, .cons i t r, k + 1, h => by simpa using intsAre_getD r k (by simpa using h)
end
end
section
set_option maxHeartbeats 1000000
open PySem.Calls
theorem isI_of : ∀ {vs : List Value} {ns : List Int}, IntsAre vs ns → (∀ v ∈ vs, IsI v) ∧ vs.map intOf = ns
  | _, _, .nil => ⟨fun _ h => (nomatch h), rfl⟩
  | _, _, .cons i t r => by
    obtain ⟨h1, h2⟩ := isI_of r
    refine ⟨fun v hv => ?_, by rw [List.map_cons, h2]; rfl⟩
    rcases List.mem_cons.mp hv with rfl | hv
    · exact ⟨_, _, rfl⟩
    · exact h1 v hv
section
variable {prog : Program} {w : World} {A : Around} {E : Value → Shared → Prop} {s : Shared} {h₀ : Heap} {L : Addr} {m : Str → Option Value} {news : List (Addr × Obj)}
/-- sorted(<a list or a tuple of ints>) -/
theorem sorted_seq {o : Obj} {T : String} {a : Addr} {vs : List Value} {n : Nat} {Q : Value → Shared → Prop} (F : Fr h₀ L s.heap m) (N : News h₀ L s.heap news) (ha : (a, o) ∈ news) (hc : o.cls = .type T) (hd : o.data = .seq vs.toArray n) (hT : T = "list" ∨ T = "tuple") (hi : ∀ v ∈ vs, IsI v) (h64 : vs.length < 64)
    (h : ∀ h' Sl (ws : List Value) e, Fr h₀ L h' m → News h₀ L h' ((Sl, listOf ws.toArray e) :: news) → (∀ q ∈ news, q.1 < Sl) → (∀ v ∈ ws, IsI v) → (ws.map intOf).Perm (vs.map intOf) → (ws.map intOf).Pairwise (· ≤ ·) → Q (.ref Sl) { s with heap := h' }) :
    wpAny (model prog w) A (call (.builtin "sorted") [.ref a]) Q E s := by
  refine Calls.call_function_entry kind_sorted plain_sorted entry_sorted (args_sorted1 _) ?_
  unfold Builtin.«sorted»
  refine wpAny_bind (m := checkCount "sorted" 1 1 _) (wpAny_pure ?_)
  refine wpAny_bind (wpAny_collect_seq a hT (N _ ha).1 hc hd (fun h1 hk => ?_) (by rw [sizeLine_eq, List.size_toArray]; omega))
  refine wpAny_bind (wpAny_newList ?_)
  have F1 : Fr h₀ L h1 m := F.kept hk
  have N1 : News h₀ L h1 news := N.grown hk
  have hoL : (h1.push (seqObj "list" vs.toArray 0)).get? h1.objs.size = some (seqObj "list" vs.toArray 0) := Heap.get?_push_size _ rfl
  show wpAny _ _ _ _ _ { s with heap := h1.push (seqObj "list" vs.toArray 0) }
  refine wpAny_bind (wpAny_holding (wpAny_call_entry slot_list_sort ⟨_, hoL, rfl⟩ entry_list_sort (list_sort_tree hoL (intsAre_of hi) h64 fun out ns' a1 a2 a3 => ⟨_, rfl, ?_⟩) (args_list_sort _)))
  refine wpAny_pure ⟨_, rfl, ?_⟩
  have hold : ∀ b o, h1.get? b = some o → (sortedHeap (h1.push (seqObj "list" vs.toArray 0)) h1.objs.size vs out).get? b = some o := fun b o e => by
    have hlt := Heap.lt_size e
    rw [sortedHeap_old (Nat.ne_of_lt hlt) (by rw [Heap.size_push]; exact Nat.lt_succ_of_lt hlt)]
    exact Heap.get?_push_of_some _ e
  obtain ⟨e, he⟩ := sortedHeap_at (vs := vs) (n := 0) (out := out) hoL
  obtain ⟨i1, i2⟩ := isI_of a1
  refine h _ h1.objs.size out.toList e (F1.kept hold) (N1.kept_cons F1 hold (Nat.le_refl _) he) (fun q hq => Heap.lt_size (N1 q hq).1) i1 (by rw [i2]; exact a2) (by rw [i2]; exact a3)
end
end
local macro_rules | `(tactic| walk_at "got") => `(tactic| repeat' (walk_at "zl"; (fail_if_success with_reducible first | show wpAny _ _ (compareOp CmpOp.Eq (Value.int _ _) (Value.int _ _)) _ _ _ | show wpAny _ _ (call (Value.builtin "sorted") _ _) _ _ _); walk_at "zz"))
section
set_option maxHeartbeats 8000000
theorem frag_on15 : (fun (_ : Params → Frag) => PySem.Challenge.rw_cy0005_05.Holds) hd.heap_39 → True := by
  k_fill
  intro _; trivial
theorem eqf {prog : Program} {w : World} {A : Around} {E : Value → Shared → Prop} {s : Shared} {a b : Int} {t u : Tok} {Q : Value → Shared → Prop} (hab : a ≠ b) (h : Q (.bool false) s) : wpAny (model prog w) A (compareOp .Eq (.int a t) (.int b u)) Q E s :=
  PyProof.Rows.eq_int (by rw [show (a == b) = false by simpa using hab]; exact h)
theorem eqt {prog : Program} {w : World} {A : Around} {E : Value → Shared → Prop} {s : Shared} {a b : Int} {t u : Tok} {Q : Value → Shared → Prop} (hab : a = b) (h : Q (.bool true) s) : wpAny (model prog w) A (compareOp .Eq (.int a t) (.int b u)) Q E s :=
  PyProof.Rows.eq_int (by rw [show (a == b) = true by simpa using hab]; exact h)
section
variable {w : World} {A₀ A : Around} {base h₀ : Heap} {L fa : Addr} {cv : Value} {m mg mb : Str → Option Value} {p : Program} {loose : List Str} {mean : ExcName → Option Value} {s : Shared}
  {Q : Value → Shared → Prop} {E : Value → Shared → Prop} {rest : List (Addr × Obj)}
/-- nothing but prepare goes ahead of it -/
theorem told_early {σ : Srt} {k way : Int} {tk1 tk2 : Tok} {po nf : Value} (hw0 : way ≠ 0)
    (hh : A.handled = none) (hfr : A.frames = some [lawE L fa cv]) (hdp : A.depth < 600) (B : Below A₀ h₀ [] h₀) (X₀ : (hd.heap_39 w.params).In h₀) (T : Top p loose mean mg mb h₀)
    (F : Fr h₀ L s.heap m) (N : News h₀ L s.heap ((σ.S, instObj 137 σ.D) :: (σ.D, σ.d w .none po nf) :: rest))
    (hq : ∀ h' tk' t, Fr h₀ L h' m → News h₀ L h' ((σ.S, instObj 137 σ.D) :: (σ.D, σ.d w .none po nf) :: rest) → Q (.str (Str.ofString "refused") t) { s with heap := h', toks := tk' }) :
    wpAny (model Pr w) A (call (.ref 148) [.ref σ.S, .int way tk1, .int k tk2]) Q E s := by
  obtain ⟨_, d, _, gs, un⟩ := A
  dsimp only at hh hfr hdp
  subst hh hfr
  conv in (occs := *) (lawE L fa cv) => all_goals unfold lawE
  conv in (occs := *) lawS => all_goals whnf
  walk1
  walk_at "got"
  refine eqf hw0 ?_
  walk_at "got"
  by_cases h1 : way = 1
  · refine eqt h1 ?_
    k_steps
    exact hq _ _ _ (by assumption) (by assumption)
  refine eqf h1 ?_
  walk_at "got"
  by_cases h2 : way = 2
  · refine eqt h2 ?_
    k_steps
    exact hq _ _ _ (by assumption) (by assumption)
  refine eqf h2 ?_
  k_steps
  rename News h₀ L _ _ => N9
  exact hq _ _ _ (by assumption) (News.sub N9 fun q hq => .tail _ hq)
/-- and prepare goes once -/
theorem told_again {σ : Srt} {k : Int} {tk1 tk2 : Tok} {po nf : Value} {Rl : Addr}
    (hh : A.handled = none) (hfr : A.frames = some [lawE L fa cv]) (hdp : A.depth < 600) (B : Below A₀ h₀ [] h₀) (X₀ : (hd.heap_39 w.params).In h₀) (T : Top p loose mean mg mb h₀)
    (F : Fr h₀ L s.heap m) (N : News h₀ L s.heap ((σ.S, instObj 137 σ.D) :: (σ.D, σ.d w (.ref Rl) po nf) :: rest))
    (hq : ∀ h' tk' t, Fr h₀ L h' m → News h₀ L h' ((σ.S, instObj 137 σ.D) :: (σ.D, σ.d w (.ref Rl) po nf) :: rest) → Q (.str (Str.ofString "refused") t) { s with heap := h', toks := tk' }) :
    wpAny (model Pr w) A (call (.ref 148) [.ref σ.S, .int 0 tk1, .int k tk2]) Q E s := by
  obtain ⟨_, d, _, gs, un⟩ := A
  dsimp only at hh hfr hdp
  subst hh hfr
  conv in (occs := *) (lawE L fa cv) => all_goals unfold lawE
  conv in (occs := *) lawS => all_goals whnf
  k_steps
  exact hq _ _ _ (by assumption) (by assumption)
/-- is_active -/
theorem told_active {σ : Srt} {k po nf : Int} {tk1 tk2 t1 t2 : Tok} {Rl : Addr} {rs : List Value} {ep : Nat}
    (hh : A.handled = none) (hfr : A.frames = some [lawE L fa cv]) (hdp : A.depth < 600) (B : Below A₀ h₀ [] h₀) (X₀ : (hd.heap_39 w.params).In h₀) (T : Top p loose mean mg mb h₀) (hrs : rs.length ≤ 10000)
    (F : Fr h₀ L s.heap m) (N : News h₀ L s.heap ((Rl, listOf rs.toArray ep) :: (σ.S, instObj 137 σ.D) :: (σ.D, σ.d w (.ref Rl) (.int po t1) (.int nf t2)) :: rest))
    (hq : ∀ h' tk', Fr h₀ L h' m → News h₀ L h' ((Rl, listOf rs.toArray ep) :: (σ.S, instObj 137 σ.D) :: (σ.D, σ.d w (.ref Rl) (.int po t1) (.int nf t2)) :: rest) → Q (.bool (decide (nf < po) || !rs.isEmpty)) { s with heap := h', toks := tk' }) :
    wpAny (model Pr w) A (call (.ref 148) [.ref σ.S, .int 2 tk1, .int k tk2]) Q E s := by
  obtain ⟨_, d, _, gs, un⟩ := A
  dsimp only at hh hfr hdp
  subst hh hfr
  conv in (occs := *) (lawE L fa cv) => all_goals unfold lawE
  conv in (occs := *) lawS => all_goals whnf
  walk1
  walk_at "got"
  refine eqf (by decide) ?_
  walk_at "got"
  refine eqf (by decide) ?_
  walk_at "got"
  refine eqt rfl ?_
  walk_at "got"
  (try dsimp only)
  refine wpAny_call (c_is_active (rs := rs) (po := po) (nf := nf) (t1 := t1) (t2 := t2) (ep := ep) (Rl := Rl) rfl rfl (by k_room) rfl rfl (by assumption) (by assumption) (by assumption) (by assumption) hrs (by assumption) ?_)
  intro h4 tk4 F4 N4
  (try dsimp only)
  k_steps
  exact hq _ _ (by assumption) (by assumption)
/-- sorted(get_ready()) -/
theorem told_ready {σ : Srt} {k po : Int} {nf : Value} {tk1 tk2 t1 : Tok} {Rl : Addr} {rs : List Value} {ep n : Nat} {oN : Obj} {xs : List NI}
    (hh : A.handled = none) (hfr : A.frames = some [lawE L fa cv]) (hdp : A.depth < 600) (B : Below A₀ h₀ [] h₀) (X₀ : (hd.heap_39 w.params).In h₀) (T : Top p loose mean mg mb h₀) (hrs : rs.length < 64) (hri : ∀ v ∈ rs, IsI v) (hrm : ∀ v ∈ rs, intOf v ∈ xs.map (·.node))
    (hs : SOK σ xs ((Rl, listOf rs.toArray ep) :: rest) n) (hdN : oN.IsDictOf (intKind Pr w) (kvsN xs)) (hRr : ∀ q ∈ rest, q.1 ≠ Rl)
    (F : Fr h₀ L s.heap m) (N : News h₀ L s.heap ((Rl, listOf rs.toArray ep) :: ledS σ w (.ref Rl) (.int po t1) nf oN xs rest))
    (hq : ∀ h' tk' Sl (ws : List Value) e' ep' t' xs', Fr h₀ L h' m → SOK σ xs' ((Rl, listOf #[] ep') :: rest) n → oN.IsDictOf (intKind Pr w) (kvsN xs') → xs'.map NI.pn = (rs.map intOf).foldl outP (xs.map NI.pn) → (∀ v ∈ ws, IsI v) → (ws.map intOf).Perm (rs.map intOf) → (ws.map intOf).Pairwise (· ≤ ·) →
      (∀ q ∈ (Rl, listOf #[] ep') :: ledS σ w (.ref Rl) (.int (po + rs.length) t') nf oN xs' rest, q.1 < Sl) →
      News h₀ L h' ((Sl, listOf ws.toArray e') :: (Rl, listOf #[] ep') :: ledS σ w (.ref Rl) (.int (po + rs.length) t') nf oN xs' rest) → Q (.ref Sl) { s with heap := h', toks := tk' }) :
    wpAny (model Pr w) A (call (.ref 148) [.ref σ.S, .int 1 tk1, .int k tk2]) Q E s := by
  obtain ⟨_, d, _, gs, un⟩ := A
  dsimp only at hh hfr hdp
  subst hh hfr
  conv in (occs := *) (lawE L fa cv) => all_goals unfold lawE
  conv in (occs := *) lawS => all_goals whnf
  walk1
  walk_at "got"
  refine eqf (by decide) ?_
  walk_at "got"
  refine eqt rfl ?_
  walk_at "got"
  (try dsimp only)
  refine wpAny_call (c_get_ready (rs := rs) (po := po) (t1 := t1) (ep := ep) (Rl := Rl) rfl rfl (by k_room) rfl rfl (by assumption) (by assumption) (by assumption) (by assumption) (by omega) hri hrm hs hdN hRr (by assumption) ?_)
  intro h4 tk4 Tt ep4 t4 xs4 F4 hs4 hd4 hp4 hlt4 N4
  (try dsimp only)
  walk_at "got"
  refine sorted_seq (vs := rs) (n := 0) F4 N4 (.head _) rfl rfl (.inr rfl) hri hrs ?_
  intro h5 Sl ws e5 F5 N5 hlt5 hwi hwp hws
  k_steps
  rename News h₀ L _ _ => N9
  refine hq _ _ Sl ws e5 ep4 t4 xs4 (by assumption) hs4 hd4 hp4 hwi hwp hws (fun q hq => hlt5 q (.tail _ hq)) (News.sub N9 fun q hq => ?_)
  rcases List.mem_cons.mp hq with rfl | hq
  · exact .head _
  · exact .tail _ (.tail _ hq)
/-- done(node), given and not done -/
theorem told_done {σ : Srt} {k way nf : Int} {po : Value} {tk1 tk2 t1 : Tok} {Rl : Addr} {rs : List Value} {ep n : Nat} {oN : Obj} {xs : List NI} (hw : way ≠ 0 ∧ way ≠ 1 ∧ way ≠ 2)
    (hh : A.handled = none) (hfr : A.frames = some [lawE L fa cv]) (hdp : A.depth < 600) (B : Below A₀ h₀ [] h₀) (X₀ : (hd.heap_39 w.params).In h₀) (T : Top p loose mean mg mb h₀) (hri : ∀ v ∈ rs, IsI v)
    (hlen : rs.length + n ≤ 1000000) (hvm : k ∈ xs.map (·.node)) (hgo : ∀ p, lookP (xs.map NI.pn) k = some p → p.np = -1)
    (hs : SOK σ xs ((Rl, listOf rs.toArray ep) :: rest) n) (hcl : Closed xs) (hdN : oN.IsDictOf (intKind Pr w) (kvsN xs)) (hRr : ∀ q ∈ rest, q.1 ≠ Rl)
    (F : Fr h₀ L s.heap m) (N : News h₀ L s.heap ((Rl, listOf rs.toArray ep) :: ledS σ w (.ref Rl) po (.int nf t1) oN xs rest))
    (hq : ∀ h' tk' ep' t' xs' (rs' : List Value), Fr h₀ L h' m → xs'.map NI.st = xs.map NI.st → (∀ v ∈ rs', IsI v) → (xs'.map NI.pn, rs'.map intOf) = doneP (xs.map NI.pn, rs.map intOf) k →
      News h₀ L h' ((Rl, listOf rs'.toArray ep') :: ledS σ w (.ref Rl) po (.int (nf + 1) t') oN xs' rest) → Q .none { s with heap := h', toks := tk' }) :
    wpAny (model Pr w) A (call (.ref 148) [.ref σ.S, .int way tk1, .int k tk2]) Q E s := by
  obtain ⟨_, d, _, gs, un⟩ := A
  dsimp only at hh hfr hdp
  subst hh hfr
  conv in (occs := *) (lawE L fa cv) => all_goals unfold lawE
  conv in (occs := *) lawS => all_goals whnf
  walk1
  walk_at "got"
  refine eqf hw.1 ?_
  walk_at "got"
  refine eqf hw.2.1 ?_
  walk_at "got"
  refine eqf hw.2.2 ?_
  walk_at "got"
  (try dsimp only)
  refine wpAny_call (c_done (rs := rs) (vs := [.int k tk2]) (nf := nf) (t1 := t1) (ep := ep) (Rl := Rl) rfl rfl (by k_room) rfl rfl (by assumption) (by assumption) (by assumption) (by assumption) hri (fun v h => by rw [List.mem_singleton.mp h]; exact ⟨_, _, rfl⟩) (by simp only [List.length_singleton]; omega) (by simp) (fun v h => by rw [List.mem_singleton.mp h]; exact hvm) ?_ hs hcl hdN hRr (by assumption) ?_)
  · intro i x hx p hp
    match i, hx with
    | 0, hx =>
      cases hx
      exact hgo p hp
  intro h4 tk4 ep4 t4 xs4 rs4 F4 hst4 hi4 hp4 N4
  (try dsimp only)
  k_steps
  exact hq _ _ ep4 t4 xs4 rs4 (by assumption) hst4 hi4 hp4 (by assumption)
end
end
local macro_rules | `(tactic| walk_at "gou") => `(tactic| repeat' ((fail_if_success with_reducible first | show wpAny _ _ (call (Value.builtin "dict.get") _ _) _ _ _ | show wpAny _ _ (eval (PySem.Expr.JoinedStr _ _) _) _ _ _ | show wpAny _ _ (compareOp CmpOp.Eq (Value.int _ _) (Value.int _ _)) _ _ _); walk_at "zz"))
local macro_rules | `(tactic| walk_at "gov") => `(tactic| repeat' ((fail_if_success with_reducible first | show wpAny _ _ (call (Value.builtin "dict.get") _ _) _ _ _ | show wpAny _ _ (joinParts _ (evalEach [] _)) _ _ _ | show wpAny _ _ (joinParts _ []) _ _ _ | show wpAny _ _ (compareOp CmpOp.Eq (Value.int _ _) (Value.int _ _)) _ _ _); walk_at "zz"))
section
set_option maxHeartbeats 8000000
theorem frag_on16 : (fun (_ : Params → Frag) => PySem.Challenge.rw_cy0005_05.Holds) hd.heap_39 → True := by
  k_fill
  intro _; trivial
/-- a text is reckoned: what it says does not matter -/
theorem fstr {prog : Program} {w : World} {A : Around} {E : Value → Shared → Prop} {s : Shared} {e : Expr} {env : Env} {Q : Value → Shared → Prop}
    (h1 : ∀ Q' : Value → Shared → Prop, (∀ X t tk, Q' (.str X t) { s with toks := tk }) → wpAny (model prog w) A (eval e env) Q' (fun _ _ => False) s) (h2 : ∀ X t tk, Q (.str X t) { s with toks := tk }) :
    wpAny (model prog w) A (eval e env) Q E s :=
  wpAny_mono (h1 Q h2) (fun _ _ x => x) fun _ _ x => x.elim
theorem joinParts_any {M : Model} {A : Around} {E : Value → Shared → Prop} {s : Shared} {out : Str} {env : Env} {Q : Value → Shared → Prop} (h : ∀ X t tk, Q (.str X t) { s with toks := tk }) (hsz : out.length ≤ sizeLine) : wpAny M A (joinParts out (evalEach [] env)) Q E s :=
  joinParts_nilE (joinParts_nil (h _ _ _) hsz)
section
variable {w : World} {A₀ A : Around} {base h₀ : Heap} {L fa : Addr} {cv : Value} {m mg mb : Str → Option Value} {p : Program} {loose : List Str} {mean : ExcName → Option Value} {s : Shared}
  {Q : Value → Shared → Prop} {E : Value → Shared → Prop} {rest : List (Addr × Obj)}
/-- done of what was never added -/
theorem told_none {σ : Srt} {k way : Int} {po nf : Value} {tk1 tk2 : Tok} {Rl : Addr} {oN : Obj} {xs : List NI} (hw : way ≠ 0 ∧ way ≠ 1 ∧ way ≠ 2) (hk : 0 ≤ k ∧ k < 8)
    (hh : A.handled = none) (hfr : A.frames = some [lawE L fa cv]) (hdp : A.depth < 600) (B : Below A₀ h₀ [] h₀) (X₀ : (hd.heap_39 w.params).In h₀) (T : Top p loose mean mg mb h₀)
    (lo : (σ.Nd == sysModules) = false) (hdN : oN.IsDictOf (intKind Pr w) (kvsN xs)) (hv : valueAt (kvsN xs) k = none)
    (F : Fr h₀ L s.heap m) (N : News h₀ L s.heap ((σ.S, instObj 137 σ.D) :: (σ.D, σ.d w (.ref Rl) po nf) :: (σ.Nd, oN) :: rest))
    (hq : ∀ h' tk' t, Fr h₀ L h' m → News h₀ L h' ((σ.S, instObj 137 σ.D) :: (σ.D, σ.d w (.ref Rl) po nf) :: (σ.Nd, oN) :: rest) → Q (.str (Str.ofString "refused") t) { s with heap := h', toks := tk' }) :
    wpAny (model Pr w) A (call (.ref 148) [.ref σ.S, .int way tk1, .int k tk2]) Q E s := by
  obtain ⟨_, d, _, gs, un⟩ := A
  dsimp only at hh hfr hdp
  subst hh hfr
  conv in (occs := *) (lawE L fa cv) => all_goals unfold lawE
  conv in (occs := *) lawS => all_goals whnf
  walk1
  walk_at "got"
  refine eqf hw.1 ?_
  walk_at "got"
  refine eqf hw.2.1 ?_
  walk_at "got"
  refine eqf hw.2.2 ?_
  walk_at "gou"
  rename News _ _ _ _ => N2
  rename Fr _ _ _ _ => F2
  rename _ ∧ _ ∧ _ ∧ AllLt _ rest => l2
  refine For_invVF F2 rfl rfl ?_
  walk1
  refine iter_tupM (vs := [.int k tk2]) (ep := 0) [Str.ofString "nodeinfo", Str.ofString "stat", Str.ofString "successor", Str.ofString "successor_info"] (fun i nx => i = 0 ∧ nx = (σ.S, instObj 137 σ.D) :: (σ.D, σ.d w (.ref Rl) po nf) :: (σ.Nd, oN) :: rest) rfl F2 N2 ?_ ⟨rfl, rfl⟩ ?_ ?_
  · obtain ⟨a1, a2, a3, a4⟩ := l2
    intro q hq
    rcases List.mem_cons.mp hq with rfl | hq
    · exact Nat.ne_of_lt a1
    rcases List.mem_cons.mp hq with rfl | hq
    · exact Nat.ne_of_lt a2
    rcases List.mem_cons.mp hq with rfl | hq
    · exact Nat.ne_of_lt a3
    · exact allLt_ne a4 (Nat.le_refl _) q hq
  · rintro i v u' nx h3 tk3 it hv ⟨rfl, rfl⟩ hoff F4 N4
    cases hv
    clear F2 N2 l2
    walk_at "gou"
    refine kdg_get1 (knd := intKind _ _) N4 (by simp) hdN lo (intKind_is _ _ _ _) none hv ?_
    dsimp only [Option.getD]
    walk_at "gou"
    rename News _ _ _ _ => N5
    rename Fr _ _ _ _ => F5
    refine fstr (s := { s with heap := _, toks := _ }) ?_ ?_
    · intro Q'
      intro hQ'
      clear hq
      walk_at "gov"
      refine joinParts_any ?_ ?_
      · exact hQ'
      · rcases (by omega : k = 0 ∨ k = 1 ∨ k = 2 ∨ k = 3 ∨ k = 4 ∨ k = 5 ∨ k = 6 ∨ k = 7) with rfl | rfl | rfl | rfl | rfl | rfl | rfl | rfl <;> decide +kernel
    · intro X t tk5
      k_steps
      rename News h₀ L _ _ => N9
      exact hq _ _ _ (by assumption) (News.sub N9 fun q hq => List.mem_append_left _ hq)
  · rintro u' nx h3 tk3 ⟨h0, _⟩
    cases h0
/-- done of what waits, is ready, or is done -/
theorem told_busy {σ : Srt} {k way np : Int} {po nf : Value} {tk1 tk2 tn tp : Tok} {Rl info dx sl : Addr} {oN : Obj} {xs : List NI} (hw : way ≠ 0 ∧ way ≠ 1 ∧ way ≠ 2) (hk : 0 ≤ k ∧ k < 8) (hnp : np = -2 ∨ 0 ≤ np)
    (hh : A.handled = none) (hfr : A.frames = some [lawE L fa cv]) (hdp : A.depth < 600) (B : Below A₀ h₀ [] h₀) (X₀ : (hd.heap_39 w.params).In h₀) (T : Top p loose mean mg mb h₀)
    (lo : (σ.Nd == sysModules) = false) (hdN : oN.IsDictOf (intKind Pr w) (kvsN xs)) (hv : valueAt (kvsN xs) k = some (.ref info))
    (F : Fr h₀ L s.heap m) (N : News h₀ L s.heap ((info, ⟨.ref 40, some dx, .plain, [some (.int k tn), some (.int np tp), some (.ref sl)].toArray⟩) :: (dx, dictOf [] 0) :: (σ.S, instObj 137 σ.D) :: (σ.D, σ.d w (.ref Rl) po nf) :: (σ.Nd, oN) :: rest))
    (hq : ∀ h' tk' t, Fr h₀ L h' m → News h₀ L h' rest → Q (.str (Str.ofString "refused") t) { s with heap := h', toks := tk' }) :
    wpAny (model Pr w) A (call (.ref 148) [.ref σ.S, .int way tk1, .int k tk2]) Q E s := by
  obtain ⟨_, d, _, gs, un⟩ := A
  dsimp only at hh hfr hdp
  subst hh hfr
  conv in (occs := *) (lawE L fa cv) => all_goals unfold lawE
  conv in (occs := *) lawS => all_goals whnf
  walk1
  walk_at "got"
  refine eqf hw.1 ?_
  walk_at "got"
  refine eqf hw.2.1 ?_
  walk_at "got"
  refine eqf hw.2.2 ?_
  walk_at "gou"
  rename News _ _ _ _ => N2
  rename Fr _ _ _ _ => F2
  rename _ ∧ _ ∧ _ ∧ _ ∧ _ ∧ AllLt _ rest => l2
  refine For_invVF F2 rfl rfl ?_
  walk1
  refine iter_tupM (vs := [.int k tk2]) (ep := 0) [Str.ofString "nodeinfo", Str.ofString "stat", Str.ofString "successor", Str.ofString "successor_info"] (fun i nx => i = 0 ∧ nx = (info, ⟨.ref 40, some dx, .plain, [some (.int k tn), some (.int np tp), some (.ref sl)].toArray⟩) :: (dx, dictOf [] 0) :: (σ.S, instObj 137 σ.D) :: (σ.D, σ.d w (.ref Rl) po nf) :: (σ.Nd, oN) :: rest) rfl F2 N2 ?_ ⟨rfl, rfl⟩ ?_ ?_
  · obtain ⟨a0, aD, a1, a2, a3, a4⟩ := l2
    intro q hq
    rcases List.mem_cons.mp hq with rfl | hq
    · exact Nat.ne_of_lt a0
    rcases List.mem_cons.mp hq with rfl | hq
    · exact Nat.ne_of_lt aD
    rcases List.mem_cons.mp hq with rfl | hq
    · exact Nat.ne_of_lt a1
    rcases List.mem_cons.mp hq with rfl | hq
    · exact Nat.ne_of_lt a2
    rcases List.mem_cons.mp hq with rfl | hq
    · exact Nat.ne_of_lt a3
    · exact allLt_ne a4 (Nat.le_refl _) q hq
  · rintro i v u' nx h3 tk3 it hv3 ⟨rfl, rfl⟩ hoff F4 N4
    cases hv3
    clear F2 N2 l2
    walk_at "gou"
    refine kdg_get1 (knd := intKind _ _) N4 (by simp) hdN lo (intKind_is _ _ _ _) (some (.ref info)) hv ?_
    dsimp only [Option.getD]
    rcases hnp with hnp | hnp
    · walk_at "gou"
      rotate_left
      · exfalso; omega
      refine eqt hnp ?_
      walk_at "gou"
      rename News _ _ _ _ => N5
      rename Fr _ _ _ _ => F5
      refine fstr (s := { s with heap := _, toks := _ }) ?_ ?_
      · intro Q'
        intro hQ'
        clear hq
        walk_at "gov"
        refine joinParts_any ?_ ?_
        · exact hQ'
        · rcases (by omega : k = 0 ∨ k = 1 ∨ k = 2 ∨ k = 3 ∨ k = 4 ∨ k = 5 ∨ k = 6 ∨ k = 7) with rfl | rfl | rfl | rfl | rfl | rfl | rfl | rfl <;> decide +kernel
      · intro X t tk5
        k_steps
        rename News h₀ L _ _ => N9
        exact hq _ _ _ (by assumption) (News.sub N9 fun q hq => List.mem_append_left _ (.tail _ (.tail _ (.tail _ (.tail _ (.tail _ hq))))))
    · walk_at "gou"
      rotate_left
      · exfalso; omega
      rename News _ _ _ _ => N5
      rename Fr _ _ _ _ => F5
      refine fstr (s := { s with heap := _, toks := _ }) ?_ ?_
      · intro Q'
        intro hQ'
        clear hq
        walk_at "gov"
        refine joinParts_any ?_ ?_
        · exact hQ'
        · rcases (by omega : k = 0 ∨ k = 1 ∨ k = 2 ∨ k = 3 ∨ k = 4 ∨ k = 5 ∨ k = 6 ∨ k = 7) with rfl | rfl | rfl | rfl | rfl | rfl | rfl | rfl <;> decide +kernel
      · intro X t tk5
        k_steps
        rename News h₀ L _ _ => N9
        exact hq _ _ _ (by assumption) (News.sub N9 fun q hq => List.mem_append_left _ (.tail _ (.tail _ (.tail _ (.tail _ (.tail _ hq))))))
  · rintro u' nx h3 tk3 ⟨h0, _⟩
    cases h0
end
end
section
set_option maxHeartbeats 8000000
theorem frag_on17 : (fun (_ : Params → Frag) => PySem.Challenge.rw_cy0005_05.Holds) hd.heap_39 → True := by
  k_fill
  intro _; trivial
open PySem.Calls PyProof.Rows.TI
section
variable {w : World} {A₀ A : Around} {base h₀ : Heap} {L fa : Addr} {cv : Value} {m mg mb : Str → Option Value} {p : Program} {loose : List Str} {mean : ExcName → Option Value} {s : Shared}
  {R : Result → Shared → Prop} {rest : List (Addr × Obj)}
/-- prepare, the first time -/
theorem told_prepare {σ : Srt} {k : Int} {tk1 tk2 : Tok} {po nf : Value} {oN : Obj} {xs : List NI} {n : Nat}
    (hh : A.handled = none) (hfr : A.frames = some [lawE L fa cv]) (hdp : A.depth < 600) (X₀ : (hd.heap_39 w.params).In h₀) (T : Top p loose mean mg mb h₀) (F : Fr h₀ L s.heap m)
    (hs : SOK σ xs rest n) (hn : n ≤ 1000) (hcl : Closed xs) (hup : ∀ x ∈ xs, ∀ v ∈ x.sv, x.node < intOf v) (hdN : oN.IsDictOf (intKind Pr w) (kvsN xs))
    (N : News h₀ L s.heap (ledS σ w .none po nf oN xs rest))
    (hq : ∀ h' tk' (Rl : Addr) (rs : List Value) (ep : Nat), Fr h₀ L h' m → (∀ v ∈ rs, IsI v) → rs.map intOf = (xs.filter fun x => decide (x.np = 0)).map (·.node) →
      (∀ q ∈ ledS σ w .none po nf oN xs rest, q.1 < Rl) → News h₀ L h' ((Rl, listOf rs.toArray ep) :: ledS σ w (.ref Rl) po nf oN xs rest) → R (.ok (.ret .none)) { s with heap := h', toks := tk' }) :
    codeAny (model Pr w) A (.call (.ref 148) ⟨[.ref σ.S, .int 0 tk1, .int k tk2], []⟩) R s := by
  obtain ⟨_, d, _, gs, u⟩ := A
  dsimp only at hh hfr hdp
  subst hh hfr
  refine' enter_def (binds := [(Str.ofString "sorter", .ref σ.S), (Str.ofString "way", .int 0 tk1), (Str.ofString "node", .int k tk2)]) F X₀ N T ?k6 ?k7 ?k8 ?k9 ?kB ?_ ?c2 ?c3 ?c4 ?c5
  case k6 => k_is
  case k7 => k_is
  case k8 => k_room
  case k9 => exact BindsTo.of_eq rfl
  case c5 => decide
  case kB => exact locs rfl
  case c2 => exact rfl
  case c3 => exact rfl
  case c4 => exact rfl
  intro L' h' oL hoL hback hlt F' N'
  replace N' : News h₀ L' h' (ledS σ w .none po nf oN xs (rest ++ [(L, oL)])) := News.sub N' (by walk_at "sub")
  have hs' : SOK σ xs (rest ++ [(L, oL)]) n := by
    refine ⟨hs.nd, fun a ha q hq => ?_, hs.keys, hs.isi, hs.len, hs.slen, hs.lo⟩
    rcases List.mem_append.mp hq with h | h
    · exact hs.off a ha q h
    · rw [List.mem_singleton.mp h]
      obtain ⟨q', hq', e⟩ := addrS_led (w := w) (rv := .none) (po := po) (nf := nf) (oN := oN) (rest := rest) a ha
      exact fun e' => (N q' hq').2.1 (e.trans e'.symm)
  have hra : ∀ q ∈ rest, ∀ r ∈ [(L, oL)], q.1 ≠ r.1 := fun q hq r hr => by
    rw [List.mem_singleton.mp hr]
    exact (N q (ledS_rest hq)).2.1
  (try dsimp only)
  conv in (occs := *) (lawE L fa cv) => all_goals unfold lawE
  conv in (occs := *) lawS => all_goals whnf
  (try k_fold)
  walk_at "got"
  refine eqt rfl ?_
  walk_at "got"
  (try dsimp only)
  refine wpAny_call (c_prepare (rest := rest) (frs := [(L, oL)]) rfl rfl (by k_room) rfl rfl ⟨by with_unfolding_all exact (by decide : ScopeKind.function ≠ ScopeKind.module), rfl, hoL, trivial⟩ hra X₀ T (by assumption) hs' hn hcl hup hdN (by assumption) ?_)
  intro h5 tk5 frs5 Rl rs ep hsu F5 hri hrn hlt5 N5
  have fin : ∀ h6 m6 tk6, Fr h₀ L' h6 m6 → News h₀ L' h6 ((Rl, listOf rs.toArray ep) :: ledS σ w (.ref Rl) po nf oN xs (rest ++ frs5)) → R (.ok (.ret .none)) { s with heap := h6, toks := tk6 } := by
    intro h6 m6 tk6 F6 N6
    cases frs5 with
    | nil => exact hsu.elim
    | cons q fr =>
      obtain ⟨q1, qo⟩ := q
      obtain ⟨e1, ⟨sl, e2⟩, _⟩ := hsu
      replace e1 : q1 = L := e1
      replace e2 : qo = { oL with slots := sl } := e2
      have hL : h6.get? L = some { oL with slots := sl } := by
        have := (N6 (q1, qo) (.tail _ (ledS_rest (List.mem_append_right _ (.head _))))).1
        rw [e1, e2] at this
        exact this
      refine hq h6 tk6 Rl rs ep (hback h6 sl hL F6.keep) hri hrn (fun q hq => hlt5 q ((by walk_at "sub" : ∀ q ∈ ledS σ w .none po nf oN xs rest, q ∈ ledS σ w .none po nf oN xs (rest ++ [(L, oL)])) q hq)) ?_
      intro q hqm
      have hm : q ∈ (Rl, listOf rs.toArray ep) :: ledS σ w (.ref Rl) po nf oN xs (rest ++ (q1, qo) :: fr) := (by walk_at "sub" : ∀ q ∈ (Rl, listOf rs.toArray ep) :: ledS σ w (.ref Rl) po nf oN xs rest, q ∈ (Rl, listOf rs.toArray ep) :: ledS σ w (.ref Rl) po nf oN xs (rest ++ (q1, qo) :: fr)) q hqm
      refine ⟨(N6 q hm).1, ?_, (N6 q hm).2.2⟩
      rcases List.mem_cons.mp hqm with rfl | hqm
      · exact Nat.ne_of_gt (hlt5 (L, oL) (ledS_rest (List.mem_append_right _ (.head _))))
      · have hqa : q.1 ∈ (ledS σ w .none po nf oN xs rest).map (·.1) := by
          have := List.mem_map_of_mem (f := fun q : Addr × Obj => q.1) hqm
          rw [map_ledS] at this ⊢
          exact this
        obtain ⟨q', h1, h2⟩ := List.mem_map.mp hqa
        rw [← h2]
        exact (N q' h1).2.1
  clear hq hback hlt hlt5 hs' N'
  walk_at "got"
  exact fin _ _ _ (by assumption) (by assumption)
end
end
local macro_rules | `(tactic| walk_at "gof") => `(tactic| repeat' (walk_at "zl"; walk_at "zc"; walk_at "zs"; (fail_if_success with_reducible first | show wpAny _ _ (compareOp _ _ _) _ _ _); walk_at "zz"))
section
set_option maxHeartbeats 8000000
theorem frag_on18 : (fun (_ : Params → Frag) => PySem.Challenge.rw_cy0005_05.Holds) hd.heap_39 → True := by
  k_fill
  intro _; trivial
open PySem.Calls PyProof.Rows.TI
open PyProof.Rows.LCg
noncomputable def aheadP (x : Int) : List Int := if x = 3 then [1, 2] else if x = 4 then [3] else if x = 5 then [4] else []
noncomputable def hasL (l : List Int) (x : Int) : Bool := l.any (· == x)
noncomputable def freeB (gi di : List Int) (x : Int) : Bool := !hasL gi x && decide ((aheadP x).filter (fun a => !hasL di a) = [])
noncomputable def upto (n : Nat) : List Int := (List.range n).map fun k : Nat => (k : Int)
theorem upto_succ (n : Nat) : upto (n + 1) = upto n ++ [(n : Int)] := by unfold upto; rw [List.range_succ, List.map_append]; rfl
section
variable {prog : Program} {w : World} {A : Around} {E : Value → Shared → Prop} {s : Shared} {h₀ : Heap} {L : Addr} {m : Str → Option Value} {env : Env}
theorem comp_genF {elt tg iter : Expr} {ifs : List Expr} {scope : Scope} {cl : List (Str × Addr)} {pos : Pos} {Q : Value → Shared → Prop} {hF : Heap} (_ : Fr h₀ L hF m)
    (hclos : closureFor scope env = pure cl) (hcell : ∀ y ∈ scope.names, y.2 ≠ .cell) (hkind : scope.kind = .function)
    (hnames : ∀ y ∈ scope.names, y.2 = .local → scope.names.lookup y.1 = some .local)
    (h : wpAny (model prog w) A (eval iter env) (fun xv s₁ => wpAny (model prog w) A (pyIter xv) (CW prog w A h₀ L m env tg ifs elt scope cl fun D _ _ s' => Q (.ref D) s') E s₁) E s)
    (hs : ∀ x, foldedSetIterable iter env x = pure x := by intro _; rfl) :
    wpAny (model prog w) A (eval (.ListComp elt [⟨tg, iter, ifs, 0⟩] scope pos) env) Q E s := comp_gen hclos hcell hkind hnames h hs
/-- an item of a list of the ledger -/
theorem item_led {value slice : Expr} {l : Addr} {vs : List Value} {ep : Nat} {k : Int} {u : Tok} {v : Value} {news : List (Addr × Obj)} {Q : Value → Shared → Prop} (N : News h₀ L s.heap news) (hm : (l, listOf vs.toArray ep) ∈ news) (h0 : 0 ≤ k) (hk : vs[k.toNat]? = some v) (hsz : vs.length ≤ 1000)
    (h : Q v s) (hs : subscripted slice false (.ref l) (.int k u) = operate [.ref l, .int k u] (getItem (.ref l) (.int k u)) := by with_unfolding_all rfl) :
    wpAny (model prog w) A (subscriptTail value slice (.ref l) (.int k u)) Q E s := by
  have hl' : s.heap.IsList l vs.toArray := News.isList N hm
  have hlt : k.toNat < vs.length := by
    rcases Nat.lt_or_ge k.toNat vs.length with h | h
    · exact h
    · rw [List.getElem?_eq_none h] at hk; cases hk
  exact tail_any hl'.typeIs slot_list_getitem.lookup (wpAny_getItem_list hl' h0 (by omega) (by simpa using hk) h) hs
/-- a comprehension over a range -/
theorem cw_range {elt : Expr} {ifs : List Expr} {x : Str} {px : Pos} {scope : Scope} {cl : List (Str × Addr)} {Fin : Addr → List Value → List (Addr × Obj) → Shared → Prop} {r : Addr} {a b c : Int} {t u v : Tok} {n : Nat} {news : List (Addr × Obj)} (J : Nat → List Value → Prop)
    (hh : A.handled = none) (hkind : scope.kind = .function) (hx : scope.names.lookup x = some .local) (hr : IsRange s.heap r a b c t u v) (hsm : Builtin.Range.small a b c = true) (hn : Builtin.Range.rangeSize a b c = ((n : Nat) : Int)) (hsz : n ≤ sizeLine) (F : Fr h₀ L s.heap m) (N : News h₀ L s.heap news) (hJ : J 0 [])
    (turn : ∀ i t ys I oI C oC D m₂ h tk (E' : Value → Shared → Prop), i < n → J i ys → NsObj oC m₂ → m₂ x = some (.int (a + (i : Nat) * c) t) → Fr h₀ L h m → News h₀ L h ((I, oI) :: (C, oC) :: (D, lst ys) :: news) → Off3 I C D news → ((@Ne Nat I C) ∧ (@Ne Nat I D) ∧ (@Ne Nat C D)) →
      wpAny (model prog w) A (forIn ifs true fun c r => if r = true then do let ok ← isTrue c (compEnvC scope cl C env) (eval c (compEnvC scope cl C env)); pure (ForInStep.yield ok) else pure (ForInStep.yield r)) (fun ok s₃ =>
        if ok = true then wpAny (model prog w) A (eval elt (compEnvC scope cl C env)) (fun y s₄ => CTurn h₀ L m { s with heap := h, toks := tk } ((I, oI) :: (C, oC) :: (D, lst ys) :: news) (J (i + 1) (ys ++ [y])) s₄) E' s₃
        else CTurn h₀ L m { s with heap := h, toks := tk } ((I, oI) :: (C, oC) :: (D, lst ys) :: news) (J (i + 1) ys) s₃) E' { s with heap := h, toks := tk })
    (fin : ∀ D ys h tk, J n ys → ys.length ≤ n → Fr h₀ L h m → News h₀ L h ((D, lst ys) :: news) → (∀ q ∈ news, q.1 < D) → Fin D ys news { s with heap := h, toks := tk }) :
    wpAny (model prog w) A (pyIter (.ref r)) (CW prog w A h₀ L m env (.Name x px) ifs elt scope cl Fin) E s := by
  refine wpAny_pyIter_range hr hsm ?_
  refine ⟨s.heap.objs.size, _, n, _, _, news, fun _ u m₂ => m₂ x = some u, J, rfl, Walks.range hh s.heap.objs.size a c n, hsz, fun i h st => ⟨_, st⟩, (by show IsRangeIter _ _ _ _ _; rw [hn]; simpa using Heap.get?_push_size _ rfl), ?_, ?_,
    F.push _, N.grown fun b o e => Heap.get?_push_of_some _ e, Nat.ne_of_lt F.ns.lt, next_is_new F, fun p hp => Nat.ne_of_lt (Heap.lt_size (N p hp).1), hJ, fun _ _ _ _ _ _ _ _ _ _ _ hn k => asg_name hkind hx hn k, ?_, ?_⟩
  · intro b hb
    show b < (s.heap.push _).objs.size
    rw [Heap.size_push, List.mem_singleton.mp hb]
    exact Nat.lt_succ_self _
  · intro b hb
    rw [List.mem_singleton.mp hb]; exact .inl rfl
  · intro i u ys oI C oC D m₂ h tk E' hi hP hJ' hC hB F' N' o3 ne
    obtain ⟨t, rfl⟩ := hP
    exact turn i t ys _ oI C oC D m₂ h tk E' hi hJ' hC hB F' N' o3 ne
  · intro D ys h tk hJ' hl' F' N' hlt
    exact fin D ys h tk hJ' hl' F' N' hlt
end
section
variable {w : World} {A₀ A : Around} {base h₀ : Heap} {L fa : Addr} {cv : Value} {m mg mb : Str → Option Value} {p : Program} {loose : List Str} {mean : ExcName → Option Value} {s : Shared}
  {Q : Value → Shared → Prop} {E : Value → Shared → Prop} {rest : List (Addr × Obj)}
/-- _law_free(given, done) -/
theorem c_free {G D : Addr} {gs ds : List Value} {eg ed : Nat}
    (hh : A.handled = none) (hfr : A.frames = some [lawE L fa cv]) (hdp : A.depth < 600) (hun : A.units ≤ 100) (B : Below A₀ h₀ [] h₀) (X₀ : (hd.heap_39 w.params).In h₀) (T : Top p loose mean mg mb h₀)
    (hgi : ∀ v ∈ gs, IsI v) (hdi : ∀ v ∈ ds, IsI v) (F : Fr h₀ L s.heap m) (N : News h₀ L s.heap ((G, listOf gs.toArray eg) :: (D, listOf ds.toArray ed) :: rest))
    (hq : ∀ h' tk' Fl (ys : List Value) ep, Fr h₀ L h' m → (∀ v ∈ ys, IsI v) → ys.map intOf = (upto 6).filter (freeB (gs.map intOf) (ds.map intOf)) → (∀ q ∈ (G, listOf gs.toArray eg) :: (D, listOf ds.toArray ed) :: rest, q.1 < Fl) →
      News h₀ L h' ((Fl, listOf ys.toArray ep) :: (G, listOf gs.toArray eg) :: (D, listOf ds.toArray ed) :: rest) → Q (.ref Fl) { s with heap := h', toks := tk' }) :
    wpAny (model Pr w) A (call (.ref 153) [.ref G, .ref D]) Q E s := by
  obtain ⟨_, d, _, gs', un⟩ := A
  dsimp only at hh hfr hdp hun
  subst hh hfr
  conv in (occs := *) (lawE L fa cv) => all_goals unfold lawE
  conv in (occs := *) lawS => all_goals whnf
  walk1
  walk_at "go3"
  rename_i g L2 hA tkA FG B2 X2 T2 lL oA oB oC dA dB dC a0 hh0 e0 a1 hh1 e1 a2 hh2 e2 a3 hh3 e3 a4 hh4 e4 a5 hh5 e5 al hh6 e6 hF oAh F2 N2 dAh
  have hB : oB.data = .cell (some (.ref D)) := dB
  have hC : oC.data = .cell (some (.ref G)) := dC
  clear dA dB dC oA hh0 hh1 hh2 hh3 hh4 hh5 hh6 hA
  refine comp_genF F2 (by with_unfolding_all rfl) (by decide) rfl (by decide) ?_
  walk_at "gof"
  rename Fr g L2 _ _ => F3
  rename IsRange _ _ _ _ _ _ _ _ => hR
  rename News g L2 _ _ => N3
  generalize bindL _ _ = m1 at F3 ⊢
  obtain ⟨ro, hro⟩ : ∃ ro, ro = (al, W.listOf [Value.ref a0, Value.ref a1, Value.ref a2, Value.ref a3, Value.ref a4, Value.ref a5].toArray 0) :: (a5, W.listOf [Value.int 4 (tkA + 1 + 1 + 1)].toArray 0) :: (a4, W.listOf [Value.int 3 (tkA + 1 + 1)].toArray 0) :: (a3, W.listOf [Value.int 1 tkA, Value.int 2 (tkA + 1)].toArray 0) ::
      (a2, W.listOf ([] : List Value).toArray 0) :: (a1, W.listOf ([] : List Value).toArray 0) :: (a0, W.listOf ([] : List Value).toArray 0) :: rest := ⟨_, rfl⟩
  have hal : (al, W.listOf [Value.ref a0, Value.ref a1, Value.ref a2, Value.ref a3, Value.ref a4, Value.ref a5].toArray 0) ∈ ro := by rw [hro]; exact .head _
  have hah : ∀ i : Nat, i < 6 → ∃ (pa : Addr) (ps : List Value), [Value.ref a0, Value.ref a1, Value.ref a2, Value.ref a3, Value.ref a4, Value.ref a5][i]? = some (.ref pa) ∧ (pa, W.listOf ps.toArray 0) ∈ ro ∧ (∀ v ∈ ps, IsI v) ∧ ps.map intOf = aheadP (i : Int) ∧ ps.length ≤ 2 := by
    intro i hi
    have is0 : ∀ v ∈ ([] : List Value), IsI v := fun _ h => (nomatch h)
    rcases (by omega : i = 0 ∨ i = 1 ∨ i = 2 ∨ i = 3 ∨ i = 4 ∨ i = 5) with rfl | rfl | rfl | rfl | rfl | rfl
    · exact ⟨a0, [], rfl, by rw [hro]; exact .tail _ (.tail _ (.tail _ (.tail _ (.tail _ (.tail _ (.head _)))))), is0, rfl, by simp⟩
    · exact ⟨a1, [], rfl, by rw [hro]; exact .tail _ (.tail _ (.tail _ (.tail _ (.tail _ (.head _))))), is0, rfl, by simp⟩
    · exact ⟨a2, [], rfl, by rw [hro]; exact .tail _ (.tail _ (.tail _ (.tail _ (.head _)))), is0, rfl, by simp⟩
    · exact ⟨a3, _, rfl, by rw [hro]; exact .tail _ (.tail _ (.tail _ (.head _))), fun v hv => by
        rcases List.mem_cons.mp hv with rfl | hv
        · exact ⟨_, _, rfl⟩
        · rw [List.mem_singleton.mp hv]; exact ⟨_, _, rfl⟩, rfl, by simp⟩
    · exact ⟨a4, _, rfl, by rw [hro]; exact .tail _ (.tail _ (.head _)), fun v hv => by rw [List.mem_singleton.mp hv]; exact ⟨_, _, rfl⟩, rfl, by simp⟩
    · exact ⟨a5, _, rfl, by rw [hro]; exact .tail _ (.head _), fun v hv => by rw [List.mem_singleton.mp hv]; exact ⟨_, _, rfl⟩, rfl, by simp⟩
  have hrr : ∀ q ∈ rest, q ∈ ro := fun q hq => by rw [hro]; exact .tail _ (.tail _ (.tail _ (.tail _ (.tail _ (.tail _ (.tail _ hq))))))
  have N4 : News g L2 _ ((L2 + 1 + 1 + 1, oAh) :: (L2 + 1 + 1, oB) :: (L2 + 1, oC) :: (G, W.listOf gs.toArray eg) :: (D, W.listOf ds.toArray ed) :: ro) := News.sub N3 (by rw [hro]; walk_at "sub")
  clear hro N3 e0 e1 e2 e3 e4 e5 e6
  refine cw_range (n := 6) (fun i ys => (∀ v ∈ ys, IsI v) ∧ ys.map intOf = (upto i).filter (freeB (gs.map intOf) (ds.map intOf))) rfl rfl (by decide) hR (by decide) (by decide) (by rw [sizeLine_eq]; decide) F3 N4 ⟨fun _ h => (nomatch h), rfl⟩ ?_ ?_
  · intro i t ys I oI C oC' Dl m₂ h5 tk5 E' hi hJ hCn hx F5 N5 o3 ne3
    clear F3 N4 hR hq
    have hix : 0 + (i : Int) * 1 = (i : Int) := by omega
    rw [hix] at hx
    have hyes : freeB (gs.map intOf) (ds.map intOf) (i : Int) = true → ∀ t, (∀ v ∈ ys ++ [Value.int (i : Int) t], IsI v) ∧ (ys ++ [Value.int (i : Int) t]).map intOf = (upto (i + 1)).filter (freeB (gs.map intOf) (ds.map intOf)) := fun hf t => ⟨fun v hv => by
      rcases List.mem_append.mp hv with h | h
      · exact hJ.1 v h
      · rw [List.mem_singleton.mp h]; exact ⟨_, _, rfl⟩, by rw [upto_succ, List.filter_append, List.map_append, hJ.2]; simp [hf, intOf]⟩
    have hno : freeB (gs.map intOf) (ds.map intOf) (i : Int) = false → (∀ v ∈ ys, IsI v) ∧ ys.map intOf = (upto (i + 1)).filter (freeB (gs.map intOf) (ds.map intOf)) := fun hf => ⟨hJ.1, by rw [upto_succ, List.filter_append, hJ.2]; simp [hf]⟩
    clear hJ
    obtain ⟨pa, ps, hpa, hpm, hpi, hpe, hpl⟩ := hah i hi
    refine wpAny_tests_one ?_
    walk_at "gof"
    refine notin_list_ints (News.isList N5 (show (G, W.listOf gs.toArray eg) ∈ _ by walk_at "elem")) (intsAre_of hgi) ?_
    cases hgc : hasL (gs.map intOf) (i : Int)
    rotate_left
    · rw [show ((gs.map intOf).any fun x => x == (i : Int)) = true from hgc]
      walk_at "gof"
      exact ⟨_, _, rfl, F5, N5, hno (by unfold freeB; rw [hgc]; rfl)⟩
    rw [show ((gs.map intOf).any fun x => x == (i : Int)) = false from hgc]
    walk_at "gof"
    refine comp_genF F5 (by with_unfolding_all rfl) (by decide) rfl (by decide) ?_
    walk_at "gof"
    have hmr : ∀ q ∈ ro, q ∈ (I, oI) :: (C, oC') :: (Dl, lst ys) :: (L2 + 1 + 1 + 1, oAh) :: (L2 + 1 + 1, oB) :: (L2 + 1, oC) :: (G, W.listOf gs.toArray eg) :: (D, W.listOf ds.toArray ed) :: ro := by walk_at "sub"
    refine item_led N5 (hmr _ hal) (by omega) (by simpa using hpa) (by simp) ?_
    walk_at "gof"
    refine cw_list (vs := ps) (ep := 0) (fun _ v m₂ => m₂ (Str.ofString "a") = some v) (fun j zs => (∀ v ∈ zs, IsI v) ∧ zs.map intOf = ((ps.take j).map intOf).filter fun a => !hasL (ds.map intOf) a) rfl F5 N5 (hmr _ hpm) (by rw [sizeLine_eq]; omega) ⟨fun _ h => (nomatch h), rfl⟩
      (fun I i v C m₀ s₁ Q' E' _ _ _ _ hn k => asg_name rfl (by decide) hn k) ?_ ?_
    · intro j u zs I2 oI2 C2 oC2 D2 m3 h6 tk6 E2 hu hJ2 hC2 ha F6 N6 o32 ne32
      clear F5 N5
      obtain ⟨ai, ta, rfl⟩ := hpi u (List.mem_of_getElem? hu)
      have htk : (ps.take (j + 1)).map intOf = (ps.take j).map intOf ++ [ai] := by rw [List.take_add_one, hu, List.map_append]; rfl
      have hy2 : hasL (ds.map intOf) ai = false → ∀ t, (∀ v ∈ zs ++ [Value.int ai t], IsI v) ∧ (zs ++ [Value.int ai t]).map intOf = ((ps.take (j + 1)).map intOf).filter fun a => !hasL (ds.map intOf) a := fun hf t => ⟨fun v hv => by
        rcases List.mem_append.mp hv with h | h
        · exact hJ2.1 v h
        · rw [List.mem_singleton.mp h]; exact ⟨_, _, rfl⟩, by rw [htk, List.filter_append, List.map_append, hJ2.2]; simp [hf, intOf]⟩
      have hn2 : hasL (ds.map intOf) ai = true → (∀ v ∈ zs, IsI v) ∧ zs.map intOf = ((ps.take (j + 1)).map intOf).filter fun a => !hasL (ds.map intOf) a := fun hf => ⟨hJ2.1, by rw [htk, List.filter_append, hJ2.2]; simp [hf]⟩
      clear hJ2
      refine wpAny_tests_one ?_
      walk_at "gof"
      refine notin_list_ints (News.isList N6 (show (D, W.listOf ds.toArray ed) ∈ _ by walk_at "elem")) (intsAre_of hdi) ?_
      cases hdc : hasL (ds.map intOf) ai
      · rw [show ((ds.map intOf).any fun x => x == ai) = false from hdc]
        walk_at "gof"
        exact ⟨_, _, rfl, F6, N6, hy2 hdc _⟩
      · rw [show ((ds.map intOf).any fun x => x == ai) = true from hdc]
        walk_at "gof"
        exact ⟨_, _, rfl, F6, N6, hn2 hdc⟩
    · intro D2 zs h6 tk6 hJ2 hzl F6 N6 hlt6
      clear F5 N5
      rw [List.take_of_length_le (Nat.le_refl _), hpe] at hJ2
      walk_at "gof"
      rename News _ _ _ _ => N7
      rename Fr _ _ _ _ => F7
      refine ke_eq_ints (xs := zs) (ys := []) (News.isList N7 (show (D2, lst zs) ∈ _ by walk_at "elem")) (News.isList N7 (.head _)) (intsAre_of hJ2.1) .nil (by show un + 3 + 64 < cLine; rw [cLine_is]; omega) ?_
      rw [hJ2.2]
      have hfb : ∀ b, decide ((aheadP (i : Int)).filter (fun a => !hasL (ds.map intOf) a) = []) = b → freeB (gs.map intOf) (ds.map intOf) (i : Int) = b := fun b hb => by unfold freeB; rw [hgc, hb]; rfl
      cases hfe : decide ((aheadP (i : Int)).filter (fun a => !hasL (ds.map intOf) a) = [])
      · walk_at "gof"
        exact ⟨_, _, rfl, F7, News.sub N7 (by walk_at "sub"), hno (hfb _ hfe)⟩
      · walk_at "gof"
        exact ⟨_, _, rfl, F7, News.sub N7 (by walk_at "sub"), hyes (hfb _ hfe) _⟩
  · intro Fl ys h6 tk6 hJ hyl F6 N6 hlt6
    clear F3 N4 hR
    walk_at "gof"
    rename News h₀ L _ _ => N9
    have hsb : ∀ q ∈ (G, W.listOf gs.toArray eg) :: (D, W.listOf ds.toArray ed) :: rest, q ∈ (L2 + 1 + 1 + 1, oAh) :: (L2 + 1 + 1, oB) :: (L2 + 1, oC) :: (G, W.listOf gs.toArray eg) :: (D, W.listOf ds.toArray ed) :: ro := fun q hq => by
      rcases List.mem_cons.mp hq with rfl | hq
      · exact .tail _ (.tail _ (.tail _ (.head _)))
      rcases List.mem_cons.mp hq with rfl | hq
      · exact .tail _ (.tail _ (.tail _ (.tail _ (.head _))))
      · exact .tail _ (.tail _ (.tail _ (.tail _ (.tail _ (hrr q hq)))))
    refine hq _ _ Fl ys ys.length (by assumption) hJ.1 hJ.2 (fun q hq => ?_) (News.sub N9 fun q hq => ?_)
    · exact hlt6 q (hsb q hq)
    · rcases List.mem_cons.mp hq with rfl | hq
      · exact .head _
      · exact .tail _ (hsb q hq)
end
end
section
set_option maxHeartbeats 4000000
/-! law 05, the plain book -/
noncomputable def npf (gi di : List Int) (x : Int) : Int := if hasL di x then -2 else if hasL gi x then -1 else ((aheadP x).filter (fun a => !hasL di a)).length
noncomputable def P6 (gi di : List Int) : List PN := [⟨3, npf gi di 3, [4]⟩, ⟨1, npf gi di 1, [3]⟩, ⟨2, npf gi di 2, [3]⟩, ⟨4, npf gi di 4, [5]⟩, ⟨5, npf gi di 5, []⟩, ⟨0, npf gi di 0, []⟩]
noncomputable def freeP (gi di : List Int) : List Int := (upto 6).filter (freeB gi di)
structure PI (ps : List PN) (r gi di : List Int) : Prop where
  pn : ps = P6 gi di
  rd : r.Perm (freeP gi di)
  sub : ∀ x ∈ di, x ∈ gi
  gr : ∀ x ∈ gi, 0 ≤ x ∧ x < 6
  cl : ∀ x ∈ gi, ∀ a ∈ aheadP x, a ∈ di
theorem upto6 : upto 6 = [0, 1, 2, 3, 4, 5] := by decide
theorem hasL_iff {l : List Int} {x : Int} : hasL l x = true ↔ x ∈ l := by
  unfold hasL; rw [List.any_eq_true]
  exact ⟨fun ⟨y, h, e⟩ => (eq_of_beq e) ▸ h, fun h => ⟨x, h, beq_self_eq_true x⟩⟩
theorem hasL_no {l : List Int} {x : Int} : hasL l x = false ↔ x ∉ l := by
  rw [← hasL_iff]; cases hasL l x <;> simp
theorem hasL_app (a b : List Int) (x : Int) : hasL (a ++ b) x = (hasL a x || hasL b x) := by unfold hasL; rw [List.any_append]
theorem freeP_mem {gi di : List Int} {x : Int} : x ∈ freeP gi di ↔ (0 ≤ x ∧ x < 6) ∧ freeB gi di x = true := by
  unfold freeP
  rw [List.mem_filter, upto6]
  constructor
  · rintro ⟨h, hf⟩
    refine ⟨?_, hf⟩
    simp only [List.mem_cons, List.not_mem_nil, or_false] at h
    omega
  · rintro ⟨h, hf⟩
    refine ⟨?_, hf⟩
    simp only [List.mem_cons, List.not_mem_nil, or_false]
    omega
theorem freeP_nodup (gi di : List Int) : (freeP gi di).Nodup := by
  unfold freeP; rw [upto6]; exact List.Pairwise.filter _ (by decide)
theorem freeP_sorted (gi di : List Int) : (freeP gi di).Pairwise (· ≤ ·) := by
  unfold freeP; rw [upto6]; exact List.Pairwise.filter _ (by decide)
theorem freeP_len (gi di : List Int) : (freeP gi di).length ≤ 6 := by
  unfold freeP; rw [upto6]; exact List.length_filter_le _ _
/-- a sorted list is told by its items -/
theorem sorted_eq : ∀ {a b : List Int}, a.Perm b → a.Pairwise (· ≤ ·) → b.Pairwise (· ≤ ·) → a = b
  | [], b, h, _, _ => by rw [List.nil_perm.mp h]
  | x :: a, [], h, _, _ => by have := h.length_eq; simp at this
  | x :: a, y :: b, h, ha, hb => by
    have hx : x ∈ y :: b := h.mem_iff.mp (.head _)
    have hy : y ∈ x :: a := h.mem_iff.mpr (.head _)
    have e : x = y := by
      rw [List.pairwise_cons] at ha hb
      rcases List.mem_cons.mp hx with e | h1
      · exact e
      rcases List.mem_cons.mp hy with e | h2
      · exact e.symm
      have := ha.1 y h2; have := hb.1 x h1; omega
    subst e
    rw [sorted_eq ((List.perm_cons x).mp h) (List.Pairwise.of_cons ha) (List.Pairwise.of_cons hb)]
theorem pi_init : PI (P6 [] []) [1, 2, 0] [] [] := ⟨rfl, by decide, fun _ h => (nomatch h), fun _ h => (nomatch h), fun _ h => (nomatch h)⟩
theorem out_all : ∀ (r : List Int) (ps : List PN), r.foldl outP ps = ps.map fun p => if hasL r p.node then { p with np := -1 } else p
  | [], ps => by simp [hasL]
  | k :: r, ps => by
    rw [List.foldl_cons, out_all r]
    unfold outP modP
    rw [List.map_map]
    refine List.map_congr_left fun p _ => ?_
    simp only [Function.comp]
    have e : hasL (k :: r) p.node = (decide (p.node = k) || hasL r p.node) := by
      unfold hasL; rw [List.any_cons]; congr 1
      by_cases h : p.node = k
      · simp [h]
      · have : (k == p.node) = false := by simpa using fun e => h e.symm
        simp [h, this]
    rw [e]
    by_cases h : p.node = k <;> simp [h]
theorem freeB_iff {gi di : List Int} {x : Int} : freeB gi di x = true ↔ x ∉ gi ∧ ∀ a ∈ aheadP x, a ∈ di := by
  unfold freeB
  simp only [Bool.and_eq_true, Bool.not_eq_true', hasL_no, decide_eq_true_eq, List.filter_eq_nil_iff, Decidable.not_not]
theorem pi_ready {ps : List PN} {r gi di ws : List Int} (h : PI ps r gi di) (hw : ws.Perm r) (hs : ws.Pairwise (· ≤ ·)) : ws = freeP gi di ∧ PI (r.foldl outP ps) [] (gi ++ freeP gi di) di := by
  refine ⟨sorted_eq (hw.trans h.rd) hs (freeP_sorted gi di), ?_, ?_, fun x hx => List.mem_append_left _ (h.sub x hx), fun x hx => ?_, fun x hx => ?_⟩
  · have key : ∀ x sc, 0 ≤ x ∧ x < 6 → (if hasL r x then ({ node := x, np := -1, succ := sc } : PN) else ⟨x, npf gi di x, sc⟩) = ⟨x, npf (gi ++ freeP gi di) di x, sc⟩ := by
      intro x sc hx
      have e1 : hasL r x = freeB gi di x := by
        rw [Bool.eq_iff_iff, hasL_iff, h.rd.mem_iff, freeP_mem]
        exact ⟨fun q => q.2, fun q => ⟨hx, q⟩⟩
      have e2 : hasL (freeP gi di) x = freeB gi di x := by
        rw [Bool.eq_iff_iff, hasL_iff, freeP_mem]
        exact ⟨fun q => q.2, fun q => ⟨hx, q⟩⟩
      rw [e1]
      unfold npf
      rw [hasL_app, e2]
      cases hf : freeB gi di x with
      | false => simp
      | true =>
        have h1 := (freeB_iff.mp hf).1
        have h2 : hasL di x = false := hasL_no.mpr fun q => h1 (h.sub x q)
        simp [h2]
    rw [out_all, h.pn]
    unfold P6
    simp only [List.map_cons, List.map_nil]
    rw [key 3 _ (by omega), key 1 _ (by omega), key 2 _ (by omega), key 4 _ (by omega), key 5 _ (by omega), key 0 _ (by omega)]
  · have : freeP (gi ++ freeP gi di) di = [] := by
      refine List.eq_nil_iff_forall_not_mem.mpr fun x hx => ?_
      obtain ⟨h1, h2⟩ := freeP_mem.mp hx
      obtain ⟨h3, h4⟩ := freeB_iff.mp h2
      exact h3 (List.mem_append_right _ (freeP_mem.mpr ⟨h1, freeB_iff.mpr ⟨fun q => h3 (List.mem_append_left _ q), h4⟩⟩))
    rw [this]
  · rcases List.mem_append.mp hx with q | q
    · exact h.gr x q
    · exact (freeP_mem.mp q).1
  · rcases List.mem_append.mp hx with q | q
    · exact h.cl x q
    · exact (freeB_iff.mp (freeP_mem.mp q).2).2
theorem hasL_one (k x : Int) : hasL [k] x = decide (k = x) := by unfold hasL; simp only [List.any_cons, List.any_nil, Bool.or_false]; rfl
/-- the ready ones when k is done and s alone waited for it -/
theorem perm_step {r gi di : List Int} {k s : Int} (hr : r.Perm (freeP gi di)) (hs : 0 ≤ s ∧ s < 6) (hsg : s ∉ gi) (hks : k ∈ aheadP s) (hkd : k ∉ di) (ho : ∀ x, 0 ≤ x ∧ x < 6 → k ∈ aheadP x → x = s) (b : Bool) (hb : b = true ↔ ∀ a ∈ aheadP s, a ∈ di ++ [k]) :
    (if b = true then r ++ [s] else r).Perm (freeP gi (di ++ [k])) := by
  have hsr : s ∉ r := fun q => hkd ((freeB_iff.mp (freeP_mem.mp (hr.mem_iff.mp q)).2).2 k hks)
  have hn : r.Nodup := hr.nodup_iff.mpr (freeP_nodup gi di)
  have hmem : ∀ a, a ∈ (if b = true then r ++ [s] else r) ↔ a ∈ freeP gi (di ++ [k]) := by
    intro a
    have ha : a ∈ (if b = true then r ++ [s] else r) ↔ a ∈ r ∨ (b = true ∧ a = s) := by
      cases b <;> simp
    rw [ha, hr.mem_iff, freeP_mem, freeP_mem, freeB_iff, freeB_iff, hb]
    constructor
    · rintro (⟨h1, h2, h3⟩ | ⟨h1, rfl⟩)
      · exact ⟨h1, h2, fun a ha => List.mem_append_left _ (h3 a ha)⟩
      · exact ⟨hs, hsg, h1⟩
    · rintro ⟨h1, h2, h3⟩
      by_cases e : a = s
      · subst e; exact .inr ⟨h3, rfl⟩
      · refine .inl ⟨h1, h2, fun q hq => ?_⟩
        rcases List.mem_append.mp (h3 q hq) with h | h
        · exact h
        · rw [List.mem_singleton.mp h] at hq; exact absurd (ho a h1 hq) e
  have hn2 : (if b = true then r ++ [s] else r).Nodup := by
    cases b
    · exact hn
    · simp only [if_true]
      exact List.nodup_append.mpr ⟨hn, by simp, fun a ha c hc e => by rw [List.mem_singleton.mp hc] at e; exact hsr (e ▸ ha)⟩
  exact (List.perm_ext_iff_of_nodup hn2 (freeP_nodup _ _)).mpr hmem
/-- and when nothing waits for k -/
theorem perm_same {r gi di : List Int} {k : Int} (hr : r.Perm (freeP gi di)) (ho : ∀ x, 0 ≤ x ∧ x < 6 → k ∉ aheadP x) : r.Perm (freeP gi (di ++ [k])) := by
  have : freeP gi (di ++ [k]) = freeP gi di := by
    unfold freeP
    refine List.filter_congr fun x hx => ?_
    rw [upto6] at hx
    have hx6 : 0 ≤ x ∧ x < 6 := by
      simp only [List.mem_cons, List.not_mem_nil, or_false] at hx; omega
    rw [Bool.eq_iff_iff, freeB_iff, freeB_iff]
    refine and_congr Iff.rfl ⟨fun h a ha => ?_, fun h a ha => List.mem_append_left _ (h a ha)⟩
    rcases List.mem_append.mp (h a ha) with q | q
    · exact q
    · rw [List.mem_singleton.mp q] at ha; exact absurd ha (ho x hx6)
  rw [this]; exact hr
theorem npf0 (gi di : List Int) : npf gi di 0 = if hasL di 0 = true then -2 else if hasL gi 0 = true then -1 else 0 := rfl
theorem npf1 (gi di : List Int) : npf gi di 1 = if hasL di 1 = true then -2 else if hasL gi 1 = true then -1 else 0 := rfl
theorem npf2 (gi di : List Int) : npf gi di 2 = if hasL di 2 = true then -2 else if hasL gi 2 = true then -1 else 0 := rfl
theorem npf3 (gi di : List Int) : npf gi di 3 = if hasL di 3 = true then -2 else if hasL gi 3 = true then -1 else (if hasL di 1 = true then 0 else 1) + (if hasL di 2 = true then 0 else 1) := by
  show (if hasL di 3 = true then (-2 : Int) else if hasL gi 3 = true then -1 else (([1, 2] : List Int).filter (fun a => !hasL di a)).length) = _
  rw [List.filter_cons, List.filter_cons, List.filter_nil]
  cases hasL di 1 <;> cases hasL di 2 <;> rfl
theorem npf4 (gi di : List Int) : npf gi di 4 = if hasL di 4 = true then -2 else if hasL gi 4 = true then -1 else (if hasL di 3 = true then 0 else 1) := by
  show (if hasL di 4 = true then (-2 : Int) else if hasL gi 4 = true then -1 else (([3] : List Int).filter (fun a => !hasL di a)).length) = _
  rw [List.filter_cons, List.filter_nil]
  cases hasL di 3 <;> rfl
theorem npf5 (gi di : List Int) : npf gi di 5 = if hasL di 5 = true then -2 else if hasL gi 5 = true then -1 else (if hasL di 4 = true then 0 else 1) := by
  show (if hasL di 5 = true then (-2 : Int) else if hasL gi 5 = true then -1 else (([4] : List Int).filter (fun a => !hasL di a)).length) = _
  rw [List.filter_cons, List.filter_nil]
  cases hasL di 4 <;> rfl
theorem who {k x : Int} (hx : 0 ≤ x ∧ x < 6) (h : k ∈ aheadP x) : (x = 3 ∧ (k = 1 ∨ k = 2)) ∨ (x = 4 ∧ k = 3) ∨ (x = 5 ∧ k = 4) := by
  rcases (by omega : x = 0 ∨ x = 1 ∨ x = 2 ∨ x = 3 ∨ x = 4 ∨ x = 5) with rfl | rfl | rfl | rfl | rfl | rfl <;> simp [aheadP] at h
  · exact .inl ⟨rfl, h⟩
  · exact .inr (.inl ⟨rfl, h⟩)
  · exact .inr (.inr ⟨rfl, h⟩)
theorem pi_done {ps : List PN} {r gi di : List Int} {k : Int} (h : PI ps r gi di) (hg : k ∈ gi) (hd : k ∉ di) : PI (doneP (ps, r) k).1 (doneP (ps, r) k).2 gi (di ++ [k]) := by
  have hk := h.gr k hg
  have rest : ∀ ps' r', ps' = P6 gi (di ++ [k]) → r'.Perm (freeP gi (di ++ [k])) → PI ps' r' gi (di ++ [k]) := fun ps' r' e1 e2 => ⟨e1, e2, fun x hx => by
    rcases List.mem_append.mp hx with q | q
    · exact h.sub x q
    · rw [List.mem_singleton.mp q]; exact hg, h.gr, fun x hx a ha => List.mem_append_left _ (h.cl x hx a ha)⟩
  have hkd : hasL di k = false := hasL_no.mpr hd
  rw [h.pn]
  rcases (by omega : k = 0 ∨ k = 1 ∨ k = 2 ∨ k = 3 ∨ k = 4 ∨ k = 5) with rfl | rfl | rfl | rfl | rfl | rfl
  · have e : doneP (P6 gi di, r) 0 = ([⟨3, npf gi di 3, [4]⟩, ⟨1, npf gi di 1, [3]⟩, ⟨2, npf gi di 2, [3]⟩, ⟨4, npf gi di 4, [5]⟩, ⟨5, npf gi di 5, []⟩, ⟨0, -2, []⟩], r) := rfl
    rw [e]
    refine rest _ _ ?_ (perm_same h.rd fun x hx q => by rcases who hx q with h | h | h <;> omega)
    unfold P6
    simp [npf0, npf1, npf2, npf3, npf4, npf5, hasL_app, hasL_one]
  · have e : doneP (P6 gi di, r) 1 = ([⟨3, npf gi di 3 - 1, [4]⟩, ⟨1, -2, [3]⟩, ⟨2, npf gi di 2, [3]⟩, ⟨4, npf gi di 4, [5]⟩, ⟨5, npf gi di 5, []⟩, ⟨0, npf gi di 0, []⟩], if decide (npf gi di 3 - 1 = 0) = true then r ++ [3] else r) := rfl
    have hg3 : hasL gi 3 = false := hasL_no.mpr fun q => hd (h.cl 3 q 1 (by decide))
    have hd3 : hasL di 3 = false := hasL_no.mpr fun q => hasL_no.mp hg3 (h.sub 3 q)
    rw [e]
    refine rest _ _ ?_ (perm_step h.rd (by omega) (hasL_no.mp hg3) (by decide) hd (fun x hx q => by rcases who hx q with h | h | h <;> omega) _ ?_)
    · unfold P6
      simp [npf0, npf1, npf2, npf3, npf4, npf5, hasL_app, hasL_one, hkd, hg3, hd3]
      cases hasL di 2 <;> simp
    · rw [npf3]
      simp [aheadP, hkd, hg3, hd3, ← hasL_iff, hasL_app, hasL_one]
      cases hasL di 2 <;> simp
  · have e : doneP (P6 gi di, r) 2 = ([⟨3, npf gi di 3 - 1, [4]⟩, ⟨1, npf gi di 1, [3]⟩, ⟨2, -2, [3]⟩, ⟨4, npf gi di 4, [5]⟩, ⟨5, npf gi di 5, []⟩, ⟨0, npf gi di 0, []⟩], if decide (npf gi di 3 - 1 = 0) = true then r ++ [3] else r) := rfl
    have hg3 : hasL gi 3 = false := hasL_no.mpr fun q => hd (h.cl 3 q 2 (by decide))
    have hd3 : hasL di 3 = false := hasL_no.mpr fun q => hasL_no.mp hg3 (h.sub 3 q)
    rw [e]
    refine rest _ _ ?_ (perm_step h.rd (by omega) (hasL_no.mp hg3) (by decide) hd (fun x hx q => by rcases who hx q with h | h | h <;> omega) _ ?_)
    · unfold P6
      simp [npf0, npf1, npf2, npf3, npf4, npf5, hasL_app, hasL_one, hkd, hg3, hd3]
    · rw [npf3]
      simp [aheadP, hkd, hg3, hd3, ← hasL_iff, hasL_app, hasL_one]
  · have e : doneP (P6 gi di, r) 3 = ([⟨3, -2, [4]⟩, ⟨1, npf gi di 1, [3]⟩, ⟨2, npf gi di 2, [3]⟩, ⟨4, npf gi di 4 - 1, [5]⟩, ⟨5, npf gi di 5, []⟩, ⟨0, npf gi di 0, []⟩], if decide (npf gi di 4 - 1 = 0) = true then r ++ [4] else r) := rfl
    have hg4 : hasL gi 4 = false := hasL_no.mpr fun q => hd (h.cl 4 q 3 (by decide))
    have hd4 : hasL di 4 = false := hasL_no.mpr fun q => hasL_no.mp hg4 (h.sub 4 q)
    rw [e]
    refine rest _ _ ?_ (perm_step h.rd (by omega) (hasL_no.mp hg4) (by decide) hd (fun x hx q => by rcases who hx q with h | h | h <;> omega) _ ?_)
    · unfold P6
      simp [npf0, npf1, npf2, npf3, npf4, npf5, hasL_app, hasL_one, hkd, hg4, hd4]
    · rw [npf4]
      simp [aheadP, hkd, hg4, hd4, ← hasL_iff, hasL_app, hasL_one]
  · have e : doneP (P6 gi di, r) 4 = ([⟨3, npf gi di 3, [4]⟩, ⟨1, npf gi di 1, [3]⟩, ⟨2, npf gi di 2, [3]⟩, ⟨4, -2, [5]⟩, ⟨5, npf gi di 5 - 1, []⟩, ⟨0, npf gi di 0, []⟩], if decide (npf gi di 5 - 1 = 0) = true then r ++ [5] else r) := rfl
    have hg5 : hasL gi 5 = false := hasL_no.mpr fun q => hd (h.cl 5 q 4 (by decide))
    have hd5 : hasL di 5 = false := hasL_no.mpr fun q => hasL_no.mp hg5 (h.sub 5 q)
    rw [e]
    refine rest _ _ ?_ (perm_step h.rd (by omega) (hasL_no.mp hg5) (by decide) hd (fun x hx q => by rcases who hx q with h | h | h <;> omega) _ ?_)
    · unfold P6
      simp [npf0, npf1, npf2, npf3, npf4, npf5, hasL_app, hasL_one, hkd, hg5, hd5]
    · rw [npf5]
      simp [aheadP, hkd, hg5, hd5, ← hasL_iff, hasL_app, hasL_one]
  · have e : doneP (P6 gi di, r) 5 = ([⟨3, npf gi di 3, [4]⟩, ⟨1, npf gi di 1, [3]⟩, ⟨2, npf gi di 2, [3]⟩, ⟨4, npf gi di 4, [5]⟩, ⟨5, -2, []⟩, ⟨0, npf gi di 0, []⟩], r) := rfl
    rw [e]
    refine rest _ _ ?_ (perm_same h.rd fun x hx q => by rcases who hx q with h | h | h <;> omega)
    unfold P6
    simp [npf0, npf1, npf2, npf3, npf4, npf5, hasL_app, hasL_one]
/-- what stands in the book of a node -/
theorem pi_look {ps : List PN} {r gi di : List Int} {k : Int} (h : PI ps r gi di) (hk : 0 ≤ k ∧ k < 6) : ∃ sc, lookP ps k = some ⟨k, npf gi di k, sc⟩ := by
  rw [h.pn]
  rcases (by omega : k = 0 ∨ k = 1 ∨ k = 2 ∨ k = 3 ∨ k = 4 ∨ k = 5) with rfl | rfl | rfl | rfl | rfl | rfl <;> exact ⟨_, rfl⟩
theorem npf_cases (gi di : List Int) (k : Int) : (hasL di k = true ∧ npf gi di k = -2) ∨ (hasL di k = false ∧ hasL gi k = true ∧ npf gi di k = -1) ∨ (hasL di k = false ∧ hasL gi k = false ∧ 0 ≤ npf gi di k) := by
  unfold npf
  cases hasL di k <;> cases hasL gi k <;> simp
end
section
set_option maxHeartbeats 1000000
open PySem.Calls
section
variable {prog : Program} {w : World} {A : Around} {E : Value → Shared → Prop} {s : Shared} {h₀ : Heap} {L : Addr} {m : Str → Option Value} {env : Env}
theorem letOwned_tuple {elts : List Expr} {x1} {pos : Pos} {I l T : Addr} {i : Nat} {Q : Unit → Shared → Prop} (hit : s.heap.IsTupleIter I l i) (hQ : Q () s) :
    wpAny (model prog w) A (letOwnedTupleGo (.Tuple elts x1 pos) (.ref I) (.ref T)) Q E s := by
  obtain ⟨o, ho, hc, hd⟩ := hit
  unfold letOwnedTupleGo
  refine wpAny_bind (wpAny_load ho ?_)
  rw [hc, hd]
  show wpAny _ A (if (["enumerate", "zip", "dict_itemiterator", "dict_reverseitemiterator", "odict_iterator", "itertools.zip_longest", "itertools.pairwise"].contains "tuple_iterator" && (#[.ref l, .int i 0] : Array Value)[0]? == some (rawInt T)) = true then _ else _) Q E s
  rw [if_neg (fun h => by
    rw [show (["enumerate", "zip", "dict_itemiterator", "dict_reverseitemiterator", "odict_iterator", "itertools.zip_longest", "itertools.pairwise"].contains "tuple_iterator") = false from by decide, Bool.false_and] at h
    cases h)]
  exact wpAny_pure hQ
theorem turn_twoT {a b : Str} {pa pb tp : Pos} {kk : Nat} {I T : Addr} {x y : Value} {news : List (Addr × Obj)} {K : Unit → Shared → Prop} {E1 E2 : Value → Shared → Prop} (hh : A.handled = none) (hit : ∃ l j, s.heap.IsTupleIter I l j) (F : Fr h₀ L s.heap m) (N : News h₀ L s.heap news) (hT : (T, tupOf #[x, y] 0) ∈ news)
    (hl : env.locals = L) (ha : env.kindOf a = some .local) (hb : env.kindOf b = some .local) (hp : (env.scope.kind == .class || (env.scope.kind == .module && env.locals != env.globals)) = false)
    (h : ∀ h' tk, Fr h₀ L h' (fun u => if u = b then some y else if u = a then some x else m u) → News h₀ L h' news → K () { s with heap := h', toks := tk }) :
    wpAny (model prog w) A (letOwnedTupleGo (.Tuple [.Name a pa, .Name b pb] kk tp) (.ref I) (.ref T)) (fun _ s₁ => wpAny (model prog w) A (assign (.Tuple [.Name a pa, .Name b pb] kk tp) env (.ref T)) K E1 s₁) E2 s := by
  obtain ⟨l, j, hit⟩ := hit
  subst hl
  refine letOwned_tuple hit ?_
  refine kcp_assign hh ⟨_, (N _ hT).1, rfl, _, rfl⟩ ha hb hp F.ns ?_
  intro h' tk hn hk
  have hne : ∀ b o, h₀.get? b = some o → b ≠ env.locals := fun b o e q => by
    have h1 := Heap.lt_size e
    have h2 := F.above
    rw [q] at h1
    exact absurd h1 (Nat.not_lt.mpr h2)
  refine h h' tk ⟨hn, fun b o e => hk b o (hne b o e) (F.keep b o e), F.above⟩ fun p hp => ⟨hk _ _ (N p hp).2.1 (N p hp).1, (N p hp).2⟩
/-- for tg in <a tuple of the ledger>, its iterator told -/
theorem for_tupI {tg : Expr} {body : List Stmt} {l : Addr} {vs : List Value} {ep : Nat} {m₀ : Str → Option Value} {news : List (Addr × Obj)} {Q : Flow → Shared → Prop} (J : Nat → (Str → Option Value) → List (Addr × Obj) → Prop)
    (hh : A.handled = none) (F : Fr h₀ L s.heap m₀) (N : News h₀ L s.heap news) (hJl : ∀ i m nx, J i m nx → (l, tupOf vs.toArray ep) ∈ nx) (hj : J 0 m₀ news)
    (turn : ∀ i v m₁ nx h tk I oI, vs[i]? = some v → J i m₁ nx → (∀ p ∈ nx, p.1 ≠ I) → (∃ l j, h.IsTupleIter I l j) → Fr h₀ L h m₁ → News h₀ L h ((I, oI) :: nx) →
      wpAny (model prog w) A (letOwnedTupleGo tg (.ref I) v) (fun _ s₁ => wpAny (model prog w) A (assign tg env v) (fun _ s₂ => wpAny (model prog w) A (execs body env) (TurnF h₀ L (I, oI) (J (i + 1)) { s with heap := h, toks := tk } Q) (fun _ _ => False) s₂) (fun _ _ => False) s₁) (fun _ _ => False) { s with heap := h, toks := tk })
    (done : ∀ m₁ nx h tk, J vs.length m₁ nx → Fr h₀ L h m₁ → News h₀ L h nx → Q .next { s with heap := h, toks := tk }) :
    wpAny (model prog w) A (pyIter (.ref l)) (fun it s₂ => codeAny (model prog w) A (.forLoop tg it body [] env) (fun r s' => match r with | .ok f => Q f s' | .error e => cameBackBy (model prog w) A env E e s') s₂) E s := by
  have hml := hJl _ _ _ hj
  have hls : s.heap.IsTuple l vs.toArray := ⟨_, (N _ hml).1, rfl, _, rfl⟩
  have hne : l ≠ s.heap.objs.size := Nat.ne_of_lt (Heap.lt_size (N _ hml).1)
  refine wpAny_pyIter_tuple hls ?_
  have W := Walks.tuple (prog := prog) (w := w) hh s.heap.objs.size l hne vs.toArray
  have hlen : vs.toArray.size = vs.length := by simp
  rw [hlen] at W
  refine for_walk (s := s) (src := [(l, tupOf vs.toArray ep)]) J W (fun i h st => let ⟨⟨o, ho, _⟩, _⟩ := st; ⟨o, ho⟩) ?_ (fun i m nx h q hq => by rw [List.mem_singleton.mp hq]; exact hJl _ _ _ h) ⟨⟨_, Heap.get?_push_size _ rfl, rfl, rfl⟩, hls.at fun o e => Heap.get?_push_of_some _ e⟩ ⟨_, _, rfl⟩
    (F.push _) (N.grown fun b o e => Heap.get?_push_of_some _ e) (Nat.ne_of_lt F.ns.lt) (next_is_new F) (fun p hp => Nat.ne_of_lt (Heap.lt_size (N p hp).1)) hj ?_ done
  · intro b hb
    rcases List.mem_cons.mp hb with rfl | hb
    · exact .inl rfl
    · rw [List.mem_singleton.mp hb]; exact .inr (.inr ⟨_, .head _⟩)
  · intro i v m₁ nx h tk oI hi hP hJ off st F' N'
    exact turn i v m₁ nx h tk _ oI (by simpa using hP) hJ off ⟨_, _, st.1⟩ F' N'
/-- for tg in <a list of the base> -/
theorem for_base {tg : Expr} {body : List Stmt} {l : Addr} {vs : List Value} {m₀ : Str → Option Value} {news : List (Addr × Obj)} {Q : Flow → Shared → Prop} (J : Nat → (Str → Option Value) → List (Addr × Obj) → Prop)
    (hh : A.handled = none) (F : Fr h₀ L s.heap m₀) (N : News h₀ L s.heap news) (hl : h₀.IsList l vs.toArray) (hj : J 0 m₀ news)
    (turn : ∀ i v m₁ nx h tk I oI, vs[i]? = some v → J i m₁ nx → (∀ p ∈ nx, p.1 ≠ I) → (∃ l j, h.IsListIter I l j) → Fr h₀ L h m₁ → News h₀ L h ((I, oI) :: nx) →
      wpAny (model prog w) A (letOwnedTupleGo tg (.ref I) v) (fun _ s₁ => wpAny (model prog w) A (assign tg env v) (fun _ s₂ => wpAny (model prog w) A (execs body env) (TurnF h₀ L (I, oI) (J (i + 1)) { s with heap := h, toks := tk } Q) (fun _ _ => False) s₂) (fun _ _ => False) s₁) (fun _ _ => False) { s with heap := h, toks := tk })
    (done : ∀ m₁ nx h tk, J vs.length m₁ nx → Fr h₀ L h m₁ → News h₀ L h nx → Q .next { s with heap := h, toks := tk }) :
    wpAny (model prog w) A (pyIter (.ref l)) (fun it s₂ => codeAny (model prog w) A (.forLoop tg it body [] env) (fun r s' => match r with | .ok f => Q f s' | .error e => cameBackBy (model prog w) A env E e s') s₂) E s := by
  have hls : s.heap.IsList l vs.toArray := hl.at fun o e => F.keep _ _ e
  have hne : l ≠ s.heap.objs.size := by
    obtain ⟨o, ho, _⟩ := hls
    exact Nat.ne_of_lt (Heap.lt_size ho)
  refine wpAny_pyIter_list hls ?_
  have W := Walks.list (prog := prog) (w := w) hh s.heap.objs.size l hne vs.toArray
  have hlen : vs.toArray.size = vs.length := by simp
  rw [hlen] at W
  refine for_walk (s := s) (src := []) J W (fun i h st => let ⟨⟨o, ho, _⟩, _⟩ := st; ⟨o, ho⟩) ?_ (fun _ _ _ _ q hq => (nomatch hq)) ⟨⟨_, Heap.get?_push_size _ rfl, rfl, rfl⟩, hls.push _⟩ ⟨_, _, rfl⟩
    (F.push _) (N.grown fun b o e => Heap.get?_push_of_some _ e) (Nat.ne_of_lt F.ns.lt) (next_is_new F) (fun p hp => Nat.ne_of_lt (Heap.lt_size (N p hp).1)) hj ?_ done
  · intro b hb
    rcases List.mem_cons.mp hb with rfl | hb
    · exact .inl rfl
    · rw [List.mem_singleton.mp hb]
      obtain ⟨o, ho, _⟩ := hl
      exact .inr (.inl ⟨o, ho⟩)
  · intro i v m₁ nx h tk oI hi hP hJ off st F' N'
    exact turn i v m₁ nx h tk _ oI (by simpa using hP) hJ off ⟨_, _, st.1⟩ F' N'
end
end
section
set_option maxHeartbeats 8000000
open PySem.Calls PyProof.Rows.TI
theorem off_front {σ : Srt} {w : World} {rv po nf : Value} {oN : Obj} {xs : List NI} {I : Addr} {rest : List (Addr × Obj)} (hs : ∀ a ∈ addrS σ xs, I ≠ a) (hr : ∀ q ∈ rest, q.1 ≠ I) : ∀ q ∈ ledS σ w rv po nf oN xs rest, q.1 ≠ I := fun q hq => by
  rcases inL q hq with h | h
  · exact (hs _ h).symm
  · exact hr q h
theorem sok_tail {σ : Srt} {xs : List NI} {it : Addr × Obj} {rest : List (Addr × Obj)} {n : Nat} (hs : SOK σ xs (it :: rest) n) : SOK σ xs rest n := sok_rest hs fun a ha q hq => hs.off a ha q (.tail _ hq)
noncomputable def edges5 : List (Int × Int) := [(1, 3), (2, 3), (3, 4), (4, 5)]
noncomputable def mS5 (sl S : Addr) (u : Str → Option Value) : Str → Option Value := fun y => if [Str.ofString "a", Str.ofString "b"].contains y then u y else if y = Str.ofString "sorter" then some (.ref S) else if y = Str.ofString "script" then some (.ref sl) else none
/-- between two turns of the building loop -/
inductive J5 (σ : Srt) (w : World) (t1 t2 : Tok) (tups : List (Addr × Obj)) (i : Nat) (nx : List (Addr × Obj)) : Prop
  | mk (oN : Obj) (xs : List NI) (e : nx = ledS σ w .none (.int 0 t1) (.int 0 t2) oN xs tups) (sok : SOK σ xs tups (3 * i)) (dic : oN.IsDictOf (intKind Pr w) (kvsN xs)) (pn : xs.map NI.pn = (edges5.take i).foldl (fun ps e => addP ps e.2 [e.1]) [])
end
local macro_rules | `(tactic| walk_at "goh") => `(tactic| repeat' (walk_at "zl"; walk_at "zs"; (fail_if_success with_reducible first | show wpAny _ _ (compareOp _ (Value.ref _) _) _ _ _ | show wpAny _ _ (compareOp _ _ (Value.ref _)) _ _ _ | show wpAny _ _ (compareOp CmpOp.Eq (Value.int _ _) (Value.int _ _)) _ _ _ | show wpAny _ _ (compareOp CmpOp.Lt (Value.int _ _) (Value.int _ _)) _ _ _ | show wpAny _ _ (binaryOp _ (Value.ref _) _) _ _ _); walk_at "zz"))
section
set_option maxHeartbeats 8000000
theorem frag_on20 : (fun (_ : Params → Frag) => PySem.Challenge.rw_cy0005_05.Holds) hd.heap_39 → True := by
  k_fill
  intro _; trivial
open PySem.Calls PyProof.Rows.TI
noncomputable def names7 : List Str := [Str.ofString "x", Str.ofString "way", Str.ofString "node", Str.ofString "told", Str.ofString "due", Str.ofString "begun", Str.ofString "given"]
noncomputable def mD5 (sl S Dl : Addr) (u : Str → Option Value) : Str → Option Value := fun y => if y = Str.ofString "done" then some (.ref Dl) else mS5 sl S u y
/-- between two turns of the law's loop -/
inductive K5 (σ : Srt) (w : World) (t1 t2 : Tok) (Dl : Addr) (i : Nat) (m : Str → Option Value) (nx : List (Addr × Obj)) : Prop
  | early (Gl : Addr) (eg ed : Nat) (oN : Obj) (xs : List NI) (hb : m (Str.ofString "begun") = some (.bool false)) (hg : m (Str.ofString "given") = some (.ref Gl)) (e : nx = ledS σ w .none (.int 0 t1) (.int 0 t2) oN xs [(Gl, listOf #[] eg), (Dl, listOf #[] ed)])
      (sok : SOK σ xs [(Gl, listOf #[] eg), (Dl, listOf #[] ed)] 13) (ne : @Ne Nat Gl Dl) (dic : oN.IsDictOf (intKind Pr w) (kvsN xs)) (pn : xs.map NI.pn = P6 [] [])
  | begun (Gl Rl : Addr) (eg ed ep : Nat) (oN : Obj) (xs : List NI) (gvs dvs rs : List Value) (ta tb : Tok) (hb : m (Str.ofString "begun") = some (.bool true)) (hg : m (Str.ofString "given") = some (.ref Gl))
      (e : nx = (Rl, listOf rs.toArray ep) :: ledS σ w (.ref Rl) (.int gvs.length ta) (.int dvs.length tb) oN xs [(Gl, listOf gvs.toArray eg), (Dl, listOf dvs.toArray ed)])
      (sok : SOK σ xs ((Rl, listOf rs.toArray ep) :: [(Gl, listOf gvs.toArray eg), (Dl, listOf dvs.toArray ed)]) 13) (n1 : @Ne Nat Gl Dl) (n2 : @Ne Nat Gl Rl) (n3 : @Ne Nat Dl Rl) (dic : oN.IsDictOf (intKind Pr w) (kvsN xs))
      (pi : PI (xs.map NI.pn) (rs.map intOf) (gvs.map intOf) (dvs.map intOf)) (ri : ∀ v ∈ rs, IsI v) (gi : ∀ v ∈ gvs, IsI v) (di : ∀ v ∈ dvs, IsI v) (lg : gvs.length ≤ 6 * i) (ld : dvs.length ≤ i)
theorem map_of {b : Bool} {Gl : Addr} {m₀ m : Str → Option Value} (hA : Agr names7 m₀ m) (hb : m (Str.ofString "begun") = some (.bool b)) (hg : m (Str.ofString "given") = some (.ref Gl)) :
    m = fun y => if y = Str.ofString "begun" then some (.bool b) else if y = Str.ofString "given" then some (.ref Gl) else if names7.contains y then m y else m₀ y := by
  funext y
  by_cases h1 : y = Str.ofString "begun"
  · simp only [if_pos h1]; rw [h1, hb]
  by_cases h2 : y = Str.ofString "given"
  · simp only [if_neg h1, if_pos h2]; rw [h2, hg]
  simp only [if_neg h1, if_neg h2]
  exact congrFun hA.eq y
theorem ready_P6 {xs : List NI} (h : xs.map NI.pn = P6 [] []) : (xs.filter fun x => decide (x.np = 0)).map (·.node) = [1, 2, 0] := by
  have e : ((xs.map NI.pn).filter fun p => decide (p.np = 0)).map PN.node = [1, 2, 0] := by rw [h]; rfl
  rw [List.filter_map, List.map_map] at e
  exact e
theorem fmod_in (x : Int) (n : Int) (hn : 0 < n) : 0 ≤ x.fmod n ∧ x.fmod n < n := ⟨Int.fmod_nonneg_of_pos x hn, Int.fmod_lt_of_pos x hn⟩
theorem closed_P6 {xs : List NI} {gi di : List Int} (h : xs.map NI.pn = P6 gi di) : Closed xs ∧ ∀ x ∈ xs, ∀ v ∈ x.sv, x.node < intOf v := by
  have hn : xs.map (·.node) = [3, 1, 2, 4, 5, 0] := by
    have := congrArg (List.map PN.node) h
    rw [List.map_map] at this
    exact this
  have key : ∀ x ∈ xs, ∀ v ∈ x.sv, (intOf v = 3 ∧ (x.node = 1 ∨ x.node = 2)) ∨ (intOf v = 4 ∧ x.node = 3) ∨ (intOf v = 5 ∧ x.node = 4) := by
    intro x hx v hv
    have hp : x.pn ∈ P6 gi di := h ▸ List.mem_map_of_mem hx
    have hv2 : intOf v ∈ x.pn.succ := List.mem_map_of_mem hv
    have hxn : x.node = x.pn.node := rfl
    rw [hxn]
    unfold P6 at hp
    simp only [List.mem_cons, List.not_mem_nil, or_false] at hp
    rcases hp with e | e | e | e | e | e <;> rw [e] at hv2 ⊢ <;> simp at hv2 ⊢ <;> exact hv2
  refine ⟨fun x hx v hv => ?_, fun x hx v hv => ?_⟩
  · rw [hn]
    have := key x hx v hv
    refine ⟨?_, by omega⟩
    simp only [List.mem_cons, List.not_mem_nil, or_false]
    omega
  · have := key x hx v hv; omega
section
variable {w : World} {A₀ A : Around} {base h₀ : Heap} {L fa : Addr} {cv : Value} {m mg mb : Str → Option Value} {p : Program} {loose : List Str} {mean : ExcName → Option Value} {s : Shared}
  {Q : Flow → Shared → Prop} {E : Value → Shared → Prop}
theorem refused_box {prog : Program} {t : Sem Value} {Q : Value → Shared → Prop} {hF : Heap} {mF : Str → Option Value} {led : List (Addr × Obj)} (_ : Fr h₀ L hF mF) (h1 : ∀ h' tk' t', Fr h₀ L h' mF → News h₀ L h' led → Q (.str (Str.ofString "refused") t') { s with heap := h', toks := tk' })
    (h2 : ∀ PQ : Value → Shared → Prop, (∀ h' tk' t', Fr h₀ L h' mF → News h₀ L h' led → PQ (.str (Str.ofString "refused") t') { s with heap := h', toks := tk' }) → wpAny (model prog w) A t PQ E s) : wpAny (model prog w) A t Q E s := h2 Q h1
theorem turn_box {prog : Program} {t : Sem Unit} {body : List Stmt} {env : Env} {T1 : Flow → Shared → Prop} (h : ∀ PT : Flow → Shared → Prop, (∀ f s', T1 f s' → PT f s') → wpAny (model prog w) A t (fun _ s₂ => wpAny (model prog w) A (execs body env) PT (fun _ _ => False) s₂) (fun _ _ => False) s) :
    wpAny (model prog w) A t (fun _ s₂ => wpAny (model prog w) A (execs body env) T1 (fun _ _ => False) s₂) (fun _ _ => False) s := h T1 fun _ _ x => x
theorem l_loop {σ : Srt} {t1 t2 : Tok} {oN : Obj} {sl Gl Dl : Addr} {xs : List NI} {vs : List Value} {ns : List Int} {u : Str → Option Value}
    (hh : A.handled = none) (hfr : A.frames = some [lawE L fa cv]) (hdp : A.depth < 500) (hun : A.units ≤ 50) (B : Below A₀ h₀ [] h₀) (X₀ : (hd.heap_39 w.params).In h₀) (T : Top p loose mean mg mb h₀)
    (hl : h₀.IsList sl vs.toArray) (hi : IntsAre vs ns) (hn : ns.length ≤ 63) (F : Fr h₀ L s.heap (fun y => if y = Str.ofString "begun" then some (.bool false) else if y = Str.ofString "given" then some (.ref Gl) else mD5 sl σ.S Dl u y))
    (N : News h₀ L s.heap (ledS σ w .none (.int 0 t1) (.int 0 t2) oN xs [(Gl, listOf #[] 0), (Dl, listOf #[] 0)])) (sok : SOK σ xs [(Gl, listOf #[] 0), (Dl, listOf #[] 0)] 13) (ne : @Ne Nat Gl Dl) (dic : oN.IsDictOf (intKind Pr w) (kvsN xs)) (pn : xs.map NI.pn = P6 [] [])
    (hq : ∀ h' tk' m', Fr h₀ L h' m' → Q .next { s with heap := h', toks := tk' }) :
    wpAny (model Pr w) A (exec (lawSt 4) (lawE L fa cv)) Q E s := by
  obtain ⟨_, d, _, gs, un⟩ := A
  dsimp only at hh hfr hdp hun
  subst hh hfr
  conv in (lawSt 4) => whnf
  conv in (occs := *) (lawE L fa cv) => all_goals unfold lawE
  conv in (occs := *) lawS => all_goals whnf
  refine wpAny_For ?_
  (try dsimp only)
  walk_at "goh"
  refine for_base (vs := vs) (l := sl) (fun i m nx => Agr names7 (mD5 sl σ.S Dl u) m ∧ K5 σ w t1 t2 Dl i m nx) rfl (by assumption) (by assumption) hl ⟨?_, .early Gl 0 0 oN xs rfl rfl rfl sok ne dic pn⟩ ?_ ?_
  · intro y hy
    have h1 : y ≠ Str.ofString "begun" := fun e => by rw [e] at hy; revert hy; decide
    have h2 : y ≠ Str.ofString "given" := fun e => by rw [e] at hy; revert hy; decide
    simp only [if_neg h1, if_neg h2]
  · clear hq F N sok ne dic pn
    intro i v m₁ nx h tk I oI hv hJ off hit F N
    obtain ⟨hA, hK⟩ := hJ
    have hi63 : i < 63 := by
      have h1 : i < vs.length := by
        rcases Nat.lt_or_ge i vs.length with h | h
        · exact h
        · rw [List.getElem?_eq_none h] at hv; cases hv
      have h2 := hi.length
      omega
    obtain ⟨x, tx, rfl⟩ : ∃ x tx, v = Value.int x tx := by
      have h1 : i < ns.length := by
        have h2 := hi.length
        rcases Nat.lt_or_ge i vs.length with h | h
        · omega
        · rw [List.getElem?_eq_none h] at hv; cases hv
      obtain ⟨t, ht⟩ := intsAre_getD hi i h1
      rw [ht] at hv
      cases hv
      exact ⟨_, _, rfl⟩
    refine turn_name ?_
    refine turn_box ?_
    intro PT hPT
    cases hK with
    | early Gl eg ed oN xs hb hg e sok ne dic pn =>
      subst e
      rw [map_of hA hb hg] at F
      clear hA hb hg
      generalize m₁ = u1 at F
      walk_at "goh"
      rename News _ _ _ _ => N3
      rename Fr _ _ _ _ => F3
      have hway := fmod_in x 9 (by decide)
      have hnode := fmod_in (x.fdiv 9) 8 (by decide)
      generalize x.fmod 9 = way at F3 hway ⊢
      generalize (x.fdiv 9).fmod 8 = node at F3 hnode ⊢
      have hIa : ∀ a ∈ addrS σ xs, I ≠ a := fun a ha => by
        obtain ⟨q', h1, rfl⟩ := addrS_led (w := w) (rv := .none) (po := .int 0 t1) (nf := .int 0 t2) (oN := oN) (rest := [(Gl, listOf #[] eg), (Dl, listOf #[] ed)]) a ha
        exact (off q' h1).symm
      have hoffr : ∀ q ∈ [(Gl, listOf #[] eg), (Dl, listOf #[] ed)], q.1 ≠ I := fun q hq => off q (ledS_rest hq)
      have N4 : News h₀ L _ (ledS σ w .none (.int 0 t1) (.int 0 t2) oN xs [(I, oI), (Gl, listOf #[] eg), (Dl, listOf #[] ed)]) := News.sub N3 (by walk_at "sub")
      clear N3
      by_cases hw0 : way = 0
      · subst hw0
        have hsI : SOK σ xs [(I, oI), (Gl, listOf #[] eg), (Dl, listOf #[] ed)] 13 := sok_rest sok fun a ha q hq => by
          rcases List.mem_cons.mp hq with rfl | hq
          · exact hIa a ha
          · exact sok.off a ha q hq
        refine wpAny_call (told_prepare (rest := [(I, oI), (Gl, listOf #[] eg), (Dl, listOf #[] ed)]) rfl rfl (by show d < 600; omega) X₀ T F3 hsI (by decide) (closed_P6 pn).1 (closed_P6 pn).2 dic N4 ?_)
        intro h5 tk5 Rl rs ep F5 hri hrn hlt5 N5
        clear N4 F3
        walk_at "goh"
        refine eqt rfl ?_
        walk_at "goh"
        rename Fr _ _ _ _ => F9
        rename News _ _ _ _ => N9
        refine hPT _ _ ⟨_, _, _, (Rl, listOf rs.toArray ep) :: ledS σ w (.ref Rl) (.int 0 t1) (.int 0 t2) oN xs [(Gl, listOf #[] eg), (Dl, listOf #[] ed)], rfl, F9, News.sub N9 (by walk_at "sub"), ?_, ?_, .begun Gl Rl eg ed ep oN xs [] [] rs t1 t2 rfl rfl rfl (sok_rest sok ?_) ne ?_ ?_ dic ?_ hri (fun _ h => nomatch h) (fun _ h => nomatch h) (Nat.zero_le _) (Nat.zero_le _)⟩
        · intro q hq
          rcases List.mem_cons.mp hq with rfl | hq
          · have := hlt5 (I, oI) (ledS_rest (.head _)); k_ne
          · exact off_front hIa hoffr q hq
        · repeat (first | exact Agr.base | refine Agr.put rfl ?_)
        · intro a ha q hq
          rcases List.mem_cons.mp hq with rfl | hq
          · obtain ⟨q', h1, rfl⟩ := addrS_led (w := w) (rv := .none) (po := .int 0 t1) (nf := .int 0 t2) (oN := oN) (rest := [(I, oI), (Gl, listOf #[] eg), (Dl, listOf #[] ed)]) a ha
            have := hlt5 q' h1; k_ne
          · exact sok.off a ha q hq
        · have := hlt5 (Gl, listOf #[] eg) (ledS_rest (.tail _ (.head _))); k_ne
        · have := hlt5 (Dl, listOf #[] ed) (ledS_rest (.tail _ (.tail _ (.head _)))); k_ne
        · rw [hrn, ready_P6 pn, pn]; exact pi_init
      · refine told_early (rest := (σ.Nd, oN) :: (ledN xs ++ [(I, oI), (Gl, listOf #[] eg), (Dl, listOf #[] ed)])) (po := .int 0 t1) (nf := .int 0 t2) hw0 rfl rfl (by show d < 600; omega) B X₀ T F3 N4 ?_
        intro h5 tk5 t5 F5 N5
        clear N4 F3
        walk_at "goh"
        refine eqf hw0 ?_
        walk_at "goh"
        rename Fr _ _ _ _ => F9
        rename News _ _ _ _ => N9
        refine hPT _ _ ⟨_, _, _, ledS σ w .none (.int 0 t1) (.int 0 t2) oN xs [(Gl, listOf #[] eg), (Dl, listOf #[] ed)], rfl, F9, News.sub N9 (by walk_at "sub"), off, ?_, .early Gl eg ed oN xs rfl rfl rfl sok ne dic pn⟩
        repeat (first | exact Agr.base | refine Agr.put rfl ?_)
    | begun Gl Rl eg ed ep oN xs gvs dvs rs ta tb hb hg e sok n1 n2 n3 dic pi ri gi di lg ld =>
      subst e
      rw [map_of hA hb hg] at F
      clear hA hb hg
      generalize m₁ = u1 at F
      walk_at "goh"
      rename News _ _ _ _ => N3
      rename Fr _ _ _ _ => F3
      have hway := fmod_in x 9 (by decide)
      have hnode := fmod_in (x.fdiv 9) 8 (by decide)
      generalize x.fmod 9 = way at F3 hway ⊢
      generalize (x.fdiv 9).fmod 8 = node at F3 hnode ⊢
      have hIR : @Ne Nat I Rl := (off (Rl, listOf rs.toArray ep) (.head _)).symm
      have hIa : ∀ a ∈ addrS σ xs, I ≠ a := fun a ha => by
        obtain ⟨q', h1, rfl⟩ := addrS_led (w := w) (rv := .ref Rl) (po := .int gvs.length ta) (nf := .int dvs.length tb) (oN := oN) (rest := [(Gl, listOf gvs.toArray eg), (Dl, listOf dvs.toArray ed)]) a ha
        exact (off q' (.tail _ h1)).symm
      have hIG : @Ne Nat I Gl := (off (Gl, listOf gvs.toArray eg) (.tail _ (ledS_rest (.head _)))).symm
      have hID : @Ne Nat I Dl := (off (Dl, listOf dvs.toArray ed) (.tail _ (ledS_rest (.tail _ (.head _))))).symm
      have hsI : SOK σ xs ((Rl, listOf rs.toArray ep) :: [(I, oI), (Gl, listOf gvs.toArray eg), (Dl, listOf dvs.toArray ed)]) 13 := sok_rest sok fun a ha q hq => by
        rcases List.mem_cons.mp hq with rfl | hq
        · exact sok.off a ha _ (.head _)
        rcases List.mem_cons.mp hq with rfl | hq
        · exact hIa a ha
        · exact sok.off a ha q (.tail _ hq)
      have hRr : ∀ q ∈ [(I, oI), (Gl, listOf gvs.toArray eg), (Dl, listOf dvs.toArray ed)], q.1 ≠ Rl := fun q hq => by
        rcases List.mem_cons.mp hq with rfl | hq
        · exact hIR
        rcases List.mem_cons.mp hq with rfl | hq
        · exact n2
        · rw [List.mem_singleton.mp hq]; exact n3
      have N4 : News h₀ L _ ((Rl, listOf rs.toArray ep) :: ledS σ w (.ref Rl) (.int gvs.length ta) (.int dvs.length tb) oN xs [(I, oI), (Gl, listOf gvs.toArray eg), (Dl, listOf dvs.toArray ed)]) := News.sub N3 (by walk_at "sub")
      clear N3
      have hxn : xs.map (·.node) = [3, 1, 2, 4, 5, 0] := by
        have := congrArg (List.map PN.node) pi.pn
        rw [List.map_map] at this
        exact this
      have hrl : rs.length ≤ 6 := by
        have h1 := pi.rd.length_eq
        rw [List.length_map] at h1
        rw [h1]; exact freeP_len _ _
      obtain ⟨PK, hPK⟩ : ∃ PK : Nat → (Str → Option Value) → List (Addr × Obj) → Prop, (∀ i m nx, K5 σ w t1 t2 Dl i m nx → PK i m nx) ∧ (∀ f s', TurnF h₀ L (I, oI) (fun m nx => Agr names7 (mD5 sl σ.S Dl u) m ∧ PK (i + 1) m nx) { s with heap := h, toks := tk } Q f s' → PT f s') := ⟨_, fun _ _ _ x => x, hPT⟩
      clear hPT
      by_cases hw0 : way = 0
      · subst hw0
        refine told_again (rest := (σ.Nd, oN) :: (ledN xs ++ [(I, oI), (Rl, listOf rs.toArray ep), (Gl, listOf gvs.toArray eg), (Dl, listOf dvs.toArray ed)])) (po := .int gvs.length ta) (nf := .int dvs.length tb) (Rl := Rl) rfl rfl (by show d < 600; omega) B X₀ T F3 (News.sub N4 (by walk_at "sub")) ?_
        intro h5 tk5 t5 F5 N5
        clear N4 F3
        walk_at "goh"
        refine eqt rfl ?_
        walk_at "goh"
        rename Fr _ _ _ _ => F9
        rename News _ _ _ _ => N9
        refine hPK.2 _ _ ⟨_, _, _, (Rl, listOf rs.toArray ep) :: ledS σ w (.ref Rl) (.int gvs.length ta) (.int dvs.length tb) oN xs [(Gl, listOf gvs.toArray eg), (Dl, listOf dvs.toArray ed)], rfl, F9, News.sub N9 (by walk_at "sub"), off, ?_, hPK.1 _ _ _ (.begun Gl Rl eg ed ep oN xs gvs dvs rs ta tb rfl rfl rfl sok n1 n2 n3 dic pi ri gi di (by omega) (by omega))⟩
        repeat (first | exact Agr.base | refine Agr.put rfl ?_)
      by_cases hw1 : way = 1
      · subst hw1
        refine told_ready (rest := [(I, oI), (Gl, listOf gvs.toArray eg), (Dl, listOf dvs.toArray ed)]) rfl rfl (by show d < 600; omega) B X₀ T (by omega) ri (fun v hv => ?_) hsI dic hRr F3 N4 ?_
        · rw [hxn]
          have h1 := (freeP_mem.mp (pi.rd.mem_iff.mp (List.mem_map_of_mem hv))).1
          simp only [List.mem_cons, List.not_mem_nil, or_false]
          omega
        intro h5 tk5 Sl ws e5 ep5 t5 xs5 F5 hs5 hd5 hp5 hwi hwp hws hlt5 N5
        clear N4 F3
        walk_at "goh"
        refine eqf (by decide) ?_
        walk_at "goh"
        refine eqt rfl ?_
        walk_at "goh"
        rename Fr _ _ _ _ => F6
        rename News _ _ _ _ => N6
        refine c_free (rest := (Sl, listOf ws.toArray e5) :: (Rl, listOf #[] ep5) :: ledS σ w (.ref Rl) (.int (gvs.length + rs.length) t5) (.int dvs.length tb) oN xs5 [(I, oI)]) rfl rfl (by show d < 600; omega) (by show un ≤ 100; omega) B X₀ T gi di F6 (News.sub N6 (by walk_at "sub")) ?_
        intro h7 tk7 Fl ys ep7 F7 hyi hye hlt7 N7
        clear N6 F6
        obtain ⟨hwe, hpi5⟩ := pi_ready pi hwp hws
        have hyl : ys.length = rs.length := by
          have h1 := congrArg List.length hye
          have h2 := pi.rd.length_eq
          rw [List.length_map] at h1 h2
          rw [h1, h2]; rfl
        walk_at "goh"
        rename Fr _ _ _ _ => F8
        rename News _ _ _ _ => N8
        refine add_lists_ints (vs := gvs) (ws := ys) F8 N8 (News.isList N8 (show (Gl, listOf gvs.toArray eg) ∈ _ by walk_at "elem")) (News.isList N8 (show (Fl, listOf ys.toArray ep7) ∈ _ by walk_at "elem")) (intsAre_of gi) (intsAre_of hyi) ?_ (by simp only [List.length_map]; rw [sizeLine_eq]; omega)
        intro h9 F9 N9 hI9
        have hlt9 := fun q hq => Heap.lt_size (N8 q hq).1
        clear F8 N8
        dsimp only at N9 hlt9 ⊢
        generalize (Heap.objs _).size = Gn at N9 hlt9 ⊢
        walk_at "goh"
        rename Fr _ _ _ _ => F10
        rename News _ _ _ _ => N10
        refine ke_ne_ints (xs := ws) (ys := ys) (News.isList N10 (show (Sl, listOf ws.toArray e5) ∈ _ by walk_at "elem")) (News.isList N10 (show (Fl, listOf ys.toArray ep7) ∈ _ by walk_at "elem")) (intsAre_of hwi) (intsAre_of hyi) (by show un + 64 < cLine; rw [cLine_is]; omega) ?_
        rw [show (!decide (ws.map intOf = ys.map intOf)) = false by rw [hwe, hye]; simp [freeP]]
        walk_at "goh"
        rename Fr _ _ _ _ => F11
        rename News _ _ _ _ => N11
        have hpo : ((gvs.length : Int) + (rs.length : Int)) = ((gvs ++ ys).length : Int) := by rw [List.length_append, hyl]; exact (Int.natCast_add _ _).symm
        rw [hpo] at N11
        have hGx : ∀ q ∈ (Rl, listOf #[] ep5) :: ledS σ w (.ref Rl) (.int (gvs.length + rs.length) t5) (.int dvs.length tb) oN xs5 [(I, oI), (Dl, listOf dvs.toArray ed)], @LT.lt Nat _ q.1 Gn := fun q hq => hlt9 q ((by walk_at "sub" : ∀ q ∈ (Rl, listOf #[] ep5) :: ledS σ w (.ref Rl) (.int (gvs.length + rs.length) t5) (.int dvs.length tb) oN xs5 [(I, oI), (Dl, listOf dvs.toArray ed)], q ∈ _) q hq)
        have hG1 := hGx (Rl, listOf #[] ep5) (.head _)
        have hG2 := hGx (I, oI) (.tail _ (ledS_rest (.head _)))
        have hG3 := hGx (Dl, listOf dvs.toArray ed) (.tail _ (ledS_rest (.tail _ (.head _))))
        refine hPK.2 _ _ ⟨_, _, _, (Rl, listOf #[] ep5) :: ledS σ w (.ref Rl) (.int (gvs ++ ys).length t5) (.int dvs.length tb) oN xs5 [(Gn, listOf (gvs ++ ys).toArray 0), (Dl, listOf dvs.toArray ed)], rfl, F11, News.sub N11 (by walk_at "sub"), ?_, ?_, hPK.1 _ _ _ (.begun Gn Rl 0 ed ep5 oN xs5 (gvs ++ ys) dvs [] t5 tb rfl rfl rfl (sok_rest hs5 ?_) (by k_ne) (by k_ne) n3 hd5 ?_ (fun _ h => nomatch h) ?_ di ?_ (by omega))⟩
        · intro q hq
          rcases List.mem_cons.mp hq with rfl | hq
          · exact hIR.symm
          · refine off_front (fun a ha => hs5.off a ha (I, oI) (.tail _ (.head _))) (fun q hq => ?_) q hq
            rcases List.mem_cons.mp hq with rfl | hq
            · k_ne
            · rw [List.mem_singleton.mp hq]; exact hID.symm
        · repeat (first | exact Agr.base | refine Agr.put rfl ?_)
        · intro a ha q hq
          rcases List.mem_cons.mp hq with rfl | hq
          · exact hs5.off a ha _ (.head _)
          rcases List.mem_cons.mp hq with rfl | hq
          · obtain ⟨q', h1, rfl⟩ := addrS_led (w := w) (rv := .ref Rl) (po := .int (gvs.length + rs.length) t5) (nf := .int dvs.length tb) (oN := oN) (rest := [(I, oI), (Dl, listOf dvs.toArray ed)]) a ha
            have := hGx q' (.tail _ h1); k_ne
          · rw [List.mem_singleton.mp hq]; exact hs5.off a ha (Dl, listOf dvs.toArray ed) (.tail _ (.tail _ (.tail _ (.head _))))
        · rw [hp5, List.map_append, hye]; exact hpi5
        · intro v hv
          rcases List.mem_append.mp hv with h | h
          · exact gi v h
          · exact hyi v h
        · rw [List.length_append]; omega
      have fin : ∀ h9 tk9 m9, Agr names7 (mD5 sl σ.S Dl u) m9 → m9 (Str.ofString "begun") = some (.bool true) → m9 (Str.ofString "given") = some (.ref Gl) → Fr h₀ L h9 m9 → News h₀ L h9 ((I, oI) :: (Rl, listOf rs.toArray ep) :: ledS σ w (.ref Rl) (.int gvs.length ta) (.int dvs.length tb) oN xs [(Gl, listOf gvs.toArray eg), (Dl, listOf dvs.toArray ed)]) → PT .next { s with heap := h9, toks := tk9 } :=
        fun h9 tk9 m9 a1 a2 a3 a4 a5 => hPK.2 _ _ ⟨_, _, _, _, rfl, a4, a5, off, a1, hPK.1 _ _ _ (.begun Gl Rl eg ed ep oN xs gvs dvs rs ta tb a2 a3 rfl sok n1 n2 n3 dic pi ri gi di (by omega) (by omega))⟩
      by_cases hw2 : way = 2
      · subst hw2
        refine told_active (rs := rs) (po := (gvs.length : Int)) (nf := (dvs.length : Int)) (t1 := ta) (t2 := tb) (ep := ep) (Rl := Rl) (rest := (σ.Nd, oN) :: (ledN xs ++ [(I, oI), (Gl, listOf gvs.toArray eg), (Dl, listOf dvs.toArray ed)])) rfl rfl (by show d < 600; omega) B X₀ T (by omega) F3 (News.sub N4 (by walk_at "sub")) ?_
        intro h5 tk5 F5 N5
        clear N4 F3
        by_cases hlt : (dvs.length : Int) < (gvs.length : Int)
        · rw [show (decide ((dvs.length : Int) < (gvs.length : Int)) || !rs.isEmpty) = true by simp [hlt]]
          walk_at "goh"
          refine eqf (by decide) ?_
          walk_at "goh"
          refine eqf (by decide) ?_
          walk_at "goh"
          refine eqt rfl ?_
          walk_at "goh"
          rename Fr _ _ _ _ => F5
          rename News _ _ _ _ => N5
          refine len_list (News.isList N5 (show (Dl, listOf dvs.toArray ed) ∈ _ by walk_at "elem")) (by simp only [List.size_toArray]; omega) ?_
          walk_at "goh"
          refine len_list (News.isList N5 (show (Gl, listOf gvs.toArray eg) ∈ _ by walk_at "elem")) (by simp only [List.size_toArray]; omega) ?_
          walk_at "goh"
          refine lt_int ?_
          rw [List.size_toArray, List.size_toArray]
          rw [show decide ((dvs.length : Int) < (gvs.length : Int)) = true from decide_eq_true hlt]
          walk_at "goh"
          rename Fr _ _ _ _ => F9
          rename News _ _ _ _ => N9
          refine fin _ _ _ ?_ rfl rfl F9 (News.sub N9 (by walk_at "sub"))
          repeat (first | exact Agr.base | refine Agr.put rfl ?_)
        · have hti : ∀ b, decide (freeP (gvs.map intOf) (dvs.map intOf) = []) = b → (decide ((dvs.length : Int) < (gvs.length : Int)) || !rs.isEmpty) = !b := fun b hb => by
            rw [← hb, decide_eq_false hlt, Bool.false_or]
            congr 1
            have h1 := pi.rd.length_eq
            rw [List.length_map] at h1
            cases rs with
            | nil => rw [decide_eq_true (List.length_eq_zero_iff.mp h1.symm)]; rfl
            | cons r rr =>
              have : freeP (gvs.map intOf) (dvs.map intOf) ≠ [] := fun e => by rw [e] at h1; cases h1
              rw [decide_eq_false this]; rfl
          obtain ⟨b, hb⟩ : ∃ b, decide (freeP (gvs.map intOf) (dvs.map intOf) = []) = b := ⟨_, rfl⟩
          rw [hti b hb]
          walk_at "goh"
          refine eqf (by decide) ?_
          walk_at "goh"
          refine eqf (by decide) ?_
          walk_at "goh"
          refine eqt rfl ?_
          walk_at "goh"
          rename Fr _ _ _ _ => F5
          rename News _ _ _ _ => N5
          refine len_list (News.isList N5 (show (Dl, listOf dvs.toArray ed) ∈ _ by walk_at "elem")) (by simp only [List.size_toArray]; omega) ?_
          walk_at "goh"
          refine len_list (News.isList N5 (show (Gl, listOf gvs.toArray eg) ∈ _ by walk_at "elem")) (by simp only [List.size_toArray]; omega) ?_
          walk_at "goh"
          refine lt_int ?_
          rw [List.size_toArray, List.size_toArray]
          rw [show decide ((dvs.length : Int) < (gvs.length : Int)) = false from decide_eq_false hlt]
          walk_at "goh"
          rename Fr _ _ _ _ => F6
          rename News _ _ _ _ => N6
          refine c_free (rest := (Rl, listOf rs.toArray ep) :: ledS σ w (.ref Rl) (.int gvs.length ta) (.int dvs.length tb) oN xs [(I, oI)]) rfl rfl (by show d < 600; omega) (by show un ≤ 100; omega) B X₀ T gi di F6 (News.sub N6 (by walk_at "sub")) ?_
          intro h7 tk7 Fl ys ep7 F7 hyi hye hlt7 N7
          walk_at "goh"
          rename Fr _ _ _ _ => F8
          rename News _ _ _ _ => N8
          refine ke_ne_ints (xs := ys) (ys := []) (News.isList N8 (show (Fl, listOf ys.toArray ep7) ∈ _ by walk_at "elem")) (News.isList N8 (.head _)) (intsAre_of hyi) .nil (by show un + 64 < cLine; rw [cLine_is]; omega) ?_
          rw [show decide (ys.map intOf = []) = b by rw [hye]; exact hb]
          cases b
          · walk_at "goh"
            rename Fr _ _ _ _ => F9
            rename News _ _ _ _ => N9
            refine fin _ _ _ ?_ rfl rfl F9 (News.sub N9 (by walk_at "sub"))
            repeat (first | exact Agr.base | refine Agr.put rfl ?_)
          · walk_at "goh"
            rename Fr _ _ _ _ => F9
            rename News _ _ _ _ => N9
            refine fin _ _ _ ?_ rfl rfl F9 (News.sub N9 (by walk_at "sub"))
            repeat (first | exact Agr.base | refine Agr.put rfl ?_)
      have hw : way ≠ 0 ∧ way ≠ 1 ∧ way ≠ 2 := ⟨hw0, hw1, hw2⟩
      by_cases hok : hasL (gvs.map intOf) node = true ∧ hasL (dvs.map intOf) node = false
      · clear fin
        have hg6 := pi.gr node (hasL_iff.mp hok.1)
        refine told_done (rest := [(I, oI), (Gl, listOf gvs.toArray eg), (Dl, listOf dvs.toArray ed)]) (n := 13) hw rfl rfl (by show d < 600; omega) B X₀ T ri (by omega) ?_ (fun p hp => ?_) hsI (closed_P6 pi.pn).1 dic hRr F3 N4 ?_
        · rw [hxn]
          simp only [List.mem_cons, List.not_mem_nil, or_false]
          omega
        · obtain ⟨sc, hlk⟩ := pi_look pi hg6
          rw [hlk] at hp
          cases hp
          rcases npf_cases (gvs.map intOf) (dvs.map intOf) node with ⟨h1, _⟩ | ⟨_, _, h⟩ | ⟨_, h1, _⟩
          · rw [hok.2] at h1; cases h1
          · exact h
          · rw [hok.1] at h1; cases h1
        intro h5 tk5 ep5 t5 xs5 rs5 F5 hst5 hri5 hp5 N5
        clear N4 F3
        have hpi5 := pi_done pi (hasL_iff.mp hok.1) (hasL_no.mp hok.2)
        rw [← hp5] at hpi5
        dsimp only at hpi5
        walk_at "goh"
        refine eqf hw0 ?_
        walk_at "goh"
        refine eqf hw1 ?_
        walk_at "goh"
        refine eqf hw2 ?_
        walk_at "goh"
        rename Fr _ _ _ _ => F6
        rename News _ _ _ _ => N6
        refine in_list_ints (News.isList N6 (show (Gl, listOf gvs.toArray eg) ∈ _ by walk_at "elem")) (intsAre_of gi) ?_
        rw [show ((gvs.map intOf).any fun x => x == node) = true from hok.1]
        walk_at "goh"
        refine notin_list_ints (News.isList N6 (show (Dl, listOf dvs.toArray ed) ∈ _ by walk_at "elem")) (intsAre_of di) ?_
        rw [show ((dvs.map intOf).any fun x => x == node) = false from hok.2]
        have hRD : @Ne Nat Rl Dl := n3.symm
        have hGD : @Ne Nat Gl Dl := n1
        obtain ⟨ro, hro⟩ : ∃ ro, ro = ledS σ w (.ref Rl) (.int gvs.length ta) (.int (dvs.length + 1) t5) oN xs5 [] := ⟨_, rfl⟩
        have hroD : ∀ q ∈ ro, q.1 ≠ Dl := fun q hq => by
          rw [hro] at hq
          rcases inL q hq with h | h
          · unfold addrS at h
            rw [st_addr hst5] at h
            exact fun e => sok.off _ h (Dl, listOf dvs.toArray ed) (.tail _ (.tail _ (.head _))) e.symm
          · exact (nomatch h)
        have N7 : News h₀ L _ ((Dl, listOf dvs.toArray ed) :: (Gl, listOf gvs.toArray eg) :: (I, oI) :: (Rl, listOf rs5.toArray ep5) :: ro) := News.sub N6 (by rw [hro]; walk_at "sub")
        clear N6
        walk_at "goh"
        rename Fr _ _ _ _ => F9
        rename News _ _ _ _ => N9
        rw [List.push_toArray, hro] at N9
        obtain ⟨tt, N10⟩ : ∃ tt, News h₀ L _ ((Dl, listOf (dvs ++ [Value.int node tt]).toArray (ed + 1)) :: (Gl, listOf gvs.toArray eg) :: (I, oI) :: (Rl, listOf rs5.toArray ep5) :: ledS σ w (.ref Rl) (.int gvs.length ta) (.int (dvs.length + 1) t5) oN xs5 []) := ⟨_, N9⟩
        have hnf : ((dvs.length : Int) + 1) = ((dvs ++ [Value.int node tt]).length : Int) := by rw [List.length_append]; rfl
        rw [hnf] at N10
        have sok5 := sok.same hst5
        refine hPK.2 _ _ ⟨_, _, _, (Rl, listOf rs5.toArray ep5) :: ledS σ w (.ref Rl) (.int gvs.length ta) (.int (dvs ++ [Value.int node tt]).length t5) oN xs5 [(Gl, listOf gvs.toArray eg), (Dl, listOf (dvs ++ [Value.int node tt]).toArray (ed + 1))], rfl, F9, News.sub N10 (by walk_at "sub"), ?_, ?_,
          hPK.1 _ _ _ (.begun Gl Rl eg (ed + 1) ep5 oN xs5 gvs (dvs ++ [Value.int node tt]) rs5 ta t5 rfl rfl rfl (sok_rest sok5 ?_) n1 n2 n3 (by rw [st_kvs hst5]; exact dic) ?_ hri5 gi ?_ (by omega) (by rw [List.length_append, List.length_singleton]; omega))⟩
        · intro q hq
          rcases List.mem_cons.mp hq with rfl | hq
          · exact hIR.symm
          · refine off_front (fun a ha => hIa a (by unfold addrS at ha ⊢; rw [← st_addr hst5]; exact ha)) (fun q hq => ?_) q hq
            rcases List.mem_cons.mp hq with rfl | hq
            · exact hIG.symm
            · rw [List.mem_singleton.mp hq]; exact hID.symm
        · repeat (first | exact Agr.base | refine Agr.put rfl ?_)
        · intro a ha q hq
          rcases List.mem_cons.mp hq with rfl | hq
          · exact sok5.off a ha (Rl, listOf rs.toArray ep) (.head _)
          rcases List.mem_cons.mp hq with rfl | hq
          · exact sok5.off a ha (Gl, listOf gvs.toArray eg) (.tail _ (.head _))
          · rw [List.mem_singleton.mp hq]; exact sok5.off a ha (Dl, listOf dvs.toArray ed) (.tail _ (.tail _ (.head _)))
        · rw [List.map_append]; exact hpi5
        · intro v hv
          rcases List.mem_append.mp hv with h | h
          · exact di v h
          · rw [List.mem_singleton.mp h]; exact ⟨_, _, rfl⟩
      · refine refused_box F3 (led := (Rl, listOf rs.toArray ep) :: ledS σ w (.ref Rl) (.int gvs.length ta) (.int dvs.length tb) oN xs [(I, oI), (Gl, listOf gvs.toArray eg), (Dl, listOf dvs.toArray ed)]) ?_ ?_
        · intro h5 tk5 t5 F5 N5
          clear N4 F3
          walk_at "goh"
          refine eqf hw0 ?_
          walk_at "goh"
          refine eqf hw1 ?_
          walk_at "goh"
          refine eqf hw2 ?_
          walk_at "goh"
          rename Fr _ _ _ _ => F6
          rename News _ _ _ _ => N6
          refine in_list_ints (News.isList N6 (show (Gl, listOf gvs.toArray eg) ∈ _ by walk_at "elem")) (intsAre_of gi) ?_
          cases hgn : hasL (gvs.map intOf) node with
          | false =>
            rw [show ((gvs.map intOf).any fun x => x == node) = false from hgn]
            walk_at "goh"
            rename Fr _ _ _ _ => F9
            rename News _ _ _ _ => N9
            refine fin _ _ _ ?_ rfl rfl F9 (News.sub N9 (by walk_at "sub"))
            repeat (first | exact Agr.base | refine Agr.put rfl ?_)
          | true =>
            have hdn : hasL (dvs.map intOf) node = true := by
              cases h : hasL (dvs.map intOf) node with
              | true => rfl
              | false => exact absurd ⟨hgn, h⟩ hok
            rw [show ((gvs.map intOf).any fun x => x == node) = true from hgn]
            walk_at "goh"
            refine notin_list_ints (News.isList N6 (show (Dl, listOf dvs.toArray ed) ∈ _ by walk_at "elem")) (intsAre_of di) ?_
            rw [show ((dvs.map intOf).any fun x => x == node) = true from hdn]
            walk_at "goh"
            rename Fr _ _ _ _ => F9
            rename News _ _ _ _ => N9
            refine fin _ _ _ ?_ rfl rfl F9 (News.sub N9 (by walk_at "sub"))
            repeat (first | exact Agr.base | refine Agr.put rfl ?_)
        · intro PQ hPQ
          by_cases hk6 : node < 6
          · obtain ⟨sc, hlk⟩ := pi_look pi ⟨hnode.1, hk6⟩
            have hnp : npf (gvs.map intOf) (dvs.map intOf) node = -2 ∨ 0 ≤ npf (gvs.map intOf) (dvs.map intOf) node := by
              rcases npf_cases (gvs.map intOf) (dvs.map intOf) node with ⟨_, h⟩ | ⟨h1, h2, _⟩ | ⟨_, _, h⟩
              · exact .inl h
              · exact absurd ⟨h2, h1⟩ hok
              · exact .inr h
            obtain ⟨x9, hx9, hxp⟩ := List.mem_map.mp (List.mem_of_find?_eq_some hlk)
            have e1 : x9.node = node := congrArg PN.node hxp
            have e2 : x9.np = npf (gvs.map intOf) (dvs.map intOf) node := congrArg PN.np hxp
            rw [← e2] at hnp
            have hval := value_of_mem sok.keys hx9 e1
            clear hlk hxp e2
            subst e1
            have hsub : ∀ q ∈ x9.led, q ∈ ledS σ w (.ref Rl) (.int gvs.length ta) (.int dvs.length tb) oN xs [(I, oI), (Gl, listOf gvs.toArray eg), (Dl, listOf dvs.toArray ed)] := fun q hq => ledS_node (List.mem_flatMap.mpr ⟨x9, hx9, hq⟩)
            refine told_busy (info := x9.info) (dx := x9.dx) (sl := x9.sl) (tn := x9.ntok) (tp := x9.nptok) (np := x9.np) (po := .int gvs.length ta) (nf := .int dvs.length tb) (Rl := Rl) (rest := (Rl, listOf rs.toArray ep) :: ledS σ w (.ref Rl) (.int gvs.length ta) (.int dvs.length tb) oN xs [(I, oI), (Gl, listOf gvs.toArray eg), (Dl, listOf dvs.toArray ed)]) hw hnode hnp rfl rfl (by show d < 600; omega) B X₀ T sok.lo dic hval F3 (News.sub N4 fun q hq => ?_) hPQ
            rcases List.mem_cons.mp hq with rfl | hq
            · exact .tail _ (hsub _ (.head _))
            rcases List.mem_cons.mp hq with rfl | hq
            · exact .tail _ (hsub _ (.tail _ (.head _)))
            rcases List.mem_cons.mp hq with rfl | hq
            · exact .tail _ (.head _)
            rcases List.mem_cons.mp hq with rfl | hq
            · exact .tail _ (.tail _ (.head _))
            rcases List.mem_cons.mp hq with rfl | hq
            · exact .tail _ (.tail _ (.tail _ (.head _)))
            · exact hq
          · have hval : valueAt (kvsN xs) node = none := by
              rw [valueAt_kvsN]
              have : (xs.find? fun x => decide (x.node = node)) = none := List.find?_eq_none.mpr fun y hy e => by
                have h1 : y.node ∈ xs.map (·.node) := List.mem_map_of_mem hy
                rw [hxn, of_decide_eq_true e] at h1
                simp only [List.mem_cons, List.not_mem_nil, or_false] at h1
                omega
              rw [this]; rfl
            refine told_none (po := .int gvs.length ta) (nf := .int dvs.length tb) (Rl := Rl) (rest := (Rl, listOf rs.toArray ep) :: (ledN xs ++ [(I, oI), (Gl, listOf gvs.toArray eg), (Dl, listOf dvs.toArray ed)])) hw hnode rfl rfl (by show d < 600; omega) B X₀ T sok.lo dic hval F3 (News.sub N4 (by walk_at "sub")) ?_
            intro h5 tk5 t5 F5 N5
            exact hPQ _ _ _ F5 (News.sub N5 (by walk_at "sub"))
  · intro m₁ nx h tk hJ F N
    exact hq h tk m₁ F
end
end
section
set_option maxHeartbeats 8000000
theorem frag_on19 : (fun (_ : Params → Frag) => PySem.Challenge.rw_cy0005_05.Holds) hd.heap_39 → True := by
  k_fill
  intro _; trivial
open PySem.Calls PyProof.Rows.TI
section
variable {w : World} {A₀ A : Around} {base h₀ : Heap} {L fa : Addr} {cv : Value} {m mg mb : Str → Option Value} {p : Program} {loose : List Str} {mean : ExcName → Option Value} {s : Shared}
  {Q : Flow → Shared → Prop} {E : Value → Shared → Prop}
theorem law_main {sl : Addr} {vs : List Value} {ns : List Int}
    (hh : A.handled = none) (hfr : A.frames = some [lawE L fa cv]) (hdp : A.depth < 500) (hun : A.units ≤ 50) (B : Below A₀ h₀ [] h₀) (X₀ : (hd.heap_39 w.params).In h₀) (T : Top p loose mean mg mb h₀)
    (hl : h₀.IsList sl vs.toArray) (hi : IntsAre vs ns) (hn : ns.length ≤ 63) (F : Fr h₀ L s.heap (fun y => if y = Str.ofString "script" then some (.ref sl) else none)) (N : News h₀ L s.heap [])
    (hq : ∀ h' tk' m', Fr h₀ L h' m' → Q (.ret (.bool true)) { s with heap := h', toks := tk' }) :
    wpAny (model Pr w) A (execs lawB (lawE L fa cv)) Q E s := by
  obtain ⟨_, d, _, gs, un⟩ := A
  dsimp only at hh hfr hdp hun
  subst hh hfr
  conv in lawB => whnf
  conv in (occs := *) (lawE L fa cv) => all_goals unfold lawE
  conv in (occs := *) lawS => all_goals whnf
  walk_at "gok"
  refine c_new rfl rfl (by show d < 700; omega) rfl rfl B X₀ T (by assumption) (by assumption) ?_
  intro h1 tk1 σ oN t1 t2 sok1 hlt1 hi1 F1 N1
  clear F N
  walk_at "gok"
  refine wpAny_For ?_
  walk_at "gok"
  rename_i d1 ha1 la1 d2 ha2 la2 d3 ha3 la3 d4 ha4 la4 D hD F2 N2 lD
  clear ha1 ha2 ha3
  refine hide fun G hG => ?_
  obtain ⟨tups, ht1, ht2, ht3, N3⟩ : ∃ tups : List (Addr × Obj), (D, tupOf [Value.ref d1, Value.ref d2, Value.ref d3, Value.ref d4].toArray 0) ∈ tups ∧ (∀ q ∈ tups, @LT.lt Nat _ σ.S q.1 ∧ @LT.lt Nat _ σ.D q.1 ∧ @LT.lt Nat _ σ.Nd q.1) ∧
      (∀ (j : Nat) (v : Value), [Value.ref d1, Value.ref d2, Value.ref d3, Value.ref d4][j]? = some v → ∃ (T : Addr) (a b : Int) (ta tb : Tok), v = Value.ref T ∧ (T, tupOf #[Value.int a ta, Value.int b tb] 0) ∈ tups ∧ edges5[j]? = some (a, b)) ∧ News h₀ L hD (ledS σ w .none (.int 0 t1) (.int 0 t2) oN [] tups) := by
    refine ⟨(D, tupOf [Value.ref d1, Value.ref d2, Value.ref d3, Value.ref d4].toArray 0) :: (d4, tupOf #[Value.int 4 (tk1 + 1 + 1 + 1 + 1 + 1 + 1 + 1), Value.int 5 (tk1 + 1 + 1 + 1 + 1 + 1 + 1 + 1 + 1)] 0) :: (d3, tupOf #[Value.int 3 (tk1 + 1 + 1 + 1 + 1 + 1), Value.int 4 (tk1 + 1 + 1 + 1 + 1 + 1 + 1)] 0) ::
      (d2, tupOf #[Value.int 2 (tk1 + 1 + 1 + 1), Value.int 3 (tk1 + 1 + 1 + 1 + 1)] 0) :: [(d1, tupOf #[Value.int 1 (tk1 + 1), Value.int 3 (tk1 + 1 + 1)] 0)], .head _, fun q hq => ?_, fun j v hv => ?_, News.sub N2 (by walk_at "sub")⟩
    · obtain ⟨_, _, _, _, l1, l2, l3, _⟩ := lD
      obtain ⟨_, _, _, m1, m2, m3, _⟩ := la4
      obtain ⟨_, _, n1, n2, n3, _⟩ := la3
      obtain ⟨_, o1, o2, o3, _⟩ := la2
      obtain ⟨p1, p2, p3, _⟩ := la1
      simp only [List.mem_cons, List.not_mem_nil, or_false] at hq
      rcases hq with rfl | rfl | rfl | rfl | rfl
      · exact ⟨l1, l2, l3⟩
      · exact ⟨m1, m2, m3⟩
      · exact ⟨n1, n2, n3⟩
      · exact ⟨o1, o2, o3⟩
      · exact ⟨p1, p2, p3⟩
    · match j, hv with
      | 0, hv => cases hv; exact ⟨_, 1, 3, _, _, rfl, .tail _ (.tail _ (.tail _ (.tail _ (.head _)))), rfl⟩
      | 1, hv => cases hv; exact ⟨_, 2, 3, _, _, rfl, .tail _ (.tail _ (.tail _ (.head _))), rfl⟩
      | 2, hv => cases hv; exact ⟨_, 3, 4, _, _, rfl, .tail _ (.tail _ (.head _)), rfl⟩
      | 3, hv => cases hv; exact ⟨_, 4, 5, _, _, rfl, .tail _ (.head _), rfl⟩
  refine hG ?_
  clear hG G lD la1 la2 la3 la4 N2
  have soT : SOK σ [] tups 0 := sok_rest sok1 fun a ha q hq => by
    have := ht2 q hq
    unfold addrS addrN at ha
    simp only [List.flatMap_nil, List.mem_cons, List.not_mem_nil, or_false] at ha
    rcases ha with rfl | rfl | rfl <;> k_ne
  refine for_tupI (vs := [Value.ref d1, Value.ref d2, Value.ref d3, Value.ref d4]) (ep := 0) (l := D) (fun i m nx => Agr [Str.ofString "a", Str.ofString "b"] (fun y => if y = Str.ofString "sorter" then some (.ref σ.S) else if y = Str.ofString "script" then some (.ref sl) else none) m ∧ J5 σ w t1 t2 tups i nx) rfl F2 N3 ?_ ⟨Agr.rfl', oN, [], rfl, soT, hi1, rfl⟩ ?_ ?_
  · rintro i m nx ⟨_, oN, xs, rfl, _⟩; exact ledS_rest ht1
  · clear hq F2 N3 soT sok1 hi1 hlt1
    intro j v m₂ nx h3 tk3 I oI hv hI0 off2 hit2 F3 N3
    refine hide fun G hG => ?_
    obtain ⟨hA2, oN2, xs2, rfl, sok2, dic2, pn2⟩ := hI0
    obtain ⟨T', a, b, ta, tb, rfl, hT, hed⟩ := ht3 j v hv
    refine hG ?_
    clear hG G
    have hj4 : j < 4 := by
      rcases Nat.lt_or_ge j 4 with h | h
      · exact h
      · rw [List.getElem?_eq_none h] at hv; cases hv
    rw [hA2.eq] at F3
    generalize m₂ = u2 at F3
    clear hA2 hv
    refine turn_twoT rfl hit2 F3 N3 (.tail _ (ledS_rest hT)) rfl rfl rfl rfl ?_
    intro h4 tk4 F4 N4
    have hsI : SOK σ xs2 ((I, oI) :: tups) (3 * j) := sok_rest sok2 fun a ha q hq => by
      rcases List.mem_cons.mp hq with rfl | hq
      · obtain ⟨q', h1, rfl⟩ := addrS_led (w := w) (rv := .none) (po := .int 0 t1) (nf := .int 0 t2) (oN := oN2) (rest := tups) a ha
        exact (off2 q' h1).symm
      · exact sok2.off a ha q hq
    have N5 : News h₀ L _ (ledS σ w .none (.int 0 t1) (.int 0 t2) oN2 xs2 ((I, oI) :: tups)) := News.sub N4 (by walk_at "sub")
    clear F3 N3 N4 hit2
    walk_at "gok"
    refine wpAny_call (c_add (rest := (I, oI) :: tups) (vs := [.int a ta]) rfl rfl (by show d < 800; omega) rfl rfl B X₀ T (by assumption) hsI (by simp only [List.length_singleton]; omega) (fun v h => by rw [List.mem_singleton.mp h]; exact ⟨_, _, rfl⟩) dic2 N5 ?_)
    intro h5 tk5 oN5 xs5 hp5 hs5 hd5 F5 N6
    walk_at "gok"
    refine ⟨_, _, _, ledS σ w .none (.int 0 t1) (.int 0 t2) oN5 xs5 tups, rfl, F5, News.sub N6 (by walk_at "sub"), off_front (fun a ha => hs5.off a ha (I, oI) (.head _)) (fun q hq => off2 q (ledS_rest hq)), Agr.put rfl (Agr.put rfl Agr.base), oN5, xs5, rfl, (sok_tail hs5).wk (by simp only [List.length_singleton]; omega), hd5, ?_⟩
    rw [hp5, pn2, List.take_add_one, hed, List.foldl_append]
    rfl
  · intro m₂ nx h3 tk3 hI0 F3 N3
    clear F2 soT sok1 hi1 hlt1
    refine hide fun G hG => ?_
    obtain ⟨hA2, oN2, xs2, rfl, sok2, dic2, pn2⟩ := hI0
    refine hG ?_
    clear hG G
    rw [hA2.eq] at F3
    generalize m₂ = u2 at F3
    clear hA2
    have N4 : News h₀ L h3 (ledS σ w .none (.int 0 t1) (.int 0 t2) oN2 xs2 []) := News.sub N3 (by walk_at "sub")
    have sok3 : SOK σ xs2 [] 12 := sok_rest sok2 fun a ha q hq => (nomatch hq)
    clear N3
    walk_at "gok"
    refine wpAny_call (c_add (rest := []) (vs := []) rfl rfl (by show d < 800; omega) rfl rfl B X₀ T (by assumption) sok3 (by decide) (fun _ h => nomatch h) dic2 N4 ?_)
    intro h5 tk5 oN5 xs5 hp5 hs5 hd5 F5 N6
    have hpn : xs5.map NI.pn = P6 [] [] := by rw [hp5, pn2]; exact (rfl : addP ((edges5.take 4).foldl (fun ps e => addP ps e.2 [e.1]) []) 0 [] = P6 [] [])
    clear hp5 pn2 dic2 sok3 sok2 N4 ht1 ht2 ht3
    walk_at "gok"
    rename_i Gl _ lG Dl _ lD Tp _ lT _ _ _ _ F6 N6
    have N7 : News h₀ L _ (ledS σ w .none (.int 0 t1) (.int 0 t2) oN5 xs5 [(Gl, listOf #[] 0), (Dl, listOf #[] 0)]) := News.sub N6 (by walk_at "sub")
    have hGx : ∀ q ∈ ledS σ w .none (.int 0 t1) (.int 0 t2) oN5 xs5 [], @LT.lt Nat _ q.1 Gl := allLt_mem lG
    have hDx : ∀ q ∈ ledS σ w .none (.int 0 t1) (.int 0 t2) oN5 xs5 [], @LT.lt Nat _ q.1 Dl := allLt_mem lD.2
    have hGD : @LT.lt Nat _ Gl Dl := lD.1
    refine l_loop rfl rfl (by show d < 500; omega) (by show un ≤ 50; omega) B X₀ T hl hi hn F6 N7 (sok_rest hs5 fun a ha q hq => ?_) (by k_ne) hd5 hpn ?_
    · obtain ⟨q', h1, rfl⟩ := addrS_led (w := w) (rv := .none) (po := .int 0 t1) (nf := .int 0 t2) (oN := oN5) (rest := []) a ha
      rcases List.mem_cons.mp hq with rfl | hq
      · have := hGx q' h1; k_ne
      · rw [List.mem_singleton.mp hq]; have := hDx q' h1; k_ne
    intro h6 tk6 m6 F7
    dsimp only
    walk_at "gok"
    exact hq _ _ _ F7
end
end
end Mine
set_option maxHeartbeats 8000000
namespace Mine
theorem one_map (a : Str) (v : Value) : (fun y => List.lookup y [(a, v)].reverse) = fun y => if y = a then some v else none := by
  funext y
  show (match y == a with | true => some v | false => none) = _
  by_cases h : y = a
  · rw [if_pos h, h, beq_self_eq_true]
  · rw [if_neg h, show (y == a) = false from beq_eq_false_iff_ne.mpr h]
theorem end_bool {c : ClaimW} {cl : Str → Option Addr} {mean : ExcName → Option Value} {args : List WData} {s₁ s' : Shared} {L : Addr} {m : Str → Option Value} (F : Fr s₁.heap L s'.heap m) (hg : AllBare s'.gens) (hn : ∀ cls, c.raises args cls = false) (hp : c.post args (.bool true) args = true) (hos : s'.os = s₁.os) :
    GoodWG c cl mean args s₁ (.ok (.ret (.bool true))) s' := ⟨.inl ⟨_, _, _, rfl, hn, .bool true, hp, fun _ => ⟨.nil, fun _ h => (nomatch h)⟩⟩, .of_keep F.keep, hos, hg⟩
end Mine
theorem PySem.Challenge.cw_cy0005_05_holds : PySem.Challenge.rw_cy0005_05.Holds := by
  refine Mine.hd ?_
  k_fill
  intro w s₀ s₁ mg mb G Y fa o pm cd doc dV kV ho hd' hcd hD hmg hg args vals as hpre hlay hrd hwl hlo
  have KX := kIn_of Y
  refine Ground.open G ?_
  intro T B D TE TW
  (try (refine guard_noD D (by decide +kernel) ?_; clear D))
  (try (obtain ⟨_, _, he, B0⟩ := based_of_top T rfl hmg ho hd'; have he' : cd = _ := he; subst he'; clear he))
  clear hmg
  wrow_args hpre hlay hrd hwl hlo
  refine enter_call ?_
  w_top on
  have K0 := below_caller (Top.heap T)
  w_call any ho hd' hcd hD T F
  dsimp only
  rename IntsAre _ _ => hints
  rename Heap.IsList _ _ _ => hlist
  rename ¬ _ < _ => hbound
  refine Mine.law_main (A := callerA.deeper _) rfl rfl ?d ?u K0 KX T hlist hints (by omega) ?F (fun _ h => nomatch h) ?_
  case d => rw [depth_deeper, depth_caller]; decide
  case u => rw [units_deeper, units_caller]; decide
  case F => rw [Mine.one_map] at F; exact F
  intro h' tk' m' F'
  refine Mine.end_bool F' (AllBare.of_eq hg) ?_ ?_ rfl
  · exact fun _ => rfl
  · exact postW_of (by wrow_shape) (by wtm_val) (by first | rfl | (str_meet; first | done | w_fin))
