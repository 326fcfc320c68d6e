import PyProof.Rows.All
import Wide.All
import OpenK.AllK
import Wide.FinOn
import PySem.Challenge.RW_cy0005_01
open PySem PySem.W PyProof.Rows
set_option Elab.async false
set_option compiler.extract_closed false
set_option maxRecDepth 100000
set_option linter.all false
namespace Mine
section
set_option maxHeartbeats 8000000
section
 local macro_rules | `(tactic| o_head $_) => `(tactic| assumption)
theorem kmake (h : PySem.Challenge.rw_cy0005_01.row.Holds) : PySem.Challenge.rw_cy0005_01.row.Holds := by
  k_head
end
noncomputable def KF : Params → Frag := fun P => (fun (x : Frag) (_ : ∃ y : Frag, x = y) => x) (List.cons _ _) ⟨kmake.heap_1 P, rfl⟩
end
set_option maxHeartbeats 1000000
noncomputable abbrev Pr : Program := PySem.Challenge.rw_cy0005_01.row.prog
theorem allLt_ne {d d' : Nat} : ∀ {l : List (Addr × Obj)}, AllLt d l → d ≤ d' → ∀ p ∈ l, p.1 ≠ d'
  | [], _, _ => fun _ h => (nomatch h)
  | q :: r, h, hd => fun p hp => by
    rcases List.mem_cons.mp hp with rfl | hp
    · exact Nat.ne_of_lt (Nat.lt_of_lt_of_le h.1 hd)
    · exact allLt_ne h.2 hd p hp
theorem aln0 {d d' : Nat} {l : List (Addr × Obj)} (h : AllLt d l) (hd : d ≤ d') : ∀ p ∈ l, p.1 ≠ d' := allLt_ne h hd
theorem aln1 {a0 : Prop} {d d' : Nat} {l : List (Addr × Obj)} (h : a0 ∧ AllLt d l) (hd : d ≤ d') : ∀ p ∈ l, p.1 ≠ d' := aln0 h.2 hd
theorem aln2 {a0 a1 : Prop} {d d' : Nat} {l : List (Addr × Obj)} (h : a0 ∧ a1 ∧ AllLt d l) (hd : d ≤ d') : ∀ p ∈ l, p.1 ≠ d' := aln1 h.2 hd
theorem aln3 {a0 a1 a2 : Prop} {d d' : Nat} {l : List (Addr × Obj)} (h : a0 ∧ a1 ∧ a2 ∧ AllLt d l) (hd : d ≤ d') : ∀ p ∈ l, p.1 ≠ d' := aln2 h.2 hd
theorem aln4 {a0 a1 a2 a3 : Prop} {d d' : Nat} {l : List (Addr × Obj)} (h : a0 ∧ a1 ∧ a2 ∧ a3 ∧ AllLt d l) (hd : d ≤ d') : ∀ p ∈ l, p.1 ≠ d' := aln3 h.2 hd
theorem aln5 {a0 a1 a2 a3 a4 : Prop} {d d' : Nat} {l : List (Addr × Obj)} (h : a0 ∧ a1 ∧ a2 ∧ a3 ∧ a4 ∧ AllLt d l) (hd : d ≤ d') : ∀ p ∈ l, p.1 ≠ d' := aln4 h.2 hd
theorem aln6 {a0 a1 a2 a3 a4 a5 : Prop} {d d' : Nat} {l : List (Addr × Obj)} (h : a0 ∧ a1 ∧ a2 ∧ a3 ∧ a4 ∧ a5 ∧ AllLt d l) (hd : d ≤ d') : ∀ p ∈ l, p.1 ≠ d' := aln5 h.2 hd
theorem aln7 {a0 a1 a2 a3 a4 a5 a6 : Prop} {d d' : Nat} {l : List (Addr × Obj)} (h : a0 ∧ a1 ∧ a2 ∧ a3 ∧ a4 ∧ a5 ∧ a6 ∧ AllLt d l) (hd : d ≤ d') : ∀ p ∈ l, p.1 ≠ d' := aln6 h.2 hd
theorem aln8 {a0 a1 a2 a3 a4 a5 a6 a7 : Prop} {d d' : Nat} {l : List (Addr × Obj)} (h : a0 ∧ a1 ∧ a2 ∧ a3 ∧ a4 ∧ a5 ∧ a6 ∧ a7 ∧ AllLt d l) (hd : d ≤ d') : ∀ p ∈ l, p.1 ≠ d' := aln7 h.2 hd
theorem aln9 {a0 a1 a2 a3 a4 a5 a6 a7 a8 : Prop} {d d' : Nat} {l : List (Addr × Obj)} (h : a0 ∧ a1 ∧ a2 ∧ a3 ∧ a4 ∧ a5 ∧ a6 ∧ a7 ∧ a8 ∧ AllLt d l) (hd : d ≤ d') : ∀ p ∈ l, p.1 ≠ d' := aln8 h.2 hd
theorem aln10 {a0 a1 a2 a3 a4 a5 a6 a7 a8 a9 : Prop} {d d' : Nat} {l : List (Addr × Obj)} (h : a0 ∧ a1 ∧ a2 ∧ a3 ∧ a4 ∧ a5 ∧ a6 ∧ a7 ∧ a8 ∧ a9 ∧ AllLt d l) (hd : d ≤ d') : ∀ p ∈ l, p.1 ≠ d' := aln9 h.2 hd
theorem aln11 {a0 a1 a2 a3 a4 a5 a6 a7 a8 a9 a10 : Prop} {d d' : Nat} {l : List (Addr × Obj)} (h : a0 ∧ a1 ∧ a2 ∧ a3 ∧ a4 ∧ a5 ∧ a6 ∧ a7 ∧ a8 ∧ a9 ∧ a10 ∧ AllLt d l) (hd : d ≤ d') : ∀ p ∈ l, p.1 ≠ d' := aln10 h.2 hd
theorem aln12 {a0 a1 a2 a3 a4 a5 a6 a7 a8 a9 a10 a11 : Prop} {d d' : Nat} {l : List (Addr × Obj)} (h : a0 ∧ a1 ∧ a2 ∧ a3 ∧ a4 ∧ a5 ∧ a6 ∧ a7 ∧ a8 ∧ a9 ∧ a10 ∧ a11 ∧ AllLt d l) (hd : d ≤ d') : ∀ p ∈ l, p.1 ≠ d' := aln11 h.2 hd
theorem aln13 {a0 a1 a2 a3 a4 a5 a6 a7 a8 a9 a10 a11 a12 : Prop} {d d' : Nat} {l : List (Addr × Obj)} (h : a0 ∧ a1 ∧ a2 ∧ a3 ∧ a4 ∧ a5 ∧ a6 ∧ a7 ∧ a8 ∧ a9 ∧ a10 ∧ a11 ∧ a12 ∧ AllLt d l) (hd : d ≤ d') : ∀ p ∈ l, p.1 ≠ d' := aln12 h.2 hd
theorem aln14 {a0 a1 a2 a3 a4 a5 a6 a7 a8 a9 a10 a11 a12 a13 : Prop} {d d' : Nat} {l : List (Addr × Obj)} (h : a0 ∧ a1 ∧ a2 ∧ a3 ∧ a4 ∧ a5 ∧ a6 ∧ a7 ∧ a8 ∧ a9 ∧ a10 ∧ a11 ∧ a12 ∧ a13 ∧ AllLt d l) (hd : d ≤ d') : ∀ p ∈ l, p.1 ≠ d' := aln13 h.2 hd
theorem cj0 {a0 q : Prop} (h : a0 ∧ q) : a0 := h.1
theorem cj1 {a0 a1 q : Prop} (h : a0 ∧ a1 ∧ q) : a1 := h.2.1
theorem cj2 {a0 a1 a2 q : Prop} (h : a0 ∧ a1 ∧ a2 ∧ q) : a2 := h.2.2.1
theorem cj3 {a0 a1 a2 a3 q : Prop} (h : a0 ∧ a1 ∧ a2 ∧ a3 ∧ q) : a3 := h.2.2.2.1
theorem cj4 {a0 a1 a2 a3 a4 q : Prop} (h : a0 ∧ a1 ∧ a2 ∧ a3 ∧ a4 ∧ q) : a4 := h.2.2.2.2.1
theorem cj5 {a0 a1 a2 a3 a4 a5 q : Prop} (h : a0 ∧ a1 ∧ a2 ∧ a3 ∧ a4 ∧ a5 ∧ q) : a5 := h.2.2.2.2.2.1
theorem cj6 {a0 a1 a2 a3 a4 a5 a6 q : Prop} (h : a0 ∧ a1 ∧ a2 ∧ a3 ∧ a4 ∧ a5 ∧ a6 ∧ q) : a6 := h.2.2.2.2.2.2.1
theorem cj7 {a0 a1 a2 a3 a4 a5 a6 a7 q : Prop} (h : a0 ∧ a1 ∧ a2 ∧ a3 ∧ a4 ∧ a5 ∧ a6 ∧ a7 ∧ q) : a7 := h.2.2.2.2.2.2.2.1
theorem cj8 {a0 a1 a2 a3 a4 a5 a6 a7 a8 q : Prop} (h : a0 ∧ a1 ∧ a2 ∧ a3 ∧ a4 ∧ a5 ∧ a6 ∧ a7 ∧ a8 ∧ q) : a8 := h.2.2.2.2.2.2.2.2.1
theorem cj9 {a0 a1 a2 a3 a4 a5 a6 a7 a8 a9 q : Prop} (h : a0 ∧ a1 ∧ a2 ∧ a3 ∧ a4 ∧ a5 ∧ a6 ∧ a7 ∧ a8 ∧ a9 ∧ q) : a9 := h.2.2.2.2.2.2.2.2.2.1
theorem cj10 {a0 a1 a2 a3 a4 a5 a6 a7 a8 a9 a10 q : Prop} (h : a0 ∧ a1 ∧ a2 ∧ a3 ∧ a4 ∧ a5 ∧ a6 ∧ a7 ∧ a8 ∧ a9 ∧ a10 ∧ q) : a10 := h.2.2.2.2.2.2.2.2.2.2.1
theorem cj11 {a0 a1 a2 a3 a4 a5 a6 a7 a8 a9 a10 a11 q : Prop} (h : a0 ∧ a1 ∧ a2 ∧ a3 ∧ a4 ∧ a5 ∧ a6 ∧ a7 ∧ a8 ∧ a9 ∧ a10 ∧ a11 ∧ q) : a11 := h.2.2.2.2.2.2.2.2.2.2.2.1
theorem allLt_mem {d : Nat} : ∀ {l : List (Addr × Obj)}, AllLt d l → ∀ p ∈ l, p.1 < d
  | [], _ => fun _ h => (nomatch h)
  | q :: r, h => fun p hp => by
    rcases List.mem_cons.mp hp with rfl | hp
    · exact h.1
    · exact allLt_mem h.2 p hp
theorem sub_self {α : Type} {l : List α} : ∀ q ∈ l, q ∈ l := fun _ h => h
theorem sub_left {α : Type} {l r : List α} : ∀ q ∈ l, q ∈ l ++ r := fun _ h => List.mem_append_left _ h
theorem sub_tail {α : Type} {l r : List α} {a : α} (h : ∀ q ∈ l, q ∈ r) : ∀ q ∈ l, q ∈ a :: r := fun q hq => .tail _ (h q hq)
theorem sub_right {α : Type} {l r r' : List α} (h : ∀ q ∈ l, q ∈ r) : ∀ q ∈ l, q ∈ r' ++ r := fun q hq => List.mem_append_right _ (h q hq)
theorem sub_inl {α : Type} {l r r' : List α} (h : ∀ q ∈ l, q ∈ r) : ∀ q ∈ l, q ∈ r ++ r' := fun q hq => List.mem_append_left _ (h q hq)
theorem sub_cons {α : Type} {a : α} {l r : List α} (h1 : a ∈ r) (h2 : ∀ q ∈ l, q ∈ r) : ∀ q ∈ a :: l, q ∈ r := List.forall_mem_cons.mpr ⟨h1, h2⟩
theorem sub_app {α : Type} {l l' r : List α} (h1 : ∀ q ∈ l, q ∈ r) (h2 : ∀ q ∈ l', q ∈ r) : ∀ q ∈ l ++ l', q ∈ r := fun q hq => (List.mem_append.mp hq).elim (h1 q) (h2 q)
local macro_rules | `(tactic| walk_at "elem") => `(tactic| first | with_reducible exact List.mem_cons_self | ((with_reducible refine List.mem_cons_of_mem _ ?_); walk_at "elem") | ((with_reducible refine List.mem_append_right _ ?_); walk_at "elem") | ((with_reducible refine List.mem_append_left _ ?_); walk_at "elem"))
local macro_rules | `(tactic| walk_at "leaf") => `(tactic| first | with_reducible exact sub_self | with_reducible exact sub_left | ((with_reducible refine sub_tail ?_); walk_at "leaf") | ((with_reducible refine sub_right ?_); walk_at "leaf") | ((with_reducible refine sub_inl ?_); walk_at "leaf"))
local macro_rules | `(tactic| walk_at "sub") => `(tactic| first | with_reducible exact sub_self | with_reducible exact List.forall_mem_nil _ | ((with_reducible refine sub_cons ?a ?b); (case a => walk_at "elem"); (case b => walk_at "sub")) | ((with_reducible refine sub_app ?a ?b); (case a => walk_at "sub"); (case b => walk_at "sub")) | walk_at "leaf")
local macro_rules | `(tactic| walk_at "alns") => `(tactic| first | (refine aln0 (by with_reducible assumption) ?_; omega) | (refine aln1 (by with_reducible assumption) ?_; omega) | (refine aln2 (by with_reducible assumption) ?_; omega) | (refine aln3 (by with_reducible assumption) ?_; omega) | (refine aln4 (by with_reducible assumption) ?_; omega) | (refine aln5 (by with_reducible assumption) ?_; omega) | (refine aln6 (by with_reducible assumption) ?_; omega) | (refine aln7 (by with_reducible assumption) ?_; omega) | (refine aln8 (by with_reducible assumption) ?_; omega) | (refine aln9 (by with_reducible assumption) ?_; omega) | (refine aln10 (by with_reducible assumption) ?_; omega) | (refine aln11 (by with_reducible assumption) ?_; omega) | (refine aln12 (by with_reducible assumption) ?_; omega) | (refine aln13 (by with_reducible assumption) ?_; omega) | (refine aln14 (by with_reducible assumption) ?_; omega))
local macro_rules | `(tactic| k_all) => `(tactic| first | assumption | (refine' List.forall_mem_cons.mpr ⟨?a, ?b⟩; (case a => k_ne); (case b => k_all)) | exact List.forall_mem_nil _ | walk_at "alns")
local macro_rules | `(tactic| walk_at "lts") => `(tactic| first | assumption | exact cj0 (by with_reducible assumption) | exact cj1 (by with_reducible assumption) | exact cj2 (by with_reducible assumption) | exact cj3 (by with_reducible assumption) | exact cj4 (by with_reducible assumption) | exact cj5 (by with_reducible assumption) | exact cj6 (by with_reducible assumption) | exact cj7 (by with_reducible assumption) | exact cj8 (by with_reducible assumption) | exact cj9 (by with_reducible assumption) | exact cj10 (by with_reducible assumption) | exact cj11 (by with_reducible assumption))
local macro_rules | `(tactic| k_ne) => `(tactic| first | assumption | exact Ne.symm (by assumption) | (refine neN ?_; (try dsimp only); first | assumption | exact Ne.symm (by assumption) | exact Nat.ne_of_lt (by walk_at "lts") | exact Nat.ne_of_gt (by walk_at "lts") | omega))
local macro_rules | `(tactic| k_room) => `(tactic| ((try simp only [depth_under_make, depth_under_kw, depth_in1, depth_deeper, depth_caller, recursionLimit]); omega))
theorem frag_on : (fun (_ : Params → Frag) => PySem.Challenge.rw_cy0005_01.Holds) KF → True := by
  k_fill
  intro _; trivial
/-! one _NodeInfo as it lies: the object, its (empty) dict, the list of its successors -/
structure NI where
  info : Addr
  dx : Addr
  node : Int
  ntok : Tok
  np : Int
  nptok : Tok
  sl : Addr
  sv : List Value
  ep : Nat
noncomputable abbrev NI.o (x : NI) : Obj := ⟨.ref 33, some x.dx, .plain, [some (.int x.node x.ntok), some (.int x.np x.nptok), some (.ref x.sl)].toArray⟩
noncomputable abbrev NI.l (x : NI) : Obj := listOf x.sv.toArray x.ep
noncomputable abbrev NI.led (x : NI) : List (Addr × Obj) := [(x.info, x.o), (x.dx, dictOf [] 0), (x.sl, x.l)]
noncomputable def ledN (xs : List NI) : List (Addr × Obj) := xs.flatMap NI.led
noncomputable def kvsN (xs : List NI) : List (Int × Value) := xs.map fun x => (x.node, Value.ref x.info)
/-- the sorter's own addresses and the tokens of its dict's keys -/
structure Srt where
  S : Addr
  D : Addr
  Nd : Addr
  t1 : Tok
  t2 : Tok
  t3 : Tok
  t4 : Tok
noncomputable abbrev Srt.d (σ : Srt) (w : World) (rv po nf : Value) : Obj := dictOf [⟨PyData.keyHash w.params (Str.ofString "_node2info"), .str (Str.ofString "_node2info") σ.t1, .ref σ.Nd⟩, ⟨PyData.keyHash w.params (Str.ofString "_ready_nodes"), .str (Str.ofString "_ready_nodes") σ.t2, rv⟩, ⟨PyData.keyHash w.params (Str.ofString "_npassedout"), .str (Str.ofString "_npassedout") σ.t3, po⟩, ⟨PyData.keyHash w.params (Str.ofString "_nfinished"), .str (Str.ofString "_nfinished") σ.t4, nf⟩] 4
theorem News.sub {h₀ h : Heap} {L : Addr} {l l' : List (Addr × Obj)} (N : News h₀ L h l) (hs : ∀ q ∈ l', q ∈ l) : News h₀ L h l' := fun q hq => N q (hs q hq)
theorem valueAt_kvsN (xs : List NI) (k : Int) : valueAt (kvsN xs) k = (xs.find? fun x => x.node = k).map fun x => Value.ref x.info := by
  unfold valueAt kvsN
  induction xs with
  | nil => rfl
  | cons x r ih =>
    simp only [List.map_cons, List.find?_cons]
    by_cases h : x.node = k
    · simp [h]
    · simp only [h, decide_false]; exact ih
section
variable {w : World} {A₀ A : Around} {base h₀ : Heap} {outer : List Env} {env : Env} {L : Addr} {m mg mb : Str → Option Value} {p : Program} {loose : List Str} {mean : ExcName → Option Value} {s : Shared}
  {R : Result → Shared → Prop}
/-- self._get_nodeinfo(k) -/
theorem c_get_nodeinfo {σ : Srt} {rv po nf : Value} {oN : Obj} {xs : List NI} {rest : List (Addr × Obj)} {k : Int} {tk : Tok}
    (hh : A.handled = none) (hfr : A.frames = some (env :: outer)) (hdp : A.depth < 900) (hf : env.frame = some L) (hke : env.scope.kind = .function)
    (B : Below A₀ base outer h₀) (X₀ : (KF w.params).In h₀) (T : Top p loose mean mg mb h₀) (F : Fr h₀ L s.heap m)
    (lo : (σ.Nd == sysModules) = false) (hdN : oN.IsDictOf (intKind Pr w) (kvsN xs)) (hsz : xs.length ≤ 10000) (hne : (σ.S ≠ σ.Nd ∧ σ.D ≠ σ.Nd) ∧ ∀ p ∈ rest, p.1 ≠ σ.Nd)
    (N : News h₀ L s.heap ((σ.S, instObj 130 σ.D) :: (σ.D, σ.d w rv po nf) :: (σ.Nd, oN) :: rest))
    (hold : ∀ h' tk' x, (xs.find? fun x => x.node = k) = some x → Fr h₀ L h' m → News h₀ L h' ((σ.S, instObj 130 σ.D) :: (σ.D, σ.d w rv po nf) :: (σ.Nd, oN) :: rest) →
      R (.ok (.ret (.ref x.info))) { s with heap := h', toks := tk' })
    (hnew : ∀ h' tk' oN' x, (xs.find? fun x => x.node = k) = none → x.node = k → x.np = 0 → x.sv = [] → oN'.IsDictOf (intKind Pr w) (kvsN (xs ++ [x])) →
      (∀ p ∈ (σ.S, instObj 130 σ.D) :: (σ.D, σ.d w rv po nf) :: (σ.Nd, oN) :: rest, p.1 < x.dx) → x.dx < x.info → x.info < x.sl → Fr h₀ L h' m →
      News h₀ L h' ((σ.S, instObj 130 σ.D) :: (σ.D, σ.d w rv po nf) :: (σ.Nd, oN') :: (x.led ++ rest)) → R (.ok (.ret (.ref x.info))) { s with heap := h', toks := tk' }) :
    codeAny (model Pr w) A (.call (.ref 73) ⟨[.ref σ.S, .int k tk], []⟩) R s := by
  obtain ⟨_, d, _, gs, u⟩ := A
  dsimp only at hh hfr hdp
  subst hh hfr
  refine' code_def B F X₀ N T rfl hf hke ?k6 ?k7 ?k8 ?k9 ?kB ?_ ?c2 ?c3 ?c4 ?c5
  case k6 => k_is
  case k7 => k_is
  case k8 => k_room
  case k9 => exact BindsTo.of_eq rfl
  case c5 => decide
  case kB => exact locs rfl
  case c2 => exact rfl
  case c3 => exact rfl
  case c4 => exact rfl
  intro g' L' h' FG' F' N' B' X' T'
  (try dsimp only)
  k_fold
  k_steps
  rcases hv : (xs.find? fun x => x.node = k) with _ | x
  · have fin : ∀ h' tk' o9 l x d t1 t2, o9.IsDictOf (intKind Pr w) (kvsN xs ++ [(k, Value.ref x)]) → Fr h₀ L h' m →
        News h₀ L h' ((l, W.listOf #[] 0) :: (x, ⟨.ref 33, some d, .plain, [some (.int k t1), some (.int 0 t2), some (.ref l)].toArray⟩) :: (d, dictOf [] 0) :: (σ.S, instObj 130 σ.D) :: (σ.D, σ.d w rv po nf) :: (σ.Nd, o9) :: rest) →
        σ.S < d → σ.D < d → σ.Nd < d → d < x → AllLt d rest → x < l → R (.ok (.ret (.ref x))) { s with heap := h', toks := tk' } := by
      intro h' tk' o9 l x d t1 t2 hd9 F9 N9 q1 q2 q3 q4 q5 q6
      refine hnew h' tk' o9 ⟨x, d, k, t1, 0, t2, l, [], 0⟩ hv rfl rfl rfl (by unfold kvsN at hd9 ⊢; rw [List.map_append]; exact hd9) ?_ q4 q6 F9 (News.sub N9 ?_)
      · exact allLt_mem ⟨q1, q2, q3, q5⟩
      · intro q hq
        simp only [NI.led, List.cons_append, List.nil_append, List.mem_cons] at hq ⊢
        grind
    have hva : valueAt (kvsN xs) k = none := by rw [valueAt_kvsN, hv]; rfl
    refine kdg_get1 (knd := intKind _ _) N' (by k_mem) hdN lo (intKind_is _ _ _ _) none hva ?_
    dsimp only [Option.getD]
    k_steps
    obtain ⟨⟨ne1, ne2⟩, ne3⟩ := hne
    refine' kda_set (knd := intKind _ _) ?F ?N ?U ?d (intKind_is _ _ _ _) ?z ?_
    case F => k_asm
    case N => k_asm
    case U => k_updF
    case d => exact hdN
    case z => simp only [kvsN, List.length_map]; rw [sizeLine_eq]; omega
    intro h9 o9 F9 N9 hd9
    rw [stored_absent hva] at hd9
    (try dsimp only at N9)
    k_steps
    rename _ ∧ _ ∧ _ ∧ AllLt _ rest => q1
    rename _ ∧ _ ∧ _ ∧ _ ∧ _ ∧ AllLt _ rest => q2
    exact fin _ _ _ _ _ _ _ _ hd9 (by assumption) (by assumption) q1.1 q1.2.1 q1.2.2.1 (by assumption) q1.2.2.2 q2.1
  · have hva : valueAt (kvsN xs) k = some (.ref x.info) := by rw [valueAt_kvsN, hv]; rfl
    refine kdg_get1 (knd := intKind _ _) N' (by k_mem) hdN lo (intKind_is _ _ _ _) _ hva ?_
    dsimp only [Option.getD]
    k_steps
    exact hold _ _ _ hv (by assumption) (by assumption)
end
section
set_option maxHeartbeats 1000000
/-! plain data: a node, the number of its predecessors, its successors -/
structure PN where
  node : Int
  np : Int
  succ : List Int
noncomputable def intOf : Value → Int
  | .int i _ => i
  | _ => 0
noncomputable def IsI (v : Value) : Prop := ∃ i t, v = .int i t
theorem intsAre_of : ∀ {vs : List Value}, (∀ v ∈ vs, IsI v) → IntsAre vs (vs.map intOf)
  | [], _ => .nil
  | v :: r, h => by
    obtain ⟨i, t, rfl⟩ := h v (.head _)
    exact .cons i t (intsAre_of fun u hu => h u (.tail _ hu))
noncomputable def NI.pn (x : NI) : PN := ⟨x.node, x.np, x.sv.map intOf⟩
noncomputable def hasP (ps : List PN) (k : Int) : Bool := ps.any fun p => p.node = k
noncomputable def ensP (ps : List PN) (k : Int) : List PN := if hasP ps k then ps else ps ++ [⟨k, 0, []⟩]
noncomputable def modP (ps : List PN) (k : Int) (f : PN → PN) : List PN := ps.map fun p => if p.node = k then f p else p
noncomputable def linkP (b : Int) (ps : List PN) (a : Int) : List PN := modP (ensP ps a) a fun p => { p with succ := p.succ ++ [b] }
noncomputable def addP (ps : List PN) (b : Int) (as : List Int) : List PN := as.foldl (linkP b) (modP (ensP ps b) b fun p => { p with np := p.np + as.length })
noncomputable def addrN (xs : List NI) : List Addr := xs.flatMap fun x => [x.info, x.dx, x.sl]
noncomputable def addrS (σ : Srt) (xs : List NI) : List Addr := σ.S :: σ.D :: σ.Nd :: addrN xs
theorem map_ledN (xs : List NI) : (ledN xs).map (·.1) = addrN xs := by
  unfold ledN addrN
  induction xs with
  | nil => rfl
  | cons x r ih => simp only [List.flatMap_cons, List.map_append, ih]; rfl
theorem ledN_app (a b : List NI) : ledN (a ++ b) = ledN a ++ ledN b := by unfold ledN; rw [List.flatMap_append]
theorem ledN_cons (a : NI) (b : List NI) : ledN (a :: b) = a.led ++ ledN b := by unfold ledN; rw [List.flatMap_cons]
theorem addrN_app (a b : List NI) : addrN (a ++ b) = addrN a ++ addrN b := by unfold addrN; rw [List.flatMap_append]
theorem addrN_cons (a : NI) (b : List NI) : addrN (a :: b) = a.info :: a.dx :: a.sl :: addrN b := by unfold addrN; rw [List.flatMap_cons]; rfl
theorem ne_all {l : List (Addr × Obj)} {a : Addr} (h : a ∉ l.map (·.1)) : ∀ p ∈ l, p.1 ≠ a := fun p hp e => h (e ▸ List.mem_map_of_mem hp)
structure SOK (σ : Srt) (xs : List NI) (rest : List (Addr × Obj)) (n : Nat) : Prop where
  nd : (addrS σ xs).Nodup
  off : ∀ a ∈ addrS σ xs, ∀ p ∈ rest, p.1 ≠ a
  keys : (xs.map (·.node)).Nodup
  isi : ∀ x ∈ xs, ∀ v ∈ x.sv, IsI v
  len : xs.length ≤ n
  slen : ∀ x ∈ xs, x.sv.length ≤ n
  lo : (σ.Nd == sysModules) = false
noncomputable abbrev ledS (σ : Srt) (w : World) (rv po nf : Value) (oN : Obj) (xs : List NI) (rest : List (Addr × Obj)) : List (Addr × Obj) :=
  (σ.S, instObj 130 σ.D) :: (σ.D, σ.d w rv po nf) :: (σ.Nd, oN) :: (ledN xs ++ rest)
theorem find_none_hasP {xs : List NI} {k : Int} (h : (xs.find? fun x => x.node = k) = none) : hasP (xs.map NI.pn) k = false := by
  unfold hasP
  rw [List.find?_eq_none] at h
  rw [List.any_eq_false]
  intro p hp
  obtain ⟨x, hx, rfl⟩ := List.mem_map.mp hp
  have := h x hx
  simp only [decide_eq_true_eq] at this
  exact fun e => this (of_decide_eq_true (p := x.pn.node = k) e)
theorem find_some_hasP {xs : List NI} {k : Int} {x : NI} (h : (xs.find? fun x => x.node = k) = some x) : hasP (xs.map NI.pn) k = true ∧ x ∈ xs ∧ x.node = k := by
  have h1 := List.mem_of_find?_eq_some h
  have h2 := List.find?_some h
  simp at h2
  refine ⟨?_, h1, h2⟩
  unfold hasP
  rw [List.any_eq_true]
  exact ⟨x.pn, List.mem_map_of_mem h1, decide_eq_true (p := x.pn.node = k) h2⟩
theorem modP_split {pre post : List NI} {x x' : NI} {f : PN → PN} (hk : ((pre ++ x :: post).map (·.node)).Nodup) (hx : x'.pn = f x.pn) :
    (pre ++ x' :: post).map NI.pn = modP ((pre ++ x :: post).map NI.pn) x.node f := by
  have ne : ∀ y, y ∈ pre ∨ y ∈ post → y.node ≠ x.node := by
    rw [List.map_append, List.map_cons] at hk
    rw [List.nodup_append] at hk
    obtain ⟨_, h2, h3⟩ := hk
    rw [List.nodup_cons] at h2
    rintro y (hy | hy) e
    · exact h3 _ (List.mem_map_of_mem hy) _ (.head _) e
    · exact h2.1 (e ▸ List.mem_map_of_mem hy)
  have same : ∀ l : List NI, (∀ y ∈ l, y.node ≠ x.node) → (l.map NI.pn).map (fun p => if p.node = x.node then f p else p) = l.map NI.pn := by
    intro l hl
    rw [List.map_map]
    refine List.map_congr_left fun y hy => ?_
    have : ¬ y.pn.node = x.node := hl y hy
    simp only [Function.comp, this, if_false]
  unfold modP
  rw [List.map_append, List.map_cons, List.map_append, List.map_cons, List.map_append, List.map_cons, same pre fun y hy => ne y (.inl hy), same post fun y hy => ne y (.inr hy)]
  have : x.pn.node = x.node := rfl
  simp only [this, if_true, hx]
inductive E2 {α0 α1 : Type} (p : α0 → α1 → Prop) : Prop
  | mk (a0 : α0) (a1 : α1) (h : p a0 a1) : E2 p
inductive E3 {α0 α1 α2 : Type} (p : α0 → α1 → α2 → Prop) : Prop
  | mk (a0 : α0) (a1 : α1) (a2 : α2) (h : p a0 a1 a2) : E3 p
inductive E4 {α0 α1 α2 α3 : Type} (p : α0 → α1 → α2 → α3 → Prop) : Prop
  | mk (a0 : α0) (a1 : α1) (a2 : α2) (a3 : α3) (h : p a0 a1 a2 a3) : E4 p
inductive E5 {α0 α1 α2 α3 α4 : Type} (p : α0 → α1 → α2 → α3 → α4 → Prop) : Prop
  | mk (a0 : α0) (a1 : α1) (a2 : α2) (a3 : α3) (a4 : α4) (h : p a0 a1 a2 a3 a4) : E5 p
inductive E6 {α0 α1 α2 α3 α4 α5 : Type} (p : α0 → α1 → α2 → α3 → α4 → α5 → Prop) : Prop
  | mk (a0 : α0) (a1 : α1) (a2 : α2) (a3 : α3) (a4 : α4) (a5 : α5) (h : p a0 a1 a2 a3 a4 a5) : E6 p
inductive E7 {α0 α1 α2 α3 α4 α5 α6 : Type} (p : α0 → α1 → α2 → α3 → α4 → α5 → α6 → Prop) : Prop
  | mk (a0 : α0) (a1 : α1) (a2 : α2) (a3 : α3) (a4 : α4) (a5 : α5) (a6 : α6) (h : p a0 a1 a2 a3 a4 a5 a6) : E7 p
inductive A3 (a0 a1 a2 : Prop) : Prop
  | mk (h0 : a0) (h1 : a1) (h2 : a2) : A3 a0 a1 a2
inductive A4 (a0 a1 a2 a3 : Prop) : Prop
  | mk (h0 : a0) (h1 : a1) (h2 : a2) (h3 : a3) : A4 a0 a1 a2 a3
inductive A5 (a0 a1 a2 a3 a4 : Prop) : Prop
  | mk (h0 : a0) (h1 : a1) (h2 : a2) (h3 : a3) (h4 : a4) : A5 a0 a1 a2 a3 a4
inductive A6 (a0 a1 a2 a3 a4 a5 : Prop) : Prop
  | mk (h0 : a0) (h1 : a1) (h2 : a2) (h3 : a3) (h4 : a4) (h5 : a5) : A6 a0 a1 a2 a3 a4 a5
inductive A7 (a0 a1 a2 a3 a4 a5 a6 : Prop) : Prop
  | mk (h0 : a0) (h1 : a1) (h2 : a2) (h3 : a3) (h4 : a4) (h5 : a5) (h6 : a6) : A7 a0 a1 a2 a3 a4 a5 a6
inductive A8 (a0 a1 a2 a3 a4 a5 a6 a7 : Prop) : Prop
  | mk (h0 : a0) (h1 : a1) (h2 : a2) (h3 : a3) (h4 : a4) (h5 : a5) (h6 : a6) (h7 : a7) : A8 a0 a1 a2 a3 a4 a5 a6 a7
inductive A9 (a0 a1 a2 a3 a4 a5 a6 a7 a8 : Prop) : Prop
  | mk (h0 : a0) (h1 : a1) (h2 : a2) (h3 : a3) (h4 : a4) (h5 : a5) (h6 : a6) (h7 : a7) (h8 : a8) : A9 a0 a1 a2 a3 a4 a5 a6 a7 a8
theorem ltu {d a b : Nat} (h : d < a) (k : Nat.ble a b = true) : d < b := Nat.lt_of_lt_of_le h (Nat.le_of_ble_eq_true k)
/-- the goal as a variable, while hypotheses are taken apart: the motives stay small -/
theorem hide {P : Prop} (h : ∀ G : Prop, (P → G) → G) : P := h P fun x => x
theorem wpAny_boxed {α : Type} {M : Model} {A : Around} {t : Sem α} {Q : α → Shared → Prop} {E : Value → Shared → Prop} {s : Shared} (P : α → Shared → Prop) (h1 : ∀ a s', P a s' → Q a s')
    (h : ∀ PQ : α → Shared → Prop, (∀ a s', P a s' → PQ a s') → wpAny M A t PQ (fun _ _ => False) s) : wpAny M A t Q E s :=
  wpAny_mono (h P fun _ _ x => x) h1 fun _ _ x => x.elim
end
section
set_option maxHeartbeats 1000000
section
variable {prog : Program} {w : World} {A : Around} {E : Value → Shared → Prop} {s : Shared} {env : Env} {h₀ : Heap} {x : Str} {body : List Stmt} {Q : Flow → Shared → Prop}
noncomputable abbrev tupOf (its : Array Value) (n : Nat) : Obj := { cls := .type "tuple", data := .seq its n }
inductive TurnOn (h₀ : Heap) (L : Addr) (own : List (Addr × Obj)) (Jn : (Str → Option Value) → List (Addr × Obj) → Prop) (s₁ s₂ : Shared) : Prop
  | mk (h' : Heap) (tk : Tok) (m' : Str → Option Value) (news' : List (Addr × Obj)) (h1 : s₂ = { s₁ with heap := h', toks := tk }) (h2 : Fr h₀ L h' m') (h3 : News h₀ L h' (news' ++ own)) (h4 : ∀ p ∈ news', ∀ q ∈ own, p.1 ≠ q.1) (h5 : Jn m' news')
noncomputable def TurnEnd (h₀ : Heap) (L : Addr) (own : List (Addr × Obj)) (Jn : (Str → Option Value) → List (Addr × Obj) → Prop) (s₁ : Shared) (Q : Flow → Shared → Prop) (f : Flow) (s₂ : Shared) : Prop :=
  match f with
  | .ret v => Q (.ret v) s₂
  | .brk => Q .next s₂
  | _ => TurnOn h₀ L own Jn s₁ s₂
theorem loopAt {it : Value} {s₂ : Shared} {I : Addr} {fp wr : List Addr} {n : Nat} {P : Nat → Value → Prop} {St : Nat → Heap → Prop} {m : Str → Option Value} {news : List (Addr × Obj)} (J : Nat → (Str → Option Value) → List (Addr × Obj) → Prop)
    (h1 : it = .ref I) (h2 : Walks prog w A I fp wr n P St) (h3 : env.locals ∉ fp) (h4 : ∀ b ∈ wr, h₀.get? b = none) (h5 : ∀ p ∈ news, p.1 ∉ wr) (h6 : St 0 s₂.heap) (h7 : Fr h₀ env.locals s₂.heap m) (h8 : News h₀ env.locals s₂.heap news) (h9 : J 0 m news)
    (h10 : ∀ i v m₁ news₁ s₁ own, (∃ h tk, s₁ = { s₂ with heap := h, toks := tk }) → i < n → P i v → J i m₁ news₁ → (∀ p ∈ news₁, p.1 ∉ wr) → (∀ p ∈ own, p.1 ∈ fp) → (∀ p ∈ own, s₁.heap.get? p.1 = some p.2) → (∀ b ∈ fp, h₀.get? b = none → ∀ o, s₁.heap.get? b = some o → (b, o) ∈ own) → St (i + 1) s₁.heap →
      Fr h₀ env.locals s₁.heap (fun y => if y = x then some v else m₁ y) → News h₀ env.locals s₁.heap (own ++ news₁) →
      wpAny (model prog w) A (execs body env) (LoopStepV h₀ env.locals wr own (J (i + 1)) s₁ (fun v s' => Q (.ret v) s') fun s' => Q .next s') E s₁)
    (h11 : ∀ h' tk m' news', Fr h₀ env.locals h' m' → News h₀ env.locals h' news' → (∀ p ∈ news', p.1 ∉ wr) → J n m' news' → Q .next { s₂ with heap := h', toks := tk }) : LoopAtV prog w A h₀ env x body Q E it s₂ :=
  ⟨I, fp, wr, n, P, St, m, news, J, h1, h2, h3, h4, h5, h6, h7, h8, h9, h10, h11⟩
theorem iter_core {I l : Addr} {o : Obj} {n : Nat} {P : Nat → Value → Prop} {St : Nat → Heap → Prop} {m₀ : Str → Option Value} {news : List (Addr × Obj)} (J : Nat → (Str → Option Value) → List (Addr × Obj) → Prop)
    (W : Walks prog w A I [I, l] [I] n P St) (hI : s.heap.objs.size ≤ I) (hst : ∀ i h, St i h → ∃ oI, h.get? I = some oI) {s₂ : Shared}
    (hs₂ : ∃ h tk, s₂ = { s with heap := h, toks := tk }) (hst0 : St 0 s₂.heap) (F : Fr h₀ env.locals s₂.heap m₀)
    (N : News h₀ env.locals s₂.heap ((l, o) :: news)) (hold : ∀ p ∈ (l, o) :: news, p.1 < s.heap.objs.size) (hL : env.locals < s.heap.objs.size) (hI0 : h₀.get? I = none)
    (hln : ∀ p ∈ news, p.1 ≠ l) (hj : J 0 m₀ news)
    (turn : ∀ i v m₁ news₁ h tk oI, i < n → P i v → J i m₁ news₁ → (∀ p ∈ news₁, ∀ q ∈ [(l, o), (I, oI)], p.1 ≠ q.1) → Fr h₀ env.locals h (fun y => if y = x then some v else m₁ y) → News h₀ env.locals h (news₁ ++ [(l, o), (I, oI)]) →
      wpAny (model prog w) A (execs body env) (TurnEnd h₀ env.locals [(l, o), (I, oI)] (J (i + 1)) { s with heap := h, toks := tk } Q) E { s with heap := h, toks := tk })
    (done : ∀ m₁ news₁ h tk, J n m₁ news₁ → (∀ p ∈ news₁, p.1 ≠ l) → Fr h₀ env.locals h m₁ → News h₀ env.locals h ((l, o) :: news₁) → Q .next { s with heap := h, toks := tk }) :
    LoopAtV prog w A h₀ env x body Q E (.ref I) s₂ := by
  obtain ⟨h2, tk2, rfl⟩ := hs₂
  have hlI : l ≠ I := Nat.ne_of_lt (Nat.lt_of_lt_of_le (hold _ (.head _)) hI)
  refine loopAt (fun i m₁ nw => ∃ news₁, A3 (nw = (l, o) :: news₁) ((∀ p ∈ news₁, p.1 ≠ l)) (J i m₁ news₁)) rfl W ?_ ?_ ?_ hst0 F N ⟨news, rfl, hln, hj⟩ ?_ ?_
  · intro hm
    rcases List.mem_cons.mp hm with e | hm
    · exact absurd hI (Nat.not_le.mpr (e ▸ hL))
    · exact (N (l, o) (.head _)).2.1 (List.mem_singleton.mp hm).symm
  · intro b hb; rw [List.mem_singleton.mp hb]; exact hI0
  · intro p hp hI'
    exact absurd (hold p hp) (Nat.not_lt.mpr ((List.mem_singleton.mp hI') ▸ hI))
  · intro i v m₁ nw s₁ own hI0 hi hP hI1 hoff hown hget hall hst₁ F₁ N₁
    refine hide fun G hG => ?_
    obtain ⟨hh', tk', rfl⟩ := hI0
    obtain ⟨news₁, rfl, hn1, hJ⟩ := hI1
    refine hG ?_
    clear hG G
    obtain ⟨oI, hoI⟩ := hst _ _ hst₁
    have inI : (I, oI) ∈ own := hall I (by simp) hI0 oI hoI
    have nI : ∀ p ∈ news₁, p.1 ≠ I := fun p hp e => hoff p (.tail _ hp) (by simp [e])
    have sub : ∀ p ∈ own, p ∈ [(l, o), (I, oI)] := by
      intro p hp
      have g := hget p hp
      rcases List.mem_cons.mp (hown p hp) with e | e
      · obtain ⟨pa, po⟩ := p; dsimp only at e g; subst e; rw [hoI] at g; cases g; simp
      · obtain ⟨pa, po⟩ := p
        have e := List.mem_singleton.mp e
        dsimp only at e g; subst e
        rw [(N₁ _ (List.mem_append_right _ (.head _))).1] at g; cases g; simp
    refine wpAny_mono (turn i v m₁ news₁ hh' tk' oI hi hP hJ ?_ F₁ ?_) (fun f s₃ h₃ => ?_) fun _ _ e => e
    · intro p hp q hq
      rcases List.mem_cons.mp hq with rfl | hq
      · exact hn1 p hp
      · rw [List.mem_singleton.mp hq]; exact nI p hp
    · intro p hp
      refine N₁ p ?_
      rcases List.mem_append.mp hp with h | h
      · exact List.mem_append_right _ (.tail _ h)
      · rcases List.mem_cons.mp h with rfl | h
        · exact List.mem_append_right _ (.head _)
        · rw [List.mem_singleton.mp h]; exact List.mem_append_left _ inI
    · have fin : TurnEnd h₀ env.locals [(l, o), (I, oI)] (J (i + 1)) { s with heap := hh', toks := tk' } Q .next s₃ →
          LoopStepU h₀ env.locals [I] own (fun m₁ nw => ∃ news₁, A3 (nw = (l, o) :: news₁) ((∀ p ∈ news₁, p.1 ≠ l)) (J (i + 1) m₁ news₁)) { s with heap := hh', toks := tk' } .next s₃ := by
        intro hI0
        refine hide fun G hG => ?_
        obtain ⟨h', tk, m', news', e, F', N', hd, hJ'⟩ := hI0
        refine hG ?_
        clear hG G
        refine ⟨rfl, h', tk, m', (l, o) :: news', e, F', ?_, ?_, news', rfl, fun p hp => hd p hp _ (.head _), hJ'⟩
        · intro p hp
          refine N' p ?_
          rcases List.mem_append.mp hp with h | h
          · exact List.mem_append_right _ (sub p h)
          · rcases List.mem_cons.mp h with rfl | h
            · exact List.mem_append_right _ (.head _)
            · exact List.mem_append_left _ h
        · intro p hp hI'
          rcases List.mem_cons.mp hp with rfl | hp
          · exact hlI (List.mem_singleton.mp hI')
          · exact hd p hp _ (.tail _ (.head _)) (List.mem_singleton.mp hI')
      cases f with
      | ret v => exact .ret h₃
      | brk => exact .brk h₃
      | next => exact .next (fin h₃)
      | cont => exact .cont (fin h₃)
  · rintro h' tk m' nw F' N' _ ⟨news₁, rfl, hn1, hJ⟩
    exact done m' news₁ h' tk hJ hn1 F' N'
theorem iter_tup {l : Addr} {vs : List Value} {ep : Nat} {m₀ : Str → Option Value} {news : List (Addr × Obj)} (J : Nat → (Str → Option Value) → List (Addr × Obj) → Prop)
    (hh : A.handled = none) (F : Fr h₀ env.locals s.heap m₀) (N : News h₀ env.locals s.heap ((l, tupOf vs.toArray ep) :: news)) (hln : ∀ p ∈ news, p.1 ≠ l) (hj : J 0 m₀ news)
    (turn : ∀ i v m₁ news₁ h tk it, vs[i]? = some v → J i m₁ news₁ → (∀ p ∈ news₁, ∀ q ∈ [(l, tupOf vs.toArray ep), it], p.1 ≠ q.1) → Fr h₀ env.locals h (fun y => if y = x then some v else m₁ y) → News h₀ env.locals h (news₁ ++ [(l, tupOf vs.toArray ep), it]) →
      wpAny (model prog w) A (execs body env) (TurnEnd h₀ env.locals [(l, tupOf vs.toArray ep), it] (J (i + 1)) { s with heap := h, toks := tk } Q) E { s with heap := h, toks := tk })
    (done : ∀ m₁ news₁ h tk, J vs.length m₁ news₁ → (∀ p ∈ news₁, p.1 ≠ l) → Fr h₀ env.locals h m₁ → News h₀ env.locals h ((l, tupOf vs.toArray ep) :: news₁) → Q .next { s with heap := h, toks := tk }) :
    wpAny (model prog w) A (pyIter (.ref l)) (fun it s₂ => LoopAtV prog w A h₀ env x body Q E it s₂) E s := by
  have hl : s.heap.IsTuple l vs.toArray := ⟨_, (N _ (.head _)).1, rfl, _, rfl⟩
  have hne : l ≠ s.heap.objs.size := Nat.ne_of_lt (Heap.lt_size (N _ (.head _)).1)
  refine wpAny_pyIter_tuple hl ?_
  have W := Walks.tuple (prog := prog) (w := w) hh s.heap.objs.size l hne vs.toArray
  have hlen : vs.toArray.size = vs.length := by simp
  rw [hlen] at W
  refine iter_core J W (Nat.le_refl _) (fun i h st => ?_) ⟨_, _, rfl⟩ ⟨⟨_, Heap.get?_push_size _ rfl, rfl, rfl⟩, hl.at fun o e => Heap.get?_push_of_some _ e⟩ (F.push _) (fun p hp => ⟨Heap.get?_push_of_some _ (N p hp).1, (N p hp).2⟩)
    (fun p hp => Heap.lt_size (N p hp).1) F.ns.lt (next_is_new F) hln hj (fun i v m₁ news₁ h tk oI _ hP => turn i v m₁ news₁ h tk (_, oI) (by simpa using hP)) done
  obtain ⟨⟨o, ho, _⟩, _⟩ := st
  exact ⟨o, ho⟩
noncomputable def Agree (x : Str) (ys : List Str) (m₀ m' : Str → Option Value) : Prop := ∀ y, y ≠ x → ys.contains y = false → m' y = m₀ y
theorem Agree.put {x : Str} {ys : List Str} {m₀ m₁ : Str → Option Value} (h : Agree x ys m₀ m₁) (v : Option Value) : (fun y => if y = x then v else m₁ y) = fun y => if y = x then v else if ys.contains y then m₁ y else m₀ y := by
  funext y
  by_cases e : y = x
  · simp [e]
  · simp only [if_neg e]
    cases c : ys.contains y with
    | true => rfl
    | false => simp only [Bool.false_eq_true, if_false]; exact h y e c
theorem Agree.out {x : Str} {ys : List Str} {m₀ m₁ : Str → Option Value} (h : Agree x ys m₀ m₁) : m₁ = fun y => if y = x then m₁ y else if ys.contains y then m₁ y else m₀ y := by
  funext y
  by_cases e : y = x
  · simp [e]
  · simp only [if_neg e]
    cases c : ys.contains y with
    | true => rfl
    | false => simp only [Bool.false_eq_true, if_false]; exact h y e c
theorem iter_tupM {l : Addr} {vs : List Value} {ep : Nat} {m₀ : Str → Option Value} {news : List (Addr × Obj)} (ys : List Str) (J : Nat → List (Addr × Obj) → Prop)
    (hh : A.handled = none) (F : Fr h₀ env.locals s.heap m₀) (N : News h₀ env.locals s.heap ((l, tupOf vs.toArray ep) :: news)) (hln : ∀ p ∈ news, p.1 ≠ l) (hj : J 0 news)
    (turn : ∀ i v (u : Str → Option Value) news₁ h tk it, vs[i]? = some v → J i news₁ → (∀ p ∈ news₁, ∀ q ∈ [(l, tupOf vs.toArray ep), it], p.1 ≠ q.1) → Fr h₀ env.locals h (fun y => if y = x then some v else if ys.contains y then u y else m₀ y) → News h₀ env.locals h (news₁ ++ [(l, tupOf vs.toArray ep), it]) →
      wpAny (model prog w) A (execs body env) (TurnEnd h₀ env.locals [(l, tupOf vs.toArray ep), it] (fun m' nx => Agree x ys m₀ m' ∧ J (i + 1) nx) { s with heap := h, toks := tk } Q) E { s with heap := h, toks := tk })
    (done : ∀ (u : Str → Option Value) news₁ h tk, J vs.length news₁ → (∀ p ∈ news₁, p.1 ≠ l) → Fr h₀ env.locals h (fun y => if y = x then u y else if ys.contains y then u y else m₀ y) → News h₀ env.locals h ((l, tupOf vs.toArray ep) :: news₁) → Q .next { s with heap := h, toks := tk }) :
    wpAny (model prog w) A (pyIter (.ref l)) (fun it s₂ => LoopAtV prog w A h₀ env x body Q E it s₂) E s :=
  iter_tup (fun i m nx => Agree x ys m₀ m ∧ J i nx) hh F N hln ⟨fun _ _ _ => rfl, hj⟩
    (fun i v m₁ news₁ h tk it hv hJ ho F' N' => turn i v m₁ news₁ h tk it hv hJ.2 ho (hJ.1.put _ ▸ F') N')
    (fun m₁ news₁ h tk hJ ho F' N' => done m₁ news₁ h tk hJ.2 ho (hJ.1.out ▸ F') N')
end
end
section
set_option maxHeartbeats 1000000
theorem frag_on2 : (fun (_ : Params → Frag) => PySem.Challenge.rw_cy0005_01.Holds) KF → True := by
  k_fill
  intro _; trivial
theorem newTuple_eq {vs : List Value} (h : vs.length ≤ sizeLine) : newTuple vs = (alloc { cls := .type "tuple", data := .seq vs.toArray } >>= fun a => pure (.ref a)) := by
  unfold newTuple newObj
  have : ¬ (vs.toArray.size > sizeLine) := by simp; omega
  simp only [this, if_false]
  rfl
section
variable {w : World} {A₀ A : Around} {base h₀ : Heap} {outer : List Env} {env : Env} {L : Addr} {m mg mb : Str → Option Value} {p : Program} {loose : List Str} {mean : ExcName → Option Value} {s : Shared}
  {R : Result → Shared → Prop}
theorem SOK.more {σ : Srt} {xs : List NI} {rest : List (Addr × Obj)} {n : Nat} {x : NI} (hs : SOK σ xs rest n) (hx : x.node ∉ xs.map (·.node)) (hv : x.sv = [])
    (hlt : ∀ a ∈ addrS σ xs, a < x.dx) (hlr : ∀ p ∈ rest, p.1 < x.dx) (h1 : x.dx < x.info) (h2 : x.info < x.sl) : SOK σ (xs ++ [x]) rest (n + 1) where
  nd := by
    have e : (addrS σ (xs ++ [x])).Perm (x.info :: x.dx :: x.sl :: addrS σ xs) := by
      unfold addrS
      rw [addrN_app, addrN_cons]
      show List.Perm (σ.S :: σ.D :: σ.Nd :: (addrN xs ++ x.info :: x.dx :: x.sl :: [])) _
      refine List.perm_iff_count.mpr fun a => ?_
      simp only [List.count_cons, List.count_append, List.count_nil]
      omega
    rw [e.nodup_iff]
    have g : ∀ b : Addr, x.dx ≤ b → b ∉ addrS σ xs := fun b hb q => absurd (hlt b q) (Nat.not_lt.mpr hb)
    refine List.nodup_cons.mpr ⟨?_, List.nodup_cons.mpr ⟨?_, List.nodup_cons.mpr ⟨g _ (Nat.le_of_lt (Nat.lt_trans h1 h2)), hs.nd⟩⟩⟩
    · intro q
      rcases List.mem_cons.mp q with e | q
      · exact absurd h1 (e ▸ Nat.lt_irrefl _)
      · rcases List.mem_cons.mp q with e | q
        · exact absurd h2 (e ▸ Nat.lt_irrefl _)
        · exact g _ (Nat.le_of_lt h1) q
    · intro q
      rcases List.mem_cons.mp q with e | q
      · exact absurd (Nat.lt_trans h1 h2) (e ▸ Nat.lt_irrefl _)
      · exact g _ (Nat.le_refl _) q
  off := by
    intro a ha q hq
    have ha' : a ∈ addrS σ xs ∨ x.dx ≤ a := by
      unfold addrS at ha ⊢
      rw [addrN_app, addrN_cons] at ha
      simp only [List.mem_cons, List.mem_append, addrN, List.flatMap_nil, List.not_mem_nil, or_false] at ha ⊢
      have e1 := Nat.le_of_lt h1
      have e2 := Nat.le_of_lt (Nat.lt_trans h1 h2)
      rcases ha with ha | ha | ha | ha | rfl | rfl | rfl
      · exact .inl (.inl ha)
      · exact .inl (.inr (.inl ha))
      · exact .inl (.inr (.inr (.inl ha)))
      · exact .inl (.inr (.inr (.inr ha)))
      · exact .inr e1
      · exact .inr (Nat.le_refl _)
      · exact .inr e2
    rcases ha' with ha' | ha'
    · exact hs.off a ha' q hq
    · exact fun e => absurd (hlr q hq) (Nat.not_lt.mpr (e ▸ ha'))
  keys := by
    rw [List.map_append, List.nodup_append]
    refine ⟨hs.keys, by simp, fun a ha b hb e => ?_⟩
    rw [List.map_cons, List.map_nil, List.mem_singleton] at hb
    exact hx (hb ▸ e ▸ ha)
  isi := by
    intro y hy v hv'
    rcases List.mem_append.mp hy with hy | hy
    · exact hs.isi y hy v hv'
    · rw [List.mem_singleton.mp hy, hv] at hv'; cases hv'
  len := by rw [List.length_append]; have := hs.len; simp; omega
  slen := by
    intro y hy
    rcases List.mem_append.mp hy with hy | hy
    · exact Nat.le_succ_of_le (hs.slen y hy)
    · rw [List.mem_singleton.mp hy, hv]; simp
  lo := hs.lo
theorem SOK.wk {σ : Srt} {xs : List NI} {rest : List (Addr × Obj)} {n n' : Nat} (hs : SOK σ xs rest n) (h : n ≤ n') : SOK σ xs rest n' :=
  ⟨hs.nd, hs.off, hs.keys, hs.isi, Nat.le_trans hs.len h, fun x hx => Nat.le_trans (hs.slen x hx) h, hs.lo⟩
theorem map_ledS {σ : Srt} {w : World} {rv po nf : Value} {oN : Obj} {xs : List NI} {rest : List (Addr × Obj)} : (ledS σ w rv po nf oN xs rest).map (·.1) = addrS σ xs ++ rest.map (·.1) := by
  simp only [ledS, addrS, List.map_cons, List.map_append, map_ledN, List.cons_append]
theorem inL {σ : Srt} {w : World} {rv po nf : Value} {oN : Obj} {ys : List NI} {rest : List (Addr × Obj)} : ∀ q ∈ ledS σ w rv po nf oN ys rest, q.1 ∈ addrS σ ys ∨ q ∈ rest := by
  intro q hq
  simp only [ledS, List.mem_cons, List.mem_append] at hq
  unfold addrS
  simp only [List.mem_cons]
  rcases hq with rfl | rfl | rfl | hq | hq
  · exact .inl (.inl rfl)
  · exact .inl (.inr (.inl rfl))
  · exact .inl (.inr (.inr (.inl rfl)))
  · exact .inl (.inr (.inr (.inr (by rw [← map_ledN]; exact List.mem_map_of_mem hq))))
  · exact .inr hq
/-- self._get_nodeinfo(k), over the whole ledger -/
theorem c_gn {σ : Srt} {rv po nf : Value} {oN : Obj} {xs : List NI} {rest : List (Addr × Obj)} {k : Int} {tk : Tok} {n : Nat}
    (hh : A.handled = none) (hfr : A.frames = some (env :: outer)) (hdp : A.depth < 900) (hf : env.frame = some L) (hke : env.scope.kind = .function)
    (B : Below A₀ base outer h₀) (X₀ : (KF w.params).In h₀) (T : Top p loose mean mg mb h₀) (F : Fr h₀ L s.heap m)
    (hs : SOK σ xs rest n) (hn : n ≤ 9000) (hdN : oN.IsDictOf (intKind Pr w) (kvsN xs)) (N : News h₀ L s.heap (ledS σ w rv po nf oN xs rest))
    (hq : ∀ h' tk' oN' xs' x, x ∈ xs' → x.node = k → xs'.map NI.pn = ensP (xs.map NI.pn) k → SOK σ xs' rest (n + 1) → oN'.IsDictOf (intKind Pr w) (kvsN xs') → Fr h₀ L h' m →
      News h₀ L h' (ledS σ w rv po nf oN' xs' rest) → R (.ok (.ret (.ref x.info))) { s with heap := h', toks := tk' }) :
    codeAny (model Pr w) A (.call (.ref 73) ⟨[.ref σ.S, .int k tk], []⟩) R s := by
  have nd := hs.nd
  have hne : (σ.S ≠ σ.Nd ∧ σ.D ≠ σ.Nd) ∧ ∀ p ∈ ledN xs ++ rest, p.1 ≠ σ.Nd := by
    have off := hs.off σ.Nd (by unfold addrS; simp)
    unfold addrS at nd
    simp only [List.nodup_cons, List.mem_cons, not_or] at nd
    refine ⟨⟨nd.1.2.1, nd.2.1.1⟩, fun q hq => ?_⟩
    rcases List.mem_append.mp hq with h | h
    · refine ne_all ?_ q h; rw [map_ledN]; exact nd.2.2.1
    · exact off q h
  refine c_get_nodeinfo hh hfr hdp hf hke B X₀ T F hs.lo hdN (Nat.le_trans hs.len (by omega)) hne N ?_ ?_
  · intro h' tk' x hx F' N'
    obtain ⟨h1, h2, h3⟩ := find_some_hasP hx
    exact hq h' tk' oN xs x h2 h3 (by unfold ensP; rw [h1]; rfl) (hs.wk (Nat.le_succ _)) hdN F' N'
  · intro h' tk' oN' x hx e1 e2 e3 hd' hlt l1 l2 F' N'
    have hp := find_none_hasP hx
    refine hq h' tk' oN' (xs ++ [x]) x (by simp) e1 ?_ (hs.more ?_ e3 ?_ ?_ l1 l2) hd' F' (News.sub N' ?_)
    · unfold ensP; rw [hp, List.map_append]; simp [NI.pn, e1, e2, e3]
    · intro q
      rw [e1] at q
      obtain ⟨y, hy, hyk⟩ := List.mem_map.mp q
      rw [List.find?_eq_none] at hx
      exact hx y hy (by simp [hyk])
    · intro a ha
      have ha : a ∈ addrS σ xs ++ rest.map (·.1) := List.mem_append_left _ ha
      rw [← map_ledS (w := w) (rv := rv) (po := po) (nf := nf) (oN := oN)] at ha
      obtain ⟨q, hq', rfl⟩ := List.mem_map.mp ha
      exact hlt q hq'
    · exact fun q hq' => hlt q (by simp only [List.mem_cons, List.mem_append]; exact .inr (.inr (.inr (.inr hq'))))
    · intro q hq'
      simp only [ledS, ledN_app, ledN_cons, ledN, List.flatMap_nil, List.append_nil, NI.led, List.mem_cons, List.mem_append, List.not_mem_nil, or_false] at hq' ⊢
      grind
end
end
section
set_option maxHeartbeats 1000000
theorem frag_on3 : (fun (_ : Params → Frag) => PySem.Challenge.rw_cy0005_01.Holds) KF → True := by
  k_fill
  intro _; trivial
section
variable {w : World} {A₀ A : Around} {base h₀ : Heap} {outer : List Env} {env : Env} {L : Addr} {m mg mb : Str → Option Value} {p : Program} {loose : List Str} {mean : ExcName → Option Value} {s : Shared}
  {R : Result → Shared → Prop}
/-- the ledger with one node laid open -/
noncomputable abbrev ledO (σ : Srt) (w : World) (rv po nf : Value) (oN : Obj) (x : NI) (rest : List (Addr × Obj)) : List (Addr × Obj) :=
  (x.info, x.o) :: (x.dx, dictOf [] 0) :: (x.sl, x.l) :: (σ.S, instObj 130 σ.D) :: (σ.D, σ.d w rv po nf) :: (σ.Nd, oN) :: rest
structure Dst (σ : Srt) (x : NI) (rest : List (Addr × Obj)) : Prop where
  e0 : @Ne Nat x.info x.dx
  e0' : @Ne Nat x.dx x.sl
  e1 : @Ne Nat x.info x.sl
  e2 : @Ne Nat x.info σ.S
  e3 : @Ne Nat x.info σ.D
  e4 : @Ne Nat x.info σ.Nd
  e5 : @Ne Nat x.sl σ.S
  e6 : @Ne Nat x.sl σ.D
  e7 : @Ne Nat x.sl σ.Nd
  e8 : @Ne Nat σ.S σ.D
  e9 : @Ne Nat σ.S σ.Nd
  e10 : @Ne Nat σ.D σ.Nd
  r1 : ∀ p ∈ rest, p.1 ≠ x.info
  r2 : ∀ p ∈ rest, p.1 ≠ x.sl
  r3 : ∀ p ∈ rest, p.1 ≠ σ.S
  r4 : ∀ p ∈ rest, p.1 ≠ σ.D
  r5 : ∀ p ∈ rest, p.1 ≠ σ.Nd
noncomputable abbrev restO (pre post : List NI) (x : NI) (rest : List (Addr × Obj)) : List (Addr × Obj) := ledN pre ++ (ledN post ++ rest)
theorem SOK.dst {σ : Srt} {pre post : List NI} {x : NI} {rest : List (Addr × Obj)} {n : Nat} (hs : SOK σ (pre ++ x :: post) rest n) : Dst σ x (restO pre post x rest) := by
  have e : (addrS σ (pre ++ x :: post)).Perm (x.info :: x.dx :: x.sl :: σ.S :: σ.D :: σ.Nd :: (addrN pre ++ addrN post)) := by
    unfold addrS
    rw [addrN_app, addrN_cons]
    refine List.perm_iff_count.mpr fun a => ?_
    simp only [List.count_cons, List.count_append]
    omega
  have nd := e.nodup_iff.mp hs.nd
  have off : ∀ a ∈ addrS σ (pre ++ x :: post), a ∉ addrN pre ++ addrN post → ∀ q ∈ restO pre post x rest, q.1 ≠ a := by
    intro a ha hn q hq
    simp only [restO, List.mem_append] at hq
    rcases hq with h | h | h
    · exact fun e => hn (List.mem_append_left _ (by rw [← map_ledN, ← e]; exact List.mem_map_of_mem h))
    · exact fun e => hn (List.mem_append_right _ (by rw [← map_ledN, ← e]; exact List.mem_map_of_mem h))
    · exact hs.off a ha q h
  simp only [List.nodup_cons, List.mem_cons, not_or] at nd
  obtain ⟨⟨a0, a1, a2, a3, a4, a5⟩, ⟨z1, _⟩, ⟨b1, b2, b3, b4⟩, ⟨c1, c2, c3⟩, ⟨d1, d2⟩, f1, _⟩ := nd
  have inS : ∀ a, a ∈ [x.info, x.sl, σ.S, σ.D, σ.Nd] → a ∈ addrS σ (pre ++ x :: post) := by
    intro a ha
    rw [e.mem_iff]
    simp only [List.mem_cons, List.not_mem_nil, or_false] at ha ⊢
    grind
  exact ⟨a0, z1, a1, a2, a3, a4, b1, b2, b3, c1, c2, d1, off _ (inS _ (by simp)) a5, off _ (inS _ (by simp)) b4, off _ (inS _ (by simp)) c3, off _ (inS _ (by simp)) d2, off _ (inS _ (by simp)) f1⟩
theorem led_open {σ : Srt} {rv po nf : Value} {oN : Obj} {pre post : List NI} {x : NI} {rest : List (Addr × Obj)} {h : Heap} (N : News h₀ L h (ledS σ w rv po nf oN (pre ++ x :: post) rest)) :
    News h₀ L h (ledO σ w rv po nf oN x (restO pre post x rest)) := News.sub N fun q hq => by
  simp only [ledS, ledO, restO, ledN_app, ledN_cons, NI.led, List.mem_cons, List.mem_append, List.not_mem_nil, or_false] at hq ⊢
  grind
theorem led_shut {σ : Srt} {rv po nf : Value} {oN : Obj} {pre post : List NI} {x : NI} {rest : List (Addr × Obj)} {h : Heap} (N : News h₀ L h (ledO σ w rv po nf oN x (restO pre post x rest))) :
    News h₀ L h (ledS σ w rv po nf oN (pre ++ x :: post) rest) := News.sub N fun q hq => by
  simp only [ledS, ledO, restO, ledN_app, ledN_cons, NI.led, List.mem_cons, List.mem_append, List.not_mem_nil, or_false] at hq ⊢
  grind
theorem SOK.put {σ : Srt} {pre post : List NI} {x x' : NI} {rest : List (Addr × Obj)} {n n' : Nat} (hs : SOK σ (pre ++ x :: post) rest n) (e1 : x'.info = x.info) (e2 : x'.dx = x.dx) (e3 : x'.sl = x.sl) (e4 : x'.node = x.node)
    (hv : ∀ v ∈ x'.sv, IsI v) (hl : x'.sv.length ≤ n') (hn : n ≤ n') : SOK σ (pre ++ x' :: post) rest n' where
  nd := by
    have := hs.nd
    unfold addrS at this ⊢
    rw [addrN_app, addrN_cons] at this ⊢
    rw [e1, e2, e3]; exact this
  off := by
    have := hs.off
    unfold addrS at this ⊢
    rw [addrN_app, addrN_cons] at this ⊢
    rw [e1, e2, e3]; exact this
  keys := by have := hs.keys; rw [List.map_append, List.map_cons] at this ⊢; rw [e4]; exact this
  isi := by
    intro y hy
    rcases List.mem_append.mp hy with q | q
    · exact hs.isi y (List.mem_append_left _ q)
    · rcases List.mem_cons.mp q with rfl | q
      · exact hv
      · exact hs.isi y (List.mem_append_right _ (.tail _ q))
  len := by have := hs.len; simp only [List.length_append, List.length_cons] at this ⊢; omega
  slen := by
    intro y hy
    rcases List.mem_append.mp hy with q | q
    · exact Nat.le_trans (hs.slen y (List.mem_append_left _ q)) hn
    · rcases List.mem_cons.mp q with rfl | q
      · exact hl
      · exact Nat.le_trans (hs.slen y (List.mem_append_right _ (.tail _ q))) hn
  lo := hs.lo
theorem kvsN_put {pre post : List NI} {x x' : NI} (e1 : x'.info = x.info) (e4 : x'.node = x.node) : kvsN (pre ++ x' :: post) = kvsN (pre ++ x :: post) := by
  unfold kvsN; simp only [List.map_append, List.map_cons, e1, e4]
theorem led_np {σ : Srt} {rv po nf : Value} {oN : Obj} {pre post : List NI} {x : NI} {rest : List (Addr × Obj)} {h : Heap} {D' : Addr} {oD : Obj} {np : Int} {t : Tok}
    (N : News h₀ L h ((D', oD) :: (x.info, ⟨.ref 33, some x.dx, .plain, [some (.int x.node x.ntok), some (.int np t), some (.ref x.sl)].toArray⟩) :: (x.dx, dictOf [] 0) :: (x.sl, x.l) :: (σ.S, instObj 130 σ.D) :: (σ.D, σ.d w rv po nf) :: (σ.Nd, oN) :: restO pre post x rest)) :
    ∃ x2 : NI, (x2.info = x.info ∧ x2.dx = x.dx ∧ x2.node = x.node ∧ x2.np = np ∧ x2.sl = x.sl ∧ x2.sv = x.sv) ∧ News h₀ L h (ledS σ w rv po nf oN (pre ++ x2 :: post) ((D', oD) :: rest)) :=
  ⟨⟨x.info, x.dx, x.node, x.ntok, np, t, x.sl, x.sv, x.ep⟩, ⟨rfl, rfl, rfl, rfl, rfl, rfl⟩, led_shut (News.sub N (by walk_at "sub"))⟩
theorem led_sv {σ : Srt} {rv po nf : Value} {oN : Obj} {pre post : List NI} {x : NI} {rest : List (Addr × Obj)} {h : Heap} {v : Value} {ep : Nat}
    (N : News h₀ L h ((x.info, x.o) :: (x.dx, dictOf [] 0) :: (x.sl, listOf (x.sv.toArray.push v) ep) :: (σ.S, instObj 130 σ.D) :: (σ.D, σ.d w rv po nf) :: (σ.Nd, oN) :: restO pre post x rest)) :
    ∃ x2 : NI, (x2.info = x.info ∧ x2.dx = x.dx ∧ x2.node = x.node ∧ x2.np = x.np ∧ x2.sl = x.sl ∧ x2.sv = x.sv ++ [v]) ∧ News h₀ L h (ledS σ w rv po nf oN (pre ++ x2 :: post) rest) := by
  rw [List.push_toArray] at N
  exact ⟨⟨x.info, x.dx, x.node, x.ntok, x.np, x.nptok, x.sl, x.sv ++ [v], ep⟩, ⟨rfl, rfl, rfl, rfl, rfl, rfl⟩, led_shut N⟩
theorem c_add {σ : Srt} {po nf : Value} {oN : Obj} {xs : List NI} {rest : List (Addr × Obj)} {k : Int} {tk : Tok} {n : Nat} {vs : List Value}
    (hh : A.handled = none) (hfr : A.frames = some (env :: outer)) (hdp : A.depth < 800) (hf : env.frame = some L) (hke : env.scope.kind = .function)
    (B : Below A₀ base outer h₀) (X₀ : (KF w.params).In h₀) (T : Top p loose mean mg mb h₀) (F : Fr h₀ L s.heap m)
    (hs : SOK σ xs rest n) (hn : n + 2 * vs.length ≤ 8000) (hvs : ∀ v ∈ vs, IsI v) (hdN : oN.IsDictOf (intKind Pr w) (kvsN xs)) (N : News h₀ L s.heap (ledS σ w .none po nf oN xs rest))
    (hq : ∀ h' tk' oN' xs', xs'.map NI.pn = addP (xs.map NI.pn) k (vs.map intOf) → SOK σ xs' rest (n + 1 + 2 * vs.length) → oN'.IsDictOf (intKind Pr w) (kvsN xs') → Fr h₀ L h' m →
      News h₀ L h' (ledS σ w .none po nf oN' xs' rest) → R (.ok (.ret .none)) { s with heap := h', toks := tk' }) :
    codeAny (model Pr w) A (.call (.ref 80) ⟨.ref σ.S :: .int k tk :: vs, []⟩) R s := by
  obtain ⟨_, d, _, gs, u⟩ := A
  dsimp only at hh hfr hdp
  subst hh hfr
  refine' kp_rest (vs := vs) (binds := fun D => [(Str.ofString "self", .ref σ.S), (Str.ofString "node", .int k tk), (Str.ofString "predecessors", .ref D)]) (g₁ := fun D => some [(Str.ofString "self", .ref σ.S), (Str.ofString "node", .int k tk), (Str.ofString "predecessors", .ref D)]) B F X₀ N T rfl hf hke ?k6 ?k7 ?k8 ?kV ?kP ?kG ?kB ?_ ?c2 ?c3 ?c4 ?c5
  case k6 => k_is
  case k7 => k_is
  case k8 => k_room
  case kV => exact rfl
  case kP =>
    unfold bindArgs
    dsimp only [List.map, List.length, List.append, List.zip, List.zipWith]
    rw [newTuple_eq]
    · cases vs <;> rfl
    · rw [sizeLine_eq]; show vs.length ≤ _; omega
  case kG => exact fun _ => rfl
  case kB => exact fun _ => locs rfl
  case c5 => decide
  case c2 => exact rfl
  case c3 => exact rfl
  case c4 => exact rfl
  intro D' g' L' h' l1 FG' F' N' B' X' T'
  have hD : SOK σ xs ((D', tupOf vs.toArray 0) :: rest) n := by
    refine ⟨hs.nd, fun a ha q hq => ?_, hs.keys, hs.isi, hs.len, hs.slen, hs.lo⟩
    rcases List.mem_cons.mp hq with rfl | hq
    · have ha : a ∈ addrS σ xs ++ rest.map (·.1) := List.mem_append_left _ ha
      rw [← map_ledS (w := w) (rv := .none) (po := po) (nf := nf) (oN := oN)] at ha
      obtain ⟨y, hy, e⟩ := List.mem_map.mp ha
      exact fun e' => absurd (l1 y hy) (by rw [e, ← e']; exact Nat.lt_irrefl _)
    · exact hs.off a ha q hq
  have hDr : ∀ q ∈ rest, q.1 ≠ D' := fun q hq e => absurd (l1 q (by simp only [ledS, List.mem_cons, List.mem_append]; exact .inr (.inr (.inr (.inr hq))))) (e ▸ Nat.lt_irrefl _)
  replace N' : News g' L' h' (ledS σ w .none po nf oN xs ((D', tupOf vs.toArray 0) :: rest)) := News.sub N' (by walk_at "sub")
  clear l1
  (try dsimp only)
  (try k_fold)
  (repeat' (((fail_if_success with_reducible first | show wpAny _ _ (call (Value.ref _) _ _) _ _ _ | show wpAny _ _ (exec (Stmt.For _ _ _ _ _) _) _ _ _ | show wpAny _ _ (exec (Stmt.While _ _ _ _) _) _ _ _ | show wpAny _ _ (pyIter _) _ _ _)); ((fail_if_success with_reducible first | show wpAny _ _ (call (Value.type "tuple") _ _) _ _ _)); ((first | (k_unfold; (try dsimp only)) | (k_end; wrow_close) | walk1 | (dsimp only; walk1) | (leave1; walk_say "STEP leave1"; try dsimp only) | fail "no step"))))
  refine wpAny_call (c_gn (rest := (D', tupOf vs.toArray 0) :: rest) rfl rfl (by k_room) rfl rfl B' X' T' (by assumption) hD (by omega) hdN (by assumption) ?_)
  intro h1 tk1 oN1 xs1 x hx hxk hx1 hs1 hd1 F1 N1
  obtain ⟨pre, post, rfl⟩ := List.append_of_mem hx
  obtain ⟨q0, q0', q1, q2, q3, q4, q5, q6, q7, q8, q9, q10, r1, r2, r3, r4, r5⟩ := hs1.dst
  have mD : (D', tupOf vs.toArray 0) ∈ restO pre post x ((D', tupOf vs.toArray 0) :: rest) := by simp [restO]
  have d1 : @Ne Nat D' x.info := r1 _ mD
  have d2 : @Ne Nat D' x.sl := r2 _ mD
  have mR : ∀ q ∈ restO pre post x rest, q ∈ restO pre post x ((D', tupOf vs.toArray 0) :: rest) := by
    intro q hq; simp only [restO, List.mem_cons, List.mem_append] at hq ⊢; grind
  replace r1 : ∀ q ∈ restO pre post x rest, q.1 ≠ x.info := fun q hq => r1 q (mR q hq)
  replace r2 : ∀ q ∈ restO pre post x rest, q.1 ≠ x.sl := fun q hq => r2 q (mR q hq)
  have mR' := led_open N1
  replace N1 : News g' L' h1 ((D', tupOf vs.toArray 0) :: ledO σ w .none po nf oN1 x (restO pre post x rest)) := News.sub mR' (by walk_at "sub")
  clear mR' mR mD r3 r4 r5
  obtain ⟨ro, hro⟩ : ∃ ro, restO pre post x rest = ro := ⟨_, rfl⟩
  rw [hro] at N1 r1 r2
  dsimp only
  (repeat' (((fail_if_success with_reducible first | show wpAny _ _ (call (Value.ref _) _ _) _ _ _ | show wpAny _ _ (exec (Stmt.For _ _ _ _ _) _) _ _ _ | show wpAny _ _ (exec (Stmt.While _ _ _ _) _) _ _ _ | show wpAny _ _ (pyIter _) _ _ _)); ((fail_if_success with_reducible first | show wpAny _ _ (call (Value.type "tuple") _ _) _ _ _)); ((first | (k_unfold; (try dsimp only)) | (k_end; wrow_close) | walk1 | (dsimp only; walk1) | (leave1; walk_say "STEP leave1"; try dsimp only) | fail "no step"))))
  refine len_tuple (News.isTup (by k_asm) (by k_mem)) (by simp only [List.size_toArray]; omega) ?_
  (repeat' (((fail_if_success with_reducible first | show wpAny _ _ (call (Value.ref _) _ _) _ _ _ | show wpAny _ _ (exec (Stmt.For _ _ _ _ _) _) _ _ _ | show wpAny _ _ (exec (Stmt.While _ _ _ _) _) _ _ _ | show wpAny _ _ (pyIter _) _ _ _)); ((fail_if_success with_reducible first | show wpAny _ _ (call (Value.type "tuple") _ _) _ _ _)); ((first | (k_unfold; (try dsimp only)) | (k_end; wrow_close) | walk1 | (dsimp only; walk1) | (leave1; walk_say "STEP leave1"; try dsimp only) | fail "no step"))))
  rename News g' L' _ _ => N2
  rename Fr g' L' _ _ => F2
  subst hro
  refine hide fun G hG => ?_
  obtain ⟨x2, ⟨z1, z2, z3, z4, z5, z6⟩, N3⟩ := led_np N2
  refine hG ?_
  clear hG G
  have hk2 := hs1.keys
  have hs2 : SOK σ (pre ++ x2 :: post) ((D', tupOf vs.toArray 0) :: rest) (n + 1) := hs1.put z1 z2 z5 z3 (by rw [z6]; exact hs1.isi x (by simp)) (by rw [z6]; exact hs1.slen x (by simp)) (Nat.le_refl _)
  have hd2 : oN1.IsDictOf (intKind Pr w) (kvsN (pre ++ x2 :: post)) := by rw [kvsN_put z1 z3]; exact hd1
  have hp2 : (pre ++ x2 :: post).map NI.pn = modP (ensP (xs.map NI.pn) k) k fun p => { p with np := p.np + (vs.map intOf).length } := by
    rw [modP_split (x := x) (f := fun p => { p with np := p.np + ((vs.map intOf).length : Int) }) hk2 (by simp only [NI.pn, z3, z4, z6, List.length_map, List.size_toArray]), hxk, hx1]
  obtain ⟨ys, hys⟩ : ∃ ys, pre ++ x2 :: post = ys := ⟨_, rfl⟩
  rw [hys] at N3 hs2 hd2 hp2
  clear N2 z1 z2 z3 z4 z5 z6 hx1 hs1 hd1 hk2
  refine For_invVF F2 rfl rfl ?_
  walk1
  have hnD : ∀ q ∈ ledS σ w .none po nf oN1 ys rest, q.1 ≠ D' := by
    intro q hq e
    rcases inL q hq with h | h
    · exact hs2.off _ h (D', tupOf vs.toArray 0) (.head _) e.symm
    · exact hDr q h e
  refine iter_tupM (vs := vs) (ep := 0) [Str.ofString "pred_info"] (fun i nx => E2 fun oNi xsi => A4 (nx = ledS σ w .none po nf oNi xsi rest) (SOK σ xsi ((D', tupOf vs.toArray 0) :: rest) (n + 1 + 2 * i)) (oNi.IsDictOf (intKind Pr w) (kvsN xsi)) (xsi.map NI.pn = ((vs.take i).map intOf).foldl (linkP k) (modP (ensP (xs.map NI.pn) k) k fun p => { p with np := p.np + (vs.map intOf).length }))) rfl F2 (News.sub N3 ?_) hnD ⟨oN1, ys, rfl, hs2, hd2, hp2⟩ ?_ ?_
  · walk_at "sub"
  · intro i v u' nx h3 tk3 it hv hI0 hoff F4 N4
    refine hide fun G hG => ?_
    obtain ⟨oNi, xsi, rfl, hsi, hdi, hpi⟩ := hI0
    refine hG ?_
    clear hG G
    have hi : i < vs.length := by
      rcases Nat.lt_or_ge i vs.length with h | h
      · exact h
      · rw [List.getElem?_eq_none h] at hv; cases hv
    obtain ⟨vi, vt, rfl⟩ := hvs v (List.mem_of_getElem? hv)
    have hsi' : SOK σ xsi ((D', tupOf vs.toArray 0) :: it :: rest) (n + 1 + 2 * i) := by
      refine ⟨hsi.nd, fun a ha q hq => ?_, hsi.keys, hsi.isi, hsi.len, hsi.slen, hsi.lo⟩
      rcases List.mem_cons.mp hq with rfl | hq
      · exact hsi.off a ha _ (.head _)
      · rcases List.mem_cons.mp hq with rfl | hq
        · have : ∃ q' ∈ ledS σ w .none po nf oNi xsi rest, q'.1 = a := by
            have ha' : a ∈ (ledS σ w .none po nf oNi xsi rest).map (·.1) := by rw [map_ledS]; exact List.mem_append_left _ ha
            obtain ⟨q', h1, h2⟩ := List.mem_map.mp ha'
            exact ⟨q', h1, h2⟩
          obtain ⟨q', h1, rfl⟩ := this
          exact fun e => hoff q' h1 q (.tail _ (.head _)) e.symm
        · exact hsi.off a ha q (.tail _ hq)
    replace N4 : News g' L' h3 (ledS σ w .none po nf oNi xsi ((D', tupOf vs.toArray 0) :: it :: rest)) := News.sub N4 (by walk_at "sub")
    clear N3 F2
    refine wpAny_boxed _ (fun _ _ x => x) fun PQ hPQ => ?_
    (repeat' (((fail_if_success with_reducible first | show wpAny _ _ (call (Value.ref _) _ _) _ _ _ | show wpAny _ _ (exec (Stmt.For _ _ _ _ _) _) _ _ _ | show wpAny _ _ (exec (Stmt.While _ _ _ _) _) _ _ _ | show wpAny _ _ (pyIter _) _ _ _)); ((fail_if_success with_reducible first | show wpAny _ _ (call (Value.type "tuple") _ _) _ _ _)); ((first | (k_unfold; (try dsimp only)) | (k_end; wrow_close) | walk1 | (dsimp only; walk1) | (leave1; walk_say "STEP leave1"; try dsimp only) | fail "no step"))))
    refine wpAny_call (c_gn (rest := (D', tupOf vs.toArray 0) :: it :: rest) rfl rfl (by k_room) rfl rfl B' X' T' (by assumption) hsi' (by omega) hdi (by assumption) ?_)
    intro h5 tk5 oN5 xs5 x5 hx5 hxk5 hx15 hs5 hd5 F5 N5
    obtain ⟨pre5, post5, rfl⟩ := List.append_of_mem hx5
    obtain ⟨q0, q0', q1, q2, q3, q4, q5, q6, q7, q8, q9, q10, r1, r2, r3, r4, r5⟩ := hs5.dst
    replace N5 := led_open N5
    obtain ⟨ro, hro⟩ : ∃ ro, restO pre5 post5 x5 ((D', tupOf vs.toArray 0) :: it :: rest) = ro := ⟨_, rfl⟩
    rw [hro] at N5 r1 r2 r3 r4 r5
    dsimp only
    (repeat' (((fail_if_success with_reducible first | show wpAny _ _ (call (Value.ref _) _ _) _ _ _ | show wpAny _ _ (exec (Stmt.For _ _ _ _ _) _) _ _ _ | show wpAny _ _ (exec (Stmt.While _ _ _ _) _) _ _ _ | show wpAny _ _ (pyIter _) _ _ _)); ((fail_if_success with_reducible first | show wpAny _ _ (call (Value.type "tuple") _ _) _ _ _)); ((first | (k_unfold; (try dsimp only)) | (k_end; wrow_close) | walk1 | (dsimp only; walk1) | (leave1; walk_say "STEP leave1"; try dsimp only) | fail "no step"))))
    have hsl := hs5.slen x5 (by simp)
    refine' append_K ?k1 ?k2 ?k3 ?_ ?z
    case k1 => k_asm
    case k2 => k_asm
    case k3 => k_upd
    case z => simp only [List.size_toArray]; rw [sizeLine_eq]; omega
    intro h6 F6 N6
    subst hro
    refine hide fun G hG => ?_
    obtain ⟨x6, ⟨z1, z2, z3, z4, z5, z6⟩, N7⟩ := led_sv N6
    refine hG ?_
    clear hG G
    (repeat' (((fail_if_success with_reducible first | show wpAny _ _ (call (Value.ref _) _ _) _ _ _ | show wpAny _ _ (exec (Stmt.For _ _ _ _ _) _) _ _ _ | show wpAny _ _ (exec (Stmt.While _ _ _ _) _) _ _ _ | show wpAny _ _ (pyIter _) _ _ _)); ((fail_if_success with_reducible first | show wpAny _ _ (call (Value.type "tuple") _ _) _ _ _)); ((first | (k_unfold; (try dsimp only)) | (k_end; wrow_close) | walk1 | (dsimp only; walk1) | (leave1; walk_say "STEP leave1"; try dsimp only) | fail "no step"))))
    have hs6 : SOK σ (pre5 ++ x6 :: post5) ((D', tupOf vs.toArray 0) :: it :: rest) (n + 1 + 2 * (i + 1)) := by
      refine hs5.put z1 z2 z5 z3 ?_ ?_ (by omega)
      · rw [z6]
        intro v hv
        rcases List.mem_append.mp hv with h | h
        · exact hs5.isi x5 (by simp) v h
        · rw [List.mem_singleton.mp h]; exact ⟨_, _, rfl⟩
      · rw [z6, List.length_append]; simp only [List.length_cons, List.length_nil]; omega
    refine hPQ _ _ ⟨_, _, _, ledS σ w .none po nf oN5 (pre5 ++ x6 :: post5) rest, rfl, F6, News.sub N7 ?_, ?_, ?_, oN5, _, rfl, ?_, ?_, ?_⟩
    · walk_at "sub"
    · intro q hq r hr
      rcases inL q hq with h | h
      · refine fun e => hs6.off _ h r ?_ e.symm
        simp only [List.mem_cons, List.not_mem_nil, or_false] at hr ⊢
        rcases hr with h | h
        · exact .inl h
        · exact .inr (.inl h)
      · exact hoff q (by simp only [ledS, List.mem_cons, List.mem_append]; exact .inr (.inr (.inr (.inr h)))) r hr
    · intro y h1 h2
      have h3 : y ≠ Str.ofString "pred_info" := by intro e; subst e; revert h2; decide
      simp only [if_neg h1, if_neg h3, h2, Bool.false_eq_true, if_false]
    · exact ⟨hs6.nd, fun a ha q hq => hs6.off a ha q (by
        rcases List.mem_cons.mp hq with h | h
        · exact h ▸ .head _
        · exact .tail _ (.tail _ h)), hs6.keys, hs6.isi, hs6.len, hs6.slen, hs6.lo⟩
    · rw [kvsN_put z1 z3]; exact hd5
    · rw [modP_split (x := x5) (f := fun p => { p with succ := p.succ ++ [k] }) hs5.keys (by simp only [NI.pn, z3, z4, z6, List.map_append, List.map_cons, List.map_nil, intOf]), hxk5, hx15, List.take_add_one, hv]
      simp only [Option.toList, List.map_append, List.map_cons, List.map_nil, intOf, List.foldl_append, List.foldl_cons, List.foldl_nil, hpi]
      rfl
  · intro u' nx h3 tk3 hI0 hoff F4 N4
    refine hide fun G hG => ?_
    obtain ⟨oNi, xsi, rfl, hsi, hdi, hpi⟩ := hI0
    refine hG ?_
    clear hG G
    dsimp only
    (repeat' (((fail_if_success with_reducible first | show wpAny _ _ (call (Value.ref _) _ _) _ _ _ | show wpAny _ _ (exec (Stmt.For _ _ _ _ _) _) _ _ _ | show wpAny _ _ (exec (Stmt.While _ _ _ _) _) _ _ _ | show wpAny _ _ (pyIter _) _ _ _)); ((fail_if_success with_reducible first | show wpAny _ _ (call (Value.type "tuple") _ _) _ _ _)); ((first | (k_unfold; (try dsimp only)) | (k_end; wrow_close) | walk1 | (dsimp only; walk1) | (leave1; walk_say "STEP leave1"; try dsimp only) | fail "no step"))))
    refine hq _ _ oNi xsi (by rw [hpi, List.take_length]; rfl) ⟨hsi.nd, fun a ha q hq => hsi.off a ha q (.tail _ hq), hsi.keys, hsi.isi, hsi.len, hsi.slen, hsi.lo⟩ hdi (by assumption) ?_
    rename News h₀ L _ _ => N9
    exact News.sub N9 fun q hq => .tail _ hq
end
end
section
set_option maxHeartbeats 1000000
theorem meets_bool_new_list (l : Addr) (items : Array Value) (hfit : (items.size : Int) < 2 ^ 63) :
    Meets (Builtin.«bool.__new__» ⟨[.type "bool", .ref l], []⟩) (fun _ R s => s.heap.IsList l items ∧ R (.ok (.ret (.bool (!items.isEmpty)))) { s with toks := s.toks + 1 + 1 }) :=
  Meets.of_wp fun prog w A R s hs => by
    obtain ⟨hl, hs⟩ := hs
    obtain ⟨hp, g, d, tk, os⟩ := s
    have f1 := PySem.F.conv_sub_bool
    repeat (any_goals (first | assumption | (with_reducible refine wpAny_truthy_list hl hfit ?_) | wp_step))
    all_goals first | exact ⟨_, rfl, hs⟩ | exact hs | skip
theorem call_bool_list {prog : Program} {w : World} {A : Around} {E : Value → Shared → Prop} {s : Shared} {l : Addr} {items : Array Value} {Q : Value → Shared → Prop} (hl : s.heap.IsList l items) (hfit : (items.size : Int) < 2 ^ 63)
    (h : Q (.bool (!items.isEmpty)) { s with toks := s.toks + 1 + 1 }) : wpAny (model prog w) A (call (.type "bool") [.ref l]) Q E s :=
  call_bool_1 (meets_bool_new_list l items hfit) ⟨hl, show wants (fun obj s₁ => s₁.TypeIs obj "bool" ∧ Q obj s₁) E _ _ from ⟨rfl, h⟩⟩
theorem frag_on4 : (fun (_ : Params → Frag) => PySem.Challenge.rw_cy0005_01.Holds) KF → True := by
  k_fill
  intro _; trivial
section
variable {w : World} {A₀ A : Around} {base h₀ : Heap} {outer : List Env} {env : Env} {L : Addr} {m mg mb : Str → Option Value} {p : Program} {loose : List Str} {mean : ExcName → Option Value} {s : Shared}
  {R : Result → Shared → Prop}
theorem c_is_active {σ : Srt} {po nf : Int} {t1 t2 : Tok} {Rl : Addr} {rs : List Value} {ep : Nat} {rest : List (Addr × Obj)}
    (hh : A.handled = none) (hfr : A.frames = some (env :: outer)) (hdp : A.depth < 800) (hf : env.frame = some L) (hke : env.scope.kind = .function)
    (B : Below A₀ base outer h₀) (X₀ : (KF w.params).In h₀) (T : Top p loose mean mg mb h₀) (F : Fr h₀ L s.heap m) (hrs : rs.length ≤ 10000)
    (N : News h₀ L s.heap ((Rl, listOf rs.toArray ep) :: (σ.S, instObj 130 σ.D) :: (σ.D, σ.d w (.ref Rl) (.int po t1) (.int nf t2)) :: rest))
    (hq : ∀ h' tk', Fr h₀ L h' m →
      News h₀ L h' ((Rl, listOf rs.toArray ep) :: (σ.S, instObj 130 σ.D) :: (σ.D, σ.d w (.ref Rl) (.int po t1) (.int nf t2)) :: rest) →
      R (.ok (.ret (.bool (decide (nf < po) || !rs.isEmpty)))) { s with heap := h', toks := tk' }) :
    codeAny (model Pr w) A (.call (.ref 99) ⟨[.ref σ.S], []⟩) R s := by
  obtain ⟨_, d, _, gs, u⟩ := A
  dsimp only at hh hfr hdp
  subst hh hfr
  refine' code_def B F X₀ N T rfl hf hke ?k6 ?k7 ?k8 ?k9 ?kB ?_ ?c2 ?c3 ?c4 ?c5
  case k6 => k_is
  case k7 => k_is
  case k8 => k_room
  case k9 => exact BindsTo.of_eq rfl
  case c5 => decide
  case kB => exact locs rfl
  case c2 => exact rfl
  case c3 => exact rfl
  case c4 => exact rfl
  intro g' L' h' FG' F' N' B' X' T'
  (try dsimp only)
  k_fold
  (repeat' (((fail_if_success with_reducible first | show wpAny _ _ (call (Value.ref _) _ _) _ _ _ | show wpAny _ _ (exec (Stmt.For _ _ _ _ _) _) _ _ _ | show wpAny _ _ (exec (Stmt.While _ _ _ _) _) _ _ _ | show wpAny _ _ (pyIter _) _ _ _)); ((fail_if_success with_reducible first | show wpAny _ _ (call (Value.type "tuple") _ _) _ _ _)); ((first | (k_unfold; (try dsimp only)) | (k_end; wrow_close) | walk1 | (dsimp only; walk1) | (leave1; walk_say "STEP leave1"; try dsimp only) | fail "no step"))))
  · rename nf < po => hlt
    simp only [decide_eq_true hlt, Bool.true_or] at hq ⊢
    exact hq _ _ (by assumption) (by assumption)
  · rename ¬ nf < po => hlt
    simp only [decide_eq_false hlt, Bool.false_or] at hq
    refine call_bool_list (items := rs.toArray) ⟨_, (N' _ (.head _)).1, rfl, _, rfl⟩ (by simp only [List.size_toArray]; omega) ?_
    (repeat' (((fail_if_success with_reducible first | show wpAny _ _ (call (Value.ref _) _ _) _ _ _ | show wpAny _ _ (exec (Stmt.For _ _ _ _ _) _) _ _ _ | show wpAny _ _ (exec (Stmt.While _ _ _ _) _) _ _ _ | show wpAny _ _ (pyIter _) _ _ _)); ((fail_if_success with_reducible first | show wpAny _ _ (call (Value.type "tuple") _ _) _ _ _)); ((first | (k_unfold; (try dsimp only)) | (k_end; wrow_close) | walk1 | (dsimp only; walk1) | (leave1; walk_say "STEP leave1"; try dsimp only) | fail "no step"))))
    have e : (!rs.toArray.isEmpty) = !rs.isEmpty := by simp
    rw [e]
    exact hq _ _ (by assumption) (by assumption)
end
end
section
set_option maxHeartbeats 1000000
theorem frag_on5 : (fun (_ : Params → Frag) => PySem.Challenge.rw_cy0005_01.Holds) KF → True := by
  k_fill
  intro _; trivial
noncomputable def outP (ps : List PN) (r : Int) : List PN := modP ps r fun p => { p with np := -1 }
theorem SOK.ext {σ : Srt} {xs : List NI} {rest extra led : List (Addr × Obj)} {n : Nat} (hs : SOK σ xs rest n) (hl : ∀ a ∈ addrS σ xs, ∃ q ∈ led, q.1 = a) (hoff : ∀ q ∈ led, ∀ r ∈ extra, q.1 ≠ r.1) : SOK σ xs (extra ++ rest) n :=
  ⟨hs.nd, fun a ha q hq => by
    rcases List.mem_append.mp hq with h | h
    · obtain ⟨r, hr, rfl⟩ := hl a ha
      exact fun e => hoff r hr q h e.symm
    · exact hs.off a ha q h, hs.keys, hs.isi, hs.len, hs.slen, hs.lo⟩
theorem SOK.sub {σ : Srt} {xs : List NI} {rest rest' : List (Addr × Obj)} {n : Nat} (hs : SOK σ xs rest n) (h : ∀ q ∈ rest', ∃ q' ∈ rest, q'.1 = q.1) : SOK σ xs rest' n :=
  ⟨hs.nd, fun a ha q hq => by
    obtain ⟨q', h1, h2⟩ := h q hq
    exact h2 ▸ hs.off a ha q' h1, hs.keys, hs.isi, hs.len, hs.slen, hs.lo⟩
theorem find_of_mem {xs : List NI} {x : NI} (hk : (xs.map (·.node)).Nodup) (hx : x ∈ xs) : (xs.find? fun y => y.node = x.node) = some x := by
  induction xs with
  | nil => cases hx
  | cons y r ih =>
    rw [List.map_cons, List.nodup_cons] at hk
    rw [List.find?_cons]
    rcases List.mem_cons.mp hx with rfl | hx
    · simp
    · have : ¬ y.node = x.node := fun e => hk.1 (e ▸ List.mem_map_of_mem hx)
      simp only [this, decide_false]
      exact ih hk.2 hx
theorem value_of_mem {xs : List NI} {x : NI} {k : Int} (hk : (xs.map (·.node)).Nodup) (hx : x ∈ xs) (e : x.node = k) : valueAt (kvsN xs) k = some (.ref x.info) := by
  subst e; rw [valueAt_kvsN, find_of_mem hk hx]; rfl
theorem addrS_led {σ : Srt} {w : World} {rv po nf : Value} {oN : Obj} {xs : List NI} {rest : List (Addr × Obj)} : ∀ a ∈ addrS σ xs, ∃ q ∈ ledS σ w rv po nf oN xs rest, q.1 = a := by
  intro a ha
  have ha' : a ∈ (ledS σ w rv po nf oN xs rest).map (·.1) := by rw [map_ledS]; exact List.mem_append_left _ ha
  obtain ⟨q', h1, h2⟩ := List.mem_map.mp ha'
  exact ⟨q', h1, h2⟩
section
variable {w : World} {A₀ A : Around} {base h₀ : Heap} {outer : List Env} {env : Env} {L : Addr} {m mg mb : Str → Option Value} {p : Program} {loose : List Str} {mean : ExcName → Option Value} {s : Shared}
  {R : Result → Shared → Prop}
theorem clear_any {its : Array Value} {n : Nat} {D : Addr} {E : Value → Shared → Prop} {Q : Value → Shared → Prop} {news : List (Addr × Obj)} {news' : Nat → List (Addr × Obj)} (F : Fr h₀ L s.heap m) (N : News h₀ L s.heap news) (U : ∀ n', Upd D (listOf its n) (listOf #[] n') news (news' n')) (hz : its.size ≤ 100000)
    (h : ∀ h' n', Fr h₀ L h' m → News h₀ L h' (news' n') → Q .none { s with heap := h' }) : wpAny (model Pr w) A (call (.builtin "list.clear") [.ref D]) Q E s := by
  by_cases e : its.size = 0
  · obtain ⟨pre, post, rfl, hnw, a, c⟩ := (U n).split
    have z := N (D, listOf its n) (List.mem_append.mpr (.inr (.head _)))
    refine call_meets PySem.F.slot_list_clear ⟨_, z.1, rfl⟩ PySem.F.entry_list_clear (PySem.F.args_list_clear_1 _) (PySem.AutoSeq1.list_clear_list_0 D its n (by rw [sizeLine_eq]; omega)) ⟨z.1, h _ n (F.change (Heap.SameBut.update ..) z.2.1 z.2.2) (hnw ▸ kl_turn0 (fun _ => #[]) N a c rfl (by simpa using e.symm))⟩
  · exact kl_clear F N (U (n + 1)) (by simpa using e) (by rw [sizeLine_eq, Array.length_toList]; omega) fun h' F' N' => h h' _ F' N'
theorem led_np0 {σ : Srt} {rv po nf : Value} {oN : Obj} {pre post : List NI} {x : NI} {rest : List (Addr × Obj)} {h : Heap} {np : Int} {t : Tok}
    (N : News h₀ L h ((x.info, ⟨.ref 33, some x.dx, .plain, [some (.int x.node x.ntok), some (.int np t), some (.ref x.sl)].toArray⟩) :: (x.dx, dictOf [] 0) :: (x.sl, x.l) :: (σ.S, instObj 130 σ.D) :: (σ.D, σ.d w rv po nf) :: (σ.Nd, oN) :: restO pre post x rest)) :
    ∃ x2 : NI, (x2.info = x.info ∧ x2.dx = x.dx ∧ x2.node = x.node ∧ x2.np = np ∧ x2.sl = x.sl ∧ x2.sv = x.sv) ∧ News h₀ L h (ledS σ w rv po nf oN (pre ++ x2 :: post) rest) :=
  ⟨⟨x.info, x.dx, x.node, x.ntok, np, t, x.sl, x.sv, x.ep⟩, ⟨rfl, rfl, rfl, rfl, rfl, rfl⟩, led_shut N⟩
theorem c_get_ready {σ : Srt} {po : Int} {nf : Value} {t1 : Tok} {Rl : Addr} {rs : List Value} {ep : Nat} {oN : Obj} {xs : List NI} {rest : List (Addr × Obj)} {n : Nat}
    (hh : A.handled = none) (hfr : A.frames = some (env :: outer)) (hdp : A.depth < 800) (hf : env.frame = some L) (hke : env.scope.kind = .function)
    (B : Below A₀ base outer h₀) (X₀ : (KF w.params).In h₀) (T : Top p loose mean mg mb h₀) (F : Fr h₀ L s.heap m) (hrs : rs.length ≤ 10000) (hri : ∀ v ∈ rs, IsI v) (hrm : ∀ v ∈ rs, intOf v ∈ xs.map (·.node))
    (hs : SOK σ xs ((Rl, listOf rs.toArray ep) :: rest) n) (hdN : oN.IsDictOf (intKind Pr w) (kvsN xs)) (hRr : ∀ q ∈ rest, q.1 ≠ Rl)
    (N : News h₀ L s.heap ((Rl, listOf rs.toArray ep) :: ledS σ w (.ref Rl) (.int po t1) nf oN xs rest))
    (hq : ∀ h' tk' Tt ep' t' xs', Fr h₀ L h' m → SOK σ xs' ((Rl, listOf #[] ep') :: rest) n → oN.IsDictOf (intKind Pr w) (kvsN xs') → xs'.map NI.pn = (rs.map intOf).foldl outP (xs.map NI.pn) →
      (∀ q ∈ (Rl, listOf #[] ep') :: ledS σ w (.ref Rl) (.int (po + rs.length) t') nf oN xs' rest, q.1 < Tt) →
      News h₀ L h' ((Tt, tupOf rs.toArray 0) :: (Rl, listOf #[] ep') :: ledS σ w (.ref Rl) (.int (po + rs.length) t') nf oN xs' rest) →
      R (.ok (.ret (.ref Tt))) { s with heap := h', toks := tk' }) :
    codeAny (model Pr w) A (.call (.ref 92) ⟨[.ref σ.S], []⟩) R s := by
  obtain ⟨_, d, _, gs, u⟩ := A
  dsimp only at hh hfr hdp
  subst hh hfr
  refine' code_def (binds := [(Str.ofString "self", .ref σ.S)]) B F X₀ N T rfl hf hke ?k6 ?k7 ?k8 ?k9 ?kB ?_ ?c2 ?c3 ?c4 ?c5
  case k6 => k_is
  case k7 => k_is
  case k8 => k_room
  case k9 => exact BindsTo.of_eq rfl
  case c5 => decide
  case kB => exact locs rfl
  case c2 => exact rfl
  case c3 => exact rfl
  case c4 => exact rfl
  intro g' L' h' FG' F' N' B' X' T'
  (try dsimp only)
  k_fold
  (repeat' (((fail_if_success with_reducible first | show wpAny _ _ (call (Value.ref _) _ _) _ _ _ | show wpAny _ _ (exec (Stmt.For _ _ _ _ _) _) _ _ _ | show wpAny _ _ (exec (Stmt.While _ _ _ _) _) _ _ _ | show wpAny _ _ (pyIter _) _ _ _)); ((fail_if_success with_reducible first | show wpAny _ _ (call (Value.type "tuple") _ _) _ _ _)); ((first | (k_unfold; (try dsimp only)) | (k_end; wrow_close) | walk1 | (dsimp only; walk1) | (leave1; walk_say "STEP leave1"; try dsimp only) | fail "no step"))))
  refine kde_tupleOf (zs := rs) (items := rs.toArray) (by assumption) N' ⟨_, (N' _ (.head _)).1, rfl, _, rfl⟩ (by simp only [List.size_toArray]; omega) (by simp) ?_
  intro Tt h1 F1 N1 l1
  (repeat' (((fail_if_success with_reducible first | show wpAny _ _ (call (Value.ref _) _ _) _ _ _ | show wpAny _ _ (exec (Stmt.For _ _ _ _ _) _) _ _ _ | show wpAny _ _ (exec (Stmt.While _ _ _ _) _) _ _ _ | show wpAny _ _ (pyIter _) _ _ _)); ((fail_if_success with_reducible first | show wpAny _ _ (call (Value.type "tuple") _ _) _ _ _)); ((first | (k_unfold; (try dsimp only)) | (k_end; wrow_close) | walk1 | (dsimp only; walk1) | (leave1; walk_say "STEP leave1"; try dsimp only) | fail "no step"))))
  rename News g' L' _ _ => N2
  rename Fr g' L' _ _ => F2
  refine For_invVF F2 rfl rfl ?_
  walk1
  refine iter_tupM (vs := rs) (ep := 0) [] (fun i nx => ∃ xsi, A6 (nx = (Rl, listOf rs.toArray ep) :: ledS σ w (.ref Rl) (.int po t1) nf oN xsi rest) (addrN xsi = addrN xs) (xsi.map (·.node) = xs.map (·.node)) (SOK σ xsi ((Rl, listOf rs.toArray ep) :: rest) n) (oN.IsDictOf (intKind Pr w) (kvsN xsi)) (xsi.map NI.pn = ((rs.take i).map intOf).foldl outP (xs.map NI.pn))) rfl F2 N2 ?_ ⟨xs, rfl, rfl, rfl, hs, hdN, rfl⟩ ?_ ?_
  · exact fun q hq e => absurd (l1 q hq) (e ▸ Nat.lt_irrefl _)
  · intro i v u' nx h3 tk3 it hv hI0 hoff F4 N4
    refine hide fun G hG => ?_
    obtain ⟨xsi, rfl, hai, hki, hsi, hdi, hpi⟩ := hI0
    refine hG ?_
    clear hG G
    have hi : i < rs.length := by
      rcases Nat.lt_or_ge i rs.length with h | h
      · exact h
      · rw [List.getElem?_eq_none h] at hv; cases hv
    have hvm := List.mem_of_getElem? hv
    obtain ⟨vi, vt, rfl⟩ := hri v hvm
    have hin : vi ∈ xsi.map (·.node) := by rw [hki]; exact hrm _ hvm
    obtain ⟨x5, hx5, hxk5⟩ := List.mem_map.mp hin
    obtain ⟨pre5, post5, rfl⟩ := List.append_of_mem hx5
    have hse : SOK σ (pre5 ++ x5 :: post5) ([(Tt, tupOf rs.toArray 0), it] ++ (Rl, listOf rs.toArray ep) :: rest) n := hsi.ext (fun a ha => by
      obtain ⟨q, h1, h2⟩ := addrS_led (w := w) (rv := .ref Rl) (po := .int po t1) (nf := nf) (oN := oN) (rest := rest) a ha
      exact ⟨q, .tail _ h1, h2⟩) hoff
    obtain ⟨q0, q0', q1, q2, q3, q4, q5, q6, q7, q8, q9, q10, r1, r2, r3, r4, r5⟩ := hse.dst
    replace N4 : News g' L' h3 (ledS σ w (.ref Rl) (.int po t1) nf oN (pre5 ++ x5 :: post5) ([(Tt, tupOf rs.toArray 0), it] ++ (Rl, listOf rs.toArray ep) :: rest)) := News.sub N4 (by walk_at "sub")
    replace N4 := led_open N4
    obtain ⟨ro, hro⟩ : ∃ ro, restO pre5 post5 x5 ([(Tt, tupOf rs.toArray 0), it] ++ (Rl, listOf rs.toArray ep) :: rest) = ro := ⟨_, rfl⟩
    rw [hro] at N4 r1 r2 r3 r4 r5
    refine wpAny_boxed _ (fun _ _ x => x) fun PQ hPQ => ?_
    (repeat' (((fail_if_success with_reducible first | show wpAny _ _ (call (Value.ref _) _ _) _ _ _ | show wpAny _ _ (exec (Stmt.For _ _ _ _ _) _) _ _ _ | show wpAny _ _ (exec (Stmt.While _ _ _ _) _) _ _ _ | show wpAny _ _ (pyIter _) _ _ _)); ((fail_if_success with_reducible first | show wpAny _ _ (call (Value.type "tuple") _ _) _ _ _)); ((first | (k_unfold; (try dsimp only)) | (k_end; wrow_close) | walk1 | (dsimp only; walk1) | (leave1; walk_say "STEP leave1"; try dsimp only) | fail "no step"))))
    refine kda_item (knd := intKind _ _) (by assumption) (by k_mem) hdi (intKind_is _ _ _ _) (value_of_mem hsi.keys hx5 hxk5) ?_
    (repeat' (((fail_if_success with_reducible first | show wpAny _ _ (call (Value.ref _) _ _) _ _ _ | show wpAny _ _ (exec (Stmt.For _ _ _ _ _) _) _ _ _ | show wpAny _ _ (exec (Stmt.While _ _ _ _) _) _ _ _ | show wpAny _ _ (pyIter _) _ _ _)); ((fail_if_success with_reducible first | show wpAny _ _ (call (Value.type "tuple") _ _) _ _ _)); ((first | (k_unfold; (try dsimp only)) | (k_end; wrow_close) | walk1 | (dsimp only; walk1) | (leave1; walk_say "STEP leave1"; try dsimp only) | fail "no step"))))
    rename News g' L' _ _ => N6
    rename Fr g' L' _ _ => F6
    subst hro
    refine hide fun G hG => ?_
    obtain ⟨x6, ⟨z1, z2, z3, z4, z5, z6⟩, N7⟩ := led_np0 N6
    refine hG ?_
    clear hG G
    have hs6 : SOK σ (pre5 ++ x6 :: post5) ((Rl, listOf rs.toArray ep) :: rest) n := hsi.put z1 z2 z5 z3 (by rw [z6]; exact hsi.isi x5 hx5) (by rw [z6]; exact hsi.slen x5 hx5) (Nat.le_refl _)
    have ha6 : addrN (pre5 ++ x6 :: post5) = addrN (pre5 ++ x5 :: post5) := by rw [addrN_app, addrN_cons, addrN_app, addrN_cons, z1, z2, z5]
    refine hPQ _ _ ⟨_, _, _, (Rl, listOf rs.toArray ep) :: ledS σ w (.ref Rl) (.int po t1) nf oN (pre5 ++ x6 :: post5) rest, rfl, F6, News.sub N7 ?_, ?_, ?_, _, rfl, ?_, ?_, hs6, ?_, ?_⟩
    · walk_at "sub"
    · intro q hq r hr
      rcases List.mem_cons.mp hq with rfl | hq
      · exact hoff _ (.head _) r hr
      · rcases inL q hq with h | h
        · obtain ⟨q', h1, h2⟩ := addrS_led (w := w) (rv := .ref Rl) (po := .int po t1) (nf := nf) (oN := oN) (rest := rest) (xs := pre5 ++ x5 :: post5) q.1 (by unfold addrS at h ⊢; rw [← ha6]; exact h)
          rw [← h2]; exact hoff q' (.tail _ h1) r hr
        · exact hoff q (by simp only [ledS, List.mem_cons, List.mem_append]; exact .inr (.inr (.inr (.inr (.inr h))))) r hr
    · intro y h1 h2
      simp only [if_neg h1, h2, Bool.false_eq_true, if_false]
    · exact ha6.trans hai
    · rw [← hki]; simp only [List.map_append, List.map_cons, z3]
    · rw [kvsN_put z1 z3]; exact hdi
    · rw [modP_split (x := x5) (f := fun p => { p with np := -1 }) hsi.keys (by simp only [NI.pn, z3, z4, z6]), hxk5, hpi, List.take_add_one, hv]
      simp only [Option.toList, List.map_append, List.map_cons, List.map_nil, intOf, List.foldl_append, List.foldl_cons, List.foldl_nil]
      rfl
  · intro u' nx h3 tk3 hI0 hoff F4 N4
    refine hide fun G hG => ?_
    obtain ⟨xsi, rfl, hai, hki, hsi, hdi, hpi⟩ := hI0
    refine hG ?_
    clear hG G
    have eR : ∀ a ∈ addrS σ xsi, @Ne Nat a Rl := fun a ha e => hsi.off a ha _ (.head _) e.symm
    have e1 := eR σ.S (by unfold addrS; simp)
    have e2 := eR σ.D (by unfold addrS; simp)
    have e3 := eR σ.Nd (by unfold addrS; simp)
    have e4 : ∀ q ∈ ledN xsi ++ rest, q.1 ≠ Rl := fun q hq => by
      rcases List.mem_append.mp hq with h | h
      · exact eR _ (by unfold addrS; simp only [List.mem_cons]; exact .inr (.inr (.inr (by rw [← map_ledN]; exact List.mem_map_of_mem h))))
      · exact hRr q h
    have e5 : @Ne Nat Tt Rl := fun e => hoff _ (.head _) e.symm
    have nd := hsi.nd
    unfold addrS at nd
    simp only [List.nodup_cons, List.mem_cons, not_or] at nd
    have f1 : @Ne Nat σ.S σ.D := nd.1.1
    have f2 : @Ne Nat σ.D σ.Nd := nd.2.1.1
    have f3 : @Ne Nat Tt σ.D := fun e => hoff (σ.D, σ.d w (.ref Rl) (.int po t1) nf) (by simp [ledS]) e.symm
    have f4 : ∀ q ∈ ledN xsi ++ rest, q.1 ≠ σ.D := fun q hq => by
      rcases List.mem_append.mp hq with h | h
      · exact fun e => nd.2.1.2 (by rw [← e, ← map_ledN]; exact List.mem_map_of_mem h)
      · exact hsi.off σ.D (by unfold addrS; simp) q (.tail _ h)
    obtain ⟨ro, hro⟩ : ∃ ro, ledN xsi ++ rest = ro := ⟨_, rfl⟩
    rw [hro] at e4 f4
    replace N4 : News g' L' h3 ((Tt, tupOf rs.toArray 0) :: (Rl, listOf rs.toArray ep) :: (σ.S, instObj 130 σ.D) :: (σ.D, σ.d w (.ref Rl) (.int po t1) nf) :: (σ.Nd, oN) :: ro) := hro ▸ N4
    dsimp only
    (repeat' (((fail_if_success with_reducible first | show wpAny _ _ (call (Value.ref _) _ _) _ _ _ | show wpAny _ _ (exec (Stmt.For _ _ _ _ _) _) _ _ _ | show wpAny _ _ (exec (Stmt.While _ _ _ _) _) _ _ _ | show wpAny _ _ (pyIter _) _ _ _)); ((fail_if_success with_reducible first | show wpAny _ _ (call (Value.type "tuple") _ _) _ _ _)); ((first | (k_unfold; (try dsimp only)) | (k_end; wrow_close) | walk1 | (dsimp only; walk1) | (leave1; walk_say "STEP leave1"; try dsimp only) | fail "no step"))))
    dsimp only
    refine' clear_any (its := rs.toArray) (n := ep) (news' := fun n' => (Tt, tupOf rs.toArray 0) :: (Rl, listOf #[] n') :: (σ.S, instObj 130 σ.D) :: (σ.D, σ.d w (.ref Rl) (.int po t1) nf) :: (σ.Nd, oN) :: ro) ?F ?N ?U ?z ?_
    case F => k_asm
    case N => k_asm
    case U => intro n'; k_upd
    case z => simp only [List.size_toArray]; omega
    intro h5 n5 F5 N5
    (repeat' (((fail_if_success with_reducible first | show wpAny _ _ (call (Value.ref _) _ _) _ _ _ | show wpAny _ _ (exec (Stmt.For _ _ _ _ _) _) _ _ _ | show wpAny _ _ (exec (Stmt.While _ _ _ _) _) _ _ _ | show wpAny _ _ (pyIter _) _ _ _)); ((fail_if_success with_reducible first | show wpAny _ _ (call (Value.type "tuple") _ _) _ _ _)); ((first | (k_unfold; (try dsimp only)) | (k_end; wrow_close) | walk1 | (dsimp only; walk1) | (leave1; walk_say "STEP leave1"; try dsimp only) | fail "no step"))))
    refine len_tuple (News.isTup (by k_asm) (by k_mem)) (by simp only [List.size_toArray]; omega) ?_
    (repeat' (((fail_if_success with_reducible first | show wpAny _ _ (call (Value.ref _) _ _) _ _ _ | show wpAny _ _ (exec (Stmt.For _ _ _ _ _) _) _ _ _ | show wpAny _ _ (exec (Stmt.While _ _ _ _) _) _ _ _ | show wpAny _ _ (pyIter _) _ _ _)); ((fail_if_success with_reducible first | show wpAny _ _ (call (Value.type "tuple") _ _) _ _ _)); ((first | (k_unfold; (try dsimp only)) | (k_end; wrow_close) | walk1 | (dsimp only; walk1) | (leave1; walk_say "STEP leave1"; try dsimp only) | fail "no step"))))
    rename News h₀ L _ _ => N9
    subst hro
    simp only [List.size_toArray] at N9
    refine hq _ _ Tt n5 _ xsi (by assumption) (hsi.sub fun q hq => ?_) hdi (by rw [hpi, List.take_length]) ?_ N9
    · rcases List.mem_cons.mp hq with rfl | hq
      · exact ⟨_, .head _, rfl⟩
      · exact ⟨q, .tail _ hq, rfl⟩
    · intro q hq
      rcases List.mem_cons.mp hq with rfl | hq
      · exact l1 (Rl, listOf rs.toArray ep) (.head _)
      · rcases inL q hq with h | h
        · obtain ⟨q', h1, h2⟩ := addrS_led (w := w) (rv := .ref Rl) (po := .int po t1) (nf := nf) (oN := oN) (rest := rest) (xs := xs) q.1 (by unfold addrS at h ⊢; rw [← hai]; exact h)
          rw [← h2]; exact l1 q' (.tail _ h1)
        · exact l1 q (by simp only [ledS, List.mem_cons, List.mem_append]; exact .inr (.inr (.inr (.inr (.inr h)))))
end
end
section
set_option maxHeartbeats 1000000
section
variable {prog : Program} {w : World} {A : Around} {E : Value → Shared → Prop} {s : Shared} {env : Env} {h₀ : Heap} {x : Str} {body : List Stmt} {Q : Flow → Shared → Prop}
/-- a loop over an object that stays in the ledger -/
theorem iter_coreX {l : Addr} {o oI0 : Obj} {n : Nat} {P : Nat → Value → Prop} {St : Nat → Heap → Prop} {m₀ : Str → Option Value} {news : List (Addr × Obj)} (ys : List Str) (J : Nat → List (Addr × Obj) → Prop)
    (W : Walks prog w A s.heap.objs.size [s.heap.objs.size, l] [s.heap.objs.size] n P St) (hst : ∀ i h, St i h → ∃ oI, h.get? s.heap.objs.size = some oI) (hst0 : St 0 (s.heap.push oI0))
    (F : Fr h₀ env.locals s.heap m₀) (N : News h₀ env.locals s.heap news) (hJl : ∀ i nx, J i nx → (l, o) ∈ nx) (hj : J 0 news)
    (turn : ∀ i v (u : Str → Option Value) news₁ h tk it, i < n → P i v → J i news₁ → (∀ p ∈ news₁, ∀ q ∈ [it], p.1 ≠ q.1) → Fr h₀ env.locals h (fun y => if y = x then some v else if ys.contains y then u y else m₀ y) → News h₀ env.locals h (news₁ ++ [it]) →
      wpAny (model prog w) A (execs body env) (TurnEnd h₀ env.locals [it] (fun m' nx => Agree x ys m₀ m' ∧ J (i + 1) nx) { s with heap := h, toks := tk } Q) E { s with heap := h, toks := tk })
    (done : ∀ (u : Str → Option Value) news₁ h tk, J n news₁ → Fr h₀ env.locals h (fun y => if y = x then u y else if ys.contains y then u y else m₀ y) → News h₀ env.locals h news₁ → Q .next { s with heap := h, toks := tk }) :
    LoopAtV prog w A h₀ env x body Q E (.ref s.heap.objs.size) { s with heap := s.heap.push oI0 } := by
  have hml := hJl 0 news hj
  have hne : l ≠ s.heap.objs.size := Nat.ne_of_lt (Heap.lt_size (N _ hml).1)
  have hI0 : h₀.get? s.heap.objs.size = none := next_is_new F
  refine loopAt (fun i m₁ nx => Agree x ys m₀ m₁ ∧ J i nx) rfl W ?_ ?_ ?_ hst0 (F.push _) (fun p hp => ⟨Heap.get?_push_of_some _ (N p hp).1, (N p hp).2⟩) ⟨fun _ _ _ => rfl, hj⟩ ?_ ?_
  · intro hm
    rcases List.mem_cons.mp hm with e | hm
    · exact absurd F.ns.lt (e ▸ Nat.lt_irrefl _)
    · exact (N _ hml).2.1 (List.mem_singleton.mp hm).symm
  · intro b hb; rw [List.mem_singleton.mp hb]; exact hI0
  · intro p hp hI
    exact absurd (Heap.lt_size (N p hp).1) ((List.mem_singleton.mp hI) ▸ Nat.lt_irrefl _)
  · intro i v m₁ nx s₁ own hI0 hi hP hI1 hoff hown hget hall hst₁ F₁ N₁
    refine hide fun G hG => ?_
    obtain ⟨hh', tk', rfl⟩ := hI0
    obtain ⟨hA, hJ⟩ := hI1
    refine hG ?_
    clear hG G
    obtain ⟨oI, hoI⟩ := hst _ _ hst₁
    have inI : (s.heap.objs.size, oI) ∈ own := hall _ (by simp) hI0 oI hoI
    have hml' := hJl i nx hJ
    have sub : ∀ p ∈ own, p = (s.heap.objs.size, oI) ∨ p = (l, o) := by
      intro p hp
      have g := hget p hp
      rcases List.mem_cons.mp (hown p hp) with e | e
      · obtain ⟨pa, po⟩ := p; dsimp only at e g; subst e; rw [hoI] at g; cases g; exact .inl rfl
      · obtain ⟨pa, po⟩ := p
        have e := List.mem_singleton.mp e
        dsimp only at e g; subst e
        rw [(N₁ _ (List.mem_append_right _ hml')).1] at g; cases g; exact .inr rfl
    refine wpAny_mono (turn i v m₁ nx hh' tk' (s.heap.objs.size, oI) hi hP hJ ?_ (hA.put _ ▸ F₁) ?_) (fun f s₃ h₃ => ?_) fun _ _ e => e
    · intro p hp q hq
      rw [List.mem_singleton.mp hq]
      exact fun e => hoff p hp (by simp [e])
    · intro p hp
      refine N₁ p ?_
      rcases List.mem_append.mp hp with h | h
      · exact List.mem_append_right _ h
      · rw [List.mem_singleton.mp h]; exact List.mem_append_left _ inI
    · have fin : TurnEnd h₀ env.locals [(s.heap.objs.size, oI)] (fun m' nx => Agree x ys m₀ m' ∧ J (i + 1) nx) { s with heap := hh', toks := tk' } Q .next s₃ →
          LoopStepU h₀ env.locals [s.heap.objs.size] own (fun m' nx => Agree x ys m₀ m' ∧ J (i + 1) nx) { s with heap := hh', toks := tk' } .next s₃ := by
        intro hI0
        refine hide fun G hG => ?_
        obtain ⟨h', tk, m', news', e, F', N', hd, hJ'⟩ := hI0
        refine hG ?_
        clear hG G
        refine ⟨rfl, h', tk, m', news', e, F', ?_, ?_, hJ'⟩
        · intro p hp
          refine N' p ?_
          rcases List.mem_append.mp hp with h | h
          · rcases sub p h with rfl | rfl
            · exact List.mem_append_right _ (.head _)
            · exact List.mem_append_left _ (hJl _ _ hJ'.2)
          · exact List.mem_append_left _ h
        · intro p hp hI'
          exact hd p hp _ (.head _) (List.mem_singleton.mp hI')
      cases f with
      | ret v => exact .ret h₃
      | brk => exact .brk h₃
      | next => exact .next (fin h₃)
      | cont => exact .cont (fin h₃)
  · rintro h' tk m' nx F' N' _ ⟨hA, hJ⟩
    exact done m' nx h' tk hJ (hA.out ▸ F') N'
theorem iter_listX {l : Addr} {vs : List Value} {ep : Nat} {m₀ : Str → Option Value} {news : List (Addr × Obj)} (ys : List Str) (J : Nat → List (Addr × Obj) → Prop)
    (hh : A.handled = none) (F : Fr h₀ env.locals s.heap m₀) (N : News h₀ env.locals s.heap news) (hJl : ∀ i nx, J i nx → (l, listOf vs.toArray ep) ∈ nx) (hj : J 0 news)
    (turn : ∀ i v (u : Str → Option Value) news₁ h tk it, vs[i]? = some v → J i news₁ → (∀ p ∈ news₁, ∀ q ∈ [it], p.1 ≠ q.1) → Fr h₀ env.locals h (fun y => if y = x then some v else if ys.contains y then u y else m₀ y) → News h₀ env.locals h (news₁ ++ [it]) →
      wpAny (model prog w) A (execs body env) (TurnEnd h₀ env.locals [it] (fun m' nx => Agree x ys m₀ m' ∧ J (i + 1) nx) { s with heap := h, toks := tk } Q) E { s with heap := h, toks := tk })
    (done : ∀ (u : Str → Option Value) news₁ h tk, J vs.length news₁ → Fr h₀ env.locals h (fun y => if y = x then u y else if ys.contains y then u y else m₀ y) → News h₀ env.locals h news₁ → Q .next { s with heap := h, toks := tk }) :
    wpAny (model prog w) A (pyIter (.ref l)) (fun it s₂ => LoopAtV prog w A h₀ env x body Q E it s₂) E s := by
  have hml := hJl 0 news hj
  have hl : s.heap.IsList l vs.toArray := ⟨_, (N _ hml).1, rfl, _, rfl⟩
  have hne : l ≠ s.heap.objs.size := Nat.ne_of_lt (Heap.lt_size (N _ hml).1)
  refine wpAny_pyIter_list hl ?_
  have W := Walks.list (prog := prog) (w := w) hh s.heap.objs.size l hne vs.toArray
  have hlen : vs.toArray.size = vs.length := by simp
  rw [hlen] at W
  exact iter_coreX ys J W (fun i h st => let ⟨⟨o, ho, _⟩, _⟩ := st; ⟨o, ho⟩) ⟨⟨_, Heap.get?_push_size _ rfl, rfl, rfl⟩, hl.push _⟩ F N hJl hj
    (fun i v u news₁ h tk it _ hP => turn i v u news₁ h tk it (by simpa using hP)) done
/-- a loop over a dict's keys -/
theorem iter_dictX {d : Addr} {o : Obj} {kvs : List (Int × Value)} {m₀ : Str → Option Value} {news : List (Addr × Obj)} (ys : List Str) (J : Nat → List (Addr × Obj) → Prop)
    (hh : A.handled = none) (lo : (d == sysModules) = false) (hd : o.IsDictOf (intKind prog w) kvs) (F : Fr h₀ env.locals s.heap m₀) (N : News h₀ env.locals s.heap news) (hJl : ∀ i nx, J i nx → (d, o) ∈ nx) (hj : J 0 news)
    (turn : ∀ i k (t : Tok) (u : Str → Option Value) news₁ h tk it, (kvs.map (·.1))[i]? = some k → J i news₁ → (∀ p ∈ news₁, ∀ q ∈ [it], p.1 ≠ q.1) → Fr h₀ env.locals h (fun y => if y = x then some (.int k t) else if ys.contains y then u y else m₀ y) → News h₀ env.locals h (news₁ ++ [it]) →
      wpAny (model prog w) A (execs body env) (TurnEnd h₀ env.locals [it] (fun m' nx => Agree x ys m₀ m' ∧ J (i + 1) nx) { s with heap := h, toks := tk } Q) E { s with heap := h, toks := tk })
    (done : ∀ (u : Str → Option Value) news₁ h tk, J kvs.length news₁ → Fr h₀ env.locals h (fun y => if y = x then u y else if ys.contains y then u y else m₀ y) → News h₀ env.locals h news₁ → Q .next { s with heap := h, toks := tk }) :
    wpAny (model prog w) A (pyIter (.ref d)) (fun it s₂ => LoopAtV prog w A h₀ env x body Q E it s₂) E s := by
  have hml := hJl 0 news hj
  obtain ⟨ep, hm⟩ := (Heap.dictOf_iff.mpr ⟨o, (N _ hml).1, hd⟩ : s.heap.DictOf (intKind prog w) d kvs).dictAt
  have hne : d ≠ s.heap.objs.size := Nat.ne_of_lt (Heap.lt_size (N _ hml).1)
  refine wpAny_pyIter_dict lo hm ?_
  have W := Walks.dictKeys (prog := prog) (w := w) (knd := intKind prog w) hh s.heap.objs.size d hne kvs ep
  refine iter_coreX ys J W (fun i h st => let ⟨⟨o, ho, _⟩, _⟩ := st; ⟨o, ho⟩) ⟨⟨_, Heap.get?_push_size _ rfl, rfl, rfl⟩, hm.push _⟩ F N hJl hj (fun i v u news₁ h tk it hi hP => ?_) done
  obtain ⟨k, y, hk, hv⟩ := hP
  obtain ⟨t, rfl⟩ := Value.isInt_shape hv
  exact turn i k t u news₁ h tk it (by rw [List.getElem?_map, hk]; rfl)
end
end
section
set_option maxHeartbeats 8000000
theorem frag_on6 : (fun (_ : Params → Frag) => PySem.Challenge.rw_cy0005_01.Holds) KF → True := by
  k_fill
  intro _; trivial
/-! what of a node does not change once the graph stands -/
noncomputable def NI.st (x : NI) : NI := { x with np := 0, nptok := 0 }
theorem st_map {α : Type} (f : NI → α) (hf : ∀ x, f x.st = f x) {xs ys : List NI} (h : xs.map NI.st = ys.map NI.st) : xs.map f = ys.map f := by
  have : ∀ l : List NI, l.map f = (l.map NI.st).map f := fun l => by rw [List.map_map]; exact List.map_congr_left fun x _ => (hf x).symm
  rw [this xs, this ys, h]
theorem st_addr {xs ys : List NI} (h : xs.map NI.st = ys.map NI.st) : addrN xs = addrN ys := by
  have : ∀ l : List NI, addrN l = (l.map fun x => [x.info, x.dx, x.sl]).flatten := fun l => by unfold addrN; rw [List.flatMap_def]
  rw [this, this, st_map (fun x => [x.info, x.dx, x.sl]) (fun _ => rfl) h]
theorem st_kvs {xs ys : List NI} (h : xs.map NI.st = ys.map NI.st) : kvsN xs = kvsN ys := st_map (fun x => (x.node, Value.ref x.info)) (fun _ => rfl) h
theorem st_mem {xs ys : List NI} (h : xs.map NI.st = ys.map NI.st) {x : NI} (hx : x ∈ xs) : ∃ y ∈ ys, y.st = x.st := by
  have : x.st ∈ ys.map NI.st := h ▸ List.mem_map_of_mem hx
  obtain ⟨y, hy, e⟩ := List.mem_map.mp this
  exact ⟨y, hy, e⟩
theorem st_sv {x y : NI} (h : y.st = x.st) : y.sv = x.sv := (congrArg NI.sv h : y.st.sv = x.st.sv)
theorem st_node {x y : NI} (h : y.st = x.st) : y.node = x.node := (congrArg NI.node h : y.st.node = x.st.node)
theorem SOK.same {σ : Srt} {xs ys : List NI} {rest : List (Addr × Obj)} {n : Nat} (hs : SOK σ xs rest n) (h : ys.map NI.st = xs.map NI.st) : SOK σ ys rest n where
  nd := by have := hs.nd; unfold addrS at this ⊢; rw [st_addr h]; exact this
  off := by have := hs.off; unfold addrS at this ⊢; rw [st_addr h]; exact this
  keys := by rw [st_map (·.node) (fun _ => rfl) h]; exact hs.keys
  isi := by intro x hx; obtain ⟨y, hy, e⟩ := st_mem h hx; rw [← st_sv e]; exact hs.isi y hy
  len := by have := congrArg List.length h; simp only [List.length_map] at this; rw [this]; exact hs.len
  slen := by intro x hx; obtain ⟨y, hy, e⟩ := st_mem h hx; rw [← st_sv e]; exact hs.slen y hy
  lo := hs.lo
/-- the successors stand among the nodes, none is its own successor -/
noncomputable def Closed (xs : List NI) : Prop := ∀ x ∈ xs, ∀ v ∈ x.sv, intOf v ∈ xs.map (·.node) ∧ intOf v ≠ x.node
theorem Closed.same {xs ys : List NI} (hs : Closed xs) (h : ys.map NI.st = xs.map NI.st) : Closed ys := by
  intro x hx v hv
  obtain ⟨y, hy, e⟩ := st_mem h hx
  rw [← st_sv e] at hv
  rw [st_map (·.node) (fun _ => rfl) h, ← st_node e]
  exact hs y hy v hv
noncomputable def lookP (ps : List PN) (k : Int) : Option PN := ps.find? fun p => p.node = k
noncomputable def decP (st : List PN × List Int) (s : Int) : List PN × List Int :=
  (modP st.1 s fun p => { p with np := p.np - 1 }, if (lookP st.1 s).any (fun p => p.np - 1 = 0) then st.2 ++ [s] else st.2)
noncomputable def doneP (st : List PN × List Int) (k : Int) : List PN × List Int :=
  (((lookP st.1 k).map PN.succ).getD []).foldl decP (modP st.1 k fun p => { p with np := -2 }, st.2)
theorem lookP_map {xs : List NI} {x : NI} (hk : (xs.map (·.node)).Nodup) (hx : x ∈ xs) : lookP (xs.map NI.pn) x.node = some x.pn := by
  unfold lookP
  have h := find_of_mem hk hx
  rw [List.find?_map]
  have : (fun y : NI => decide (y.node = x.node)) = ((fun p : PN => decide (p.node = x.node)) ∘ NI.pn) := rfl
  rw [← this, h]; rfl
section
variable {w : World} {A₀ A : Around} {base h₀ : Heap} {outer : List Env} {env : Env} {L : Addr} {m mg mb : Str → Option Value} {p : Program} {loose : List Str} {mean : ExcName → Option Value} {s : Shared}
  {R : Result → Shared → Prop}
theorem led_np1 {σ : Srt} {rv po nf : Value} {oN : Obj} {pre post : List NI} {x : NI} {rest : List (Addr × Obj)} {h : Heap} {np : Int} {t : Tok}
    (N : News h₀ L h ((x.info, ⟨.ref 33, some x.dx, .plain, [some (.int x.node x.ntok), some (.int np t), some (.ref x.sl)].toArray⟩) :: (x.dx, dictOf [] 0) :: (x.sl, x.l) :: (σ.S, instObj 130 σ.D) :: (σ.D, σ.d w rv po nf) :: (σ.Nd, oN) :: restO pre post x rest)) :
    ∃ x2 : NI, (x2.st = x.st ∧ x2.np = np) ∧ News h₀ L h (ledS σ w rv po nf oN (pre ++ x2 :: post) rest) :=
  ⟨⟨x.info, x.dx, x.node, x.ntok, np, t, x.sl, x.sv, x.ep⟩, ⟨rfl, rfl⟩, led_shut N⟩
theorem st_put {pre post : List NI} {x x2 : NI} (h : x2.st = x.st) : (pre ++ x2 :: post).map NI.st = (pre ++ x :: post).map NI.st := by
  simp only [List.map_append, List.map_cons, h]
theorem pn_of {x x2 : NI} (h : x2.st = x.st) : x2.pn = { x.pn with np := x2.np } := by
  unfold NI.pn; rw [st_node h, st_sv h]
theorem led_np2 {σ : Srt} {rv po nf : Value} {oN oR : Obj} {Rl : Addr} {pre post : List NI} {x : NI} {rest : List (Addr × Obj)} {h : Heap} {np : Int} {t : Tok}
    (N : News h₀ L h ((Rl, oR) :: (x.info, ⟨.ref 33, some x.dx, .plain, [some (.int x.node x.ntok), some (.int np t), some (.ref x.sl)].toArray⟩) :: (x.dx, dictOf [] 0) :: (x.sl, x.l) :: (σ.S, instObj 130 σ.D) :: (σ.D, σ.d w rv po nf) :: (σ.Nd, oN) :: restO pre post x rest)) :
    ∃ x2 : NI, (x2.st = x.st ∧ x2.np = np) ∧ News h₀ L h ((Rl, oR) :: ledS σ w rv po nf oN (pre ++ x2 :: post) rest) :=
  ⟨⟨x.info, x.dx, x.node, x.ntok, np, t, x.sl, x.sv, x.ep⟩, ⟨rfl, rfl⟩, fun q hq => by
    rcases List.mem_cons.mp hq with rfl | hq
    · exact N _ (.head _)
    · exact led_shut (x := ⟨x.info, x.dx, x.node, x.ntok, np, t, x.sl, x.sv, x.ep⟩) (News.sub N fun q hq => .tail _ hq) q hq⟩
theorem decP_step {P Q : List NI} {y y2 : NI} {r : List Int} (hk : ((P ++ y :: Q).map (·.node)).Nodup) (h1 : y2.st = y.st) (h2 : y2.np = y.np - 1) :
    decP ((P ++ y :: Q).map NI.pn, r) y.node = ((P ++ y2 :: Q).map NI.pn, if y.np - 1 = 0 then r ++ [y.node] else r) := by
  unfold decP
  have e := modP_split (pre := P) (post := Q) (x := y) (x' := y2) (f := fun p => { p with np := p.np - 1 }) hk (by rw [pn_of h1, h2]; rfl)
  rw [lookP_map hk (by simp), ← e]
  have : (Option.any (fun p : PN => decide (p.np - 1 = 0)) (some y.pn)) = decide (y.np - 1 = 0) := rfl
  rw [this]
  by_cases h : y.np - 1 = 0 <;> simp [h]
theorem c_done {σ : Srt} {nf : Int} {po : Value} {t1 : Tok} {Rl : Addr} {rs vs : List Value} {ep : Nat} {oN : Obj} {xs : List NI} {rest : List (Addr × Obj)} {n : Nat}
    (hh : A.handled = none) (hfr : A.frames = some (env :: outer)) (hdp : A.depth < 800) (hf : env.frame = some L) (hke : env.scope.kind = .function)
    (B : Below A₀ base outer h₀) (X₀ : (KF w.params).In h₀) (T : Top p loose mean mg mb h₀) (F : Fr h₀ L s.heap m) (hri : ∀ v ∈ rs, IsI v) (hvi : ∀ v ∈ vs, IsI v)
    (hlen : rs.length + vs.length * n ≤ 1000000) (hlv : vs.length ≤ 10000) (hvm : ∀ v ∈ vs, intOf v ∈ xs.map (·.node))
    (hgo : ∀ i k, (vs.map intOf)[i]? = some k → ∀ p, lookP (((vs.map intOf).take i).foldl doneP (xs.map NI.pn, rs.map intOf)).1 k = some p → p.np = -1)
    (hs : SOK σ xs ((Rl, listOf rs.toArray ep) :: rest) n) (hcl : Closed xs) (hdN : oN.IsDictOf (intKind Pr w) (kvsN xs)) (hRr : ∀ q ∈ rest, q.1 ≠ Rl)
    (N : News h₀ L s.heap ((Rl, listOf rs.toArray ep) :: ledS σ w (.ref Rl) po (.int nf t1) oN xs rest))
    (hq : ∀ h' tk' ep' t' xs' (rs' : List Value), Fr h₀ L h' m → xs'.map NI.st = xs.map NI.st → (∀ v ∈ rs', IsI v) → (xs'.map NI.pn, rs'.map intOf) = (vs.map intOf).foldl doneP (xs.map NI.pn, rs.map intOf) →
      News h₀ L h' ((Rl, listOf rs'.toArray ep') :: ledS σ w (.ref Rl) po (.int (nf + vs.length) t') oN xs' rest) →
      R (.ok (.ret .none)) { s with heap := h', toks := tk' }) :
    codeAny (model Pr w) A (.call (.ref 113) ⟨.ref σ.S :: vs, []⟩) R s := by
  obtain ⟨_, d, _, gs, u⟩ := A
  dsimp only at hh hfr hdp
  subst hh hfr
  refine' kp_rest (vs := vs) (binds := fun D => [(Str.ofString "self", .ref σ.S), (Str.ofString "nodes", .ref D)]) (g₁ := fun D => some [(Str.ofString "self", .ref σ.S), (Str.ofString "nodes", .ref D)]) B F X₀ N T rfl hf hke ?k6 ?k7 ?k8 ?kV ?kP ?kG ?kB ?_ ?c2 ?c3 ?c4 ?c5
  case k6 => k_is
  case k7 => k_is
  case k8 => k_room
  case kV => exact rfl
  case kP =>
    unfold bindArgs
    dsimp only [List.map, List.length, List.append, List.zip, List.zipWith]
    rw [newTuple_eq]
    · cases vs <;> rfl
    · rw [sizeLine_eq]; show vs.length ≤ _; omega
  case kG => exact fun _ => rfl
  case kB => exact fun _ => locs rfl
  case c5 => decide
  case c2 => exact rfl
  case c3 => exact rfl
  case c4 => exact rfl
  intro D' g' L' h' l1 FG' F' N' B' X' T'
  (try dsimp only)
  (try k_fold)
  have hu' := l1
  have eR0 : ∀ a ∈ addrS σ xs, @Ne Nat a Rl := fun a ha e => hs.off a ha _ (.head _) e.symm
  (repeat' (((fail_if_success with_reducible first | show wpAny _ _ (call (Value.ref _) _ _) _ _ _ | show wpAny _ _ (exec (Stmt.For _ _ _ _ _) _) _ _ _ | show wpAny _ _ (exec (Stmt.While _ _ _ _) _) _ _ _ | show wpAny _ _ (pyIter _) _ _ _)); ((fail_if_success with_reducible first | show wpAny _ _ (call (Value.type "tuple") _ _) _ _ _)); ((first | (k_unfold; (try dsimp only)) | (k_end; wrow_close) | walk1 | (dsimp only; walk1) | (leave1; walk_say "STEP leave1"; try dsimp only) | fail "no step"))))
  rename News g' L' _ _ => N2
  rename Fr g' L' _ _ => F2
  refine For_invVF F2 rfl rfl ?_
  walk1
  refine iter_tupM (vs := vs) (ep := 0) [Str.ofString "nodeinfo", Str.ofString "stat", Str.ofString "successor", Str.ofString "successor_info"] (fun i nx => E4 fun xsi rsi epi ti => A5 (nx = (Rl, listOf rsi.toArray epi) :: ledS σ w (.ref Rl) po (.int (nf + i) ti) oN xsi rest) (xsi.map NI.st = xs.map NI.st) ((∀ v ∈ rsi, IsI v)) (rsi.length ≤ rs.length + i * n) ((xsi.map NI.pn, rsi.map intOf) = ((vs.map intOf).take i).foldl doneP (xs.map NI.pn, rs.map intOf))) rfl F2 N2 ?_ ⟨xs, rs, ep, t1, by simp, rfl, hri, by simp, rfl⟩ ?_ ?_
  · exact fun q hq e => absurd (l1 q hq) (e ▸ Nat.lt_irrefl _)
  · intro i v u' nx h3 tk3 it hv hI0 hoff F4 N4
    refine hide fun G hG => ?_
    obtain ⟨xsi, rsi, epi, ti, rfl, hsti, hrii, hrli, hpi⟩ := hI0
    refine hG ?_
    clear hG G
    have hi : i < vs.length := by
      rcases Nat.lt_or_ge i vs.length with h | h
      · exact h
      · rw [List.getElem?_eq_none h] at hv; cases hv
    have hvm' := List.mem_of_getElem? hv
    obtain ⟨vi, vt, rfl⟩ := hvi v hvm'
    have hsi := hs.same hsti
    have hcli := hcl.same hsti
    have hdi : oN.IsDictOf (intKind Pr w) (kvsN xsi) := by rw [st_kvs hsti]; exact hdN
    have hin : vi ∈ xsi.map (·.node) := by rw [st_map (·.node) (fun _ => rfl) hsti]; exact hvm _ hvm'
    obtain ⟨x5, hx5, hxk5⟩ := List.mem_map.mp hin
    have hnp : x5.np = -1 := by
      have h1 := lookP_map hsi.keys hx5
      rw [hxk5] at h1
      have h2 := hgo i vi (by rw [List.getElem?_map, hv]; rfl) x5.pn (by rw [← hpi]; exact h1)
      exact h2
    obtain ⟨pre5, post5, rfl⟩ := List.append_of_mem hx5
    have hse : SOK σ (pre5 ++ x5 :: post5) ([(D', tupOf vs.toArray 0), it] ++ (Rl, listOf rsi.toArray epi) :: rest) n := (hsi.sub fun q hq => by
        rcases List.mem_cons.mp hq with rfl | hq
        · exact ⟨_, .head _, rfl⟩
        · exact ⟨q, .tail _ hq, rfl⟩ : SOK σ (pre5 ++ x5 :: post5) ((Rl, listOf rsi.toArray epi) :: rest) n).ext (fun a ha => by
      obtain ⟨q, h1, h2⟩ := addrS_led (w := w) (rv := .ref Rl) (po := po) (nf := .int (nf + i) ti) (oN := oN) (rest := rest) a ha
      exact ⟨q, .tail _ h1, h2⟩) hoff
    obtain ⟨q0, q0', q1, q2, q3, q4, q5, q6, q7, q8, q9, q10, r1, r2, r3, r4, r5⟩ := hse.dst
    replace N4 : News g' L' h3 (ledS σ w (.ref Rl) po (.int (nf + i) ti) oN (pre5 ++ x5 :: post5) ([(D', tupOf vs.toArray 0), it] ++ (Rl, listOf rsi.toArray epi) :: rest)) := News.sub N4 (by walk_at "sub")
    replace N4 := led_open N4
    obtain ⟨ro, hro⟩ : ∃ ro, restO pre5 post5 x5 ([(D', tupOf vs.toArray 0), it] ++ (Rl, listOf rsi.toArray epi) :: rest) = ro := ⟨_, rfl⟩
    rw [hro] at r1 r2 r3 r4 r5
    replace N4 : News g' L' h3 ((x5.info, ⟨.ref 33, some x5.dx, .plain, [some (.int x5.node x5.ntok), some (.int (-1) x5.nptok), some (.ref x5.sl)].toArray⟩) :: (x5.dx, dictOf [] 0) :: (x5.sl, x5.l) :: (σ.S, instObj 130 σ.D) :: (σ.D, σ.d w (.ref Rl) po (.int (nf + i) ti)) :: (σ.Nd, oN) :: ro) := by rw [← hnp, ← hro]; exact N4
    refine wpAny_boxed _ (fun _ _ x => x) fun PQ hPQ => ?_
    (repeat' (((fail_if_success with_reducible first | show wpAny _ _ (call (Value.ref _) _ _) _ _ _ | show wpAny _ _ (exec (Stmt.For _ _ _ _ _) _) _ _ _ | show wpAny _ _ (exec (Stmt.While _ _ _ _) _) _ _ _ | show wpAny _ _ (pyIter _) _ _ _)); ((fail_if_success with_reducible first | show wpAny _ _ (call (Value.type "tuple") _ _) _ _ _)); ((first | (k_unfold; (try dsimp only)) | (k_end; wrow_close) | walk1 | (dsimp only; walk1) | (leave1; walk_say "STEP leave1"; try dsimp only) | fail "no step"))))
    refine kdg_get1 (knd := intKind _ _) (by assumption) (by k_mem) hdi hs.lo (intKind_is _ _ _ _) _ (value_of_mem hsi.keys hx5 hxk5) ?_
    dsimp only [Option.getD]
    (repeat' (((fail_if_success with_reducible first | show wpAny _ _ (call (Value.ref _) _ _) _ _ _ | show wpAny _ _ (exec (Stmt.For _ _ _ _ _) _) _ _ _ | show wpAny _ _ (exec (Stmt.While _ _ _ _) _) _ _ _ | show wpAny _ _ (pyIter _) _ _ _)); ((fail_if_success with_reducible first | show wpAny _ _ (call (Value.type "tuple") _ _) _ _ _)); ((first | (k_unfold; (try dsimp only)) | (k_end; wrow_close) | walk1 | (dsimp only; walk1) | (leave1; walk_say "STEP leave1"; try dsimp only) | fail "no step"))))
    rename News g' L' _ _ => N6
    rename Fr g' L' _ _ => F6
    subst hro
    refine hide fun G hG => ?_
    obtain ⟨x6, ⟨z1, z4⟩, N7⟩ := led_np1 N6
    refine hG ?_
    clear hG G
    have hst6 : (pre5 ++ x6 :: post5).map NI.st = xs.map NI.st := (st_put z1).trans hsti
    have hp6 : (pre5 ++ x6 :: post5).map NI.pn = modP ((pre5 ++ x5 :: post5).map NI.pn) vi fun p => { p with np := -2 } := by
      rw [modP_split (x := x5) (f := fun p => { p with np := -2 }) hsi.keys (by rw [pn_of z1, z4]), hxk5]
    have hx6 : x6 ∈ pre5 ++ x6 :: post5 := by simp
    have e6 : x6.info = x5.info := (congrArg NI.info z1 : x6.st.info = x5.st.info)
    rw [← e6] at F6
    generalize hxs6 : pre5 ++ x6 :: post5 = xs6 at *
    have N8 := N7
    rw [← hxs6] at N8
    replace N8 := led_open N8
    clear N6
    refine For_invVF F6 rfl rfl ?_
    (repeat' (((fail_if_success with_reducible first | show wpAny _ _ (call (Value.ref _) _ _) _ _ _ | show wpAny _ _ (exec (Stmt.For _ _ _ _ _) _) _ _ _ | show wpAny _ _ (exec (Stmt.While _ _ _ _) _) _ _ _ | show wpAny _ _ (pyIter _) _ _ _)); ((fail_if_success with_reducible first | show wpAny _ _ (call (Value.type "tuple") _ _) _ _ _)); ((first | (k_unfold; (try dsimp only)) | (k_end; wrow_close) | walk1 | (dsimp only; walk1) | (leave1; walk_say "STEP leave1"; try dsimp only) | fail "no step"))))
    have dR : @Ne Nat D' Rl := fun e => hoff _ (.head _) _ (.head _) e.symm
    have iR : @Ne Nat it.1 Rl := fun e => hoff _ (.head _) _ (.tail _ (.head _)) e.symm
    have hs6 : SOK σ xs6 ((Rl, listOf rsi.toArray epi) :: ([(D', tupOf vs.toArray 0), it] ++ rest)) n := (hse.same (hst6.trans hsti.symm)).sub fun q hq => ⟨q, by
      simp only [List.mem_cons, List.mem_append, List.not_mem_nil, or_false] at hq ⊢; grind, rfl⟩
    refine iter_listX (l := x6.sl) (vs := x6.sv) (ep := x6.ep) [Str.ofString "successor_info"] (fun j nx => E3 fun xsj rsj epj => A5 (nx = (Rl, listOf rsj.toArray epj) :: ledS σ w (.ref Rl) po (.int (nf + i) ti) oN xsj ([(D', tupOf vs.toArray 0), it] ++ rest)) (xsj.map NI.st = xs6.map NI.st) ((∀ v ∈ rsj, IsI v)) (rsj.length ≤ rsi.length + j) ((xsj.map NI.pn, rsj.map intOf) = ((x6.sv.map intOf).take j).foldl decP (xs6.map NI.pn, rsi.map intOf))) rfl F6
      (news := (Rl, listOf rsi.toArray epi) :: ledS σ w (.ref Rl) po (.int (nf + i) ti) oN xs6 ([(D', tupOf vs.toArray 0), it] ++ rest)) (News.sub N7 ?_) ?_ ⟨xs6, rsi, epi, rfl, rfl, hrii, Nat.le_refl _, rfl⟩ ?_ ?_
    · walk_at "sub"
    · rintro j nx ⟨xsj, rsj, epj, rfl, hstj, _, _, _⟩
      obtain ⟨y, hy, e⟩ := st_mem hstj.symm hx6
      have : (x6.sl, listOf x6.sv.toArray x6.ep) ∈ ledN xsj := by
        unfold ledN
        refine List.mem_flatMap.mpr ⟨y, hy, ?_⟩
        have e1 : y.sl = x6.sl := (congrArg NI.sl e : y.st.sl = x6.st.sl)
        have e2 : y.ep = x6.ep := (congrArg NI.ep e : y.st.ep = x6.st.ep)
        simp only [NI.led, NI.l, e1, e2, st_sv e, List.mem_cons, true_or, or_true]
      simp only [ledS, List.mem_cons, List.mem_append]
      exact .inr (.inr (.inr (.inr (.inl this))))
    · intro j v2 u2 nx h7 tk7 it2 hv2 hI0 hoff2 F9 N9
      refine hide fun G hG => ?_
      obtain ⟨xsj, rsj, epj, rfl, hstj, hrij, hrlj, hpj⟩ := hI0
      refine hG ?_
      clear hG G
      have hv2m := List.mem_of_getElem? hv2
      obtain ⟨wi, wt, rfl⟩ := hs6.isi x6 hx6 v2 hv2m
      have hcl6 := hcl.same hst6
      have hin2 : wi ∈ xsj.map (·.node) := by rw [st_map (·.node) (fun _ => rfl) hstj]; exact (hcl6 x6 hx6 _ hv2m).1
      obtain ⟨y, hy, hyk⟩ := List.mem_map.mp hin2
      have hsj : SOK σ xsj ([it2] ++ ((Rl, listOf rsj.toArray epj) :: ([(D', tupOf vs.toArray 0), it] ++ rest))) n := ((hs6.same hstj).sub (fun q hq => by
        rcases List.mem_cons.mp hq with rfl | hq
        · exact ⟨_, .head _, rfl⟩
        · exact ⟨q, .tail _ hq, rfl⟩) : SOK σ xsj ((Rl, listOf rsj.toArray epj) :: ([(D', tupOf vs.toArray 0), it] ++ rest)) n).ext (fun a ha => by
          obtain ⟨q, h1, h2⟩ := addrS_led (w := w) (rv := .ref Rl) (po := po) (nf := .int (nf + i) ti) (oN := oN) (rest := [(D', tupOf vs.toArray 0), it] ++ rest) a ha
          exact ⟨q, .tail _ h1, h2⟩) hoff2
      have hdj : oN.IsDictOf (intKind Pr w) (kvsN xsj) := by rw [st_kvs hstj, st_kvs hst6]; exact hdN
      obtain ⟨P, Q, rfl⟩ := List.append_of_mem hy
      obtain ⟨q0, q0', q1, q2, q3, q4, q5, q6, q7, q8, q9, q10, r1, r2, r3, r4, r5⟩ := hsj.dst
      have eR : ∀ a ∈ addrS σ (P ++ y :: Q), @Ne Nat a Rl := fun a ha e => hsj.off a ha _ (.tail _ (.head _)) e.symm
      have g1 := eR σ.S (by unfold addrS; simp)
      have g2 := eR σ.D (by unfold addrS; simp)
      have g3 := eR σ.Nd (by unfold addrS; simp)
      have g4 := eR y.info (by unfold addrS; rw [addrN_app, addrN_cons]; simp)
      have g5 := eR y.dx (by unfold addrS; rw [addrN_app, addrN_cons]; simp)
      have g6 := eR y.sl (by unfold addrS; rw [addrN_app, addrN_cons]; simp)
      have iR2 : @Ne Nat it2.1 Rl := fun e => hoff2 _ (.head _) _ (.head _) e.symm
      have rS : ∀ q ∈ restO P Q y ([it2] ++ ([(D', tupOf vs.toArray 0), it] ++ rest)), q ∈ restO P Q y ([it2] ++ ((Rl, listOf rsj.toArray epj) :: ([(D', tupOf vs.toArray 0), it] ++ rest))) := by
        intro q hq; simp only [restO, List.mem_cons, List.mem_append, List.not_mem_nil, or_false] at hq ⊢; grind
      have rR : ∀ q ∈ restO P Q y ([it2] ++ ([(D', tupOf vs.toArray 0), it] ++ rest)), q.1 ≠ Rl := by
        intro q hq
        simp only [restO, List.mem_cons, List.mem_append, List.not_mem_nil, or_false] at hq
        rcases hq with h | h | rfl | (rfl | rfl) | h
        · exact eR _ (by unfold addrS; rw [addrN_app, ← map_ledN P]; simp only [List.mem_cons, List.mem_append]; exact .inr (.inr (.inr (.inl (List.mem_map_of_mem h)))))
        · exact eR _ (by unfold addrS; rw [addrN_app, addrN_cons, ← map_ledN Q]; simp only [List.mem_cons, List.mem_append]; exact .inr (.inr (.inr (.inr (.inr (.inr (.inr (List.mem_map_of_mem h)))))))) 
        · exact iR2
        · exact dR
        · exact iR
        · exact hRr q h
      replace r1 : ∀ q ∈ restO P Q y ([it2] ++ ([(D', tupOf vs.toArray 0), it] ++ rest)), q.1 ≠ y.info := fun q hq => r1 q (rS q hq)
      have N10 : News g' L' h7 ((Rl, listOf rsj.toArray epj) :: ledO σ w (.ref Rl) po (.int (nf + i) ti) oN y (restO P Q y ([it2] ++ ([(D', tupOf vs.toArray 0), it] ++ rest)))) := News.sub N9 fun q hq => by
        simp only [ledS, ledO, restO, ledN_app, ledN_cons, NI.led, List.mem_cons, List.mem_append, List.not_mem_nil, or_false] at hq ⊢; grind
      clear N9 r2 r3 r4 r5 N7 N8 hu' rS
      obtain ⟨ro, hro⟩ : ∃ ro, restO P Q y ([it2] ++ ([(D', tupOf vs.toArray 0), it] ++ rest)) = ro := ⟨_, rfl⟩
      rw [hro] at N10 r1 rR
      have hval := value_of_mem hsj.keys hy hyk
      have hsz : rsj.length ≤ 16000000 := by
        have := hs6.slen x6 hx6
        have hj : j < x6.sv.length := by
          rcases Nat.lt_or_ge j x6.sv.length with h | h
          · exact h
          · rw [List.getElem?_eq_none h] at hv2; cases hv2
        have h1 : i * n + n ≤ vs.length * n := by have := Nat.mul_le_mul_right n hi; rw [Nat.succ_mul] at this; exact this
        omega
      have fin : ∀ (h' : Heap) (y2 : NI) (rs2 : List Value) (ep2 : Nat), y2.st = y.st → y2.np = y.np - 1 → (∀ v ∈ rs2, IsI v) → rs2.length ≤ rsj.length + 1 → rs2.map intOf = (if y.np - 1 = 0 then rsj.map intOf ++ [wi] else rsj.map intOf) →
          News g' L' h' ((Rl, listOf rs2.toArray ep2) :: ledS σ w (.ref Rl) po (.int (nf + i) ti) oN (P ++ y2 :: Q) ([it2] ++ ([(D', tupOf vs.toArray 0), it] ++ rest))) →
          ∃ nx, News g' L' h' (nx ++ [it2]) ∧ (∀ p ∈ nx, ∀ q ∈ [it2], p.1 ≠ q.1) ∧ E3 fun (xsj : List NI) (rsj : List Value) (epj : Nat) => A5 (nx = (Rl, listOf rsj.toArray epj) :: ledS σ w (.ref Rl) po (.int (nf + i) ti) oN xsj ([(D', tupOf vs.toArray 0), it] ++ rest)) (xsj.map NI.st = xs6.map NI.st) ((∀ v ∈ rsj, IsI v)) (rsj.length ≤ rsi.length + (j + 1)) ((xsj.map NI.pn, rsj.map intOf) = ((x6.sv.map intOf).take (j + 1)).foldl decP (xs6.map NI.pn, rsi.map intOf)) := by
        intro h' y2 rs2 ep2 e1 e2 e3 e4 e5 Nx
        refine ⟨(Rl, listOf rs2.toArray ep2) :: ledS σ w (.ref Rl) po (.int (nf + i) ti) oN (P ++ y2 :: Q) ([(D', tupOf vs.toArray 0), it] ++ rest), News.sub Nx ?_, ?_, _, _, _, rfl, (st_put e1).trans hstj, e3, by omega, ?_⟩
        · walk_at "sub"
        · intro q hq r hr
          rw [List.mem_singleton.mp hr]
          rcases List.mem_cons.mp hq with rfl | hq
          · exact iR2.symm
          · rcases inL q hq with h | h
            · obtain ⟨q', h1, h2⟩ := addrS_led (w := w) (rv := .ref Rl) (po := po) (nf := .int (nf + i) ti) (oN := oN) (rest := [(D', tupOf vs.toArray 0), it] ++ rest) (xs := P ++ y :: Q) q.1 (by unfold addrS at h ⊢; rw [← st_addr (st_put e1)]; exact h)
              rw [← h2]; exact hoff2 q' (.tail _ h1) _ (.head _)
            · exact hoff2 q (by simp only [ledS, List.mem_cons, List.mem_append] at h ⊢; exact .inr (.inr (.inr (.inr (.inr h))))) _ (.head _)
        · rw [List.take_add_one, List.getElem?_map, hv2]
          simp only [Option.map, Option.toList, List.foldl_append, List.foldl_cons, List.foldl_nil, intOf]
          rw [← hpj, ← hyk, decP_step hsj.keys e1 e2, e5, hyk]
      clear hq hgo hcli hlen hlv hvm hri hvi hRr hrii hrli hi hvm' hnp hpi hse hsti hp6 hst6 e6 z1 z4 hs6 hrlj hpj hstj hoff2 hcl6 hin2 hv2m eR hsj hin hxk5 hv hv2 hcl hdi hx5 hoff eR0 l1 N
      clear hPQ
      refine wpAny_boxed _ (fun _ _ x => x) fun PQ2 hPQ2 => ?_
      (repeat' (((fail_if_success with_reducible first | show wpAny _ _ (call (Value.ref _) _ _) _ _ _ | show wpAny _ _ (exec (Stmt.For _ _ _ _ _) _) _ _ _ | show wpAny _ _ (exec (Stmt.While _ _ _ _) _) _ _ _ | show wpAny _ _ (pyIter _) _ _ _)); ((fail_if_success with_reducible first | show wpAny _ _ (call (Value.type "tuple") _ _) _ _ _)); ((first | (k_unfold; (try dsimp only)) | (k_end; wrow_close) | walk1 | (dsimp only; walk1) | (leave1; walk_say "STEP leave1"; try dsimp only) | fail "no step"))))
      refine kda_item (knd := intKind _ _) (by assumption) (by k_mem) hdj (intKind_is _ _ _ _) hval ?_
      (repeat' (((fail_if_success with_reducible first | show wpAny _ _ (call (Value.ref _) _ _) _ _ _ | show wpAny _ _ (exec (Stmt.For _ _ _ _ _) _) _ _ _ | show wpAny _ _ (exec (Stmt.While _ _ _ _) _) _ _ _ | show wpAny _ _ (pyIter _) _ _ _)); ((fail_if_success with_reducible first | show wpAny _ _ (call (Value.type "tuple") _ _) _ _ _)); ((first | (k_unfold; (try dsimp only)) | (k_end; wrow_close) | walk1 | (dsimp only; walk1) | (leave1; walk_say "STEP leave1"; try dsimp only) | fail "no step"))))
      · rename News g' L' _ _ => N8
        rename Fr g' L' _ _ => F8
        subst hro
        rw [List.push_toArray] at N8
        refine hide fun G hG => ?_
        obtain ⟨y2, ⟨z1', z4'⟩, N9⟩ := led_np2 N8
        refine hG ?_
        clear hG G
        rename y.np - 1 = 0 => hz
        have hI : ∀ v ∈ rsj ++ [Value.int wi wt], IsI v := by
          intro v hv
          rcases List.mem_append.mp hv with h | h
          · exact hrij v h
          · rw [List.mem_singleton.mp h]; exact ⟨_, _, rfl⟩
        refine hide fun G hG => ?_
        obtain ⟨nx, n1, n2, n3⟩ := fin _ y2 _ _ z1' z4' hI (by simp) (by rw [if_pos hz]; simp [intOf]) N9
        refine hG ?_
        clear hG G
        refine hPQ2 _ _ ⟨_, _, _, nx, rfl, F8, n1, n2, ?_, n3⟩
        intro y h1 h2
        have h3 : y ≠ Str.ofString "successor_info" := by intro e; subst e; revert h2; decide
        simp only [if_neg h1, if_neg h3, h2, Bool.false_eq_true, if_false]
      · rename News g' L' _ _ => N8
        rename Fr g' L' _ _ => F8
        subst hro
        refine hide fun G hG => ?_
        obtain ⟨y2, ⟨z1', z4'⟩, N9⟩ := led_np2 N8
        refine hG ?_
        clear hG G
        rename ¬ y.np - 1 = 0 => hz
        refine hide fun G hG => ?_
        obtain ⟨nx, n1, n2, n3⟩ := fin _ y2 _ _ z1' z4' hrij (by omega) (by rw [if_neg hz]) N9
        refine hG ?_
        clear hG G
        refine hPQ2 _ _ ⟨_, _, _, nx, rfl, F8, n1, n2, ?_, n3⟩
        intro y h1 h2
        have h3 : y ≠ Str.ofString "successor_info" := by intro e; subst e; revert h2; decide
        simp only [if_neg h1, if_neg h3, h2, Bool.false_eq_true, if_false]
    · intro u2 nx h7 tk7 hI0 F9 N9
      refine hide fun G hG => ?_
      obtain ⟨xsj, rsj, epj, rfl, hstj, hrij, hrlj, hpj⟩ := hI0
      refine hG ?_
      clear hG G
      dsimp only
      have hsj : SOK σ xsj ((Rl, listOf rsj.toArray epj) :: ([(D', tupOf vs.toArray 0), it] ++ rest)) n := (hs6.same hstj).sub fun q hq => by
        rcases List.mem_cons.mp hq with rfl | hq
        · exact ⟨_, .head _, rfl⟩
        · exact ⟨q, .tail _ hq, rfl⟩
      have nd := hsj.nd
      unfold addrS at nd
      simp only [List.nodup_cons, List.mem_cons, not_or] at nd
      have f1 : @Ne Nat σ.S σ.D := nd.1.1
      have f2 : @Ne Nat σ.D σ.Nd := nd.2.1.1
      have f3 : @Ne Nat Rl σ.D := hsj.off σ.D (by unfold addrS; simp) _ (.head _)
      have f4 : ∀ q ∈ ledN xsj ++ ([(D', tupOf vs.toArray 0), it] ++ rest), q.1 ≠ σ.D := fun q hq => by
        rcases List.mem_append.mp hq with h | h
        · exact fun e => nd.2.1.2 (by rw [← e, ← map_ledN]; exact List.mem_map_of_mem h)
        · exact hsj.off σ.D (by unfold addrS; simp) q (.tail _ h)
      obtain ⟨ro, hro⟩ : ∃ ro, ledN xsj ++ ([(D', tupOf vs.toArray 0), it] ++ rest) = ro := ⟨_, rfl⟩
      rw [hro] at f4
      replace N9 : News g' L' h7 ((Rl, listOf rsj.toArray epj) :: (σ.S, instObj 130 σ.D) :: (σ.D, σ.d w (.ref Rl) po (.int (nf + i) ti)) :: (σ.Nd, oN) :: ro) := hro ▸ N9
      (repeat' (((fail_if_success with_reducible first | show wpAny _ _ (call (Value.ref _) _ _) _ _ _ | show wpAny _ _ (exec (Stmt.For _ _ _ _ _) _) _ _ _ | show wpAny _ _ (exec (Stmt.While _ _ _ _) _) _ _ _ | show wpAny _ _ (pyIter _) _ _ _)); ((fail_if_success with_reducible first | show wpAny _ _ (call (Value.type "tuple") _ _) _ _ _)); ((first | (k_unfold; (try dsimp only)) | (k_end; wrow_close) | walk1 | (dsimp only; walk1) | (leave1; walk_say "STEP leave1"; try dsimp only) | fail "no step"))))
      rename News g' L' _ _ => N10
      rename Fr g' L' _ _ => F10
      subst hro
      obtain ⟨tt, N11⟩ : ∃ tt, News g' L' _ ((Rl, listOf rsj.toArray epj) :: (σ.S, instObj 130 σ.D) :: (σ.D, σ.d w (.ref Rl) po (.int (nf + i + 1) tt)) :: (σ.Nd, oN) :: (ledN xsj ++ ([(D', tupOf vs.toArray 0), it] ++ rest))) := ⟨_, N10⟩
      refine hPQ _ _ ⟨_, _, _, (Rl, listOf rsj.toArray epj) :: ledS σ w (.ref Rl) po (.int (nf + i + 1) tt) oN xsj rest, rfl, F10, News.sub N11 ?_, ?_, ?_, xsj, rsj, epj, _, by rw [Int.add_assoc]; rfl, hstj.trans hst6, hrij, ?_, ?_⟩
      · walk_at "sub"
      · intro q hq r hr
        rcases List.mem_cons.mp hq with rfl | hq
        · exact hoff (Rl, listOf rsi.toArray epi) (.head _) r hr
        · rcases inL q hq with h | h
          · obtain ⟨q', h1, h2⟩ := addrS_led (w := w) (rv := .ref Rl) (po := po) (nf := .int (nf + i) ti) (oN := oN) (rest := rest) (xs := pre5 ++ x5 :: post5) q.1 (by unfold addrS at h ⊢; rw [st_addr (hsti.trans (hstj.trans hst6).symm)]; exact h)
            rw [← h2]; exact hoff q' (.tail _ h1) r hr
          · exact hoff q (by simp only [ledS, List.mem_cons, List.mem_append] at h ⊢; exact .inr (.inr (.inr (.inr (.inr h))))) r hr
      · intro y h1 h2
        have h3 : y ≠ Str.ofString "successor_info" := by intro e; subst e; revert h2; decide
        have h4 : y ≠ Str.ofString "successor" := by intro e; subst e; revert h2; decide
        have h5 : y ≠ Str.ofString "stat" := by intro e; subst e; revert h2; decide
        have h6 : y ≠ Str.ofString "nodeinfo" := by intro e; subst e; revert h2; decide
        have h7 : [Str.ofString "successor_info"].contains y = false := by
          simp only [List.contains_cons, List.contains_nil, Bool.or_false, beq_eq_false_iff_ne]; exact h3
        simp only [if_neg h1, if_neg h3, if_neg h4, if_neg h5, if_neg h6, h2, h7, Bool.false_eq_true, if_false]
      · have h1 := hs6.slen x6 hx6
        rw [Nat.succ_mul]; omega
      · rw [hpj, List.take_of_length_le (by simp), List.take_add_one, List.getElem?_map, hv]
        simp only [Option.map, Option.toList, List.foldl_append, List.foldl_cons, List.foldl_nil, intOf]
        rw [← hpi]
        unfold doneP
        have hl : lookP ((pre5 ++ x5 :: post5).map NI.pn) vi = some x5.pn := hxk5 ▸ lookP_map hsi.keys hx5
        have hsv : x6.sv = x5.sv := st_sv z1
        simp only [hl, Option.map_some, Option.getD_some, hp6, hsv]
        rfl
  · intro u' nx h3 tk3 hI0 hoff F4 N4
    refine hide fun G hG => ?_
    obtain ⟨xsi, rsi, epi, ti, rfl, hsti, hrii, hrli, hpi⟩ := hI0
    refine hG ?_
    clear hG G
    dsimp only
    (repeat' (((fail_if_success with_reducible first | show wpAny _ _ (call (Value.ref _) _ _) _ _ _ | show wpAny _ _ (exec (Stmt.For _ _ _ _ _) _) _ _ _ | show wpAny _ _ (exec (Stmt.While _ _ _ _) _) _ _ _ | show wpAny _ _ (pyIter _) _ _ _)); ((fail_if_success with_reducible first | show wpAny _ _ (call (Value.type "tuple") _ _) _ _ _)); ((first | (k_unfold; (try dsimp only)) | (k_end; wrow_close) | walk1 | (dsimp only; walk1) | (leave1; walk_say "STEP leave1"; try dsimp only) | fail "no step"))))
    rename News h₀ L _ _ => N9
    exact hq _ _ epi ti xsi rsi (by assumption) hsti hrii (by rw [hpi, List.take_of_length_le (by simp)]) (News.sub N9 fun q hq => .tail _ hq)
end
end
section
set_option maxHeartbeats 1000000
open PySem PySem.Calls PySem.W Builtin Builtin.ObjectAttr
theorem nx_slot_ga : Slot "list_iterator" "__getattribute__" "object.__getattribute__" :=
  .of (owner := "object") (n := "__getattribute__") (by rw [typeLookup_type, builtinLookup_eq_fast]; kernel_rfl) (by decide +kernel) (by decide +kernel) (by decide +kernel)
    (by first | exact .inl (by decide +kernel) | exact .inr (by decide +kernel)) (by rw [isSubtype_type]; kernel_rfl)
theorem nx_lookup : typeLookup (.type "list_iterator") "__next__" = pure (some (.builtin "list_iterator.__next__")) := by rw [typeLookup_type, builtinLookup_eq_fast]; kernel_rfl
theorem nx_type : typeOf (.builtin "list_iterator.__next__") = pure (.type "wrapper_descriptor") := by show builtinType _ = _; rw [builtinType_eq_fast]; kernel_rfl
theorem nx_get : Slot "wrapper_descriptor" "__get__" "wrapper_descriptor.__get__" :=
  .of (owner := "wrapper_descriptor") (n := "__get__") (by rw [typeLookup_type, builtinLookup_eq_fast]; kernel_rfl) (by decide +kernel) (by decide +kernel) (by decide +kernel)
    (by first | exact .inl (by decide +kernel) | exact .inr (by decide +kernel)) (by rw [isSubtype_type]; kernel_rfl)
theorem nx_set : typeLookup (.type "wrapper_descriptor") "__set__" = pure none := by rw [typeLookup_type, builtinLookup_eq_fast]; kernel_rfl
theorem nx_del : typeLookup (.type "wrapper_descriptor") "__delete__" = pure none := by rw [typeLookup_type, builtinLookup_eq_fast]; kernel_rfl
theorem nx_hook : typeLookup (.type "list_iterator") "__getattr__" = pure none := by rw [typeLookup_type, builtinLookup_eq_fast]; kernel_rfl
theorem nx_entry_ga : entryFor table "object.__getattribute__" = some Builtin.«object.__getattribute__» := entryFor_of_tree (by kernel_rfl)
theorem nx_args_ga (a b : Value) : argsOk "object.__getattribute__" ⟨[a, b], []⟩ := by unfold argsOk; kernel_rfl
theorem nx_entry_get : entryFor table "wrapper_descriptor.__get__" = some Builtin.«wrapper_descriptor.__get__» := entryFor_of_tree (by kernel_rfl)
theorem nx_args_get (a b c : Value) : argsOk "wrapper_descriptor.__get__" ⟨[a, b, c], []⟩ := by unfold argsOk; kernel_rfl
theorem nx_sub : isSubtype (.type "list_iterator") (.type "list_iterator") = pure true := by rw [isSubtype_type]; kernel_rfl
noncomputable abbrev wrapObj (it : Addr) : Obj := { cls := .type "method-wrapper", data := .fields #[.builtin "list_iterator.__next__", .ref it] }
noncomputable abbrev iterObj (l : Addr) (i : Nat) : Obj := { cls := .type "list_iterator", data := .fields #[.ref l, .int i 0] }
theorem nx_run_get {M : Model} {A : Around} {E : Value → Shared → Prop} {s : Shared} {it l : Addr} {i : Nat} {P : Fin → Shared → Prop} (hit : s.heap.get? it = some (iterObj l i))
    (h : P (.done (.ret (.ref s.heap.objs.size))) { s with heap := s.heap.push (wrapObj it) }) :
    wpAny M A (Builtin.«wrapper_descriptor.__get__» ⟨[.builtin "list_iterator.__next__", .ref it, .type "list_iterator"], []⟩) P E s := by
  obtain ⟨hp, g, d, tk, os⟩ := s
  have hT : (⟨hp, g, d, tk, os⟩ : Shared).TypeIs (.ref it) "list_iterator" := ⟨_, hit, rfl⟩
  have f1 := nx_sub
  have f2 : ".".intercalate ("list_iterator.__next__".cutAt '.').dropLast = "list_iterator" := by decide +kernel
  unfold Builtin.«wrapper_descriptor.__get__»
  repeat (any_goals (first | assumption | wp_step))
  rw [f2]
  repeat (any_goals (first | assumption | wp_step))
theorem nx_getattribute (it l : Addr) (i : Nat) (u : Tok) :
    Meets (Builtin.«object.__getattribute__» ⟨[.ref it, .str (Str.ofString "__next__") u], []⟩) (fun _ R s => s.heap.get? it = some (iterObj l i) ∧ R (.ok (.ret (.ref s.heap.objs.size))) { s with heap := s.heap.push (wrapObj it) }) :=
  Meets.of_wp fun prog w A R s hs => by
    obtain ⟨hp, g, d, tk, os⟩ := s
    obtain ⟨hx, hs⟩ := hs
    have hT : (⟨hp, g, d, tk, os⟩ : Shared).TypeIs (.ref it) "list_iterator" := ⟨_, hx, rfl⟩
    have f1 := nx_lookup
    have f2 := nx_type
    have f3 := nx_get.lookup
    have f4 := nx_set
    have f5 := nx_del
    unfold Builtin.«object.__getattribute__»
    repeat (any_goals (first | assumption | ((with_reducible show wpAny _ _ (call (Value.builtin "wrapper_descriptor.__get__") _ _) _ _ _); refine wpAny_call_entry nx_get nx_type nx_entry_get (nx_run_get hx ⟨_, rfl, ?_⟩) (nx_args_get _ _ _)) | wp_step))
    exact ⟨_, rfl, hs⟩
theorem nx_attr {prog : Program} {w : World} {A : Around} {E : Value → Shared → Prop} {s : Shared} {it l : Addr} {i : Nat} {Q : Value → Shared → Prop} (hx : s.heap.get? it = some (iterObj l i))
    (h : Q (.ref s.heap.objs.size) { s with heap := s.heap.push (wrapObj it), toks := s.toks + 1 }) : wpAny (model prog w) A (getAttr (.ref it) (Str.ofString "__next__") true) Q E s := by
  obtain ⟨hp, g, d, tk, os⟩ := s
  have hT : ∀ tk', (⟨hp, g, d, tk', os⟩ : Shared).TypeIs (.ref it) "list_iterator" := fun _ => ⟨_, hx, rfl⟩
  have f3 := nx_slot_ga.lookup
  have f4 := nx_slot_ga.bind (.ref it)
  have f5 := nx_hook
  unfold getAttr getAttrBy
  repeat (any_goals (first | assumption | exact hT _ | ((with_reducible show wpAny _ _ (call (Value.builtin "object.__getattribute__") _ _) _ _ _); refine call_meets nx_slot_ga (hT _) nx_entry_ga (nx_args_ga _ _) (nx_getattribute it l i _) ⟨hx, ?_⟩) | wp_step))
  exact wpAny_pure h
theorem nx_check (it : Addr) : checkBoundCall "list_iterator.__next__" ⟨[.ref it], []⟩ = pure () := by kernel_rfl
theorem nx_quiet (as : Args) : (Code.builtin "list_iterator.__next__" as).quiet = true := Code.quiet_builtin _ (by decide +kernel)
theorem nx_plain : plainId "list_iterator.__next__" = true := by decide +kernel
theorem nx_enter {prog : Program} {w : World} {A : Around} {R : Result → Shared → Prop} {s : Shared} {W it : Addr} (hw : s.heap.get? W = some (wrapObj it))
    (h : wpAny (model prog w) A.in1 (Builtin.«list_iterator.__next__» ⟨[.ref it], []⟩) (fun fin s' => match fin with | .done f => R (.ok f) s' | .again c' => c'.quiet = true ∧ codeAny (model prog w) A c' R s') (fun e s' => R (.error e) s') s) :
    codeAny (model prog w) A (.call (.ref W) ⟨[], []⟩) R s := by
  refine codeAny_of_tree ?_
  show wpAny _ A.in1 (callAny (.ref W) ⟨[], []⟩) _ _ s
  simp only [callAny]
  refine wpAny_bind (wpAny_load hw ?_)
  show wpAny _ A.in1 (checkBoundCall "list_iterator.__next__" ⟨[.ref it], []⟩ >>= fun _ => again (.builtin "list_iterator.__next__" ⟨[.ref it], []⟩)) _ _ s
  refine wpAny_bind (wpAny_of_eq (nx_check it) (wpAny_pure (And.intro (nx_quiet _) (codeAny_builtin entry_listiter_next ?_))))
  rw [Around.under_plainId nx_plain _]
  exact h
theorem nx_item {prog : Program} {w : World} {A : Around} {E : Value → Shared → Prop} {s : Shared} {W it l : Addr} {i : Nat} {items : Array Value} {x : Value} {Q : Value → Shared → Prop} (hw : s.heap.get? W = some (wrapObj it))
    (hit : s.heap.get? it = some (iterObj l i)) (hl : s.heap.IsList l items) (hx : items[i]? = some x)
    (hQ : ∀ h', h'.get? it = some (iterObj l (i + 1)) → Heap.SameBut it s.heap h' → Q x { s with heap := h' }) : wpAny (model prog w) A (call (.ref W) [] []) Q E s := by
  obtain ⟨ol, hol, _, nl, hdl⟩ := hl
  refine wpAny_call (nx_enter hw ?_)
  show wpAny _ _ (field (.ref it) 0 >>= _) _ _ s
  refine wpAny_bind (wpAny_field hit rfl (x := .ref l) rfl ?_)
  show wpAny _ _ (if (Value.ref l == Value.none) = true then _ else _) _ _ s
  rw [if_neg (show ¬ ((Value.ref l == Value.none) = true) from Bool.false_ne_true)]
  show wpAny _ _ (field (.ref it) 1 >>= _) _ _ s
  refine wpAny_bind (wpAny_field hit rfl (x := .int i 0) rfl ?_)
  show wpAny _ _ (seqItems? (.ref l) >>= _) _ _ s
  refine wpAny_bind (wpAny_seqItems hol hdl ?_)
  simp only [Int.toNat_natCast, hx]
  refine wpAny_bind (wpAny_setField hit rfl (by simp) (wpAny_pure (hQ _ ?_ (Heap.SameBut.update ..))))
  exact Heap.get?_update_self _ hit rfl
theorem nx_end {prog : Program} {w : World} {A : Around} {E : Value → Shared → Prop} {s : Shared} {W it l : Addr} {i : Nat} {items : Array Value} {Q : Value → Shared → Prop} (hh : A.handled = none) (hw : s.heap.get? W = some (wrapObj it))
    (hit : s.heap.get? it = some (iterObj l i)) (hl : s.heap.IsList l items) (hx : items[i]? = none)
    (hQ : ∀ h1 h' e, Heap.SameBut it s.heap h1 → Heap.NewExc h1 h' e "StopIteration" → E (.ref e) { s with heap := h' }) : wpAny (model prog w) A (call (.ref W) [] []) Q E s := by
  obtain ⟨ol, hol, _, nl, hdl⟩ := hl
  refine wpAny_call (nx_enter hw ?_)
  show wpAny _ _ (field (.ref it) 0 >>= _) _ _ s
  refine wpAny_bind (wpAny_field hit rfl (x := .ref l) rfl ?_)
  show wpAny _ _ (if (Value.ref l == Value.none) = true then _ else _) _ _ s
  rw [if_neg (show ¬ ((Value.ref l == Value.none) = true) from Bool.false_ne_true)]
  show wpAny _ _ (field (.ref it) 1 >>= _) _ _ s
  refine wpAny_bind (wpAny_field hit rfl (x := .int i 0) rfl ?_)
  show wpAny _ _ (seqItems? (.ref l) >>= _) _ _ s
  refine wpAny_bind (wpAny_seqItems hol hdl ?_)
  simp only [Int.toNat_natCast, hx]
  refine wpAny_bind (wpAny_rule (wpAny_bind (wpAny_setField hit rfl (by simp) ?_)))
  show wpAny _ _ (newExc (.type "StopIteration") [] >>= _) _ _ _
  refine wpAny_bind ?_
  simp only [newExc, newTuple]
  refine wpAny_bind (wpAny_newObj_type ?_ (by size_fits))
  refine wpAny_bind (m := firstArgMember _ _) (wpAny_of_eq (a := Value.none) (by first | rfl | (simp only [firstArgMember]; rfl)) ?_)
  refine wpAny_newObj_type ?_ (by size_fits)
  simp only [raiseNew]
  refine wpAny_bind (wpAny_handled ?_)
  rw [show A.in1.handled = none from hh]
  refine wpAny_bind (wpAny_pure (wpAny_throw ?_))
  refine hQ _ _ _ (Heap.SameBut.update ..) ⟨fun b o e => Heap.get?_push_of_some _ (Heap.get?_push_of_some _ e), ?_, ⟨_, _, Heap.get?_push_size _ rfl, rfl, rfl⟩⟩
  cases e : (s.heap.update it (Obj.mapFields fun x => x.setIfInBounds 0 Value.none)).get? _ with
  | none => rfl
  | some o => have := Heap.lt_size e; rw [Heap.size_push] at this; exact absurd this (Nat.not_lt.mpr (Nat.le_succ _))
theorem nx_iter {prog : Program} {w : World} {A : Around} {E : Value → Shared → Prop} {s : Shared} {l : Addr} {items : Array Value} {Q : Value → Shared → Prop} (hl : s.heap.IsList l items)
    (h : Q (.ref s.heap.objs.size) { s with heap := s.heap.push (iterObj l 0) }) : wpAny (model prog w) A (call (.builtin "iter") [.ref l]) Q E s := by
  refine call_function_entry (by decide +kernel) (by decide +kernel) kdk_entry_iter (kdk_args_iter _) ?_
  unfold Builtin.«iter»
  refine wpAny_bind (m := someArgs "iter" 1 2 _) (wpAny_of_eq (a := [Value.ref l]) (by first | rfl | kernel_rfl!) ?_)
  show wpAny _ _ (pyIter (.ref l) >>= _) _ _ _
  exact wpAny_bind (wpAny_pyIter_list hl (wpAny_pure ⟨_, rfl, h⟩))
end
section
set_option maxHeartbeats 1000000
open PySem PySem.Calls PySem.W PyProof.Rows Builtin Builtin.ObjectAttr
theorem nx_callWith {M : Model} {A : Around} {E : Value → Shared → Prop} {s : Shared} {env : Env} {pos : Pos} {first : List Value} {Q : Value → Shared → Prop} {W it : Addr} (hw : s.heap.get? W = some (wrapObj it))
    (h : wpAny M A (call (.ref W) (first ++ [])) Q E s) : wpAny M A (callWith pos (.ref W) first (backTo pos (starEach [] env)) []) Q E s := by
  unfold callWith
  refine wpAny_bind (wpAny_holding (evalArgs_nil3 (wpAny_bind (wpAny_standAt ?_))))
  show wpAny M A (keeperOf (.ref W) >>= _) _ _ _
  refine wpAny_bind (m := keeperOf (.ref W)) ?_
  unfold keeperOf
  refine wpAny_bind (wpAny_load hw ?_)
  simp only [wrapObj, show (Value.type "method-wrapper" != Value.type "method") = true by decide, show (Value.type "method-wrapper" == Value.type "builtin_function_or_method" || Value.type "method-wrapper" == Value.type "method-wrapper") = true by decide, if_true]
  refine wpAny_pure ?_
  exact wpAny_bind (wpAny_mono h (fun r s₂ hr => wpAny_bind (wpAny_holding (wpAny_point (wpAny_pure hr)))) fun _ _ x => x)
end
section
set_option maxHeartbeats 1000000
/-! the search for a cycle, as plain data: one entry of its stack -/
structure SE where
  k : Int
  t : Tok
  it : Addr
  W : Addr
  l : Addr
  ep : Nat
  vs : List Value
  pos : Nat
noncomputable abbrev SE.val (e : SE) : Value := .int e.k e.t
noncomputable abbrev SE.led (e : SE) : List (Addr × Obj) := [(e.W, wrapObj e.it), (e.it, iterObj e.l e.pos)]
noncomputable def itL (st : List SE) : List (Addr × Obj) := st.flatMap SE.led
theorem itL_app (a b : List SE) : itL (a ++ b) = itL a ++ itL b := by unfold itL; rw [List.flatMap_append]
theorem itL_one (e : SE) : itL [e] = e.led := by unfold itL; simp
structure FOK (xs : List NI) (BA : List Addr) (st : List SE) (sn : List Int) : Prop where
  fro : ∀ e ∈ st, ∃ x ∈ xs, x.node = e.k ∧ x.sl = e.l ∧ x.sv = e.vs ∧ x.ep = e.ep
  inc : st.Pairwise fun a b => a.k < b.k ∧ @LT.lt Nat _ a.W b.it
  ad : ∀ e ∈ st, @LT.lt Nat _ e.it e.W ∧ ∀ a ∈ BA, @LT.lt Nat _ a e.it
  snd : sn.Nodup
  ssub : ∀ k ∈ sn, k ∈ xs.map (·.node)
theorem nodup_sub_len : ∀ {l m : List Int}, l.Nodup → (∀ a ∈ l, a ∈ m) → l.length ≤ m.length
  | [], _, _, _ => Nat.zero_le _
  | a :: l, m, h, hs => by
    rw [List.nodup_cons] at h
    have h1 : a ∈ m := hs a (.head _)
    have h2 : l.length ≤ (m.erase a).length := nodup_sub_len h.2 fun b hb => by
      have : b ≠ a := fun e => h.1 (e ▸ hb)
      exact (List.mem_erase_of_ne this).mpr (hs b (.tail _ hb))
    rw [List.length_erase_of_mem h1] at h2
    have : 0 < m.length := List.length_pos_of_mem h1
    simp only [List.length_cons]; omega
noncomputable def unseen (sn : List Int) (x : NI) : Nat := if x.node ∈ sn then 0 else x.sv.length + 2
noncomputable def mu (xs : List NI) (sn : List Int) (st : List SE) : Nat := (xs.map (unseen sn)).sum + (st.map fun e => e.vs.length - e.pos + 1).sum
theorem unseen_le {sn : List Int} {k : Int} (xs : List NI) : (xs.map (unseen (sn ++ [k]))).sum ≤ (xs.map (unseen sn)).sum := by
  induction xs with
  | nil => simp
  | cons x r ih =>
    simp only [List.map_cons, List.sum_cons]
    have : unseen (sn ++ [k]) x ≤ unseen sn x := by
      unfold unseen
      by_cases h : x.node ∈ sn
      · simp [h]
      · simp only [h, if_false]; split <;> omega
    omega
theorem unseen_drop {sn : List Int} {xs : List NI} {x : NI} (hx : x ∈ xs) (hn : x.node ∉ sn) : (xs.map (unseen (sn ++ [x.node]))).sum + (x.sv.length + 2) ≤ (xs.map (unseen sn)).sum := by
  induction xs with
  | nil => cases hx
  | cons y r ih =>
    simp only [List.map_cons, List.sum_cons]
    rcases List.mem_cons.mp hx with rfl | hx
    · have h1 : unseen (sn ++ [x.node]) x = 0 := by unfold unseen; simp
      have h2 : unseen sn x = x.sv.length + 2 := by unfold unseen; simp [hn]
      have := unseen_le (sn := sn) (k := x.node) r
      omega
    · have := ih hx
      have : unseen (sn ++ [x.node]) y ≤ unseen sn y := by
        unfold unseen
        by_cases h : y.node ∈ sn
        · simp [h]
        · simp only [h, if_false]; split <;> omega
      omega
theorem FOK.stlen {xs : List NI} {BA : List Addr} {st : List SE} {sn : List Int} (h : FOK xs BA st sn) : st.length ≤ xs.length := by
  have := nodup_sub_len (l := st.map (·.k)) (m := xs.map (·.node)) (List.pairwise_map.mpr (h.inc.imp fun r e => absurd (e ▸ r.1 : _ < _) (by intro q; exact Int.lt_irrefl _ q))) fun a ha => by
    obtain ⟨e, he, rfl⟩ := List.mem_map.mp ha
    obtain ⟨x, hx, e1, _⟩ := h.fro e he
    exact e1 ▸ List.mem_map_of_mem hx
  simpa using this
theorem FOK.snlen {xs : List NI} {BA : List Addr} {st : List SE} {sn : List Int} (h : FOK xs BA st sn) : sn.length ≤ xs.length := by
  simpa using nodup_sub_len h.snd h.ssub
theorem FOK.push {xs : List NI} {BA : List Addr} {st : List SE} {sn : List Int} (h : FOK xs BA st sn) {x : NI} (hx : x ∈ xs) (hn : x.node ∉ sn) (hu : ∀ e ∈ st, e.k < x.node) (t : Tok) {it W : Addr} (hW : @LT.lt Nat _ it W) (hB : ∀ a ∈ BA, @LT.lt Nat _ a it)
    (hS : ∀ e ∈ st, @LT.lt Nat _ e.W it) : FOK xs BA (st ++ [⟨x.node, t, it, W, x.sl, x.ep, x.sv, 0⟩]) (sn ++ [x.node]) := by
  refine ⟨?_, ?_, ?_, ?_, ?_⟩
  · intro e he
    rcases List.mem_append.mp he with he | he
    · exact h.fro e he
    · rw [List.mem_singleton.mp he]; exact ⟨x, hx, rfl, rfl, rfl, rfl⟩
  · rw [List.pairwise_append]
    refine ⟨h.inc, List.pairwise_singleton _ _, ?_⟩
    intro a ha b hb
    rw [List.mem_singleton.mp hb]
    exact ⟨hu a ha, hS a ha⟩
  · intro e he
    rcases List.mem_append.mp he with he | he
    · exact h.ad e he
    · rw [List.mem_singleton.mp he]; exact ⟨hW, hB⟩
  · rw [List.nodup_append]
    refine ⟨h.snd, by simp, ?_⟩
    intro a ha b hb e
    rw [List.mem_singleton.mp hb] at e
    exact hn (e ▸ ha)
  · intro k hk
    rcases List.mem_append.mp hk with hk | hk
    · exact h.ssub k hk
    · rw [List.mem_singleton.mp hk]; exact List.mem_map_of_mem hx
theorem FOK.pop {xs : List NI} {BA : List Addr} {st : List SE} {e : SE} {sn : List Int} (h : FOK xs BA (st ++ [e]) sn) : FOK xs BA st sn :=
  ⟨fun e he => h.fro e (List.mem_append_left _ he), (List.pairwise_append.mp h.inc).1, fun e he => h.ad e (List.mem_append_left _ he), h.snd, h.ssub⟩
theorem FOK.step {xs : List NI} {BA : List Addr} {st : List SE} {e : SE} {sn : List Int} (h : FOK xs BA (st ++ [e]) sn) : FOK xs BA (st ++ [{ e with pos := e.pos + 1 }]) sn := by
  refine ⟨?_, ?_, ?_, h.snd, h.ssub⟩
  · intro e' he
    rcases List.mem_append.mp he with he | he
    · exact h.fro e' (List.mem_append_left _ he)
    · rw [List.mem_singleton.mp he]; exact h.fro e (by simp)
  · obtain ⟨h1, h2, h3⟩ := List.pairwise_append.mp h.inc
    refine List.pairwise_append.mpr ⟨h1, List.pairwise_singleton _ _, ?_⟩
    intro a ha b hb
    rw [List.mem_singleton.mp hb]
    exact h3 a ha e (.head _)
  · intro e' he
    rcases List.mem_append.mp he with he | he
    · exact h.ad e' (List.mem_append_left _ he)
    · rw [List.mem_singleton.mp he]; exact h.ad e (by simp)
theorem FOK.below {xs : List NI} {BA : List Addr} {st : List SE} {e : SE} {sn : List Int} (h : FOK xs BA (st ++ [e]) sn) : ∀ a ∈ st, a.k < e.k := fun a ha => ((List.pairwise_append.mp h.inc).2.2 a ha e (.head _)).1
/-- the addresses of the lower entries are not those of the top -/
theorem FOK.apart {xs : List NI} {BA : List Addr} {st : List SE} {e : SE} {sn : List Int} (h : FOK xs BA (st ++ [e]) sn) : ∀ q ∈ itL st, @LT.lt Nat _ q.1 e.it := by
  intro q hq
  obtain ⟨a, ha, hq⟩ := List.mem_flatMap.mp hq
  have h1 := ((List.pairwise_append.mp h.inc).2.2 a ha e (.head _)).2
  have h2 := (h.ad a (List.mem_append_left _ ha)).1
  simp only [SE.led, List.mem_cons, List.not_mem_nil, or_false] at hq
  rcases hq with rfl | rfl
  · exact h1
  · exact Nat.lt_trans h2 h1
theorem itL_off {xs : List NI} {BA : List Addr} {st : List SE} {sn : List Int} (h : FOK xs BA st sn) {a : Addr} (ha : a ∈ BA) : ∀ q ∈ itL st, q.1 ≠ a := by
  intro q hq
  obtain ⟨e, he, hq⟩ := List.mem_flatMap.mp hq
  have h1 := (h.ad e he).2 a ha
  have h2 := (h.ad e he).1
  simp only [SE.led, List.mem_cons, List.not_mem_nil, or_false] at hq
  rcases hq with rfl | rfl
  · exact Nat.ne_of_gt (Nat.lt_trans h1 h2)
  · exact Nat.ne_of_gt h1
theorem mu_push {xs : List NI} {sn : List Int} {st : List SE} {x : NI} {t : Tok} {it W : Addr} (hx : x ∈ xs) (hn : x.node ∉ sn) : mu xs (sn ++ [x.node]) (st ++ [⟨x.node, t, it, W, x.sl, x.ep, x.sv, 0⟩]) < mu xs sn st := by
  have := unseen_drop hx hn
  unfold mu
  simp only [List.map_append, List.map_cons, List.map_nil, List.sum_append, List.sum_cons, List.sum_nil]
  omega
theorem mu_pop {xs : List NI} {sn : List Int} {st : List SE} {e : SE} : mu xs sn st < mu xs sn (st ++ [e]) := by
  unfold mu
  simp only [List.map_append, List.map_cons, List.map_nil, List.sum_append, List.sum_cons, List.sum_nil]
  omega
theorem mu_step {xs : List NI} {sn : List Int} {st : List SE} {e : SE} (h : e.pos < e.vs.length) : mu xs sn (st ++ [{ e with pos := e.pos + 1 }]) < mu xs sn (st ++ [e]) := by
  unfold mu
  simp only [List.map_append, List.map_cons, List.map_nil, List.sum_append, List.sum_cons, List.sum_nil]
  omega
theorem valueAt_keys {kvs : List (Int × Value)} {k : Int} : (valueAt kvs k).isSome = true ↔ k ∈ kvs.map (·.1) := by
  unfold valueAt
  induction kvs with
  | nil => simp
  | cons p r ih =>
    simp only [List.find?_cons, List.map_cons, List.mem_cons]
    by_cases h : p.1 = k
    · simp [h]
    · have h' : ¬ k = p.1 := fun e => h e.symm
      simp only [h, decide_false, h', false_or]; exact ih
theorem keys_without {kvs : List (Int × Value)} {st : List SE} {e : SE} (hk : kvs.map (·.1) = (st ++ [e]).map (·.k)) (hl : ∀ a ∈ st, a.k < e.k) : (without kvs e.k).map (·.1) = st.map (·.k) := by
  have h1 : (without kvs e.k).map (·.1) = (kvs.map (·.1)).filter fun a => decide (a ≠ e.k) := by
    unfold without
    rw [List.filter_map]; rfl
  rw [h1, hk, List.map_append, List.filter_append]
  have h2 : (st.map (·.k)).filter (fun a => decide (a ≠ e.k)) = st.map (·.k) := List.filter_eq_self.mpr fun a ha => by
    obtain ⟨b, hb, rfl⟩ := List.mem_map.mp ha
    have := hl b hb
    simp only [decide_eq_true_eq]; omega
  rw [h2]; simp
end
section
set_option maxHeartbeats 8000000
theorem frag_on7 : (fun (_ : Params → Frag) => PySem.Challenge.rw_cy0005_01.Holds) KF → True := by
  k_fill
  intro _; trivial
open PySem.Calls PyProof.Rows.TI
theorem sameUp_map : ∀ {a b : List (Addr × Obj)}, SameUp a b → b.map (·.1) = a.map (·.1)
  | [], [], _ => rfl
  | [], _ :: _, h => h.elim
  | _ :: _, [], h => h.elim
  | p :: ps, q :: qs, h => by simp only [List.map_cons, sameUp_map h.2.2, h.1]
noncomputable abbrev LF (nd sna isa ss : Addr) (od os : Obj) (ei es : Nat) (st : List SE) (B : List (Addr × Obj)) : List (Addr × Obj) :=
  (nd, od) :: (sna, os) :: (isa, listOf (st.map fun e => Value.ref e.W).toArray ei) :: (ss, listOf (st.map SE.val).toArray es) :: (itL st ++ B)
noncomputable def mB (S Nd nd sna isa ss : Addr) : Str → Option Value := fun y => if y = Str.ofString "node2stacki" then some (Value.ref nd) else if y = Str.ofString "seen" then some (Value.ref sna) else if y = Str.ofString "itstack" then some (Value.ref isa) else if y = Str.ofString "stack" then some (Value.ref ss)
    else if y = Str.ofString "n2i" then some (Value.ref Nd) else List.lookup y [(Str.ofString "self", Value.ref S)].reverse
structure Box (P : Prop) : Prop where
  get : P
theorem News.dup {h₀ h : Heap} {L : Addr} {l e : List (Addr × Obj)} (N : News h₀ L h l) (hs : ∀ q ∈ e, q ∈ l) : News h₀ L h (e ++ l) := fun q hq => by
  rcases List.mem_append.mp hq with h | h
  · exact N q (hs q h)
  · exact N q h
theorem kl_last_app : ∀ (l : List SE) (e : SE), kl_last ((l ++ [e]).map SE.val) = some (l.map SE.val, e.val)
  | [], _ => rfl
  | x :: r, e => by
    show (match kl_last ((r ++ [e]).map SE.val) with | some (p, y) => some (x.val :: p, y) | none => some ([], x.val)) = _
    rw [kl_last_app r e]; rfl
theorem kl_last_appW : ∀ (l : List SE) (e : SE), kl_last ((l ++ [e]).map fun e => Value.ref e.W) = some (l.map (fun e => Value.ref e.W), Value.ref e.W)
  | [], _ => rfl
  | x :: r, e => by
    show (match kl_last ((r ++ [e]).map fun e => Value.ref e.W) with | some (p, y) => some (Value.ref x.W :: p, y) | none => some ([], Value.ref x.W)) = _
    rw [kl_last_appW r e]; rfl
theorem ledS_rest {σ : Srt} {w : World} {rv po nf : Value} {oN : Obj} {xs : List NI} {rest : List (Addr × Obj)} {q : Addr × Obj} (h : q ∈ rest) : q ∈ ledS σ w rv po nf oN xs rest :=
  .tail _ (.tail _ (.tail _ (List.mem_append_right _ h)))
theorem ledS_node {σ : Srt} {w : World} {rv po nf : Value} {oN : Obj} {xs : List NI} {rest : List (Addr × Obj)} {q : Addr × Obj} (h : q ∈ ledN xs) : q ∈ ledS σ w rv po nf oN xs rest :=
  .tail _ (.tail _ (.tail _ (List.mem_append_left _ h)))
theorem ledS_up {σ : Srt} {w : World} {rv po nf : Value} {oN : Obj} {xs : List NI} {rest fr fr' : List (Addr × Obj)} (hf : fr'.map (·.1) = fr.map (·.1)) {q : Addr × Obj} (hq : q ∈ ledS σ w rv po nf oN xs (rest ++ fr')) :
    ∃ q' ∈ ledS σ w rv po nf oN xs (rest ++ fr), q'.1 = q.1 := by
  have h : q.1 ∈ (ledS σ w rv po nf oN xs (rest ++ fr')).map (·.1) := List.mem_map_of_mem hq
  rw [map_ledS, List.map_append, hf, ← List.map_append, ← map_ledS (w := w) (rv := rv) (po := po) (nf := nf) (oN := oN)] at h
  exact List.mem_map.mp h
/-- a state of the search -/
inductive FS (w : World) (xs : List NI) (h₀ : Heap) (L' S Nd nd sna isa ss : Addr) (fr0 : List (Addr × Obj)) (BF : List (Addr × Obj) → List (Addr × Obj)) (h : Heap) (v : Value) (st : List SE) (sn : List Int) : Prop
  | mk (od os : Obj) (ei es : Nat) (fr : List (Addr × Obj)) (kvs : List (Int × Value)) (hf : SameUp fr0 fr) (hF : Fr h₀ L' h (fun y => if y = Str.ofString "node" then some v else mB S Nd nd sna isa ss y)) (hN : News h₀ L' h (LF nd sna isa ss od os ei es st (BF fr)))
    (hd : od.IsDictOf (intKind Pr w) kvs) (hk : kvs.map (·.1) = st.map (·.k)) (hs : os.SetObjOf (intKind Pr w) (fun k => decide (k ∈ sn)) sn.length) (ho : FOK xs ([nd, sna, isa, ss] ++ (BF fr0).map (·.1)) st sn)
/-- between two turns of the search's outer loop -/
inductive DI (w : World) (xs : List NI) (nd sna isa ss : Addr) (fr0 : List (Addr × Obj)) (LS : List (Addr × Obj) → List (Addr × Obj)) (nx : List (Addr × Obj)) : Prop
  | mk (sn : List Int) (od os : Obj) (ei es : Nat) (fr : List (Addr × Obj)) (he : nx = (nd, od) :: (sna, os) :: (isa, listOf #[] ei) :: (ss, listOf #[] es) :: LS fr) (hf : SameUp fr0 fr)
    (hd : od.IsDictOf (intKind Pr w) []) (hs : os.SetObjOf (intKind Pr w) (fun k => decide (k ∈ sn)) sn.length) (ho : FOK xs [] [] sn)
/-- ahead of a turn of «while True» -/
inductive WI (s : Shared) (xs : List NI) (FSv : Heap → Value → List SE → List Int → Prop) (n : Nat) (s1 : Shared) : Prop
  | mk (h : Heap) (tk : Tok) (k : Int) (t : Tok) (st : List SE) (sn : List Int) (he : s1 = { s with heap := h, toks := tk }) (hf : FSv h (.int k t) st sn) (hl : ∀ e ∈ st, e.k < k) (hm : k ∈ xs.map (·.node)) (hn : mu xs sn st = n)
/-- ahead of a turn of «while stack» -/
inductive WS (s : Shared) (xs : List NI) (FSv : Heap → Value → List SE → List Int → Prop) (n4 n : Nat) (s1 : Shared) : Prop
  | mk (h : Heap) (tk : Tok) (v : Value) (st : List SE) (sn : List Int) (he : s1 = { s with heap := h, toks := tk }) (hf : FSv h v st sn) (hn : mu xs sn st = n) (hl : n ≤ n4)
theorem wpAny_to {α : Type} {M : Model} {A : Around} {t : Sem α} {Q : α → Shared → Prop} {E : Value → Shared → Prop} {s S : Shared} {v : α} (h1 : wpAny M A t (fun b s₂ => b = v ∧ s₂ = S) (fun _ _ => False) s) (h2 : Q v S) : wpAny M A t Q E s :=
  wpAny_mono h1 (fun _ _ h => h.1 ▸ h.2 ▸ h2) fun _ _ x => x.elim
theorem wpAny_toT {α : Type} {M : Model} {A : Around} {t : Sem α} {Q : α → Shared → Prop} {E : Value → Shared → Prop} {s : Shared} {v : α} {h : Heap} (h1 : ∀ PQ : α → Shared → Prop, (∀ tk, PQ v { s with heap := h, toks := tk }) → wpAny M A t PQ (fun _ _ => False) s) (h2 : ∀ tk, Q v { s with heap := h, toks := tk }) : wpAny M A t Q E s :=
  wpAny_mono (h1 Q h2) (fun _ _ x => x) fun _ _ x => x.elim
section
variable {w : World} {A₀ A : Around} {base h₀ : Heap} {outer : List Env} {env : Env} {L : Addr} {m mg mb : Str → Option Value} {p : Program} {loose : List Str} {mean : ExcName → Option Value} {s : Shared}
  {R : Result → Shared → Prop} {news : List (Addr × Obj)}
/-- a def's frame is entered; the caller's frame goes onto the ledger -/
theorem enter_def {name qual : Str} {params : Arguments} {body : List Stmt} {scope : Scope} {dV kV doc pm cdv ct oc : Value} {an od : Option Addr} {osl : Array (Option Value)} {f : Addr} {args : Args} {binds : List (Str × Value)}
    (F : Fr h₀ L s.heap m) (X₀ : (KF w.params).In h₀) (N : News h₀ L s.heap news) (T : Top p loose mean mg mb h₀)
    (ho : (KF w.params).lookup f = some ⟨oc, od, .func (fnOf name qual params body scope dV kV doc pm an cdv ct), osl⟩) (hcd : codeIn (KF w.params) cdv qual = true) (hroom : A.depth < recursionLimit)
    (hbind : BindsTo s (fnOf name qual params body scope dV kV doc pm an cdv ct) args binds) (hloc : ∀ y ∈ binds, scope.names.lookup y.1 = some .local)
    (h : ∀ L' h₁ oL, (∃ es ep, oL.data = .dict es ep) → (∀ (h2 : Heap) (sl : Array (Option Value)), h2.get? L = some { oL with slots := sl } → (∀ b o, h₀.get? b = some o → h2.get? b = some o) → Fr h₀ L h2 m) →
      (∀ q ∈ (L, oL) :: news, q.1 < L') → Fr h₀ L' h₁ (fun y => binds.reverse.lookup y) → News h₀ L' h₁ ((L, oL) :: news) →
      wpAny (model Pr w) (A.deeper (envOf qual scope L' f cdv)) (execs body (envOf qual scope L' f cdv)) (fun fl s' => R (.ok (.ret (match fl with | .ret v => v | _ => .none))) s') (fun _ _ => False)
        { s with heap := h₁, toks := s.toks + binds.length })
    (hco : scope.isCoroutine = false) (hgen : scope.isGenerator = false) (hk : scope.kind = .function)
    (hcell : ∀ x ∈ scope.names, x.2 ≠ .cell) : codeAny (model Pr w) A (.call (.ref f) args) R s := by
  have X := X₀.keeps F.keep
  refine codeAny_call_def (fd := fnOf name qual params body scope dV kV doc pm an cdv ct) (body := body) (binds := binds) hroom (X _ _ ho) rfl (T.nolimit.keeps F.keep) (codeRec_of X hcd) rfl hbind hcell hloc (fun h₁ hns hk₁ => ?_) hco hgen hk
  obtain ⟨oL, es, ep, hL, hLd, hLk, hLf⟩ := F.ns
  have hL0 : h₀.get? L = none := by
    cases q : h₀.get? L with
    | none => rfl
    | some o => exact absurd (Heap.lt_size q) (Nat.not_lt.mpr F.above)
  have hlt := Heap.lt_size hL
  refine wpAny_mono (h s.heap.objs.size h₁ oL ⟨es, ep, hLd⟩ (fun h2 sl e k => ⟨⟨_, es, ep, e, hLd, hLk, hLf⟩, k, F.above⟩) ?_ ⟨hns, fun b o e => hk₁ b o (F.keep b o e), Nat.le_trans F.above (Nat.le_of_lt hlt)⟩ ?_) (fun _ _ x => x) fun _ _ x => x.elim
  · intro q hq
    rcases List.mem_cons.mp hq with rfl | hq
    · exact hlt
    · exact Heap.lt_size (N q hq).1
  · intro q hq
    rcases List.mem_cons.mp hq with rfl | hq
    · exact ⟨hk₁ _ _ hL, Nat.ne_of_lt hlt, hL0⟩
    · exact ⟨hk₁ _ _ (N q hq).1, Nat.ne_of_lt (Heap.lt_size (N q hq).1), (N q hq).2.2⟩
theorem c_find_cycle {σ : Srt} {rv po nf : Value} {oN : Obj} {xs : List NI} {rest frs : List (Addr × Obj)} {n : Nat}
    (hh : A.handled = none) (hfr : A.frames = some (env :: outer)) (hdp : A.depth < 800) (hf : env.frame = some L) (hke : env.scope.kind = .function) (Fs : Frs outer frs) (hra : ∀ q ∈ rest, ∀ r ∈ frs, q.1 ≠ r.1)
    (X₀ : (KF w.params).In h₀) (T : Top p loose mean mg mb h₀) (F : Fr h₀ L s.heap m)
    (hs : SOK σ xs (rest ++ frs) n) (hn : n ≤ 6000) (hxk : xs.length ≤ 1000) (hcl : Closed xs) (hup : ∀ x ∈ xs, ∀ v ∈ x.sv, x.node < intOf v) (hdN : oN.IsDictOf (intKind Pr w) (kvsN xs))
    (N : News h₀ L s.heap (ledS σ w rv po nf oN xs (rest ++ frs)))
    (hq : ∀ h' tk' frs', SameUp frs frs' → Fr h₀ L h' m → News h₀ L h' (ledS σ w rv po nf oN xs (rest ++ frs')) → R (.ok (.ret .none)) { s with heap := h', toks := tk' }) :
    codeAny (model Pr w) A (.call (.ref 120) ⟨[.ref σ.S], []⟩) R s := by
  obtain ⟨_, d, _, gs, u⟩ := A
  dsimp only at hh hfr hdp
  subst hh hfr
  refine' enter_def (binds := [(Str.ofString "self", .ref σ.S)]) F X₀ N T ?k6 ?k7 ?k8 ?k9 ?kB ?_ ?c2 ?c3 ?c4 ?c5
  case k6 => k_is
  case k7 => k_is
  case k8 => k_room
  case k9 => exact BindsTo.of_eq rfl
  case c5 => decide
  case kB => exact locs rfl
  case c2 => exact rfl
  case c3 => exact rfl
  case c4 => exact rfl
  intro L' h' oL hoL hback hlt F' N'
  replace N' : News h₀ L' h' (ledS σ w rv po nf oN xs (rest ++ ((L, oL) :: frs))) := News.sub N' (by walk_at "sub")
  (try dsimp only)
  (try k_fold)
  (repeat' (((fail_if_success with_reducible first | show wpAny _ _ (call (Value.ref _) _ _) _ _ _ | show wpAny _ _ (exec (Stmt.For _ _ _ _ _) _) _ _ _ | show wpAny _ _ (exec (Stmt.While _ _ _ _) _) _ _ _ | show wpAny _ _ (pyIter _) _ _ _)); ((fail_if_success with_reducible first | show wpAny _ _ (call (Value.type "tuple") _ _) _ _ _)); ((first | (k_unfold; (try dsimp only)) | (k_end; wrow_close) | walk1 | (dsimp only; walk1) | (leave1; walk_say "STEP leave1"; try dsimp only) | fail "no step"))))
  rename_i hA ss hB lA hC tkA isA hD lB hE sna hF led hsn hz lC hG nda hH od0 lod hod1 fs hod2 fi lD hI F2 N2
  have C4 : (@Ne Nat nda sna ∧ @Ne Nat nda isA ∧ @Ne Nat nda ss) ∧ (@Ne Nat sna isA ∧ @Ne Nat sna ss) ∧ @Ne Nat isA ss := by
    have a1 : @LT.lt Nat _ ss isA := lB.1
    have a2 : @LT.lt Nat _ isA sna := lC.1
    have a3 : @LT.lt Nat _ sna nda := lD.1
    omega
  have Cb : ∀ q ∈ ledS σ w rv po nf oN xs (rest ++ (L, oL) :: frs), @LT.lt Nat _ q.1 ss ∧ @LT.lt Nat _ q.1 isA ∧ @LT.lt Nat _ q.1 sna ∧ @LT.lt Nat _ q.1 nda := fun q hq => by
    have a1 : @LT.lt Nat _ ss isA := lB.1
    have a2 : @LT.lt Nat _ isA sna := lC.1
    have a3 : @LT.lt Nat _ sna nda := lD.1
    have a4 : @LT.lt Nat _ q.1 ss := allLt_mem (l := ledS σ w rv po nf oN xs (rest ++ (L, oL) :: frs)) lA q hq
    omega
  have hapC : ∀ q ∈ ledS σ w rv po nf oN xs rest, ∀ r ∈ (L, oL) :: frs, @Ne Nat q.1 r.1 := by
    intro q hq r hr
    have hq2 : q ∈ ledS σ w rv po nf oN xs (rest ++ frs) := (by walk_at "sub" : ∀ q ∈ ledS σ w rv po nf oN xs rest, q ∈ ledS σ w rv po nf oN xs (rest ++ frs)) q hq
    rcases List.mem_cons.mp hr with rfl | hr
    · exact (N q hq2).2.1
    · have hm : q.1 ∈ (ledS σ w rv po nf oN xs rest).map (·.1) := List.mem_map_of_mem hq
      rw [map_ledS] at hm
      rcases List.mem_append.mp hm with h | h
      · exact fun e => hs.off q.1 h r (List.mem_append_right _ hr) e.symm
      · obtain ⟨q', h1, h2⟩ := List.mem_map.mp h
        rw [← h2]; exact hra q' h1 r hr
  clear lA lB lC lD hz hod1 fs fi
  generalize hmB : (fun y : Str => if y = Str.ofString "node2stacki" then some (Value.ref nda) else if y = Str.ofString "seen" then some (Value.ref sna) else if y = Str.ofString "itstack" then some (Value.ref isA) else if y = Str.ofString "stack" then some (Value.ref ss)
    else if y = Str.ofString "n2i" then some (Value.ref σ.Nd) else List.lookup y [(Str.ofString "self", Value.ref σ.S)].reverse) = mB at F2
  refine For_invVF F2 rfl rfl ?_
  subst hmB
  (repeat' (((fail_if_success with_reducible first | show wpAny _ _ (call (Value.ref _) _ _) _ _ _ | show wpAny _ _ (exec (Stmt.For _ _ _ _ _) _) _ _ _ | show wpAny _ _ (exec (Stmt.While _ _ _ _) _) _ _ _ | show wpAny _ _ (pyIter _) _ _ _)); ((fail_if_success with_reducible first | show wpAny _ _ (call (Value.type "tuple") _ _) _ _ _)); ((first | (k_unfold; (try dsimp only)) | (k_end; wrow_close) | walk1 | (dsimp only; walk1) | (leave1; walk_say "STEP leave1"; try dsimp only) | fail "no step"))))
  refine iter_dictX (o := oN) (kvs := kvsN xs) [] (fun i nx => DI w xs nda sna isA ss ((L, oL) :: frs) (fun fr => ledS σ w rv po nf oN xs (rest ++ fr)) nx) rfl hs.lo hdN F2 N2 ?_ ⟨[], _, _, _, _, _, rfl, SameUp.refl _, hod2, ?_, ?_⟩ ?_ ?_
  · rintro i nx ⟨sn, od, os, ei, es, fr, rfl, _⟩
    simp [ledS]
  · simpa using hsn
  · exact ⟨fun _ h => (nomatch h), .nil, fun _ h => (nomatch h), List.nodup_nil, fun _ h => (nomatch h)⟩
  · intro i k t u' nx h3 tk3 it hk hI hoff F4 N4
    refine hide fun G hG => ?_
    obtain ⟨sn, od, os, ei, es, fr, rfl, hfr, hod, hos, hok⟩ := hI
    refine hG ?_
    clear hG G
    have hkm : k ∈ xs.map (·.node) := by
      have := List.mem_of_getElem? hk
      simpa [kvsN] using this
    have hlen := hok.snlen
    have hxl := hs.len
    obtain ⟨BF, hBF⟩ : ∃ BF : List (Addr × Obj) → List (Addr × Obj), BF = fun fr => it :: ledS σ w rv po nf oN xs (rest ++ fr) := ⟨_, rfl⟩
    have hBFe : ∀ fr, BF fr = it :: ledS σ w rv po nf oN xs (rest ++ fr) := fun fr => by rw [hBF]
    have N5 : News h₀ L' h3 ((nda, od) :: (sna, os) :: (isA, listOf #[] ei) :: (ss, listOf #[] es) :: BF fr) := by rw [hBFe]; exact News.sub N4 (by walk_at "sub")
    have hBA : ∀ fr', SameUp ((L, oL) :: frs) fr' → ∀ q ∈ BF fr', @Ne Nat q.1 nda ∧ @Ne Nat q.1 sna ∧ @Ne Nat q.1 isA ∧ @Ne Nat q.1 ss := by
      intro fr' hf' q hq
      rw [hBF] at hq
      rcases List.mem_cons.mp hq with rfl | hq
      · refine ⟨fun e => hoff (nda, od) (by simp) _ (.head _) e.symm, fun e => hoff (sna, os) (by simp) _ (.head _) e.symm, fun e => hoff (isA, listOf #[] ei) (by simp) _ (.head _) e.symm, fun e => hoff (ss, listOf #[] es) (by simp) _ (.head _) e.symm⟩
      · obtain ⟨q', hq', e⟩ := ledS_up (sameUp_map hf') hq
        have := Cb q' hq'
        rw [e] at this
        omega
    have hitF : ∀ r ∈ (L, oL) :: frs, @Ne Nat it.1 r.1 := by
      intro r hr e
      have hm : r.1 ∈ fr.map (·.1) := by rw [sameUp_map hfr]; exact List.mem_map_of_mem hr
      obtain ⟨q, hq, e2⟩ := List.mem_map.mp hm
      exact hoff q (.tail _ (.tail _ (.tail _ (.tail _ (ledS_rest (List.mem_append_right _ hq)))))) it (.head _) (e2.trans e.symm)
    have c1 : ∀ q ∈ BF fr, q.1 ≠ nda := fun q hq => (hBA fr hfr q hq).1
    have c2 : ∀ q ∈ BF fr, q.1 ≠ sna := fun q hq => (hBA fr hfr q hq).2.1
    obtain ⟨C1, C2, C3⟩ := C4
    have F5 : Fr h₀ L' h3 (fun y => if y = Str.ofString "node" then some (.int k t) else mB σ.S σ.Nd nda sna isA ss y) := F4
    clear F4 N4
    obtain ⟨d11, d12, d13⟩ := C1
    obtain ⟨d21, d22⟩ := C2
    obtain ⟨FSv, fI, fE⟩ : ∃ FSv : Heap → Value → List SE → List Int → Prop, (∀ {h v st sn}, FS w xs h₀ L' σ.S σ.Nd nda sna isA ss ((L, oL) :: frs) BF h v st sn → FSv h v st sn) ∧ (∀ {h v st sn}, FSv h v st sn → FS w xs h₀ L' σ.S σ.Nd nda sna isA ss ((L, oL) :: frs) BF h v st sn) := ⟨_, fun x => x, fun x => x⟩
    have start : FSv h3 (.int k t) [] sn := fI ⟨od, os, ei, es, fr, [], hfr, F5, N5, hod, rfl, hos, ⟨fun _ h => (nomatch h), .nil, fun _ h => (nomatch h), hok.snd, hok.ssub⟩⟩
    refine wpAny_boxed (fun f s' => (f = .next ∨ f = .cont) ∧ ∃ h4 tk4 v4 sn4, s' = ({ s with heap := h4, toks := tk4 } : Shared) ∧ FSv h4 v4 [] sn4) ?_ fun PQ hPQ => ?_
    · rintro f s' ⟨hf, h4, tk4, v4, sn4, rfl, hFS⟩
      refine hide fun G hG => ?_
      obtain ⟨od', os', ei', es', fr', kvs', hf', F', N', hd', hkv', hos', hok'⟩ := fE hFS
      refine hG ?_
      clear hG G
      have hkv : kvs' = [] := List.map_eq_nil_iff.mp hkv'
      subst hkv
      obtain ⟨m', news', r1, r2, r3, r4⟩ : ∃ (m' : Str → Option Value) (news' : List (Addr × Obj)), Fr h₀ L' h4 m' ∧ News h₀ L' h4 (news' ++ [it]) ∧ (∀ p ∈ news', ∀ q ∈ [it], p.1 ≠ q.1) ∧
          Agree (Str.ofString "node") [] (mB σ.S σ.Nd nda sna isA ss) m' ∧ DI w xs nda sna isA ss ((L, oL) :: frs) (fun fr => ledS σ w rv po nf oN xs (rest ++ fr)) news' := by
        refine ⟨_, (nda, od') :: (sna, os') :: (isA, listOf #[] ei') :: (ss, listOf #[] es') :: ledS σ w rv po nf oN xs (rest ++ fr'), F', ?_, ?_, ?_, ⟨sn4, od', os', ei', es', fr', rfl, hf', hd', hos', ⟨fun _ h => (nomatch h), .nil, fun _ h => (nomatch h), hok'.snd, hok'.ssub⟩⟩⟩
        · have N'' : News h₀ L' h4 ((nda, od') :: (sna, os') :: (isA, listOf #[] ei') :: (ss, listOf #[] es') :: BF fr') := N'
          rw [hBFe] at N''
          exact News.sub N'' (by walk_at "sub")
        · intro q hq r hr
          obtain ⟨q', h1, h2⟩ : ∃ q' ∈ (nda, od) :: (sna, os) :: (isA, listOf #[] ei) :: (ss, listOf #[] es) :: ledS σ w rv po nf oN xs (rest ++ fr), q'.1 = q.1 := by
            rcases List.mem_cons.mp hq with rfl | hq
            · exact ⟨_, .head _, rfl⟩
            rcases List.mem_cons.mp hq with rfl | hq
            · exact ⟨_, .tail _ (.head _), rfl⟩
            rcases List.mem_cons.mp hq with rfl | hq
            · exact ⟨_, .tail _ (.tail _ (.head _)), rfl⟩
            rcases List.mem_cons.mp hq with rfl | hq
            · exact ⟨_, .tail _ (.tail _ (.tail _ (.head _))), rfl⟩
            obtain ⟨q', h1, h2⟩ := ledS_up ((sameUp_map hf').trans (sameUp_map hfr).symm) hq
            exact ⟨q', .tail _ (.tail _ (.tail _ (.tail _ h1))), h2⟩
          rw [← h2]
          exact hoff q' h1 r hr
        · intro y h1 h2
          simp only [if_neg h1]
      rcases hf with rfl | rfl
      · exact ⟨h4, _, m', news', rfl, r1, r2, r3, r4⟩
      · exact ⟨h4, _, m', news', rfl, r1, r2, r3, r4⟩
    have k0 : ∀ {f h4 tk4 v4 sn4}, (f = .next ∨ f = .cont) → FSv h4 v4 [] sn4 → PQ f { s with heap := h4, toks := tk4 } := fun a b => hPQ _ _ ⟨a, _, _, _, _, rfl, b⟩
    clear hPQ hq
    (repeat' (((fail_if_success with_reducible first | show wpAny _ _ (call (Value.ref _) _ _) _ _ _ | show wpAny _ _ (exec (Stmt.For _ _ _ _ _) _) _ _ _ | show wpAny _ _ (exec (Stmt.While _ _ _ _) _) _ _ _ | show wpAny _ _ (pyIter _) _ _ _)); ((fail_if_success with_reducible first | show wpAny _ _ (call (Value.type "tuple") _ _) _ _ _)); ((first | (k_unfold; (try dsimp only)) | (k_end; wrow_close) | walk1 | (dsimp only; walk1) | (leave1; walk_say "STEP leave1"; try dsimp only) | fail "no step"))))
    · exact k0 (.inr rfl) start
    clear N5 F5 c1 c2 hoff hos hod
    refine wpAny_While (codeAny_whileLoop (WI s xs FSv) ?_ (mu xs sn [])
      ⟨h3, _, k, t, [], sn, rfl, start, fun _ h => (nomatch h), hkm, rfl⟩)
    intro n4 s4 hI
    refine hide fun G hG => ?_
    obtain ⟨h4, tk4, k4, t4, st4, sn4, rfl, hFS4, hlt4, hkm4, hmu4⟩ := hI
    refine hG ?_
    clear hG G
    refine hide fun G hG => ?_
    obtain ⟨od4, os4, ei4, es4, fr4, kvs4, hf4, F6, N6, hod4, hkv4, hos4, hok4⟩ := fE hFS4
    refine hG ?_
    clear hG G
    refine wpAny_to (v := true) (S := { s with heap := h4, toks := tk4 }) ?_ ?_
    · (repeat' (((fail_if_success with_reducible first | show wpAny _ _ (call (Value.ref _) _ _) _ _ _ | show wpAny _ _ (exec (Stmt.For _ _ _ _ _) _) _ _ _ | show wpAny _ _ (exec (Stmt.While _ _ _ _) _) _ _ _ | show wpAny _ _ (pyIter _) _ _ _)); ((fail_if_success with_reducible first | show wpAny _ _ (call (Value.type "tuple") _ _) _ _ _)); ((first | (k_unfold; (try dsimp only)) | (k_end; wrow_close) | walk1 | (dsimp only; walk1) | (leave1; walk_say "STEP leave1"; try dsimp only) | fail "no step"))))
    rw [if_pos rfl]
    refine wpAny_boxed (fun f s' => (f = .next ∧ ∃ m, m < n4 ∧ WI s xs FSv m s') ∨
      (f = .brk ∧ ∃ h4 tk4 v4 sn4, s' = ({ s with heap := h4, toks := tk4 } : Shared) ∧ FSv h4 v4 [] sn4)) ?_ fun PQ2 hPQ2 => ?_
    · rintro f s' (⟨rfl, h⟩ | ⟨rfl, h4, tk4, v4, sn4, rfl, h⟩)
      · exact h
      · dsimp only
        (repeat' (((fail_if_success with_reducible first | show wpAny _ _ (call (Value.ref _) _ _) _ _ _ | show wpAny _ _ (exec (Stmt.For _ _ _ _ _) _) _ _ _ | show wpAny _ _ (exec (Stmt.While _ _ _ _) _) _ _ _ | show wpAny _ _ (pyIter _) _ _ _)); ((fail_if_success with_reducible first | show wpAny _ _ (call (Value.type "tuple") _ _) _ _ _)); ((first | (k_unfold; (try dsimp only)) | (k_end; wrow_close) | walk1 | (dsimp only; walk1) | (leave1; walk_say "STEP leave1"; try dsimp only) | fail "no step"))))
        exact k0 (.inl rfl) h
    have kB : ∀ {h4 tk4 v4 sn4}, FSv h4 v4 [] sn4 → PQ2 .brk { s with heap := h4, toks := tk4 } := fun a => hPQ2 _ _ (.inr ⟨rfl, _, _, _, _, rfl, a⟩)
    have kN : ∀ {h4 tk4 k t st sn}, FSv h4 (.int k t) st sn → (∀ e ∈ st, e.k < k) → k ∈ xs.map (·.node) → mu xs sn st < n4 → PQ2 .next { s with heap := h4, toks := tk4 } := fun a b c d => hPQ2 _ _ (.inl ⟨rfl, _, d, ⟨_, _, _, _, _, _, rfl, a, b, c, rfl⟩⟩)
    clear hPQ2 k0
    have eBA : ∀ fr', SameUp ((L, oL) :: frs) fr' → (BF fr').map (·.1) = (BF ((L, oL) :: frs)).map (·.1) := fun fr' hf => by
      rw [hBFe, hBFe]
      refine congrArg (it.1 :: ·) ((map_ledS (rest := rest ++ fr')).trans (.trans ?_ (map_ledS (rest := rest ++ (L, oL) :: frs)).symm))
      rw [List.map_append, List.map_append, sameUp_map hf]
    have tlOff : ∀ fr' st' sn', SameUp ((L, oL) :: frs) fr' → FOK xs ([nda, sna, isA, ss] ++ (BF ((L, oL) :: frs)).map (·.1)) st' sn' → ∀ q ∈ itL st' ++ BF fr', @Ne Nat q.1 nda ∧ @Ne Nat q.1 sna ∧ @Ne Nat q.1 isA ∧ @Ne Nat q.1 ss := by
      intro fr' st' sn' hf hk q hq
      rcases List.mem_append.mp hq with h | h
      · exact ⟨itL_off hk (by simp) q h, itL_off hk (by simp) q h, itL_off hk (by simp) q h, itL_off hk (by simp) q h⟩
      · exact hBA fr' hf q h
    have e4 := tlOff fr4 st4 sn4 hf4 hok4
    have hl4 : sn4.length ≤ 1000 := by have := hok4.snlen; omega
    have hst4 : st4.length ≤ 1000 := by have := hok4.stlen; omega
    refine hide fun G hG => ?_
    obtain ⟨x, hx, hxk⟩ := List.mem_map.mp hkm4
    subst hxk
    refine hG ?_
    clear hG G
    have hval := value_of_mem hs.keys hx rfl
    have hndk : (valueAt kvs4 x.node).isSome = false := by
      rcases e : (valueAt kvs4 x.node).isSome with _ | _
      · rfl
      · exfalso
        have := valueAt_keys.mp e
        rw [hkv4] at this
        obtain ⟨a, ha, e⟩ := List.mem_map.mp this
        have := hlt4 a ha
        omega
    have hNd : (σ.Nd, oN) ∈ BF fr4 := by rw [hBFe]; exact .tail _ (.tail _ (.tail _ (.head _)))
    have hxl4 : ∀ q ∈ x.led, q ∈ BF fr4 := by
      intro q hq
      rw [hBFe]
      exact .tail _ (ledS_node (List.mem_flatMap.mpr ⟨x, hx, hq⟩))
    obtain ⟨tl, htl⟩ : ∃ tl, itL st4 ++ BF fr4 = tl := ⟨_, rfl⟩
    have hNd' : (σ.Nd, oN) ∈ tl := htl ▸ List.mem_append_right _ hNd
    have hxl' : ∀ q ∈ x.led, q ∈ tl := fun q hq => htl ▸ List.mem_append_right _ (hxl4 q hq)
    rw [htl] at e4
    have f1 : ∀ q ∈ tl, q.1 ≠ nda := fun q hq => (e4 q hq).1
    have f2 : ∀ q ∈ tl, q.1 ≠ sna := fun q hq => (e4 q hq).2.1
    have f3 : ∀ q ∈ tl, q.1 ≠ isA := fun q hq => (e4 q hq).2.2.1
    have f4 : ∀ q ∈ tl, q.1 ≠ ss := fun q hq => (e4 q hq).2.2.2
    replace N6 : News h₀ L' h4 ((nda, od4) :: (sna, os4) :: (isA, listOf (st4.map fun e => Value.ref e.W).toArray ei4) :: (ss, listOf (st4.map SE.val).toArray es4) :: tl) := by rw [← htl]; exact N6
    obtain ⟨wsA, hwsA⟩ : ∃ wsA, (st4.map fun e => Value.ref e.W).toArray = wsA := ⟨_, rfl⟩
    obtain ⟨ksA, hksA⟩ : ∃ ksA, (st4.map SE.val).toArray = ksA := ⟨_, rfl⟩
    rw [hwsA, hksA] at N6
    walk1
    refine wpAny_boxed (fun f s' => f = .next ∧ ∃ h5 tk5 v st5 sn5, s' = ({ s with heap := h5, toks := tk5 } : Shared) ∧ FSv h5 v st5 sn5 ∧ mu xs sn5 st5 ≤ n4) ?_ ?_
    rotate_left
    · intro PQ3 hPQ3
      have k3 : ∀ {h5 tk5 v st5 sn5}, FSv h5 v st5 sn5 → mu xs sn5 st5 ≤ n4 → PQ3 .next { s with heap := h5, toks := tk5 } := fun a b => hPQ3 _ _ ⟨rfl, _, _, _, _, _, rfl, a, b⟩
      clear hPQ3 kB kN
      clear start hup Cb hlt hback N e4 tlOff hcl Fs hra hk
      (repeat' (((fail_if_success with_reducible first | show wpAny _ _ (call (Value.ref _) _ _) _ _ _ | show wpAny _ _ (exec (Stmt.For _ _ _ _ _) _) _ _ _ | show wpAny _ _ (exec (Stmt.While _ _ _ _) _) _ _ _ | show wpAny _ _ (pyIter _) _ _ _)); ((fail_if_success with_reducible first | show wpAny _ _ (call (Value.type "tuple") _ _) _ _ _)); ((first | (k_unfold; (try dsimp only)) | (k_end; wrow_close) | walk1 | (dsimp only; walk1) | (leave1; walk_say "STEP leave1"; try dsimp only) | fail "no step"))))
      · refine kda_in (knd := intKind _ _) (by assumption) (by k_mem) hod4 lod (intKind_is _ _ _ _) false hndk ?_
        (repeat' (((fail_if_success with_reducible first | show wpAny _ _ (call (Value.ref _) _ _) _ _ _ | show wpAny _ _ (exec (Stmt.For _ _ _ _ _) _) _ _ _ | show wpAny _ _ (exec (Stmt.While _ _ _ _) _) _ _ _ | show wpAny _ _ (pyIter _) _ _ _)); ((fail_if_success with_reducible first | show wpAny _ _ (call (Value.type "tuple") _ _) _ _ _)); ((first | (k_unfold; (try dsimp only)) | (k_end; wrow_close) | walk1 | (dsimp only; walk1) | (leave1; walk_say "STEP leave1"; try dsimp only) | fail "no step"))))
        exact k3 hFS4 (Nat.le_of_eq hmu4)
      · refine kda_item (knd := intKind _ _) (by assumption) (.tail _ (.tail _ (.tail _ (.tail _ hNd')))) hdN (intKind_is _ _ _ _) hval ?_
        rename News h₀ L' _ _ => N7
        have N8 := News.dup (e := x.led) N7 (fun q hq => .tail _ (.tail _ (.tail _ (.tail _ (hxl' q hq)))))
        simp only [NI.led, List.cons_append, List.nil_append] at N8
        clear N6
        have N9 := N7
        clear N7
        have N7 := N8
        clear N8
        (repeat' (((fail_if_success with_reducible first | show wpAny _ _ (call (Value.ref _) _ _) _ _ _ | show wpAny _ _ (exec (Stmt.For _ _ _ _ _) _) _ _ _ | show wpAny _ _ (exec (Stmt.While _ _ _ _) _) _ _ _ | show wpAny _ _ (pyIter _) _ _ _)); ((fail_if_success with_reducible first | show wpAny _ _ (call (Value.type "tuple") _ _) _ _ _)); ((first | (k_unfold; (try dsimp only)) | (k_end; wrow_close) | walk1 | (dsimp only; walk1) | (leave1; walk_say "STEP leave1"; try dsimp only) | fail "no step"))))
        rename Fr h₀ L' _ _ => F7
        rename ¬ x.node ∈ sn4 => hns
        rename_i h6 os6 hos6
        refine nx_iter (items := x.sv.toArray) ⟨_, (N7 (x.sl, x.l) (by simp)).1, rfl, _, rfl⟩ ?_
        refine nx_attr (l := x.sl) (i := 0) (Heap.get?_push_size _ rfl) ?_
        clear N7
        have F8 := F7.push (iterObj x.sl 0)
        have F9 := F8.push (wrapObj h6.objs.size)
        have M2 := (N9.push F7 (iterObj x.sl 0)).push F8 (wrapObj h6.objs.size)
        have l1 : ∀ q ∈ (nda, od4) :: (sna, os6) :: (isA, listOf wsA ei4) :: (ss, listOf ksA es4) :: tl, @LT.lt Nat _ q.1 h6.objs.size := fun q hq => Heap.lt_size (N9 q hq).1
        have hWs : (h6.push (iterObj x.sl 0)).objs.size = h6.objs.size + 1 := Heap.size_push ..
        dsimp only
        rw [hWs] at M2 ⊢
        generalize hh7 : (h6.push (iterObj x.sl 0)).push (wrapObj h6.objs.size) = h7 at F9 M2 ⊢
        generalize h6.objs.size = itA at M2 l1 ⊢
        obtain ⟨tl2, htl2⟩ : ∃ tl2, (itA + 1, wrapObj itA) :: (itA, iterObj x.sl 0) :: tl = tl2 := ⟨_, rfl⟩
        have m1 : @LT.lt Nat _ nda itA := l1 (nda, od4) (by simp)
        have m2 : @LT.lt Nat _ sna itA := l1 (sna, os6) (by simp)
        have m3 : @LT.lt Nat _ isA itA := l1 (isA, listOf wsA ei4) (by simp)
        have m4 : @LT.lt Nat _ ss itA := l1 (ss, listOf ksA es4) (by simp)
        have g1 : ∀ q ∈ tl2, q.1 ≠ nda := fun q hq => by
          rw [← htl2] at hq
          rcases List.mem_cons.mp hq with rfl | hq
          · k_ne
          rcases List.mem_cons.mp hq with rfl | hq
          · k_ne
          · exact f1 q hq
        have g2 : ∀ q ∈ tl2, q.1 ≠ sna := fun q hq => by
          rw [← htl2] at hq
          rcases List.mem_cons.mp hq with rfl | hq
          · k_ne
          rcases List.mem_cons.mp hq with rfl | hq
          · k_ne
          · exact f2 q hq
        have g3 : ∀ q ∈ tl2, q.1 ≠ isA := fun q hq => by
          rw [← htl2] at hq
          rcases List.mem_cons.mp hq with rfl | hq
          · k_ne
          rcases List.mem_cons.mp hq with rfl | hq
          · k_ne
          · exact f3 q hq
        have g4 : ∀ q ∈ tl2, q.1 ≠ ss := fun q hq => by
          rw [← htl2] at hq
          rcases List.mem_cons.mp hq with rfl | hq
          · k_ne
          rcases List.mem_cons.mp hq with rfl | hq
          · k_ne
          · exact f4 q hq
        have N10 : News h₀ L' h7 ((nda, od4) :: (sna, os6) :: (isA, listOf wsA ei4) :: (ss, listOf ksA es4) :: tl2) := News.sub M2 (by rw [← htl2]; walk_at "sub")
        have hks : ksA.size ≤ 1000 := by rw [← hksA]; simpa using hst4
        have hws : wsA.size ≤ 1000 := by rw [← hwsA]; simpa using hst4
        have hkvl : kvs4.length ≤ 1000 := by
          have : (kvs4.map (·.1)).length = (st4.map (·.k)).length := by rw [hkv4]
          simp only [List.length_map] at this
          omega
        clear M2 F7 F8 N9 f1 f2 f3 f4
        (repeat' (((fail_if_success with_reducible first | show wpAny _ _ (call (Value.ref _) _ _) _ _ _ | show wpAny _ _ (exec (Stmt.For _ _ _ _ _) _) _ _ _ | show wpAny _ _ (exec (Stmt.While _ _ _ _) _) _ _ _ | show wpAny _ _ (pyIter _) _ _ _)); ((fail_if_success with_reducible first | show wpAny _ _ (call (Value.type "tuple") _ _) _ _ _)); ((first | (k_unfold; (try dsimp only)) | (k_end; wrow_close) | walk1 | (dsimp only; walk1) | (leave1; walk_say "STEP leave1"; try dsimp only) | fail "no step"))))
        refine' kda_set (knd := intKind _ _) ?F ?N ?U hod4 (intKind_is _ _ _ _) ?z ?_
        case F => k_asm
        case N => k_asm
        case U => k_updF
        case z => rw [sizeLine_eq]; omega
        intro h8 od8 F10 N11 hod8
        (repeat' (((fail_if_success with_reducible first | show wpAny _ _ (call (Value.ref _) _ _) _ _ _ | show wpAny _ _ (exec (Stmt.For _ _ _ _ _) _) _ _ _ | show wpAny _ _ (exec (Stmt.While _ _ _ _) _) _ _ _ | show wpAny _ _ (pyIter _) _ _ _)); ((fail_if_success with_reducible first | show wpAny _ _ (call (Value.type "tuple") _ _) _ _ _)); ((first | (k_unfold; (try dsimp only)) | (k_end; wrow_close) | walk1 | (dsimp only; walk1) | (leave1; walk_say "STEP leave1"; try dsimp only) | fail "no step"))))
        rename News h₀ L' _ _ => N12
        rename Fr h₀ L' _ _ => F12
        refine k3 (st5 := st4 ++ [⟨x.node, t4, itA, itA + 1, x.sl, x.ep, x.sv, 0⟩]) (sn5 := sn4 ++ [x.node]) (fI ⟨od8, os6, ei4 + 1, es4 + 1, fr4, _, hf4, F12, ?_, hod8, ?_, ?_, ?_⟩) ?_
        · rw [← htl2, ← htl, ← hwsA, ← hksA] at N12
          simp only [LF, List.map_append, List.map_cons, List.map_nil, itL_app, itL_one, List.push_toArray, SE.val] at N12 ⊢
          exact News.sub N12 (by walk_at "sub")
        · have hnone : valueAt kvs4 x.node = none := by
            cases e : valueAt kvs4 x.node with
            | none => rfl
            | some v => rw [e] at hndk; cases hndk
          rw [stored_absent hnone]
          simp only [List.map_append, List.map_cons, List.map_nil, hkv4]
        · have e1 : (fun k => decide (k ∈ sn4 ++ [x.node])) = fun k' => decide (k' ∈ sn4) || decide (k' = x.node) := by
            funext k'; simp
          rw [if_neg (by simpa using hns)] at hos6
          rw [e1, List.length_append]; exact hos6
        · refine hok4.push hx hns hlt4 t4 (Nat.lt_succ_self _) ?_ ?_
          · intro a ha
            have ha' : a ∈ ([nda, sna, isA, ss] ++ (BF fr4).map (·.1)) := by
              rw [eBA fr4 hf4]; exact ha
            simp only [List.mem_append, List.mem_cons, List.not_mem_nil, or_false] at ha'
            rcases ha' with (rfl | rfl | rfl | rfl) | ha'
            · exact m1
            · exact m2
            · exact m3
            · exact m4
            · obtain ⟨q, hq1, rfl⟩ := List.mem_map.mp ha'
              exact l1 q (.tail _ (.tail _ (.tail _ (.tail _ (htl ▸ List.mem_append_right _ hq1)))))
          · intro e he
            exact l1 (e.W, wrapObj e.it) (.tail _ (.tail _ (.tail _ (.tail _ (htl ▸ List.mem_append_left _ (List.mem_flatMap.mpr ⟨e, he, by simp [SE.led]⟩))))))
        · rw [← hmu4]; exact Nat.le_of_lt (mu_push hx hns)
    · intro f s' hI
      refine hide fun G hG => ?_
      obtain ⟨rfl, h5, tk5, v5, st5, sn5, rfl, hFS5, hmu5⟩ := hI
      refine hG ?_
      clear hG G
      dsimp only
      clear N6 F6 hod4 hkv4 hos4 hok4 e4 f1 f2 f3 f4 hxl' hxl4 hNd hNd' htl hwsA hksA hval hx hndk hst4 hl4
      walk1
      refine wpAny_While (codeAny_whileLoop (WS s xs FSv n4) ?_ (mu xs sn5 st5) ⟨h5, tk5, v5, st5, sn5, rfl, hFS5, rfl, hmu5⟩)
      intro m6 s6 hI
      refine hide fun G hG => ?_
      obtain ⟨h6, tk6, v6, st6, sn6, rfl, hFS6, hmu6, hle6⟩ := hI
      refine hG ?_
      clear hG G
      have hFS6' := hFS6
      refine hide fun G hG => ?_
      obtain ⟨od6, os6, ei6, es6, fr6, kvs6, hf6, F6, N6, hod6, hkv6, hos6, hok6⟩ := fE hFS6
      refine hG ?_
      clear hG G
      have e6 := tlOff fr6 st6 sn6 hf6 hok6
      obtain ⟨tl, htl⟩ : ∃ tl, itL st6 ++ BF fr6 = tl := ⟨_, rfl⟩
      rw [htl] at e6
      have f1 : ∀ q ∈ tl, q.1 ≠ nda := fun q hq => (e6 q hq).1
      have f3 : ∀ q ∈ tl, q.1 ≠ isA := fun q hq => (e6 q hq).2.2.1
      have f4 : ∀ q ∈ tl, q.1 ≠ ss := fun q hq => (e6 q hq).2.2.2
      replace N6 : News h₀ L' h6 ((nda, od6) :: (sna, os6) :: (isA, listOf (st6.map fun e => Value.ref e.W).toArray ei6) :: (ss, listOf (st6.map SE.val).toArray es6) :: tl) := by rw [← htl]; exact N6
      rcases List.eq_nil_or_concat st6 with rfl | ⟨st7, e7, rfl⟩
      · refine wpAny_toT (v := false) (h := h6) (fun PQ hPQ => ?_) fun tk2 => ?_
        · clear start
          (repeat' (((fail_if_success with_reducible first | show wpAny _ _ (call (Value.ref _) _ _) _ _ _ | show wpAny _ _ (exec (Stmt.For _ _ _ _ _) _) _ _ _ | show wpAny _ _ (exec (Stmt.While _ _ _ _) _) _ _ _ | show wpAny _ _ (pyIter _) _ _ _)); ((fail_if_success with_reducible first | show wpAny _ _ (subscriptTail _ _ _ _) _ _ _)); ((fail_if_success with_reducible first | show wpAny _ _ (truthy (Value.ref _)) _ _ _ | show wpAny _ _ (callWith _ (Value.ref _) _ _ _) _ _ _)); ((fail_if_success with_reducible first | show wpAny _ _ (call (Value.type "tuple") _ _) _ _ _)); ((first | (k_unfold; (try dsimp only)) | (k_end; wrow_close) | walk1 | (dsimp only; walk1) | (leave1; walk_say "STEP leave1"; try dsimp only) | fail "no step"))))
          refine wpAny_truthy_list (items := #[]) ⟨_, (N6 _ (.tail _ (.tail _ (.tail _ (.head _))))).1, rfl, _, rfl⟩ (by decide) ?_
          exact hPQ _
        rw [if_neg (by decide)]
        refine wpAny_to (v := .brk) (S := { s with heap := h6, toks := tk2 }) ?_ ?_
        · (repeat' (((fail_if_success with_reducible first | show wpAny _ _ (call (Value.ref _) _ _) _ _ _ | show wpAny _ _ (exec (Stmt.For _ _ _ _ _) _) _ _ _ | show wpAny _ _ (exec (Stmt.While _ _ _ _) _) _ _ _ | show wpAny _ _ (pyIter _) _ _ _)); ((fail_if_success with_reducible first | show wpAny _ _ (call (Value.type "tuple") _ _) _ _ _)); ((first | (k_unfold; (try dsimp only)) | (k_end; wrow_close) | walk1 | (dsimp only; walk1) | (leave1; walk_say "STEP leave1"; try dsimp only) | fail "no step"))))
        · exact kB hFS6'
      · have hst7 : st7.length + 1 ≤ 1000 := by have := hok6.stlen; simp only [List.length_append, List.length_cons, List.length_nil, List.concat_eq_append] at this; omega
        rw [List.concat_eq_append] at N6 htl hok6 hkv6 hmu6 hFS6'
        obtain ⟨wsA, hwsA⟩ : ∃ wsA, (st7 ++ [e7]).map (fun e => Value.ref e.W) = wsA := ⟨_, rfl⟩
        obtain ⟨ksA, hksA⟩ : ∃ ksA, (st7 ++ [e7]).map SE.val = ksA := ⟨_, rfl⟩
        have hwl : wsA.length = st7.length + 1 := by rw [← hwsA]; simp
        have hkl : ksA.length = st7.length + 1 := by rw [← hksA]; simp
        rw [hwsA, hksA] at N6
        refine wpAny_toT (v := true) (h := h6) (fun PQ hPQ => ?_) fun tk2 => ?_
        · clear start
          (repeat' (((fail_if_success with_reducible first | show wpAny _ _ (call (Value.ref _) _ _) _ _ _ | show wpAny _ _ (exec (Stmt.For _ _ _ _ _) _) _ _ _ | show wpAny _ _ (exec (Stmt.While _ _ _ _) _) _ _ _ | show wpAny _ _ (pyIter _) _ _ _)); ((fail_if_success with_reducible first | show wpAny _ _ (subscriptTail _ _ _ _) _ _ _)); ((fail_if_success with_reducible first | show wpAny _ _ (truthy (Value.ref _)) _ _ _ | show wpAny _ _ (callWith _ (Value.ref _) _ _ _) _ _ _)); ((fail_if_success with_reducible first | show wpAny _ _ (call (Value.type "tuple") _ _) _ _ _)); ((first | (k_unfold; (try dsimp only)) | (k_end; wrow_close) | walk1 | (dsimp only; walk1) | (leave1; walk_say "STEP leave1"; try dsimp only) | fail "no step"))))
          refine wpAny_truthy_list (items := ksA.toArray) ⟨_, (N6 _ (.tail _ (.tail _ (.tail _ (.head _))))).1, rfl, _, rfl⟩ (by simp only [List.size_toArray]; omega) ?_
          have hne : (!ksA.toArray.isEmpty) = true := by cases ksA with
            | nil => simp at hkl
            | cons _ _ => rfl
          rw [hne]
          exact hPQ _
        rw [if_pos rfl]
        refine wpAny_boxed (fun f s' => (f = .next ∧ ∃ m, m < m6 ∧ WS s xs FSv n4 m s') ∨
          (f = .brk ∧ ∃ h4 tk4 k t st sn, s' = ({ s with heap := h4, toks := tk4 } : Shared) ∧ FSv h4 (.int k t) st sn ∧ (∀ e ∈ st, e.k < k) ∧ k ∈ xs.map (·.node) ∧ mu xs sn st < m6)) ?_ ?_
        · rintro f s' (⟨rfl, h⟩ | ⟨rfl, h4, tk4, k, t, st, sn, rfl, h, h1, h2, h3⟩)
          · exact h
          · dsimp only
            refine wpAny_to (v := .next) (S := { s with heap := h4, toks := tk4 }) ?_ ?_
            · (repeat' (((fail_if_success with_reducible first | show wpAny _ _ (call (Value.ref _) _ _) _ _ _ | show wpAny _ _ (exec (Stmt.For _ _ _ _ _) _) _ _ _ | show wpAny _ _ (exec (Stmt.While _ _ _ _) _) _ _ _ | show wpAny _ _ (pyIter _) _ _ _)); ((fail_if_success with_reducible first | show wpAny _ _ (call (Value.type "tuple") _ _) _ _ _)); ((first | (k_unfold; (try dsimp only)) | (k_end; wrow_close) | walk1 | (dsimp only; walk1) | (leave1; walk_say "STEP leave1"; try dsimp only) | fail "no step"))))
            · exact kN h h1 h2 (by omega)
        intro PQ4 hPQ4
        have kM : ∀ {h6 tk6 v6 st6 sn6}, FSv h6 v6 st6 sn6 → mu xs sn6 st6 < m6 → PQ4 .next { s with heap := h6, toks := tk6 } := fun a b => hPQ4 _ _ (.inl ⟨rfl, _, b, ⟨_, _, _, _, _, rfl, a, rfl, Nat.le_trans (Nat.le_of_lt b) hle6⟩⟩)
        have kO : ∀ {h4 tk4 k t st sn}, FSv h4 (.int k t) st sn → (∀ e ∈ st, e.k < k) → k ∈ xs.map (·.node) → mu xs sn st < m6 → PQ4 .brk { s with heap := h4, toks := tk4 } := fun a b c d => hPQ4 _ _ (.inr ⟨rfl, _, _, _, _, _, _, rfl, a, b, c, d⟩)
        clear hPQ4 kB kN start
        (repeat' (((fail_if_success with_reducible first | show wpAny _ _ (call (Value.ref _) _ _) _ _ _ | show wpAny _ _ (exec (Stmt.For _ _ _ _ _) _) _ _ _ | show wpAny _ _ (exec (Stmt.While _ _ _ _) _) _ _ _ | show wpAny _ _ (pyIter _) _ _ _)); ((fail_if_success with_reducible first | show wpAny _ _ (subscriptTail _ _ _ _) _ _ _)); ((fail_if_success with_reducible first | show wpAny _ _ (truthy (Value.ref _)) _ _ _ | show wpAny _ _ (callWith _ (Value.ref _) _ _ _) _ _ _)); ((fail_if_success with_reducible first | show wpAny _ _ (call (Value.type "tuple") _ _) _ _ _)); ((first | (k_unfold; (try dsimp only)) | (k_end; wrow_close) | walk1 | (dsimp only; walk1) | (leave1; walk_say "STEP leave1"; try dsimp only) | fail "no step"))))
        refine kde_neg (vs := wsA) (j := st7.length) (v := .ref e7.W) ⟨_, (N6 _ (.tail _ (.tail _ (.head _)))).1, rfl, _, rfl⟩ (by decide) (by decide) ?_ ?_ ?_
        · rw [hwl]
          unfold seqIndex?
          simp
          omega
        · rw [← hwsA]; simp
        obtain ⟨x7, hx7, y1, y2, y3, y4⟩ := hok6.fro e7 (by simp)
        have i1 : (e7.W, wrapObj e7.it) ∈ tl := by rw [← htl, itL_app, itL_one]; simp
        have i2 : (e7.it, iterObj e7.l e7.pos) ∈ tl := by rw [← htl, itL_app, itL_one]; simp
        have i3 : (e7.l, listOf e7.vs.toArray e7.ep) ∈ tl := by
          rw [← htl, hBFe]
          exact List.mem_append_right _ (.tail _ (ledS_node (List.mem_flatMap.mpr ⟨x7, hx7, by rw [← y2, ← y3, ← y4]; exact .tail _ (.tail _ (.head _))⟩)))
        have off7 : ∀ a ∈ [nda, sna, isA, ss] ++ ((itL st7).map (·.1) ++ (BF fr6).map (·.1)), @LT.lt Nat _ a e7.it := by
          intro a ha
          rcases List.mem_append.mp ha with h | h
          · exact (hok6.ad e7 (by simp)).2 a (List.mem_append_left _ h)
          rcases List.mem_append.mp h with h | h
          · obtain ⟨q, hq, rfl⟩ := List.mem_map.mp h
            exact hok6.apart q hq
          · exact (hok6.ad e7 (by simp)).2 a (List.mem_append_right _ (eBA fr6 hf6 ▸ h))
        have hWit : @LT.lt Nat _ e7.it e7.W := (hok6.ad e7 (by simp)).1
        have j1 := N6 _ (.tail _ (.tail _ (.tail _ (.tail _ i1))))
        have j2 := N6 _ (.tail _ (.tail _ (.tail _ (.tail _ i2))))
        have j3 := N6 _ (.tail _ (.tail _ (.tail _ (.tail _ i3))))
        refine nx_callWith j1.1 ?_
        cases hv : e7.vs[e7.pos]? with
        | some v =>
          refine nx_item (l := e7.l) (i := e7.pos) (items := e7.vs.toArray) (x := v) j1.1 j2.1 ⟨_, j3.1, rfl, _, rfl⟩ (by simpa using hv) ?_
          intro h8 hit8 hsame
          have F8 := F6.change hsame j2.2.1 j2.2.2
          have N8 : News h₀ L' h8 (LF nda sna isA ss od6 os6 ei6 es6 (st7 ++ [{ e7 with pos := e7.pos + 1 }]) (BF fr6)) := by
            subst hwsA hksA htl
            have keep : ∀ q ∈ (nda, od6) :: (sna, os6) :: (isA, listOf ((st7 ++ [e7]).map fun e => Value.ref e.W).toArray ei6) :: (ss, listOf ((st7 ++ [e7]).map SE.val).toArray es6) :: (itL (st7 ++ [e7]) ++ BF fr6), @Ne Nat q.1 e7.it →
                h8.get? q.1 = some q.2 ∧ q.1 ≠ L' ∧ h₀.get? q.1 = none := fun q hq hne => ⟨(hsame.2 q.1 hne).trans (N6 q hq).1, (N6 q hq).2⟩
            intro q hq
            by_cases e : q = (e7.it, iterObj e7.l (e7.pos + 1))
            · rw [e]; exact ⟨hit8, j2.2⟩
            · have hq' : q ∈ (nda, od6) :: (sna, os6) :: (isA, listOf ((st7 ++ [e7]).map fun e => Value.ref e.W).toArray ei6) :: (ss, listOf ((st7 ++ [e7]).map SE.val).toArray es6) :: (itL (st7 ++ [e7]) ++ BF fr6) ∧ @Ne Nat q.1 e7.it := by
                simp only [LF, List.map_append, List.map_cons, List.map_nil, itL_app, itL_one, SE.led, SE.val, List.mem_cons, List.mem_append, List.not_mem_nil, or_false] at hq ⊢
                rcases hq with rfl | rfl | rfl | rfl | (h | rfl | rfl) | h
                · exact ⟨by simp, Nat.ne_of_lt (off7 _ (by simp))⟩
                · exact ⟨by simp, Nat.ne_of_lt (off7 _ (by simp))⟩
                · exact ⟨by simp, Nat.ne_of_lt (off7 _ (by simp))⟩
                · exact ⟨by simp, Nat.ne_of_lt (off7 _ (by simp))⟩
                · exact ⟨by simp [h], Nat.ne_of_lt (off7 _ (List.mem_append_right _ (List.mem_append_left _ (List.mem_map_of_mem h))))⟩
                · exact ⟨by simp, Nat.ne_of_gt hWit⟩
                · exact absurd rfl e
                · exact ⟨by simp [h], Nat.ne_of_lt (off7 _ (List.mem_append_right _ (List.mem_append_right _ (List.mem_map_of_mem h))))⟩
              exact keep q hq'.1 hq'.2
          have hvm : v ∈ x7.sv := by rw [y3]; exact List.mem_of_getElem? hv
          obtain ⟨vi, vt, rfl⟩ := hs.isi x7 hx7 v hvm
          have hgt : e7.k < vi := y1 ▸ hup x7 hx7 _ hvm
          have hin := (hcl x7 hx7 _ hvm).1
          have hpos : e7.pos < e7.vs.length := by
            rcases Nat.lt_or_ge e7.pos e7.vs.length with h | h
            · exact h
            · rw [List.getElem?_eq_none h] at hv; cases hv
          clear N6 F6 f1 f3 f4 e6 hFS6' htl hwsA hksA i1 i2 i3 j1 j2 j3 off7
          (repeat' (((fail_if_success with_reducible first | show wpAny _ _ (call (Value.ref _) _ _) _ _ _ | show wpAny _ _ (exec (Stmt.For _ _ _ _ _) _) _ _ _ | show wpAny _ _ (exec (Stmt.While _ _ _ _) _) _ _ _ | show wpAny _ _ (pyIter _) _ _ _)); ((fail_if_success with_reducible first | show wpAny _ _ (call (Value.type "tuple") _ _) _ _ _)); ((first | (k_unfold; (try dsimp only)) | (k_end; wrow_close) | walk1 | (dsimp only; walk1) | (leave1; walk_say "STEP leave1"; try dsimp only) | fail "no step"))))
          rename News h₀ L' _ _ => N9
          rename Fr h₀ L' _ _ => F9
          refine kO (k := vi) (t := vt) (st := st7 ++ [{ e7 with pos := e7.pos + 1 }]) (sn := sn6) (fI ⟨od6, os6, ei6, es6, fr6, kvs6, hf6, ?_, N9, hod6, ?_, hos6, hok6.step⟩) ?_ hin ?_
          · have e : (fun y => if y = Str.ofString "node" then some (Value.int vi vt) else mB σ.S σ.Nd nda sna isA ss y) = fun y => if y = Str.ofString "node" then some (Value.int vi vt) else if y = Str.ofString "node" then some v6 else mB σ.S σ.Nd nda sna isA ss y := by
              funext y; by_cases h : y = Str.ofString "node" <;> simp [h]
            rw [e]; exact F9
          · rw [hkv6]; simp
          · intro e he
            rcases List.mem_append.mp he with h | h
            · have := hok6.below e h; omega
            · rw [List.mem_singleton.mp h]; exact hgt
          · rw [← hmu6]; exact mu_step hpos
        | none =>
          refine nx_end (l := e7.l) (i := e7.pos) (items := e7.vs.toArray) rfl j1.1 j2.1 ⟨_, j3.1, rfl, _, rfl⟩ (by simpa using hv) ?_
          intro h8 h9 ex hsame hnew
          have F8 := F6.change hsame j2.2.1 j2.2.2
          have N8 : News h₀ L' h8 (((nda, od6) :: (sna, os6) :: (isA, listOf wsA.toArray ei6) :: (ss, listOf ksA.toArray es6) :: (itL st7 ++ it :: ledS σ w rv po nf oN xs rest)) ++ fr6) := by
            intro q hq
            have hq' : q ∈ (nda, od6) :: (sna, os6) :: (isA, listOf wsA.toArray ei6) :: (ss, listOf ksA.toArray es6) :: tl ∧ q.1 ∈ [nda, sna, isA, ss] ++ ((itL st7).map (·.1) ++ (BF fr6).map (·.1)) := by
              rw [← htl, hBFe, itL_app, itL_one]
              have hq3 := (by walk_at "sub" : ∀ q ∈ ((nda, od6) :: (sna, os6) :: (isA, listOf wsA.toArray ei6) :: (ss, listOf ksA.toArray es6) :: (itL st7 ++ it :: ledS σ w rv po nf oN xs rest)) ++ fr6, q ∈ (nda, od6) :: (sna, os6) :: (isA, listOf wsA.toArray ei6) :: (ss, listOf ksA.toArray es6) :: (itL st7 ++ it :: ledS σ w rv po nf oN xs (rest ++ fr6))) q hq
              rcases List.mem_cons.mp hq3 with rfl | hq3
              · exact ⟨.head _, .head _⟩
              rcases List.mem_cons.mp hq3 with rfl | hq3
              · exact ⟨.tail _ (.head _), .tail _ (.head _)⟩
              rcases List.mem_cons.mp hq3 with rfl | hq3
              · exact ⟨.tail _ (.tail _ (.head _)), .tail _ (.tail _ (.head _))⟩
              rcases List.mem_cons.mp hq3 with rfl | hq3
              · exact ⟨.tail _ (.tail _ (.tail _ (.head _))), .tail _ (.tail _ (.tail _ (.head _)))⟩
              rcases List.mem_append.mp hq3 with h | h
              · exact ⟨.tail _ (.tail _ (.tail _ (.tail _ (List.mem_append_left _ (List.mem_append_left _ h))))), List.mem_append_right _ (List.mem_append_left _ (List.mem_map_of_mem h))⟩
              · exact ⟨.tail _ (.tail _ (.tail _ (.tail _ (List.mem_append_right _ h)))), List.mem_append_right _ (List.mem_append_right _ (List.mem_map_of_mem h))⟩
            exact ⟨(hsame.2 q.1 (Nat.ne_of_lt (off7 q.1 hq'.2))).trans (N6 q hq'.1).1, (N6 q hq'.1).2⟩
          have Fs6 : Frs (env :: outer) fr6 := Frs.up (show Frs (env :: outer) ((L, oL) :: frs) from ⟨by rw [hke]; decide, hf, hoL, Fs⟩) hf6
          have hap : ∀ q ∈ ((nda, od6) :: (sna, os6) :: (isA, listOf wsA.toArray ei6) :: (ss, listOf ksA.toArray es6) :: (itL st7 ++ it :: ledS σ w rv po nf oN xs rest)), q.1 ∉ L' :: fr6.map (·.1) := by
            intro q hq hm
            rcases List.mem_cons.mp hm with e | hm
            · exact (N8 q (List.mem_append_left _ hq)).2.1 e
            rw [sameUp_map hf6] at hm
            obtain ⟨r, hr, e⟩ := List.mem_map.mp hm
            have hrC := Cb r (ledS_rest (List.mem_append_right _ hr))
            have e' : @Eq Nat r.1 q.1 := e
            have hrB : r.1 ∈ [nda, sna, isA, ss] ++ (BF ((L, oL) :: frs)).map (·.1) := by
              rw [hBFe]
              exact List.mem_append_right _ (List.mem_map_of_mem (.tail _ (ledS_rest (List.mem_append_right _ hr))))
            obtain ⟨c1, c2, c3, c4⟩ := hrC
            rcases List.mem_cons.mp hq with rfl | hq
            · exact Nat.ne_of_lt c4 e'
            rcases List.mem_cons.mp hq with rfl | hq
            · exact Nat.ne_of_lt c3 e'
            rcases List.mem_cons.mp hq with rfl | hq
            · exact Nat.ne_of_lt c2 e'
            rcases List.mem_cons.mp hq with rfl | hq
            · exact Nat.ne_of_lt c1 e'
            rcases List.mem_append.mp hq with h | h
            · exact itL_off hok6.pop hrB q h e.symm
            rcases List.mem_cons.mp h with rfl | h
            · exact hitF r hr e.symm
            · exact hapC q h r hr e.symm
          refine TLg.noted_newA (frs := fr6) rfl Fs6 hnew F8 N8 hap ?_
          intro h10 fr10 hf10 Fs10 H10
          refine H10.land ?_
          intro h11 H11
          refine wpAny_handleBy_builtin (X := "StopIteration") (T := "StopIteration") (b := true) (isSubtype_of_subB (by decide +kernel)) (isSubtype_of_subB (by decide +kernel)) (isSubtype_of_subB (by decide +kernel)) (wpAny_passesOwnAt (by passes_own) ?_)
          have F11 : Fr h₀ L' h11 _ := H11.held.fr
          refine wpAny_mono (Q := fun v s' => Box (v = .type "StopIteration" ∧ ∃ tk, s' = ({ s with heap := h11, toks := tk } : Shared))) (E := fun _ _ => False) ?_ ?_ (fun _ _ x => x)
          · clear N6 F6 f1 f3 f4 e6 hFS6' htl i1 i2 i3 j1 j2 j3 off7 N8 hap H10 Fs6 Fs10 F8 hsame hnew hv
            (repeat' (((fail_if_success with_reducible first | show wpAny _ _ (call (Value.ref _) _ _) _ _ _ | show wpAny _ _ (exec (Stmt.For _ _ _ _ _) _) _ _ _ | show wpAny _ _ (exec (Stmt.While _ _ _ _) _) _ _ _ | show wpAny _ _ (pyIter _) _ _ _)); ((fail_if_success with_reducible first | show wpAny _ _ (subscriptTail _ _ _ _) _ _ _)); ((fail_if_success with_reducible first | show wpAny _ _ (truthy (Value.ref _)) _ _ _ | show wpAny _ _ (callWith _ (Value.ref _) _ _ _) _ _ _)); ((fail_if_success with_reducible first | show wpAny _ _ (call (Value.type "tuple") _ _) _ _ _)); ((first | (k_unfold; (try dsimp only)) | (k_end; wrow_close) | walk1 | (dsimp only; walk1) | (leave1; walk_say "STEP leave1"; try dsimp only) | fail "no step"))))
            exact ⟨rfl, _, rfl⟩
          rintro v s' ⟨rfl, tk11, rfl⟩
          refine ⟨rfl, H11.isA, ?_⟩
          rw [if_pos rfl]
          refine H11.lands fun h12 F12 N12 => wpAny_passesOwnAt (by passes_own) ?_
          have hf12 : SameUp ((L, oL) :: frs) fr10 := hf6.trans hf10
          have e12 := tlOff fr10 st7 sn6 hf12 hok6.pop
          obtain ⟨tl3, htl3⟩ : ∃ tl3, itL st7 ++ BF fr10 = tl3 := ⟨_, rfl⟩
          rw [htl3] at e12
          have g1 : ∀ q ∈ tl3, q.1 ≠ nda := fun q hq => (e12 q hq).1
          have g3 : ∀ q ∈ tl3, q.1 ≠ isA := fun q hq => (e12 q hq).2.2.1
          have g4 : ∀ q ∈ tl3, q.1 ≠ ss := fun q hq => (e12 q hq).2.2.2
          have N13 : News h₀ L' h12 ((nda, od6) :: (sna, os6) :: (isA, listOf wsA.toArray ei6) :: (ss, listOf ksA.toArray es6) :: tl3) := News.sub N12 (by rw [← htl3, hBFe]; walk_at "sub")
          have hkvl : kvs6.length ≤ 1000 := by
            have : (kvs6.map (·.1)).length = ((st7 ++ [e7]).map (·.k)).length := by rw [hkv6]
            simp only [List.length_map, List.length_append, List.length_cons, List.length_nil] at this
            omega
          have hsome : (valueAt kvs6 e7.k).isSome = true := valueAt_keys.mpr (by rw [hkv6]; simp)
          clear N12 N6 F6 f1 f3 f4 e6 hFS6' htl i1 i2 i3 j1 j2 j3 off7 N8 hap H10 H11 Fs6 Fs10 F8 hsame hnew e12 hv
          (repeat' (((fail_if_success with_reducible first | show wpAny _ _ (call (Value.ref _) _ _) _ _ _ | show wpAny _ _ (exec (Stmt.For _ _ _ _ _) _) _ _ _ | show wpAny _ _ (exec (Stmt.While _ _ _ _) _) _ _ _ | show wpAny _ _ (pyIter _) _ _ _)); ((fail_if_success with_reducible first | show wpAny _ _ (subscriptTail _ _ _ _) _ _ _)); ((fail_if_success with_reducible first | show wpAny _ _ (truthy (Value.ref _)) _ _ _ | show wpAny _ _ (callWith _ (Value.ref _) _ _ _) _ _ _)); ((fail_if_success with_reducible first | show wpAny _ _ (call (Value.type "tuple") _ _) _ _ _)); ((first | (k_unfold; (try dsimp only)) | (k_end; wrow_close) | walk1 | (dsimp only; walk1) | (leave1; walk_say "STEP leave1"; try dsimp only) | fail "no step"))))
          dsimp only
          refine' kl_pop (p := st7.map SE.val) (y := e7.val) ?F ?N ?e ?U ?z ?_
          case F => k_asm
          case N => k_asm
          case U => k_upd
          case e => simp only [← hksA]; exact kl_last_app _ _
          case z => simp only [sizeLine_eq]; omega
          intro h14 F14 N14
          dsimp only [SE.val]
          (repeat' (((fail_if_success with_reducible first | show wpAny _ _ (call (Value.ref _) _ _) _ _ _ | show wpAny _ _ (exec (Stmt.For _ _ _ _ _) _) _ _ _ | show wpAny _ _ (exec (Stmt.While _ _ _ _) _) _ _ _ | show wpAny _ _ (pyIter _) _ _ _)); ((fail_if_success with_reducible first | show wpAny _ _ (subscriptTail _ _ _ _) _ _ _)); ((fail_if_success with_reducible first | show wpAny _ _ (truthy (Value.ref _)) _ _ _ | show wpAny _ _ (callWith _ (Value.ref _) _ _ _) _ _ _)); ((fail_if_success with_reducible first | show wpAny _ _ (call (Value.type "tuple") _ _) _ _ _)); ((first | (k_unfold; (try dsimp only)) | (k_end; wrow_close) | walk1 | (dsimp only; walk1) | (leave1; walk_say "STEP leave1"; try dsimp only) | fail "no step"))))
          refine' kob_del (knd := intKind _ _) ?F ?N ?U hod6 (intKind_is _ _ _ _) hsome ?z ?_
          case F => k_asm
          case N => k_asm
          case U => k_updF
          case z => rw [sizeLine_eq]; omega
          intro h15 od15 F15 N15 hod15
          (repeat' (((fail_if_success with_reducible first | show wpAny _ _ (call (Value.ref _) _ _) _ _ _ | show wpAny _ _ (exec (Stmt.For _ _ _ _ _) _) _ _ _ | show wpAny _ _ (exec (Stmt.While _ _ _ _) _) _ _ _ | show wpAny _ _ (pyIter _) _ _ _)); ((fail_if_success with_reducible first | show wpAny _ _ (subscriptTail _ _ _ _) _ _ _)); ((fail_if_success with_reducible first | show wpAny _ _ (truthy (Value.ref _)) _ _ _ | show wpAny _ _ (callWith _ (Value.ref _) _ _ _) _ _ _)); ((fail_if_success with_reducible first | show wpAny _ _ (call (Value.type "tuple") _ _) _ _ _)); ((first | (k_unfold; (try dsimp only)) | (k_end; wrow_close) | walk1 | (dsimp only; walk1) | (leave1; walk_say "STEP leave1"; try dsimp only) | fail "no step"))))
          dsimp only
          refine' kl_pop (p := st7.map fun e => Value.ref e.W) (y := .ref e7.W) ?F ?N ?e ?U ?z ?_
          case F => k_asm
          case N => k_asm
          case U => k_upd
          case e => simp only [← hwsA]; exact kl_last_appW _ _
          case z => simp only [sizeLine_eq]; omega
          intro h16 F16 N16
          (repeat' (((fail_if_success with_reducible first | show wpAny _ _ (call (Value.ref _) _ _) _ _ _ | show wpAny _ _ (exec (Stmt.For _ _ _ _ _) _) _ _ _ | show wpAny _ _ (exec (Stmt.While _ _ _ _) _) _ _ _ | show wpAny _ _ (pyIter _) _ _ _)); ((fail_if_success with_reducible first | show wpAny _ _ (subscriptTail _ _ _ _) _ _ _)); ((fail_if_success with_reducible first | show wpAny _ _ (truthy (Value.ref _)) _ _ _ | show wpAny _ _ (callWith _ (Value.ref _) _ _ _) _ _ _)); ((fail_if_success with_reducible first | show wpAny _ _ (call (Value.type "tuple") _ _) _ _ _)); ((first | (k_unfold; (try dsimp only)) | (k_end; wrow_close) | walk1 | (dsimp only; walk1) | (leave1; walk_say "STEP leave1"; try dsimp only) | fail "no step"))))
          rename News h₀ L' _ _ => N17
          rename Fr h₀ L' _ _ => F17
          refine kM (st6 := st7) (sn6 := sn6) (fI ⟨od15, os6, ei6 + 1, es6 + 1, fr10, _, hf12, F17, ?_, hod15, keys_without hkv6 hok6.below, hos6, hok6.pop⟩) (by rw [← hmu6]; exact mu_pop)
          rw [← htl3] at N17
          exact N17
  · intro u' nx h3 tk3 hI F4 N4
    refine hide fun G hG => ?_
    obtain ⟨sn, od, os, ei, es, fr, rfl, hfr, hod, hos, hok⟩ := hI
    refine hG ?_
    clear hG G
    dsimp only
    (repeat' (((fail_if_success with_reducible first | show wpAny _ _ (call (Value.ref _) _ _) _ _ _ | show wpAny _ _ (exec (Stmt.For _ _ _ _ _) _) _ _ _ | show wpAny _ _ (exec (Stmt.While _ _ _ _) _) _ _ _ | show wpAny _ _ (pyIter _) _ _ _)); ((fail_if_success with_reducible first | show wpAny _ _ (call (Value.type "tuple") _ _) _ _ _)); ((first | (k_unfold; (try dsimp only)) | (k_end; wrow_close) | walk1 | (dsimp only; walk1) | (leave1; walk_say "STEP leave1"; try dsimp only) | fail "no step"))))
    dsimp only
    cases fr with
    | nil => exact hfr.elim
    | cons q fr =>
      obtain ⟨q1, qo⟩ := q
      obtain ⟨e1, ⟨sl, e2⟩, hfr'⟩ := hfr
      replace e1 : q1 = L := e1
      replace e2 : qo = { oL with slots := sl } := e2
      have F4' : Fr h₀ L' h3 _ := F4
      have hL : h3.get? L = some { oL with slots := sl } := by
        have := (N4 (q1, qo) (by simp [ledS])).1
        rw [e1, e2] at this
        exact this
      refine hq h3 tk3 fr hfr' (hback h3 sl hL F4'.keep) ?_
      intro q hqm
      have hm : q ∈ (nda, od) :: (sna, os) :: (isA, listOf #[] ei) :: (ss, listOf #[] es) :: ledS σ w rv po nf oN xs (rest ++ (q1, qo) :: fr) := (by walk_at "sub" : ∀ q ∈ ledS σ w rv po nf oN xs (rest ++ fr), q ∈ (nda, od) :: (sna, os) :: (isA, listOf #[] ei) :: (ss, listOf #[] es) :: ledS σ w rv po nf oN xs (rest ++ (q1, qo) :: fr)) q hqm
      refine ⟨(N4 q hm).1, ?_, (N4 q hm).2.2⟩
      obtain ⟨q', h1, h2⟩ := ledS_up (sameUp_map hfr') hqm
      rw [← h2]
      exact (N q' h1).2.1
end
end
section
set_option maxHeartbeats 1000000
open PySem.Calls PyProof.Rows.LCg
section
variable {prog : Program} {w : World} {A : Around} {E : Value → Shared → Prop} {s : Shared} {h₀ : Heap} {L : Addr} {m : Str → Option Value} {env : Env}
/-- a turn of a comprehension ends: the ledger stands as it stood -/
inductive CTurn (h₀ : Heap) (L : Addr) (m : Str → Option Value) (s₁ : Shared) (led : List (Addr × Obj)) (P : Prop) (s₂ : Shared) : Prop
  | mk (h' : Heap) (tk : Tok) (h1 : s₂ = { s₁ with heap := h', toks := tk }) (h2 : Fr h₀ L h' m) (h3 : News h₀ L h' led) (h4 : P)
/-- what a list comprehension of one clause wants of its iterator: the items, the target, what holds between the turns -/
inductive CW (prog : Program) (w : World) (A : Around) (h₀ : Heap) (L : Addr) (m : Str → Option Value) (env : Env) (tg : Expr) (ifs : List Expr) (elt : Expr) (scope : Scope) (cl : List (Str × Addr)) (Fin : Addr → List Value → List (Addr × Obj) → Shared → Prop) (it : Value) (s₂ : Shared) : Prop
  | mk (I : Addr) (fp : List Addr) (n : Nat) (P : Nat → Value → Prop) (St : Nat → Heap → Prop) (news : List (Addr × Obj)) (Bd : Nat → Value → (Str → Option Value) → Prop) (J : Nat → List Value → Prop)
    (h1 : it = .ref I) (h2 : Walks prog w A I fp [I] n P St) (h3 : n ≤ sizeLine) (h4 : ∀ i h, St i h → ∃ o, h.get? I = some o) (h5 : St 0 s₂.heap) (h6 : ∀ b ∈ fp, b < s₂.heap.objs.size) (h7 : ∀ b ∈ fp, b = I ∨ (∃ o, h₀.get? b = some o) ∨ ∃ o, (b, o) ∈ news)
    (h8 : Fr h₀ L s₂.heap m) (h9 : News h₀ L s₂.heap news) (h10 : L ≠ I) (h11 : h₀.get? I = none) (h12 : ∀ p ∈ news, p.1 ≠ I) (h13 : J 0 [])
    (h14 : ∀ i v C m₀ (s₁ : Shared) Q' E', i < n → P i v → St (i + 1) s₁.heap → News h₀ L s₁.heap news → s₁.heap.Ns C m₀ → (∀ h' tk m₂, h'.Ns C m₂ → Bd i v m₂ → (∀ b o, b ≠ C → s₁.heap.get? b = some o → h'.get? b = some o) → Q' { s₁ with heap := h', toks := tk }) →
      wpAny (model prog w) A (letOwnedTupleGo tg (.ref I) v) (fun _ s₂ => wpAny (model prog w) A (assign tg (compEnvC scope cl C env) v) (fun _ => Q') E' s₂) E' s₁)
    (h15 : ∀ i v ys oI C oC D m₂ h tk (E' : Value → Shared → Prop), i < n → P i v → J i ys → NsObj oC m₂ → Bd i v m₂ → Fr h₀ L h m → News h₀ L h ((I, oI) :: (C, oC) :: (D, lst ys) :: news) → Off3 I C D news → ((@Ne Nat I C) ∧ (@Ne Nat I D) ∧ (@Ne Nat C D)) →
      wpAny (model prog w) A (forIn ifs true fun c r => if r = true then do let ok ← isTrue c (compEnvC scope cl C env) (eval c (compEnvC scope cl C env)); pure (ForInStep.yield ok) else pure (ForInStep.yield r)) (fun ok s₃ =>
        if ok = true then wpAny (model prog w) A (eval elt (compEnvC scope cl C env)) (fun y s₄ => CTurn h₀ L m { s₂ with heap := h, toks := tk } ((I, oI) :: (C, oC) :: (D, lst ys) :: news) (J (i + 1) (ys ++ [y])) s₄) E' s₃
        else CTurn h₀ L m { s₂ with heap := h, toks := tk } ((I, oI) :: (C, oC) :: (D, lst ys) :: news) (J (i + 1) ys) s₃) E' { s₂ with heap := h, toks := tk })
    (h16 : ∀ D ys h tk, J n ys → ys.length ≤ n → Fr h₀ L h m → News h₀ L h ((D, lst ys) :: news) → (∀ q ∈ news, q.1 < D) → Fin D ys news { s₂ with heap := h, toks := tk })
theorem comp_loop {elt tg iter : Expr} {ifs : List Expr} {scope : Scope} {pos : Pos} {it acc : Value} {env : Env} {R : Result → Shared → Prop} (I : Nat → Shared → Prop)
    (turn : ∀ n s, I n s → wpAny (model prog w) A (pyNext it) (fun r s₁ => match r with
      | none => R (.ok .next) s₁
      | some v => wpAny (model prog w) A (letOwnedTupleGo tg it v) (fun _ s₀ => wpAny (model prog w) A (assign tg env v) (fun _ s₂ =>
          wpAny (model prog w) A (forIn ifs true fun c r => if r = true then do let ok ← isTrue c env (eval c env); pure (ForInStep.yield ok) else pure (ForInStep.yield r)) (fun ok s₃ =>
            if ok = true then wpAny (model prog w) A (eval elt env) (fun x s₄ =>
              wpAny (model prog w) A (call (.builtin "list.append") [acc, x]) (fun _ s₅ => ∃ m, m < n ∧ I m s₅) (notedBy (model prog w) A env fun e s' => R (.error e) s') s₄) (notedBy (model prog w) A env fun e s' => R (.error e) s') s₃
            else ∃ m, m < n ∧ I m s₃) (notedBy (model prog w) A env fun e s' => R (.error e) s') s₂) (notedBy (model prog w) A env fun e s' => R (.error e) s') s₀) (notedBy (model prog w) A env fun e s' => R (.error e) s') s₁)
      (notedBy (model prog w) A env fun e s' => R (.error e) s') s)
    (n : Nat) (h : I n s) : codeAny (model prog w) A (.compLoop (.ListComp elt [⟨tg, iter, ifs, 0⟩] scope pos) 0 it acc env) R s := by
  refine codeAny_loop rfl I (fun n s hI => ?_) n h
  show wpAny _ A ((compTurn (.ListComp elt [⟨tg, iter, ifs, 0⟩] scope pos) 0 it acc env).onRaise (fun x => do noteFrame x env; theTreesLotGoes x)) _ _ s
  refine wpAny_noted ?_
  rw [compTurn_list]
  refine wpAny_bind (wpAny_standAt (wpAny_bind (wpAny_mono (turn n s hI) (fun r s₁ h₁ => ?_) fun _ _ h' => h')))
  cases r with
  | none => exact wpAny_pure h₁
  | some v =>
    refine wpAny_bind (wpAny_mono h₁ (fun _ s₀ h₂ => wpAny_bind (wpAny_mono h₂ (fun _ s₂ h₃ => wpAny_bind (wpAny_mono h₃ (fun ok s₃ h₄ => ?_) fun _ _ h' => h')) fun _ _ h' => h')) fun _ _ h' => h')
    cases ok with
    | false => exact wpAny_pure ⟨rfl, h₄⟩
    | true => exact wpAny_bind (wpAny_bind (wpAny_mono h₄ (fun x s₄ h₅ => wpAny_bind (wpAny_mono h₅ (fun _ s₅ h₆ => wpAny_pure (wpAny_pure ⟨rfl, h₆⟩)) fun _ _ h' => h')) fun _ _ h' => h'))
theorem fresh_of {h : Heap} {a : Addr} (ha : h.objs.size ≤ a) : h.get? a = none := by
  cases e : h.get? a with
  | none => rfl
  | some o => exact absurd (Heap.lt_size e) (Nat.not_lt.mpr ha)
theorem comp_block {elt tg iter : Expr} {ifs : List Expr} {scope : Scope} {cl : List (Str × Addr)} {pos : Pos} {s₂ : Shared} {it : Value} {Fin : Addr → List Value → List (Addr × Obj) → Shared → Prop} {RR : Value → Addr → Result → Shared → Prop}
    (hcell : ∀ y ∈ scope.names, y.2 ≠ .cell) (hkind : scope.kind = .function) (cw : CW prog w A h₀ L m env tg ifs elt scope cl Fin it s₂)
    (hRR : ∀ D C h tk m' ys news, Fr h₀ L h m → h.Ns C m' → h₀.get? C = none → C ≠ L → C ≠ D → (∀ p ∈ news, p.1 ≠ C) → News h₀ L h ((D, lst ys) :: news) →
      (∀ h', Fr h₀ L h' m → News h₀ L h' ((D, lst ys) :: news) → ∀ tk, Fin D ys news { s₂ with heap := h', toks := tk }) → RR (.ref D) C (.ok .next) { s₂ with heap := h, toks := tk }) :
    wpAny (model prog w) A (newList []) (fun acc s₃ => wpAny (model prog w) A (newFunctionEnv scope env.globals cl [] env.qual none .none (some env)) (fun cenv s₄ =>
      codeAny (model prog w) A (.compStart (.ListComp elt [⟨tg, iter, ifs, 0⟩] scope pos) 0 it acc { cenv with scope := relabel scope env }) (RR acc cenv.locals) s₄) E s₃) E s₂ := by
  obtain ⟨I, fp, n, P, St, news, Bd, J, rfl, W, hsz, hIo, hst, hfp, hfn, F, N, hIL, hI₀, off, hJ, asg, turn, fin⟩ := cw
  refine wpAny_newObj_type (wpAny_newFunctionEnv hcell (by intro y hy; simp at hy) (fun h₁ hns₁ hsb₁ => ?_) hkind)
  dsimp only at hns₁ hsb₁ ⊢
  generalize hH2 : s₂.heap.push { cls := .type "list", dict := none, data := .seq ([] : List Value).toArray } = H2 at hns₁ hsb₁ ⊢
  obtain ⟨D, hD⟩ : ∃ D, s₂.heap.objs.size = D := ⟨_, rfl⟩
  obtain ⟨C, hC⟩ : ∃ C, H2.objs.size = C := ⟨_, rfl⟩
  have hCD : @Eq Nat C (D + 1) := by rw [← hC, ← hH2, Heap.size_push, hD]
  have hnD : @Ne Nat D C := by omega
  rw [hC] at hns₁ hsb₁ ⊢
  rw [hD] at hfp ⊢
  have below : ∀ b : Addr, @LT.lt Nat _ b D → b ≠ C ∧ b ≠ D := fun b hb => ⟨neN (by omega), neN (by omega)⟩
  have old : ∀ b o, s₂.heap.get? b = some o → h₁.get? b = some o := fun b o e => by
    have hb : @LT.lt Nat _ b D := by rw [← hD]; exact Heap.lt_size e
    exact hsb₁.extBut b o (below b hb).1 (Heap.get?_push_of_some _ (hH2 ▸ Heap.get?_push_of_some _ e))
  have hacc : h₁.get? D = some (lst []) := hsb₁.extBut _ _ hnD (Heap.get?_push_of_some _ (by rw [← hH2, ← hD]; exact Heap.get?_push_size _ rfl))
  have hD₀ : h₀.get? D = none := by
    cases e : h₀.get? D with
    | none => rfl
    | some o => have := F.keep D o e; rw [fresh_of (Nat.le_of_eq hD)] at this; cases this
  have hC₀ : h₀.get? C = none := by
    cases e : h₀.get? C with
    | none => rfl
    | some o => have := F.keep C o e; rw [fresh_of (by rw [hD]; show @LE.le Nat _ D C; omega)] at this; cases this
  have hLlt : @LT.lt Nat _ L D := by rw [← hD]; exact F.ns.lt
  have hIlt : @LT.lt Nat _ I D := hfp I (W.sub I (List.mem_singleton.mpr rfl))
  have hDL : D ≠ L := neN (by omega)
  have hCL : C ≠ L := neN (by omega)
  have hIC : @Ne Nat I C := by omega
  have hID : @Ne Nat I D := by omega
  have hlt : ∀ q ∈ news, @LT.lt Nat _ q.1 D := fun q hq => by rw [← hD]; exact Heap.lt_size (N q hq).1
  have off3 : Off3 I C D news := Off3.of fun p hp => ⟨off p hp, (below _ (hlt p hp)).1, (below _ (hlt p hp)).2⟩
  have hDf : D ∉ fp := fun hm => absurd (hfp _ hm) (Nat.lt_irrefl _)
  have hCf : C ∉ fp := fun hm => by have : @LT.lt Nat _ C D := hfp _ hm; omega
  have mem3 := off3.mem
  have loop : ∀ s₃ : Shared, s₃ = { s₂ with heap := h₁, toks := s₂.toks + ([] : List (Str × Value)).length } →
      codeAny (model prog w) A (.compLoop (.ListComp elt [⟨tg, iter, ifs, 0⟩] scope pos) 0 (.ref I) (.ref D) (compEnvC scope cl C env)) (RR (.ref D) C) s₃ := by
    rintro s₃ rfl
    refine comp_loop (fun k s' => E5 fun h' tk i ys m' => A9 (s' = { s₂ with heap := h', toks := tk }) (i ≤ n) (k = n + 1 - i) (ys.length ≤ i) (St i h') (Fr h₀ L h' m) (h'.Ns C m') (News h₀ L h' ((D, lst ys) :: news)) (J i ys)) ?_ (n + 1)
      ⟨h₁, _, 0, [], _, rfl, Nat.zero_le _, rfl, Nat.le_refl _, W.frame _ _ _ hst fun b _ o e => old b o e, F.keeps old, hns₁, fun p hp => ?_, hJ⟩
    · intro k s' hI0
      refine hide fun G hG => ?_
      obtain ⟨h', tk, i, ys, m', rfl, hi, rfl, hyl, hst', F', hn', N', hJ'⟩ := hI0
      refine hG ?_
      clear hG G
      by_cases hlt' : i < n
      · refine W.item i _ _ _ hlt' hst' fun v h₂ tk₂ hPv hst₂ hk₂ => ?_
        have N₂ : News h₀ L h₂ ((D, lst ys) :: news) := news_but N' hk₂ fun p hp => by
          rcases List.mem_cons.mp hp with rfl | hp
          · exact Ne.symm hID
          · exact (mem3 p hp).1
        refine asg i v C m' { s₂ with heap := h₂, toks := tk₂ } _ _ hlt' hPv hst₂ (fun p hp => N₂ p (.tail _ hp)) (hn'.at' fun o e => hk₂ _ o (by simpa using Ne.symm hIC) e) ?_
        intro h₃ tk₃ m₃ hn₃ hB hk₃
        have hst₃ : St (i + 1) h₃ := W.frame _ _ _ hst₂ fun b hb o e => hk₃ b o (fun q => hCf (q ▸ hb)) e
        obtain ⟨oI, heI⟩ := hIo _ _ hst₃
        obtain ⟨oC, heC, hoC⟩ := ns_obj hn₃
        have F₂ : Fr h₀ L h₂ m := fr_but F' hk₂ hIL hI₀
        have F₃ : Fr h₀ L h₃ m := ⟨F₂.ns.at' fun o e => hk₃ L o (Ne.symm hCL) e, fun b o e => hk₃ b o (fun q => by rw [q, hC₀] at e; cases e) (F₂.keep b o e), F₂.above⟩
        have N₃ : News h₀ L h₃ ((I, oI) :: (C, oC) :: (D, lst ys) :: news) := fun p hp => by
          rcases List.mem_cons.mp hp with rfl | hp
          · exact ⟨heI, Ne.symm hIL, hI₀⟩
          rcases List.mem_cons.mp hp with rfl | hp
          · exact ⟨heC, hCL, hC₀⟩
          · refine ⟨hk₃ _ _ ?_ (N₂ p hp).1, (N₂ p hp).2⟩
            rcases List.mem_cons.mp hp with rfl | hp
            · exact hnD
            · exact (mem3 p hp).2.1
        have again : ∀ h₄, News h₀ L h₄ ((I, oI) :: (C, oC) :: (D, lst ys) :: news) → Fr h₀ L h₄ m → St (i + 1) h₄ := fun h₄ N₄ F₄ => W.frame _ _ _ hst₃ fun b hb o e => by
          rcases hfn b hb with rfl | ⟨o', ho'⟩ | ⟨o', ho'⟩
          · rw [heI] at e; cases e; exact (N₄ _ (.head _)).1
          · rw [F₃.keep _ _ ho'] at e; cases e; exact F₄.keep _ _ ho'
          · rw [(N₃ _ (.tail _ (.tail _ (.tail _ ho')))).1] at e; cases e; exact (N₄ _ (.tail _ (.tail _ (.tail _ ho')))).1
        refine wpAny_mono (turn i v ys oI C oC D m₃ h₃ tk₃ _ hlt' hPv hJ' hoC hB F₃ N₃ off3 ⟨hIC, hID, fun e => hnD e.symm⟩) (fun ok s₄ h₄ => ?_) fun _ _ e => e
        cases ok with
        | true =>
          simp only [if_true] at h₄ ⊢
          refine wpAny_mono h₄ (fun y s₅ h₅ => ?_) fun _ _ e => e
          refine hide fun G hG => ?_
          obtain ⟨h₅, tk₅, rfl, F₅, N₅, hJ₅⟩ := h₅
          refine hG ?_
          clear hG G
          have zC := (N₅ (C, oC) (.tail _ (.head _))).1
          have zD := (N₅ (D, lst ys) (.tail _ (.tail _ (.head _)))).1
          refine append_at (hsz := by show ys.toArray.size ≤ sizeLine; rw [List.size_toArray]; exact Nat.le_trans (Nat.le_trans hyl hi) hsz) zD fun h₆ hs₆ hD₆ => ?_
          refine ⟨n + 1 - (i + 1), by omega, h₆, tk₅, i + 1, ys ++ [y], _, rfl, hlt', rfl, by rw [List.length_append, List.length_singleton]; exact Nat.succ_le_succ hyl, W.frame _ _ _ (again _ N₅ F₅) fun b hb o e => hs₆.extBut b o (fun q => hDf (q ▸ hb)) e, F₅.change hs₆ hDL hD₀, (hoC.ns zC).sameBut hs₆ (Ne.symm hnD), fun p hp => ?_, hJ₅⟩
          rcases List.mem_cons.mp hp with rfl | hp
          · exact ⟨hD₆.trans (congrArg some (lst_snoc ys y)), hDL, hD₀⟩
          · have z := N₅ p (.tail _ (.tail _ (.tail _ hp)))
            exact ⟨hs₆.extBut _ _ (mem3 p hp).2.2 z.1, z.2⟩
        | false =>
          simp only [Bool.false_eq_true, if_false] at h₄ ⊢
          refine hide fun G hG => ?_
          obtain ⟨h₅, tk₅, rfl, F₅, N₅, hJ₅⟩ := h₄
          refine hG ?_
          clear hG G
          have zC := (N₅ (C, oC) (.tail _ (.head _))).1
          exact ⟨n + 1 - (i + 1), by omega, h₅, tk₅, i + 1, ys, _, rfl, hlt', rfl, Nat.le_succ_of_le hyl, again _ N₅ F₅, F₅, hoC.ns zC, fun p hp => N₅ p (.tail _ (.tail _ hp)), hJ₅⟩
      · obtain rfl : i = n := Nat.le_antisymm hi (Nat.not_lt.mp hlt')
        refine W.done _ _ _ hst' fun h₂ tk₂ hk₂ => ?_
        refine hRR D C h₂ tk₂ m' ys news (fr_but F' hk₂ hIL hI₀) (hn'.at' fun o e => hk₂ _ o (by simpa using Ne.symm hIC) e) hC₀ hCL (Ne.symm hnD) (fun p hp => (mem3 p hp).2.1) (news_but N' hk₂ fun p hp => ?_) fun h3 F3 N3 tk => fin D ys h3 tk hJ' hyl F3 N3 hlt
        rcases List.mem_cons.mp hp with rfl | hp
        · exact Ne.symm hID
        · exact (mem3 p hp).1
    · rcases List.mem_cons.mp hp with rfl | hp
      · exact ⟨hacc, hDL, hD₀⟩
      · exact ⟨old _ _ (N p hp).1, (N p hp).2⟩
  exact codeAny_compStart_list (loop _ rfl) (W.self 0 _ _ _ (W.frame _ _ _ hst fun b _ o e => old b o e) (loop _ rfl))
/-- [elt for tg in iter if ..] -/
theorem comp_gen {elt tg iter : Expr} {ifs : List Expr} {scope : Scope} {cl : List (Str × Addr)} {pos : Pos} {Q : Value → Shared → Prop}
    (hclos : closureFor scope env = pure cl) (hcell : ∀ y ∈ scope.names, y.2 ≠ .cell) (hkind : scope.kind = .function)
    (hnames : ∀ y ∈ scope.names, y.2 = .local → scope.names.lookup y.1 = some .local)
    (h : wpAny (model prog w) A (eval iter env) (fun xv s₁ => wpAny (model prog w) A (pyIter xv) (CW prog w A h₀ L m env tg ifs elt scope cl fun D _ _ s' => Q (.ref D) s') E s₁) E s)
    (hs : ∀ x, foldedSetIterable iter env x = pure x := by intro _; rfl) :
    wpAny (model prog w) A (eval (.ListComp elt [⟨tg, iter, ifs, 0⟩] scope pos) env) Q E s := by
  rw [eval_ListComp]
  refine wpAny_comprehension_free (use := none) rfl hs hclos hkind hnames (wpAny_mono h (fun xv s₁ h₁ => wpAny_mono h₁ (fun it s₂ h₂ => ?_) fun _ _ e => e) fun _ _ e => e)
  refine comp_block hcell hkind h₂ ?_
  intro D C h tk m' ys news F' hn hC₀ hCL hCD offC N' fin
  refine ⟨m', hn, fun h'' hs'' => fin h'' (F'.change hs'' hCL hC₀) (fun p hp => ?_) tk⟩
  refine ⟨hs''.extBut _ _ ?_ (N' p hp).1, (N' p hp).2⟩
  rcases List.mem_cons.mp hp with rfl | hp
  · exact Ne.symm hCD
  · exact offC p hp
/-- the target is a name -/
theorem asg_name {x : Str} {px : Pos} {scope : Scope} {cl : List (Str × Addr)} {I : Addr} (hkind : scope.kind = .function) (hx : scope.names.lookup x = some .local) {v : Value} {C : Addr} {m₀ : Str → Option Value} {s₁ : Shared} {Q' : Shared → Prop} {E' : Value → Shared → Prop}
    (hn : s₁.heap.Ns C m₀) (k : ∀ h' tk m₂, h'.Ns C m₂ → m₂ x = some v → (∀ b o, b ≠ C → s₁.heap.get? b = some o → h'.get? b = some o) → Q' { s₁ with heap := h', toks := tk }) :
      wpAny (model prog w) A (letOwnedTupleGo (.Name x px) (.ref I) v) (fun _ s₂ => wpAny (model prog w) A (assign (.Name x px) (compEnvC scope cl C env) v) (fun _ => Q') E' s₂) E' s₁ := by
  refine wpAny_pure (wpAny_assign_Name (wpAny_storeName_local (lookup_relabel_local hx) hn (fun h₃ hn₃ hs₃ => ?_) (by simp [compEnvC, relabel, hkind])))
  exact k h₃ _ _ hn₃ (by simp) fun b o hb e => hs₃.extBut b o hb e
/-- the source: the values of a dict -/
theorem cw_values {K : Type} [DecidableEq K] {knd : KeyKind prog w K} {elt : Expr} {ifs : List Expr} {x : Str} {px : Pos} {scope : Scope} {cl : List (Str × Addr)} {Fin : Addr → List Value → List (Addr × Obj) → Shared → Prop} {v d : Addr} {o : Obj} {kvs : List (K × Value)} {news : List (Addr × Obj)} (J : Nat → List Value → Prop)
    (hh : A.handled = none) (hkind : scope.kind = .function) (hx : scope.names.lookup x = some .local) (F : Fr h₀ L s.heap m) (N : News h₀ L s.heap news) (hv : (v, { cls := .type "dict_values", data := .fields #[.ref d] }) ∈ news) (hd : (d, o) ∈ news) (hdo : o.IsDictOf knd kvs) (hsz : kvs.length ≤ sizeLine) (hJ : J 0 [])
    (turn : ∀ i u ys I oI C oC D m₂ h tk (E' : Value → Shared → Prop), (kvs.map (·.2))[i]? = some u → J i ys → NsObj oC m₂ → m₂ x = some u → Fr h₀ L h m → News h₀ L h ((I, oI) :: (C, oC) :: (D, lst ys) :: news) → Off3 I C D news → ((@Ne Nat I C) ∧ (@Ne Nat I D) ∧ (@Ne Nat C D)) →
      wpAny (model prog w) A (forIn ifs true fun c r => if r = true then do let ok ← isTrue c (compEnvC scope cl C env) (eval c (compEnvC scope cl C env)); pure (ForInStep.yield ok) else pure (ForInStep.yield r)) (fun ok s₃ =>
        if ok = true then wpAny (model prog w) A (eval elt (compEnvC scope cl C env)) (fun y s₄ => CTurn h₀ L m { s with heap := h, toks := tk } ((I, oI) :: (C, oC) :: (D, lst ys) :: news) (J (i + 1) (ys ++ [y])) s₄) E' s₃
        else CTurn h₀ L m { s with heap := h, toks := tk } ((I, oI) :: (C, oC) :: (D, lst ys) :: news) (J (i + 1) ys) s₃) E' { s with heap := h, toks := tk })
    (fin : ∀ D ys h tk, J kvs.length ys → Fr h₀ L h m → News h₀ L h ((D, lst ys) :: news) → (∀ q ∈ news, q.1 < D) → Fin D ys news { s with heap := h, toks := tk }) :
    wpAny (model prog w) A (pyIter (.ref v)) (CW prog w A h₀ L m env (.Name x px) ifs elt scope cl Fin) E s := by
  obtain ⟨ep, hat⟩ := (kda_dict N hd hdo).dictAt
  have hne : d ≠ s.heap.objs.size := Nat.ne_of_lt (Heap.lt_size (N _ hd).1)
  refine wpAny_pyIter_values (knd := knd) ⟨_, (N _ hv).1, rfl, rfl⟩ hat ?_
  have up : ∀ (o' : Obj) b o, s.heap.get? b = some o → (s.heap.push o').get? b = some o := fun o' b o e => Heap.get?_push_of_some _ e
  refine ⟨s.heap.objs.size, _, kvs.length, _, _, news, fun _ u m₂ => m₂ x = some u, J, rfl, Walks.dictValues (knd := knd) hh s.heap.objs.size d hne kvs ep, hsz, fun i h st => let ⟨⟨o, ho, _⟩, _⟩ := st; ⟨o, ho⟩, ⟨⟨_, Heap.get?_push_size _ rfl, rfl, rfl⟩, hat.push _⟩, ?_, ?_,
    F.push _, N.grown (up _), Nat.ne_of_lt F.ns.lt, next_is_new F, fun p hp => Nat.ne_of_lt (Heap.lt_size (N p hp).1), hJ, fun _ _ _ _ _ _ _ _ _ _ _ hn k => asg_name hkind hx hn k, ?_, ?_⟩
  · intro b hb
    show b < (s.heap.push _).objs.size
    rw [Heap.size_push]
    rcases List.mem_cons.mp hb with rfl | hb
    · exact Nat.lt_succ_self _
    · rw [List.mem_singleton.mp hb]; exact Nat.lt_succ_of_lt (Heap.lt_size (N _ hd).1)
  · intro b hb
    rcases List.mem_cons.mp hb with rfl | hb
    · exact .inl rfl
    · rw [List.mem_singleton.mp hb]; exact .inr (.inr ⟨_, hd⟩)
  · intro i u ys oI C oC D m₂ h tk E' hi hP hJ' hC hB F' N' o3 ne
    obtain ⟨k, hk⟩ := hP
    exact turn i u ys _ oI C oC D m₂ h tk E' (by rw [List.getElem?_map, hk]; rfl) hJ' hC hB F' N' o3 ne
  · intro D ys h tk hJ' _ F' N' hlt
    exact fin D ys h tk hJ' F' N' hlt
/-- the source: a list of the ledger -/
theorem cw_list {elt tg : Expr} {ifs : List Expr} {scope : Scope} {cl : List (Str × Addr)} {Fin : Addr → List Value → List (Addr × Obj) → Shared → Prop} {l : Addr} {vs : List Value} {ep : Nat} {news : List (Addr × Obj)} (Bd : Nat → Value → (Str → Option Value) → Prop) (J : Nat → List Value → Prop)
    (hh : A.handled = none) (F : Fr h₀ L s.heap m) (N : News h₀ L s.heap news) (hl : (l, listOf vs.toArray ep) ∈ news) (hsz : vs.length ≤ sizeLine) (hJ : J 0 [])
    (asg : ∀ I i v C m₀ (s₁ : Shared) Q' E', i < vs.length → vs[i]? = some v → (∃ l i, s₁.heap.IsListIter I l i) → News h₀ L s₁.heap news → s₁.heap.Ns C m₀ → (∀ h' tk m₂, h'.Ns C m₂ → Bd i v m₂ → (∀ b o, b ≠ C → s₁.heap.get? b = some o → h'.get? b = some o) → Q' { s₁ with heap := h', toks := tk }) →
      wpAny (model prog w) A (letOwnedTupleGo tg (.ref I) v) (fun _ s₂ => wpAny (model prog w) A (assign tg (compEnvC scope cl C env) v) (fun _ => Q') E' s₂) E' s₁)
    (turn : ∀ i u ys I oI C oC D m₂ h tk (E' : Value → Shared → Prop), vs[i]? = some u → J i ys → NsObj oC m₂ → Bd i u m₂ → Fr h₀ L h m → News h₀ L h ((I, oI) :: (C, oC) :: (D, lst ys) :: news) → Off3 I C D news → ((@Ne Nat I C) ∧ (@Ne Nat I D) ∧ (@Ne Nat C D)) →
      wpAny (model prog w) A (forIn ifs true fun c r => if r = true then do let ok ← isTrue c (compEnvC scope cl C env) (eval c (compEnvC scope cl C env)); pure (ForInStep.yield ok) else pure (ForInStep.yield r)) (fun ok s₃ =>
        if ok = true then wpAny (model prog w) A (eval elt (compEnvC scope cl C env)) (fun y s₄ => CTurn h₀ L m { s with heap := h, toks := tk } ((I, oI) :: (C, oC) :: (D, lst ys) :: news) (J (i + 1) (ys ++ [y])) s₄) E' s₃
        else CTurn h₀ L m { s with heap := h, toks := tk } ((I, oI) :: (C, oC) :: (D, lst ys) :: news) (J (i + 1) ys) s₃) E' { s with heap := h, toks := tk })
    (fin : ∀ D ys h tk, J vs.length ys → ys.length ≤ vs.length → Fr h₀ L h m → News h₀ L h ((D, lst ys) :: news) → (∀ q ∈ news, q.1 < D) → Fin D ys news { s with heap := h, toks := tk }) :
    wpAny (model prog w) A (pyIter (.ref l)) (CW prog w A h₀ L m env tg ifs elt scope cl Fin) E s := by
  have hls : s.heap.IsList l vs.toArray := ⟨_, (N _ hl).1, rfl, _, rfl⟩
  have hne : l ≠ s.heap.objs.size := Nat.ne_of_lt (Heap.lt_size (N _ hl).1)
  refine wpAny_pyIter_list hls ?_
  have up : ∀ (o' : Obj) b o, s.heap.get? b = some o → (s.heap.push o').get? b = some o := fun o' b o e => Heap.get?_push_of_some _ e
  have W := Walks.list (prog := prog) (w := w) hh s.heap.objs.size l hne vs.toArray
  have hlen : vs.toArray.size = vs.length := by simp
  rw [hlen] at W
  refine ⟨s.heap.objs.size, _, vs.length, _, _, news, Bd, J, rfl, W, hsz, fun i h st => let ⟨⟨o, ho, _⟩, _⟩ := st; ⟨o, ho⟩, ⟨⟨_, Heap.get?_push_size _ rfl, rfl, rfl⟩, hls.push _⟩, ?_, ?_,
    F.push _, N.grown (up _), Nat.ne_of_lt F.ns.lt, next_is_new F, fun p hp => Nat.ne_of_lt (Heap.lt_size (N p hp).1), hJ, ?_, ?_, ?_⟩
  · intro b hb
    show b < (s.heap.push _).objs.size
    rw [Heap.size_push]
    rcases List.mem_cons.mp hb with rfl | hb
    · exact Nat.lt_succ_self _
    · rw [List.mem_singleton.mp hb]; exact Nat.lt_succ_of_lt (Heap.lt_size (N _ hl).1)
  · intro b hb
    rcases List.mem_cons.mp hb with rfl | hb
    · exact .inl rfl
    · rw [List.mem_singleton.mp hb]; exact .inr (.inr ⟨_, hl⟩)
  · intro i v C m₀ s₁ Q' E' hi hP st N' hn k
    exact asg _ i v C m₀ s₁ Q' E' hi (by simpa using hP) ⟨_, _, st.1⟩ N' hn k
  · intro i u ys oI C oC D m₂ h tk E' hi hP hJ' hC hB F' N' o3 ne
    exact turn i u ys _ oI C oC D m₂ h tk E' (by simpa using hP) hJ' hC hB F' N' o3 ne
  · intro D ys h tk hJ' hl' F' N' hlt
    exact fin D ys h tk hJ' hl' F' N' hlt
end
end
section
set_option maxHeartbeats 8000000
theorem frag_on8 : (fun (_ : Params → Frag) => PySem.Challenge.rw_cy0005_01.Holds) KF → True := by
  k_fill
  intro _; trivial
open PySem.Calls PyProof.Rows.TI
section
variable {w : World} {A₀ A : Around} {base h₀ : Heap} {outer : List Env} {env : Env} {L : Addr} {m mg mb : Str → Option Value} {p : Program} {loose : List Str} {mean : ExcName → Option Value} {s : Shared}
  {R : Result → Shared → Prop} {news : List (Addr × Obj)}
theorem c_prepare {σ : Srt} {po nf : Value} {oN : Obj} {xs : List NI} {rest frs : List (Addr × Obj)} {n : Nat}
    (hh : A.handled = none) (hfr : A.frames = some (env :: outer)) (hdp : A.depth < 700) (hf : env.frame = some L) (hke : env.scope.kind = .function) (Fs : Frs outer frs) (hra : ∀ q ∈ rest, ∀ r ∈ frs, q.1 ≠ r.1)
    (X₀ : (KF w.params).In h₀) (T : Top p loose mean mg mb h₀) (F : Fr h₀ L s.heap m)
    (hs : SOK σ xs (rest ++ frs) n) (hn : n ≤ 6000) (hxk : xs.length ≤ 1000) (hcl : Closed xs) (hup : ∀ x ∈ xs, ∀ v ∈ x.sv, x.node < intOf v) (hdN : oN.IsDictOf (intKind Pr w) (kvsN xs))
    (N : News h₀ L s.heap (ledS σ w .none po nf oN xs (rest ++ frs)))
    (hq : ∀ h' tk' frs' (Rl : Addr) (rs : List Value) (ep : Nat), SameUp frs frs' → Fr h₀ L h' m → (∀ v ∈ rs, IsI v) → rs.map intOf = (xs.filter fun x => decide (x.np = 0)).map (·.node) →
      (∀ q ∈ ledS σ w .none po nf oN xs (rest ++ frs), q.1 < Rl) → News h₀ L h' ((Rl, listOf rs.toArray ep) :: ledS σ w (.ref Rl) po nf oN xs (rest ++ frs')) → R (.ok (.ret .none)) { s with heap := h', toks := tk' }) :
    codeAny (model Pr w) A (.call (.ref 85) ⟨[.ref σ.S], []⟩) R s := by
  obtain ⟨_, d, _, gs, u⟩ := A
  dsimp only at hh hfr hdp
  subst hh hfr
  refine' enter_def (binds := [(Str.ofString "self", .ref σ.S)]) F X₀ N T ?k6 ?k7 ?k8 ?k9 ?kB ?_ ?c2 ?c3 ?c4 ?c5
  case k6 => k_is
  case k7 => k_is
  case k8 => k_room
  case k9 => exact BindsTo.of_eq rfl
  case c5 => decide
  case kB => exact locs rfl
  case c2 => exact rfl
  case c3 => exact rfl
  case c4 => exact rfl
  intro L' h' oL hoL hback hlt F' N'
  replace N' : News h₀ L' h' (ledS σ w .none po nf oN xs (rest ++ ((L, oL) :: frs))) := News.sub N' (by walk_at "sub")
  (try dsimp only)
  (try k_fold)
  (repeat' (((fail_if_success with_reducible first | show wpAny _ _ (call (Value.ref _) _ _) _ _ _ | show wpAny _ _ (exec (Stmt.For _ _ _ _ _) _) _ _ _ | show wpAny _ _ (exec (Stmt.While _ _ _ _) _) _ _ _ | show wpAny _ _ (pyIter _) _ _ _)); ((fail_if_success with_reducible first | show wpAny _ _ (eval (PySem.Expr.ListComp _ _ _ _) _) _ _ _)); (fail_if_success with_reducible first | show wpAny _ _ (getMethod (Value.ref _) _ _) _ _ _); ((fail_if_success with_reducible first | show wpAny _ _ (subscriptTail _ _ _ _) _ _ _)); ((fail_if_success with_reducible first | show wpAny _ _ (truthy (Value.ref _)) _ _ _ | show wpAny _ _ (callWith _ (Value.ref _) _ _ _) _ _ _)); ((fail_if_success with_reducible first | show wpAny _ _ (call (Value.type "tuple") _ _) _ _ _)); ((first | (k_unfold; (try dsimp only)) | (k_end; wrow_close) | walk1 | (dsimp only; walk1) | (leave1; walk_say "STEP leave1"; try dsimp only) | fail "no step"))))
  refine comp_gen (cl := []) (h₀ := h₀) (L := L') (m := fun y => List.lookup y [(Str.ofString "self", Value.ref σ.S)].reverse) (by with_unfolding_all rfl) (by decide) rfl (by decide) ?_
  (repeat' (((fail_if_success with_reducible first | show wpAny _ _ (call (Value.ref _) _ _) _ _ _ | show wpAny _ _ (exec (Stmt.For _ _ _ _ _) _) _ _ _ | show wpAny _ _ (exec (Stmt.While _ _ _ _) _) _ _ _ | show wpAny _ _ (pyIter _) _ _ _)); ((fail_if_success with_reducible first | show wpAny _ _ (eval (PySem.Expr.ListComp _ _ _ _) _) _ _ _)); (fail_if_success with_reducible first | show wpAny _ _ (getMethod (Value.ref _) _ _) _ _ _); ((fail_if_success with_reducible first | show wpAny _ _ (subscriptTail _ _ _ _) _ _ _)); ((fail_if_success with_reducible first | show wpAny _ _ (truthy (Value.ref _)) _ _ _ | show wpAny _ _ (callWith _ (Value.ref _) _ _ _) _ _ _)); ((fail_if_success with_reducible first | show wpAny _ _ (call (Value.type "tuple") _ _) _ _ _)); ((first | (k_unfold; (try dsimp only)) | (k_end; wrow_close) | walk1 | (dsimp only; walk1) | (leave1; walk_say "STEP leave1"; try dsimp only) | fail "no step"))))
  refine kdl_method (knd := intKind _ _) PySem.F.slot_dict_values PySem.F.type_dict_values (by k_asm) (by k_mem) hdN ?_
  (repeat' (((fail_if_success with_reducible first | show wpAny _ _ (call (Value.ref _) _ _) _ _ _ | show wpAny _ _ (exec (Stmt.For _ _ _ _ _) _) _ _ _ | show wpAny _ _ (exec (Stmt.While _ _ _ _) _) _ _ _ | show wpAny _ _ (pyIter _) _ _ _)); ((fail_if_success with_reducible first | show wpAny _ _ (eval (PySem.Expr.ListComp _ _ _ _) _) _ _ _)); (fail_if_success with_reducible first | show wpAny _ _ (getMethod (Value.ref _) _ _) _ _ _); ((fail_if_success with_reducible first | show wpAny _ _ (subscriptTail _ _ _ _) _ _ _)); ((fail_if_success with_reducible first | show wpAny _ _ (truthy (Value.ref _)) _ _ _ | show wpAny _ _ (callWith _ (Value.ref _) _ _ _) _ _ _)); ((fail_if_success with_reducible first | show wpAny _ _ (call (Value.type "tuple") _ _) _ _ _)); ((first | (k_unfold; (try dsimp only)) | (k_end; wrow_close) | walk1 | (dsimp only; walk1) | (leave1; walk_say "STEP leave1"; try dsimp only) | fail "no step"))))
  dsimp only
  refine kdl_view_values (knd := intKind _ _) (by k_asm) (by k_asm) (by k_mem) hdN hs.lo ?_
  intro V h1 F1 N1 l1
  refine cw_values (knd := intKind _ _) (fun i ys => (∀ v ∈ ys, IsI v) ∧ ys.map intOf = ((xs.take i).filter fun x => decide (x.np = 0)).map (·.node)) rfl rfl rfl F1 N1 (.head _) (by simp [ledS]) hdN (by simp only [kvsN, List.length_map]; rw [sizeLine_eq]; have := hs.len; omega) ⟨fun _ h => (nomatch h), rfl⟩ ?_ ?_
  · intro i u ys I oI C oC D m₂ h2 tk2 E' hu hJ hC hm₂ F2 N2 o3 ne3
    obtain ⟨x, hx, hxu⟩ : ∃ x, xs[i]? = some x ∧ u = .ref x.info := by
      simp only [kvsN, List.map_map, List.getElem?_map] at hu
      cases e : xs[i]? with
      | none => rw [e] at hu; cases hu
      | some x => rw [e] at hu; cases hu; exact ⟨x, rfl, rfl⟩
    subst hxu
    have hmem : ∀ q ∈ x.led, q ∈ (I, oI) :: (C, oC) :: (D, LCg.lst ys) :: (V, ({ cls := .type "dict_values", data := .fields #[.ref σ.Nd] } : Obj)) :: ledS σ w .none po nf oN xs (rest ++ (L, oL) :: frs) := fun q hq => by
      have : q ∈ ledN xs := List.mem_flatMap.mpr ⟨x, List.mem_of_getElem? hx, hq⟩
      exact .tail _ (.tail _ (.tail _ (.tail _ (ledS_node this))))
    refine wpAny_tests_one ?_
    have N3 := News.dup (e := x.led) N2 hmem
    have e1 : xs.take (i + 1) = xs.take i ++ [x] := by rw [List.take_add_one, hx]; rfl
    have hyes : x.np = 0 → ∀ t, (∀ v ∈ ys ++ [Value.int x.node t], IsI v) ∧ (ys ++ [Value.int x.node t]).map intOf = ((xs.take (i + 1)).filter fun x => decide (x.np = 0)).map (·.node) := by
      intro h t
      refine ⟨fun v hv => ?_, ?_⟩
      · rcases List.mem_append.mp hv with h | h
        · exact hJ.1 v h
        · rw [List.mem_singleton.mp h]; exact ⟨_, _, rfl⟩
      · rw [e1, List.filter_append, List.map_append, List.map_append, hJ.2]; simp [h, intOf]
    have hno : ¬ x.np = 0 → (∀ v ∈ ys, IsI v) ∧ ys.map intOf = ((xs.take (i + 1)).filter fun x => decide (x.np = 0)).map (·.node) := by
      intro h
      refine ⟨hJ.1, ?_⟩
      rw [e1, List.filter_append, hJ.2]; simp [h]
    simp only [NI.led, List.cons_append, List.nil_append] at N3
    generalize hled : (I, oI) :: (C, oC) :: (D, LCg.lst ys) :: (V, ({ cls := .type "dict_values", data := .fields #[.ref σ.Nd] } : Obj)) :: ledS σ w .none po nf oN xs (rest ++ (L, oL) :: frs) = led at N3 N2 ⊢
    have hCl : (C, oC) ∈ led := by rw [← hled]; exact .tail _ (.head _)
    replace N3 := News.dup (e := [(C, oC)]) N3 (fun q hq => by rw [List.mem_singleton.mp hq]; exact .tail _ (.tail _ (.tail _ hCl)))
    simp only [List.cons_append, List.nil_append] at N3
    clear hq hback hlt l1 hmem
    (repeat' (((fail_if_success with_reducible first | show wpAny _ _ (call (Value.ref _) _ _) _ _ _ | show wpAny _ _ (exec (Stmt.For _ _ _ _ _) _) _ _ _ | show wpAny _ _ (exec (Stmt.While _ _ _ _) _) _ _ _ | show wpAny _ _ (pyIter _) _ _ _)); ((fail_if_success with_reducible first | show wpAny _ _ (eval (PySem.Expr.ListComp _ _ _ _) _) _ _ _)); (fail_if_success with_reducible first | show wpAny _ _ (getMethod (Value.ref _) _ _) _ _ _); ((fail_if_success with_reducible first | show wpAny _ _ (subscriptTail _ _ _ _) _ _ _)); ((fail_if_success with_reducible first | show wpAny _ _ (truthy (Value.ref _)) _ _ _ | show wpAny _ _ (callWith _ (Value.ref _) _ _ _) _ _ _)); ((fail_if_success with_reducible first | show wpAny _ _ (call (Value.type "tuple") _ _) _ _ _)); ((first | (k_unfold; (try dsimp only)) | (k_end; wrow_close) | walk1 | (dsimp only; walk1) | (leave1; walk_say "STEP leave1"; try dsimp only) | fail "no step"))))
    · exact ⟨h2, _, rfl, F2, N2, hyes (by assumption) _⟩
    · exact ⟨h2, _, rfl, F2, N2, hno (by assumption)⟩
  · rintro Rl ys h2 tk2 ⟨hys, hyn⟩ F2 N2 l2
    obtain ⟨ro, hro⟩ : ∃ ro, ledN xs ++ (rest ++ (L, oL) :: frs) = ro := ⟨_, rfl⟩
    have nd := hs.nd
    unfold addrS at nd
    simp only [List.nodup_cons, List.mem_cons, not_or] at nd
    have f1 : @Ne Nat σ.S σ.D := nd.1.1
    have f2 : @Ne Nat σ.D σ.Nd := nd.2.1.1
    have f3 : @LT.lt Nat _ σ.D Rl := l2 (σ.D, σ.d w .none po nf) (by simp [ledS])
    have f5 : @LT.lt Nat _ σ.D V := l1 (σ.D, σ.d w .none po nf) (by simp [ledS])
    have f4 : ∀ q ∈ ro, q.1 ≠ σ.D := fun q hq => by
      rw [← hro] at hq
      simp only [List.mem_append, List.mem_cons] at hq
      rcases hq with h | h | rfl | h
      · exact fun e => nd.2.1.2 (by rw [← e, ← map_ledN]; exact List.mem_map_of_mem h)
      · exact hs.off σ.D (by unfold addrS; simp) q (List.mem_append_left _ h)
      · exact fun e => (N (σ.D, σ.d w .none po nf) (by simp [ledS])).2.1 e.symm
      · exact hs.off σ.D (by unfold addrS; simp) q (List.mem_append_right _ h)
    replace N2 : News h₀ L' h2 ((Rl, LCg.lst ys) :: (V, ({ cls := .type "dict_values", data := .fields #[.ref σ.Nd] } : Obj)) :: (σ.S, instObj 130 σ.D) :: (σ.D, σ.d w .none po nf) :: (σ.Nd, oN) :: ro) := hro ▸ N2
    clear N1 N'
    (repeat' (((fail_if_success with_reducible first | show wpAny _ _ (call (Value.ref _) _ _) _ _ _ | show wpAny _ _ (exec (Stmt.For _ _ _ _ _) _) _ _ _ | show wpAny _ _ (exec (Stmt.While _ _ _ _) _) _ _ _ | show wpAny _ _ (pyIter _) _ _ _)); ((fail_if_success with_reducible first | show wpAny _ _ (call (Value.type "tuple") _ _) _ _ _)); ((first | (k_unfold; (try dsimp only)) | (k_end; wrow_close) | walk1 | (dsimp only; walk1) | (leave1; walk_say "STEP leave1"; try dsimp only) | fail "no step"))))
    rename News h₀ L' _ _ => N3
    rename Fr h₀ L' _ _ => F3
    have N4 : News h₀ L' _ (ledS σ w (.ref Rl) po nf oN xs (((Rl, LCg.lst ys) :: (V, ({ cls := .type "dict_values", data := .fields #[.ref σ.Nd] } : Obj)) :: rest) ++ (L, oL) :: frs)) := News.sub N3 (by rw [← hro]; walk_at "sub")
    have hs4 : SOK σ xs (((Rl, LCg.lst ys) :: (V, ({ cls := .type "dict_values", data := .fields #[.ref σ.Nd] } : Obj)) :: rest) ++ (L, oL) :: frs) n := by
      refine ⟨hs.nd, fun a ha q hq => ?_, hs.keys, hs.isi, hs.len, hs.slen, hs.lo⟩
      obtain ⟨q', hq', e⟩ := addrS_led (w := w) (rv := .none) (po := po) (nf := nf) (oN := oN) (rest := rest ++ (L, oL) :: frs) a ha
      obtain ⟨q2, hq2, e2⟩ := addrS_led (w := w) (rv := .none) (po := po) (nf := nf) (oN := oN) (rest := rest ++ frs) a ha
      simp only [List.cons_append, List.mem_cons, List.mem_append] at hq
      rcases hq with rfl | rfl | h | rfl | h
      · exact fun e' => absurd (l2 q' (.tail _ hq')) (by rw [e, ← e']; exact Nat.lt_irrefl _)
      · exact fun e' => absurd (l1 q' hq') (by rw [e, ← e']; exact Nat.lt_irrefl _)
      · exact hs.off a ha q (List.mem_append_left _ h)
      · exact fun e' => (N q2 hq2).2.1 (e2.trans e'.symm)
      · exact hs.off a ha q (List.mem_append_right _ h)
    have hLn : ∀ q ∈ ledS σ w .none po nf oN xs (rest ++ frs), @LT.lt Nat _ q.1 V ∧ @LT.lt Nat _ q.1 Rl := fun q hq => by
      have hq' : q ∈ ledS σ w .none po nf oN xs (rest ++ (L, oL) :: frs) := (by walk_at "sub" : ∀ q ∈ ledS σ w .none po nf oN xs (rest ++ frs), q ∈ ledS σ w .none po nf oN xs (rest ++ (L, oL) :: frs)) q hq
      exact ⟨l1 q hq', l2 q (.tail _ hq')⟩
    have hLV : @LT.lt Nat _ L V ∧ @LT.lt Nat _ L Rl := by
      have hq' : (L, oL) ∈ ledS σ w .none po nf oN xs (rest ++ (L, oL) :: frs) := by simp [ledS]
      exact ⟨l1 _ hq', l2 _ (.tail _ hq')⟩
    have hVR : @LT.lt Nat _ V Rl := l2 _ (.head _)
    have ap : ∀ q ∈ ((Rl, LCg.lst ys) :: (V, ({ cls := .type "dict_values", data := .fields #[.ref σ.Nd] } : Obj)) :: rest), ∀ r ∈ (L, oL) :: frs, q.1 ≠ r.1 := by
      intro q hq r hr
      have hr' : @LT.lt Nat _ r.1 V ∧ @LT.lt Nat _ r.1 Rl := by
        rcases List.mem_cons.mp hr with rfl | hr
        · exact hLV
        · exact hLn r (ledS_rest (List.mem_append_right _ hr))
      rcases List.mem_cons.mp hq with rfl | hq
      · k_ne
      rcases List.mem_cons.mp hq with rfl | hq
      · k_ne
      rcases List.mem_cons.mp hr with rfl | hr
      · exact (N q (ledS_rest (List.mem_append_left _ hq))).2.1
      · exact hra q hq r hr
    refine wpAny_call (c_find_cycle (frs := (L, oL) :: frs) rfl rfl (by k_room) rfl rfl ⟨by rw [hke]; decide, hf, hoL, Fs⟩ ap X₀ T F3 hs4 hn hxk hcl hup hdN N4 ?_)
    intro h5 tk5 frs5 hsu F5 N5
    have post : ∀ h5 m5, Fr h₀ L' h5 m5 → News h₀ L' h5 (ledS σ w (.ref Rl) po nf oN xs (((Rl, LCg.lst ys) :: (V, ({ cls := .type "dict_values", data := .fields #[.ref σ.Nd] } : Obj)) :: rest) ++ frs5)) → ∃ frs', SameUp frs frs' ∧ Fr h₀ L h5 m ∧ News h₀ L h5 ((Rl, listOf ys.toArray ys.length) :: ledS σ w (.ref Rl) po nf oN xs (rest ++ frs')) := by
      clear N5 F5
      intro h5 m5 F5 N5
      cases frs5 with
      | nil => exact hsu.elim
      | cons q fr =>
        obtain ⟨q1, qo⟩ := q
        obtain ⟨e1, ⟨sl, e2⟩, hfr'⟩ := hsu
        replace e1 : q1 = L := e1
        replace e2 : qo = { oL with slots := sl } := e2
        have hL : h5.get? L = some { oL with slots := sl } := by
          have := (N5 (q1, qo) (by simp [ledS])).1
          rw [e1, e2] at this
          exact this
        refine ⟨fr, hfr', hback h5 sl hL F5.keep, ?_⟩
        intro q hqm
        have hm : q ∈ ledS σ w (.ref Rl) po nf oN xs (((Rl, LCg.lst ys) :: (V, ({ cls := .type "dict_values", data := .fields #[.ref σ.Nd] } : Obj)) :: rest) ++ (q1, qo) :: fr) := by
          exact (by walk_at "sub" : ∀ q ∈ (Rl, listOf ys.toArray ys.length) :: ledS σ w (.ref Rl) po nf oN xs (rest ++ fr), q ∈ ledS σ w (.ref Rl) po nf oN xs (((Rl, LCg.lst ys) :: (V, ({ cls := .type "dict_values", data := .fields #[.ref σ.Nd] } : Obj)) :: rest) ++ (q1, qo) :: fr)) q hqm
        refine ⟨(N5 q hm).1, ?_, (N5 q hm).2.2⟩
        rcases List.mem_cons.mp hqm with rfl | hqm
        · k_ne
        · have hqa : q.1 ∈ (ledS σ w .none po nf oN xs (rest ++ frs)).map (·.1) := by
            have := List.mem_map_of_mem (f := fun q : Addr × Obj => q.1) hqm
            rw [map_ledS, List.map_append, sameUp_map hfr', ← List.map_append] at this
            rw [map_ledS]; exact this
          obtain ⟨q', h1, h2⟩ := List.mem_map.mp hqa
          rw [← h2]
          exact (N q' h1).2.1
    have hl : ∀ q ∈ ledS σ w .none po nf oN xs (rest ++ frs), q.1 < Rl := fun q hq => (hLn q hq).2
    have hfin : ∀ h5 m5, Fr h₀ L' h5 m5 → News h₀ L' h5 (ledS σ w (.ref Rl) po nf oN xs (((Rl, LCg.lst ys) :: (V, ({ cls := .type "dict_values", data := .fields #[.ref σ.Nd] } : Obj)) :: rest) ++ frs5)) → ∀ tk', R (.ok (.ret .none)) { s with heap := h5, toks := tk' } := fun h5 m5 F5 N5 tk' => by
      obtain ⟨frs6, hsu6, F6, N6⟩ := post h5 m5 F5 N5
      exact hq h5 tk' frs6 Rl ys ys.length hsu6 F6 hys (by rw [hyn]; simp [kvsN]) hl N6
    clear hq hback hlt l1 N3 N4 hs4 N hLn hl ap post
    (repeat' (((fail_if_success with_reducible first | show wpAny _ _ (call (Value.ref _) _ _) _ _ _ | show wpAny _ _ (exec (Stmt.For _ _ _ _ _) _) _ _ _ | show wpAny _ _ (exec (Stmt.While _ _ _ _) _) _ _ _ | show wpAny _ _ (pyIter _) _ _ _)); ((fail_if_success with_reducible first | show wpAny _ _ (call (Value.type "tuple") _ _) _ _ _)); ((first | (k_unfold; (try dsimp only)) | (k_end; wrow_close) | walk1 | (dsimp only; walk1) | (leave1; walk_say "STEP leave1"; try dsimp only) | fail "no step"))))
    exact hfin _ _ (by assumption) (by assumption) _
end
end
section
set_option maxHeartbeats 1000000
/-! plain theory: a graph G (node, successors), the numbers f (predecessors not yet done; -1 out; -2 done) -/
noncomputable abbrev Gr := List (Int × List Int)
noncomputable def keysG (G : Gr) : List Int := G.map (·.1)
noncomputable def mkP (G : Gr) (f : Int → Int) : List PN := G.map fun g => ⟨g.1, f g.1, g.2⟩
noncomputable def upd (f : Int → Int) (k c : Int) : Int → Int := fun x => if x = k then c else f x
noncomputable def succG (G : Gr) (k : Int) : List Int := ((G.find? fun g => g.1 = k).map (·.2)).getD []
noncomputable def decF (st : (Int → Int) × List Int) (s : Int) : (Int → Int) × List Int := (upd st.1 s (st.1 s - 1), if st.1 s - 1 = 0 then st.2 ++ [s] else st.2)
noncomputable def doneF (G : Gr) (st : (Int → Int) × List Int) (k : Int) : (Int → Int) × List Int := (succG G k).foldl decF (upd st.1 k (-2), st.2)
noncomputable def outF (f : Int → Int) (k : Int) : Int → Int := upd f k (-1)
noncomputable def roundF (G : Gr) (f : Int → Int) (ready : List Int) : (Int → Int) × List Int := ready.foldl (doneF G) (ready.foldl outF f, [])
noncomputable def ordF (G : Gr) : Nat → (Int → Int) → List Int → List Int
  | 0, _, _ => []
  | n + 1, f, ready => if ready = [] then [] else ready ++ ordF G n (roundF G f ready).1 (roundF G f ready).2
theorem upd_self (f : Int → Int) (k c : Int) : upd f k c k = c := by simp [upd]
theorem upd_ne {f : Int → Int} {k c x : Int} (h : x ≠ k) : upd f k c x = f x := by simp [upd, h]
theorem modP_mk (G : Gr) (f : Int → Int) (k : Int) (g : PN → Int) (c : Int) (hg : ∀ l, g ⟨k, f k, l⟩ = c) : modP (mkP G f) k (fun p => { p with np := g p }) = mkP G (upd f k c) := by
  unfold modP mkP
  rw [List.map_map]
  refine List.map_congr_left fun x _ => ?_
  simp only [Function.comp]
  by_cases h : x.1 = k
  · subst h; simp only [if_true, upd_self, hg]
  · rw [if_neg h, upd_ne h]
theorem lookP_mk {G : Gr} {f : Int → Int} {k : Int} (hk : k ∈ keysG G) : lookP (mkP G f) k = some ⟨k, f k, succG G k⟩ := by
  unfold lookP mkP succG
  induction G with
  | nil => simp [keysG] at hk
  | cons g r ih =>
    simp only [List.map_cons, List.find?_cons]
    by_cases h : g.1 = k
    · subst h; simp
    · have : k ∈ keysG r := by
        simp only [keysG, List.map_cons, List.mem_cons] at hk
        rcases hk with e | hk
        · exact absurd e.symm h
        · exact hk
      simp only [h, decide_false]; exact ih this
theorem decP_mk {G : Gr} {f : Int → Int} {r : List Int} {s : Int} (hk : s ∈ keysG G) : decP (mkP G f, r) s = (mkP G (decF (f, r) s).1, (decF (f, r) s).2) := by
  unfold decP decF
  rw [modP_mk G f s (fun p => p.np - 1) (f s - 1) (fun _ => rfl), lookP_mk hk]
  simp
theorem decsP_mk {G : Gr} : ∀ {l : List Int} {f : Int → Int} {r : List Int}, (∀ s ∈ l, s ∈ keysG G) → l.foldl decP (mkP G f, r) = (mkP G (l.foldl decF (f, r)).1, (l.foldl decF (f, r)).2)
  | [], _, _, _ => rfl
  | s :: l, f, r, h => by
    rw [List.foldl_cons, List.foldl_cons, decP_mk (h s (.head _))]
    exact decsP_mk fun x hx => h x (.tail _ hx)
noncomputable def ClosedG (G : Gr) : Prop := ∀ g ∈ G, ∀ s ∈ g.2, s ∈ keysG G
theorem succG_mem {G : Gr} {k s : Int} (h : s ∈ succG G k) : ∃ g ∈ G, g.1 = k ∧ s ∈ g.2 := by
  unfold succG at h
  cases e : G.find? fun g => g.1 = k with
  | none => rw [e] at h; simp at h
  | some g =>
    rw [e] at h
    exact ⟨g, List.mem_of_find?_eq_some e, by simpa using List.find?_some e, by simpa using h⟩
theorem doneP_mk {G : Gr} (hc : ClosedG G) {f : Int → Int} {r : List Int} {k : Int} (hk : k ∈ keysG G) : doneP (mkP G f, r) k = (mkP G (doneF G (f, r) k).1, (doneF G (f, r) k).2) := by
  unfold doneP doneF
  rw [lookP_mk hk, modP_mk G f k (fun _ => -2) (-2) (fun _ => rfl)]
  refine decsP_mk fun s hs => ?_
  obtain ⟨g, hg, _, h⟩ := succG_mem (by simpa using hs)
  exact hc g hg s h
theorem donesP_mk {G : Gr} (hc : ClosedG G) : ∀ {l : List Int} {f : Int → Int} {r : List Int}, (∀ s ∈ l, s ∈ keysG G) → l.foldl doneP (mkP G f, r) = (mkP G (l.foldl (doneF G) (f, r)).1, (l.foldl (doneF G) (f, r)).2)
  | [], _, _, _ => rfl
  | s :: l, f, r, h => by
    rw [List.foldl_cons, List.foldl_cons, doneP_mk hc (h s (.head _))]
    exact donesP_mk hc fun x hx => h x (.tail _ hx)
theorem outsP_mk {G : Gr} : ∀ {l : List Int} {f : Int → Int}, l.foldl outP (mkP G f) = mkP G (l.foldl outF f)
  | [], _ => rfl
  | s :: l, f => by
    rw [List.foldl_cons, List.foldl_cons]
    have : outP (mkP G f) s = mkP G (outF f s) := modP_mk G f s (fun _ => -1) (-1) (fun _ => rfl)
    rw [this]; exact outsP_mk
/-! the successors of one node, one after the other -/
noncomputable def newOf : (Int → Int) → List Int → List Int
  | _, [] => []
  | f, s :: l => (if f s - 1 = 0 then [s] else []) ++ newOf (upd f s (f s - 1)) l
theorem decs_eq : ∀ (l : List Int) (f : Int → Int) (r : List Int), l.foldl decF (f, r) = (fun x => f x - l.count x, r ++ newOf f l)
  | [], f, r => by simp [newOf]
  | s :: l, f, r => by
    rw [List.foldl_cons]
    have : decF (f, r) s = (upd f s (f s - 1), r ++ (if f s - 1 = 0 then [s] else [])) := by
      unfold decF; by_cases h : f s - 1 = 0 <;> simp [h]
    rw [this, decs_eq l]
    refine Prod.ext ?_ ?_
    · funext x
      simp only [upd, List.count_cons]
      by_cases h : x = s
      · subst h; simp; omega
      · have h' : ¬ (s == x) = true := by simpa using fun e => h e.symm
        simp only [h, if_false]; simp [h']
    · simp only [newOf, List.append_assoc]
theorem newOf_mem : ∀ {l : List Int} {f : Int → Int}, (∀ s ∈ l, (l.count s : Int) ≤ f s) → ∀ x, x ∈ newOf f l ↔ x ∈ l ∧ f x = l.count x
  | [], f, _, x => by simp [newOf]
  | s :: l, f, h, x => by
    have hl : ∀ y ∈ l, (l.count y : Int) ≤ upd f s (f s - 1) y := by
      intro y hy
      have := h y (.tail _ hy)
      simp only [List.count_cons] at this
      by_cases e : y = s
      · subst e; simp only [upd_self]; simp at this; omega
      · have e' : ¬ (s == y) = true := by simpa using fun q => e q.symm
        rw [upd_ne e]; simp [e'] at this; omega
    simp only [newOf, List.mem_append, newOf_mem hl, List.mem_cons, List.count_cons]
    by_cases e : x = s
    · subst e
      simp only [upd_self, beq_self_eq_true, if_true, true_or, true_and]
      have h0 := h x (.head _)
      simp only [List.count_cons, beq_self_eq_true, if_true] at h0
      by_cases h1 : f x - 1 = 0
      · simp only [h1, if_true, List.mem_singleton, true_or, true_iff]
        have : l.count x = 0 := by push_cast at h0; omega
        rw [this]; push_cast; omega
      · simp only [h1, if_false, List.not_mem_nil, false_or]
        constructor
        · rintro ⟨_, e⟩; push_cast; omega
        · intro e
          push_cast at e
          have : 0 < l.count x := by
            rcases Nat.eq_zero_or_pos (l.count x) with q | q
            · rw [q] at e; exfalso; apply h1; push_cast at e; omega
            · exact q
          exact ⟨List.count_pos_iff.mp this, by omega⟩
    · have e' : ¬ (s == x) = true := by simpa using fun q => e q.symm
      rw [upd_ne e]
      have : x ∉ (if f s - 1 = 0 then [s] else []) := by split <;> simp [e]
      simp [this, e, e']
theorem newOf_nodup : ∀ {l : List Int} {f : Int → Int}, (∀ s ∈ l, (l.count s : Int) ≤ f s) → (newOf f l).Nodup
  | [], f, _ => by simp [newOf]
  | s :: l, f, h => by
    have hl : ∀ y ∈ l, (l.count y : Int) ≤ upd f s (f s - 1) y := by
      intro y hy
      have := h y (.tail _ hy)
      simp only [List.count_cons] at this
      by_cases e : y = s
      · subst e; simp only [upd_self]; simp at this; omega
      · have e' : ¬ (s == y) = true := by simpa using fun q => e q.symm
        rw [upd_ne e]; simp [e'] at this; omega
    simp only [newOf]
    by_cases h1 : f s - 1 = 0
    · simp only [h1, if_true, List.cons_append, List.nil_append, List.nodup_cons]
      refine ⟨fun hm => ?_, h1 ▸ newOf_nodup hl⟩
      have h2 := (newOf_mem (f := upd f s 0) (h1 ▸ hl) s).mp hm
      rw [upd_self] at h2
      have : 0 < l.count s := List.count_pos_iff.mpr h2.1
      omega
    · simp only [h1, if_false, List.nil_append]; exact newOf_nodup hl
end
section
set_option maxHeartbeats 1000000
noncomputable def cntG (G : Gr) (dn : List Int) (s : Int) : Nat := (G.map fun g => if g.1 ∈ dn then 0 else g.2.count s).sum
theorem cnt_mono (G : Gr) (dn : List Int) (k s : Int) : cntG G (dn ++ [k]) s ≤ cntG G dn s := by
  unfold cntG
  induction G with
  | nil => simp
  | cons g r ih =>
    simp only [List.map_cons, List.sum_cons]
    have : (if g.1 ∈ dn ++ [k] then 0 else g.2.count s) ≤ (if g.1 ∈ dn then 0 else g.2.count s) := by
      by_cases h : g.1 ∈ dn
      · simp [h]
      · simp only [h, if_false]; split <;> omega
    omega
theorem cnt_off {G : Gr} {dn : List Int} {k s : Int} (h : k ∉ keysG G) : cntG G (dn ++ [k]) s = cntG G dn s := by
  unfold cntG
  refine congrArg List.sum (List.map_congr_left fun g hg => ?_)
  have : g.1 ≠ k := fun e => h (e ▸ List.mem_map_of_mem hg)
  simp [this]
theorem cnt_step {G : Gr} (hn : (keysG G).Nodup) {dn : List Int} {k s : Int} (hk : k ∈ keysG G) (hd : k ∉ dn) : cntG G dn s = cntG G (dn ++ [k]) s + (succG G k).count s := by
  induction G with
  | nil => simp [keysG] at hk
  | cons g r ih =>
    simp only [keysG, List.map_cons, List.nodup_cons] at hn
    by_cases h : g.1 = k
    · subst h
      have h1 : cntG r (dn ++ [g.1]) s = cntG r dn s := cnt_off hn.1
      have h2 : succG (g :: r) g.1 = g.2 := by unfold succG; simp
      unfold cntG at h1 ⊢
      simp only [List.map_cons, List.sum_cons, h1, h2, hd, if_false]
      simp
      omega
    · have hk' : k ∈ keysG r := by
        simp only [keysG, List.map_cons, List.mem_cons] at hk
        rcases hk with e | hk
        · exact absurd e.symm h
        · exact hk
      have h1 := ih hn.2 hk'
      have h2 : succG (g :: r) k = succG r k := by unfold succG; simp [h]
      unfold cntG at h1 ⊢
      simp only [List.map_cons, List.sum_cons, h2, h1]
      have : (if g.1 ∈ dn ++ [k] then 0 else g.2.count s) = (if g.1 ∈ dn then 0 else g.2.count s) := by simp [h]
      rw [this]; omega
theorem cnt_zero {G : Gr} {dn : List Int} {s : Int} (h : cntG G dn s = 0) : ∀ g ∈ G, s ∈ g.2 → g.1 ∈ dn := by
  intro g hg hs
  unfold cntG at h
  rw [List.sum_eq_zero_iff_forall_eq_nat] at h
  have := h _ (List.mem_map_of_mem (f := fun g : Int × List Int => if g.1 ∈ dn then 0 else g.2.count s) hg)
  by_cases q : g.1 ∈ dn
  · exact q
  · simp only [q, if_false] at this
    have := List.count_pos_iff.mpr hs
    omega
theorem cnt_pos {G : Gr} {dn : List Int} {s : Int} (h : cntG G dn s ≠ 0) : ∃ g ∈ G, s ∈ g.2 ∧ g.1 ∉ dn := by
  refine Classical.byContradiction fun hn => h ?_
  unfold cntG
  rw [List.sum_eq_zero_iff_forall_eq_nat]
  intro x hx
  obtain ⟨g, hg, rfl⟩ := List.mem_map.mp hx
  by_cases q : g.1 ∈ dn
  · simp [q]
  · simp only [q, if_false]
    exact List.count_eq_zero.mpr fun hs => hn ⟨g, hg, hs, q⟩
/-- within a round: dn is done, grp is out, r is ready -/
structure MI (G : Gr) (dn grp : List Int) (f : Int → Int) (r : List Int) : Prop where
  nd : (dn ++ (grp ++ r)).Nodup
  sub : ∀ k ∈ dn ++ (grp ++ r), k ∈ keysG G
  fd : ∀ k ∈ dn, f k = -2
  fg : ∀ k ∈ grp, f k = -1
  fo : ∀ k ∈ keysG G, k ∉ dn → k ∉ grp → f k = cntG G dn k
  rr : ∀ k ∈ keysG G, k ∉ dn → k ∉ grp → (k ∈ r ↔ cntG G dn k = 0)
  cl : ∀ k ∈ dn ++ grp, cntG G dn k = 0
theorem nodup_of3 {a b c : List Int} : (a ++ (b ++ c)).Nodup ↔ a.Nodup ∧ b.Nodup ∧ c.Nodup ∧ (∀ x ∈ a, x ∉ b) ∧ (∀ x ∈ a, x ∉ c) ∧ ∀ x ∈ b, x ∉ c := by
  simp only [List.nodup_append, List.mem_append]
  constructor
  · rintro ⟨h1, ⟨h2, h3, h4⟩, h5⟩
    exact ⟨h1, h2, h3, fun x hx hb => h5 x hx x (.inl hb) rfl, fun x hx hc => h5 x hx x (.inr hc) rfl, fun x hx hc => h4 x hx x hc rfl⟩
  · rintro ⟨h1, h2, h3, h4, h5, h6⟩
    refine ⟨h1, ⟨h2, h3, fun x hx y hy e => h6 x hx (e ▸ hy)⟩, fun x hx y hy e => ?_⟩
    rcases hy with hy | hy
    · exact h4 x hx (e ▸ hy)
    · exact h5 x hx (e ▸ hy)
theorem MI.step {G : Gr} (hn : (keysG G).Nodup) (hc : ClosedG G) {dn grp r : List Int} {k : Int} {f : Int → Int} (h : MI G dn (k :: grp) f r) : MI G (dn ++ [k]) grp (doneF G (f, r) k).1 (doneF G (f, r) k).2 := by
  obtain ⟨nd, sub, fd, fg, fo, rr, cl⟩ := h
  obtain ⟨n1, n2, n3, n4, n5, n6⟩ := nodup_of3.mp nd
  rw [List.nodup_cons] at n2
  have hk : k ∈ keysG G := sub k (by simp)
  have hkd : k ∉ dn := fun q => n4 k q (.head _)
  have cs : ∀ s, cntG G dn s = cntG G (dn ++ [k]) s + (succG G k).count s := fun s => cnt_step hn hk hkd
  have lk : ∀ s ∈ succG G k, s ∈ keysG G ∧ s ∉ dn ∧ s ∉ k :: grp := by
    intro s hs
    have hp : cntG G dn s ≠ 0 := by have := cs s; have := List.count_pos_iff.mpr hs; omega
    obtain ⟨g, hg, _, h⟩ := succG_mem hs
    exact ⟨hc g hg s h, fun q => hp (cl s (List.mem_append_left _ q)), fun q => hp (cl s (List.mem_append_right _ q))⟩
  have eq : doneF G (f, r) k = (fun x => upd f k (-2) x - (succG G k).count x, r ++ newOf (upd f k (-2)) (succG G k)) := decs_eq _ _ _
  have hge : ∀ s ∈ succG G k, ((succG G k).count s : Int) ≤ upd f k (-2) s := by
    intro s hs
    obtain ⟨h1, h2, h3⟩ := lk s hs
    rw [upd_ne (show s ≠ k from fun e => h3 (e ▸ .head _)), fo s h1 h2 h3]
    have := cs s; omega
  have hnew : ∀ x, x ∈ newOf (upd f k (-2)) (succG G k) ↔ x ∈ succG G k ∧ cntG G (dn ++ [k]) x = 0 := by
    intro x
    rw [newOf_mem hge x]
    refine and_congr_right fun hx => ?_
    obtain ⟨h1, h2, h3⟩ := lk x hx
    rw [upd_ne (show x ≠ k from fun e => h3 (e ▸ .head _)), fo x h1 h2 h3]
    have := cs x; omega
  have z : ∀ x, x ∉ succG G k → (succG G k).count x = 0 := fun x hx => List.count_eq_zero.mpr hx
  rw [eq]
  dsimp only
  refine ⟨?_, ?_, ?_, ?_, ?_, ?_, ?_⟩
  · rw [nodup_of3]
    refine ⟨?_, n2.2, ?_, ?_, ?_, ?_⟩
    · rw [List.nodup_append]; exact ⟨n1, by simp, fun x hx y hy e => hkd (by rw [List.mem_singleton.mp hy] at e; exact e ▸ hx)⟩
    · rw [List.nodup_append]
      refine ⟨n3, newOf_nodup hge, fun x hx y hy e => ?_⟩
      subst e
      have h1 := ((hnew x).mp hy).1
      obtain ⟨h2, h3, h4⟩ := lk x h1
      have := (rr x h2 h3 h4).mp hx
      have := cs x
      have := List.count_pos_iff.mpr h1
      omega
    · intro x hx hg
      rcases List.mem_append.mp hx with h | h
      · exact n4 x h (.tail _ hg)
      · rw [List.mem_singleton.mp h] at hg; exact n2.1 hg
    · intro x hx hr
      rcases List.mem_append.mp hr with hr | hr
      · rcases List.mem_append.mp hx with h | h
        · exact n5 x h hr
        · rw [List.mem_singleton.mp h] at hr; exact n6 k (.head _) hr
      · obtain ⟨h2, h3, h4⟩ := lk x ((hnew x).mp hr).1
        rcases List.mem_append.mp hx with h | h
        · exact h3 h
        · rw [List.mem_singleton.mp h] at h4; exact h4 (.head _)
    · intro x hx hr
      rcases List.mem_append.mp hr with hr | hr
      · exact n6 x (.tail _ hx) hr
      · exact (lk x ((hnew x).mp hr).1).2.2 (.tail _ hx)
  · intro x hx
    simp only [List.mem_append, List.mem_singleton] at hx
    rcases hx with (h | rfl) | h | h | h
    · exact sub x (by simp [h])
    · exact hk
    · exact sub x (by simp [h])
    · exact sub x (by simp [h])
    · exact (lk x ((hnew x).mp h).1).1
  · intro x hx
    rcases List.mem_append.mp hx with h | h
    · rw [upd_ne (show x ≠ k from fun e => hkd (e ▸ h)), z x (fun q => (lk x q).2.1 h), fd x h]; rfl
    · rw [List.mem_singleton.mp h, upd_self, z k (fun q => (lk k q).2.2 (.head _))]; rfl
  · intro x hx
    rw [upd_ne (show x ≠ k from fun e => n2.1 (e ▸ hx)), z x (fun q => (lk x q).2.2 (.tail _ hx)), fg x (.tail _ hx)]; rfl
  · intro x hx hd hg
    have hxk : x ≠ k := fun e => hd (by simp [e])
    have h1 : x ∉ dn := fun q => hd (List.mem_append_left _ q)
    have h2 : x ∉ k :: grp := fun q => by
      rcases List.mem_cons.mp q with e | q
      · exact hxk e
      · exact hg q
    rw [upd_ne hxk, fo x hx h1 h2]
    have := cs x; omega
  · intro x hx hd hg
    have hxk : x ≠ k := fun e => hd (by simp [e])
    have h1 : x ∉ dn := fun q => hd (List.mem_append_left _ q)
    have h2 : x ∉ k :: grp := fun q => by
      rcases List.mem_cons.mp q with e | q
      · exact hxk e
      · exact hg q
    rw [List.mem_append, hnew, rr x hx h1 h2]
    have := cs x
    constructor
    · rintro (h | h)
      · omega
      · exact h.2
    · intro h
      by_cases q : x ∈ succG G k
      · exact .inr ⟨q, h⟩
      · have := z x q; exact .inl (by omega)
  · intro x hx
    have := cnt_mono G dn k x
    have h0 : cntG G dn x = 0 := cl x (by
      simp only [List.mem_append, List.mem_cons, List.not_mem_nil, or_false] at hx ⊢
      rcases hx with (h | h) | h
      · exact .inl h
      · exact .inr (.inl h)
      · exact .inr (.inr h))
    omega
theorem MI.steps {G : Gr} (hn : (keysG G).Nodup) (hc : ClosedG G) : ∀ {l dn grp r : List Int} {f : Int → Int}, MI G dn (l ++ grp) f r → MI G (dn ++ l) grp (l.foldl (doneF G) (f, r)).1 (l.foldl (doneF G) (f, r)).2
  | [], dn, grp, r, f, h => by simpa using h
  | k :: l, dn, grp, r, f, h => by
    have := MI.steps hn hc (l := l) (MI.step hn hc h)
    rw [List.append_assoc] at this
    exact this
theorem outs_at : ∀ {l : List Int} {f : Int → Int} {x : Int}, l.foldl outF f x = if x ∈ l then -1 else f x
  | [], f, x => by simp
  | k :: l, f, x => by
    rw [List.foldl_cons, outs_at]
    by_cases h : x ∈ l
    · simp [h]
    · by_cases e : x = k
      · subst e; simp [h, outF, upd]
      · simp [h, e, outF, upd]
theorem MI.outs {G : Gr} {dn r : List Int} {f : Int → Int} (h : MI G dn [] f r) : MI G dn r (r.foldl outF f) [] := by
  obtain ⟨nd, sub, fd, fg, fo, rr, cl⟩ := h
  obtain ⟨n1, n2, n3, n4, n5, n6⟩ := nodup_of3.mp nd
  refine ⟨by simpa using nd, by simpa using sub, ?_, ?_, ?_, ?_, ?_⟩
  · intro k hk; rw [outs_at, if_neg (n5 k hk)]; exact fd k hk
  · intro k hk; rw [outs_at, if_pos hk]
  · intro k hk h1 h2; rw [outs_at, if_neg h2]; exact fo k hk h1 (by simp)
  · intro k hk h1 h2
    have := rr k hk h1 (by simp)
    simp only [List.not_mem_nil, false_iff]
    exact fun e => h2 (this.mpr e)
  · intro k hk
    rcases List.mem_append.mp hk with h | h
    · exact cl k (by simp [h])
    · exact (rr k (sub k (by simp [h])) (fun q => n5 k q h) (by simp)).mp h
theorem MI.round {G : Gr} (hn : (keysG G).Nodup) (hc : ClosedG G) {dn r : List Int} {f : Int → Int} (h : MI G dn [] f r) : MI G (dn ++ r) [] (roundF G f r).1 (roundF G f r).2 := by
  have := MI.steps hn hc (l := r) (grp := []) (by simpa using h.outs)
  simpa [roundF] using this
noncomputable def f0 (G : Gr) : Int → Int := fun k => cntG G [] k
noncomputable def ready0 (G : Gr) : List Int := (keysG G).filter fun k => decide (f0 G k = 0)
theorem MI.start {G : Gr} (hn : (keysG G).Nodup) : MI G [] [] (f0 G) (ready0 G) := by
  refine ⟨?_, ?_, fun _ h => (nomatch h), fun _ h => (nomatch h), fun _ _ _ _ => rfl, ?_, fun _ h => (nomatch h)⟩
  · show (ready0 G).Nodup; exact List.Pairwise.filter _ hn
  · intro k hk; simp only [List.nil_append, ready0, List.mem_filter] at hk; exact hk.1
  · intro k hk _ _
    unfold ready0 f0
    rw [List.mem_filter]
    constructor
    · rintro ⟨_, h⟩
      have h := of_decide_eq_true h
      omega
    · intro h
      exact ⟨hk, decide_eq_true (by omega)⟩
/-- every node stands behind its predecessors -/
noncomputable def Topo (G : Gr) (l : List Int) : Prop := ∀ pre x post, l = pre ++ x :: post → ∀ g ∈ G, x ∈ g.2 → g.1 ∈ pre
theorem Topo.more {G : Gr} {dn r : List Int} (h : Topo G dn) (hr : ∀ x ∈ r, cntG G dn x = 0) : Topo G (dn ++ r) := by
  intro pre x post e g hg hx
  rcases List.append_eq_append_iff.mp e with ⟨a, ha, hb⟩ | ⟨c, hc1, hc2⟩
  · have : x ∈ r := by rw [hb]; simp
    have := cnt_zero (hr x this) g hg hx
    rw [ha]; exact List.mem_append_left _ this
  · cases c with
    | nil =>
      have hxr : x ∈ r := by
        simp only [List.nil_append] at hc2
        rw [← hc2]; simp
      have := cnt_zero (hr x hxr) g hg hx
      simp only [List.append_nil] at hc1
      rw [← hc1]; exact this
    | cons y c =>
      simp only [List.cons_append, List.cons.injEq] at hc2
      obtain ⟨rfl, _⟩ := hc2
      exact h pre x c hc1 g hg hx
theorem all_done {G : Gr} (hup : ∀ g ∈ G, ∀ s ∈ g.2, g.1 < s) {dn : List Int} {f : Int → Int} (h : MI G dn [] f []) : ∀ k ∈ keysG G, k ∈ dn := by
  have key : ∀ n k, k ∈ keysG G → ((keysG G).filter (· < k)).length ≤ n → k ∈ dn := by
    intro n
    induction n with
    | zero =>
      intro k hk hl
      refine Classical.byContradiction fun hd => ?_
      have h1 : cntG G dn k ≠ 0 := fun e => by simpa using (h.rr k hk hd (by simp)).mpr e
      obtain ⟨g, hg, hs, hgd⟩ := cnt_pos h1
      have : g.1 ∈ (keysG G).filter (· < k) := List.mem_filter.mpr ⟨List.mem_map_of_mem hg, by simpa using hup g hg k hs⟩
      have := List.length_pos_of_mem this
      omega
    | succ n ih =>
      intro k hk hl
      refine Classical.byContradiction fun hd => ?_
      have h1 : cntG G dn k ≠ 0 := fun e => by simpa using (h.rr k hk hd (by simp)).mpr e
      obtain ⟨g, hg, hs, hgd⟩ := cnt_pos h1
      have hlt := hup g hg k hs
      have hgk : g.1 ∈ keysG G := List.mem_map_of_mem hg
      refine hgd (ih g.1 hgk ?_)
      have hsub : ((keysG G).filter (· < g.1)).length < ((keysG G).filter (· < k)).length := by
        have e : (keysG G).filter (· < g.1) = ((keysG G).filter (· < k)).filter (· < g.1) := by
          rw [List.filter_filter]
          refine List.filter_congr fun x _ => ?_
          by_cases q : x < g.1
          · have : x < k := by omega
            simp [q, this]
          · simp [q]
        rw [e]
        refine List.length_filter_lt_length_iff_exists.mpr ⟨g.1, List.mem_filter.mpr ⟨hgk, by simpa using hlt⟩, by simp⟩
      omega
  intro k hk
  exact key _ k hk (Nat.le_refl _)
theorem MI.len {G : Gr} {dn r : List Int} {f : Int → Int} (h : MI G dn [] f r) : dn.length + r.length ≤ (keysG G).length := by
  have hs : ∀ {l m : List Int}, l.Nodup → (∀ a ∈ l, a ∈ m) → l.length ≤ m.length := by
    intro l
    induction l with
    | nil => intro m _ _; exact Nat.zero_le _
    | cons a l ih =>
      intro m h hs
      rw [List.nodup_cons] at h
      have h1 : a ∈ m := hs a (.head _)
      have h2 : l.length ≤ (m.erase a).length := ih h.2 fun b hb => by
        have : b ≠ a := fun e => h.1 (e ▸ hb)
        exact (List.mem_erase_of_ne this).mpr (hs b (.tail _ hb))
      rw [List.length_erase_of_mem h1] at h2
      have : 0 < m.length := List.length_pos_of_mem h1
      simp only [List.length_cons]; omega
  have := hs h.nd h.sub
  simpa using this
/-- the whole order -/
theorem ord_spec {G : Gr} (hn : (keysG G).Nodup) (hc : ClosedG G) (hup : ∀ g ∈ G, ∀ s ∈ g.2, g.1 < s) : ∀ (n : Nat) (dn : List Int) (f : Int → Int) (r : List Int), MI G dn [] f r → Topo G dn → (keysG G).length < dn.length + n →
    (dn ++ ordF G n f r).Nodup ∧ (∀ k, k ∈ dn ++ ordF G n f r ↔ k ∈ keysG G) ∧ Topo G (dn ++ ordF G n f r)
  | 0, dn, f, r, h, _, hl => by have := h.len; omega
  | n + 1, dn, f, r, h, ht, hl => by
    unfold ordF
    by_cases hr : r = []
    · subst hr
      simp only [if_true, List.append_nil]
      refine ⟨by simpa using h.nd, fun k => ⟨fun hk => h.sub k (by simpa using hk), all_done hup h k⟩, ht⟩
    · rw [if_neg hr, ← List.append_assoc]
      have hlen : 0 < r.length := List.length_pos_iff.mpr hr
      refine ord_spec hn hc hup n (dn ++ r) _ _ (h.round hn hc) (ht.more fun x hx => ?_) (by rw [List.length_append]; omega)
      obtain ⟨n1, n2, n3, n4, n5, n6⟩ := nodup_of3.mp h.nd
      exact (h.rr x (h.sub x (by simp [hx])) (fun q => n5 x q hx) (by simp)).mp hx
end
section
set_option maxHeartbeats 1000000
open PySem.Calls PyProof.Rows.LCg
section
variable {prog : Program} {w : World} {A : Around} {E : Value → Shared → Prop} {s : Shared} {h₀ : Heap} {L : Addr} {m : Str → Option Value} {env : Env}
/-- how a turn of a for ends -/
noncomputable def TurnF (h₀ : Heap) (L : Addr) (it : Addr × Obj) (Jn : (Str → Option Value) → List (Addr × Obj) → Prop) (s₁ : Shared) (Q : Flow → Shared → Prop) (f : Flow) (s₂ : Shared) : Prop :=
  match f with
  | .ret v => Q (.ret v) s₂
  | .brk => Q .next s₂
  | _ => ∃ h' tk m' nx, s₂ = { s₁ with heap := h', toks := tk } ∧ Fr h₀ L h' m' ∧ News h₀ L h' (it :: nx) ∧ (∀ p ∈ nx, p.1 ≠ it.1) ∧ Jn m' nx
/-- any target, any source that walks; the target's assignment is left to the walk -/
theorem for_walk {tg : Expr} {body : List Stmt} {I : Addr} {fp : List Addr} {n : Nat} {P : Nat → Value → Prop} {St : Nat → Heap → Prop} {m₀ : Str → Option Value} {news src : List (Addr × Obj)} {Q : Flow → Shared → Prop} {s₂ : Shared} (J : Nat → (Str → Option Value) → List (Addr × Obj) → Prop)
    (W : Walks prog w A I fp [I] n P St) (hIo : ∀ i h, St i h → ∃ o, h.get? I = some o) (hfn : ∀ b ∈ fp, b = I ∨ (∃ o, h₀.get? b = some o) ∨ ∃ o, (b, o) ∈ src) (hsrc : ∀ i m nx, J i m nx → ∀ q ∈ src, q ∈ nx)
    (hst : St 0 s₂.heap) (hs₂ : ∃ h tk, s₂ = { s with heap := h, toks := tk }) (F : Fr h₀ L s₂.heap m₀) (N : News h₀ L s₂.heap news) (hIL : L ≠ I) (hI₀ : h₀.get? I = none) (off : ∀ p ∈ news, p.1 ≠ I) (hj : J 0 m₀ news)
    (turn : ∀ i v m₁ nx h tk oI, i < n → P i v → J i m₁ nx → (∀ p ∈ nx, p.1 ≠ I) → St (i + 1) h → Fr h₀ L h m₁ → News h₀ L h ((I, oI) :: nx) →
      wpAny (model prog w) A (letOwnedTupleGo tg (.ref I) v) (fun _ s₁ => wpAny (model prog w) A (assign tg env v) (fun _ s₂ => wpAny (model prog w) A (execs body env) (TurnF h₀ L (I, oI) (J (i + 1)) { s with heap := h, toks := tk } Q) (fun _ _ => False) s₂) (fun _ _ => False) s₁) (fun _ _ => False) { s with heap := h, toks := tk })
    (done : ∀ m₁ nx h tk, J n m₁ nx → Fr h₀ L h m₁ → News h₀ L h nx → Q .next { s with heap := h, toks := tk }) :
    codeAny (model prog w) A (.forLoop tg (.ref I) body [] env) (fun r s' => match r with | .ok f => Q f s' | .error e => cameBackBy (model prog w) A env E e s') s₂ := by
  obtain ⟨h2, tk2, rfl⟩ := hs₂
  refine codeAny_forLoop_any (fun k s' => E5 fun h tk m₁ nx i => A8 (s' = { s with heap := h, toks := tk }) (i ≤ n) (k = n + 1 - i) (St i h) (Fr h₀ L h m₁) (News h₀ L h nx) ((∀ p ∈ nx, p.1 ≠ I)) (J i m₁ nx)) ?_ (n + 1) ⟨h2, tk2, m₀, news, 0, rfl, Nat.zero_le _, rfl, hst, F, N, off, hj⟩
  intro k s' hI0
  refine hide fun G hG => ?_
  obtain ⟨h, tk, m₁, nx, i, rfl, hi, rfl, hst', F', N', off', hj'⟩ := hI0
  refine hG ?_
  clear hG G
  by_cases hlt : i < n
  · refine W.item i _ _ _ hlt hst' fun v h₃ tk₃ hPv hst₃ hk₃ => ?_
    obtain ⟨oI, heI⟩ := hIo _ _ hst₃
    have F₃ : Fr h₀ L h₃ m₁ := fr_but F' hk₃ hIL hI₀
    have N₃ : News h₀ L h₃ nx := news_but N' hk₃ off'
    have N₄ : News h₀ L h₃ ((I, oI) :: nx) := fun p hp => by
      rcases List.mem_cons.mp hp with rfl | hp
      · exact ⟨heI, Ne.symm hIL, hI₀⟩
      · exact N₃ p hp
    refine wpAny_mono (turn i v m₁ nx h₃ tk₃ oI hlt hPv hj' off' hst₃ F₃ N₄) (fun _ s₄ h₄ => wpAny_mono h₄ (fun _ s₅ h₅ => wpAny_mono h₅ (fun f s₆ h₆ => ?_) fun _ _ x => x.elim) fun _ _ x => x.elim) fun _ _ x => x.elim
    have fin : TurnF h₀ L (I, oI) (J (i + 1)) { s with heap := h₃, toks := tk₃ } Q .next s₆ → ∃ m, m < n + 1 - i ∧ E5 fun h tk m₁ nx i => A8 (s₆ = { s with heap := h, toks := tk }) (i ≤ n) (m = n + 1 - i) (St i h) (Fr h₀ L h m₁) (News h₀ L h nx) ((∀ p ∈ nx, p.1 ≠ I)) (J i m₁ nx) := by
      intro hI0
      refine hide fun G hG => ?_
      obtain ⟨h', tk', m', nx', rfl, F₆, N₆, off₆, hj₆⟩ := hI0
      refine hG ?_
      clear hG G
      refine ⟨n + 1 - (i + 1), by omega, h', tk', m', nx', i + 1, rfl, hlt, rfl, W.frame _ _ _ hst₃ fun b hb o e => ?_, F₆, fun p hp => N₆ p (.tail _ hp), off₆, hj₆⟩
      rcases hfn b hb with rfl | ⟨o', ho'⟩ | ⟨o', ho'⟩
      · rw [heI] at e; cases e; exact (N₆ _ (.head _)).1
      · rw [F₃.keep _ _ ho'] at e; cases e; exact F₆.keep _ _ ho'
      · rw [(N₃ _ (hsrc _ _ _ hj' _ ho')).1] at e; cases e; exact (N₆ _ (.tail _ (hsrc _ _ _ hj₆ _ ho'))).1
    cases f with
    | ret v => exact h₆
    | brk => exact h₆
    | next => exact fin h₆
    | cont => exact fin h₆
  · obtain rfl : i = n := Nat.le_antisymm hi (Nat.not_lt.mp hlt)
    refine W.done _ _ _ hst' fun h₃ tk₃ hk₃ => wpAny_pure ?_
    exact done m₁ nx h₃ tk₃ hj' (fr_but F' hk₃ hIL hI₀) (news_but N' hk₃ off')
/-- for tg in <a list of the ledger> -/
theorem for_list {tg : Expr} {body : List Stmt} {l : Addr} {vs : List Value} {ep : Nat} {m₀ : Str → Option Value} {news : List (Addr × Obj)} {Q : Flow → Shared → Prop} (J : Nat → (Str → Option Value) → List (Addr × Obj) → Prop)
    (hh : A.handled = none) (F : Fr h₀ L s.heap m₀) (N : News h₀ L s.heap news) (hJl : ∀ i m nx, J i m nx → (l, listOf vs.toArray ep) ∈ nx) (hj : J 0 m₀ news)
    (turn : ∀ i v m₁ nx h tk I oI, vs[i]? = some v → J i m₁ nx → (∀ p ∈ nx, p.1 ≠ I) → (∃ l j, h.IsListIter I l j) → Fr h₀ L h m₁ → News h₀ L h ((I, oI) :: nx) →
      wpAny (model prog w) A (letOwnedTupleGo tg (.ref I) v) (fun _ s₁ => wpAny (model prog w) A (assign tg env v) (fun _ s₂ => wpAny (model prog w) A (execs body env) (TurnF h₀ L (I, oI) (J (i + 1)) { s with heap := h, toks := tk } Q) (fun _ _ => False) s₂) (fun _ _ => False) s₁) (fun _ _ => False) { s with heap := h, toks := tk })
    (done : ∀ m₁ nx h tk, J vs.length m₁ nx → Fr h₀ L h m₁ → News h₀ L h nx → Q .next { s with heap := h, toks := tk }) :
    wpAny (model prog w) A (pyIter (.ref l)) (fun it s₂ => codeAny (model prog w) A (.forLoop tg it body [] env) (fun r s' => match r with | .ok f => Q f s' | .error e => cameBackBy (model prog w) A env E e s') s₂) E s := by
  have hml := hJl _ _ _ hj
  have hls : s.heap.IsList l vs.toArray := ⟨_, (N _ hml).1, rfl, _, rfl⟩
  have hne : l ≠ s.heap.objs.size := Nat.ne_of_lt (Heap.lt_size (N _ hml).1)
  refine wpAny_pyIter_list hls ?_
  have W := Walks.list (prog := prog) (w := w) hh s.heap.objs.size l hne vs.toArray
  have hlen : vs.toArray.size = vs.length := by simp
  rw [hlen] at W
  refine for_walk (s := s) (src := [(l, listOf vs.toArray ep)]) J W (fun i h st => let ⟨⟨o, ho, _⟩, _⟩ := st; ⟨o, ho⟩) ?_ (fun i m nx h q hq => by rw [List.mem_singleton.mp hq]; exact hJl _ _ _ h) ⟨⟨_, Heap.get?_push_size _ rfl, rfl, rfl⟩, hls.push _⟩ ⟨_, _, rfl⟩
    (F.push _) (N.grown fun b o e => Heap.get?_push_of_some _ e) (Nat.ne_of_lt F.ns.lt) (next_is_new F) (fun p hp => Nat.ne_of_lt (Heap.lt_size (N p hp).1)) hj ?_ done
  · intro b hb
    rcases List.mem_cons.mp hb with rfl | hb
    · exact .inl rfl
    · rw [List.mem_singleton.mp hb]; exact .inr (.inr ⟨_, .head _⟩)
  · intro i v m₁ nx h tk oI hi hP hJ off st F' N'
    exact turn i v m₁ nx h tk _ oI (by simpa using hP) hJ off ⟨_, _, st.1⟩ F' N'
/-- for tg in <a tuple of the ledger> -/
theorem for_tup {tg : Expr} {body : List Stmt} {l : Addr} {vs : List Value} {ep : Nat} {m₀ : Str → Option Value} {news : List (Addr × Obj)} {Q : Flow → Shared → Prop} (J : Nat → (Str → Option Value) → List (Addr × Obj) → Prop)
    (hh : A.handled = none) (F : Fr h₀ L s.heap m₀) (N : News h₀ L s.heap news) (hJl : ∀ i m nx, J i m nx → (l, tupOf vs.toArray ep) ∈ nx) (hj : J 0 m₀ news)
    (turn : ∀ i v m₁ nx h tk I oI, vs[i]? = some v → J i m₁ nx → (∀ p ∈ nx, p.1 ≠ I) → Fr h₀ L h m₁ → News h₀ L h ((I, oI) :: nx) →
      wpAny (model prog w) A (letOwnedTupleGo tg (.ref I) v) (fun _ s₁ => wpAny (model prog w) A (assign tg env v) (fun _ s₂ => wpAny (model prog w) A (execs body env) (TurnF h₀ L (I, oI) (J (i + 1)) { s with heap := h, toks := tk } Q) (fun _ _ => False) s₂) (fun _ _ => False) s₁) (fun _ _ => False) { s with heap := h, toks := tk })
    (done : ∀ m₁ nx h tk, J vs.length m₁ nx → Fr h₀ L h m₁ → News h₀ L h nx → Q .next { s with heap := h, toks := tk }) :
    wpAny (model prog w) A (pyIter (.ref l)) (fun it s₂ => codeAny (model prog w) A (.forLoop tg it body [] env) (fun r s' => match r with | .ok f => Q f s' | .error e => cameBackBy (model prog w) A env E e s') s₂) E s := by
  have hml := hJl _ _ _ hj
  have hls : s.heap.IsTuple l vs.toArray := ⟨_, (N _ hml).1, rfl, _, rfl⟩
  have hne : l ≠ s.heap.objs.size := Nat.ne_of_lt (Heap.lt_size (N _ hml).1)
  refine wpAny_pyIter_tuple hls ?_
  have W := Walks.tuple (prog := prog) (w := w) hh s.heap.objs.size l hne vs.toArray
  have hlen : vs.toArray.size = vs.length := by simp
  rw [hlen] at W
  refine for_walk (s := s) (src := [(l, tupOf vs.toArray ep)]) J W (fun i h st => let ⟨⟨o, ho, _⟩, _⟩ := st; ⟨o, ho⟩) ?_ (fun i m nx h q hq => by rw [List.mem_singleton.mp hq]; exact hJl _ _ _ h) ⟨⟨_, Heap.get?_push_size _ rfl, rfl, rfl⟩, hls.at fun o e => Heap.get?_push_of_some _ e⟩ ⟨_, _, rfl⟩
    (F.push _) (N.grown fun b o e => Heap.get?_push_of_some _ e) (Nat.ne_of_lt F.ns.lt) (next_is_new F) (fun p hp => Nat.ne_of_lt (Heap.lt_size (N p hp).1)) hj ?_ done
  · intro b hb
    rcases List.mem_cons.mp hb with rfl | hb
    · exact .inl rfl
    · rw [List.mem_singleton.mp hb]; exact .inr (.inr ⟨_, .head _⟩)
  · intro i v m₁ nx h tk oI hi hP hJ off st F' N'
    exact turn i v m₁ nx h tk _ oI (by simpa using hP) hJ off F' N'
/-- for k in range(a, b, c) -/
theorem for_range {tg : Expr} {body : List Stmt} {r : Addr} {a b c : Int} {t u v : Tok} {n : Nat} {m₀ : Str → Option Value} {news : List (Addr × Obj)} {Q : Flow → Shared → Prop} (J : Nat → (Str → Option Value) → List (Addr × Obj) → Prop)
    (hh : A.handled = none) (hr : IsRange s.heap r a b c t u v) (hsm : Builtin.Range.small a b c = true) (hn : Builtin.Range.rangeSize a b c = ((n : Nat) : Int)) (F : Fr h₀ L s.heap m₀) (N : News h₀ L s.heap news) (hj : J 0 m₀ news)
    (turn : ∀ i t m₁ nx h tk I oI, i < n → J i m₁ nx → (∀ p ∈ nx, p.1 ≠ I) → Fr h₀ L h m₁ → News h₀ L h ((I, oI) :: nx) →
      wpAny (model prog w) A (letOwnedTupleGo tg (.ref I) (.int (a + (i : Nat) * c) t)) (fun _ s₁ => wpAny (model prog w) A (assign tg env (.int (a + (i : Nat) * c) t)) (fun _ s₂ => wpAny (model prog w) A (execs body env) (TurnF h₀ L (I, oI) (J (i + 1)) { s with heap := h, toks := tk } Q) (fun _ _ => False) s₂) (fun _ _ => False) s₁) (fun _ _ => False) { s with heap := h, toks := tk })
    (done : ∀ m₁ nx h tk, J n m₁ nx → Fr h₀ L h m₁ → News h₀ L h nx → Q .next { s with heap := h, toks := tk }) :
    wpAny (model prog w) A (pyIter (.ref r)) (fun it s₂ => codeAny (model prog w) A (.forLoop tg it body [] env) (fun r s' => match r with | .ok f => Q f s' | .error e => cameBackBy (model prog w) A env E e s') s₂) E s := by
  refine wpAny_pyIter_range hr hsm ?_
  refine for_walk (s := s) (src := []) J (Walks.range hh s.heap.objs.size a c n) (fun i h st => ⟨_, st⟩) ?_ (fun _ _ _ _ q hq => (nomatch hq)) (by show IsRangeIter _ _ _ _ _; rw [hn]; simpa using Heap.get?_push_size _ rfl) ⟨_, _, rfl⟩
    (F.push _) (N.grown fun b o e => Heap.get?_push_of_some _ e) (Nat.ne_of_lt F.ns.lt) (next_is_new F) (fun p hp => Nat.ne_of_lt (Heap.lt_size (N p hp).1)) hj ?_ done
  · intro b hb
    rw [List.mem_singleton.mp hb]; exact .inl rfl
  · intro i v m₁ nx h tk oI hi hP hJ off st F' N'
    obtain ⟨t, rfl⟩ := hP
    exact turn i t m₁ nx h tk _ oI hi hJ off F' N'
end
end
section
set_option maxHeartbeats 1000000
theorem ledS_split {σ : Srt} {w : World} {rv po nf : Value} {oN : Obj} {xs : List NI} {rest : List (Addr × Obj)} {q : Addr × Obj} : q ∈ ledS σ w rv po nf oN xs rest ↔ q ∈ ledS σ w rv po nf oN xs [] ∨ q ∈ rest := by
  simp only [ledS, List.mem_cons, List.mem_append, List.not_mem_nil, or_false, or_assoc]
theorem sok_rest {σ : Srt} {xs : List NI} {rest rest' : List (Addr × Obj)} {n : Nat} (hs : SOK σ xs rest n) (h : ∀ a ∈ addrS σ xs, ∀ q ∈ rest', q.1 ≠ a) : SOK σ xs rest' n := ⟨hs.nd, h, hs.keys, hs.isi, hs.len, hs.slen, hs.lo⟩
end
section
set_option maxHeartbeats 1000000
open PySem.Calls
/-- o.name(*e): the method is bound first -/
theorem star_attr {M : Model} {A : Around} {E : Value → Shared → Prop} {s : Shared} {env : Env} {o e : Expr} {name : Str} {apos pos p : Pos} {Q : Value → Shared → Prop}
    (h : wpAny M A (eval o env) (fun ov s₁ => wpAny M A (getAttr ov name true) (fun f s₂ => wpAny M A (callWith pos f [] (backTo pos (starEach [.Starred e p] env)) []) Q E s₂) E s₁) E s)
    (he : eval (.Call (.Attribute o name apos) [.Starred e p] [] pos) env = (do
      let ov ← eval o env
      standAt apos.atName
      let (f, first) ← holding [ov] (do let f ← getAttr ov name true; pure (f, []))
      callWith pos f first (backTo pos (starEach [.Starred e p] env)) []) := by rfl) :
    wpAny M A (eval (.Call (.Attribute o name apos) [.Starred e p] [] pos) env) Q E s := by
  rw [he]
  refine wpAny_bind (wpAny_mono h (fun ov s₁ h₁ => wpAny_bind (wpAny_standAt (wpAny_bind (wpAny_holding (wpAny_bind (wpAny_mono h₁ (fun fx s₂ h₂ => wpAny_pure ?_) fun _ _ x => x)))))) fun _ _ x => x)
  exact h₂
theorem callWith_SM {M : Model} {A : Around} {E : Value → Shared → Prop} {s : Shared} {K : Frag} {env : Env} {pos p : Pos} {first : List Value} {Q : Value → Shared → Prop} {q g : Addr} {self : Value} {e : Expr} (hf : fnIn K g = true)
    (h : wpAny M A (eval e env) (fun v s₁ => StarOf M A E v (fun vs s₂ => MethP K q g self s₂.heap ∧ wpAny M A (call (.ref q) (first ++ vs)) Q E s₂) s₁) E s)
    (he : starEach [.Starred e p] env = [(true, eval e env)] := by rfl) :
    wpAny M A (callWith pos (.ref q) first (backTo pos (starEach [.Starred e p] env)) []) Q E s := by
  rw [he]
  exact ks_call rfl (keeps_M hf) (ks_lone h)
theorem closed_of {G : Gr} {f : Int → Int} {xs : List NI} (h : xs.map NI.pn = mkP G f) (hc : ∀ g ∈ G, ∀ q ∈ g.2, q ∈ keysG G ∧ q ≠ g.1) : Closed xs := by
  intro x hx v hv
  have hm : x.pn ∈ mkP G f := h ▸ List.mem_map_of_mem hx
  obtain ⟨g, hg, e⟩ := List.mem_map.mp hm
  have e1 : g.1 = x.node := congrArg PN.node e
  have e2 : g.2 = x.sv.map intOf := congrArg PN.succ e
  have := hc g hg (intOf v) (by rw [e2]; exact List.mem_map_of_mem hv)
  rw [e1] at this
  refine ⟨?_, this.2⟩
  have hk : keysG G = xs.map (·.node) := by
    have := congrArg (List.map PN.node) h
    simp only [mkP, List.map_map] at this
    exact this.symm
  rw [← hk]; exact this.1
theorem filt_pn : ∀ xs : List NI, (xs.filter fun x => decide (x.np = 0)).map (·.node) = ((xs.map NI.pn).filter fun p => decide (p.np = 0)).map PN.node
  | [] => rfl
  | a :: l => by by_cases h : a.np = 0 <;> simp [h, filt_pn l, NI.pn]
theorem filt_mk (f : Int → Int) : ∀ G : Gr, ((mkP G f).filter fun p => decide (p.np = 0)).map PN.node = (keysG G).filter fun k => decide (f k = 0)
  | [] => rfl
  | a :: l => by
    have := filt_mk f l
    unfold mkP keysG at *
    by_cases h : f a.1 = 0 <;> simp [h, this]
theorem ready_of {xs : List NI} {G : Gr} (hG : xs.map NI.pn = mkP G (f0 G)) : (xs.filter fun x => decide (x.np = 0)).map (·.node) = ready0 G := by
  rw [filt_pn, hG, filt_mk]; rfl
end
section
set_option maxHeartbeats 1000000
/-! one stretch of a generator's run, from where it wakes to where it sleeps or ends, with any end -/
noncomputable def SegG (M : Model) (A : Around) (Φ : End → Shared → Prop) (c : Code) (t : Sem Fin) (fs : List Frame) (s : Shared) : Prop :=
  ∀ Γ p, Γ.code = c → Γ.Woken A → ∃ e s', Runs M Γ p t fs s e s' ∧ Φ e s'
section
variable {M : Model} {A : Around} {Φ : End → Shared → Prop} {c : Code} {fs : List Frame} {s : Shared} {env : Env} {K : Flow → Sem Fin} {H : Value → Sem Fin} {gd : Bool → Bool} {lv : List Value → List Value}
theorem sg_wrap {α : Type} {m : Sem α} {K : α → Sem Fin} {H : Value → Sem Fin} {gd lv}
    (h : wpAny M (A.over c fs) m (fun a s' => SegG M A Φ c (K a) fs s') (fun x s' => SegG M A Φ c (H x) fs s') s) : SegG M A Φ c (m.wrap K H gd lv) fs s := by
  rintro Γ p rfl hΓ
  exact runs_wrap_of_wp K H gd lv m (h (Γ.over fs) p (hΓ.over fs)) (fun a p' s' h' => h' Γ p' rfl hΓ) fun x p' s' h' => h' Γ p' rfl hΓ
theorem sg_bind {α : Type} {m : Sem α} {K : α → Sem Fin} (h : wpAny M (A.over c fs) m (fun a s' => SegG M A Φ c (K a) fs s') (fun x s' => SegG M A Φ c (.raise x) fs s') s) : SegG M A Φ c (m >>= K) fs s := by
  rw [Sem.bind_eq_wrap']; exact sg_wrap h
theorem sg_bind_wrap {α β : Type} {m : Sem α} {K : α → Sem β} {K' : β → Sem Fin} {H' : Value → Sem Fin} {gd lv}
    (h : wpAny M (A.over c fs) m (fun a s' => SegG M A Φ c ((K a).wrap K' H' gd lv) fs s') (fun x s' => SegG M A Φ c (H' x) fs s') s) : SegG M A Φ c ((m >>= K).wrap K' H' gd lv) fs s := by
  rw [Sem.bind_eq_wrap', Sem.wrap_wrap]; exact sg_wrap h
theorem sg_at {p' : Pos} {k : Unit → Sem Fin} (h : SegG M A Φ c (k ()) fs s) : SegG M A Φ c (.at p' k) fs s :=
  sg_wrap (m := standAt p') (K := k) (H := .raise) (gd := id) (lv := id) (wpAny_standAt h)
theorem sg_point {l : List Value} {k : Unit → Sem Fin} (h : SegG M A Φ c (k ()) fs s) : SegG M A Φ c (.point l k) fs s :=
  sg_wrap (m := point) (K := k) (H := .raise) (gd := id) (lv := fun _ => l) (wpAny_point h)
theorem sg_call {c' : Code} {h g l} {k : Result → Sem Fin} (hc : ∀ p, SegG M A Φ c' (M.den c') (.ret k h g l c p [] :: fs) s) : SegG M A Φ c (.call c' h g l k) fs s := by
  rintro Γ p rfl hΓ
  obtain ⟨e, s', hr, he⟩ := hc p (Γ.goto c') p rfl (hΓ.goto c')
  exact ⟨e, s', runs_call_seg hr, he⟩
theorem sg_leaf {k h g l c₁ p₁ kp} (r : Result) (hk : SegG M A Φ c₁ (k r) fs s) : SegG M A Φ c (leafOf r) (.ret k h g l c₁ p₁ kp :: fs) s := by
  rintro Γ p rfl hΓ
  obtain ⟨e, s', hr, he⟩ := hk (Γ.goto c₁) p₁ rfl (hΓ.goto c₁)
  exact ⟨e, s', Runs.pop r hr, he⟩
theorem sg_again {c' : Code} (hq : c'.quiet = true) (hc : SegG M A Φ c' (M.den c') fs s) : SegG M A Φ c (.pure (.again c')) fs s := by
  rintro Γ p rfl hΓ
  obtain ⟨e, s', hr, he⟩ := hc (Γ.goto c') p rfl (hΓ.goto c')
  exact ⟨e, s', Runs.head (c₁ := c') (fun _ _ x => .again hq x) hr, he⟩
theorem sg_end (r : Result) (h : Φ (.ret r) s) : SegG M A Φ c (leafOf r) [] s := by
  rintro Γ p rfl _
  exact ⟨.ret r, s, Runs.leaf r, h⟩
theorem sg_yield {v l} {k : Resume → Sem Fin} (hfs : splitAtGen fs = none) (h : ∀ p, Φ (.susp v false l k c p fs) s) : SegG M A Φ c (.yield v false l k) fs s := by
  rintro Γ p rfl _
  exact ⟨_, s, Runs.yield' fs hfs, h p⟩
theorem sg_execs_cons {st : Stmt} {rest : List Stmt}
    (h : SegG M A Φ c ((exec st env).wrap (fun f => match f with | .next => (execs rest env).wrap K H gd lv | f => K f) H gd lv) fs s) : SegG M A Φ c ((execs (st :: rest) env).wrap K H gd lv) fs s := by rw [execs_cons_wrap]; exact h
theorem sg_While {test : Expr} {body orelse : List Stmt} {pos : Pos}
    (h : ∀ p, SegG M A Φ (.whileLoop test body orelse env) (M.den (.whileLoop test body orelse env))
      (.ret (fun r => ((match r with | .ok f => (.pure f : Sem Flow) | .error e => .raise e).onRaise fun (x : Value) => do
        if (← field x 1) == Value.none then unsupported "frame.own-activation:exception-without-traceback"
        setFlight x env.frame).wrap K H gd lv) none (gd false) (lv []) c p [] :: fs) s) :
    SegG M A Φ c ((exec (.While test body orelse pos) env).wrap K H gd lv) fs s := sg_at (sg_call h)
/-- a generator is woken -/
noncomputable def GoesG (M : Model) (A : Around) (Φ : End → Shared → Prop) (gs : GenState) (s : Shared) : Prop :=
  match gs with
  | .fresh c => SegG M A Φ c (M.den c) [] s
  | .suspended k _ c _ fs _ => SegG M A Φ c (k (.send .none)) fs s
  | _ => False
theorem any_resume {E : Value → Shared → Prop} {g : Nat} {gs : GenState} {l : List Value} {α : Type} {k : GenResult → Sem α} {Q : α → Shared → Prop} (hg : s.gens[g]? = some gs)
    (hgo : GoesG M A (fun e s₁ => e.quiet = true ∧ wpAny M A (k e.result) Q E (s₁.setGen g e.genState)) gs (s.setGen g .running)) :
    wpAny M A (.resume g (.send .none) l k) Q E s := by
  intro Γ p hΓ
  rw [Sem.wp_resume]
  cases gs with
  | fresh c =>
    obtain ⟨e₁, s₁, hr, hq, he⟩ := hgo (Γ.wake c p) p rfl (hΓ.wake c p)
    exact ⟨_, _, by unfold Wakes; rw [hg]; exact ⟨e₁, s₁, hr, hq, rfl, rfl⟩, he Γ p hΓ⟩
  | suspended k₀ l₀ c₀ p₀ fs₀ cl =>
    obtain ⟨e₁, s₁, hr, hq, he⟩ := hgo (Γ.wake c₀ p) p₀ rfl (hΓ.wake c₀ p)
    exact ⟨_, _, by unfold Wakes; rw [hg]; exact ⟨e₁, s₁, hr, hq, rfl, rfl⟩, he Γ p hΓ⟩
  | running => exact hgo.elim
  | finished => exact hgo.elim
end
section
variable {prog : Program} {w : World} {A : Around} {Φ : End → Shared → Prop} {fs : List Frame} {s : Shared} {env : Env}
theorem sg_whileLoop {test : Expr} {body orelse : List Stmt}
    (h : wpAny (model prog w) (A.over (.whileLoop test body orelse env) fs) (isTrue test env (eval test env)) (fun b s' =>
        if b = true then
          SegG (model prog w) A Φ (.whileLoop test body orelse env) ((execs body env).wrap (fun f => match f with
            | .next | .cont => .pure (.again (.whileLoop test body orelse env))
            | .brk => .pure (.done .next)
            | .ret v => .pure (.done (.ret v))) (fun e => (do noteFrame e env; theTreesLotGoes e : Sem Unit).wrap (fun _ => .raise e) .raise id id) id id) fs s'
        else SegG (model prog w) A Φ (.whileLoop test body orelse env) ((execs orelse env).wrap (fun f => .pure (.done f)) (fun e => (do noteFrame e env; theTreesLotGoes e : Sem Unit).wrap (fun _ => .raise e) .raise id id) id id) fs s')
      (fun _ _ => False) s) :
    SegG (model prog w) A Φ (.whileLoop test body orelse env) ((model prog w).den (.whileLoop test body orelse env)) fs s := by
  show SegG _ A Φ _ ((whileTurn test body orelse env).onRaise (fun x => do noteFrame x env; theTreesLotGoes x)) fs s
  unfold whileTurn
  rw [Sem.onRaise_eq_wrap, Sem.bind_eq_wrap', Sem.wrap_wrap]
  refine sg_wrap (wpAny_mono h (fun b s' hb => ?_) fun x s' hx => hx.elim)
  cases b with
  | true =>
    rw [if_pos rfl] at hb
    show SegG _ A Φ _ (Sem.wrap _ _ _ _ (if true = true then _ else _)) fs s'
    rw [if_pos rfl, Sem.bind_eq_wrap', Sem.wrap_wrap]
    rw [Sem.wrap_congr (execs body env) _ _ (K' := fun f => match f with
          | .next | .cont => .pure (.again (.whileLoop test body orelse env))
          | .brk => .pure (.done .next)
          | .ret v => .pure (.done (.ret v))) (H' := (fun e => (do noteFrame e env; theTreesLotGoes e : Sem Unit).wrap (fun _ => .raise e) .raise id id))
      (fun f => by cases f <;> rfl) (fun e => by first | exact Sem.bind_eq_wrap _ _ | (show (do noteFrame e env; theTreesLotGoes e : Sem Unit).bind (fun _ => .raise e) = _; rw [Sem.bind_eq_wrap]))]
    exact hb
  | false =>
    rw [if_neg Bool.false_ne_true] at hb
    show SegG _ A Φ _ (Sem.wrap _ _ _ _ (if false = true then _ else _)) fs s'
    rw [if_neg Bool.false_ne_true, Sem.bind_eq_wrap', Sem.wrap_wrap]
    rw [Sem.wrap_congr (execs orelse env) _ _ (K' := fun f => (.pure (.done f) : Sem Fin)) (H' := (fun e => (do noteFrame e env; theTreesLotGoes e : Sem Unit).wrap (fun _ => .raise e) .raise id id)) (fun f => by rfl) (fun e => by first | exact Sem.bind_eq_wrap _ _ | (show (do noteFrame e env; theTreesLotGoes e : Sem Unit).bind (fun _ => .raise e) = _; rw [Sem.bind_eq_wrap]))]
    exact hb
theorem sg_func {body : List Stmt}
    (h : SegG (model prog w) A Φ (.func body env) ((execs body env).wrap (fun f => .pure (.done (.ret (match f with | .ret v => v | _ => .none))))
      (fun e => (leaving env e).wrap (fun _ => .raise e) .raise id id) id id) fs s) :
    SegG (model prog w) A Φ (.func body env) ((model prog w).den (.func body env)) fs s := by
  show SegG _ A Φ _ (.point [] fun _ => ((execs body env).onRaise (leaving env)) >>= _) fs s
  refine sg_point ?_
  rw [Sem.onRaise_eq_wrap, Sem.bind_eq_wrap', Sem.wrap_wrap]
  rw [Sem.wrap_congr (execs body env) _ _ (K' := fun f => .pure (.done (.ret (match f with | .ret v => v | _ => .none))))
    (H' := fun e => (leaving env e).wrap (fun _ => .raise e) .raise id id) (fun f => by cases f <;> rfl) (fun e => by rw [Sem.bind_eq_wrap, Sem.wrap_wrap]; rfl)]
  exact h
end
end
section
set_option maxHeartbeats 1000000
open PySem.Calls
noncomputable abbrev yf (it : Addr) : Code := .builtin "proto.yield_from" ⟨[.ref it, .bool false, .none], []⟩
theorem yf_entry : entryFor table "proto.yield_from" = some Builtin.«proto.yield_from» := entryFor_of_tree (by kernel_rfl)
theorem yf_quiet (it : Addr) : (yf it).quiet = true := by unfold yf; exact Code.quiet_builtin _ (by decide +kernel)
theorem den_of {prog : Program} {w : World} {id : String} {args : Args} {b : Builtin} (h : entryFor table id = some b) : (model prog w).den (.builtin id args) = b args := by
  show (match entryFor table id with | some b => b args | none => unsupported ((withoutEnding? id "#data").getD id)) = _
  rw [h]
theorem yf_den {prog : Program} {w : World} (it : Addr) : (model prog w).den (yf it) = Builtin.«proto.yield_from» ⟨[.ref it, .bool false, .none], []⟩ := den_of yf_entry
theorem yf_close : typeLookup (.type "tuple_iterator") "close" = pure none := by rw [typeLookup_type, builtinLookup_eq_fast]; kernel_rfl
theorem yf_mc : typeOf (.type "StopIteration") = pure (.type "type") := by first | rfl | kernel_rfl
section
variable {prog : Program} {w : World} {A : Around} {Φ : End → Shared → Prop} {fs : List Frame} {s : Shared} {env : Env}
theorem yf_slept {it t : Addr} {i : Nat} {b : Bool} {A : Around} {E : Value → Shared → Prop} {Q : Unit → Shared → Prop} (hit : s.heap.IsTupleIter it t i) (h : Q () s) : wpAny (model prog w) A (Builtin.Generator.sleptOver (.ref it) b) Q E s := by
  obtain ⟨o, ho, hc, hd⟩ := hit
  unfold Builtin.Generator.sleptOver
  refine wpAny_bind (wpAny_load ho ?_)
  rw [hc]
  rw [if_pos (by decide)]
  exact wpAny_pure h
theorem yf_item {it t : Addr} {i : Nat} {items : Array Value} {x : Value} (hit : s.heap.IsTupleIter it t i) (ht : s.heap.IsTuple t items) (hx : items[i]? = some x)
    (h : ∀ h' p l k, h'.IsTupleIter it t (i + 1) → Heap.SameBut it s.heap h' →
      (∀ A' Φ' (s' : Shared), (∃ j, s'.heap.IsTupleIter it t j) → SegG (model prog w) A' Φ' (yf it) ((model prog w).den (yf it)) fs s' → SegG (model prog w) A' Φ' (yf it) (k (.send .none)) fs s') →
      Φ (.susp x false l k (yf it) p fs) { s with heap := h' }) (hfs : splitAtGen fs = none) :
    SegG (model prog w) A Φ (yf it) ((model prog w).den (yf it)) fs s := by
  obtain ⟨o, ho, hc, hd⟩ := id hit
  obtain ⟨ol, hol, _, nl, hdl⟩ := ht
  rw [yf_den]
  unfold Builtin.«proto.yield_from»
  refine sg_bind (wpAny_pure ?_)
  refine sg_bind (wpAny_attempt (wpAny_holding ?_))
  show wpAny _ _ (rule "yield-from.next" >>= _) _ _ s
  refine wpAny_bind (wpAny_rule (wpAny_bind (wpAny_callSpecial?_slot (name := Str.ofString "__next__") hit.typeIs F.slot_tuple_iterator_next
    (wpAny_call_entry F.slot_tuple_iterator_next hit.typeIs F.entry_tuple_iterator_next ?_ (F.args_tuple_iterator_next_1 _)))))
  show wpAny _ _ (field (.ref it) 0 >>= _) _ _ s
  refine wpAny_bind (wpAny_field ho hd (x := .ref t) rfl ?_)
  show wpAny _ _ (if (Value.ref t == Value.none) = true then _ else _) _ _ s
  rw [if_neg (show ¬ ((Value.ref t == Value.none) = true) from Bool.false_ne_true)]
  show wpAny _ _ (field (.ref it) 1 >>= _) _ _ s
  refine wpAny_bind (wpAny_field ho hd (x := .int i 0) rfl ?_)
  show wpAny _ _ (seqItems? (.ref t) >>= _) _ _ s
  refine wpAny_bind (wpAny_seqItems hol hdl ?_)
  simp only [Int.toNat_natCast, hx]
  refine wpAny_bind (wpAny_setField ho hd (by simp) (wpAny_pure ⟨x, rfl, wpAny_pure ?_⟩))
  have hit' : (s.heap.update it (Obj.mapFields fun x => x.setIfInBounds 1 (rawInt (↑i + 1)))).IsTupleIter it t (i + 1) :=
    ⟨_, Heap.get?_update_self _ ho (Obj.isFreed_of_fields (Obj.data_mapFields hd _)), (Obj.cls_mapFields ..).trans hc, by rw [Obj.data_mapFields hd]; simp [rawInt]⟩
  refine sg_bind (wpAny_typeOf (s := { s with heap := s.heap.update it (Obj.mapFields fun x => x.setIfInBounds 1 (rawInt (↑i + 1))) }) hit'.typeIs ?_)
  show SegG _ _ _ _ (typeLookup (.type "tuple_iterator") "close" >>= _) _ _
  refine sg_bind (wpAny_of_eq yf_close ?_)
  refine sg_bind (wpAny_pure ?_)
  refine sg_bind (yf_slept hit' ?_)
  show SegG _ _ _ _ (.yield x false [] _) _ _
  refine sg_yield hfs fun p => h _ p _ _ hit' (Heap.SameBut.update ..) ?_
  rintro A' Φ' s' ⟨j, hj⟩ hs
  show SegG _ _ _ _ (Builtin.Generator.sleptOver (.ref it) false >>= _) _ _
  refine sg_bind (yf_slept hj ?_)
  show SegG _ _ _ _ (.pure (.again (yf it))) _ _
  exact sg_again (yf_quiet it) hs
theorem yf_end {it t : Addr} {i : Nat} {items : Array Value} (hh : (A.over (yf it) fs).handled = none) (hit : s.heap.IsTupleIter it t i) (ht : s.heap.IsTuple t items) (hx : items[i]? = none)
    (h : ∀ h', Heap.ExtBut it s.heap h' → SegG (model prog w) A Φ (yf it) (leafOf (.ok (.ret .none))) fs { s with heap := h' }) :
    SegG (model prog w) A Φ (yf it) ((model prog w).den (yf it)) fs s := by
  obtain ⟨o, ho, hc, hd⟩ := id hit
  obtain ⟨ol, hol, _, nl, hdl⟩ := ht
  rw [yf_den]
  unfold Builtin.«proto.yield_from»
  refine sg_bind (wpAny_pure ?_)
  refine sg_bind (wpAny_attempt (wpAny_holding ?_))
  show wpAny _ _ (rule "yield-from.next" >>= _) _ _ s
  refine wpAny_bind (wpAny_rule (wpAny_bind (wpAny_callSpecial?_slot (name := Str.ofString "__next__") hit.typeIs F.slot_tuple_iterator_next
    (wpAny_call_entry F.slot_tuple_iterator_next hit.typeIs F.entry_tuple_iterator_next ?_ (F.args_tuple_iterator_next_1 _)))))
  show wpAny _ _ (field (.ref it) 0 >>= _) _ _ s
  refine wpAny_bind (wpAny_field ho hd (x := .ref t) rfl ?_)
  show wpAny _ _ (if (Value.ref t == Value.none) = true then _ else _) _ _ s
  rw [if_neg (show ¬ ((Value.ref t == Value.none) = true) from Bool.false_ne_true)]
  show wpAny _ _ (field (.ref it) 1 >>= _) _ _ s
  refine wpAny_bind (wpAny_field ho hd (x := .int i 0) rfl ?_)
  show wpAny _ _ (seqItems? (.ref t) >>= _) _ _ s
  refine wpAny_bind (wpAny_seqItems hol hdl ?_)
  simp only [Int.toNat_natCast, hx]
  refine wpAny_bind (wpAny_rule (wpAny_bind (wpAny_setField ho hd (by simp) ?_)))
  show wpAny _ _ (newExc (.type "StopIteration") [] >>= _) _ _ _
  refine wpAny_bind ?_
  simp only [newExc, newTuple]
  refine wpAny_bind (wpAny_newObj_type ?_ (by size_fits))
  refine wpAny_bind (m := firstArgMember _ _) (wpAny_of_eq (a := Value.none) (by first | rfl | (simp only [firstArgMember]; rfl)) ?_)
  refine wpAny_newObj_type ?_ (by size_fits)
  simp only [raiseNew]
  refine wpAny_bind (wpAny_handled ?_)
  rw [show (A.over (yf it) fs).in1.handled = none from hh]
  refine wpAny_bind (wpAny_pure (wpAny_throw ?_))
  refine sg_bind ?_
  unfold Builtin.Generator.endsTheTurnAsAValue Builtin.Generator.isStopAndMetaclass
  refine wpAny_bind (wpAny_bind (wpAny_typeOf (T := "StopIteration") ⟨_, Heap.get?_push_size _ rfl, rfl⟩ ?_))
  refine wpAny_bind (wpAny_of_eq isSubtype_stop ?_)
  refine wpAny_bind (wpAny_of_eq yf_mc (wpAny_pure (wpAny_pure ?_)))
  rw [if_pos rfl, if_neg Bool.false_ne_true]
  refine sg_bind (wpAny_rule ?_)
  refine sg_bind (wpAny_field (Heap.get?_push_size _ rfl) rfl (x := .none) rfl ?_)
  exact h _ (((Heap.SameBut.update ..).extBut.push _).push _)
/-- yield from <a tuple>, as a statement -/
theorem sg_YieldFrom {e : Expr} {ypos pos : Pos} {c : Code} {K : Flow → Sem Fin} {H : Value → Sem Fin} {gd : Bool → Bool} {lv : List Value → List Value} (hi : interactive env = false)
    (h : wpAny (model prog w) (A.over c fs) (eval e env) (fun v s₁ => ∃ Tt items, v = .ref Tt ∧ s₁.heap.IsTuple Tt items ∧ ∀ p k3,
        (∀ A' Φ' (s' : Shared), SegG (model prog w) A' Φ' c (K .next) fs s' → SegG (model prog w) A' Φ' c (k3 (.ok (.ret .none))) fs s') →
        SegG (model prog w) A Φ (yf s₁.heap.objs.size) ((model prog w).den (yf s₁.heap.objs.size)) (.ret k3 none (gd false) (lv []) c p [] :: fs) { s₁ with heap := s₁.heap.push { cls := .type "tuple_iterator", data := .fields #[.ref Tt, .int 0 0] } })
      (fun x s' => SegG (model prog w) A Φ c (H x) fs s') s) :
    SegG (model prog w) A Φ c ((exec (.Expr (.YieldFrom e ypos) pos) env).wrap K H gd lv) fs s := by
  rw [exec_Expr env _ pos hi rfl]
  show SegG _ A Φ c (.at pos fun _ => ((eval e env >>= fun v => (standAt ypos >>= fun _ => yieldFrom env v)) >>= fun x => dropValue (.YieldFrom e ypos) pos x).wrap K H gd lv) fs s
  refine sg_at ?_
  rw [Sem.bind_eq_wrap', Sem.bind_eq_wrap', Sem.wrap_wrap, Sem.wrap_wrap]
  refine sg_wrap (wpAny_mono h (fun v s' h' => ?_) fun _ _ x => x)
  obtain ⟨Tt, items, rfl, ht, h'⟩ := h'
  refine sg_at ?_
  refine sg_bind_wrap (wpAny_pure ?_)
  unfold yieldFrom
  refine sg_bind_wrap (wpAny_typeOf ht.typeIs ?_)
  rw [if_neg (by decide)]
  refine sg_bind_wrap (wpAny_holding (wpAny_pyIter_tuple ht ?_))
  refine sg_call fun p => h' p _ ?_
  intro A' Φ' s'' hs
  exact hs
end
end
section
set_option maxHeartbeats 1000000
open PySem.Calls
/-! a generator of the law's, seen from the law: it owns O, the law owns rest -/
noncomputable def GPre (h₀ : Heap) (L : Addr) (O rest : List (Addr × Obj)) (m : Str → Option Value) (h : Heap) : Prop := Fr h₀ L h m ∧ News h₀ L h (O ++ rest) ∧ ∀ p ∈ O, ∀ q ∈ rest, p.1 ≠ q.1
/-- woken again and again it yields just these -/
noncomputable def GenOn (M : Model) (A : Around) (h₀ : Heap) (L : Addr) : List Int → List (Addr × Obj) → GenState → Prop
  | [], O, gs => ∀ (s : Shared) (m : Str → Option Value) (rest : List (Addr × Obj)) (Φ : End → Shared → Prop), GPre h₀ L O rest m s.heap →
      (∀ h' tk, Fr h₀ L h' m → News h₀ L h' rest → Φ (.ret (.ok (.ret .none))) { s with heap := h', toks := tk }) → GoesG M A Φ gs s
  | x :: t, O, gs => ∀ (s : Shared) (m : Str → Option Value) (rest : List (Addr × Obj)) (Φ : End → Shared → Prop), GPre h₀ L O rest m s.heap →
      (∀ h' tk tv O' l k c p fs, GPre h₀ L O' rest m h' → fs.any Frame.guarded = false → GenOn M A h₀ L t O' (.suspended k l c p fs false) → Φ (.susp (.int x tv) false l k c p fs) { s with heap := h', toks := tk }) → GoesG M A Φ gs s
section
variable {prog : Program} {w : World} {A : Around} {E : Value → Shared → Prop} {s : Shared} {h₀ : Heap} {L : Addr} {m : Str → Option Value}
theorem bare_set {gens : Array GenState} {g : Nat} {x : GenState} (h : AllBare gens) (hx : x.bare = true) : AllBare (gens.setIfInBounds g x) := by
  intro y hy
  rcases Array.mem_or_eq_of_mem_setIfInBounds hy with h' | h'
  · exact h y h'
  · rw [h']; exact hx
theorem gens_set {g : Nat} {gs gs' : GenState} {s : Shared} (h : s.gens[g]? = some gs) (h' : Heap) (tk : Nat) (hb : gs'.bare = true) : ∃ gens', (({ s.setGen g .running with heap := h', toks := tk } : Shared).setGen g gs') = { s with heap := h', toks := tk, gens := gens' } ∧ gens'[g]? = some gs' ∧ (AllBare s.gens → AllBare gens') := by
  have hlt : g < s.gens.size := by
    rcases Nat.lt_or_ge g s.gens.size with q | q
    · exact q
    · rw [Array.getElem?_eq_none q] at h; cases h
  refine ⟨_, rfl, ?_, fun hs => ?_⟩
  · simp [Shared.setGen, hlt]
  · simp only [Shared.setGen]
    exact bare_set (bare_set hs rfl) hb
theorem gen_next {a : Addr} {g : Nat} {gs : GenState} {todo : List Int} {O rest : List (Addr × Obj)} {Q : Option Value → Shared → Prop} (hh : A.handled = none) (hl : s.heap.NoLimit) (hroom : A.depth < recursionLimit)
    (hg : s.heap.IsGen a g) (hgs : s.gens[g]? = some gs) (hon : GenOn (model prog w) A.in1 h₀ L todo O gs) (pre : GPre h₀ L O rest m s.heap)
    (h0 : todo = [] → ∀ h' tk gens', (AllBare s.gens → AllBare gens') → Fr h₀ L h' m → News h₀ L h' rest → Q none { s with heap := h', toks := tk, gens := gens' })
    (h1 : ∀ x t, todo = x :: t → ∀ h' tk gens' tv O' gs', (AllBare s.gens → AllBare gens') → gens'[g]? = some gs' → GPre h₀ L O' rest m h' → GenOn (model prog w) A.in1 h₀ L t O' gs' → Q (some (.int x tv)) { s with heap := h', toks := tk, gens := gens' }) :
    wpAny (model prog w) A (pyNext (.ref a)) Q E s := by
  unfold pyNext
  refine wpAny_bind (wpAny_attempt (wpAny_callSpecial?_slot (name := Str.ofString "__next__") hg.typeIs slot_gen_next
    (wpAny_call_entry slot_gen_next hg.typeIs entry_gen_next ?_ (args_gen_next _))))
  show wpAny _ _ (Builtin.Generator.genWake (.ref a) (.send .none)) _ _ s
  unfold Builtin.Generator.genWake
  refine wpAny_bind (wpAny_holding (wpAny_genNumber hg (wpAny_bind (wpAny_genState hgs ?_))))
  cases gs with
  | running => cases todo with
    | nil => exact (hon _ _ _ (fun _ _ => True) pre fun _ _ _ _ => trivial).elim
    | cons x t => exact (hon _ _ _ (fun _ _ => True) pre fun _ _ _ _ _ _ _ _ _ _ _ _ => trivial).elim
  | finished => cases todo with
    | nil => exact (hon _ _ _ (fun _ _ => True) pre fun _ _ _ _ => trivial).elim
    | cons x t => exact (hon _ _ _ (fun _ _ => True) pre fun _ _ _ _ _ _ _ _ _ _ _ _ => trivial).elim
  | _ =>
    refine wpAny_bind (wpAny_roomToWake hl hroom ?_)
    show wpAny _ _ (.resume g (.send .none) [] _) _ _ s
    refine any_resume hgs ?_
    have pre' : GPre h₀ L O rest m (s.setGen g .running).heap := pre
    cases todo with
    | nil =>
      refine hon _ m rest _ pre' fun h' tk F' N' => ⟨rfl, ?_⟩
      show wpAny _ _ (newExc (.type "StopIteration") [] >>= _) _ _ _
      refine wpAny_bind ?_
      simp only [newExc, newTuple]
      refine wpAny_bind (wpAny_newObj_type ?_ (by size_fits))
      refine wpAny_bind (m := firstArgMember _ _) (wpAny_of_eq (a := Value.none) (by first | rfl | (simp only [firstArgMember]; rfl)) ?_)
      refine wpAny_newObj_type ?_ (by size_fits)
      simp only [raiseNew]
      refine wpAny_bind (wpAny_bind (wpAny_handled ?_))
      rw [show A.in1.handled = none from hh]
      refine wpAny_throw ?_
      refine wpAny_bind (wpAny_isInstance (T := "StopIteration") (b := true) ⟨_, Heap.get?_push_size _ rfl, rfl⟩ isSubtype_stop ?_)
      refine wpAny_pure ?_
      have up : ∀ (o o' : Obj) b x, h'.get? b = some x → ((h'.push o).push o').get? b = some x := fun o o' b x e => Heap.get?_push_of_some _ (Heap.get?_push_of_some _ e)
      refine h0 rfl _ _ _ ?_ (F'.keeps (up _ _)) (N'.grown (up _ _))
      intro hs
      simp only [Shared.setGen]
      exact bare_set (bare_set hs rfl) rfl
    | cons x t =>
      refine hon _ m rest _ pre' fun h' tk tv O' l k c p fs P' hfs hon' => ⟨by simp [End.quiet, hfs], ?_⟩
      obtain ⟨gens', e, hg', hbare⟩ := gens_set (gs' := .suspended k l c p fs false) hgs h' tk rfl
      have e2 : (End.susp (.int x tv) false l k c p fs).genState = .suspended k l c p fs false := by simp [End.genState, hfs]
      rw [e2]
      refine wpAny_pure ⟨_, rfl, wpAny_pure ?_⟩
      have := h1 x t rfl h' tk gens' tv O' _ hbare hg' P' hon'
      rw [← e] at this
      exact this
end
end
section
set_option maxHeartbeats 8000000
theorem frag_on9 : (fun (_ : Params → Frag) => PySem.Challenge.rw_cy0005_01.Holds) KF → True := by
  k_fill
  intro _; trivial
open PySem.Calls PyProof.Rows.TI PyProof.Rows.LCg
noncomputable def OutG (M : Model) (A : Around) (h₀ : Heap) (L : Addr) (s : Shared) (m : Str → Option Value) (rest : List (Addr × Obj)) (todo : List Int) (Φ : End → Shared → Prop) : Prop :=
  (todo = [] → ∀ h' tk, Fr h₀ L h' m → News h₀ L h' rest → Φ (.ret (.ok (.ret .none))) { s with heap := h', toks := tk }) ∧
  ∀ x t, todo = x :: t → ∀ h' tk tv O' l k c p fs, GPre h₀ L O' rest m h' → fs.any Frame.guarded = false → GenOn M A h₀ L t O' (.suspended k l c p fs false) → Φ (.susp (.int x tv) false l k c p fs) { s with heap := h', toks := tk }
theorem genOn_of {M : Model} {A : Around} {h₀ : Heap} {L : Addr} {todo : List Int} {O : List (Addr × Obj)} {gs : GenState}
    (h : ∀ (s : Shared) (m : Str → Option Value) (rest : List (Addr × Obj)) (Φ : End → Shared → Prop), GPre h₀ L O rest m s.heap → OutG M A h₀ L s m rest todo Φ → GoesG M A Φ gs s) : GenOn M A h₀ L todo O gs := by
  cases todo with
  | nil => exact fun s m rest Φ P k => h s m rest Φ P ⟨fun _ => k, fun x t e => by cases e⟩
  | cons x t => exact fun s m rest Φ P k => h s m rest Φ P ⟨fun e => by (cases e), fun x' t' e => by cases e; exact k⟩
section
variable {w : World} {A₀ A : Around} {base h₀ : Heap} {outer : List Env} {env : Env} {L : Addr} {m mg mb : Str → Option Value} {p : Program} {loose : List Str} {mean : ExcName → Option Value} {s : Shared}
  {R : Result → Shared → Prop} {news : List (Addr × Obj)}
/-- a generator is made -/
theorem enter_gen {name qual : Str} {params : Arguments} {body : List Stmt} {scope : Scope} {dV kV doc pm cdv ct oc : Value} {an od : Option Addr} {osl : Array (Option Value)} {f : Addr} {args : Args} {binds : List (Str × Value)}
    (F : Fr h₀ L s.heap m) (X₀ : (KF w.params).In h₀) (N : News h₀ L s.heap news) (T : Top p loose mean mg mb h₀)
    (ho : (KF w.params).lookup f = some ⟨oc, od, .func (fnOf name qual params body scope dV kV doc pm an cdv ct), osl⟩) (hcd : codeIn (KF w.params) cdv qual = true) (hroom : A.depth < recursionLimit)
    (hbind : BindsTo s (fnOf name qual params body scope dV kV doc pm an cdv ct) args binds) (hloc : ∀ y ∈ binds, scope.names.lookup y.1 = some .local)
    (h : ∀ Lg Ga h₁ tk oLg og, NsObj oLg (fun y => binds.reverse.lookup y) → (og.cls = .type "generator" ∧ (∃ nm qn, og.data = .fields #[.int s.gens.size 0, nm, qn]) ∧ og.slots = #[]) → (∀ q ∈ (L, og) :: news, q.1 < Lg) → @LT.lt Nat _ Lg Ga →
      Fr h₀ L h₁ m → News h₀ L h₁ ((Ga, og) :: (Lg, oLg) :: news) →
      R (.ok (.ret (.ref Ga))) { s with heap := h₁, toks := tk, gens := s.gens.push (.fresh (.func body (envOf qual scope Lg f cdv))) })
    (hco : scope.isCoroutine = false) (hgen : scope.isGenerator = true) (hk : scope.kind = .function)
    (hcell : ∀ x ∈ scope.names, x.2 ≠ .cell) : codeAny (model Pr w) A (.call (.ref f) args) R s := by
  have X := X₀.keeps F.keep
  refine codeAny_call_generator (fd := fnOf name qual params body scope dV kV doc pm an cdv ct) (body := body) hroom (X _ _ ho) rfl hco hgen rfl (codeRec_of X hcd) (hbind _ _ _ _ ?_)
  refine wpAny_newFunctionEnv hcell hloc (fun h1 hns1 hsb1 => ?_) hk
  have hlim : s.heap.NoLimit := T.nolimit.keeps F.keep
  have hlt : @LT.lt Nat _ L s.heap.objs.size := F.ns.lt
  have up : ∀ b o, s.heap.get? b = some o → h1.get? b = some o := fun b o e => hsb1.extBut b o (Nat.ne_of_lt (Heap.lt_size e)) (Heap.get?_push_of_some _ e)
  obtain ⟨oLg, hoLg, hns⟩ := ns_obj hns1
  refine ⟨hlim.fresh _ hsb1, h s.heap.objs.size h1.objs.size _ _ oLg { cls := .type "generator", data := .fields #[.int s.gens.size 0, .str name (s.toks + binds.length), .str qual (s.toks + binds.length + 1)] } hns ?_ ?_ ?_ ((F.keeps up).push _) ?_⟩
  · exact ⟨rfl, ⟨_, _, rfl⟩, rfl⟩
  · intro q hq
    rcases List.mem_cons.mp hq with rfl | hq
    · exact hlt
    · exact Heap.lt_size (N q hq).1
  · exact Heap.lt_size hoLg
  · have F1 := F.keeps up
    have N1 : News h₀ L h1 ((s.heap.objs.size, oLg) :: news) := fun q hq => by
      rcases List.mem_cons.mp hq with rfl | hq
      · exact ⟨hoLg, Ne.symm (Nat.ne_of_lt hlt), next_is_new F⟩
      · exact ⟨up _ _ (N q hq).1, (N q hq).2⟩
    exact N1.push F1 _
theorem freed_ns {o : Obj} {m : Str → Option Value} (h : NsObj o m) : o.isFreed = false := by
  obtain ⟨es, ep, hd, _⟩ := h
  obtain ⟨c, d, dt, sl⟩ := o
  dsimp only at hd; subst hd; rfl
/-- the law's ledger seen from the generator: the law's frame goes into the base -/
theorem view_in {Lg : Addr} {oLg : Obj} {O' rest : List (Addr × Obj)} {mg' : Str → Option Value} {h : Heap} (pre : GPre h₀ L ((Lg, oLg) :: O') rest m h) (hns : NsObj oLg mg') (hL : L = h₀.objs.size) (hLg : @LT.lt Nat _ L Lg) (hO : ∀ q ∈ O', q.1 ≠ Lg) :
    ∃ oL, NsObj oL m ∧ Fr (h₀.push oL) Lg h mg' ∧ News (h₀.push oL) Lg h (O' ++ rest) := by
  obtain ⟨F, N, dis⟩ := pre
  obtain ⟨oL, hoL, hnL⟩ := ns_obj F.ns
  refine ⟨oL, hnL, ⟨hns.ns (N _ (.head _)).1, ?_, ?_⟩, ?_⟩
  · intro b o e
    rcases Heap.get?_push_cases e with ⟨rfl, rfl⟩ | e
    · rw [← hL]; exact hoL
    · exact F.keep _ _ e
  · rw [Heap.size_push]; show @LE.le Nat _ _ _; rw [← hL]; omega
  · intro q hq
    have z := N q (.tail _ hq)
    refine ⟨z.1, ?_, ?_⟩
    · rcases List.mem_append.mp hq with h | h
      · exact hO q h
      · exact fun e => dis _ (.head _) q h e.symm
    · rw [Heap.get?_push_ne _ _ _ (hL ▸ z.2.1)]; exact z.2.2
/-- and back -/
theorem view_out {Lg : Addr} {oL : Obj} {O' rest : List (Addr × Obj)} {mg' : Str → Option Value} {h : Heap} (hnL : NsObj oL m) (F : Fr (h₀.push oL) Lg h mg') (N : News (h₀.push oL) Lg h (O' ++ rest)) (dis : ∀ p ∈ O', ∀ q ∈ rest, p.1 ≠ q.1) (hL : L = h₀.objs.size) :
    ∃ oLg, NsObj oLg mg' ∧ GPre h₀ L ((Lg, oLg) :: O') rest m h := by
  obtain ⟨oLg, hoLg, hns⟩ := ns_obj F.ns
  have hgL : (h₀.push oL).get? L = some oL := by rw [hL]; exact Heap.get?_push_size _ (freed_ns hnL)
  have ne : ∀ a, (h₀.push oL).get? a = none → a ≠ L ∧ h₀.get? a = none := fun a e => by
    have h1 : a ≠ L := fun q => by rw [q, hgL] at e; cases e
    exact ⟨h1, by rw [Heap.get?_push_ne _ _ _ (hL ▸ h1)] at e; exact e⟩
  have hLg0 : (h₀.push oL).get? Lg = none := by
    cases e : (h₀.push oL).get? Lg with
    | none => rfl
    | some o => exact absurd (Heap.lt_size e) (Nat.not_lt.mpr F.above)
  refine ⟨oLg, hns, ⟨hnL.ns (F.keep _ _ hgL), fun b o e => F.keep b o (Heap.get?_push_of_some _ e), hL ▸ Nat.le_refl _⟩, ?_, ?_⟩
  · intro q hq
    rcases List.mem_cons.mp hq with rfl | hq
    · exact ⟨hoLg, ne _ hLg0⟩
    · exact ⟨(N q hq).1, ne _ (N q hq).2.2⟩
  · intro p hp q hq
    rcases List.mem_cons.mp hp with rfl | hp
    · exact fun e => (N q (List.mem_append_right _ hq)).2.1 e.symm
    · exact dis p hp q hq
theorem over_func {d u : Nat} {gs : Option (List Code)} {b : List Stmt} {genv : Env} : ∃ d' gs' u', (Around.mk none d (some [env]) gs u).over (.func b genv) [] = ⟨none, d', some [genv, env], gs', u'⟩ ∧ d' ≤ d + 5 := ⟨_, _, _, rfl, by
  show d + _ + _ ≤ d + 5
  rw [Nat.add_assoc]
  exact Nat.add_le_add_left (Nat.le_of_ble_eq_true rfl) d⟩
theorem over_while {d u : Nat} {gs : Option (List Code)} {t : Expr} {b o b' : List Stmt} {genv : Env} {k : Result → Sem Fin} {g : Bool} {l : List Value} {p : Pos} : ∃ d' gs' u', (Around.mk none d (some [env]) gs u).over (.whileLoop t b o genv) [.ret k none g l (.func b' genv) p []] = ⟨none, d', some [genv, env], gs', u'⟩ ∧ d' ≤ d + 5 := ⟨_, _, _, rfl, by
  show d + _ + _ ≤ d + 5
  rw [Nat.add_assoc]
  exact Nat.add_le_add_left (Nat.le_of_ble_eq_true rfl) d⟩
theorem view_push {Lg : Addr} {oL : Obj} {led : List (Addr × Obj)} {mg' : Str → Option Value} {h : Heap} (F : Fr h₀ Lg h mg') (N : News h₀ Lg h ((L, oL) :: led)) (hne : ∀ q ∈ led, q.1 ≠ L) (hL : L = h₀.objs.size) (hLg : @LT.lt Nat _ L Lg) :
    Fr (h₀.push oL) Lg h mg' ∧ News (h₀.push oL) Lg h led := by
  refine ⟨⟨F.ns, ?_, ?_⟩, ?_⟩
  · intro b o e
    rcases Heap.get?_push_cases e with ⟨rfl, rfl⟩ | e
    · rw [← hL]; exact (N _ (.head _)).1
    · exact F.keep _ _ e
  · rw [Heap.size_push]; show @LE.le Nat _ _ _; rw [← hL]; omega
  · intro q hq
    have z := N q (.tail _ hq)
    exact ⟨z.1, z.2.1, by rw [Heap.get?_push_ne _ _ _ (hL ▸ hne q hq)]; exact z.2.2⟩
theorem back_law {σ : Srt} {oN : Obj} {Lg : Addr} {oL : Obj} {xe rest1 : List (Addr × Obj)} {xsr : List NI} {rv po nf : Value} {mg' : Str → Option Value} {h : Heap} {n : Nat} (hL : L = h₀.objs.size) (hnL : NsObj oL m) (F : Fr (h₀.push oL) Lg h mg') (N : News (h₀.push oL) Lg h (xe ++ ledS σ w rv po nf oN xsr rest1))
    (hxe : ∀ p ∈ xe, ∀ q ∈ rest1, p.1 ≠ q.1) (hs : SOK σ xsr rest1 n) : ∃ oLg, NsObj oLg mg' ∧ GPre h₀ L ((Lg, oLg) :: (xe ++ ledS σ w rv po nf oN xsr [])) rest1 m h := by
  refine view_out hnL F (News.sub N fun q hq => ?_) ?_ hL
  · rcases List.mem_append.mp hq with h | h
    · rcases List.mem_append.mp h with h | h
      · exact List.mem_append_left _ h
      · exact List.mem_append_right _ (ledS_split.mpr (.inl h))
    · exact List.mem_append_right _ (ledS_split.mpr (.inr h))
  · intro p hp q hq
    rcases List.mem_append.mp hp with h | h
    · exact hxe p h q hq
    · rcases inL p h with h | h
      · exact fun e => hs.off _ h q hq e.symm
      · cases h
theorem c_static {σ : Srt} {t1 t2 : Tok} {oN : Obj} {xs : List NI} {rest : List (Addr × Obj)} {n : Nat} {G : Gr}
    (hh : A.handled = none) (hfr : A.frames = some [env]) (hdp : A.depth < 600) (hf : env.frame = some L) (hke : env.scope.kind = .function) (hL : L = h₀.objs.size)
    (X₀ : (KF w.params).In h₀) (T : Top p loose mean mg mb h₀) (F : Fr h₀ L s.heap m)
    (hs : SOK σ xs rest n) (hn : n ≤ 1000) (hcl : Closed xs) (hup : ∀ x ∈ xs, ∀ v ∈ x.sv, x.node < intOf v) (hdN : oN.IsDictOf (intKind Pr w) (kvsN xs)) (hG : xs.map NI.pn = mkP G (f0 G))
    (N : News h₀ L s.heap (ledS σ w .none (.int 0 t1) (.int 0 t2) oN xs rest))
    (hq : ∀ Lg Ga h' tk oLg og gs, (og.cls = .type "generator" ∧ (∃ nm qn, og.data = .fields #[.int s.gens.size 0, nm, qn]) ∧ og.slots = #[]) → gs.bare = true → (∀ q ∈ (L, og) :: ledS σ w .none (.int 0 t1) (.int 0 t2) oN xs rest, q.1 < Lg) → @LT.lt Nat _ Lg Ga → Fr h₀ L h' m →
      News h₀ L h' ((Ga, og) :: (Lg, oLg) :: ledS σ w .none (.int 0 t1) (.int 0 t2) oN xs rest) → (∀ uu, GenOn (model Pr w) { A with units := uu } h₀ L (ordF G ((keysG G).length + 1) (f0 G) (ready0 G)) ((Lg, oLg) :: ledS σ w .none (.int 0 t1) (.int 0 t2) oN xs []) gs) →
      R (.ok (.ret (.ref Ga))) { s with heap := h', toks := tk, gens := s.gens.push gs }) :
    codeAny (model Pr w) A (.call (.ref 127) ⟨[.ref σ.S], []⟩) R s := by
  obtain ⟨_, d, _, gd, u⟩ := A
  dsimp only at hh hfr hdp
  subst hh hfr
  refine' enter_gen (binds := [(Str.ofString "self", .ref σ.S)]) F X₀ N T ?k6 ?k7 ?k8 ?k9 ?kB ?_ ?c2 ?c3 ?c4 ?c5
  case k6 => k_is
  case k7 => k_is
  case k8 => simp only [recursionLimit]; omega
  case k9 => exact BindsTo.of_eq rfl
  case c5 => decide
  case kB => exact locs rfl
  case c2 => exact rfl
  case c3 => exact rfl
  case c4 => exact rfl
  intro Lg Ga h1 tk oLg og hns hog hlt hlt2 F1 N1
  refine hq Lg Ga h1 tk oLg og _ hog rfl hlt hlt2 F1 N1 fun uu => genOn_of ?_
  have hLg : @LT.lt Nat _ L Lg := hlt _ (.head _)
  have hOg : ∀ q ∈ ledS σ w .none (.int 0 t1) (.int 0 t2) oN xs [], q.1 ≠ Lg := fun q hq => Nat.ne_of_lt (hlt q (.tail _ (ledS_split.mpr (.inl hq))))
  clear hq N1 F1 hlt hlt2 hog N F
  intro s1 m1 rest1 Φ pre out
  refine sg_func (sg_execs_cons (sg_wrap ?_))
  obtain ⟨d1, gd1, u1, eA, hd1⟩ := over_func (env := env) (d := d) (u := uu) (gs := gd)
  rw [eA]
  obtain ⟨F1, N1, dis⟩ := pre
  obtain ⟨oL, hoL, hnL⟩ := ns_obj F1.ns
  have hoLd : ∃ es ep, oL.data = .dict es ep := let ⟨es, ep, hd, _⟩ := hnL; ⟨es, ep, hd⟩
  have F2 : Fr h₀ Lg s1.heap (fun y => List.lookup y [(Str.ofString "self", Value.ref σ.S)].reverse) := ⟨hns.ns (N1 _ (.head _)).1, F1.keep, by rw [hL] at hLg; exact Nat.le_of_lt hLg⟩
  have N2 : News h₀ Lg s1.heap (ledS σ w .none (.int 0 t1) (.int 0 t2) oN xs (rest1 ++ [(L, oL)])) := by
    intro q hq
    have hq' : q ∈ ledS σ w .none (.int 0 t1) (.int 0 t2) oN xs [] ∨ q ∈ rest1 ∨ q = (L, oL) := by
      rcases ledS_split.mp hq with h | h
      · exact .inl h
      · rcases List.mem_append.mp h with h | h
        · exact .inr (.inl h)
        · exact .inr (.inr (List.mem_singleton.mp h))
    rcases hq' with h | h | rfl
    · have z := N1 q (List.mem_append_left _ (.tail _ h)); exact ⟨z.1, hOg q h, z.2.2⟩
    · have z := N1 q (List.mem_append_right _ h); exact ⟨z.1, fun e => dis _ (.head _) q h e.symm, z.2.2⟩
    · exact ⟨hoL, Nat.ne_of_lt hLg, Heap.get?_none_of_le F1.above⟩
  have hs2 : SOK σ xs (rest1 ++ [(L, oL)]) n := by
    refine ⟨hs.nd, fun a ha q hq => ?_, hs.keys, hs.isi, hs.len, hs.slen, hs.lo⟩
    obtain ⟨q', h1, rfl⟩ := addrS_led (w := w) (rv := .none) (po := .int 0 t1) (nf := .int 0 t2) (oN := oN) (rest := []) a ha
    rcases List.mem_append.mp hq with h | h
    · exact fun e => dis q' (.tail _ h1) q h e.symm
    · rw [List.mem_singleton.mp h]; exact fun e => (N1 q' (List.mem_append_left _ (.tail _ h1))).2.1 e.symm
  have hra2 : ∀ q ∈ rest1, ∀ r ∈ [(L, oL)], q.1 ≠ r.1 := fun q hq r hr => by
    rw [List.mem_singleton.mp hr]; exact (N1 q (List.mem_append_right _ hq)).2.1
  refine wpAny_mono (Q := fun f s' => Box (f = .next ∧ E6 fun h' tk oL' Rl (rs : List Value) ep => A7 (s' = ({ s1 with heap := h', toks := tk } : Shared)) (NsObj oL' m1) (Fr (h₀.push oL') Lg h' (fun y => List.lookup y [(Str.ofString "self", Value.ref σ.S)].reverse)) (News (h₀.push oL') Lg h' ((Rl, listOf rs.toArray ep) :: ledS σ w (.ref Rl) (.int 0 t1) (.int 0 t2) oN xs rest1)) ((∀ v ∈ rs, IsI v)) (rs.map intOf = (xs.filter fun x => decide (x.np = 0)).map (·.node)) ((∀ q ∈ ledS σ w .none (.int 0 t1) (.int 0 t2) oN xs rest1, q.1 < Rl)))) (E := fun _ _ => False) ?_ ?_ (fun _ _ x => x.elim)
  · clear out N1
    (repeat' (((fail_if_success with_reducible first | show wpAny _ _ (call (Value.ref _) _ _) _ _ _ | show wpAny _ _ (exec (Stmt.For _ _ _ _ _) _) _ _ _ | show wpAny _ _ (exec (Stmt.While _ _ _ _) _) _ _ _ | show wpAny _ _ (pyIter _) _ _ _)); ((fail_if_success with_reducible first | show wpAny _ _ (call (Value.type "tuple") _ _) _ _ _)); ((first | (k_unfold; (try dsimp only)) | (k_end; wrow_close) | walk1 | (dsimp only; walk1) | (leave1; walk_say "STEP leave1"; try dsimp only) | fail "no step"))))
    refine wpAny_call (c_prepare (outer := [env]) (frs := [(L, oL)]) rfl rfl (by first | (refine ltu (by assumption) ?_; rfl) | (show d1 < 700; omega)) rfl rfl ⟨by rw [hke]; decide, hf, hoLd, trivial⟩ hra2 X₀ T (by assumption) hs2 (Nat.le_trans hn (by decide)) (Nat.le_trans hs2.len hn) hcl hup hdN (by assumption) ?_)
    intro h3 tk3 frs3 Rl rs ep hsu F3 hrs hrn hltR N3
    (repeat' (((fail_if_success with_reducible first | show wpAny _ _ (call (Value.ref _) _ _) _ _ _ | show wpAny _ _ (exec (Stmt.For _ _ _ _ _) _) _ _ _ | show wpAny _ _ (exec (Stmt.While _ _ _ _) _) _ _ _ | show wpAny _ _ (pyIter _) _ _ _)); ((fail_if_success with_reducible first | show wpAny _ _ (call (Value.type "tuple") _ _) _ _ _)); ((first | (k_unfold; (try dsimp only)) | (k_end; wrow_close) | walk1 | (dsimp only; walk1) | (leave1; walk_say "STEP leave1"; try dsimp only) | fail "no step"))))
    dsimp only
    cases frs3 with
    | nil => exact hsu.elim
    | cons q fr =>
      obtain ⟨q1, qo⟩ := q
      obtain ⟨e1, ⟨sl, e2⟩, hfr'⟩ := hsu
      replace e1 : q1 = L := e1
      replace e2 : qo = { oL with slots := sl } := e2
      cases fr with
      | cons _ _ => exact hfr'.elim
      | nil =>
        subst e1 e2
        have hnL' : NsObj { oL with slots := sl } m1 := hnL
        have N4 : News h₀ Lg h3 ((q1, { oL with slots := sl }) :: ((Rl, listOf rs.toArray ep) :: ledS σ w (.ref Rl) (.int 0 t1) (.int 0 t2) oN xs rest1)) := News.sub N3 (by walk_at "sub")
        have hne : ∀ q ∈ (Rl, listOf rs.toArray ep) :: ledS σ w (.ref Rl) (.int 0 t1) (.int 0 t2) oN xs rest1, q.1 ≠ q1 := by
          intro q hq
          rcases List.mem_cons.mp hq with rfl | hq
          · have : @LT.lt Nat _ q1 Rl := hltR (q1, oL) (ledS_split.mpr (.inr (List.mem_append_right _ (.head _))))
            k_ne
          · rcases inL q hq with h | h
            · exact fun e => hs2.off _ h (q1, oL) (List.mem_append_right _ (.head _)) e.symm
            · exact hra2 q h _ (.head _)
        obtain ⟨F5, N5⟩ := view_push F3 N4 hne hL hLg
        exact ⟨rfl, h3, _, _, Rl, rs, ep, rfl, hnL', F5, N5, hrs, hrn, fun q hq => hltR q (by
          rcases ledS_split.mp hq with h | h
          · exact ledS_split.mpr (.inl h)
          · exact ledS_split.mpr (.inr (List.mem_append_left _ h)))⟩
  · intro f s' hI0
    refine hide fun G hG => ?_
    obtain ⟨rfl, h3, tk3, oL3, Rl, rs, ep, rfl, hnL3, F3, N3, hrs, hrn, hltR⟩ := hI0
    refine hG ?_
    clear hG G
    dsimp only
    refine sg_execs_cons (sg_While ?_)
    intro p1
    generalize hWC : Code.whileLoop _ _ _ _ = WC
    generalize hfr : Frame.ret _ _ _ _ _ _ _ = fr
    have hGm : ∀ g ∈ G, ∃ x ∈ xs, x.node = g.1 ∧ x.sv.map intOf = g.2 := by
      intro g hg
      have : (⟨g.1, f0 G g.1, g.2⟩ : PN) ∈ xs.map NI.pn := by rw [hG]; exact List.mem_map_of_mem (f := fun g : Int × List Int => (⟨g.1, f0 G g.1, g.2⟩ : PN)) hg
      obtain ⟨x, hx, e⟩ := List.mem_map.mp this
      exact ⟨x, hx, congrArg PN.node e, congrArg PN.succ e⟩
    have hkG : keysG G = xs.map (·.node) := by
      have := congrArg (List.map PN.node) hG
      simp only [mkP, List.map_map] at this
      exact this.symm
    have hkN : (keysG G).Nodup := hkG ▸ hs.keys
    have hClG : ClosedG G := by
      intro g hg q hq
      obtain ⟨x, hx, e1, e2⟩ := hGm g hg
      rw [← e2] at hq
      obtain ⟨v, hv, rfl⟩ := List.mem_map.mp hq
      rw [hkG]; exact (hcl x hx v hv).1
    have hCl2 : ∀ g ∈ G, ∀ q ∈ g.2, q ∈ keysG G ∧ q ≠ g.1 := by
      intro g hg q hq
      refine ⟨hClG g hg q hq, ?_⟩
      obtain ⟨x, hx, e1, e2⟩ := hGm g hg
      rw [← e2] at hq
      obtain ⟨v, hv, rfl⟩ := List.mem_map.mp hq
      rw [← e1]; exact (hcl x hx v hv).2
    have hXl : (keysG G).length = xs.length := by rw [hkG]; simp
    have head : ∀ (fuel : Nat) (dn : List Int) (f : Int → Int) (ready : List Int), MI G dn [] f ready → (keysG G).length < dn.length + fuel → ∀ (xsr : List NI) (rs : List Value) (ep : Nat) (Rl : Addr) (u1 u2 : Tok) (v : Option Value) (oL : Obj) (m1 : Str → Option Value) (rest1 : List (Addr × Obj)) (Φ : End → Shared → Prop) (s1 : Shared),
        xsr.map NI.pn = mkP G f → oN.IsDictOf (intKind Pr w) (kvsN xsr) → (∀ v ∈ rs, IsI v) → rs.map intOf = ready → NsObj oL m1 → Fr (h₀.push oL) Lg s1.heap (fun y => if y = Str.ofString "node_group" then v else List.lookup y [(Str.ofString "self", Value.ref σ.S)].reverse) →
        SOK σ xsr ((Rl, listOf rs.toArray ep) :: rest1) n → (∀ q ∈ rest1, q.1 ≠ Rl) → News (h₀.push oL) Lg s1.heap ((Rl, listOf rs.toArray ep) :: ledS σ w (.ref Rl) (.int dn.length u1) (.int dn.length u2) oN xsr rest1) →
        OutG (model Pr w) (Around.mk none d (some [env]) gd uu) h₀ L s1 m1 rest1 (ordF G fuel f ready) Φ → SegG (model Pr w) (Around.mk none d (some [env]) gd uu) Φ WC ((model Pr w).den WC) [fr] s1 := by
      clear hrn hrs hltR N3 F3 hnL3 out F1 N1 dis N2 F2 hs2 hra2 hoL hnL hoLd hup hdN hG
      intro fuel
      induction fuel with
      | zero => intro dn f ready h hl; have := h.len; omega
      | succ fuel ih =>
        intro dn f ready hMI hfu xsr rs ep Rl u1 u2 v oL m1 rest1 Φ s1 hpn hdN hrs hrn hnL F3 hs3 hRr N3 out
        have hrl0 : rs.length = ready.length := by rw [← hrn]; simp
        have hrl : rs.length ≤ 1000 := by
          have h1 := hMI.len
          have := hs.len; omega
        have hst0 : h₀.StaysIn (h₀.push oL) := fun b o e => Heap.get?_push_of_some _ e
        have B' : Below (Around.mk none d (some [env]) gd u) h₀ [env] (h₀.push oL) := ⟨rfl, hst0, .cons (by rw [hke]; decide) hf (hnL.ns (by rw [hL]; exact Heap.get?_push_size _ (freed_ns hnL))) (by rw [hL]; exact Heap.get?_none_of_le (Nat.le_refl _)) trivial⟩
        have X' := X₀.keeps hst0
        have T' := T.keeps hst0
        have hs4 : SOK σ xsr rest1 n := sok_rest hs3 fun a ha q hq => hs3.off a ha q (.tail _ hq)
        rw [← hWC]
        refine sg_whileLoop ?_
        rw [← hfr]
        obtain ⟨d2, gd2, u3, eA, hd2⟩ := over_while (env := env) (d := d) (u := uu) (gs := gd)
        rw [eA]
        rw [hfr, hWC] at eA ⊢
        refine wpAny_mono (Q := fun b s' => Box (b = (!rs.isEmpty) ∧ E2 fun h' tk => A3 (s' = ({ s1 with heap := h', toks := tk } : Shared)) (Fr (h₀.push oL) Lg h' (fun y => if y = Str.ofString "node_group" then v else List.lookup y [(Str.ofString "self", Value.ref σ.S)].reverse)) (News (h₀.push oL) Lg h' ((Rl, listOf rs.toArray ep) :: ledS σ w (.ref Rl) (.int dn.length u1) (.int dn.length u2) oN xsr rest1)))) (E := fun _ _ => False) ?_ ?_ (fun _ _ x => x)
        · clear out ih eA
          (repeat' (((fail_if_success with_reducible first | show wpAny _ _ (call (Value.ref _) _ _) _ _ _ | show wpAny _ _ (exec (Stmt.For _ _ _ _ _) _) _ _ _ | show wpAny _ _ (exec (Stmt.While _ _ _ _) _) _ _ _ | show wpAny _ _ (pyIter _) _ _ _)); ((fail_if_success with_reducible first | show wpAny _ _ (call (Value.type "tuple") _ _) _ _ _)); ((first | (k_unfold; (try dsimp only)) | (k_end; wrow_close) | walk1 | (dsimp only; walk1) | (leave1; walk_say "STEP leave1"; try dsimp only) | fail "no step"))))
          refine wpAny_call (c_is_active (rs := rs) (po := dn.length) (nf := dn.length) (t1 := u1) (t2 := u2) (ep := ep) (Rl := Rl) (outer := [env]) rfl rfl (by first | (refine ltu (by assumption) ?_; rfl) | (show d2 < 800; omega)) rfl rfl B' X' T' (by assumption) (by omega) (by assumption) ?_)
          intro h4 tk4 F4 N4
          (repeat' (((fail_if_success with_reducible first | show wpAny _ _ (call (Value.ref _) _ _) _ _ _ | show wpAny _ _ (exec (Stmt.For _ _ _ _ _) _) _ _ _ | show wpAny _ _ (exec (Stmt.While _ _ _ _) _) _ _ _ | show wpAny _ _ (pyIter _) _ _ _)); ((fail_if_success with_reducible first | show wpAny _ _ (call (Value.type "tuple") _ _) _ _ _)); ((first | (k_unfold; (try dsimp only)) | (k_end; wrow_close) | walk1 | (dsimp only; walk1) | (leave1; walk_say "STEP leave1"; try dsimp only) | fail "no step"))))
          exact ⟨by simp, h4, _, rfl, F4, N4⟩
        · intro b s' hI0
          refine hide fun G hG => ?_
          obtain ⟨rfl, h4, tk4, rfl, F4, N4⟩ := hI0
          refine hG ?_
          clear hG G
          cases rs with
          | nil =>
            rw [if_neg (by decide)]
            show SegG _ _ _ _ (leafOf (.ok .next)) [fr] _
            rw [← hfr]
            refine sg_leaf (.ok .next) ?_
            show SegG _ _ _ _ (leafOf (.ok (.ret .none))) [] _
            refine sg_end _ ?_
            have e0 : ordF G (fuel + 1) f ready = [] := by rw [← hrn]; simp [ordF]
            obtain ⟨_, _, P⟩ := back_law (xe := [(Rl, listOf #[] ep)]) hL hnL F4 N4 (fun p hp q hq => by rw [List.mem_singleton.mp hp]; exact fun e => hRr q hq e.symm) hs4
            exact out.1 e0 h4 tk4 P.1 fun q hq => P.2.1 q (List.mem_append_right _ hq)
          | cons r0 rs0 =>
            rw [if_pos (show (!(r0 :: rs0).isEmpty) = true from rfl)]
            obtain ⟨rs, hrs0⟩ : ∃ rs, rs = r0 :: rs0 := ⟨_, rfl⟩
            rw [← hrs0] at hrs hrn hs3 N3 hrl hrl0 N4
            have hlen0 : 0 < rs.length := by rw [hrs0]; simp
            have hne : ready ≠ [] := by intro e; rw [e] at hrl0; simp only [List.length_nil] at hrl0; omega
            have hord : ordF G (fuel + 1) f ready = ready ++ ordF G fuel (roundF G f ready).1 (roundF G f ready).2 := by
              show (if ready = [] then [] else _) = _
              rw [if_neg hne]
            rw [hord] at out
            clear hord
            have hmem : ∀ v ∈ rs, intOf v ∈ xsr.map (·.node) := by
              intro v hv
              have h1 : intOf v ∈ ready := hrn ▸ List.mem_map_of_mem hv
              have h2 := hMI.sub _ (List.mem_append_right _ (List.mem_append_right _ h1))
              have hk : keysG G = xsr.map (·.node) := by
                have := congrArg (List.map PN.node) hpn
                simp only [mkP, List.map_map] at this
                exact this.symm
              rw [← hk]; exact h2
            refine sg_execs_cons (sg_wrap ?_)
            rw [eA]
            refine wpAny_mono (Q := fun f' s' => Box (f' = .next ∧ E6 fun h' tk Tt ep' t' xs' => A7 (s' = ({ s1 with heap := h', toks := tk } : Shared)) (Fr (h₀.push oL) Lg h' (fun y => if y = Str.ofString "node_group" then some (.ref Tt) else List.lookup y [(Str.ofString "self", Value.ref σ.S)].reverse)) (SOK σ xs' ((Rl, listOf #[] ep') :: rest1) n) (oN.IsDictOf (intKind Pr w) (kvsN xs')) (xs'.map NI.pn = mkP G (ready.foldl outF f)) ((∀ q ∈ (Rl, listOf #[] ep') :: ledS σ w (.ref Rl) (.int (dn.length + rs.length) t') (.int dn.length u2) oN xs' rest1, q.1 < Tt)) (News (h₀.push oL) Lg h' ((Tt, tupOf rs.toArray 0) :: (Rl, listOf #[] ep') :: ledS σ w (.ref Rl) (.int (dn.length + rs.length) t') (.int dn.length u2) oN xs' rest1)))) (E := fun _ _ => False) ?_ ?_ (fun _ _ x => x.elim)
            · clear out ih eA N3 F3
              (repeat' (((fail_if_success with_reducible first | show wpAny _ _ (call (Value.ref _) _ _) _ _ _ | show wpAny _ _ (exec (Stmt.For _ _ _ _ _) _) _ _ _ | show wpAny _ _ (exec (Stmt.While _ _ _ _) _) _ _ _ | show wpAny _ _ (pyIter _) _ _ _)); ((fail_if_success with_reducible first | show wpAny _ _ (call (Value.type "tuple") _ _) _ _ _)); ((first | (k_unfold; (try dsimp only)) | (k_end; wrow_close) | walk1 | (dsimp only; walk1) | (leave1; walk_say "STEP leave1"; try dsimp only) | fail "no step"))))
              refine wpAny_call (c_get_ready (rs := rs) (po := dn.length) (t1 := u1) (ep := ep) (Rl := Rl) (outer := [env]) rfl rfl (by first | (refine ltu (by assumption) ?_; rfl) | (show d2 < 800; omega)) rfl rfl B' X' T' (by assumption) (by omega) hrs hmem hs3 hdN hRr (by assumption) ?_)
              intro h5 tk5 Tt ep5 t5 xs5 F5 hs5 hd5 hp5 hlt5 N5
              (repeat' (((fail_if_success with_reducible first | show wpAny _ _ (call (Value.ref _) _ _) _ _ _ | show wpAny _ _ (exec (Stmt.For _ _ _ _ _) _) _ _ _ | show wpAny _ _ (exec (Stmt.While _ _ _ _) _) _ _ _ | show wpAny _ _ (pyIter _) _ _ _)); ((fail_if_success with_reducible first | show wpAny _ _ (call (Value.type "tuple") _ _) _ _ _)); ((first | (k_unfold; (try dsimp only)) | (k_end; wrow_close) | walk1 | (dsimp only; walk1) | (leave1; walk_say "STEP leave1"; try dsimp only) | fail "no step"))))
              rename Fr (h₀.push oL) Lg _ _ => F6
              have em : (fun y => if y = Str.ofString "node_group" then some (Value.ref Tt) else if y = Str.ofString "node_group" then v else List.lookup y [(Str.ofString "self", Value.ref σ.S)].reverse) = fun y => if y = Str.ofString "node_group" then some (Value.ref Tt) else List.lookup y [(Str.ofString "self", Value.ref σ.S)].reverse := by
                funext y; by_cases q : y = Str.ofString "node_group"
                · simp only [q, if_true]
                · simp only [q, if_false]
              rw [em] at F6
              exact ⟨rfl, _, _, Tt, ep5, t5, xs5, rfl, F6, hs5, hd5, by rw [hp5, hpn, hrn, outsP_mk], hlt5, by assumption⟩
            · intro f' s' hI0
              refine hide fun G hG => ?_
              obtain ⟨rfl, h5, tk5, Tt, ep5, t5, xs5, rfl, F5, hs5, hd5, hp5, hlt5, N5⟩ := hI0
              refine hG ?_
              clear hG G
              dsimp only
              obtain ⟨mG, hmG⟩ : ∃ mG, mG = fun y => if y = Str.ofString "node_group" then some (Value.ref Tt) else List.lookup y [(Str.ofString "self", Value.ref σ.S)].reverse := ⟨_, rfl⟩
              rw [← hmG] at F5
              clear F4 N4 F3 N3 hs3 hdN hpn hmem hs4 hrs0 hrl0
              refine sg_execs_cons (sg_YieldFrom rfl ?_)
              rw [eA]
              refine wpAny_mono (Q := fun v' s' => Box (v' = .ref Tt ∧ s' = ({ s1 with heap := h5, toks := tk5 } : Shared))) (E := fun _ _ => False) ?_ ?_ (fun _ _ x => x.elim)
              · clear out ih eA
                subst hmG
                (repeat' (((fail_if_success with_reducible first | show wpAny _ _ (call (Value.ref _) _ _) _ _ _ | show wpAny _ _ (exec (Stmt.For _ _ _ _ _) _) _ _ _ | show wpAny _ _ (exec (Stmt.While _ _ _ _) _) _ _ _ | show wpAny _ _ (pyIter _) _ _ _)); ((fail_if_success with_reducible first | show wpAny _ _ (call (Value.type "tuple") _ _) _ _ _)); ((first | (k_unfold; (try dsimp only)) | (k_end; wrow_close) | walk1 | (dsimp only; walk1) | (leave1; walk_say "STEP leave1"; try dsimp only) | fail "no step"))))
                exact ⟨rfl, rfl⟩
              · rintro v' s' ⟨rfl, rfl⟩
                refine ⟨Tt, rs.toArray, rfl, ⟨_, (N5 _ (.head _)).1, rfl, _, rfl⟩, fun p3 k3 hk3 => ?_⟩
                dsimp only
                have hIt : @LT.lt Nat _ Lg h5.objs.size := F5.ns.lt
                have hlI : ∀ q ∈ (Tt, tupOf rs.toArray 0) :: (Rl, listOf #[] ep5) :: ledS σ w (.ref Rl) (.int (dn.length + rs.length) t5) (.int dn.length u2) oN xs5 rest1, @LT.lt Nat _ q.1 h5.objs.size := fun q hq => Heap.lt_size (N5 q hq).1
                have hI0 : (h₀.push oL).get? h5.objs.size = none := next_is_new F5
                obtain ⟨It, hItE⟩ : ∃ It, It = h5.objs.size := ⟨_, rfl⟩
                rw [← hItE] at hIt hlI hI0
                have hTR : @LT.lt Nat _ Rl Tt := hlt5 _ (.head _)
                have hTS : ∀ a ∈ addrS σ xs5, @LT.lt Nat _ a Tt := fun a ha => by
                  obtain ⟨q, h1, rfl⟩ := addrS_led (w := w) (rv := .ref Rl) (po := .int (dn.length + rs.length) t5) (nf := .int dn.length u2) (oN := oN) (rest := rest1) a ha
                  exact hlt5 q (.tail _ h1)
                have hTI : @LT.lt Nat _ Tt It := hlI _ (.head _)
                have hk5 : keysG G = xs5.map (·.node) := by
                  have := congrArg (List.map PN.node) hp5
                  simp only [mkP, List.map_map] at this
                  exact this.symm
                have hRS : ∀ a ∈ addrS σ xs5, a ≠ Rl := fun a ha e => hs5.off a ha _ (.head _) e.symm
                have hs6 : SOK σ xs5 [] n := sok_rest hs5 fun _ _ q hq => nomatch hq
                have F6 := F5.push (o := { cls := .type "tuple_iterator", data := .fields #[.ref Tt, .int 0 0] })
                have N6 := N5.push F5 { cls := .type "tuple_iterator", data := .fields #[.ref Tt, .int 0 0] }
                have hr1 : ∀ q ∈ rest1, q.1 ≠ It ∧ q.1 ≠ Tt ∧ q.1 ≠ Rl := fun q hq => by
                  have h1 := hlI q (.tail _ (.tail _ (ledS_split.mpr (.inr hq))))
                  have h2 : @LT.lt Nat _ q.1 Tt := hlt5 q (.tail _ (ledS_split.mpr (.inr hq)))
                  exact ⟨neN (by omega), neN (by omega), hRr q hq⟩
                have hs5r : ∀ a ∈ addrS σ xs5, ∀ q ∈ rest1, q.1 ≠ a := fun a ha q hq => hs5.off a ha q (.tail _ hq)
                clear N5 F5 hlt5 hs5 hlI
                have yl : ∀ (j i : Nat), i + j = rs.length → ∀ (oI oL : Obj) (m1 : Str → Option Value) (rest1 : List (Addr × Obj)) (Φ : End → Shared → Prop) (s1 : Shared), (∀ q ∈ rest1, q.1 ≠ It ∧ q.1 ≠ Tt ∧ q.1 ≠ Rl) → (∀ a ∈ addrS σ xs5, ∀ q ∈ rest1, q.1 ≠ a) → NsObj oL m1 →
                    Fr (h₀.push oL) Lg s1.heap mG → News (h₀.push oL) Lg s1.heap ((It, oI) :: (Tt, tupOf rs.toArray 0) :: (Rl, listOf #[] ep5) :: ledS σ w (.ref Rl) (.int (dn.length + rs.length) t5) (.int dn.length u2) oN xs5 rest1) → (oI.cls = .type "tuple_iterator" ∧ oI.data = .fields #[.ref Tt, .int i 0]) →
                    OutG (model Pr w) (Around.mk none d (some [env]) gd uu) h₀ L s1 m1 rest1 (ready.drop i ++ ordF G fuel (roundF G f ready).1 (roundF G f ready).2) Φ →
                    SegG (model Pr w) (Around.mk none d (some [env]) gd uu) Φ (yf It) ((model Pr w).den (yf It)) (.ret k3 none (id false) (id []) WC p3 [] :: [fr]) s1 := by
                  clear out N6 F6 hr1 hs5r hI0 B' X' T' hst0 hnL hRr
                  intro j
                  induction j with
                  | zero =>
                    intro i hi oI oL m1 rest1 Φ s1 hr1 hs5r hnL F6 N6 hoI out
                    have hit : s1.heap.IsTupleIter It Tt i := ⟨oI, (N6 _ (.head _)).1, hoI.1, hoI.2⟩
                    have htt : s1.heap.IsTuple Tt rs.toArray := ⟨_, (N6 _ (.tail _ (.head _))).1, rfl, _, rfl⟩
                    have hil : rs.toArray[i]? = none := by
                      have : i = rs.length := by omega
                      simp [this]
                    have hneI : ∀ q ∈ (Tt, tupOf rs.toArray 0) :: (Rl, listOf #[] ep5) :: ledS σ w (.ref Rl) (.int (dn.length + rs.length) t5) (.int dn.length u2) oN xs5 rest1, q.1 ≠ It := by
                      intro q hq
                      rcases List.mem_cons.mp hq with rfl | hq
                      · k_ne
                      rcases List.mem_cons.mp hq with rfl | hq
                      · k_ne
                      rcases inL q hq with h | h
                      · have := hTS _ h; k_ne
                      · exact (hr1 q h).1
                    have hdr : ready.drop i = [] := by
                      have : ready.length = rs.length := by rw [← hrn]; simp
                      exact List.drop_eq_nil_of_le (by omega)
                    rw [hdr, List.nil_append] at out
                    refine yf_end (by rw [← hfr, ← hWC]; rfl) hit htt hil ?_
                    intro h7 hex
                    have zI := N6 _ (.head _)
                    have hk7 : ∀ b o, b ∉ [It] → s1.heap.get? b = some o → h7.get? b = some o := fun b o hb e => hex b o (by simpa using hb) e
                    have F7 := fr_but F6 hk7 (Ne.symm zI.2.1) zI.2.2
                    have N7 := news_but (I := It) (fun q hq => N6 q (.tail _ hq)) hk7 hneI
                    have hst0 : h₀.StaysIn (h₀.push oL) := fun b o e => Heap.get?_push_of_some _ e
                    have B' : Below (Around.mk none d (some [env]) gd u) h₀ [env] (h₀.push oL) := ⟨rfl, hst0, .cons (by rw [hke]; decide) hf (hnL.ns (by rw [hL]; exact Heap.get?_push_size _ (freed_ns hnL))) (by rw [hL]; exact Heap.get?_none_of_le (Nat.le_refl _)) trivial⟩
                    have X' := X₀.keeps hst0
                    have T' := T.keeps hst0
                    have hs7 : SOK σ xs5 ((Rl, listOf #[] ep5) :: (Tt, tupOf rs.toArray 0) :: rest1) n := sok_rest hs6 fun a ha q hq => by
                      rcases List.mem_cons.mp hq with rfl | hq
                      · exact (hRS a ha).symm
                      rcases List.mem_cons.mp hq with rfl | hq
                      · have := hTS a ha; k_ne
                      · exact hs5r a ha q hq
                    replace N7 : News (h₀.push oL) Lg h7 ((Rl, listOf #[] ep5) :: ledS σ w (.ref Rl) (.int (dn.length + rs.length) t5) (.int dn.length u2) oN xs5 ((Tt, tupOf rs.toArray 0) :: rest1)) := News.sub N7 (by walk_at "sub")
                    have hRT : ∀ q ∈ (Tt, tupOf rs.toArray 0) :: rest1, q.1 ≠ Rl := fun q hq => by
                      rcases List.mem_cons.mp hq with rfl | hq
                      · k_ne
                      · exact (hr1 q hq).2.2
                    clear N6 F6 hit htt hk7 hex zI hneI hil
                    refine sg_leaf (.ok (.ret .none)) (hk3 _ _ _ ?_)
                    dsimp only
                    refine sg_execs_cons (sg_wrap ?_)
                    rw [eA]
                    refine wpAny_mono (Q := fun f' s' => Box (f' = .next ∧ E6 fun h' tk ep' t' xs' (rs' : List Value) => A6 (s' = ({ s1 with heap := h', toks := tk } : Shared)) (Fr (h₀.push oL) Lg h' mG) (xs'.map NI.st = xs5.map NI.st) ((∀ v ∈ rs', IsI v)) ((xs'.map NI.pn, rs'.map intOf) = (rs.map intOf).foldl doneP (xs5.map NI.pn, ([] : List Value).map intOf)) (News (h₀.push oL) Lg h' ((Rl, listOf rs'.toArray ep') :: ledS σ w (.ref Rl) (.int (dn.length + rs.length) t5) (.int (dn.length + rs.length) t') oN xs' ((Tt, tupOf rs.toArray 0) :: rest1))))) (E := fun _ _ => False) ?_ ?_ (fun _ _ x => x.elim)
                    · clear out ih eA hk3
                      subst hmG
                      (repeat' (((fail_if_success with_reducible first | show wpAny _ _ (call (Value.ref _) _ _) _ _ _ | show wpAny _ _ (exec (Stmt.For _ _ _ _ _) _) _ _ _ | show wpAny _ _ (exec (Stmt.While _ _ _ _) _) _ _ _ | show wpAny _ _ (pyIter _) _ _ _)); ((fail_if_success with_reducible first | show wpAny _ _ (call (Value.type "tuple") _ _) _ _ _)); ((first | (k_unfold; (try dsimp only)) | (k_end; wrow_close) | walk1 | (dsimp only; walk1) | (leave1; walk_say "STEP leave1"; try dsimp only) | fail "no step"))))
                      refine star_attr ?_
                      (repeat' (((fail_if_success with_reducible first | show wpAny _ _ (call (Value.ref _) _ _) _ _ _ | show wpAny _ _ (exec (Stmt.For _ _ _ _ _) _) _ _ _ | show wpAny _ _ (exec (Stmt.While _ _ _ _) _) _ _ _ | show wpAny _ _ (pyIter _) _ _ _)); ((fail_if_success with_reducible first | show wpAny _ _ (call (Value.type "tuple") _ _) _ _ _)); ((first | (k_unfold; (try dsimp only)) | (k_end; wrow_close) | walk1 | (dsimp only; walk1) | (leave1; walk_say "STEP leave1"; try dsimp only) | fail "no step"))))
                      refine callWith_SM (K := KF w.params) (g := 113) (self := .ref σ.S) (by k_is) ?_
                      (repeat' (((fail_if_success with_reducible first | show wpAny _ _ (call (Value.ref _) _ _) _ _ _ | show wpAny _ _ (exec (Stmt.For _ _ _ _ _) _) _ _ _ | show wpAny _ _ (exec (Stmt.While _ _ _ _) _) _ _ _ | show wpAny _ _ (pyIter _) _ _ _)); ((fail_if_success with_reducible first | show wpAny _ _ (call (Value.type "tuple") _ _) _ _ _)); ((first | (k_unfold; (try dsimp only)) | (k_end; wrow_close) | walk1 | (dsimp only; walk1) | (leave1; walk_say "STEP leave1"; try dsimp only) | fail "no step"))))
                      refine star_seq (ws := rs) (by assumption) (by assumption) (o := tupOf rs.toArray 0) (by simp [ledS]) rfl rfl (.inr rfl) (by simp) (by simp only [List.size_toArray]; rw [sizeLine_eq]; omega) ?_
                      intro h8 F8 N8
                      refine ⟨⟨(N8 _ (.head _)).1, X'.keeps F8.keep⟩, call_meth N8 (.head _) ?_⟩
                      refine c_done (rs := []) (vs := rs) (nf := dn.length) (t1 := u2) (ep := ep5) (Rl := Rl) (outer := [env]) rfl rfl (by first | (refine ltu (by assumption) ?_; rfl) | (show d2 < 800; omega)) rfl rfl B' X' T' F8 (fun _ h => nomatch h) hrs ?_ (by omega) ?_ ?_ hs7 (closed_of hp5 hCl2) hd5 hRT (News.sub N8 fun q hq => .tail _ hq) ?_
                      · have := Nat.mul_le_mul hrl hn; simp only [List.length_nil]; omega
                      · intro v hv
                        have h1 : intOf v ∈ ready := hrn ▸ List.mem_map_of_mem hv
                        rw [hk5.symm]; exact hMI.sub _ (List.mem_append_right _ (List.mem_append_right _ h1))
                      · intro i' k hk q hq
                        rw [hrn] at hk
                        have hsb : ∀ z ∈ ready, z ∈ keysG G := fun z hz => hMI.sub _ (List.mem_append_right _ (List.mem_append_right _ hz))
                        rw [hrn, hp5, List.map_nil, donesP_mk hClG fun z hz => hsb z (List.mem_of_mem_take hz)] at hq
                        dsimp only at hq
                        rw [lookP_mk (hsb k (List.mem_of_getElem? hk))] at hq
                        cases hq
                        have hout := hMI.outs
                        rw [← List.take_append_drop i' ready] at hout
                        rw [List.take_append_drop i' ready] at hout
                        have hst := MI.steps hkN hClG (l := ready.take i') (grp := ready.drop i') (f := ready.foldl outF f) (r := []) (dn := dn) (by rw [List.take_append_drop]; exact hMI.outs)
                        exact hst.fg k (by
                          have : i' < ready.length := by
                            rcases Nat.lt_or_ge i' ready.length with h | h
                            · exact h
                            · rw [List.getElem?_eq_none h] at hk; cases hk
                          rw [List.drop_eq_getElem_cons this]
                          rw [List.getElem?_eq_getElem this] at hk
                          cases hk; exact .head _)
                      intro h9 tk9 ep9 t9 xs9 rs9 F9 hst9 hi9 hp9 N9
                      exact ⟨rfl, h9, tk9, ep9, t9, xs9, rs9, rfl, F9, hst9, hi9, hp9, N9⟩
                    · intro f' s' hI0
                      refine hide fun G hG => ?_
                      obtain ⟨rfl, h8, tk8, ep8, t8, xs8, rs8, rfl, F8, hst8, hi8, hp8, N8⟩ := hI0
                      refine hG ?_
                      clear hG G
                      dsimp only
                      refine sg_again (by rw [← hWC]; rfl) ?_
                      have hsb : ∀ z ∈ ready, z ∈ keysG G := fun z hz => hMI.sub _ (List.mem_append_right _ (List.mem_append_right _ hz))
                      rw [hp5, hrn, List.map_nil, donesP_mk hClG hsb] at hp8
                      have hp8a := congrArg Prod.fst hp8
                      have hp8b := congrArg Prod.snd hp8
                      dsimp only at hp8a hp8b
                      have hlr : ((dn ++ ready).length : Int) = dn.length + rs.length := by
                        rw [List.length_append, ← hrn]; simp
                      have hs8 : SOK σ xs8 ((Rl, listOf rs8.toArray ep8) :: rest1) n := (sok_rest hs6 fun a ha q hq => by
                        rcases List.mem_cons.mp hq with rfl | hq
                        · exact (hRS a ha).symm
                        · exact hs5r a ha q hq).same hst8
                      refine ih (dn ++ ready) (roundF G f ready).1 (roundF G f ready).2 (hMI.round hkN hClG) ?_ xs8 rs8 ep8 Rl t5 t8 (some (.ref Tt)) oL m1 rest1 Φ _ hp8a (by rw [st_kvs hst8]; exact hd5) hi8 hp8b hnL (by rw [← hmG]; exact F8) hs8 (fun q hq => (hr1 q hq).2.2) ?_ out
                      · have : ready.length = rs.length := by rw [← hrn]; simp
                        rw [List.length_append]; omega
                      · rw [hlr]
                        refine News.sub N8 fun q hq => ?_
                        rcases List.mem_cons.mp hq with rfl | hq
                        · exact .head _
                        rcases ledS_split.mp hq with h | h
                        · exact .tail _ (ledS_split.mpr (.inl h))
                        · exact .tail _ (ledS_split.mpr (.inr (.tail _ h)))
                  | succ j ihj =>
                    intro i hi oI oL m1 rest1 Φ s1 hr1 hs5r hnL F6 N6 hoI out
                    have hit : s1.heap.IsTupleIter It Tt i := ⟨oI, (N6 _ (.head _)).1, hoI.1, hoI.2⟩
                    have htt : s1.heap.IsTuple Tt rs.toArray := ⟨_, (N6 _ (.tail _ (.head _))).1, rfl, _, rfl⟩
                    have hil : i < rs.length := by omega
                    obtain ⟨x, tv, hx⟩ := hrs _ (List.getElem_mem hil)
                    have hxr : ready.drop i = x :: ready.drop (i + 1) := by
                      have hl : i < ready.length := by rw [← hrn]; simpa using hil
                      rw [List.drop_eq_getElem_cons hl]
                      congr 1
                      simp only [← hrn, List.getElem_map, hx, intOf]
                    rw [hxr, List.cons_append] at out
                    refine yf_item hit htt (x := .int x tv) (by simp [hil, hx]) ?_ (by rw [← hfr]; rfl)
                    intro h' p l k hit' hsb hk
                    obtain ⟨oI', hoI', hc', hd'⟩ := hit'
                    have zI := N6 _ (.head _)
                    have F7 : Fr (h₀.push oL) Lg h' mG := F6.change hsb zI.2.1 zI.2.2
                    have hneI : ∀ q ∈ (Tt, tupOf rs.toArray 0) :: (Rl, listOf #[] ep5) :: ledS σ w (.ref Rl) (.int (dn.length + rs.length) t5) (.int dn.length u2) oN xs5 rest1, q.1 ≠ It := by
                      intro q hq
                      rcases List.mem_cons.mp hq with rfl | hq
                      · k_ne
                      rcases List.mem_cons.mp hq with rfl | hq
                      · k_ne
                      rcases inL q hq with h | h
                      · have := hTS _ h; k_ne
                      · exact (hr1 q h).1
                    have N7 : News (h₀.push oL) Lg h' ([(It, oI'), (Tt, tupOf rs.toArray 0), (Rl, listOf #[] ep5)] ++ ledS σ w (.ref Rl) (.int (dn.length + rs.length) t5) (.int dn.length u2) oN xs5 rest1) := by
                      intro q hq
                      rcases List.mem_cons.mp hq with rfl | hq
                      · exact ⟨hoI', zI.2⟩
                      · have z := N6 q (.tail _ hq)
                        exact ⟨(hsb.2 q.1 (hneI q hq)).trans z.1, z.2⟩
                    obtain ⟨oLg7, hns7, P7⟩ := back_law hL hnL F7 N7 (fun p hp q hq => by
                      obtain ⟨e1, e2, e3⟩ := hr1 q hq
                      rcases List.mem_cons.mp hp with rfl | hp
                      · exact e1.symm
                      rcases List.mem_cons.mp hp with rfl | hp
                      · exact e2.symm
                      rw [List.mem_singleton.mp hp]; exact e3.symm) (sok_rest hs6 hs5r)
                    refine out.2 x _ rfl h' s1.toks tv _ l k _ p _ P7 (by rw [← hfr]; rfl) (genOn_of ?_)
                    intro s8 m8 rest8 Φ8 P8 out8
                    refine hk _ _ _ ⟨i + 1, oI', (P8.2.1 _ (.tail _ (.head _))).1, hc', hd'⟩ ?_
                    obtain ⟨oL8, hnL8, F8, N8⟩ := view_in P8 hns7 hL hLg (fun q hq => by
                      have z := N7 q (by
                        rcases List.mem_append.mp hq with h | h
                        · exact List.mem_append_left _ h
                        · exact List.mem_append_right _ (ledS_split.mpr (.inl h)))
                      exact z.2.1)
                    have dis8 := P8.2.2
                    refine ihj (i + 1) (by omega) oI' oL8 m8 rest8 Φ8 s8 (fun q hq => ⟨fun e => dis8 _ (.tail _ (.head _)) q hq e.symm, fun e => dis8 _ (.tail _ (.tail _ (.head _))) q hq e.symm, fun e => dis8 _ (.tail _ (.tail _ (.tail _ (.head _)))) q hq e.symm⟩) ?_ hnL8 F8 (News.sub N8 fun q hq => ?_) ⟨hc', hd'⟩ out8
                    · intro a ha q hq
                      obtain ⟨q', h1, rfl⟩ := addrS_led (w := w) (rv := .ref Rl) (po := .int (dn.length + rs.length) t5) (nf := .int dn.length u2) (oN := oN) (rest := []) a ha
                      exact fun e => dis8 q' (.tail _ (List.mem_append_right _ h1)) q hq e.symm
                    · rcases List.mem_cons.mp hq with rfl | hq
                      · simp
                      rcases List.mem_cons.mp hq with rfl | hq
                      · simp
                      rcases List.mem_cons.mp hq with rfl | hq
                      · simp
                      rcases ledS_split.mp hq with h | h
                      · exact List.mem_append_left _ (List.mem_append_right _ h)
                      · exact List.mem_append_right _ h
                rw [← hItE]
                refine yl rs.length 0 (by omega) { cls := .type "tuple_iterator", data := .fields #[.ref Tt, .int 0 0] } oL m1 rest1 Φ { s1 with heap := h5.push { cls := .type "tuple_iterator", data := .fields #[.ref Tt, .int 0 0] }, toks := tk5 } hr1 hs5r hnL F6 ?_ ⟨rfl, rfl⟩ ?_
                · rw [hItE]; exact N6
                · exact out
    have hkf := ready_of hG
    have hs3 : SOK σ xs ((Rl, listOf rs.toArray ep) :: rest1) n := sok_rest hs fun a ha q hq => by
      rcases List.mem_cons.mp hq with rfl | hq
      · obtain ⟨q', h1, rfl⟩ := addrS_led (w := w) (rv := .none) (po := .int 0 t1) (nf := .int 0 t2) (oN := oN) (rest := rest1) a ha
        have : @LT.lt Nat _ q'.1 Rl := hltR q' h1
        k_ne
      · exact hs2.off a ha q (List.mem_append_left _ hq)
    refine head ((keysG G).length + 1) [] (f0 G) (ready0 G) (MI.start hkN) (by simp) xs rs ep Rl t1 t2 none oL3 m1 rest1 Φ _ hG hdN hrs (by rw [hrn, hkf]) hnL3 ?_ hs3 ?_ N3 out
    · have em : (fun y => if y = Str.ofString "node_group" then none else List.lookup y [(Str.ofString "self", Value.ref σ.S)].reverse) = fun y => List.lookup y [(Str.ofString "self", Value.ref σ.S)].reverse := by
        funext y; by_cases q : y = Str.ofString "node_group"
        · subst q; rfl
        · simp only [q, if_false]
      rw [em]; exact F3
    · intro q hq
      have : @LT.lt Nat _ q.1 Rl := hltR q (ledS_split.mpr (.inr hq))
      k_ne
end
end
section
set_option maxHeartbeats 8000000
theorem frag_on10 : (fun (_ : Params → Frag) => PySem.Challenge.rw_cy0005_01.Holds) KF → True := by
  k_fill
  intro _; trivial
section
variable {w : World} {A₀ A : Around} {base h₀ : Heap} {outer : List Env} {env : Env} {L : Addr} {m mg mb : Str → Option Value} {p : Program} {loose : List Str} {mean : ExcName → Option Value} {s : Shared}
  {Q : Value → Shared → Prop} {E : Value → Shared → Prop} {rest : List (Addr × Obj)}
/-- TopologicalSorter() -/
theorem c_new
    (hh : A.handled = none) (hfr : A.frames = some (env :: outer)) (hdp : A.depth < 700) (hf : env.frame = some L) (hke : env.scope.kind = .function)
    (B : Below A₀ base outer h₀) (X₀ : (KF w.params).In h₀) (T : Top p loose mean mg mb h₀) (F : Fr h₀ L s.heap m) (N : News h₀ L s.heap rest)
    (hq : ∀ h' tk' σ oN t1 t2, SOK σ [] rest 0 → (∀ q ∈ rest, q.1 < σ.S) → oN.IsDictOf (intKind Pr w) [] → Fr h₀ L h' m → News h₀ L h' (ledS σ w .none (.int 0 t1) (.int 0 t2) oN [] rest) → Q (.ref σ.S) { s with heap := h', toks := tk' }) :
    wpAny (model Pr w) A (call (.ref 130) []) Q E s := by
  obtain ⟨_, d, _, gs, u⟩ := A
  dsimp only at hh hfr hdp
  subst hh hfr
  refine' call_cls (fI := 66) F X₀ N ?k4 ?k5 ?k6 ?_
  case k4 => k_is
  case k5 => k_is
  case k6 => k_is
  have fin : ∀ h' tk' (σ : Srt) oN t1 t2, oN.IsDictOf (intKind Pr w) [] → Fr h₀ L h' m → News h₀ L h' ((σ.Nd, oN) :: (σ.S, instObj 130 σ.D) :: (σ.D, σ.d w .none (.int 0 t1) (.int 0 t2)) :: rest) → @LT.lt Nat _ σ.D σ.S → @LT.lt Nat _ σ.S σ.Nd → AllLt σ.D rest → (σ.Nd == sysModules) = false →
      Q (.ref σ.S) { s with heap := h', toks := tk' } := by
    intro h' tk' σ oN t1 t2 hi9 F9 N9 e1 e2 l1 lo9
    refine hq _ _ σ _ t1 t2 ⟨?_, ?_, List.nodup_nil, fun _ h => (nomatch h), Nat.le_refl _, fun _ h => (nomatch h), lo9⟩ ?_ hi9 F9 (News.sub N9 fun q hq => ?_)
    · unfold addrS addrN
      simp only [List.flatMap_nil, List.nodup_cons, List.mem_cons, List.not_mem_nil, or_false, not_or, not_false_eq_true, List.nodup_nil, and_true]
      exact ⟨⟨neN (by omega), neN (by omega)⟩, neN (by omega)⟩
    · intro a ha q hq
      have h1 : @LT.lt Nat _ q.1 σ.D := allLt_mem l1 q hq
      unfold addrS addrN at ha
      simp only [List.flatMap_nil, List.mem_cons, List.not_mem_nil, or_false] at ha
      rcases ha with rfl | rfl | rfl <;> k_ne
    · intro q hq
      have h1 : @LT.lt Nat _ q.1 σ.D := allLt_mem l1 q hq
      exact ltN (by omega)
    · simp only [ledS, ledN, List.flatMap_nil, List.nil_append, List.mem_cons] at hq ⊢
      rcases hq with h | h | h | h
      · exact .inr (.inl h)
      · exact .inr (.inr (.inl h))
      · exact .inl h
      · exact .inr (.inr (.inr h))
  intro x d' h' F' N' l1 l2
  replace l1 := allLt_of l1
  k_lt2 l2
  refine' code_def (binds := [(Str.ofString "self", .ref x), (Str.ofString "graph", .none)]) B F' X₀ N' T rfl hf hke ?k6 ?k7 ?k8 ?k9 ?kB ?_ ?c2 ?c3 ?c4 ?c5
  case k6 => k_is
  case k7 => k_is
  case k8 => k_room
  case k9 => first | exact BindsTo.of_eq rfl | exact binds_K (by k_in) rfl (by k_is) rfl rfl rfl
  case c5 => decide
  case kB => exact locs rfl
  case c2 => exact rfl
  case c3 => exact rfl
  case c4 => exact rfl
  intro g' L' h' FG' F' N' B' X' T'
  (try dsimp only)
  k_fold
  (repeat' (((fail_if_success with_reducible first | show wpAny _ _ (call (Value.ref _) _ _) _ _ _ | show wpAny _ _ (exec (Stmt.For _ _ _ _ _) _) _ _ _ | show wpAny _ _ (exec (Stmt.While _ _ _ _) _) _ _ _ | show wpAny _ _ (pyIter _) _ _ _)); ((fail_if_success with_reducible first | show wpAny _ _ (call (Value.type "tuple") _ _) _ _ _)); ((first | (k_unfold; (try dsimp only)) | (k_end; wrow_close) | walk1 | (dsimp only; walk1) | (leave1; walk_say "STEP leave1"; try dsimp only) | fail "no step"))))
  rename (_ == sysModules) = false => lo9
  rename _ ∧ _ ∧ AllLt _ rest => l9
  exact fin _ _ ⟨x, d', _, _, _, _, _⟩ _ _ _ (by assumption) (by assumption) (by assumption) l2 l9.1 l1 lo9
end
end
section
set_option maxHeartbeats 8000000
open PySem.Calls PyProof.Rows.LCg
/-- the law's own body and scope, taken out of the program -/
noncomputable def lawOf (p : Program) : List Stmt × Scope := match p.main.body.getLast? with
  | some (.FunctionDef _ _ body _ _ _ sc _ _ _) => (body, sc)
  | _ => ([], { kind := .function, names := [], isGenerator := false, isCoroutine := false })
noncomputable def lawB : List Stmt := (lawOf PySem.Challenge.pw_cy0005_01).1
noncomputable def lawS : Scope := (lawOf PySem.Challenge.pw_cy0005_01).2
noncomputable abbrev lawE (L fa : Addr) (cv : Value) : Env := envOfC (Str.ofString "law") lawS L fa cv
noncomputable def lawSt (i : Nat) : Stmt := lawB.getD i (.Pass ⟨0, 0, 0, 0⟩)
/-- the frame's map, but for the names that a loop stores -/
noncomputable def Agr (ys : List Str) (m₀ m : Str → Option Value) : Prop := ∀ y, ys.contains y = false → m y = m₀ y
theorem Agr.rfl' {ys : List Str} {m₀ : Str → Option Value} : Agr ys m₀ m₀ := fun _ _ => rfl
theorem Agr.eq {ys : List Str} {m₀ m : Str → Option Value} (h : Agr ys m₀ m) : m = fun y => if ys.contains y then m y else m₀ y := by
  funext y
  cases c : ys.contains y with
  | true => rfl
  | false => simp only [Bool.false_eq_true, if_false]; exact h y c
theorem Agr.put {ys : List Str} {m₀ m : Str → Option Value} {x : Str} {v : Option Value} (hx : ys.contains x = true) (h : Agr ys m₀ m) : Agr ys m₀ (fun y => if y = x then v else m y) := by
  intro y hy
  have : y ≠ x := fun e => by rw [e, hx] at hy; cases hy
  simp only [if_neg this]; exact h y hy
theorem Agr.base {ys : List Str} {m₀ u : Str → Option Value} : Agr ys m₀ (fun y => if ys.contains y then u y else m₀ y) := fun y hy => by simp only [hy, Bool.false_eq_true, if_false]
section
variable {prog : Program} {w : World} {A : Around} {E : Value → Shared → Prop} {s : Shared} {h₀ : Heap} {L : Addr} {m : Str → Option Value} {env : Env}
theorem own_name {x : Str} {px : Pos} {it v : Value} : letOwnedTupleGo (.Name x px) it v = pure () := rfl
theorem turn_name {x : Str} {px : Pos} {it v : Value} {body : List Stmt} {R : Flow → Shared → Prop}
    (h : wpAny (model prog w) A (storeName env x v) (fun _ s₂ => wpAny (model prog w) A (execs body env) R (fun _ _ => False) s₂) (fun _ _ => False) s) :
    wpAny (model prog w) A (letOwnedTupleGo (.Name x px) it v) (fun _ s₁ => wpAny (model prog w) A (assign (.Name x px) env v) (fun _ s₂ => wpAny (model prog w) A (execs body env) R (fun _ _ => False) s₂) (fun _ _ => False) s₁) (fun _ _ => False) s :=
  wpAny_of_eq own_name (wpAny_assign_Name h)
end
section
variable {prog : Program} {w : World} {A : Around} {E : Value → Shared → Prop} {s : Shared} {h₀ : Heap} {L : Addr} {m : Str → Option Value} {env : Env}
theorem intsAre_getD : ∀ {vs : List Value} {ns : List Int}, IntsAre vs ns → ∀ k, k < ns.length → ∃ t, vs[k]? = some (.int (ns.getD k 0) t)
  | _, _, .nil, k, h => by simp at h
  | _, _, .cons i t r, 0, _ => ⟨t, rfl⟩
  | _, _, .cons i t r, k + 1, h => by simpa using intsAre_getD r k (by simpa using h)
/-- an item of a list of ints of the base -/
theorem item_int {value slice : Expr} {l : Addr} {vs : List Value} {ns : List Int} {k : Int} {u : Tok} {Q : Value → Shared → Prop} (hl : h₀.IsList l vs.toArray) (hi : IntsAre vs ns) (F : Fr h₀ L s.heap m) (h0 : 0 ≤ k) (hk : k < ns.length ∧ ns.length ≤ 1000)
    (h : ∀ t, Q (.int (ns.getD k.toNat 0) t) s)
    (hs : subscripted slice false (.ref l) (.int k u) = operate [.ref l, .int k u] (getItem (.ref l) (.int k u)) := by with_unfolding_all rfl) :
    wpAny (model prog w) A (subscriptTail value slice (.ref l) (.int k u)) Q E s := by
  have hl' : s.heap.IsList l vs.toArray := hl.at fun o e => F.keep _ _ e
  obtain ⟨t, ht⟩ := intsAre_getD hi k.toNat (by omega)
  exact tail_any hl'.typeIs slot_list_getitem.lookup (wpAny_getItem_list hl' h0 (by omega) (by simpa using ht) (h t)) hs
end
noncomputable def tupL (ts : List (Addr × List Value)) : List (Addr × Obj) := ts.map fun t => (t.1, tupOf t.2.toArray 0)
theorem tupL_app (a b : List (Addr × List Value)) : tupL (a ++ b) = tupL a ++ tupL b := by unfold tupL; rw [List.map_append]
noncomputable def refL (ts : List (Addr × List Value)) : List Value := ts.map fun t => .ref t.1
end
section
set_option maxHeartbeats 1000000
open PySem.Calls PyProof.Rows.LCg
section
variable {prog : Program} {w : World} {A : Around} {E : Value → Shared → Prop} {s : Shared} {h₀ : Heap} {L : Addr} {env : Env}
end
end
section
set_option maxHeartbeats 1000000
open PySem.Calls PyProof.Rows.LCg
section
variable {prog : Program} {w : World} {A : Around} {E : Value → Shared → Prop} {s : Shared} {h₀ : Heap} {L : Addr} {m : Str → Option Value} {env : Env}
theorem refL_get {ts : List (Addr × List Value)} {i : Nat} {v : Value} (h : (refL ts)[i]? = some v) : ∃ t, ts[i]? = some t ∧ v = .ref t.1 := by
  unfold refL at h
  rw [List.getElem?_map] at h
  cases e : ts[i]? with
  | none => rw [e] at h; cases h
  | some t => rw [e] at h; cases h; exact ⟨t, rfl, rfl⟩
theorem tupL_mem {ts : List (Addr × List Value)} {i : Nat} {t : Addr × List Value} (h : ts[i]? = some t) : (t.1, tupOf t.2.toArray 0) ∈ tupL ts := List.mem_map.mpr ⟨t, List.mem_of_getElem? h, rfl⟩
/-- and of two -/
theorem cw_two {elt : Expr} {ifs : List Expr} {a b : Str} {pa pb tp : Pos} {kk : Nat} {scope : Scope} {cl : List (Str × Addr)} {Fin : Addr → List Value → List (Addr × Obj) → Shared → Prop} {l : Addr} {ts : List (Addr × List Value)} {ep : Nat} {news : List (Addr × Obj)} (J : Nat → List Value → Prop)
    (hh : A.handled = none) (F : Fr h₀ L s.heap m) (N : News h₀ L s.heap news) (hl : (l, listOf (refL ts).toArray ep) ∈ news) (hts : ∀ q ∈ tupL ts, q ∈ news) (h3 : ∀ t ∈ ts, ∃ x y, t.2 = [x, y]) (hsz : ts.length ≤ 16777216) (hJ : J 0 [])
    (hka : ∀ C, (compEnvC scope cl C env).kindOf a = some .local) (hkb : ∀ C, (compEnvC scope cl C env).kindOf b = some .local) (hkd : scope.kind = .function) (hab : a ≠ b)
    (turn : ∀ i T x y ys I oI C oC D m₂ h tk (E' : Value → Shared → Prop), ts[i]? = some (T, [x, y]) → J i ys → NsObj oC m₂ → m₂ a = some x → m₂ b = some y → Fr h₀ L h m → News h₀ L h ((I, oI) :: (C, oC) :: (D, lst ys) :: news) → Off3 I C D news → ((@Ne Nat I C) ∧ (@Ne Nat I D) ∧ (@Ne Nat C D)) →
      wpAny (model prog w) A (forIn ifs true fun c r => if r = true then do let ok ← isTrue c (compEnvC scope cl C env) (eval c (compEnvC scope cl C env)); pure (ForInStep.yield ok) else pure (ForInStep.yield r)) (fun ok s₃ =>
        if ok = true then wpAny (model prog w) A (eval elt (compEnvC scope cl C env)) (fun y s₄ => CTurn h₀ L m { s with heap := h, toks := tk } ((I, oI) :: (C, oC) :: (D, lst ys) :: news) (J (i + 1) (ys ++ [y])) s₄) E' s₃
        else CTurn h₀ L m { s with heap := h, toks := tk } ((I, oI) :: (C, oC) :: (D, lst ys) :: news) (J (i + 1) ys) s₃) E' { s with heap := h, toks := tk })
    (fin : ∀ D ys h tk, J ts.length ys → ys.length ≤ ts.length → Fr h₀ L h m → News h₀ L h ((D, lst ys) :: news) → (∀ q ∈ news, q.1 < D) → Fin D ys news { s with heap := h, toks := tk }) :
    wpAny (model prog w) A (pyIter (.ref l)) (CW prog w A h₀ L m env (.Tuple [.Name a pa, .Name b pb] kk tp) ifs elt scope cl Fin) E s := by
  have hlen : (refL ts).length = ts.length := by unfold refL; simp
  refine cw_list (vs := refL ts) (ep := ep) (fun i v m₂ => ∃ T x y, ts[i]? = some (T, [x, y]) ∧ v = .ref T ∧ m₂ a = some x ∧ m₂ b = some y) J hh F N hl (by rw [hlen, sizeLine_eq]; omega) hJ ?_ ?_ ?_
  · rintro I i v C m₀ s₁ Q' E' hi hv ⟨l', j, hit⟩ N₁ hn k
    obtain ⟨⟨T, tv⟩, ht, rfl⟩ := refL_get hv
    obtain ⟨x, y, e⟩ := h3 _ (List.mem_of_getElem? ht)
    dsimp only at e; subst e
    have hT : s₁.heap.IsTuple T #[x, y] := ⟨_, (N₁ _ (hts _ (tupL_mem ht))).1, rfl, _, rfl⟩
    refine wpAny_letOwnedTupleGo_listiter hit ?_
    refine kcp_assign hh hT (hka C) (hkb C) (by show (scope.kind == .class || (scope.kind == .module && _)) = false; rw [hkd]; rfl) hn ?_
    intro h' tk hn' hk'
    exact k h' tk _ hn' ⟨T, x, y, ht, rfl, by simp only [if_neg hab, if_true], by simp only [if_true]⟩ hk'
  · intro i u ys I oI C oC D m₂ h tk E' hu hJ' hC hI0 F' N' o3 ne
    refine hide fun G hG => ?_
    obtain ⟨T, x, y, ht, rfl, e1, e2⟩ := hI0
    refine hG ?_
    clear hG G
    exact turn i T x y ys I oI C oC D m₂ h tk E' ht hJ' hC e1 e2 F' N' o3 ne
  · intro D ys h tk hJ' hl' F' N' hlt
    rw [hlen] at hJ' hl'
    exact fin D ys h tk hJ' hl' F' N' hlt
theorem comp_genF {elt tg iter : Expr} {ifs : List Expr} {scope : Scope} {cl : List (Str × Addr)} {pos : Pos} {Q : Value → Shared → Prop} {hF : Heap} (_ : Fr h₀ L hF m)
    (hclos : closureFor scope env = pure cl) (hcell : ∀ y ∈ scope.names, y.2 ≠ .cell) (hkind : scope.kind = .function)
    (hnames : ∀ y ∈ scope.names, y.2 = .local → scope.names.lookup y.1 = some .local)
    (h : wpAny (model prog w) A (eval iter env) (fun xv s₁ => wpAny (model prog w) A (pyIter xv) (CW prog w A h₀ L m env tg ifs elt scope cl fun D _ _ s' => Q (.ref D) s') E s₁) E s)
    (hs : ∀ x, foldedSetIterable iter env x = pure x := by intro _; rfl) :
    wpAny (model prog w) A (eval (.ListComp elt [⟨tg, iter, ifs, 0⟩] scope pos) env) Q E s := comp_gen hclos hcell hkind hnames h hs
end
end
section
set_option maxHeartbeats 1000000
/-! plain: what the building loop makes -/
noncomputable def lo2 (p : Int × Int) : Int := if p.2 < p.1 then p.2 else p.1
noncomputable def hi2 (p : Int × Int) : Int := if p.2 > p.1 then p.2 else p.1
noncomputable def addOne (ps : List PN) (p : Int × Int) : List PN := if lo2 p = hi2 p then addP ps (lo2 p) [] else addP ps (hi2 p) [lo2 p]
noncomputable def ensN (l : List Int) (x : Int) : List Int := if l.any (· == x) then l else l ++ [x]
end
section
set_option maxHeartbeats 1000000
/-! plain: the graph that the building loop makes, in closed form -/
noncomputable def mk3 (K : List Int) (np : Int → Int) (su : Int → List Int) : List PN := K.map fun k => ⟨k, np k, su k⟩
noncomputable def edgeOf (p : Int × Int) : List (Int × Int) := if lo2 p = hi2 p then [] else [(lo2 p, hi2 p)]
noncomputable def edgesP (P : List (Int × Int)) : List (Int × Int) := P.flatMap edgeOf
/-- the nodes as the sorter has them: the greater first -/
noncomputable def keysP (P : List (Int × Int)) : List Int := P.foldl (fun K p => ensN (ensN K (hi2 p)) (lo2 p)) []
noncomputable def npE (E : List (Int × Int)) (k : Int) : Int := ((E.filter fun e => decide (e.2 = k)).length : Int)
noncomputable def suE (E : List (Int × Int)) (k : Int) : List Int := (E.filter fun e => decide (e.1 = k)).map (·.2)
theorem lo_le_hi (p : Int × Int) : lo2 p ≤ hi2 p := by unfold lo2 hi2; split <;> split <;> omega
theorem ens_mem {K : List Int} {x y : Int} : y ∈ ensN K x ↔ y ∈ K ∨ y = x := by
  unfold ensN
  split
  · rename_i h
    obtain ⟨z, hz, e⟩ := List.any_eq_true.mp h
    have e : z = x := by simpa using e
    subst e
    exact ⟨.inl, fun h => h.elim id fun e => e ▸ hz⟩
  · simp
theorem ens_again {K : List Int} {x : Int} (h : x ∈ K) : ensN K x = K := by
  unfold ensN
  rw [if_pos (List.any_eq_true.mpr ⟨x, h, by simp⟩)]
theorem ens_nodup {K : List Int} {x : Int} (h : K.Nodup) : (ensN K x).Nodup := by
  unfold ensN
  split
  · exact h
  · rename_i hn
    rw [List.nodup_append]
    refine ⟨h, by simp, fun a ha b hb e => hn (List.any_eq_true.mpr ⟨a, ha, ?_⟩)⟩
    rw [List.mem_singleton.mp hb] at e
    simpa using e
theorem hasP_mk3 {K : List Int} {np : Int → Int} {su : Int → List Int} {k : Int} : hasP (mk3 K np su) k = K.any (· == k) := by
  unfold hasP mk3
  rw [List.any_map]
  congr 1
theorem ensP_mk3 {K : List Int} {np : Int → Int} {su : Int → List Int} {k : Int} (h : k ∉ K → np k = 0 ∧ su k = []) : ensP (mk3 K np su) k = mk3 (ensN K k) np su := by
  unfold ensP ensN
  rw [hasP_mk3]
  cases e : K.any (· == k) with
  | true => rfl
  | false =>
    simp only [Bool.false_eq_true, if_false]
    have hk : k ∉ K := fun hm => by
      have : K.any (· == k) = true := List.any_eq_true.mpr ⟨k, hm, by simp⟩
      rw [e] at this; cases this
    obtain ⟨h1, h2⟩ := h hk
    unfold mk3
    rw [List.map_append]
    simp [h1, h2]
theorem modP_np {K : List Int} {np : Int → Int} {su : Int → List Int} {k c : Int} : modP (mk3 K np su) k (fun p => { p with np := p.np + c }) = mk3 K (upd np k (np k + c)) su := by
  unfold modP mk3
  rw [List.map_map]
  refine List.map_congr_left fun x _ => ?_
  simp only [Function.comp]
  by_cases h : x = k
  · subst h; simp only [if_true, upd_self]
  · simp only [h, if_false, upd_ne h]
theorem modP_su {K : List Int} {np : Int → Int} {su : Int → List Int} {k b : Int} : modP (mk3 K np su) k (fun p => { p with succ := p.succ ++ [b] }) = mk3 K np (fun x => if x = k then su x ++ [b] else su x) := by
  unfold modP mk3
  rw [List.map_map]
  refine List.map_congr_left fun x _ => ?_
  simp only [Function.comp]
  by_cases h : x = k
  · subst h; simp only [if_true]
  · simp only [h, if_false]
theorem addOne_mk3 {K : List Int} {E : List (Int × Int)} {p : Int × Int} (hE : ∀ e ∈ E, e.1 ∈ K ∧ e.2 ∈ K) :
    addOne (mk3 K (npE E) (suE E)) p = mk3 (ensN (ensN K (hi2 p)) (lo2 p)) (npE (E ++ edgeOf p)) (suE (E ++ edgeOf p)) := by
  have off : ∀ k, k ∉ K → npE E k = 0 ∧ suE E k = [] := fun k hk => by
    have h1 : E.filter (fun e => decide (e.2 = k)) = [] := List.filter_eq_nil_iff.mpr fun e he => by simpa using fun q : e.2 = k => hk (q ▸ (hE e he).2)
    have h2 : E.filter (fun e => decide (e.1 = k)) = [] := List.filter_eq_nil_iff.mpr fun e he => by simpa using fun q : e.1 = k => hk (q ▸ (hE e he).1)
    unfold npE suE
    rw [h1, h2]; exact ⟨rfl, rfl⟩
  have off2 : ∀ k, k ∉ ensN K (hi2 p) → npE E k = 0 ∧ suE E k = [] := fun k hk => off k fun h => hk (ens_mem.mpr (.inl h))
  unfold addOne edgeOf
  by_cases h : lo2 p = hi2 p
  · rw [if_pos h, if_pos h, List.append_nil]
    unfold addP
    simp only [List.foldl_nil, List.length_nil]
    rw [ensP_mk3 (off _), modP_np]
    have e1 : upd (npE E) (lo2 p) (npE E (lo2 p) + ((0 : Nat) : Int)) = npE E := by
      funext x; unfold upd; split
      · rename_i q; rw [q]; simp
      · rfl
    rw [e1, h]
    rw [ens_again (ens_mem.mpr (.inr rfl))]
  · rw [if_neg h, if_neg h]
    unfold addP linkP
    simp only [List.foldl_cons, List.foldl_nil, List.length_cons, List.length_nil]
    rw [ensP_mk3 (off _), modP_np]
    have hne : lo2 p ≠ hi2 p := h
    rw [ensP_mk3, modP_su]
    · unfold mk3
      refine List.map_congr_left fun x _ => ?_
      have e1 : npE (E ++ [(lo2 p, hi2 p)]) x = upd (npE E) (hi2 p) (npE E (hi2 p) + ((0 + 1 : Nat) : Int)) x := by
        unfold npE upd
        rw [List.filter_append, List.length_append]
        by_cases q : x = hi2 p
        · subst q; simp
        · have q' : ¬ hi2 p = x := fun e => q e.symm
          simp [q, q']
      have e2 : suE (E ++ [(lo2 p, hi2 p)]) x = if x = lo2 p then suE E x ++ [hi2 p] else suE E x := by
        unfold suE
        rw [List.filter_append, List.map_append]
        by_cases q : x = lo2 p
        · subst q; simp
        · have q' : ¬ lo2 p = x := fun e => q e.symm
          simp [q, q']
      rw [e1, e2]
    · intro hk
      rw [upd_ne (fun e => hne e)]
      exact off2 _ hk
theorem keysP_snoc (P : List (Int × Int)) (p : Int × Int) : keysP (P ++ [p]) = ensN (ensN (keysP P) (hi2 p)) (lo2 p) := by unfold keysP; rw [List.foldl_append]; rfl
theorem edgesP_snoc (P : List (Int × Int)) (p : Int × Int) : edgesP (P ++ [p]) = edgesP P ++ edgeOf p := by unfold edgesP; rw [List.flatMap_append]; simp
/-- by a last element -/
theorem snoc_ind {α : Type} {C : List α → Prop} (h0 : C []) (h1 : ∀ l a, C l → C (l ++ [a])) (l : List α) : C l := by
  have : ∀ n (l : List α), l.length = n → C l := by
    intro n
    induction n with
    | zero => intro l hl; rw [List.length_eq_zero_iff.mp hl]; exact h0
    | succ n ih =>
      intro l hl
      have hne : l ≠ [] := fun e => by rw [e] at hl; cases hl
      rw [← List.dropLast_concat_getLast hne]
      exact h1 _ _ (ih _ (by rw [List.length_dropLast, hl]; rfl))
  exact this _ l rfl
theorem edge_keys (P : List (Int × Int)) : ∀ e ∈ edgesP P, e.1 ∈ keysP P ∧ e.2 ∈ keysP P ∧ e.1 < e.2 := by
  induction P using snoc_ind with
  | h0 => intro e he; cases he
  | h1 P p ih =>
    intro e he
    rw [edgesP_snoc] at he
    rw [keysP_snoc]
    rcases List.mem_append.mp he with h | h
    · obtain ⟨h1, h2, h3⟩ := ih e h
      exact ⟨ens_mem.mpr (.inl (ens_mem.mpr (.inl h1))), ens_mem.mpr (.inl (ens_mem.mpr (.inl h2))), h3⟩
    · unfold edgeOf at h
      split at h
      · cases h
      · rename_i hne
        rw [List.mem_singleton.mp h]
        have := lo_le_hi p
        exact ⟨ens_mem.mpr (.inr rfl), ens_mem.mpr (.inl (ens_mem.mpr (.inr rfl))), by show lo2 p < hi2 p; omega⟩
theorem graph_is (P : List (Int × Int)) : P.foldl addOne [] = mk3 (keysP P) (npE (edgesP P)) (suE (edgesP P)) := by
  induction P using snoc_ind with
  | h0 => rfl
  | h1 P p ih =>
    rw [List.foldl_append, List.foldl_cons, List.foldl_nil, ih, addOne_mk3 (fun e he => ⟨(edge_keys P e he).1, (edge_keys P e he).2.1⟩), keysP_snoc, edgesP_snoc]
theorem keysP_nodup (P : List (Int × Int)) : (keysP P).Nodup := by
  induction P using snoc_ind with
  | h0 => exact List.nodup_nil
  | h1 P p ih => rw [keysP_snoc]; exact ens_nodup (ens_nodup ih)
noncomputable def GrP (P : List (Int × Int)) : Gr := (keysP P).map fun k => (k, suE (edgesP P) k)
theorem keysG_GrP (P : List (Int × Int)) : keysG (GrP P) = keysP P := by
  unfold keysG GrP; rw [List.map_map]; exact List.map_id _
theorem cnt_of : ∀ (E : List (Int × Int)) (K : List Int), K.Nodup → (∀ e ∈ E, e.1 ∈ K) → ∀ k, (K.map fun x => (suE E x).count k).sum = (E.filter fun e => decide (e.2 = k)).length
  | [], K, _, _, k => by
    have : (K.map fun x => (suE [] x).count k) = K.map fun _ => 0 := rfl
    rw [this]
    clear this
    induction K with
    | nil => rfl
    | cons a r ih => rename_i hn _; rw [List.nodup_cons] at hn; simpa using ih hn.2 (by simp)
  | e :: E, K, hn, hE, k => by
    have ih := cnt_of E K hn (fun x hx => hE x (.tail _ hx)) k
    have key : ∀ K : List Int, K.Nodup → (K.map fun x => (suE (e :: E) x).count k).sum = (K.map fun x => (suE E x).count k).sum + (if e.1 ∈ K ∧ e.2 = k then 1 else 0) := by
      intro K hn
      induction K with
      | nil => simp
      | cons a r ihr =>
        rw [List.nodup_cons] at hn
        have h1 := ihr hn.2
        simp only [List.map_cons, List.sum_cons, h1]
        have h2 : (suE (e :: E) a).count k = (suE E a).count k + (if e.1 = a ∧ e.2 = k then 1 else 0) := by
          unfold suE
          by_cases q : e.1 = a
          · simp only [List.filter_cons, q, decide_true, if_true, List.map_cons, List.count_cons, true_and]
            by_cases z : e.2 = k <;> simp [z]
          · simp [q]
        rw [h2]
        by_cases q : e.1 = a
        · have : e.1 ∉ r := fun h => hn.1 (q ▸ h)
          subst q
          simp only [true_and, List.mem_cons, true_or, hn.1, false_and, if_false]
          split <;> omega
        · simp only [q, false_and, if_false, List.mem_cons, false_or]
          omega
    rw [key K hn, ih, List.filter_cons]
    have he : e.1 ∈ K := hE e (.head _)
    by_cases z : e.2 = k <;> simp [z, he]
theorem GrP_mk (P : List (Int × Int)) : P.foldl addOne [] = mkP (GrP P) (f0 (GrP P)) := by
  rw [graph_is]
  unfold mk3 mkP GrP
  rw [List.map_map]
  refine List.map_congr_left fun x _ => ?_
  simp only [Function.comp]
  congr 1
  have h := cnt_of (edgesP P) (keysP P) (keysP_nodup P) (fun e he => (edge_keys P e he).1) x
  unfold f0 cntG npE
  rw [← h, List.map_map]
  rfl
theorem suE_mem {E : List (Int × Int)} {a b : Int} : b ∈ suE E a ↔ (a, b) ∈ E := by
  unfold suE
  rw [List.mem_map]
  constructor
  · rintro ⟨e, he, rfl⟩
    obtain ⟨h1, h2⟩ := List.mem_filter.mp he
    have h2 : e.1 = a := by simpa using h2
    subst h2; exact h1
  · intro h
    exact ⟨(a, b), List.mem_filter.mpr ⟨h, by simp⟩, rfl⟩
theorem GrP_mem {P : List (Int × Int)} {g : Int × List Int} (hg : g ∈ GrP P) {s : Int} : s ∈ g.2 ↔ (g.1, s) ∈ edgesP P := by
  obtain ⟨k, hk, rfl⟩ := List.mem_map.mp hg
  exact suE_mem
theorem GrP_closed (P : List (Int × Int)) : ClosedG (GrP P) := fun g hg s hs => by
  rw [keysG_GrP]; exact (edge_keys P _ ((GrP_mem hg).mp hs)).2.1
theorem GrP_up (P : List (Int × Int)) : ∀ g ∈ GrP P, ∀ s ∈ g.2, g.1 < s := fun g hg s hs => (edge_keys P _ ((GrP_mem hg).mp hs)).2.2
/-- the order that the sorter gives -/
noncomputable def ordP (P : List (Int × Int)) : List Int := ordF (GrP P) ((keysG (GrP P)).length + 1) (f0 (GrP P)) (ready0 (GrP P))
theorem ordP_spec (P : List (Int × Int)) : (ordP P).Nodup ∧ (∀ k, k ∈ ordP P ↔ k ∈ keysP P) ∧ ∀ pre x post, ordP P = pre ++ x :: post → ∀ a, (a, x) ∈ edgesP P → a ∈ pre := by
  have hn : (keysG (GrP P)).Nodup := by rw [keysG_GrP]; exact keysP_nodup P
  obtain ⟨h1, h2, h3⟩ := ord_spec hn (GrP_closed P) (GrP_up P) ((keysG (GrP P)).length + 1) [] (f0 (GrP P)) (ready0 (GrP P)) (MI.start hn) (fun pre x post e => by simp at e) (by simp)
  simp only [List.nil_append] at h1 h2 h3
  refine ⟨h1, fun k => by rw [← keysG_GrP]; exact h2 k, fun pre x post e a ha => ?_⟩
  have hg : (a, suE (edgesP P) a) ∈ GrP P := List.mem_map.mpr ⟨a, (edge_keys P _ ha).1, rfl⟩
  exact h3 pre x post e (a, suE (edgesP P) a) hg (suE_mem.mpr ha)
theorem ordP_len (P : List (Int × Int)) : (ordP P).length = (keysP P).length := by
  obtain ⟨h1, h2, _⟩ := ordP_spec P
  exact Nat.le_antisymm (nodup_len h1 fun a ha => (h2 a).mp ha) (nodup_len (keysP_nodup P) fun a ha => (h2 a).mpr ha)
where
  nodup_len : ∀ {l m : List Int}, l.Nodup → (∀ a ∈ l, a ∈ m) → l.length ≤ m.length := by
    intro l
    induction l with
    | nil => intro m _ _; exact Nat.zero_le _
    | cons a l ih =>
      intro m h hs
      rw [List.nodup_cons] at h
      have h1 : a ∈ m := hs a (.head _)
      have h2 : l.length ≤ (m.erase a).length := ih h.2 fun b hb => by
        have : b ≠ a := fun e => h.1 (e ▸ hb)
        exact (List.mem_erase_of_ne this).mpr (hs b (.tail _ hb))
      rw [List.length_erase_of_mem h1] at h2
      have : 0 < m.length := List.length_pos_of_mem h1
      simp only [List.length_cons]; omega
end
section
set_option maxHeartbeats 1000000
open PySem.Calls PyProof.Rows.LCg
/-- the tuples of the ledger bear these -/
noncomputable def TupsAre (ts : List (Addr × List Value)) (W : List (Int × Int)) : Prop := ∀ i : Nat, match W[i]? with
  | none => ts[i]? = none
  | some t => ∃ T t1 t2, ts[i]? = some (T, [.int t.1 t1, .int t.2 t2])
theorem TupsAre.get {ts : List (Addr × List Value)} {W : List (Int × Int)} (h : TupsAre ts W) {i : Nat} {T : Addr} {tv : List Value} (ht : ts[i]? = some (T, tv)) : ∃ t t1 t2, W[i]? = some t ∧ tv = [.int t.1 t1, .int t.2 t2] := by
  have := h i
  cases e : W[i]? with
  | none => rw [e] at this; dsimp only at this; rw [this] at ht; cases ht
  | some t =>
    rw [e] at this
    obtain ⟨T', t1, t2, h2⟩ := this
    rw [h2] at ht; cases ht
    exact ⟨t, t1, t2, rfl, rfl⟩
theorem TupsAre.two {ts : List (Addr × List Value)} {W : List (Int × Int)} (h : TupsAre ts W) : ∀ t ∈ ts, ∃ x y, t.2 = [x, y] := fun t ht => by
  obtain ⟨i, hi⟩ := List.getElem?_of_mem ht
  obtain ⟨_, t1, t2, _, e⟩ := h.get (T := t.1) (tv := t.2) hi
  exact ⟨_, _, e⟩
theorem TupsAre.len {ts : List (Addr × List Value)} {W : List (Int × Int)} (h : TupsAre ts W) : ts.length = W.length := by
  refine Nat.le_antisymm ?_ ?_
  · rcases Nat.lt_or_ge W.length ts.length with q | q
    · obtain ⟨t, t1, t2, h1, _⟩ := h.get (i := W.length) (T := (ts[W.length]'q).1) (tv := (ts[W.length]'q).2) (List.getElem?_eq_getElem q)
      rw [List.getElem?_eq_none (Nat.le_refl _)] at h1; cases h1
    · exact q
  · rcases Nat.lt_or_ge ts.length W.length with q | q
    · have := h ts.length
      rw [List.getElem?_eq_getElem q] at this
      obtain ⟨_, _, _, e⟩ := this
      rw [List.getElem?_eq_none (Nat.le_refl _)] at e; cases e
    · exact q
theorem TupsAre.snoc {ts : List (Addr × List Value)} {W : List (Int × Int)} (h : TupsAre ts W) (T : Addr) (a b : Int) (t1 t2 : Tok) : TupsAre (ts ++ [(T, [.int a t1, .int b t2])]) (W ++ [(a, b)]) := by
  intro i
  have hl := h.len
  rcases Nat.lt_trichotomy i W.length with q | q | q
  · have := h i
    rw [List.getElem?_append_left q, List.getElem?_append_left (by omega)]
    exact this
  · rw [List.getElem?_append_right (by omega), List.getElem?_append_right (by omega)]
    have e1 : i - W.length = 0 := by omega
    have e2 : i - ts.length = 0 := by omega
    rw [e1, e2]
    exact ⟨T, t1, t2, rfl⟩
  · rw [List.getElem?_eq_none (by simp; omega), List.getElem?_eq_none (by simp; omega)]
section
variable {prog : Program} {w : World} {A : Around} {E : Value → Shared → Prop} {s : Shared} {h₀ : Heap} {L : Addr} {m : Str → Option Value}
end
end
section
set_option maxHeartbeats 1000000
open PySem.Calls PyProof.Rows.LCg
section
variable {prog : Program} {w : World} {A : Around} {E : Value → Shared → Prop} {s : Shared} {h₀ : Heap} {L : Addr} {m : Str → Option Value} {env : Env}
/-- y = [elt for tg in iter if ..], y a local: the store comes ahead of the comprehension's own end -/
theorem assign_comp {elt tg iter : Expr} {ifs : List Expr} {scope : Scope} {cl : List (Str × Addr)} {pos spos py : Pos} {y : Str} {Q : Flow → Shared → Prop} {hF : Heap} (_ : Fr h₀ L hF m) (hLe : env.locals = L)
    (hsw : swapsWith (.ListComp elt [⟨tg, iter, ifs, 0⟩] scope pos) (some (.Name y py)) spos.line env = pure true) (hclos : closureFor scope env = pure cl) (hcell : ∀ y ∈ scope.names, y.2 ≠ .cell) (hkind : scope.kind = .function)
    (hnames : ∀ y ∈ scope.names, y.2 = .local → scope.names.lookup y.1 = some .local) (hy : env.kindOf y = some .local) (hp : (env.scope.kind == .class || (env.scope.kind == .module && env.locals != env.globals)) = false)
    (h : wpAny (model prog w) A (eval iter env) (fun xv s₁ => wpAny (model prog w) A (pyIter xv) (CW prog w A h₀ L m env tg ifs elt scope cl fun D ys news s' => ∀ h' tk', Fr h₀ L h' (fun u => if u = y then some (.ref D) else m u) → News h₀ L h' ((D, lst ys) :: news) → Q .next { s' with heap := h', toks := tk' }) E s₁) E s)
    (hs : ∀ x, foldedSetIterable iter env x = pure x := by intro _; rfl) :
    wpAny (model prog w) A (exec (.Assign [.Name y py] (.ListComp elt [⟨tg, iter, ifs, 0⟩] scope pos) spos) env) Q E s := by
  subst hLe
  rw [exec_Assign_Name_used _ _ _ _ hsw]
  refine wpAny_bind (wpAny_standAt (wpAny_bind ?_))
  show wpAny _ A (do let _ ← comprehension (.ListComp elt [⟨tg, iter, ifs, 0⟩] scope pos) scope env _ (newList []) false (eval iter env) (some (assign (.Name y py) env))) _ _ s
  refine wpAny_bind (wpAny_mono (wpAny_comprehension_free (use := some (assign (.Name y py) env)) (Q := fun _ s' => Q .next s') rfl hs hclos hkind hnames
    (wpAny_mono h (fun xv s₁ h₁ => wpAny_mono h₁ (fun it s₂ h₂ => ?_) fun _ _ e => e) fun _ _ e => e)) (fun _ s' hq => wpAny_pure (wpAny_pure hq)) fun _ _ e => e)
  refine comp_block hcell hkind h₂ ?_
  intro D C h tk m' ys news F' hn hC₀ hCL hCD offC N' fin
  show wpAny _ A (assign (.Name y py) env (.ref D)) _ _ _
  have fin' := fin h F' N' tk
  refine wpAny_assign_Name (wpAny_storeName_local hy F'.ns (fun h₃ hn₃ hs₃ => ?_) hp)
  refine ⟨m', hn.at' fun o e => hs₃.extBut C o hCL e, fun h'' hs'' => ?_⟩
  refine fin' h'' _ ⟨hn₃.at' fun o e => hs''.extBut _ o (Ne.symm hCL) e, fun b o e => ?_, F'.above⟩ fun q hq => ?_
  · have hb : b ≠ env.locals := fun z => by
      have h1 := Heap.lt_size e
      have h2 := F'.above
      rw [z] at h1
      exact absurd h1 (Nat.not_lt.mpr h2)
    exact hs''.extBut b o (fun z => by rw [z, hC₀] at e; cases e) (hs₃.extBut b o hb (F'.keep b o e))
  · have z := N' q hq
    refine ⟨hs''.extBut _ _ ?_ (hs₃.extBut _ _ z.2.1 z.1), z.2⟩
    rcases List.mem_cons.mp hq with rfl | hq
    · exact Ne.symm hCD
    · exact offC q hq
end
end
section
set_option maxHeartbeats 1000000
/-! addresses: one below another, without omega -/
theorem l1 (a : Nat) : a < a + 1 := Nat.lt_succ_self a
theorem l2 (a : Nat) : a < a + 1 + 1 := Nat.lt_succ_of_lt (l1 a)
theorem l3 (a : Nat) : a < a + 1 + 1 + 1 := Nat.lt_succ_of_lt (l2 a)
theorem g1 {a b : Nat} (h : a + 1 < b) : a < b := Nat.lt_of_succ_lt h
theorem g2 {a b : Nat} (h : a + 1 + 1 < b) : a < b := g1 (g1 h)
theorem g3 {a b : Nat} (h : a + 1 + 1 + 1 < b) : a < b := g1 (g2 h)
/-! plain: law 01's order -/
noncomputable def predE (E : List (Int × Int)) (x : Int) : List Int := E.filterMap fun e => if e.2 = x then some e.1 else none
noncomputable def maxD (l : List Int) : Int := l.foldl max (-1)
noncomputable def occI (E : List (Int × Int)) (c : Int × Int) : List Int := (List.range E.length).filterMap fun (i : Nat) => if E[i]? = some c then some (i : Int) else none
noncomputable def lastI (D : List Int) (E : List (Int × Int)) (x : Int) : Int := maxD ((predE E x).map fun a => (D.idxOf a : Int))
noncomputable def kI (D : List Int) (E : List (Int × Int)) (x : Int) : Int := maxD (occI E (D.getD (lastI D E x).toNat 0, x))
noncomputable def triW (D : List Int) (E : List (Int × Int)) (x : Int) : Int × Int × Int := (lastI D E x, kI D E x, x)
noncomputable def waitP (D : List Int) (E : List (Int × Int)) (x : Int) : Bool := decide (x ∉ D) && decide (∀ a ∈ predE E x, a ∈ D)
noncomputable def waitW (D : List Int) (E : List (Int × Int)) (K : List Int) : List (Int × Int × Int) := (K.filter (waitP D E)).map (triW D E)
noncomputable def keyW (t : Int × Int × Int) : Int := t.1 * 1000 + t.2.1
theorem predE_mem {E : List (Int × Int)} {x a : Int} : a ∈ predE E x ↔ (a, x) ∈ E := by
  unfold predE
  rw [List.mem_filterMap]
  constructor
  · rintro ⟨⟨p, q⟩, h, e⟩
    by_cases c : q = x
    · subst c; simp at e; subst e; exact h
    · simp [c] at e
  · intro h; exact ⟨_, h, by simp⟩
theorem occI_mem {E : List (Int × Int)} {c : Int × Int} {v : Int} : v ∈ occI E c ↔ ∃ i : Nat, v = i ∧ E[i]? = some c := by
  unfold occI
  rw [List.mem_filterMap]
  constructor
  · rintro ⟨i, h, e⟩
    by_cases q : E[i]? = some c
    · rw [if_pos q] at e; cases e; exact ⟨i, rfl, q⟩
    · rw [if_neg q] at e; cases e
  · rintro ⟨i, rfl, h⟩
    have : i < E.length := by
      rcases Nat.lt_or_ge i E.length with q | q
      · exact q
      · rw [List.getElem?_eq_none q] at h; cases h
    exact ⟨i, by simpa using this, by rw [if_pos h]⟩
theorem maxD_ge : ∀ (l : List Int) (b : Int), b ≤ l.foldl max b ∧ ∀ a ∈ l, a ≤ l.foldl max b
  | [], b => ⟨Int.le_refl _, fun _ h => (nomatch h)⟩
  | x :: l, b => by
    obtain ⟨h1, h2⟩ := maxD_ge l (max b x)
    rw [List.foldl_cons]
    refine ⟨by omega, fun a ha => ?_⟩
    rcases List.mem_cons.mp ha with rfl | ha
    · omega
    · exact h2 a ha
theorem maxD_in : ∀ (l : List Int) (b : Int), l.foldl max b = b ∨ l.foldl max b ∈ l
  | [], b => .inl rfl
  | x :: l, b => by
    rw [List.foldl_cons]
    rcases maxD_in l (max b x) with h | h
    · rcases Int.le_total b x with q | q
      · right; rw [h, show max b x = x by omega]; exact .head _
      · left; rw [h]; omega
    · exact .inr (.tail _ h)
theorem maxD_spec {l : List Int} (hne : l ≠ []) (h0 : ∀ a ∈ l, 0 ≤ a) : maxD l ∈ l ∧ ∀ a ∈ l, a ≤ maxD l := by
  obtain ⟨h1, h2⟩ := maxD_ge l (-1)
  refine ⟨?_, h2⟩
  rcases maxD_in l (-1) with h | h
  · obtain ⟨a, r, rfl⟩ := List.exists_cons_of_ne_nil hne
    have := h2 a (.head _)
    have := h0 a (.head _)
    omega
  · exact h
theorem maxD_eq {l : List Int} {M : Int} (h0 : ∀ a ∈ l, 0 ≤ a) (hM : M ∈ l) (h : ∀ a ∈ l, a ≤ M) : M = maxD l := by
  obtain ⟨h1, h2⟩ := maxD_spec (List.ne_nil_of_mem hM) h0
  have := h _ h1
  have := h2 _ hM
  omega
theorem occ_nonneg {E : List (Int × Int)} {c : Int × Int} : ∀ a ∈ occI E c, 0 ≤ a := fun a h => by
  obtain ⟨i, rfl, _⟩ := occI_mem.mp h; omega
theorem idx_nonneg {D l : List Int} : ∀ a ∈ l.map (fun a => (D.idxOf a : Int)), 0 ≤ a := fun a h => by
  obtain ⟨b, _, rfl⟩ := List.mem_map.mp h; omega
theorem newOf_sub : ∀ {l : List Int} {f : Int → Int}, ∀ x ∈ newOf f l, x ∈ l
  | [], f => fun x h => (nomatch h)
  | s :: l, f => fun x h => by
    simp only [newOf, List.mem_append] at h
    rcases h with h | h
    · split at h
      · rw [List.mem_singleton.mp h]; exact .head _
      · cases h
    · exact .tail _ (newOf_sub x h)
theorem newOf_pw {R : Int → Int → Prop} : ∀ {l : List Int} {f : Int → Int}, (∀ s ∈ l, (l.count s : Int) ≤ f s) → (∀ pre s post, l = pre ++ s :: post → s ∉ post → ∀ y ∈ post, R s y) → (newOf f l).Pairwise R
  | [], f, _, _ => .nil
  | s :: l, f, h, hR => by
    have hl : ∀ y ∈ l, (l.count y : Int) ≤ upd f s (f s - 1) y := by
      intro y hy
      have := h y (.tail _ hy)
      simp only [List.count_cons] at this
      by_cases e : y = s
      · subst e; simp only [upd_self]; simp at this; omega
      · have e' : ¬ (s == y) = true := by simpa using fun q => e q.symm
        rw [upd_ne e]; simp [e'] at this; omega
    have ih := newOf_pw (R := R) hl fun pre x post e hx y hy => hR (s :: pre) x post (by rw [e]; rfl) hx y hy
    simp only [newOf]
    by_cases h1 : f s - 1 = 0
    · rw [if_pos h1, List.cons_append, List.nil_append, List.pairwise_cons]
      refine ⟨fun y hy => hR [] s l rfl (fun hm => ?_) y (newOf_sub y hy), ih⟩
      have h2 := h s (.head _)
      have h3 := List.count_pos_iff.mpr hm
      simp only [List.count_cons, beq_self_eq_true, if_true] at h2
      omega
    · rw [if_neg h1, List.nil_append]; exact ih
/-- the successors of k are in the order of the calls -/
theorem suE_split {E : List (Int × Int)} {k s : Int} {pre post : List Int} (h : suE E k = pre ++ s :: post) : ∃ E1 E2, E = E1 ++ (k, s) :: E2 ∧ suE E2 k = post := by
  unfold suE at h
  obtain ⟨l1, l2, h1, h2, h3⟩ := List.map_eq_append_iff.mp h
  obtain ⟨a, l3, h4, h5, h6⟩ := List.map_eq_cons_iff.mp h3
  obtain ⟨F1, F2, e1, e2, e3⟩ := List.filter_eq_append_iff.mp h1
  rw [h4] at e3
  obtain ⟨G1, G2, g1, g2, g3, g4⟩ := List.filter_eq_cons_iff.mp e3
  have ha : a.1 = k := by simpa using g3
  refine ⟨F1 ++ G1, G2, ?_, ?_⟩
  · rw [e1, g1, ← ha, ← h5, List.append_assoc]
  · unfold suE; rw [g4, h6]
theorem occ_lt {E : List (Int × Int)} {k s y : Int} {pre post : List Int} (h : suE E k = pre ++ s :: post) (hs : s ∉ post) (hy : y ∈ post) : maxD (occI E (k, s)) < maxD (occI E (k, y)) := by
  obtain ⟨E1, E2, rfl, e⟩ := suE_split h
  have hs2 : (k, s) ∉ E2 := fun hm => hs (e ▸ suE_mem.mpr hm)
  have hy2 : (k, y) ∈ E2 := suE_mem.mp (e ▸ hy)
  obtain ⟨j, hj⟩ := List.getElem?_of_mem hy2
  have m1 : (E1.length : Int) ∈ occI (E1 ++ (k, s) :: E2) (k, s) := occI_mem.mpr ⟨_, rfl, by rw [List.getElem?_append_right (Nat.le_refl _), Nat.sub_self]; rfl⟩
  have e1 : maxD (occI (E1 ++ (k, s) :: E2) (k, s)) = E1.length := by
    refine (maxD_eq occ_nonneg m1 fun a ha => ?_).symm
    obtain ⟨i, rfl, hi⟩ := occI_mem.mp ha
    rcases Nat.lt_or_ge E1.length i with q | q
    · exfalso
      rw [List.getElem?_append_right (by omega)] at hi
      obtain ⟨z, hz⟩ : ∃ z, i - E1.length = z + 1 := ⟨i - E1.length - 1, by omega⟩
      rw [hz, List.getElem?_cons_succ] at hi
      exact hs2 (List.mem_of_getElem? hi)
    · omega
  have m2 : ((E1.length + 1 + j : Nat) : Int) ∈ occI (E1 ++ (k, s) :: E2) (k, y) := occI_mem.mpr ⟨_, rfl, by
    rw [List.getElem?_append_right (by omega), show E1.length + 1 + j - E1.length = j + 1 by omega, List.getElem?_cons_succ]; exact hj⟩
  have := (maxD_spec (List.ne_nil_of_mem m2) occ_nonneg).2 _ m2
  rw [e1]; omega
theorem idxOf_at {D1 D2 : List Int} {k : Int} (h : k ∉ D1) : (D1 ++ k :: D2).idxOf k = D1.length := by
  rw [List.idxOf_append, if_neg h]; simp
theorem idxOf_lt' {D1 D2 : List Int} {k : Int} (h : k ∈ D1) : (D1 ++ D2).idxOf k < D1.length := by
  rw [List.idxOf_append, if_pos h]; exact List.idxOf_lt_length_of_mem h
section
variable {P : List (Int × Int)}
theorem cnt_pred {D : List Int} {x : Int} : cntG (GrP P) D x = 0 ↔ ∀ a ∈ predE (edgesP P) x, a ∈ D := by
  constructor
  · intro h a ha
    have he := predE_mem.mp ha
    have hg : (a, suE (edgesP P) a) ∈ GrP P := List.mem_map.mpr ⟨a, (edge_keys P _ he).1, rfl⟩
    exact cnt_zero h _ hg (suE_mem.mpr he)
  · intro h
    refine Classical.byContradiction fun hn => ?_
    obtain ⟨g, hg, hs, hd⟩ := cnt_pos hn
    exact hd (h _ (predE_mem.mpr ((GrP_mem hg).mp hs)))
/-- each of these is ready: its last predecessor stands ahead of n -/
theorem last_lt {D1 D2 : List Int} {x : Int} (hne : predE (edgesP P) x ≠ []) (h : ∀ a ∈ predE (edgesP P) x, a ∈ D1) : lastI (D1 ++ D2) (edgesP P) x < D1.length ∧ 0 ≤ lastI (D1 ++ D2) (edgesP P) x := by
  unfold lastI
  obtain ⟨h1, _⟩ := maxD_spec (l := (predE (edgesP P) x).map fun a => ((D1 ++ D2).idxOf a : Int)) (by simpa using hne) idx_nonneg
  obtain ⟨a, ha, e⟩ := List.mem_map.mp h1
  have := idxOf_lt' (D2 := D2) (h a ha)
  rw [← e]
  constructor <;> omega
theorem last_at {D1 D2 : List Int} {x k : Int} (hk : k ∉ D1) (hm : k ∈ predE (edgesP P) x) (h : ∀ a ∈ predE (edgesP P) x, a ∈ D1 ++ [k]) : lastI (D1 ++ k :: D2) (edgesP P) x = D1.length := by
  unfold lastI
  refine (maxD_eq idx_nonneg (List.mem_map.mpr ⟨k, hm, by rw [idxOf_at hk]⟩) fun a ha => ?_).symm
  obtain ⟨b, hb, rfl⟩ := List.mem_map.mp ha
  rcases List.mem_append.mp (h b hb) with q | q
  · have := idxOf_lt' (D2 := k :: D2) q; omega
  · rw [List.mem_singleton.mp q, idxOf_at hk]; omega
theorem kI_range {D : List Int} {E : List (Int × Int)} (x : Int) (hE : E.length < 1000) (hne : occI E (D.getD (lastI D E x).toNat 0, x) ≠ []) : 0 ≤ kI D E x ∧ kI D E x < 1000 := by
  unfold kI
  obtain ⟨h1, _⟩ := maxD_spec hne occ_nonneg
  obtain ⟨i, e, h⟩ := occI_mem.mp h1
  have : i < E.length := by
    rcases Nat.lt_or_ge i E.length with q | q
    · exact q
    · rw [List.getElem?_eq_none q] at h; cases h
  omega
/-- the last predecessor's last call is there -/
theorem occ_ne {D : List Int} {x : Int} (hD : D.Nodup) (hne : predE (edgesP P) x ≠ []) (h : ∀ a ∈ predE (edgesP P) x, a ∈ D) : occI (edgesP P) (D.getD (lastI D (edgesP P) x).toNat 0, x) ≠ [] := by
  obtain ⟨h1, _⟩ := maxD_spec (l := (predE (edgesP P) x).map fun a => (D.idxOf a : Int)) (by simpa using hne) idx_nonneg
  obtain ⟨a, ha, e⟩ := List.mem_map.mp h1
  have hl := List.idxOf_lt_length_of_mem (h a ha)
  have e2 : (lastI D (edgesP P) x).toNat = D.idxOf a := by unfold lastI; rw [← e]; omega
  have e3 : D.getD (D.idxOf a) 0 = a := by
    rw [List.getD_eq_getElem?_getD, List.getElem?_eq_getElem hl]
    simp [List.getElem_idxOf]
  rw [e2, e3]
  obtain ⟨i, hi⟩ := List.getElem?_of_mem (predE_mem.mp ha)
  exact List.ne_nil_of_mem (occI_mem.mpr ⟨i, rfl, hi⟩)
noncomputable def keyX (P : List (Int × Int)) (D : List Int) (x : Int) : Int := keyW (triW D (edgesP P) x)
/-- a round: what gets ready stands in the order of the keys -/
theorem steps_key (hEl : (edgesP P).length < 1000) {D : List Int} (hD : D.Nodup) : ∀ {l dn grp r : List Int} {f : Int → Int}, D = dn ++ (l ++ grp) → MI (GrP P) dn (l ++ grp) f r →
    r.Pairwise (fun x y => keyX P D x < keyX P D y) → (∀ x ∈ r, predE (edgesP P) x ≠ []) → (l.foldl (doneF (GrP P)) (f, r)).2.Pairwise (fun x y => keyX P D x < keyX P D y) ∧ ∀ x ∈ (l.foldl (doneF (GrP P)) (f, r)).2, predE (edgesP P) x ≠ []
  | [], dn, grp, r, f, _, _, hp, hne => ⟨hp, hne⟩
  | k :: l, dn, grp, r, f, hDe, h, hp, hne => by
    have hn : (keysG (GrP P)).Nodup := by rw [keysG_GrP]; exact keysP_nodup P
    have h' := MI.step hn (GrP_closed P) h
    have hk : k ∈ keysG (GrP P) := h.sub k (by simp)
    have hkd : k ∉ dn := by
      obtain ⟨_, _, _, n4, _⟩ := nodup_of3.mp h.nd
      exact fun q => n4 k q (.head _)
    have cs : ∀ s, cntG (GrP P) dn s = cntG (GrP P) (dn ++ [k]) s + (succG (GrP P) k).count s := fun s => cnt_step hn hk hkd
    have hsu : succG (GrP P) k = suE (edgesP P) k := by
      have hK : k ∈ keysP P := by rw [← keysG_GrP]; exact hk
      unfold succG GrP
      rw [List.find?_map]
      have : (keysP P).find? ((fun g : Int × List Int => decide (g.1 = k)) ∘ fun k => (k, suE (edgesP P) k)) = some k := by
        cases e : (keysP P).find? ((fun g : Int × List Int => decide (g.1 = k)) ∘ fun k => (k, suE (edgesP P) k)) with
        | none => have := List.find?_eq_none.mp e k hK; simp at this
        | some z => have := List.find?_some e; simp at this; rw [this]
      rw [this]; rfl
    have eq : doneF (GrP P) (f, r) k = (fun x => upd f k (-2) x - (succG (GrP P) k).count x, r ++ newOf (upd f k (-2)) (succG (GrP P) k)) := decs_eq _ _ _
    have lk : ∀ s ∈ succG (GrP P) k, s ∈ keysG (GrP P) ∧ s ∉ dn ∧ s ∉ k :: (l ++ grp) := by
      intro s hs
      have hp : cntG (GrP P) dn s ≠ 0 := by have := cs s; have := List.count_pos_iff.mpr hs; omega
      obtain ⟨g, hg, _, hh⟩ := succG_mem hs
      exact ⟨GrP_closed P g hg s hh, fun q => hp (h.cl s (List.mem_append_left _ q)), fun q => hp (h.cl s (List.mem_append_right _ q))⟩
    have hge : ∀ s ∈ succG (GrP P) k, ((succG (GrP P) k).count s : Int) ≤ upd f k (-2) s := by
      intro s hs
      obtain ⟨h1, h2, h3⟩ := lk s hs
      rw [upd_ne (show s ≠ k from fun e => h3 (e ▸ .head _)), h.fo s h1 h2 h3]
      have := cs s; omega
    have hnew : ∀ x ∈ newOf (upd f k (-2)) (succG (GrP P) k), k ∈ predE (edgesP P) x ∧ (∀ a ∈ predE (edgesP P) x, a ∈ dn ++ [k]) := by
      intro x hx
      obtain ⟨q1, q2⟩ := (newOf_mem hge x).mp hx
      obtain ⟨h1, h2, h3⟩ := lk x q1
      rw [upd_ne (show x ≠ k from fun e => h3 (e ▸ .head _)), h.fo x h1 h2 h3] at q2
      refine ⟨?_, cnt_pred.mp (by have := cs x; omega)⟩
      rw [hsu] at q1
      exact predE_mem.mpr (suE_mem.mp q1)
    have hDe2 : D = dn ++ k :: (l ++ grp) := by rw [hDe]; rfl
    have hlast : ∀ x ∈ newOf (upd f k (-2)) (succG (GrP P) k), lastI D (edgesP P) x = dn.length := fun x hx => by
      rw [hDe2]; exact last_at hkd (hnew x hx).1 (hnew x hx).2
    have hgetk : D.getD dn.length 0 = k := by rw [hDe2, List.getD_eq_getElem?_getD, List.getElem?_append_right (Nat.le_refl _), Nat.sub_self]; rfl
    have hkI : ∀ x ∈ newOf (upd f k (-2)) (succG (GrP P) k), kI D (edgesP P) x = maxD (occI (edgesP P) (k, x)) := fun x hx => by
      unfold kI; rw [hlast x hx, Int.toNat_natCast, hgetk]
    have hk0 : ∀ x ∈ newOf (upd f k (-2)) (succG (GrP P) k), 0 ≤ kI D (edgesP P) x := fun x hx => by
      refine (kI_range (D := D) x hEl ?_).1
      refine occ_ne hD (List.ne_nil_of_mem (hnew x hx).1) fun a ha => ?_
      rw [hDe2]
      rcases List.mem_append.mp ((hnew x hx).2 a ha) with q | q
      · exact List.mem_append_left _ q
      · rw [List.mem_singleton.mp q]; simp
    have hold : ∀ x ∈ r, keyX P D x < dn.length * 1000 := fun x hx => by
      have hc : ∀ a ∈ predE (edgesP P) x, a ∈ dn := by
        obtain ⟨_, _, _, n4, n5, n6⟩ := nodup_of3.mp h.nd
        exact cnt_pred.mp ((h.rr x (h.sub x (by simp [hx])) (fun q => n5 x q hx) (fun q => n6 x q hx)).mp hx)
      obtain ⟨q1, q2⟩ := last_lt (D2 := k :: (l ++ grp)) (hne x hx) hc
      rw [← hDe2] at q1 q2
      have := (kI_range (D := D) x hEl (occ_ne hD (hne x hx) fun a ha => by rw [hDe2]; exact List.mem_append_left _ (hc a ha))).2
      show lastI D (edgesP P) x * 1000 + kI D (edgesP P) x < _
      omega
    have hnk : ∀ x ∈ newOf (upd f k (-2)) (succG (GrP P) k), keyX P D x = dn.length * 1000 + maxD (occI (edgesP P) (k, x)) := fun x hx => by
      show lastI D (edgesP P) x * 1000 + kI D (edgesP P) x = _
      rw [hlast x hx, hkI x hx]
    have hstep : (doneF (GrP P) (f, r) k).2.Pairwise (fun x y => keyX P D x < keyX P D y) := by
      rw [eq]
      show (r ++ newOf (upd f k (-2)) (succG (GrP P) k)).Pairwise _
      rw [List.pairwise_append]
      refine ⟨hp, ?_, fun x hx y hy => ?_⟩
      · have hpw := newOf_pw (R := fun x y => maxD (occI (edgesP P) (k, x)) < maxD (occI (edgesP P) (k, y))) hge fun pre s post e hs y hy => occ_lt (by rw [← hsu]; exact e) hs hy
        refine List.Pairwise.imp_of_mem (fun {x y} hx hy hlt => ?_) hpw
        rw [hnk x hx, hnk y hy]; omega
      · have h1 := hold x hx
        have h2 := hk0 y hy
        rw [hnk y hy, ← hkI y hy]; omega
    rw [List.foldl_cons]
    have hp2 : doneF (GrP P) (f, r) k = ((doneF (GrP P) (f, r) k).1, (doneF (GrP P) (f, r) k).2) := rfl
    rw [hp2]
    refine steps_key hEl hD (dn := dn ++ [k]) (grp := grp) (by rw [hDe2]; simp) h' hstep fun x hx => ?_
    rw [eq] at hx
    rcases List.mem_append.mp hx with q | q
    · exact hne x q
    · exact List.ne_nil_of_mem (hnew x q).1
/-- ahead of a turn of the groups: dn is done, r is the group -/
inductive LI (P : List (Int × Int)) (dn r : List Int) : Prop
  | mk (f : Int → Int) (n : Nat) (mi : MI (GrP P) dn [] f r) (ho : ordP P = dn ++ ordF (GrP P) n f r) (hn : (keysG (GrP P)).length < dn.length + n) (h0 : ∀ x ∈ keysP P, predE (edgesP P) x = [] → x ∈ dn ++ r)
theorem LI.nodup {dn r : List Int} (h : LI P dn r) : (dn ++ r).Nodup := by obtain ⟨f, n, mi, _, _, _⟩ := h; simpa using mi.nd
theorem LI.sub {dn r : List Int} (h : LI P dn r) : ∀ k ∈ dn ++ r, k ∈ keysP P := by
  obtain ⟨f, n, mi, _, _, _⟩ := h
  intro k hk
  rw [← keysG_GrP]; exact mi.sub k (by simpa using hk)
theorem ready0_eq : ready0 (GrP P) = (keysP P).filter fun x => decide (predE (edgesP P) x = []) := by
  unfold ready0
  rw [keysG_GrP]
  refine List.filter_congr fun x _ => ?_
  rw [decide_eq_decide]
  have h : cntG (GrP P) [] x = 0 ↔ _ := cnt_pred
  unfold f0
  constructor
  · intro e
    refine List.eq_nil_iff_forall_not_mem.mpr fun a ha => ?_
    have := h.mp (by omega) a ha
    cases this
  · intro e
    have : cntG (GrP P) [] x = 0 := h.mpr (by rw [e]; intro a ha; cases ha)
    omega
theorem LI.start : LI P [] (ready0 (GrP P)) := by
  have hn : (keysG (GrP P)).Nodup := by rw [keysG_GrP]; exact keysP_nodup P
  refine ⟨f0 (GrP P), (keysG (GrP P)).length + 1, MI.start hn, rfl, by simp, fun x hx e => ?_⟩
  rw [List.nil_append, ready0_eq]
  exact List.mem_filter.mpr ⟨hx, by simpa using e⟩
theorem LI.stop {dn : List Int} (h : LI P dn []) : ordP P = dn := by
  obtain ⟨f, n, mi, ho, hn, _⟩ := h
  rw [ho]
  cases n with
  | zero => simp [ordF]
  | succ n => simp [ordF]
theorem LI.pos {dn r : List Int} (h : LI P dn r) : dn.length + r.length ≤ (keysP P).length := by
  obtain ⟨f, n, mi, ho, hn, _⟩ := h
  have := mi.len
  rw [← keysG_GrP]; unfold keysG at this ⊢; simpa using this
theorem wait_ne {dn r : List Int} (h : LI P dn r) {x : Int} (hx : x ∈ keysP P) (hw : x ∉ dn ++ r) : predE (edgesP P) x ≠ [] := by
  obtain ⟨f, n, mi, ho, hn, h0⟩ := h
  exact fun e => hw (h0 x hx e)
theorem LI.next {dn r : List Int} (hEl : (edgesP P).length < 1000) (h : LI P dn r) (hr : r ≠ []) {S : List (Int × Int × Int)} (hS : S.Perm (waitW (dn ++ r) (edgesP P) (keysP P))) (hs : S.Pairwise fun x y => keyW x < keyW y) :
    LI P (dn ++ r) (S.map (·.2.2)) := by
  have hD := h.nodup
  obtain ⟨f, n, mi, ho, hn, h0⟩ := h
  have hnd : (keysG (GrP P)).Nodup := by rw [keysG_GrP]; exact keysP_nodup P
  have mi' := mi.round hnd (GrP_closed P)
  obtain ⟨N, hN⟩ : ∃ N, N = (roundF (GrP P) f r).2 := ⟨_, rfl⟩
  have hk := steps_key hEl hD (l := r) (dn := dn) (grp := []) (r := []) (f := r.foldl outF f) (by simp) (by simpa using mi.outs) .nil (fun _ h => (nomatch h))
  have hk1 : N.Pairwise (fun x y => keyX P (dn ++ r) x < keyX P (dn ++ r) y) := by rw [hN]; exact hk.1
  have hmem : ∀ x, x ∈ N ↔ x ∈ (keysP P).filter (waitP (dn ++ r) (edgesP P)) := fun x => by
    rw [List.mem_filter]
    unfold waitP
    rw [Bool.and_eq_true, decide_eq_true_eq, decide_eq_true_eq, ← cnt_pred]
    obtain ⟨_, _, _, _, n5, _⟩ := nodup_of3.mp mi'.nd
    constructor
    · intro hx
      rw [hN] at hx
      have hxk := mi'.sub x (by simp [hx])
      have hxd : x ∉ dn ++ r := fun q => n5 x q hx
      exact ⟨by rw [← keysG_GrP]; exact hxk, hxd, (mi'.rr x hxk hxd (by simp)).mp hx⟩
    · rintro ⟨q1, q2, q3⟩
      rw [hN]
      exact (mi'.rr x (by rw [keysG_GrP]; exact q1) q2 (by simp)).mpr q3
  have hNn : N.Nodup := by
    obtain ⟨_, _, n3, _⟩ := nodup_of3.mp mi'.nd
    rw [hN]; exact n3
  have hperm : N.Perm ((keysP P).filter (waitP (dn ++ r) (edgesP P))) := (List.perm_ext_iff_of_nodup hNn (List.Pairwise.filter _ (keysP_nodup P))).mpr hmem
  have hT : S = N.map (triW (dn ++ r) (edgesP P)) := by
    refine List.Perm.eq_of_pairwise (le := fun x y => keyW x < keyW y) (fun a b _ _ h1 h2 => by omega) hs ?_ (hS.trans (hperm.map _).symm)
    rw [List.pairwise_map]; exact hk1
  have e : S.map (·.2.2) = N := by
    rw [hT, List.map_map]
    have : ((fun t : Int × Int × Int => t.2.2) ∘ triW (dn ++ r) (edgesP P)) = id := by funext x; rfl
    rw [this, List.map_id]
  rw [e, hN]
  cases n with
  | zero => have := mi.len; have : 0 < r.length := List.length_pos_iff.mpr hr; omega
  | succ n =>
    refine ⟨_, n, mi', ?_, ?_, fun x hx q => List.mem_append_left _ (h0 x hx q)⟩
    · rw [ho]; simp only [ordF, if_neg hr, List.append_assoc]
    · have : 0 < r.length := List.length_pos_iff.mpr hr
      rw [List.length_append]; omega
/-- the triples of one round differ in their keys -/
theorem wait_inj {dn r : List Int} (hEl : (edgesP P).length < 1000) (h : LI P dn r) : ∀ (i j : Nat) x y, (waitW (dn ++ r) (edgesP P) (keysP P))[i]? = some x → (waitW (dn ++ r) (edgesP P) (keysP P))[j]? = some y → keyW x = keyW y → i = j := by
  have hD := h.nodup
  have h0 := fun x => wait_ne h (x := x)
  have hf : ∀ x ∈ (keysP P).filter (waitP (dn ++ r) (edgesP P)), ∀ y ∈ (keysP P).filter (waitP (dn ++ r) (edgesP P)), keyW (triW (dn ++ r) (edgesP P) x) = keyW (triW (dn ++ r) (edgesP P) y) → x = y := by
    have facts : ∀ x ∈ (keysP P).filter (waitP (dn ++ r) (edgesP P)), ∃ i : Nat, kI (dn ++ r) (edgesP P) x = i ∧ i < 1000 ∧ (edgesP P)[i]? = some ((dn ++ r).getD (lastI (dn ++ r) (edgesP P) x).toNat 0, x) := fun x hx => by
      obtain ⟨h1, h2⟩ := List.mem_filter.mp hx
      unfold waitP at h2
      rw [Bool.and_eq_true, decide_eq_true_eq, decide_eq_true_eq] at h2
      have hne := h0 x h1 h2.1
      obtain ⟨m1, _⟩ := maxD_spec (occ_ne hD hne h2.2) occ_nonneg
      obtain ⟨i, e, hi⟩ := occI_mem.mp m1
      refine ⟨i, e, ?_, hi⟩
      have : i < (edgesP P).length := by
        rcases Nat.lt_or_ge i (edgesP P).length with q | q
        · exact q
        · rw [List.getElem?_eq_none q] at hi; cases hi
      omega
    intro x hx y hy e
    obtain ⟨i, e1, i1, i2⟩ := facts x hx
    obtain ⟨j, e2, j1, j2⟩ := facts y hy
    have e' : lastI (dn ++ r) (edgesP P) x * 1000 + kI (dn ++ r) (edgesP P) x = lastI (dn ++ r) (edgesP P) y * 1000 + kI (dn ++ r) (edgesP P) y := e
    have : i = j := by omega
    subst this
    rw [i2] at j2
    have := Option.some.inj j2
    exact congrArg Prod.snd this
  intro i j x y hx hy e
  unfold waitW at hx hy
  rw [List.getElem?_map] at hx hy
  cases ex : ((keysP P).filter (waitP (dn ++ r) (edgesP P)))[i]? with
  | none => rw [ex] at hx; cases hx
  | some a =>
    cases ey : ((keysP P).filter (waitP (dn ++ r) (edgesP P)))[j]? with
    | none => rw [ey] at hy; cases hy
    | some b =>
      rw [ex] at hx; rw [ey] at hy
      cases hx; cases hy
      have := hf a (List.mem_of_getElem? ex) b (List.mem_of_getElem? ey) e
      subst this
      have hnd : ((keysP P).filter (waitP (dn ++ r) (edgesP P))).Nodup := List.Pairwise.filter _ (keysP_nodup P)
      have hi : i < ((keysP P).filter (waitP (dn ++ r) (edgesP P))).length := by
        rcases Nat.lt_or_ge i _ with q | q
        · exact q
        · rw [List.getElem?_eq_none q] at ex; cases ex
      exact (List.getElem?_inj hi hnd).mp (ex.trans ey.symm)
end
end
section
set_option maxHeartbeats 1000000
/-- a sort's questions are answered by the order of K, all below n, and what comes of it is P -/
noncomputable def Good {α : Type} (n : Nat) (K : Nat → Int) : KasT α → (α → Prop) → Prop
  | .ret a, P => P a
  | .ask i j k, P => (i < n ∧ j < n) ∧ Good n K (k (decide (K i < K j))) P
theorem Good.bind {α β : Type} {n : Nat} {K : Nat → Int} {f : α → KasT β} {P : α → Prop} {Q : β → Prop} : ∀ {t : KasT α}, Good n K t P → (∀ a, P a → Good n K (f a) Q) → Good n K (t.bind f) Q
  | .ret a, h, hf => hf a h
  | .ask i j k, h, hf => ⟨h.1, Good.bind (t := k (decide (K i < K j))) h.2 hf⟩
theorem Good.mono {α : Type} {n : Nat} {K : Nat → Int} {P Q : α → Prop} (hq : ∀ a, P a → Q a) : ∀ {t : KasT α}, Good n K t P → Good n K t Q
  | .ret _, h => hq _ h
  | .ask i j k, h => ⟨h.1, Good.mono hq (t := k (decide (K i < K j))) h.2⟩
theorem Good.ask {α : Type} {n i j : Nat} {K : Nat → Int} {k : Bool → KasT α} {P : α → Prop} (hi : i < n) (hj : j < n) (h1 : K i < K j → Good n K (k true) P) (h2 : K j ≤ K i → Good n K (k false) P) : Good n K (.ask i j k) P := by
  refine ⟨⟨hi, hj⟩, ?_⟩
  by_cases h : K i < K j
  · rw [decide_eq_true h]; exact h1 h
  · rw [decide_eq_false h]; exact h2 (Int.not_lt.mp h)
theorem Good.wp {α : Type} {n : Nat} {K : Nat → Int} {cmp : Nat → Nat → (Bool → Shared → Prop) → Shared → Prop} {P : α → Prop} {Q : α → Shared → Prop} {s : Shared}
    (hc : ∀ i j C, i < n → j < n → C (decide (K i < K j)) s → cmp i j C s) (hq : ∀ a, P a → Q a s) : ∀ {t : KasT α}, Good n K t P → t.kasWp cmp Q s
  | .ret a, h => hq a h
  | .ask i j k, h => hc i j _ h.1.1 h.1.2 (Good.wp hc hq (t := k (decide (K i < K j))) h.2)
/-- the numbers below n, in some order -/
noncomputable def PermN (n : Nat) (p : Array Nat) : Prop := p.toList.Perm (List.range n)
theorem PermN.size {n : Nat} {p : Array Nat} (h : PermN n p) : p.size = n := by have := h.length_eq; rw [List.length_range] at this; exact this
theorem PermN.get {n : Nat} {p : Array Nat} (h : PermN n p) {i : Nat} (hi : i < n) : p.toList[i]? = some (p.getD i 0) := by
  rw [Array.getElem?_toList, Array.getD_eq_getD_getElem?, Array.getElem?_eq_getElem (h.size.symm ▸ hi)]; rfl
theorem PermN.at {n : Nat} {p : Array Nat} (h : PermN n p) {i : Nat} (hi : i < n) : p.getD i 0 < n := List.mem_range.mp (h.mem_iff.mp (List.mem_of_getElem? (h.get hi)))
theorem PermN.ne {n : Nat} {p : Array Nat} (h : PermN n p) {i j : Nat} (hi : i < n) (hj : j < n) (hij : i ≠ j) : p.getD i 0 ≠ p.getD j 0 := fun e => by
  have hn : p.toList.Nodup := h.nodup_iff.mpr List.nodup_range
  have hl : i < p.toList.length := by rw [h.length_eq, List.length_range]; exact hi
  exact hij ((List.getElem?_inj hl hn).mp ((h.get hi).trans ((congrArg some e).trans (h.get hj).symm)))
noncomputable def Inj (n : Nat) (K : Nat → Int) : Prop := ∀ i j, i < n → j < n → K i = K j → i = j
noncomputable def kp (K : Nat → Int) (p : Array Nat) (i : Nat) : Int := K (p.getD i 0)
noncomputable def Inc (K : Nat → Int) (p : Array Nat) (b : Nat) : Prop := ∀ i j, i < j → j < b → kp K p i < kp K p j
noncomputable def Dec (K : Nat → Int) (p : Array Nat) (b : Nat) : Prop := ∀ i j, i < j → j < b → kp K p j < kp K p i
section
variable {n : Nat} {K : Nat → Int} {p : Array Nat}
theorem kp_lt (hK : Inj n K) (h : PermN n p) {i j : Nat} (hi : i < n) (hj : j < n) (hij : i ≠ j) (hc : kp K p i ≤ kp K p j) : kp K p i < kp K p j := Int.lt_iff_le_and_ne.mpr ⟨hc, fun e => h.ne hi hj hij (hK _ _ (h.at hi) (h.at hj) e)⟩
theorem PermN.rev (h : PermN n p) (i j : Nat) : PermN n (kas_rev p i j) := by
  have : (kas_rev p i j).Perm p := mirror_perm _ _ _ _
  exact this.toList.trans h
theorem PermN.bub (h : PermN n p) (i d : Nat) : PermN n (bubble p i d) := by
  have : (bubble p i d).Perm p := bubble_perm _ _ _
  exact this.toList.trans h
theorem h_lt {a f : Nat} (h : a + (f + 1) = n) : a < n := h ▸ Nat.lt_add_of_pos_right (Nat.succ_pos f)
theorem h_nx {a f : Nat} (h : a + (f + 1) = n) : a + 1 + f = n := (Nat.succ_add_eq_add_succ a f).trans h
theorem h_le {a f : Nat} (h : a + f = n) : a ≤ n := h ▸ Nat.le_add_right a f
theorem inc_one : Inc K p 1 := fun i _ hij hj => absurd (Nat.lt_of_lt_of_le hij (Nat.le_of_lt_succ hj)) (Nat.not_lt_zero i)
theorem dec_one : Dec K p 1 := fun i _ hij hj => absurd (Nat.lt_of_lt_of_le hij (Nat.le_of_lt_succ hj)) (Nat.not_lt_zero i)
theorem inc_succ {b : Nat} (h : Inc K p (b + 1)) (hc : kp K p b < kp K p (b + 1)) : Inc K p (b + 1 + 1) := fun i j hij hj => by
  rcases Nat.lt_succ_iff_lt_or_eq.mp hj with q | rfl
  · exact h i j hij q
  · rcases Nat.lt_succ_iff_lt_or_eq.mp hij with z | rfl
    · exact Int.lt_trans (h i b z (Nat.lt_succ_self b)) hc
    · exact hc
theorem dec_succ {b : Nat} (h : Dec K p (b + 1)) (hc : kp K p (b + 1) < kp K p b) : Dec K p (b + 1 + 1) := fun i j hij hj => by
  rcases Nat.lt_succ_iff_lt_or_eq.mp hj with q | rfl
  · exact h i j hij q
  · rcases Nat.lt_succ_iff_lt_or_eq.mp hij with z | rfl
    · exact Int.lt_trans hc (h i b z (Nat.lt_succ_self b))
    · exact hc
/-- where the rising run ends -/
inductive AscAt (n : Nat) (K : Nat → Int) (p : Array Nat) (b : Nat) (m : Nat) : Prop
  | mk (c : Nat) (e : m = c + 1) (h1 : b ≤ c) (h2 : c + 1 ≤ n) (h3 : Inc K p (c + 1)) (h4 : c + 1 < n → kp K p (c + 1) < kp K p c)
theorem good_asc (hK : Inj n K) (hp : PermN n p) : ∀ (f b : Nat), b + 1 + f = n → Inc K p (b + 1) → Good n K (kas_asc p f (b + 1)) (AscAt n K p b)
  | 0, b, hb, hI => ⟨b, rfl, Nat.le_refl _, h_le hb, hI, fun h => absurd (hb ▸ h) (Nat.lt_irrefl (b + 1))⟩
  | f + 1, b, hb, hI => by
    have hl : b + 1 < n := h_lt hb
    have hl0 : b < n := Nat.lt_of_succ_lt hl
    refine Good.ask (hp.at hl) (hp.at hl0) (fun hc => ⟨b, rfl, Nat.le_refl _, Nat.le_of_lt hl, hI, fun _ => hc⟩) fun hc => ?_
    exact Good.mono (fun m ⟨c, e, q1, q2, q3, q4⟩ => ⟨c, e, Nat.le_of_succ_le q1, q2, q3, q4⟩) (good_asc hK hp f (b + 1) (h_nx hb) (inc_succ hI (kp_lt hK hp hl0 hl (Nat.ne_of_lt (Nat.lt_succ_self b)) hc)))
inductive DescAt (n : Nat) (K : Nat → Int) (p : Array Nat) (r : Array Nat × Nat × Nat) : Prop
  | mk (c : Nat) (e : r = (p, c + 1, 0)) (h2 : c + 1 ≤ n) (h3 : Dec K p (c + 1))
theorem good_desc (hK : Inj n K) (hp : PermN n p) : ∀ (f b : Nat), b + 1 + f = n → Dec K p (b + 1) → Good n K (kas_desc f p (b + 1) 0) (DescAt n K p)
  | 0, b, hb, hI => ⟨b, rfl, h_le hb, hI⟩
  | f + 1, b, hb, hI => by
    have hl : b + 1 < n := h_lt hb
    have hl0 : b < n := Nat.lt_of_succ_lt hl
    refine Good.ask (hp.at hl) (hp.at hl0) (fun hc => good_desc hK hp f (b + 1) (h_nx hb) (dec_succ hI hc)) fun hc => ?_
    refine Good.ask (hp.at hl0) (hp.at hl) (fun _ => ⟨b, rfl, Nat.le_of_lt hl, hI⟩) fun hc2 => ?_
    exact absurd (kp_lt hK hp hl0 hl (Nat.ne_of_lt (Nat.lt_succ_self b)) hc) (Int.not_lt.mpr hc2)
theorem inc_rev (hp : PermN n p) {c : Nat} (ha : c + 1 ≤ n) (h : Dec K p (c + 1)) : Inc K (kas_rev p 0 (c + 1)) (c + 1) := by
  have e : ∀ k, k < c + 1 → kp K (kas_rev p 0 (c + 1)) k = kp K p (c - k) := fun k hk => by
    have := getElem?_mirror_all (xs := p) (i := 0) (j := c + 1) (hp.size.symm ▸ ha) k
    rw [if_pos ⟨Nat.zero_le k, hk⟩, Nat.zero_add] at this
    show K ((mirror p 0 (c + 1) ((c + 1 - 0) / 2)).getD k 0) = K (p.getD (c - k) 0)
    rw [Array.getD_eq_getD_getElem?, this, Array.getD_eq_getD_getElem?]; rfl
  intro i j hij hj
  rw [e i (Nat.lt_trans hij hj), e j hj]
  exact h _ _ (Nat.sub_lt_sub_left (Nat.lt_of_lt_of_le hij (Nat.le_of_lt_succ hj)) hij) (Nat.lt_succ_of_le (Nat.sub_le c i))
/-- what the count of the first run ends with -/
inductive CountAt (n : Nat) (K : Nat → Int) (r : Nat × Array Nat) : Prop
  | mk (c : Nat) (e : r.1 = c + 1) (h1 : PermN n r.2) (h2 : c + 1 ≤ n) (h3 : Inc K r.2 (c + 1))
theorem good_tail (hK : Inj n K) (hp : PermN n p) {c : Nat} (ha : c + 1 ≤ n) (h : Dec K p (c + 1)) : Good n K (kas_tail3 (c + 1) n p) (CountAt n K) :=
  Good.bind (good_asc hK (hp.rev 0 (c + 1)) (n - (c + 1)) c (Nat.add_sub_of_le ha) (inc_rev hp ha h)) fun _ ⟨d, e, _, z2, z3, _⟩ => ⟨d, e, hp.rev 0 (c + 1), z2, z3⟩
theorem good_count {k : Nat} (hK : Inj (k + 1) K) (hp : PermN (k + 1) p) : Good (k + 1) K (kas_count (k + 1) p) (CountAt (k + 1) K) := by
  refine Good.bind (good_asc hK hp k 0 (Nat.add_comm 1 k) inc_one) fun m ⟨c, e, q1, q2, q3, q4⟩ => ?_
  subst e
  by_cases hm : c + 1 = k + 1
  · rw [if_pos (beq_iff_eq.mpr hm)]
    exact ⟨c, rfl, hp, q2, q3⟩
  · rw [if_neg (fun q => hm (beq_iff_eq.mp q))]
    have hlt := Nat.lt_of_le_of_ne q2 hm
    cases c with
    | zero =>
      cases k with
      | zero => exact absurd rfl hm
      | succ k =>
        refine Good.bind (good_desc hK hp k 1 (Nat.add_comm 2 k) (dec_succ dec_one (q4 hlt))) fun r ⟨d, e, z2, z3⟩ => ?_
        subst e
        exact good_tail hK hp z2 z3
    | succ c =>
      rw [if_pos (Nat.succ_lt_succ (Nat.succ_pos c))]
      have hc1 : c + 1 < k + 1 := Nat.lt_of_lt_of_le (Nat.lt_succ_self _) q2
      refine Good.ask (hp.at (Nat.succ_pos k)) (hp.at hc1) (fun _ => ⟨c + 1, rfl, hp, q2, q3⟩) fun hc => ?_
      exact absurd (q3 0 (c + 1) (Nat.succ_pos c) (Nat.lt_succ_self _)) (Int.not_lt.mpr hc)
theorem mid {l r f : Nat} (h : l < r) (hf : r ≤ l + (f + 1)) : l ≤ (l + r) / 2 ∧ (l + r) / 2 < r ∧ (l + r) / 2 ≤ l + f ∧ r ≤ (l + r) / 2 + 1 + f := by omega
/-- where the k-th goes -/
inductive PlaceAt (K : Nat → Int) (p : Array Nat) (k : Nat) (z : Nat) : Prop
  | mk (h1 : z ≤ k) (h2 : ∀ i, i < z → kp K p i < kp K p k) (h3 : ∀ i, z ≤ i → i < k → kp K p k < kp K p i)
theorem good_place {k : Nat} (hK : Inj n K) (hp : PermN n p) (hk : k < n) (hI : Inc K p k) : ∀ (f l r : Nat), l ≤ r → r ≤ k → r ≤ l + f →
    (∀ i, i < l → kp K p i < kp K p k) → (∀ i, r ≤ i → i < k → kp K p k < kp K p i) → Good n K (kas_place p k f l r) (PlaceAt K p k)
  | 0, l, r, h1, h2, h3, h4, h5 => ⟨Nat.le_trans h1 h2, h4, fun i hi => h5 i (Nat.le_trans h3 hi)⟩
  | f + 1, l, r, h1, h2, h3, h4, h5 => by
    unfold kas_place
    by_cases hl : l ≥ r
    · rw [if_pos hl]
      exact ⟨Nat.le_trans h1 h2, h4, fun i hi => h5 i (Nat.le_trans hl hi)⟩
    · rw [if_neg hl]
      obtain ⟨m1, m2, m3, m4⟩ := mid (Nat.not_le.mp hl) h3
      have hmk := Nat.lt_of_lt_of_le m2 h2
      refine Good.ask (hp.at hk) (hp.at (Nat.lt_trans hmk hk)) (fun hc => ?_) fun hc => ?_
      · refine good_place hK hp hk hI f l ((l + r) / 2) m1 (Nat.le_of_lt hmk) m3 h4 fun i hi hik => ?_
        rcases Nat.eq_or_lt_of_le hi with e | q
        · exact e ▸ hc
        · exact Int.lt_trans hc (hI _ _ q hik)
      · have hlt := kp_lt hK hp (Nat.lt_trans hmk hk) hk (Nat.ne_of_lt hmk) hc
        refine good_place hK hp hk hI f ((l + r) / 2 + 1) r m2 h2 m4 (fun i hi => ?_) h5
        rcases Nat.lt_succ_iff_lt_or_eq.mp hi with q | rfl
        · exact Int.lt_trans (hI _ _ q hmk) hlt
        · exact hlt
theorem inc_bub (hp : PermN n p) {k z : Nat} (hk : k < n) (hz : z ≤ k) (hI : Inc K p k) (h1 : ∀ i, i < z → kp K p i < kp K p k) (h2 : ∀ i, z ≤ i → i < k → kp K p k < kp K p i) : Inc K (bubble p k (k - z)) (k + 1) := by
  have e0 : ∀ i, kp K (bubble p k (k - z)) i = K ((if i = z then p[k]? else if z < i ∧ i ≤ k then p[i - 1]? else p[i]?).getD 0) := fun i => by
    show K ((bubble p k (k - z)).getD i 0) = _
    rw [Array.getD_eq_getD_getElem?, getElem?_bubble (hp.size.symm ▸ hk) _ (Nat.sub_le k z), Nat.sub_sub_self hz]
  have e1 : ∀ i, i < z → kp K (bubble p k (k - z)) i = kp K p i := fun i h => by
    rw [e0, if_neg (Nat.ne_of_lt h), if_neg (fun q => Nat.lt_asymm h q.1)]
    show _ = K (p.getD i 0)
    rw [Array.getD_eq_getD_getElem?]
  have e2 : kp K (bubble p k (k - z)) z = kp K p k := by
    rw [e0, if_pos rfl]
    show _ = K (p.getD k 0)
    rw [Array.getD_eq_getD_getElem?]
  have e3 : ∀ i, z ≤ i → i + 1 ≤ k → kp K (bubble p k (k - z)) (i + 1) = kp K p i := fun i h h' => by
    rw [e0, if_neg (Nat.ne_of_gt (Nat.lt_succ_of_le h)), if_pos ⟨Nat.lt_succ_of_le h, h'⟩]
    show _ = K (p.getD i 0)
    rw [Array.getD_eq_getD_getElem?]; rfl
  intro i j hij hj
  rcases Nat.lt_trichotomy j z with a | rfl | a
  · rw [e1 i (Nat.lt_trans hij a), e1 j a]; exact hI _ _ hij (Nat.lt_of_lt_of_le a hz)
  · rw [e1 i hij, e2]; exact h1 i hij
  · cases j with
    | zero => exact absurd a (Nat.not_lt_zero z)
    | succ j =>
      have hzj : z ≤ j := Nat.le_of_lt_succ a
      have hjk : j < k := Nat.lt_of_succ_lt_succ hj
      rw [e3 j hzj hjk]
      rcases Nat.lt_trichotomy i z with b | rfl | b
      · rw [e1 i b]; exact hI _ _ (Nat.lt_of_lt_of_le b hzj) hjk
      · rw [e2]; exact h2 j hzj hjk
      · cases i with
        | zero => exact absurd b (Nat.not_lt_zero z)
        | succ i =>
          have hij' : i < j := Nat.lt_of_succ_lt_succ hij
          rw [e3 i (Nat.le_of_lt_succ b) (Nat.lt_trans hij' hjk)]
          exact hI _ _ hij' hjk
theorem good_bin (hK : Inj n K) : ∀ (f : Nat) (p : Array Nat) (k : Nat), PermN n p → Inc K p k → k + f = n → Good n K (kas_bin f p k) fun p' => PermN n p' ∧ Inc K p' n
  | 0, p, k, hp, hI, hk => ⟨hp, (show k = n from hk) ▸ hI⟩
  | f + 1, p, k, hp, hI, hk =>
    Good.bind (good_place hK hp (h_lt hk) hI k 0 k (Nat.zero_le k) (Nat.le_refl k) (Nat.le_add_left k 0) (fun _ hi => absurd hi (Nat.not_lt_zero _)) fun _ hi hik => absurd hi (Nat.not_le.mpr hik)) fun _ ⟨z1, z2, z3⟩ =>
      good_bin hK f _ (k + 1) (hp.bub _ _) (inc_bub hp (h_lt hk) z1 hI z2 z3) (h_nx hk)
theorem good_sort {k : Nat} (hK : Inj (k + 1) K) : Good (k + 1) K (kas_sort (k + 1)) fun p => PermN (k + 1) p ∧ Inc K p (k + 1) := by
  refine Good.bind (good_count hK (List.Perm.refl _)) fun r ⟨c, e, q1, q2, q3⟩ => ?_
  by_cases h : r.1 < k + 1
  · rw [if_pos h, e, Nat.max_eq_left (Nat.succ_le_succ (Nat.zero_le c))]
    exact good_bin hK _ _ _ q1 q3 (Nat.add_sub_of_le q2)
  · rw [if_neg h]
    have : c + 1 = k + 1 := Nat.le_antisymm q2 (e ▸ Nat.not_lt.mp h)
    exact ⟨q1, this ▸ q3⟩
end
end
section
set_option maxHeartbeats 1000000
open PySem.Calls PyProof.Rows.TI PyProof.Rows.LCg
section
variable {prog : Program} {w : World} {A : Around} {E : Value → Shared → Prop} {s : Shared} {h₀ : Heap} {L : Addr} {m : Str → Option Value} {news : List (Addr × Obj)}
theorem zip_self : ∀ {vs : List Value}, vs.length < 2 → (vs.toArray.zip vs.toArray).map (·.2) = vs.toArray
  | [], _ => by simp
  | [_], _ => by simp
  | _ :: _ :: _, h => absurd h (Nat.not_lt.mpr (Nat.succ_le_succ (Nat.succ_le_succ (Nat.zero_le _))))
theorem sz_two {n : Nat} (h : n < 2) : n ≤ sizeLine := by rw [sizeLine_eq]; omega
theorem sort_small {a : Addr} {vs : List Value} {n : Nat} {P : PySem.Fin → Shared → Prop} (ho : s.heap.get? a = some (seqObj "list" vs.toArray n)) (h2 : vs.length < 2)
    (h : P (.done (.ret .none)) { s with heap := sortedHeap s.heap a vs vs.toArray }) :
    wpAny (model prog w) A (Builtin.«list.sort» ⟨[.ref a], []⟩) P E s := by
  rw [list_sort_plain]
  have ha : a < s.heap.objs.size := Heap.lt_size ho
  refine wpAny_bind (listItems_at ho rfl ?_)
  refine wpAny_bind (listUpdate_at ho rfl ?_ (by rw [List.size_toArray]; exact sz_two h2) (Nat.zero_le _))
  obtain ⟨e1, ho1⟩ : ∃ e1, (s.heap.update a (Obj.mapSeq fun _ => #[])).get? a = some (seqObj "list" #[] e1) := ⟨_, get?_update_seq ho (fun _ => #[])⟩
  refine wpAny_bind (seqEpoch_at ho1 rfl ?_)
  refine wpAny_bind (wpAny_newTuple ?_ (sz_two h2))
  refine wpAny_bind (wpAny_newList ?_ (Nat.zero_le _))
  refine wpAny_holding ?_
  have ho6 : (((s.heap.update a (Obj.mapSeq fun _ => #[])).push (seqObj "tuple" vs.toArray 0)).push (seqObj "list" #[] 0)).get? a = some (seqObj "list" #[] e1) := by
    rw [Heap.get?_push_ne _ _ _ (by rw [size_push', Heap.size_update]; exact Nat.ne_of_lt (Nat.lt_succ_of_lt ha)), Heap.get?_push_ne _ _ _ (by rw [Heap.size_update]; exact Nat.ne_of_lt ha)]
    exact ho1
  show wpAny (model prog w) A _ P E { s with heap := ((s.heap.update a (Obj.mapSeq fun _ => #[])).push (seqObj "tuple" vs.toArray 0)).push (seqObj "list" #[] 0) }
  have h2' : vs.toArray.size < 2 := by rw [List.size_toArray]; exact h2
  dsimp only
  rw [if_pos h2', if_pos h2']
  refine wpAny_bind (wpAny_pure ?_)
  rw [StateT.run_pure]
  refine wpAny_bind (wpAny_pure ?_)
  dsimp only
  refine wpAny_bind (seqEpoch_at ho6 rfl ?_)
  have e : (arrOf (SortSt.mk' general' (vs.toArray.zip vs.toArray) #[] 7 none)).map (·.2) = vs.toArray := zip_self h2
  rw [e]
  refine wpAny_bind (listUpdate_at ho6 rfl ?_ (Nat.zero_le _) (by rw [List.size_toArray]; exact Nat.le_succ_of_le (sz_two h2)))
  simp only [bne_self_eq_false, Bool.false_eq_true, if_false]
  exact wpAny_pure h
theorem sorted_small {l : Addr} {vs : List Value} {Q : Value → Shared → Prop} (F : Fr h₀ L s.heap m) (N : News h₀ L s.heap news) (hl : s.heap.IsList l vs.toArray) (h2 : vs.length < 2)
    (h : ∀ D c h', Fr h₀ L h' m → News h₀ L h' ((D, listOf vs.toArray c) :: news) → (∀ q ∈ news, q.1 < D) → Q (.ref D) { s with heap := h' }) :
    wpAny (model prog w) A (call (.builtin "sorted") [.ref l]) Q E s := by
  refine Calls.call_function_entry kind_sorted plain_sorted entry_sorted (args_sorted1 _) ?_
  unfold Builtin.«sorted»
  refine wpAny_bind (m := checkCount "sorted" 1 1 _) (wpAny_pure ?_)
  refine wpAny_bind (collect_list hl ?_ (sz_two h2))
  refine wpAny_bind (wpAny_newList ?_ (sz_two h2))
  have hsz : ((s.heap.push (seqObj "list" #[] 0)).update s.heap.objs.size (Obj.mapSeq (· ++ vs.toArray))).objs.size = s.heap.objs.size + 1 := by
    rw [Heap.size_update, size_push']
  have hoL : (((s.heap.push (seqObj "list" #[] 0)).update s.heap.objs.size (Obj.mapSeq (· ++ vs.toArray))).push (seqObj "list" vs.toArray 0)).get? (s.heap.objs.size + 1) = some (seqObj "list" vs.toArray 0) := by
    rw [← hsz]; exact Heap.get?_push_size _ rfl
  show wpAny _ _ _ _ _ { s with heap := ((s.heap.push (seqObj "list" #[] 0)).update s.heap.objs.size (Obj.mapSeq (· ++ vs.toArray))).push (seqObj "list" vs.toArray 0) }
  rw [hsz]
  refine wpAny_bind (wpAny_holding (wpAny_call_entry slot_list_sort ⟨_, hoL, rfl⟩ entry_list_sort (sort_small hoL h2 ⟨_, rfl, ?_⟩) (args_list_sort _)))
  have keep : ∀ b o, s.heap.get? b = some o → (sortedAll s.heap vs vs.toArray).get? b = some o := fun b o e => sortedAll_old e
  obtain ⟨c, hc⟩ := sortedAll_at s.heap vs vs.toArray
  have hL : L < s.heap.objs.size := F.ns.lt
  refine wpAny_pure ⟨_, rfl, h (s.heap.objs.size + 1) c (sortedAll s.heap vs vs.toArray) (F.kept keep) (fun p hp => ?_) fun q hq => Nat.lt_succ_of_lt (Heap.lt_size (N q hq).1)⟩
  rcases List.mem_cons.mp hp with rfl | hp
  · exact ⟨hc, Nat.ne_of_gt (Nat.lt_succ_of_lt hL), Heap.get?_none_of_le (Nat.le_trans F.above (Nat.le_succ_of_le (Nat.le_of_lt hL)))⟩
  · exact ⟨keep _ _ (N p hp).1, (N p hp).2⟩
/-- the tuples of the ledger bear these -/
noncomputable def TripsAre (ts : List (Addr × List Value)) (W : List (Int × Int × Int)) : Prop := ∀ i : Nat, match W[i]? with
  | none => ts[i]? = none
  | some t => ∃ T t1 t2 t3, ts[i]? = some (T, [.int t.1 t1, .int t.2.1 t2, .int t.2.2 t3])
theorem TripsAre.nil : TripsAre [] [] := fun _ => rfl
theorem TripsAre.get {ts : List (Addr × List Value)} {W : List (Int × Int × Int)} (h : TripsAre ts W) {i : Nat} {t : Addr × List Value} (ht : ts[i]? = some t) : ∃ a t1 t2 t3, W[i]? = some a ∧ t.2 = [.int a.1 t1, .int a.2.1 t2, .int a.2.2 t3] := by
  have := h i
  cases e : W[i]? with
  | none => rw [e] at this; dsimp only at this; rw [this] at ht; cases ht
  | some a =>
    rw [e] at this
    obtain ⟨T', t1, t2, t3, h2⟩ := this
    rw [h2] at ht; cases ht
    exact ⟨a, t1, t2, t3, rfl, rfl⟩
theorem TripsAre.len {ts : List (Addr × List Value)} {W : List (Int × Int × Int)} (h : TripsAre ts W) : ts.length = W.length := by
  refine Nat.le_antisymm ?_ ?_
  · have := h W.length
    rw [List.getElem?_eq_none (Nat.le_refl _)] at this
    exact List.getElem?_eq_none_iff.mp this
  · have := h ts.length
    rw [List.getElem?_eq_none (Nat.le_refl ts.length)] at this
    cases e : W[ts.length]? with
    | none => exact List.getElem?_eq_none_iff.mp e
    | some a => rw [e] at this; obtain ⟨_, _, _, _, q⟩ := this; cases q
theorem tripsAre_map {idx : List Nat} {f : Nat → Addr × List Value} {g : Nat → Int × Int × Int} (h : ∀ j ∈ idx, ∃ T t1 t2 t3, f j = (T, [.int (g j).1 t1, .int (g j).2.1 t2, .int (g j).2.2 t3])) : TripsAre (idx.map f) (idx.map g) := fun i => by
  rw [List.getElem?_map, List.getElem?_map]
  cases e : idx[i]? with
  | none => rfl
  | some j =>
    obtain ⟨T, t1, t2, t3, q⟩ := h j (List.mem_of_getElem? e)
    exact ⟨T, t1, t2, t3, congrArg some q⟩
theorem TripsAre.snoc {ts : List (Addr × List Value)} {W : List (Int × Int × Int)} (h : TripsAre ts W) (T : Addr) (a b c : Int) (t1 t2 t3 : Tok) : TripsAre (ts ++ [(T, [.int a t1, .int b t2, .int c t3])]) (W ++ [(a, b, c)]) := fun i => by
  rw [List.getElem?_append, List.getElem?_append, h.len]
  by_cases q : i < W.length
  · rw [if_pos q, if_pos q]; exact h i
  · rw [if_neg q, if_neg q]
    cases i - W.length with
    | zero => exact ⟨T, t1, t2, t3, rfl⟩
    | succ k => rfl
theorem range_getD {α : Type} (d : α) (l : List α) : (List.range l.length).map (fun i => l.getD i d) = l := by
  refine List.ext_getElem (by rw [List.length_map, List.length_range]) fun i h1 h2 => ?_
  rw [List.getElem_map, List.getElem_range, List.getD_eq_getElem?_getD, List.getElem?_eq_getElem h2]; rfl
theorem perm_getD {α : Type} (d : α) {l : List α} {p : Array Nat} (hp : PermN l.length p) : (p.toList.map fun i => l.getD i d).Perm l := by
  have := hp.map fun i => l.getD i d
  rw [range_getD] at this; exact this
theorem key_cmp {a b c d : Int} (hb : 0 ≤ b ∧ b < 1000) (hd : 0 ≤ d ∧ d < 1000) (h : a ≠ c) : (a * 1000 + b < c * 1000 + d) ↔ a < c := by omega
theorem kat_of {h : Heap} : ∀ {l : List (Addr × List Value)}, (∀ t ∈ l, ∃ a b c t1 t2 t3, h.get? t.1 = some (tupOf #[.int a t1, .int b t2, .int c t3] 0)) → ∃ fs : List Value, KatTups h (refL l) fs ∧ fs.length = l.length ∧ ∀ v ∈ fs, ∃ x t, v = .int x t
  | [], _ => ⟨[], .nil, rfl, fun _ h => (nomatch h)⟩
  | t :: l, ht => by
    obtain ⟨a, b, c, t1, t2, t3, e⟩ := ht t (.head _)
    obtain ⟨fs, h1, h2, h3⟩ := kat_of fun u hu => ht u (.tail _ hu)
    refine ⟨.int a t1 :: fs, .cons e rfl rfl rfl h1, congrArg Nat.succ h2, fun v hv => ?_⟩
    rcases List.mem_cons.mp hv with rfl | hv
    · exact ⟨_, _, rfl⟩
    · exact h3 v hv
theorem eq_ints {a b : Int} {t u : Tok} {Q : Bool → Shared → Prop} (h : Q (decide (a = b)) s) : wpAny (model prog w) A (eqBool (.int a t) (.int b u)) Q E s := by
  have := keq_flat (A := A) (s := s) (PyProof.V.Flat.int a t) (PyProof.V.Flat.int b u)
  refine this prog w _ Q ?_
  have e : PyData.eqv (.int a) (.int b) = decide (a = b) := by
    show (a == b) = _
    rw [Bool.eq_iff_iff, beq_iff_eq, decide_eq_true_iff]
  rw [e]; exact h
/-- how two triples of ints compare, if their first two differ or all are alike -/
theorem lt_trips {x y : Int × Int × Int} {T T' : Addr} {t1 t2 t3 u1 u2 u3 : Tok} {C : Bool → Shared → Prop} (q : s.heap.get? T = some (tupOf #[.int x.1 t1, .int x.2.1 t2, .int x.2.2 t3] 0)) (r : s.heap.get? T' = some (tupOf #[.int y.1 u1, .int y.2.1 u2, .int y.2.2 u3] 0))
    (bx : 0 ≤ x.2.1 ∧ x.2.1 < 1000) (bY : 0 ≤ y.2.1 ∧ y.2.1 < 1000) (hxy : keyW x = keyW y → x = y) (hC : C (decide (keyW x < keyW y)) s) : wpAny (model prog w) A (keyLt' (tuples' true) (.ref T) (.ref T')) C E s := by
  obtain ⟨x1, x2, x3⟩ := x
  obtain ⟨y1, y2, y3⟩ := y
  dsimp only at q r bx bY
  unfold keyW at hC hxy
  dsimp only at hC hxy
  refine kat_lt q rfl r rfl (kat_cons (eq_ints ?_))
  by_cases c1 : x1 = y1
  · subst c1
    rw [decide_eq_true rfl]
    refine kat_yes (kat_cons (eq_ints ?_))
    by_cases c2 : x2 = y2
    · subst c2
      cases hxy rfl
      rw [decide_eq_true rfl]
      refine kat_yes (kat_cons (eq_ints ?_))
      rw [decide_eq_true rfl]
      refine kat_yes (kat_nil ?_)
      rw [decide_eq_false (Int.lt_irrefl _)] at hC
      exact hC
    · rw [decide_eq_false c2]
      refine kat_no (kat_one _ _ (PyProof.Rows.lt_int ?_))
      rw [decide_eq_decide.mpr (Int.add_lt_add_iff_left (x1 * 1000))] at hC
      exact hC
  · rw [decide_eq_false c1]
    refine kat_no (oneLt_int ?_)
    rw [decide_eq_decide.mpr (key_cmp bx bY c1)] at hC
    exact hC
/-- sorted(..) of a list of triples of ints whose first two make their order -/
theorem sorted3 {l : Addr} {ts : List (Addr × List Value)} {W : List (Int × Int × Int)} {ep : Nat} {Q : Value → Shared → Prop} (F : Fr h₀ L s.heap m) (N : News h₀ L s.heap news) (hl : (l, listOf (refL ts).toArray ep) ∈ news)
    (hts : ∀ q ∈ tupL ts, q ∈ news) (hT : TripsAre ts W) (h64 : W.length < 64) (hb : ∀ t ∈ W, 0 ≤ t.2.1 ∧ t.2.1 < 1000) (hinj : ∀ (i j : Nat) x y, W[i]? = some x → W[j]? = some y → keyW x = keyW y → i = j)
    (h : ∀ D c h' ts' W', ts'.Perm ts → TripsAre ts' W' → W'.Perm W → W'.Pairwise (fun x y => keyW x < keyW y) → Fr h₀ L h' m → News h₀ L h' ((D, listOf (refL ts').toArray c) :: news) → (∀ q ∈ news, q.1 < D) → Q (.ref D) { s with heap := h' }) :
    wpAny (model prog w) A (call (.builtin "sorted") [.ref l]) Q E s := by
  have hl' : s.heap.IsList l (refL ts).toArray := ⟨_, (N _ hl).1, rfl, _, rfl⟩
  have hWl : (refL ts).length = W.length := (List.length_map ..).trans hT.len
  have hWt : ts.length = W.length := hT.len
  rcases Nat.lt_or_ge (refL ts).length 2 with h2 | h2
  · refine sorted_small F N hl' h2 fun D c h' F' N' lt => h D c h' ts W (List.Perm.refl _) hT (List.Perm.refl _) ?_ F' N' lt
    rw [hWl] at h2
    match W, h2 with
    | [], _ => exact .nil
    | [_], _ => exact List.pairwise_singleton _ _
    | _ :: _ :: _, e => exact absurd e (Nat.not_lt.mpr (Nat.succ_le_succ (Nat.succ_le_succ (Nat.zero_le _))))
  · refine kat_sorted F N hl' h2 (hWl ▸ h64) fun D e1 h' F' N' lt => ?_
    have hW : ∀ i, i < W.length → W[i]? = some (W.getD i default) := fun i hi => by
      rw [List.getD_eq_getElem?_getD, List.getElem?_eq_getElem hi]; rfl
    have hget : ∀ i, i < W.length → ∃ T t1 t2 t3, ts.getD i default = (T, [.int (W.getD i default).1 t1, .int (W.getD i default).2.1 t2, .int (W.getD i default).2.2 t3]) ∧ (refL ts).getD i Value.none = .ref T ∧ h'.get? T = some (tupOf #[.int (W.getD i default).1 t1, .int (W.getD i default).2.1 t2, .int (W.getD i default).2.2 t3] 0) := fun i hi => by
      have := hT i
      rw [hW i hi] at this
      obtain ⟨T, t1, t2, t3, e⟩ := this
      refine ⟨T, t1, t2, t3, by rw [List.getD_eq_getElem?_getD, e]; rfl, ?_, (N' _ (.tail _ (hts _ (List.mem_map.mpr ⟨_, List.mem_of_getElem? e, rfl⟩)))).1⟩
      unfold refL; rw [List.getD_eq_getElem?_getD, List.getElem?_map, e]; rfl
    obtain ⟨fs, k1, k2, k3⟩ := kat_of (h := h') (l := ts) fun t ht => by
      obtain ⟨i, hi⟩ := List.getElem?_of_mem ht
      obtain ⟨a, t1, t2, t3, _, e⟩ := hT.get hi
      refine ⟨a.1, a.2.1, a.2.2, t1, t2, t3, ?_⟩
      have := (N' _ (.tail _ (hts _ (List.mem_map.mpr ⟨_, ht, rfl⟩)))).1
      rw [e] at this; exact this
    refine kat_kind (T := .type "int") k1 (k2.symm ▸ hWt.symm ▸ hWl ▸ Nat.lt_of_lt_of_le (Nat.succ_pos 1) h2) (fun v hv => ?_) rfl ?_
    · obtain ⟨x, t, rfl⟩ := k3 v hv
      exact Looks.of_pure rfl
    rw [show (Value.type "int" != Value.type "tuple") = true from by decide, hWl]
    have hK : Inj W.length fun i => keyW (W.getD i default) := fun i j hi hj e => hinj i j _ _ (hW i hi) (hW j hj) e
    have hbW : ∀ i, i < W.length → 0 ≤ (W.getD i default).2.1 ∧ (W.getD i default).2.1 < 1000 := fun i hi => hb _ (List.mem_of_getElem? (hW i hi))
    have hgs : Good W.length (fun i => keyW (W.getD i default)) (kas_sort W.length) fun p => PermN W.length p ∧ Inc (fun i => keyW (W.getD i default)) p W.length := by
      obtain ⟨k, hk⟩ : ∃ k, W.length = k + 1 := ⟨W.length - 1, (Nat.sub_add_cancel (Nat.le_trans (Nat.le_succ 1) (hWl ▸ h2))).symm⟩
      rw [hk] at hK ⊢
      exact good_sort hK
    refine Good.wp ?_ ?_ hgs
    · intro i j C hi hj hC
      obtain ⟨T, t1, t2, t3, _, q1, q3⟩ := hget i hi
      obtain ⟨T', u1, u2, u3, _, r1, r3⟩ := hget j hj
      unfold kas_ask
      rw [q1, r1]
      exact lt_trips q3 r3 (hbW i hi) (hbW j hj) (fun e => by rw [hK i j hi hj e]) hC
    · rintro p ⟨hp, hI⟩
      refine KasFin.intro F' N' (.head fun q hq => Nat.ne_of_lt (lt q hq)) fun h2 c F2 N2 => ?_
      have hlt : ∀ i ∈ p.toList, i < W.length := fun i hi => List.mem_range.mp (hp.mem_iff.mp hi)
      refine h D c h2 (p.toList.map fun i => ts.getD i default) (p.toList.map fun i => W.getD i default) (perm_getD default (hWt.symm ▸ hp)) (tripsAre_map fun j hj => ?_) (perm_getD default hp) ?_ F2 ?_ lt
      · obtain ⟨T, t1, t2, t3, e, _⟩ := hget j (hlt j hj)
        exact ⟨T, t1, t2, t3, e⟩
      · rw [List.pairwise_map, List.pairwise_iff_getElem]
        intro i j hi hj hij
        have hz : p.toList.length = W.length := by rw [hp.length_eq, List.length_range]
        have g : ∀ k (hk : k < p.toList.length), p.toList[k] = p.getD k 0 := fun k hk => Option.some.inj ((List.getElem?_eq_getElem hk).symm.trans (hp.get (hz ▸ hk)))
        rw [g i hi, g j hj]
        exact hI i j hij (hz ▸ hj)
      · have er : (p.toList.map fun i => (refL ts).getD i Value.none) = refL (p.toList.map fun i => ts.getD i default) := by
          unfold refL
          rw [List.map_map]
          refine List.map_congr_left fun i hi => ?_
          obtain ⟨T, t1, t2, t3, e, r1, _⟩ := hget i (hlt i hi)
          unfold refL at r1
          rw [r1]
          show _ = Value.ref (ts.getD i default).1
          rw [e]
        rw [← er]; exact N2
end
end
section
set_option maxHeartbeats 1000000
open PySem.Calls PyProof.Rows.LCg
section
variable {prog : Program} {w : World} {A : Around} {E : Value → Shared → Prop} {s : Shared} {h₀ : Heap} {L : Addr} {m : Str → Option Value} {env : Env}
theorem newEnv_one {scope : Scope} {globals : Addr} {cl : List (Str × Addr)} {qual : Str} {x : Str} {Q : Env → Shared → Prop} (hcf : ∀ r, cellsFrom r scope.names cl = (x, r) :: cl) (hpc : ∀ h, pushCells h scope.names = h.push { cls := .type "cell", data := .cell none })
    (h : Q (newEnv scope s.heap.objs.size globals ((x, s.heap.objs.size + 1) :: cl) qual none .none (some env) builtinsNs) { s with heap := (s.heap.push { cls := .type "dict", data := .dict #[] }).push { cls := .type "cell", data := .cell none } }) :
    wpAny (model prog w) A (newFunctionEnv scope globals cl [] qual none .none (some env)) Q E s := by
  simp only [newFunctionEnv, Option.isSome_some, if_true]
  refine wpAny_bind (wpAny_alloc ?_)
  refine wpAny_bind (wpAny_layCells _ (fun name kind cells => by cases hkc : kind == NameKind.cell <;> simp [hkc]) _ _ _ _ ?_)
  rw [hcf, hpc]
  rw [List.forIn_nil]
  refine wpAny_bind (wpAny_pure (wpAny_pure ?_))
  rw [show ({ s with heap := s.heap.push { cls := .type "dict", data := .dict #[] } } : Shared).heap.objs.size = s.heap.objs.size + 1 from Heap.size_push ..]
  exact h
/-- what a list comprehension whose variable is a cell wants of its iterator -/
inductive CX (prog : Program) (w : World) (A : Around) (h₀ : Heap) (L : Addr) (m : Str → Option Value) (env : Env) (x : Str) (ifs : List Expr) (elt : Expr) (scope : Scope) (cl : List (Str × Addr)) (Fin : Addr → List Value → List (Addr × Obj) → Shared → Prop) (it : Value) (s₂ : Shared) : Prop
  | mk (I : Addr) (fp : List Addr) (n : Nat) (P : Nat → Value → Prop) (St : Nat → Heap → Prop) (news : List (Addr × Obj)) (J : Nat → List Value → Prop)
    (h1 : it = .ref I) (h2 : Walks prog w A I fp [I] n P St) (h3 : n ≤ sizeLine) (h4 : ∀ i h, St i h → ∃ o, h.get? I = some o) (h5 : St 0 s₂.heap) (h6 : ∀ b ∈ fp, b < s₂.heap.objs.size) (h7 : ∀ b ∈ fp, b = I ∨ (∃ o, h₀.get? b = some o) ∨ ∃ o, (b, o) ∈ news)
    (h8 : Fr h₀ L s₂.heap m) (h9 : News h₀ L s₂.heap news) (h10 : L ≠ I) (h11 : h₀.get? I = none) (h12 : ∀ p ∈ news, p.1 ≠ I) (h13 : J 0 [])
    (h14 : ∀ i v ys oI C oC X oX D m₂ h tk (E' : Value → Shared → Prop), i < n → P i v → J i ys → NsObj oC m₂ → oX.data = .cell (some v) → Fr h₀ L h m → News h₀ L h ((I, oI) :: (C, oC) :: (X, oX) :: (D, lst ys) :: news) → (∀ p ∈ (I, oI) :: news, @LT.lt Nat _ p.1 D) → @LT.lt Nat _ D C → @LT.lt Nat _ C X →
      wpAny (model prog w) A (forIn ifs true fun c r => if r = true then do let ok ← isTrue c (compEnvC scope ((x, X) :: cl) C env) (eval c (compEnvC scope ((x, X) :: cl) C env)); pure (ForInStep.yield ok) else pure (ForInStep.yield r)) (fun ok s₃ =>
        if ok = true then wpAny (model prog w) A (eval elt (compEnvC scope ((x, X) :: cl) C env)) (fun y s₄ => CTurn h₀ L m { s₂ with heap := h, toks := tk } ((I, oI) :: (C, oC) :: (X, oX) :: (D, lst ys) :: news) (J (i + 1) (ys ++ [y])) s₄) E' s₃
        else CTurn h₀ L m { s₂ with heap := h, toks := tk } ((I, oI) :: (C, oC) :: (X, oX) :: (D, lst ys) :: news) (J (i + 1) ys) s₃) E' { s₂ with heap := h, toks := tk })
    (h15 : ∀ D ys h tk, J n ys → ys.length ≤ n → Fr h₀ L h m → News h₀ L h ((D, lst ys) :: news) → (∀ q ∈ news, q.1 < D) → Fin D ys news { s₂ with heap := h, toks := tk })
theorem compX {elt iter : Expr} {x : Str} {px : Pos} {ifs : List Expr} {scope : Scope} {cl : List (Str × Addr)} {pos : Pos} {Q : Value → Shared → Prop} {hF : Heap} (_ : Fr h₀ L hF m)
    (hclos : closureFor scope env = pure cl) (hkind : scope.kind = .function) (hnames : ∀ y ∈ scope.names, y.2 = .local → scope.names.lookup y.1 = some .local)
    (hcf : ∀ r, cellsFrom r scope.names cl = (x, r) :: cl) (hpc : ∀ h, pushCells h scope.names = h.push { cls := .type "cell", data := .cell none }) (hx : (relabel scope env).names.lookup x = some .cell)
    (h : wpAny (model prog w) A (eval iter env) (fun xv s₁ => wpAny (model prog w) A (pyIter xv) (CX prog w A h₀ L m env x ifs elt scope cl fun D _ _ s' => Q (.ref D) s') E s₁) E s)
    (hs : ∀ x, foldedSetIterable iter env x = pure x := by intro _; rfl) :
    wpAny (model prog w) A (eval (.ListComp elt [⟨.Name x px, iter, ifs, 0⟩] scope pos) env) Q E s := by
  rw [eval_ListComp]
  refine wpAny_comprehension_free (use := none) rfl hs hclos hkind hnames (wpAny_mono h (fun xv s₁ h₁ => wpAny_mono h₁ (fun it s₂ cw => ?_) fun _ _ e => e) fun _ _ e => e)
  obtain ⟨I, fp, n, P, St, news, J, rfl, W, hsz, hIo, hst, hfp, hfn, F, N, hIL, hI₀, off, hJ, turn, fin⟩ := cw
  refine wpAny_newObj_type (newEnv_one hcf hpc ?_)
  dsimp only
  obtain ⟨D, hD⟩ : ∃ D, s₂.heap.objs.size = D := ⟨_, rfl⟩
  generalize hH2 : s₂.heap.push { cls := .type "list", dict := none, data := .seq ([] : List Value).toArray } = H2
  obtain ⟨C, hC⟩ : ∃ C, H2.objs.size = C := ⟨_, rfl⟩
  obtain ⟨X, hX⟩ : ∃ X, C + 1 = X := ⟨_, rfl⟩
  generalize hH3 : (H2.push { cls := .type "dict", data := .dict #[] }).push { cls := .type "cell", data := .cell none } = h₁
  have hCD : @Eq Nat C (D + 1) := by rw [← hC, ← hH2, Heap.size_push, hD]
  have hXC : @Eq Nat X (C + 1) := hX.symm
  rw [hC, hX, hD]
  have sz2 : @Eq Nat (H2.push { cls := .type "dict", data := .dict #[] }).objs.size X := by rw [Heap.size_push, hC, hX]
  rw [hD] at hfp
  have old : ∀ b o, s₂.heap.get? b = some o → h₁.get? b = some o := fun b o e => by
    rw [← hH3]; exact Heap.get?_push_of_some _ (Heap.get?_push_of_some _ (hH2 ▸ Heap.get?_push_of_some _ e))
  have hacc : h₁.get? D = some (lst []) := by rw [← hH3]; exact Heap.get?_push_of_some _ (Heap.get?_push_of_some _ (by rw [← hH2, ← hD]; exact Heap.get?_push_size _ rfl))
  have hns₁ : h₁.Ns C fun _ => none := by rw [← hH3, ← hC]; exact (Heap.Ns.new H2 (.type "dict")).keeps fun b o e => Heap.get?_push_of_some _ e
  have hcX : h₁.IsCell X none := ⟨_, by rw [← hH3, ← sz2]; exact Heap.get?_push_size _ rfl, rfl⟩
  have hDC : @LT.lt Nat _ D C := by rw [hCD]; exact l1 D
  have hCX : @LT.lt Nat _ C X := by rw [hXC]; exact l1 C
  have hDX : @LT.lt Nat _ D X := Nat.lt_trans hDC hCX
  have below : ∀ b : Addr, @LT.lt Nat _ b D → b ≠ C ∧ b ≠ D ∧ b ≠ X := fun b hb => ⟨Nat.ne_of_lt (Nat.lt_trans hb hDC), Nat.ne_of_lt hb, Nat.ne_of_lt (Nat.lt_trans hb hDX)⟩
  have nw : ∀ b : Addr, @LE.le Nat _ D b → h₀.get? b = none := fun b hb => by
    cases e : h₀.get? b with
    | none => rfl
    | some o => have := F.keep b o e; rw [fresh_of (by rw [hD]; exact hb)] at this; cases this
  have hD₀ : h₀.get? D = none := nw D (Nat.le_refl _)
  have hC₀ : h₀.get? C = none := nw C (Nat.le_of_lt hDC)
  have hX₀ : h₀.get? X = none := nw X (Nat.le_of_lt hDX)
  have hLlt : @LT.lt Nat _ L D := by rw [← hD]; exact F.ns.lt
  have hIlt : @LT.lt Nat _ I D := hfp I (W.sub I (List.mem_singleton.mpr rfl))
  have hDL : D ≠ L := Nat.ne_of_gt hLlt
  have hCL : C ≠ L := Nat.ne_of_gt (Nat.lt_trans hLlt hDC)
  have hXL : X ≠ L := Nat.ne_of_gt (Nat.lt_trans hLlt hDX)
  have hlt : ∀ q ∈ news, @LT.lt Nat _ q.1 D := fun q hq => by rw [← hD]; exact Heap.lt_size (N q hq).1
  have fpD : ∀ b ∈ fp, b ≠ D ∧ b ≠ C ∧ b ≠ X := fun b hb => ⟨(below b (hfp b hb)).2.1, (below b (hfp b hb)).1, (below b (hfp b hb)).2.2⟩
  have loop : ∀ s₃ : Shared, s₃ = { s₂ with heap := h₁ } →
      codeAny (model prog w) A (.compLoop (.ListComp elt [⟨.Name x px, iter, ifs, 0⟩] scope pos) 0 (.ref I) (.ref D) (compEnvC scope ((x, X) :: cl) C env)) (compPost (model prog w) A E none Q (.ref D) C) s₃ := by
    rintro s₃ rfl
    refine comp_loop (fun k s' => E5 fun h' tk i ys v' => ∃ m', A9 (s' = { s₂ with heap := h', toks := tk }) (i ≤ n) (k = n + 1 - i) (ys.length ≤ i) (St i h') (Fr h₀ L h' m) (h'.Ns C m' ∧ h'.IsCell X v') (News h₀ L h' ((D, lst ys) :: news)) (J i ys)) ?_ (n + 1)
      ⟨h₁, _, 0, [], _, _, rfl, Nat.zero_le _, rfl, Nat.le_refl _, W.frame _ _ _ hst fun b _ o e => old b o e, F.keeps old, ⟨hns₁, hcX⟩, fun p hp => ?_, hJ⟩
    · intro k s' hI0
      refine hide fun G hG => ?_
      obtain ⟨h', tk, i, ys, v', m', rfl, hi, rfl, hyl, hst', F', ⟨hn', hc'⟩, N', hJ'⟩ := hI0
      refine hG ?_
      clear hG G
      by_cases hlt' : i < n
      · refine W.item i _ _ _ hlt' hst' fun v h₂ tk₂ hPv hst₂ hk₂ => ?_
        have N₂ : News h₀ L h₂ ((D, lst ys) :: news) := news_but N' hk₂ fun p hp => by
          rcases List.mem_cons.mp hp with rfl | hp
          · exact Nat.ne_of_gt hIlt
          · exact off p hp
        have hn₂ : h₂.Ns C m' := hn'.at' fun o e => hk₂ _ o (by simpa using (show C ≠ I from Nat.ne_of_gt (Nat.lt_trans hIlt hDC))) e
        obtain ⟨oX', heX', hoX'⟩ := hc'
        have hc₂ : h₂.IsCell X v' := ⟨oX', hk₂ _ _ (by simpa using (show X ≠ I from Nat.ne_of_gt (Nat.lt_trans hIlt hDX))) heX', hoX'⟩
        refine wpAny_pure (wpAny_assign_Name (wpAny_storeName_cell (by show (relabel scope env).kind = _; exact hkind) hx (List.lookup_cons_self ..) hc₂ fun h₃ hc₃ hs₃ => ?_))
        have hk₃ : ∀ b o, b ≠ X → h₂.get? b = some o → h₃.get? b = some o := fun b o hb e => hs₃.extBut b o hb e
        have hst₃ : St (i + 1) h₃ := W.frame _ _ _ hst₂ fun b hb o e => hk₃ b o (fpD b hb).2.2 e
        obtain ⟨oI, heI⟩ := hIo _ _ hst₃
        have hn₃ : h₃.Ns C m' := hn₂.at' fun o e => hk₃ _ o (Nat.ne_of_lt hCX) e
        obtain ⟨oC, heC, hoC⟩ := ns_obj hn₃
        obtain ⟨oX, heX, hoX⟩ := hc₃
        have F₂ : Fr h₀ L h₂ m := fr_but F' hk₂ hIL hI₀
        have F₃ : Fr h₀ L h₃ m := ⟨F₂.ns.at' fun o e => hk₃ L o (Ne.symm hXL) e, fun b o e => hk₃ b o (fun q => by rw [q, hX₀] at e; cases e) (F₂.keep b o e), F₂.above⟩
        have N₃ : News h₀ L h₃ ((I, oI) :: (C, oC) :: (X, oX) :: (D, lst ys) :: news) := fun p hp => by
          rcases List.mem_cons.mp hp with rfl | hp
          · exact ⟨heI, Ne.symm hIL, hI₀⟩
          rcases List.mem_cons.mp hp with rfl | hp
          · exact ⟨heC, hCL, hC₀⟩
          rcases List.mem_cons.mp hp with rfl | hp
          · exact ⟨heX, hXL, hX₀⟩
          · refine ⟨hk₃ _ _ ?_ (N₂ p hp).1, (N₂ p hp).2⟩
            rcases List.mem_cons.mp hp with rfl | hp
            · exact Nat.ne_of_lt hDX
            · exact (below _ (hlt p hp)).2.2
        have again : ∀ h₄, News h₀ L h₄ ((I, oI) :: (C, oC) :: (X, oX) :: (D, lst ys) :: news) → Fr h₀ L h₄ m → St (i + 1) h₄ := fun h₄ N₄ F₄ => W.frame _ _ _ hst₃ fun b hb o e => by
          rcases hfn b hb with rfl | ⟨o', ho'⟩ | ⟨o', ho'⟩
          · rw [heI] at e; cases e; exact (N₄ _ (.head _)).1
          · rw [F₃.keep _ _ ho'] at e; cases e; exact F₄.keep _ _ ho'
          · rw [(N₃ _ (.tail _ (.tail _ (.tail _ (.tail _ ho'))))).1] at e; cases e; exact (N₄ _ (.tail _ (.tail _ (.tail _ (.tail _ ho'))))).1
        refine wpAny_mono (turn i v ys oI C oC X oX D m' h₃ _ _ hlt' hPv hJ' hoC hoX F₃ N₃ (fun p hp => ?_) hDC hCX) (fun ok s₄ h₄ => ?_) fun _ _ e => e
        · rcases List.mem_cons.mp hp with rfl | hp
          · exact hIlt
          · exact hlt p hp
        cases ok with
        | true =>
          simp only [if_true] at h₄ ⊢
          refine wpAny_mono h₄ (fun y s₅ h₅ => ?_) fun _ _ e => e
          refine hide fun G hG => ?_
          obtain ⟨h₅, tk₅, rfl, F₅, N₅, hJ₅⟩ := h₅
          refine hG ?_
          clear hG G
          have zC := (N₅ (C, oC) (.tail _ (.head _))).1
          have zX := (N₅ (X, oX) (.tail _ (.tail _ (.head _)))).1
          have zD := (N₅ (D, lst ys) (.tail _ (.tail _ (.tail _ (.head _))))).1
          refine append_at (hsz := by show ys.toArray.size ≤ sizeLine; rw [List.size_toArray]; exact Nat.le_trans (Nat.le_trans hyl hi) hsz) zD fun h₆ hs₆ hD₆ => ?_
          refine ⟨n + 1 - (i + 1), Nat.sub_lt_sub_left (Nat.lt_succ_of_lt hlt') (Nat.lt_succ_self i), h₆, tk₅, i + 1, ys ++ [y], some v, _, rfl, hlt', rfl, by rw [List.length_append, List.length_singleton]; exact Nat.succ_le_succ hyl, W.frame _ _ _ (again _ N₅ F₅) fun b hb o e => hs₆.extBut b o (fpD b hb).1 e, F₅.change hs₆ hDL hD₀, ⟨(hoC.ns zC).sameBut hs₆ (Nat.ne_of_gt hDC), ⟨oX, hs₆.extBut _ _ (Nat.ne_of_gt hDX) zX, hoX⟩⟩, fun p hp => ?_, hJ₅⟩
          rcases List.mem_cons.mp hp with rfl | hp
          · exact ⟨hD₆.trans (congrArg some (lst_snoc ys y)), hDL, hD₀⟩
          · have z := N₅ p (.tail _ (.tail _ (.tail _ (.tail _ hp))))
            exact ⟨hs₆.extBut _ _ (below _ (hlt p hp)).2.1 z.1, z.2⟩
        | false =>
          simp only [Bool.false_eq_true, if_false] at h₄ ⊢
          refine hide fun G hG => ?_
          obtain ⟨h₅, tk₅, rfl, F₅, N₅, hJ₅⟩ := h₄
          refine hG ?_
          clear hG G
          have zC := (N₅ (C, oC) (.tail _ (.head _))).1
          have zX := (N₅ (X, oX) (.tail _ (.tail _ (.head _)))).1
          exact ⟨n + 1 - (i + 1), Nat.sub_lt_sub_left (Nat.lt_succ_of_lt hlt') (Nat.lt_succ_self i), h₅, tk₅, i + 1, ys, some v, _, rfl, hlt', rfl, Nat.le_succ_of_le hyl, again _ N₅ F₅, F₅, ⟨hoC.ns zC, ⟨oX, zX, hoX⟩⟩, fun p hp => N₅ p (.tail _ (.tail _ (.tail _ hp))), hJ₅⟩
      · obtain rfl : i = n := Nat.le_antisymm hi (Nat.not_lt.mp hlt')
        refine W.done _ _ _ hst' fun h₂ tk₂ hk₂ => ?_
        have F₂ : Fr h₀ L h₂ m := fr_but F' hk₂ hIL hI₀
        have N₂ : News h₀ L h₂ ((D, lst ys) :: news) := news_but N' hk₂ fun p hp => by
          rcases List.mem_cons.mp hp with rfl | hp
          · exact Nat.ne_of_gt hIlt
          · exact off p hp
        refine ⟨m', hn'.at' fun o e => hk₂ _ o (by simpa using (show C ≠ I from Nat.ne_of_gt (Nat.lt_trans hIlt hDC))) e, fun h₃ hs₃ => fin D ys h₃ tk₂ hJ' hyl (F₂.change hs₃ hCL hC₀) (fun p hp => ⟨hs₃.extBut _ _ ?_ (N₂ p hp).1, (N₂ p hp).2⟩) hlt⟩
        rcases List.mem_cons.mp hp with rfl | hp
        · exact Nat.ne_of_lt hDC
        · exact (below _ (hlt p hp)).1
    · rcases List.mem_cons.mp hp with rfl | hp
      · exact ⟨hacc, hDL, hD₀⟩
      · exact ⟨old _ _ (N p hp).1, (N p hp).2⟩
  exact codeAny_compStart_list (loop _ rfl) (W.self 0 _ _ _ (W.frame _ _ _ hst fun b _ o e => old b o e) (loop _ rfl))
/-- the source: a list of the ledger -/
theorem cx_list {elt : Expr} {ifs : List Expr} {x : Str} {scope : Scope} {cl : List (Str × Addr)} {Fin : Addr → List Value → List (Addr × Obj) → Shared → Prop} {l : Addr} {vs : List Value} {ep : Nat} {news : List (Addr × Obj)} (J : Nat → List Value → Prop)
    (hh : A.handled = none) (F : Fr h₀ L s.heap m) (N : News h₀ L s.heap news) (hl : (l, listOf vs.toArray ep) ∈ news) (hsz : vs.length ≤ sizeLine) (hJ : J 0 [])
    (turn : ∀ i u ys I oI C oC X oX D m₂ h tk (E' : Value → Shared → Prop), vs[i]? = some u → J i ys → NsObj oC m₂ → oX.data = .cell (some u) → Fr h₀ L h m → News h₀ L h ((I, oI) :: (C, oC) :: (X, oX) :: (D, lst ys) :: news) → (∀ p ∈ (I, oI) :: news, @LT.lt Nat _ p.1 D) → @LT.lt Nat _ D C → @LT.lt Nat _ C X →
      wpAny (model prog w) A (forIn ifs true fun c r => if r = true then do let ok ← isTrue c (compEnvC scope ((x, X) :: cl) C env) (eval c (compEnvC scope ((x, X) :: cl) C env)); pure (ForInStep.yield ok) else pure (ForInStep.yield r)) (fun ok s₃ =>
        if ok = true then wpAny (model prog w) A (eval elt (compEnvC scope ((x, X) :: cl) C env)) (fun y s₄ => CTurn h₀ L m { s with heap := h, toks := tk } ((I, oI) :: (C, oC) :: (X, oX) :: (D, lst ys) :: news) (J (i + 1) (ys ++ [y])) s₄) E' s₃
        else CTurn h₀ L m { s with heap := h, toks := tk } ((I, oI) :: (C, oC) :: (X, oX) :: (D, lst ys) :: news) (J (i + 1) ys) s₃) E' { s with heap := h, toks := tk })
    (fin : ∀ D ys h tk, J vs.length ys → ys.length ≤ vs.length → Fr h₀ L h m → News h₀ L h ((D, lst ys) :: news) → (∀ q ∈ news, q.1 < D) → Fin D ys news { s with heap := h, toks := tk }) :
    wpAny (model prog w) A (pyIter (.ref l)) (CX prog w A h₀ L m env x ifs elt scope cl Fin) E s := by
  have hls : s.heap.IsList l vs.toArray := ⟨_, (N _ hl).1, rfl, _, rfl⟩
  have hne : l ≠ s.heap.objs.size := Nat.ne_of_lt (Heap.lt_size (N _ hl).1)
  refine wpAny_pyIter_list hls ?_
  have up : ∀ (o' : Obj) b o, s.heap.get? b = some o → (s.heap.push o').get? b = some o := fun o' b o e => Heap.get?_push_of_some _ e
  have W := Walks.list (prog := prog) (w := w) hh s.heap.objs.size l hne vs.toArray
  have hlen : vs.toArray.size = vs.length := by simp
  rw [hlen] at W
  refine ⟨s.heap.objs.size, _, vs.length, _, _, news, J, rfl, W, hsz, fun i h st => let ⟨⟨o, ho, _⟩, _⟩ := st; ⟨o, ho⟩, ⟨⟨_, Heap.get?_push_size _ rfl, rfl, rfl⟩, hls.push _⟩, ?_, ?_,
    F.push _, N.grown (up _), Nat.ne_of_lt F.ns.lt, next_is_new F, fun p hp => Nat.ne_of_lt (Heap.lt_size (N p hp).1), hJ, ?_, ?_⟩
  · intro b hb
    show b < (s.heap.push _).objs.size
    rw [Heap.size_push]
    rcases List.mem_cons.mp hb with rfl | hb
    · exact Nat.lt_succ_self _
    · rw [List.mem_singleton.mp hb]; exact Nat.lt_succ_of_lt (Heap.lt_size (N _ hl).1)
  · intro b hb
    rcases List.mem_cons.mp hb with rfl | hb
    · exact .inl rfl
    · rw [List.mem_singleton.mp hb]; exact .inr (.inr ⟨_, hl⟩)
  · intro i u ys oI C oC X oX D m₂ h tk E' hi hP hJ' hC hX F' N' l1 l2 l3
    exact turn i u ys _ oI C oC X oX D m₂ h tk E' (by simpa using hP) hJ' hC hX F' N' l1 l2 l3
  · intro D ys h tk hJ' hl' F' N' hlt
    exact fin D ys h tk hJ' hl' F' N' hlt
theorem u64 {u : Nat} (h : u ≤ 50) : u + 64 < cLine := by rw [cLine_is]; omega
theorem eqf {a b : Int} {t u : Tok} {Q : Value → Shared → Prop} (hab : a ≠ b) (h : Q (.bool false) s) : wpAny (model prog w) A (compareOp .Eq (.int a t) (.int b u)) Q E s :=
  PyProof.Rows.eq_int (by rw [show (a == b) = false by simpa using hab]; exact h)
theorem eqt {a b : Int} {t u : Tok} {Q : Value → Shared → Prop} (hab : a = b) (h : Q (.bool true) s) : wpAny (model prog w) A (compareOp .Eq (.int a t) (.int b u)) Q E s :=
  PyProof.Rows.eq_int (by rw [show (a == b) = true by simpa using hab]; exact h)
/-- an item of a list of the ledger -/
theorem item_led {value slice : Expr} {l : Addr} {vs : List Value} {ep : Nat} {k : Int} {u : Tok} {v : Value} {news : List (Addr × Obj)} {Q : Value → Shared → Prop} (N : News h₀ L s.heap news) (hm : (l, listOf vs.toArray ep) ∈ news) (h0 : 0 ≤ k) (hk : vs[k.toNat]? = some v) (hsz : vs.length ≤ 1000)
    (h : Q v s) (hs : subscripted slice false (.ref l) (.int k u) = operate [.ref l, .int k u] (getItem (.ref l) (.int k u)) := by with_unfolding_all rfl) :
    wpAny (model prog w) A (subscriptTail value slice (.ref l) (.int k u)) Q E s := by
  have hl' : s.heap.IsList l vs.toArray := News.isList N hm
  have hlt : k.toNat < vs.length := by
    rcases Nat.lt_or_ge k.toNat vs.length with h | h
    · exact h
    · rw [List.getElem?_eq_none h] at hk; cases hk
  exact tail_any hl'.typeIs slot_list_getitem.lookup (wpAny_getItem_list hl' h0 (by omega) (by simpa using hk) h) hs
/-- a comprehension over a range -/
theorem cw_range {elt : Expr} {ifs : List Expr} {x : Str} {px : Pos} {scope : Scope} {cl : List (Str × Addr)} {Fin : Addr → List Value → List (Addr × Obj) → Shared → Prop} {r : Addr} {a b c : Int} {t u v : Tok} {n : Nat} {news : List (Addr × Obj)} (J : Nat → List Value → Prop)
    (hh : A.handled = none) (hkind : scope.kind = .function) (hx : scope.names.lookup x = some .local) (hr : IsRange s.heap r a b c t u v) (hsm : Builtin.Range.small a b c = true) (hn : Builtin.Range.rangeSize a b c = ((n : Nat) : Int)) (hsz : n ≤ sizeLine) (F : Fr h₀ L s.heap m) (N : News h₀ L s.heap news) (hJ : J 0 [])
    (turn : ∀ i t ys I oI C oC D m₂ h tk (E' : Value → Shared → Prop), i < n → J i ys → NsObj oC m₂ → m₂ x = some (.int (a + (i : Nat) * c) t) → Fr h₀ L h m → News h₀ L h ((I, oI) :: (C, oC) :: (D, lst ys) :: news) → Off3 I C D news → ((@Ne Nat I C) ∧ (@Ne Nat I D) ∧ (@Ne Nat C D)) →
      wpAny (model prog w) A (forIn ifs true fun c r => if r = true then do let ok ← isTrue c (compEnvC scope cl C env) (eval c (compEnvC scope cl C env)); pure (ForInStep.yield ok) else pure (ForInStep.yield r)) (fun ok s₃ =>
        if ok = true then wpAny (model prog w) A (eval elt (compEnvC scope cl C env)) (fun y s₄ => CTurn h₀ L m { s with heap := h, toks := tk } ((I, oI) :: (C, oC) :: (D, lst ys) :: news) (J (i + 1) (ys ++ [y])) s₄) E' s₃
        else CTurn h₀ L m { s with heap := h, toks := tk } ((I, oI) :: (C, oC) :: (D, lst ys) :: news) (J (i + 1) ys) s₃) E' { s with heap := h, toks := tk })
    (fin : ∀ D ys h tk, J n ys → ys.length ≤ n → Fr h₀ L h m → News h₀ L h ((D, lst ys) :: news) → (∀ q ∈ news, q.1 < D) → Fin D ys news { s with heap := h, toks := tk }) :
    wpAny (model prog w) A (pyIter (.ref r)) (CW prog w A h₀ L m env (.Name x px) ifs elt scope cl Fin) E s := by
  refine wpAny_pyIter_range hr hsm ?_
  refine ⟨s.heap.objs.size, _, n, _, _, news, fun _ u m₂ => m₂ x = some u, J, rfl, Walks.range hh s.heap.objs.size a c n, hsz, fun i h st => ⟨_, st⟩, (by show IsRangeIter _ _ _ _ _; rw [hn]; simpa using Heap.get?_push_size _ rfl), ?_, ?_,
    F.push _, N.grown fun b o e => Heap.get?_push_of_some _ e, Nat.ne_of_lt F.ns.lt, next_is_new F, fun p hp => Nat.ne_of_lt (Heap.lt_size (N p hp).1), hJ, fun _ _ _ _ _ _ _ _ _ _ _ hn k => asg_name hkind hx hn k, ?_, ?_⟩
  · intro b hb
    show b < (s.heap.push _).objs.size
    rw [Heap.size_push, List.mem_singleton.mp hb]
    exact Nat.lt_succ_self _
  · intro b hb
    rw [List.mem_singleton.mp hb]; exact .inl rfl
  · intro i u ys oI C oC D m₂ h tk E' hi hP hJ' hC hB F' N' o3 ne
    obtain ⟨t, rfl⟩ := hP
    exact turn i t ys _ oI C oC D m₂ h tk E' hi hJ' hC hB F' N' o3 ne
  · intro D ys h tk hJ' hl' F' N' hlt
    exact fin D ys h tk hJ' hl' F' N' hlt
end
end
section
set_option maxHeartbeats 1000000
open PySem.Calls PyProof.Rows.LCg
section
variable {prog : Program} {w : World} {A : Around} {E : Value → Shared → Prop} {s : Shared} {h₀ : Heap} {L : Addr} {m : Str → Option Value}
theorem gpre_set {O rest : List (Addr × Obj)} {h : Heap} {S : Addr} {o o' : Obj} {f : Obj → Obj} (P : GPre h₀ L O ((S, o) :: rest) m h) (hr : ∀ q ∈ rest, q.1 ≠ S) (ho : (h.update S f).get? S = some o') : GPre h₀ L O ((S, o') :: rest) m (h.update S f) := by
  obtain ⟨F1, N1, dis⟩ := P
  have z := N1 (S, o) (List.mem_append_right _ (.head _))
  have sb := Heap.SameBut.update h S f
  refine ⟨F1.change sb z.2.1 z.2.2, fun q hq => ?_, fun p hp q hq => ?_⟩
  · rcases List.mem_append.mp hq with h1 | h1
    · have y := N1 q (List.mem_append_left _ h1)
      exact ⟨sb.extBut _ _ (dis q h1 (S, o) (.head _)) y.1, y.2⟩
    · rcases List.mem_cons.mp h1 with rfl | h1
      · exact ⟨ho, z.2⟩
      · have y := N1 q (List.mem_append_right _ (.tail _ h1))
        exact ⟨sb.extBut _ _ (hr q h1) y.1, y.2⟩
  · rcases List.mem_cons.mp hq with rfl | hq
    · exact dis p hp (S, o) (.head _)
    · exact dis p hp q (.tail _ hq)
/-- what list.extend's loop does with a generator -/
theorem ext_loop {S Ga : Addr} {og : Obj} {g : Nat} {res : Value} {R : Result → Shared → Prop} (hh : A.handled = none) (hl : h₀.NoLimit) (hroom : A.depth < recursionLimit) (hog : og.cls = .type "generator" ∧ (∃ nm qn, og.data = .fields #[.int g 0, nm, qn]) ∧ og.slots = #[]) :
    ∀ (todo : List Int) (s : Shared) (acc : List Value) (c : Nat) (gs : GenState) (O rest : List (Addr × Obj)), acc.length + todo.length ≤ 1000 → (∀ v ∈ acc, IsI v) → s.gens[g]? = some gs → AllBare s.gens → GenOn (model prog w) A.in1.in1 h₀ L todo O gs →
      GPre h₀ L O ((S, listOf acc.toArray c) :: rest) m s.heap → (∀ q ∈ rest, q.1 ≠ S) → (Ga, og) ∈ rest →
      (∀ h' tk gens' (acc' : List Value) c', AllBare gens' → (∀ v ∈ acc', IsI v) → acc'.map intOf = acc.map intOf ++ todo → Fr h₀ L h' m → News h₀ L h' ((S, listOf acc'.toArray c') :: rest) → R (.ok (.ret res)) { s with heap := h', toks := tk, gens := gens' }) →
      codeAny (model prog w) A (.builtin "list.extend.loop" ⟨[.ref S, .ref Ga, res], []⟩) R s := by
  obtain ⟨o1, ⟨nm, qn, o2⟩, o3⟩ := hog
  intro todo
  induction todo with
  | nil =>
    intro s acc c gs O rest hz hi hgs hba hon pre hr hG hq
    refine codeAny_builtin F.entry_extend_loop ?_
    rw [Around.under_plainId F.plain_extend_loop _]
    show wpAny _ A.in1 (pyNext (.ref Ga) >>= _) _ _ s
    have isg : s.heap.IsGen Ga g := ⟨og, nm, qn, (pre.2.1 _ (List.mem_append_right _ (.tail _ hG))).1, o1, o2, o3⟩
    refine wpAny_bind (gen_next (A := A.in1) hh (hl.keeps pre.1.keep) hroom isg hgs hon pre (fun _ h' tk gens' hb F' N' => ?_) fun x t e => by cases e)
    exact wpAny_pure (hq h' tk gens' acc c (hb hba) hi (by simp) F' N')
  | cons x t ih =>
    intro s acc c gs O rest hz hi hgs hba hon pre hr hG hq
    refine codeAny_builtin F.entry_extend_loop ?_
    rw [Around.under_plainId F.plain_extend_loop _]
    show wpAny _ A.in1 (pyNext (.ref Ga) >>= _) _ _ s
    have isg : s.heap.IsGen Ga g := ⟨og, nm, qn, (pre.2.1 _ (List.mem_append_right _ (.tail _ hG))).1, o1, o2, o3⟩
    refine wpAny_bind (gen_next (A := A.in1) hh (hl.keeps pre.1.keep) hroom isg hgs hon pre (fun e => by cases e) ?_)
    rintro x' t' e h' tk gens' tv O' gs' hb hgs' pre' hon'
    cases e
    have hS' := (pre'.2.1 (S, listOf acc.toArray c) (List.mem_append_right _ (.head _))).1
    simp only [List.length_cons] at hz
    show wpAny _ A.in1 (updateSeq S (·.push (.int x tv)) >>= _) _ _ _
    refine wpAny_bind ?_
    refine wpAny_updateSeq hS' rfl (wpAny_pure ⟨plainId_quiet F.plain_extend_loop _, ?_⟩)
      (by show acc.toArray.size ≤ _; rw [List.size_toArray, sizeLine_eq]; omega) (by show (acc.toArray.push (.int x tv)).size ≤ sizeLine + 1; rw [Array.size_push, List.size_toArray, sizeLine_eq]; omega)
    have e1 : acc.toArray.push (Value.int x tv) = (acc ++ [Value.int x tv]).toArray := by rw [List.push_toArray]
    obtain ⟨c2, up⟩ : ∃ c2, (h'.update S (Obj.mapSeq (·.push (Value.int x tv)))).get? S = some (listOf (acc ++ [Value.int x tv]).toArray c2) := by
      rw [← e1]; exact ⟨_, get?_update_seq hS' _⟩
    refine ih _ (acc ++ [Value.int x tv]) c2 gs' O' rest (by rw [List.length_append, List.length_singleton]; omega) (fun v hv => ?_) hgs' (hb hba) hon' (gpre_set pre' hr up) hr hG ?_
    · rcases List.mem_append.mp hv with h | h
      · exact hi v h
      · rw [List.mem_singleton.mp h]; exact ⟨_, _, rfl⟩
    · intro h2 tk2 gens2 acc2 c2 hb2 hi2 he2 F2 N2
      refine hq h2 tk2 gens2 acc2 c2 hb2 hi2 ?_ F2 N2
      rw [he2, List.map_append, List.append_assoc]; rfl
/-- list(..) of a generator -/
theorem list_gen {Ga : Addr} {og : Obj} {g : Nat} {gs : GenState} {todo : List Int} {O rest : List (Addr × Obj)} {Q : Value → Shared → Prop} (hh : A.handled = none) (hl : h₀.NoLimit) (hroom : A.depth < recursionLimit) (hog : og.cls = .type "generator" ∧ (∃ nm qn, og.data = .fields #[.int g 0, nm, qn]) ∧ og.slots = #[])
    (hgs : s.gens[g]? = some gs) (hba : AllBare s.gens) (hon : ∀ uu, GenOn (model prog w) { A with units := uu } h₀ L todo O gs) (pre : GPre h₀ L O rest m s.heap) (hG : (Ga, og) ∈ rest) (hz : todo.length ≤ 1000)
    (hq : ∀ h' tk gens' D (acc : List Value) c, AllBare gens' → (∀ v ∈ acc, IsI v) → acc.map intOf = todo → (∀ q ∈ rest, q.1 < D) → Fr h₀ L h' m → News h₀ L h' ((D, listOf acc.toArray c) :: rest) → Q (.ref D) { s with heap := h', toks := tk, gens := gens' }) :
    wpAny (model prog w) A (call (.type "list") [.ref Ga]) Q E s := by
  obtain ⟨D, hD⟩ : ∃ D, s.heap.objs.size = D := ⟨_, rfl⟩
  refine callType_codes (Q₁ := fun obj s₁ => obj = .ref s.heap.objs.size ∧ s₁ = { s with heap := s.heap.push { cls := .type "list", data := .seq #[] } }) F.called_list (F.typeCall_list_1 _) F.entry_list_init
    (code_list_new _ ⟨rfl, rfl⟩) fun obj s₁ h₁ => ?_
  obtain ⟨rfl, rfl⟩ := h₁
  have hS : (s.heap.push { cls := .type "list", data := .seq #[] }).get? s.heap.objs.size = some { cls := .type "list", data := .seq #[] } := Heap.get?_push_size _ rfl
  refine ⟨⟨_, hS, rfl⟩, F.args_list_init_2 _ _, ?_⟩
  rw [hD] at hS ⊢
  have up1 : ∀ b o, s.heap.get? b = some o → (s.heap.push { cls := .type "list", data := .seq #[] }).get? b = some o := fun b o e => Heap.get?_push_of_some _ e
  obtain ⟨F1, N1, dis⟩ := pre
  have hlt : ∀ q ∈ O ++ rest, @LT.lt Nat _ q.1 D := fun q hq => by rw [← hD]; exact Heap.lt_size (N1 q hq).1
  have hLD : @LT.lt Nat _ L D := by rw [← hD]; exact F1.ns.lt
  have pre1 : GPre h₀ L O ((D, listOf #[] 0) :: rest) m (s.heap.push { cls := .type "list", data := .seq #[] }) := by
    refine ⟨F1.keeps up1, fun q hq => ?_, fun p hp q hq => ?_⟩
    · rcases List.mem_append.mp hq with h | h
      · exact ⟨up1 _ _ (N1 q (List.mem_append_left _ h)).1, (N1 q (List.mem_append_left _ h)).2⟩
      · rcases List.mem_cons.mp h with rfl | h
        · exact ⟨hS, Nat.ne_of_gt hLD, Heap.get?_none_of_le (Nat.le_trans F1.above (Nat.le_of_lt hLD))⟩
        · exact ⟨up1 _ _ (N1 q (List.mem_append_right _ h)).1, (N1 q (List.mem_append_right _ h)).2⟩
    · rcases List.mem_cons.mp hq with rfl | hq
      · exact Nat.ne_of_lt (hlt p (List.mem_append_left _ hp))
      · exact dis p hp q hq
  have hr : ∀ q ∈ rest, q.1 ≠ D := fun q hq => Nat.ne_of_lt (hlt q (List.mem_append_right _ hq))
  clear up1
  generalize hH1 : s.heap.push { cls := .type "list", data := .seq #[] } = H1 at hS pre1 ⊢
  show wpAny _ A.in1.in1 (do let old ← Builtin.List.listItems (.ref D); Builtin.List.listUpdate (.ref D) (fun _ => #[]); letGo old.toList.reverse; Builtin.List.listExtendWith (.ref D) (.ref Ga) .none) _ _ _
  refine wpAny_bind ?_
  unfold Builtin.List.listItems
  refine wpAny_bind (wpAny_seqItems hS rfl (wpAny_pure ?_))
  show wpAny _ A.in1.in1 (updateSeq D (fun _ => #[]) >>= fun _ => letGo (#[] : Array Value).toList.reverse >>= fun _ => Builtin.List.listExtendWith (.ref D) (.ref Ga) .none) _ _ _
  refine wpAny_bind (wpAny_updateSeq hS rfl ?_)
  have hS2 := Heap.get?_update_self (Obj.mapSeq (fun _ => (#[] : Array Value))) hS rfl
  have pre2 := gpre_set pre1 hr hS2
  dsimp only at hS2 pre2 ⊢
  generalize hH2 : H1.update D (Obj.mapSeq fun _ => #[]) = H2 at hS2 pre2 ⊢
  refine wpAny_bind (wpAny_letGo ?_)
  have isg : ∀ {H : Heap} {o : Obj}, GPre h₀ L O ((D, o) :: rest) m H → H.IsGen Ga g := fun P => let ⟨o1, ⟨nm, qn, o2⟩, o3⟩ := hog; ⟨og, nm, qn, (P.2.1 _ (List.mem_append_right _ (.tail _ hG))).1, o1, o2, o3⟩
  have hT : ∀ {H : Heap} {o : Obj} {tk : Nat} {gens : Array GenState}, GPre h₀ L O ((D, o) :: rest) m H → ({ s with heap := H, toks := tk, gens := gens } : Shared).TypeIs (.ref Ga) "generator" := fun P => ⟨og, (P.2.1 _ (List.mem_append_right _ (.tail _ hG))).1, hog.1⟩
  have hDG : D ≠ Ga := fun e => hr _ hG e.symm
  unfold Builtin.List.listExtendWith
  refine wpAny_bind (wpAny_typeOf (hT pre2) ?_)
  have h1 : Builtin.List.listSameRef (.ref D) (.ref Ga) = false := by simp [Builtin.List.listSameRef, hDG]
  have h2 : (Value.type "generator" == Value.type "list") = false := by decide
  have h3 : (Value.type "generator" == Value.type "tuple") = false := by decide
  simp only [h1, h2, h3, Bool.or_false, Bool.false_eq_true, if_false]
  refine wpAny_bind (wpAny_pyIter_gen (isg pre2) ?_)
  refine wpAny_bind (wpAny_holding ?_)
  unfold Builtin.List.listLengthHint
  refine wpAny_bind (wpAny_specialOf (hT pre2) F.gen_no_len ?_)
  show wpAny _ A.in1.in1 (specialOf (Value.ref Ga) (Str.ofString "__length_hint__") >>= _) _ _ _
  refine wpAny_bind (wpAny_specialOf (hT pre2) F.gen_no_hint ?_)
  refine wpAny_pure ?_
  show wpAny _ A.in1.in1 (rule "list.extend.makes-room" >>= fun _ => Builtin.List.listTouch (.ref D) >>= fun _ =>
    again (.builtin "list.extend.loop" ⟨[.ref D, .ref Ga, .none], []⟩)) _ _ _
  refine wpAny_bind (wpAny_rule ?_)
  refine wpAny_bind ?_
  show wpAny _ A.in1.in1 (updateSeq D (·.push .none) >>= fun _ => updateSeq D (·.pop)) _ _ _
  refine wpAny_bind (wpAny_updateSeq hS2 rfl ?_)
  have hS3 := Heap.get?_update_self (Obj.mapSeq (·.push Value.none)) hS2 rfl
  have pre3 := gpre_set pre2 hr hS3
  refine wpAny_updateSeq (hz := by seq_fits) hS3 rfl ?_
  have hS4 := Heap.get?_update_self (Obj.mapSeq (·.pop)) hS3 rfl
  have pre4 := gpre_set pre3 hr hS4
  dsimp only at hS4 pre4 ⊢
  refine wpAny_pure ⟨plainId_quiet F.plain_extend_loop _, ?_⟩
  refine ext_loop (A := A.in1) (S := D) (Ga := Ga) (g := g) (og := og) hh hl hroom hog todo _ [] _ gs O rest (by simpa using hz) (fun _ h => (nomatch h)) hgs hba (hon _) pre4 hr hG ?_
  intro h' tk gens' acc' c' hb hi he F' N'
  exact ⟨rfl, hq h' tk gens' D acc' c' hb hi (by simpa using he) (fun q hq => hlt q (List.mem_append_right _ hq)) F' N'⟩
end
end
section
set_option maxHeartbeats 8000000
theorem frag_on31 : (fun (_ : Params → Frag) => PySem.Challenge.rw_cy0005_01.Holds) KF → True := by
  k_fill
  intro _; trivial
open PySem.Calls PyProof.Rows.TI PyProof.Rows.LCg
noncomputable def mLaw (sl S nl : Addr) : Str → Option Value := fun y => if y = Str.ofString "named" then some (.ref nl) else if y = Str.ofString "sorter" then some (.ref S) else if y = Str.ofString "script" then some (.ref sl) else none
noncomputable def tripAt (ns : List Int) (i : Nat) : Int × Int := (ns.getD (2 * i) 0, ns.getD (2 * i + 1) 0)
noncomputable def trips (ns : List Int) (n : Nat) : List (Int × Int) := (List.range n).map (tripAt ns)
/-- between the turns of the building loop -/
structure BI (σ : Srt) (w : World) (oN : Obj) (xs : List NI) (t1 t2 : Tok) (X wl nl : Addr) (cx : Obj) (ts : List (Addr × List Value)) (nvs : List Value) (e1 e2 : Nat) (cells : List (Addr × Obj)) (P : List (Int × Int)) (Pl : List Int) (nx : List (Addr × Obj)) : Prop where
  led : nx = ledS σ w .none (.int 0 t1) (.int 0 t2) oN xs ((X, cx) :: (wl, listOf (refL ts).toArray e1) :: (nl, listOf nvs.toArray e2) :: (tupL ts ++ cells))
  sok : SOK σ xs ((X, cx) :: (wl, listOf (refL ts).toArray e1) :: (nl, listOf nvs.toArray e2) :: (tupL ts ++ cells)) (3 * P.length)
  dic : oN.IsDictOf (intKind Pr w) (kvsN xs)
  pn : xs.map NI.pn = P.foldl (fun ps t => addOne ps t) []
  tup : TupsAre ts (edgesP P)
  nvi : ∀ v ∈ nvs, IsI v
  nve : nvs.map intOf = Pl
  hx : ∃ v, cx.data = .cell v
  offx : ∀ q ∈ tupL ts ++ cells, q.1 ≠ X
  offw : ∀ q ∈ tupL ts ++ cells, q.1 ≠ wl
  offn : ∀ q ∈ tupL ts ++ cells, q.1 ≠ nl
  offc : ∀ q ∈ tupL ts, ∀ r ∈ cells, q.1 ≠ r.1
theorem mem_front {σ : Srt} {w : World} {rv po nf : Value} {oN : Obj} {xs : List NI} {it : Addr × Obj} {rest : List (Addr × Obj)} : ∀ q ∈ it :: ledS σ w rv po nf oN xs rest, q ∈ ledS σ w rv po nf oN xs (it :: rest) := fun q hq => by
  rcases List.mem_cons.mp hq with rfl | hq
  · exact ledS_split.mpr (.inr (.head _))
  rcases ledS_split.mp hq with h | h
  · exact ledS_split.mpr (.inl h)
  · exact ledS_split.mpr (.inr (.tail _ h))
theorem off_front {σ : Srt} {w : World} {rv po nf : Value} {oN : Obj} {xs : List NI} {I : Addr} {rest : List (Addr × Obj)} (hs : ∀ a ∈ addrS σ xs, I ≠ a) (hr : ∀ q ∈ rest, q.1 ≠ I) : ∀ q ∈ ledS σ w rv po nf oN xs rest, q.1 ≠ I := fun q hq => by
  rcases inL q hq with h | h
  · exact (hs _ h).symm
  · exact hr q h
theorem sok_tail {σ : Srt} {xs : List NI} {it : Addr × Obj} {rest : List (Addr × Obj)} {n : Nat} (hs : SOK σ xs (it :: rest) n) : SOK σ xs rest n := sok_rest hs fun a ha q hq => hs.off a ha q (.tail _ hq)
theorem trips_succ (ns : List Int) (i : Nat) : trips ns (i + 1) = trips ns i ++ [tripAt ns i] := by
  unfold trips; rw [List.range_succ, List.map_append]; rfl
theorem edges_len (P : List (Int × Int)) : (edgesP P).length ≤ P.length := by
  induction P using snoc_ind with
  | h0 => exact Nat.le_refl _
  | h1 P p ih =>
    rw [edgesP_snoc, List.length_append, List.length_append]
    have : (edgeOf p).length ≤ 1 := by unfold edgeOf; split <;> simp
    simp only [List.length_singleton]; omega
theorem ens_len (l : List Int) (x : Int) : (ensN l x).length ≤ l.length + 1 := by unfold ensN; split <;> simp
theorem keys_len (P : List (Int × Int)) : (keysP P).length ≤ 2 * P.length := by
  induction P using snoc_ind with
  | h0 => exact Nat.le_refl _
  | h1 P p ih =>
    rw [keysP_snoc, List.length_append]
    have h1 := ens_len (ensN (keysP P) (hi2 p)) (lo2 p)
    have h2 := ens_len (keysP P) (hi2 p)
    simp only [List.length_singleton]; omega
theorem small3 {n : Nat} (h : n ≤ 63) : Builtin.Range.small 0 ((n : Int) - 1) 2 = true := (by decide +kernel : ∀ n : Nat, n < 64 → Builtin.Range.small 0 ((n : Int) - 1) 2 = true) n (Nat.lt_succ_of_le h)
theorem size3 {n : Nat} (h : n ≤ 63) : Builtin.Range.rangeSize 0 ((n : Int) - 1) 2 = ((n / 2 : Nat) : Int) := (by decide +kernel : ∀ n : Nat, n < 64 → Builtin.Range.rangeSize 0 ((n : Int) - 1) 2 = ((n / 2 : Nat) : Int)) n (Nat.lt_succ_of_le h)
section
variable {w : World} {A₀ A : Around} {base h₀ : Heap} {L fa : Addr} {cv : Value} {m mg mb : Str → Option Value} {p : Program} {loose : List Str} {mean : ExcName → Option Value} {s : Shared}
  {Q : Flow → Shared → Prop} {E : Value → Shared → Prop}
theorem l_build {σ : Srt} {t1 t2 : Tok} {oN c1 cx : Obj} {sl wl nl : Addr} {vs : List Value} {ns : List Int} {cells : List (Addr × Obj)} {e1 e2 : Nat}
    (hh : A.handled = none) (hfr : A.frames = some [lawE L fa cv]) (hdp : A.depth < 600) (B : Below A₀ base [] h₀) (X₀ : (KF w.params).In h₀) (T : Top p loose mean mg mb h₀)
    (hl : h₀.IsList sl vs.toArray) (hi : IntsAre vs ns) (hn : ns.length ≤ 63) (hc1 : (L + 1, c1) ∈ cells) (hcd1 : c1.data = .cell (some (.ref wl)))
    (w1 : @LT.lt Nat _ (L + 1) wl) (w2 : @LT.lt Nat _ (L + 1 + 1) wl) (w3 : @LT.lt Nat _ (L + 1) nl) (w4 : @LT.lt Nat _ (L + 1 + 1) nl) (w5 : @LT.lt Nat _ nl wl) (F : Fr h₀ L s.heap (mLaw sl σ.S nl)) {nx0 : List (Addr × Obj)}
    (N : News h₀ L s.heap nx0) (bi : BI σ w oN [] t1 t2 (L + 1 + 1) wl nl cx [] [] e1 e2 cells [] [] nx0)
    (hq : ∀ n h' tk' m' oN' xs ts nvs e1 e2 cx' nx, n ≤ 31 → Agr [Str.ofString "k", Str.ofString "a", Str.ofString "b"] (mLaw sl σ.S nl) m' → BI σ w oN' xs t1 t2 (L + 1 + 1) wl nl cx' ts nvs e1 e2 cells (trips ns n) (keysP (trips ns n)) nx → Fr h₀ L h' m' → News h₀ L h' nx → Q .next { s with heap := h', toks := tk' }) :
    wpAny (model Pr w) A (exec (lawSt 3) (lawE L fa cv)) Q E s := by
  obtain ⟨_, d, _, gs, u⟩ := A
  dsimp only at hh hfr hdp
  subst hh hfr
  conv in (lawSt 3) => whnf
  conv in (occs := *) (lawE L fa cv) => all_goals unfold lawE
  conv in (occs := *) lawS => all_goals whnf
  refine wpAny_For ?_
  (try dsimp only)
  (repeat' (((fail_if_success with_reducible first | show wpAny _ _ (call (Value.ref _) _ _) _ _ _ | show wpAny _ _ (exec (Stmt.For _ _ _ _ _) _) _ _ _ | show wpAny _ _ (exec (Stmt.While _ _ _ _) _) _ _ _ | show wpAny _ _ (pyIter _) _ _ _)); (fail_if_success with_reducible first | show wpAny _ _ (exec (Stmt.If _ _ _ _) _) _ _ _); ((fail_if_success with_reducible first | show wpAny _ _ (subscriptTail _ _ _ _) _ _ _)); ((first | (k_unfold; (try dsimp only)) | (k_end; wrow_close) | walk1 | (dsimp only; walk1) | (leave1; walk_say "STEP leave1"; try dsimp only) | fail "no step"))))
  refine for_range (n := ns.length / 2) (fun i m nx => Agr [Str.ofString "k", Str.ofString "a", Str.ofString "b"] (mLaw sl σ.S nl) m ∧ E7 fun oN xs ts nvs e1 e2 cx => BI σ w oN xs t1 t2 (L + 1 + 1) wl nl cx ts nvs e1 e2 cells (trips ns i) (keysP (trips ns i)) nx) rfl (by assumption) (small3 hn) (size3 hn) (by assumption) (by assumption) ⟨Agr.rfl', oN, [], [], [], e1, e2, cx, bi⟩ ?_ ?_
  · clear bi hq
    rename Fr _ _ _ _ => F0
    rename News _ _ _ _ => N0
    clear F0 N0
    intro i t m₁ nx h tk I oI hiN hI0 off F N
    refine hide fun G hG => ?_
    obtain ⟨hA, oN, xs, ts, nvs, e1, e2, cx, bi⟩ := hI0
    refine hG ?_
    clear hG G
    refine turn_name ?_
    rw [hA.eq] at F
    generalize m₁ = u1 at F
    clear hA
    have k00 : 0 ≤ 0 + (i : Int) * 2 := by omega
    have k01 : 0 + (i : Int) * 2 < ns.length ∧ ns.length ≤ 1000 := by omega
    have k10 : 0 ≤ 0 + (i : Int) * 2 + 1 := by omega
    have k11 : 0 + (i : Int) * 2 + 1 < ns.length ∧ ns.length ≤ 1000 := by omega
    (repeat' (((fail_if_success with_reducible first | show wpAny _ _ (call (Value.ref _) _ _) _ _ _ | show wpAny _ _ (exec (Stmt.For _ _ _ _ _) _) _ _ _ | show wpAny _ _ (exec (Stmt.While _ _ _ _) _) _ _ _ | show wpAny _ _ (pyIter _) _ _ _)); (fail_if_success with_reducible first | show wpAny _ _ (exec (Stmt.If _ _ _ _) _) _ _ _); ((fail_if_success with_reducible first | show wpAny _ _ (subscriptTail _ _ _ _) _ _ _)); ((first | (k_unfold; (try dsimp only)) | (k_end; wrow_close) | walk1 | (dsimp only; walk1) | (leave1; walk_say "STEP leave1"; try dsimp only) | fail "no step"))))
    refine item_int hl hi (by assumption) k00 k01 ?_
    intro v1
    (repeat' (((fail_if_success with_reducible first | show wpAny _ _ (call (Value.ref _) _ _) _ _ _ | show wpAny _ _ (exec (Stmt.For _ _ _ _ _) _) _ _ _ | show wpAny _ _ (exec (Stmt.While _ _ _ _) _) _ _ _ | show wpAny _ _ (pyIter _) _ _ _)); (fail_if_success with_reducible first | show wpAny _ _ (exec (Stmt.If _ _ _ _) _) _ _ _); ((fail_if_success with_reducible first | show wpAny _ _ (subscriptTail _ _ _ _) _ _ _)); ((first | (k_unfold; (try dsimp only)) | (k_end; wrow_close) | walk1 | (dsimp only; walk1) | (leave1; walk_say "STEP leave1"; try dsimp only) | fail "no step"))))
    refine item_int hl hi (by assumption) k10 k11 ?_
    intro v2
    (repeat' (((fail_if_success with_reducible first | show wpAny _ _ (call (Value.ref _) _ _) _ _ _ | show wpAny _ _ (exec (Stmt.For _ _ _ _ _) _) _ _ _ | show wpAny _ _ (exec (Stmt.While _ _ _ _) _) _ _ _ | show wpAny _ _ (pyIter _) _ _ _)); (fail_if_success with_reducible first | show wpAny _ _ (exec (Stmt.If _ _ _ _) _) _ _ _); ((fail_if_success with_reducible first | show wpAny _ _ (subscriptTail _ _ _ _) _ _ _)); ((first | (k_unfold; (try dsimp only)) | (k_end; wrow_close) | walk1 | (dsimp only; walk1) | (leave1; walk_say "STEP leave1"; try dsimp only) | fail "no step"))))
    refine item_int hl hi (by assumption) k00 k01 ?_
    intro v3
    (repeat' (((fail_if_success with_reducible first | show wpAny _ _ (call (Value.ref _) _ _) _ _ _ | show wpAny _ _ (exec (Stmt.For _ _ _ _ _) _) _ _ _ | show wpAny _ _ (exec (Stmt.While _ _ _ _) _) _ _ _ | show wpAny _ _ (pyIter _) _ _ _)); (fail_if_success with_reducible first | show wpAny _ _ (exec (Stmt.If _ _ _ _) _) _ _ _); ((fail_if_success with_reducible first | show wpAny _ _ (subscriptTail _ _ _ _) _ _ _)); ((first | (k_unfold; (try dsimp only)) | (k_end; wrow_close) | walk1 | (dsimp only; walk1) | (leave1; walk_say "STEP leave1"; try dsimp only) | fail "no step"))))
    refine item_int hl hi (by assumption) k10 k11 ?_
    intro v4
    (repeat' (((fail_if_success with_reducible first | show wpAny _ _ (call (Value.ref _) _ _) _ _ _ | show wpAny _ _ (exec (Stmt.For _ _ _ _ _) _) _ _ _ | show wpAny _ _ (exec (Stmt.While _ _ _ _) _) _ _ _ | show wpAny _ _ (pyIter _) _ _ _)); (fail_if_success with_reducible first | show wpAny _ _ (exec (Stmt.If _ _ _ _) _) _ _ _); ((fail_if_success with_reducible first | show wpAny _ _ (subscriptTail _ _ _ _) _ _ _)); ((first | (k_unfold; (try dsimp only)) | (k_end; wrow_close) | walk1 | (dsimp only; walk1) | (leave1; walk_say "STEP leave1"; try dsimp only) | fail "no step"))))
    rename Fr _ _ _ _ => F1
    rename News _ _ _ _ => N1
    have ek : (0 + (i : Int) * 2).toNat = 2 * i := by omega
    have ek1 : (0 + (i : Int) * 2 + 1).toNat = 2 * i + 1 := by omega
    simp only [ek, ek1] at F1
    obtain ⟨ta, tb, F2⟩ : ∃ ta tb, Fr h₀ L _ (fun y => if y = Str.ofString "b" then some (.int (hi2 (tripAt ns i)) tb) else if y = Str.ofString "a" then some (.int (lo2 (tripAt ns i)) ta) else if y = Str.ofString "k" then some (.int (0 + (i : Int) * 2) t) else if [Str.ofString "k", Str.ofString "a", Str.ofString "b"].contains y then u1 y else mLaw sl σ.S nl y) := ⟨_, _, F1⟩
    clear F1
    generalize ha : lo2 (tripAt ns i) = a at F2
    generalize hb : hi2 (tripAt ns i) = b at F2
    obtain ⟨mT, hmT⟩ : ∃ mT, mT = (fun y => if y = Str.ofString "b" then some (Value.int b tb) else if y = Str.ofString "a" then some (Value.int a ta) else if y = Str.ofString "k" then some (.int (0 + (i : Int) * 2) t) else if [Str.ofString "k", Str.ofString "a", Str.ofString "b"].contains y then u1 y else mLaw sl σ.S nl y) := ⟨_, rfl⟩
    rw [← hmT] at F2
    have hli : (trips ns i).length = i := by simp [trips]
    refine wpAny_mono (Q := fun f' s' => Box (f' = .next ∧ E7 fun h' tk oN' xs' ts' e1' nx' => A5 (s' = ({ s with heap := h', toks := tk } : Shared)) (Fr h₀ L h' mT) (News h₀ L h' ((I, oI) :: nx')) ((∀ q ∈ nx', q.1 ≠ I)) (BI σ w oN' xs' t1 t2 (L + 1 + 1) wl nl cx ts' nvs e1' e2 cells (trips ns (i + 1)) (keysP (trips ns i)) nx'))) (E := fun _ _ => False) ?_ ?_ (fun _ _ x => x.elim)
    · obtain ⟨rfl, sok, dic, pn, tup, nvi, nve, hx, offx, offw, offn, offc⟩ := bi
      subst hmT
      obtain ⟨rr, hrr0⟩ : ∃ rr, rr = (L + 1 + 1, cx) :: (nl, listOf nvs.toArray e2) :: (tupL ts ++ cells) := ⟨_, rfl⟩
      have hsI : SOK σ xs ((I, oI) :: (L + 1 + 1, cx) :: (wl, listOf (refL ts).toArray e1) :: (nl, listOf nvs.toArray e2) :: (tupL ts ++ cells)) (3 * (trips ns i).length) := sok_rest sok fun a ha q hq => by
        rcases List.mem_cons.mp hq with rfl | hq
        · obtain ⟨q', h1, rfl⟩ := addrS_led (w := w) (rv := .none) (po := .int 0 t1) (nf := .int 0 t2) (oN := oN) (rest := (L + 1 + 1, cx) :: (wl, listOf (refL ts).toArray e1) :: (nl, listOf nvs.toArray e2) :: (tupL ts ++ cells)) a ha
          exact (off q' h1).symm
        · exact sok.off a ha q hq
      have N2 : News h₀ L _ (ledS σ w .none (.int 0 t1) (.int 0 t2) oN xs ((I, oI) :: (L + 1 + 1, cx) :: (wl, listOf (refL ts).toArray e1) :: (nl, listOf nvs.toArray e2) :: (tupL ts ++ cells))) := News.sub N1 (by walk_at "sub")
      clear N1
      have hoffr : ∀ q ∈ (L + 1 + 1, cx) :: (wl, listOf (refL ts).toArray e1) :: (nl, listOf nvs.toArray e2) :: (tupL ts ++ cells), q.1 ≠ I := fun q hq => off q (ledS_split.mpr (.inr hq))
      walk1
      (repeat' (((fail_if_success with_reducible first | show wpAny _ _ (call (Value.ref _) _ _) _ _ _ | show wpAny _ _ (exec (Stmt.For _ _ _ _ _) _) _ _ _ | show wpAny _ _ (exec (Stmt.While _ _ _ _) _) _ _ _ | show wpAny _ _ (pyIter _) _ _ _)); (fail_if_success with_reducible first | show wpAny _ _ (exec (Stmt.If _ _ _ _) _) _ _ _); ((fail_if_success with_reducible first | show wpAny _ _ (subscriptTail _ _ _ _) _ _ _)); ((first | (k_unfold; (try dsimp only)) | (k_end; wrow_close) | walk1 | (dsimp only; walk1) | (leave1; walk_say "STEP leave1"; try dsimp only) | fail "no step"))))
      · refine wpAny_call (c_add (rest := (I, oI) :: (L + 1 + 1, cx) :: (wl, listOf (refL ts).toArray e1) :: (nl, listOf nvs.toArray e2) :: (tupL ts ++ cells)) (vs := []) rfl rfl (by first | (refine ltu (by assumption) ?_; rfl) | (show d < 800; omega)) rfl rfl B X₀ T (by assumption) hsI (by rw [hli]; simp only [List.length_nil]; omega) (fun _ h => nomatch h) dic N2 ?_)
        intro h5 tk5 oN5 xs5 hp5 hs5 hd5 F5 N5
        (repeat' (((fail_if_success with_reducible first | show wpAny _ _ (call (Value.ref _) _ _) _ _ _ | show wpAny _ _ (exec (Stmt.For _ _ _ _ _) _) _ _ _ | show wpAny _ _ (exec (Stmt.While _ _ _ _) _) _ _ _ | show wpAny _ _ (pyIter _) _ _ _)); (fail_if_success with_reducible first | show wpAny _ _ (exec (Stmt.If _ _ _ _) _) _ _ _); ((fail_if_success with_reducible first | show wpAny _ _ (subscriptTail _ _ _ _) _ _ _)); ((first | (k_unfold; (try dsimp only)) | (k_end; wrow_close) | walk1 | (dsimp only; walk1) | (leave1; walk_say "STEP leave1"; try dsimp only) | fail "no step"))))
        rename a = b => hab
        refine ⟨rfl, h5, tk5, oN5, xs5, ts, e1, _, rfl, F5, News.sub N5 mem_front, off_front (fun a ha => hs5.off a ha (I, oI) (.head _)) hoffr, rfl, (sok_tail hs5).wk ?_, hd5, ?_, ?_, nvi, nve, hx, offx, offw, offn, offc⟩
        · rw [trips_succ, List.length_append, hli]; simp only [List.length_nil, List.length_singleton]; omega
        · rw [hp5, pn, trips_succ, List.foldl_append, List.foldl_cons, List.foldl_nil]
          unfold addOne
          rw [ha, hb, if_pos hab]; rfl
        · rw [trips_succ, edgesP_snoc]
          unfold edgeOf
          rw [ha, hb, if_pos hab, List.append_nil]; exact tup
      · refine wpAny_call (c_add (rest := (I, oI) :: (L + 1 + 1, cx) :: (wl, listOf (refL ts).toArray e1) :: (nl, listOf nvs.toArray e2) :: (tupL ts ++ cells)) (vs := [.int a ta]) rfl rfl (by first | (refine ltu (by assumption) ?_; rfl) | (show d < 800; omega)) rfl rfl B X₀ T (by assumption) hsI (by rw [hli]; simp only [List.length_singleton]; omega) (fun v h => by rw [List.mem_singleton.mp h]; exact ⟨_, _, rfl⟩) dic N2 ?_)
        intro h5 tk5 oN5 xs5 hp5 hs5 hd5 F5 N5
        rename a ≠ b => hab
        have hmc1 : (L + 1, c1) ∈ tupL ts ++ cells := List.mem_append_right _ hc1
        obtain ⟨ro, hro⟩ : ∃ ro, ro = ledS σ w .none (.int 0 t1) (.int 0 t2) oN5 xs5 ((I, oI) :: (L + 1 + 1, cx) :: (nl, listOf nvs.toArray e2) :: (tupL ts ++ cells)) := ⟨_, rfl⟩
        have N6 : News h₀ L h5 ((L + 1, c1) :: (wl, listOf (refL ts).toArray e1) :: ro) := News.sub N5 (sub_cons (ledS_split.mpr (.inr (.tail _ (.tail _ (.tail _ (.tail _ hmc1)))))) (by rw [hro]; walk_at "sub"))
        have offro : ∀ q ∈ ro, q.1 ≠ wl := fun q hq => by
          rw [hro] at hq
          rcases inL q hq with h | h
          · exact fun e => hs5.off _ h (wl, listOf (refL ts).toArray e1) (.tail _ (.tail _ (.head _))) e.symm
          · rcases List.mem_cons.mp h with rfl | h
            · exact (hoffr (wl, listOf (refL ts).toArray e1) (.tail _ (.head _))).symm
            rcases List.mem_cons.mp h with rfl | h
            · k_ne
            rcases List.mem_cons.mp h with rfl | h
            · k_ne
            · exact offw q h
        clear N5 N2 hsI
        (repeat' (((fail_if_success with_reducible first | show wpAny _ _ (call (Value.ref _) _ _) _ _ _ | show wpAny _ _ (exec (Stmt.For _ _ _ _ _) _) _ _ _ | show wpAny _ _ (exec (Stmt.While _ _ _ _) _) _ _ _ | show wpAny _ _ (pyIter _) _ _ _)); (fail_if_success with_reducible first | show wpAny _ _ (exec (Stmt.If _ _ _ _) _) _ _ _); ((fail_if_success with_reducible first | show wpAny _ _ (subscriptTail _ _ _ _) _ _ _)); ((first | (k_unfold; (try dsimp only)) | (k_end; wrow_close) | walk1 | (dsimp only; walk1) | (leave1; walk_say "STEP leave1"; try dsimp only) | fail "no step"))))
        rename @LT.lt Nat _ _ _ ∧ _ ∧ AllLt _ ro => l5
        rename Addr => Tt
        have htl : ts.length ≤ i := by
          have h1 := tup.len
          have h2 := edges_len (trips ns i)
          omega
        refine' append_K ?k1 ?k2 ?k3 ?_ ?z
        case k1 => k_asm
        case k2 => k_asm
        case k3 => k_upd
        case z => simp only [List.size_toArray, refL, List.length_map]; rw [sizeLine_eq]; omega
        intro h6 F6 N6
        (repeat' (((fail_if_success with_reducible first | show wpAny _ _ (call (Value.ref _) _ _) _ _ _ | show wpAny _ _ (exec (Stmt.For _ _ _ _ _) _) _ _ _ | show wpAny _ _ (exec (Stmt.While _ _ _ _) _) _ _ _ | show wpAny _ _ (pyIter _) _ _ _)); (fail_if_success with_reducible first | show wpAny _ _ (exec (Stmt.If _ _ _ _) _) _ _ _); ((fail_if_success with_reducible first | show wpAny _ _ (subscriptTail _ _ _ _) _ _ _)); ((first | (k_unfold; (try dsimp only)) | (k_end; wrow_close) | walk1 | (dsimp only; walk1) | (leave1; walk_say "STEP leave1"; try dsimp only) | fail "no step"))))
        rw [List.push_toArray] at N6
        obtain ⟨tv, htv⟩ : ∃ tv, tv = [Value.int a ta, Value.int b tb] := ⟨_, rfl⟩
        have hrr : ∀ q, q ∈ ledS σ w .none (.int 0 t1) (.int 0 t2) oN5 xs5 [] ∨ q ∈ (I, oI) :: (L + 1 + 1, cx) :: (nl, listOf nvs.toArray e2) :: (tupL ts ++ cells) → q ∈ ro := fun q h => by rw [hro]; exact ledS_split.mpr h
        have N7 : News h₀ L h6 ((I, oI) :: ledS σ w .none (.int 0 t1) (.int 0 t2) oN5 xs5 ((L + 1 + 1, cx) :: (wl, listOf (refL (ts ++ [(Tt, tv)])).toArray (e1 + 1)) :: (nl, listOf nvs.toArray e2) :: (tupL (ts ++ [(Tt, tv)]) ++ cells))) := News.sub N6 fun q hq => by
          rcases List.mem_cons.mp hq with rfl | hq
          · exact .tail _ (.tail _ (.tail _ (hrr _ (.inr (.head _)))))
          rcases ledS_split.mp hq with h | h
          · exact .tail _ (.tail _ (.tail _ (hrr _ (.inl h))))
          · simp only [tupL_app, List.append_assoc, List.mem_cons, List.mem_append] at h
            rcases h with h | h | h | h | h | h
            · exact .tail _ (.tail _ (.tail _ (hrr _ (.inr (by simp [h])))))
            · rw [h]; simp [refL]
            · exact .tail _ (.tail _ (.tail _ (hrr _ (.inr (by simp [h])))))
            · exact .tail _ (.tail _ (.tail _ (hrr _ (.inr (by simp [h])))))
            · simp only [tupL, List.map_cons, List.map_nil, List.mem_singleton] at h
              rw [h, htv]; exact .head _
            · exact .tail _ (.tail _ (.tail _ (hrr _ (.inr (by simp [h])))))
        have hlt : ∀ q ∈ ro, @LT.lt Nat _ q.1 Tt := allLt_mem l5.2.2
        have hmr : ∀ q ∈ (I, oI) :: (L + 1 + 1, cx) :: (nl, listOf nvs.toArray e2) :: (tupL ts ++ cells), @LT.lt Nat _ q.1 Tt := fun q hq => hlt q (by rw [hro]; exact ledS_split.mpr (.inr hq))
        have hsT : ∀ a ∈ addrS σ xs5, @LT.lt Nat _ a Tt := fun a ha => by
          obtain ⟨q', h1, rfl⟩ := addrS_led (w := w) (rv := .none) (po := .int 0 t1) (nf := .int 0 t2) (oN := oN5) (rest := (I, oI) :: (L + 1 + 1, cx) :: (nl, listOf nvs.toArray e2) :: (tupL ts ++ cells)) a ha
          exact hlt q' (by rw [hro]; exact h1)
        have hmem : ∀ q ∈ tupL (ts ++ [(Tt, tv)]) ++ cells, q ∈ tupL ts ++ cells ∨ q.1 = Tt := fun q hq => by
          simp only [tupL_app, List.mem_append] at hq
          rcases hq with (h | h) | h
          · exact .inl (List.mem_append_left _ h)
          · right; simp only [tupL, List.map_cons, List.map_nil, List.mem_singleton] at h; rw [h]
          · exact .inl (List.mem_append_right _ h)
        have hn5 : @LT.lt Nat _ nl Tt := hmr (nl, listOf nvs.toArray e2) (.tail _ (.tail _ (.head _)))
        have hx5 : @LT.lt Nat _ (L + 1 + 1) Tt := hmr (L + 1 + 1, cx) (.tail _ (.head _))
        have hw5 : @LT.lt Nat _ wl Tt := l5.2.1
        have hI5 : @LT.lt Nat _ I Tt := hmr (I, oI) (.head _)
        refine ⟨rfl, h6, _, oN5, xs5, ts ++ [(Tt, tv)], e1 + 1, _, rfl, F6, N7, ?_, rfl, (sok_rest hs5 ?_).wk ?_, hd5, ?_, ?_, nvi, nve, hx, ?_, ?_, ?_, ?_⟩
        · refine off_front (fun a ha => hs5.off a ha (I, oI) (.head _)) fun q hq => ?_
          rcases List.mem_cons.mp hq with rfl | hq
          · exact hoffr (L + 1 + 1, cx) (.head _)
          rcases List.mem_cons.mp hq with rfl | hq
          · exact hoffr (wl, listOf (refL ts).toArray e1) (.tail _ (.head _))
          rcases List.mem_cons.mp hq with rfl | hq
          · exact hoffr (nl, listOf nvs.toArray e2) (.tail _ (.tail _ (.head _)))
          rcases hmem q hq with h | h
          · exact hoffr q (.tail _ (.tail _ (.tail _ h)))
          · rw [h]; k_ne
        · intro a ha q hq
          rcases List.mem_cons.mp hq with rfl | hq
          · exact hs5.off a ha (L + 1 + 1, cx) (.tail _ (.head _))
          rcases List.mem_cons.mp hq with rfl | hq
          · exact hs5.off a ha (wl, listOf (refL ts).toArray e1) (.tail _ (.tail _ (.head _)))
          rcases List.mem_cons.mp hq with rfl | hq
          · exact hs5.off a ha (nl, listOf nvs.toArray e2) (.tail _ (.tail _ (.tail _ (.head _))))
          rcases hmem q hq with h | h
          · exact hs5.off a ha q (.tail _ (.tail _ (.tail _ (.tail _ h))))
          · rw [h]; have := hsT a ha; k_ne
        · rw [trips_succ, List.length_append, hli]; simp only [List.length_singleton]; omega
        · rw [hp5, pn, trips_succ, List.foldl_append, List.foldl_cons, List.foldl_nil]
          unfold addOne
          rw [ha, hb, if_neg hab]; rfl
        · rw [trips_succ, edgesP_snoc]
          unfold edgeOf
          rw [ha, hb, if_neg hab, htv]
          exact tup.snoc _ _ _ _ _
        · intro q hq
          rcases hmem q hq with h | h
          · exact offx q h
          · rw [h]; k_ne
        · intro q hq
          rcases hmem q hq with h | h
          · exact offw q h
          · rw [h]; k_ne
        · intro q hq
          rcases hmem q hq with h | h
          · exact offn q h
          · rw [h]; k_ne
        · intro q hq r hr
          rw [tupL_app] at hq
          rcases List.mem_append.mp hq with h | h
          · exact offc q h r hr
          · simp only [tupL, List.map_cons, List.map_nil, List.mem_singleton] at h
            have := hmr r (.tail _ (.tail _ (.tail _ (List.mem_append_right _ hr))))
            rw [h]; k_ne
    · intro f' s' hI0
      refine hide fun G hG => ?_
      obtain ⟨rfl, h6, tk6, oN6, xs6, ts6, e16, nx6, rfl, F6, N6, off6, bi6⟩ := hI0
      refine hG ?_
      clear hG G
      dsimp only
      obtain ⟨rfl, sok, dic, pn, tup, nvi, nve, ⟨vx, hcx⟩, offx, offw, offn, offc⟩ := bi6
      clear N1 F2 bi
      obtain ⟨ro, hro⟩ : ∃ ro, ro = (I, oI) :: ledS σ w .none (.int 0 t1) (.int 0 t2) oN6 xs6 ((wl, listOf (refL ts6).toArray e16) :: (tupL ts6 ++ cells)) := ⟨_, rfl⟩
      have N7 : News h₀ L h6 ((L + 1 + 1, cx) :: (nl, listOf nvs.toArray e2) :: ro) := News.sub N6 (by rw [hro]; walk_at "sub")
      have offro : ∀ q ∈ ro, q.1 ≠ nl := fun q hq => by
        rw [hro] at hq
        rcases List.mem_cons.mp hq with rfl | hq
        · exact (off6 (nl, listOf nvs.toArray e2) (ledS_split.mpr (.inr (.tail _ (.tail _ (.head _)))))).symm
        rcases inL q hq with h | h
        · exact fun e => sok.off _ h (nl, listOf nvs.toArray e2) (.tail _ (.tail _ (.head _))) e.symm
        rcases List.mem_cons.mp h with rfl | h
        · k_ne
        · exact offn q h
      have offrx : ∀ q ∈ ro, q.1 ≠ L + 1 + 1 := fun q hq => by
        rw [hro] at hq
        rcases List.mem_cons.mp hq with rfl | hq
        · exact (off6 (L + 1 + 1, cx) (ledS_split.mpr (.inr (.head _)))).symm
        rcases inL q hq with h | h
        · exact fun e => sok.off _ h (L + 1 + 1, cx) (.head _) e.symm
        rcases List.mem_cons.mp h with rfl | h
        · k_ne
        · exact offx q h
      clear N6
      subst hmT
      (repeat' (((fail_if_success with_reducible first | show wpAny _ _ (call (Value.ref _) _ _) _ _ _ | show wpAny _ _ (exec (Stmt.For _ _ _ _ _) _) _ _ _ | show wpAny _ _ (exec (Stmt.While _ _ _ _) _) _ _ _ | show wpAny _ _ (pyIter _) _ _ _)); (fail_if_success with_reducible first | show wpAny _ _ (exec (Stmt.If _ _ _ _) _) _ _ _); ((fail_if_success with_reducible first | show wpAny _ _ (subscriptTail _ _ _ _) _ _ _)); ((first | (k_unfold; (try dsimp only)) | (k_end; wrow_close) | walk1 | (dsimp only; walk1) | (leave1; walk_say "STEP leave1"; try dsimp only) | fail "no step"))))
      refine wpAny_For ?_
      (repeat' (((fail_if_success with_reducible first | show wpAny _ _ (call (Value.ref _) _ _) _ _ _ | show wpAny _ _ (exec (Stmt.For _ _ _ _ _) _) _ _ _ | show wpAny _ _ (exec (Stmt.While _ _ _ _) _) _ _ _ | show wpAny _ _ (pyIter _) _ _ _)); (fail_if_success with_reducible first | show wpAny _ _ (exec (Stmt.If _ _ _ _) _) _ _ _); ((fail_if_success with_reducible first | show wpAny _ _ (subscriptTail _ _ _ _) _ _ _)); ((first | (k_unfold; (try dsimp only)) | (k_end; wrow_close) | walk1 | (dsimp only; walk1) | (leave1; walk_say "STEP leave1"; try dsimp only) | fail "no step"))))
      rename _ ∧ _ ∧ AllLt _ ro => l7
      rename Addr => Tx
      rename Fr _ _ _ _ => F8
      rename News _ _ _ _ => N8
      obtain ⟨mT, hmT⟩ : ∃ mT, mT = (fun y => if y = Str.ofString "b" then some (Value.int b tb) else if y = Str.ofString "a" then some (Value.int a ta) else if y = Str.ofString "k" then some (.int (0 + (i : Int) * 2) t) else if [Str.ofString "k", Str.ofString "a", Str.ofString "b"].contains y then u1 y else mLaw sl σ.S nl y) := ⟨_, rfl⟩
      rw [← hmT] at F8
      have l70 : @LT.lt Nat _ (L + 1 + 1) Tx := l7.1
      have l71 : @LT.lt Nat _ nl Tx := l7.2.1
      have l72 : ∀ q ∈ ro, @LT.lt Nat _ q.1 Tx := allLt_mem l7.2.2
      have hnl := keys_len (trips ns i)
      refine for_tup (vs := [Value.int b tb, Value.int a ta]) (ep := 0) (l := Tx) (fun j m nx => m = mT ∧ E4 fun nvs' e2' cx' vx' => A4 (nx = (Tx, tupOf #[Value.int b tb, Value.int a ta] 0) :: (L + 1 + 1, cx') :: (nl, listOf nvs'.toArray e2') :: ro) (cx'.data = .cell vx') ((∀ v ∈ nvs', IsI v)) (nvs'.map intOf = ([b, a].take j).foldl ensN (keysP (trips ns i)))) rfl F8 N8 ?_ ⟨rfl, nvs, e2, cx, vx, rfl, hcx, nvi, nve⟩ ?_ ?_
      · rintro j m nx ⟨_, nvs', e2', cx', vx', rfl, _⟩; exact .head _
      · intro j v m₂ nx h9 tk9 I2 oI2 hv hI0 off2 F9 N9
        refine hide fun G hG => ?_
        obtain ⟨rfl, nvs2, e22, cx2, vx2, rfl, hcx2, nvi2, nve2⟩ := hI0
        refine hG ?_
        clear hG G
        obtain ⟨x, tx, rfl, hx⟩ : ∃ x tx, v = .int x tx ∧ [b, a][j]? = some x := by
          match j, hv with
          | 0, hv => cases hv; exact ⟨_, _, rfl, rfl⟩
          | 1, hv => cases hv; exact ⟨_, _, rfl, rfl⟩
        have hlen2 : nvs2.length ≤ 2 * i + 2 := by
          have h1 := congrArg List.length nve2
          have h2 : (([b, a].take j).foldl ensN (keysP (trips ns i))).length ≤ (keysP (trips ns i)).length + 2 := by
            match j with
            | 0 => simp
            | 1 => have := ens_len (keysP (trips ns i)) b; simp only [List.take_succ_cons, List.take_zero, List.foldl_cons, List.foldl_nil]; omega
            | _ + 2 => have := ens_len (ensN (keysP (trips ns i)) b) a; have := ens_len (keysP (trips ns i)) b; simp only [List.take_succ_cons, List.take_nil, List.foldl_cons, List.foldl_nil]; omega
          simp only [List.length_map] at h1
          omega
        refine turn_name ?_
        clear F8 N8
        have hIx : @Ne Nat I2 (L + 1 + 1) := (off2 (L + 1 + 1, cx2) (.tail _ (.head _))).symm
        have hIn : @Ne Nat I2 nl := (off2 (nl, listOf nvs2.toArray e22) (.tail _ (.tail _ (.head _)))).symm
        subst hmT
        obtain ⟨ro2, hro2⟩ : ∃ ro2, ro2 = (I2, oI2) :: (Tx, tupOf #[Value.int b tb, Value.int a ta] 0) :: ro := ⟨_, rfl⟩
        have hd2 : ∀ q ∈ ro2, q.1 ≠ nl := fun q hq => by
          rw [hro2] at hq
          rcases List.mem_cons.mp hq with rfl | hq
          · exact hIn
          rcases List.mem_cons.mp hq with rfl | hq
          · k_ne
          · exact offro q hq
        have hdx : ∀ q ∈ ro2, q.1 ≠ L + 1 + 1 := fun q hq => by
          rw [hro2] at hq
          rcases List.mem_cons.mp hq with rfl | hq
          · exact hIx
          rcases List.mem_cons.mp hq with rfl | hq
          · k_ne
          · exact offrx q hq
        have N10 : News h₀ L h9 ((L + 1 + 1, cx2) :: (nl, listOf nvs2.toArray e22) :: ro2) := News.sub N9 (by rw [hro2]; walk_at "sub")
        clear N9
        (repeat' (((fail_if_success with_reducible first | show wpAny _ _ (call (Value.ref _) _ _) _ _ _ | show wpAny _ _ (exec (Stmt.For _ _ _ _ _) _) _ _ _ | show wpAny _ _ (exec (Stmt.While _ _ _ _) _) _ _ _ | show wpAny _ _ (pyIter _) _ _ _)); (fail_if_success with_reducible first | show wpAny _ _ (compareOp _ _ _) _ _ _); ((fail_if_success with_reducible first | show wpAny _ _ (subscriptTail _ _ _ _) _ _ _)); ((first | (k_unfold; (try dsimp only)) | (k_end; wrow_close) | walk1 | (dsimp only; walk1) | (leave1; walk_say "STEP leave1"; try dsimp only) | fail "no step"))))
        rename _ = Data.cell (some (.int x tx)) => hcx3
        rename Obj => cx3
        rename News _ _ _ _ => N11
        refine notin_list_ints (News.isList N11 (.tail _ (.head _))) (intsAre_of nvi2) ?_
        have hmem2 : ∀ o q, q ∈ (I2, oI2) :: (Tx, tupOf #[Value.int b tb, Value.int a ta] 0) :: (L + 1 + 1, cx3) :: (nl, o) :: ro → q ∈ (L + 1 + 1, cx3) :: (nl, o) :: ro2 := fun o q hq => by
          rw [hro2]
          simp only [List.mem_cons] at hq ⊢
          rcases hq with h | h | h | h | h
          · exact .inr (.inr (.inl h))
          · exact .inr (.inr (.inr (.inl h)))
          · exact .inl h
          · exact .inr (.inl h)
          · exact .inr (.inr (.inr (.inr h)))
        have hoff2 : ∀ o, ∀ q ∈ (Tx, tupOf #[Value.int b tb, Value.int a ta] 0) :: (L + 1 + 1, cx3) :: (nl, o) :: ro, q.1 ≠ I2 := fun o q hq => by
          rcases List.mem_cons.mp hq with rfl | hq
          · exact off2 (Tx, tupOf #[Value.int b tb, Value.int a ta] 0) (.head _)
          rcases List.mem_cons.mp hq with rfl | hq
          · exact hIx.symm
          rcases List.mem_cons.mp hq with rfl | hq
          · exact hIn.symm
          · exact off2 q (.tail _ (.tail _ (.tail _ hq)))
        have htk : [b, a].take (j + 1) = [b, a].take j ++ [x] := by rw [List.take_add_one, hx]; rfl
        (repeat' (((fail_if_success with_reducible first | show wpAny _ _ (call (Value.ref _) _ _) _ _ _ | show wpAny _ _ (exec (Stmt.For _ _ _ _ _) _) _ _ _ | show wpAny _ _ (exec (Stmt.While _ _ _ _) _) _ _ _ | show wpAny _ _ (pyIter _) _ _ _)); (fail_if_success with_reducible first | show wpAny _ _ (compareOp _ _ _) _ _ _); ((fail_if_success with_reducible first | show wpAny _ _ (subscriptTail _ _ _ _) _ _ _)); ((first | (k_unfold; (try dsimp only)) | (k_end; wrow_close) | walk1 | (dsimp only; walk1) | (leave1; walk_say "STEP leave1"; try dsimp only) | fail "no step"))))
        · rename _ = true => hin
          refine ⟨_, _, _, _, rfl, by assumption, News.sub (by assumption) (hmem2 _), hoff2 _, rfl, nvs2, e22, cx3, _, rfl, hcx3, nvi2, ?_⟩
          rw [htk, List.foldl_append, ← nve2]
          simp only [List.foldl_cons, List.foldl_nil, ensN, hin, if_true]
        · rename _ = false => hin
          rename News _ _ _ _ => N12
          rw [List.push_toArray] at N12
          refine ⟨_, _, _, _, rfl, by assumption, News.sub N12 (hmem2 _), hoff2 _, rfl, nvs2 ++ [.int x tx], e22 + 1, cx3, _, rfl, hcx3, ?_, ?_⟩
          · intro v hv
            rcases List.mem_append.mp hv with h | h
            · exact nvi2 v h
            · rw [List.mem_singleton.mp h]; exact ⟨_, _, rfl⟩
          · rw [htk, List.foldl_append, ← nve2]
            simp only [List.foldl_cons, List.foldl_nil, ensN, hin, Bool.false_eq_true, if_false, List.map_append, List.map_cons, List.map_nil, intOf]
      · intro m₂ nx h9 tk9 hI0 F9 N9
        refine hide fun G hG => ?_
        obtain ⟨rfl, nvs2, e22, cx2, vx2, rfl, hcx2, nvi2, nve2⟩ := hI0
        refine hG ?_
        clear hG G
        (repeat' (((fail_if_success with_reducible first | show wpAny _ _ (call (Value.ref _) _ _) _ _ _ | show wpAny _ _ (exec (Stmt.For _ _ _ _ _) _) _ _ _ | show wpAny _ _ (exec (Stmt.While _ _ _ _) _) _ _ _ | show wpAny _ _ (pyIter _) _ _ _)); (fail_if_success with_reducible first | show wpAny _ _ (exec (Stmt.If _ _ _ _) _) _ _ _); ((fail_if_success with_reducible first | show wpAny _ _ (subscriptTail _ _ _ _) _ _ _)); ((first | (k_unfold; (try dsimp only)) | (k_end; wrow_close) | walk1 | (dsimp only; walk1) | (leave1; walk_say "STEP leave1"; try dsimp only) | fail "no step"))))
        have hA3 : Agr [Str.ofString "k", Str.ofString "a", Str.ofString "b"] (mLaw sl σ.S nl) m₂ := by
          rw [hmT]
          exact Agr.put rfl (Agr.put rfl (Agr.put rfl Agr.base))
        have hro' : ∀ o q, q ∈ (I, oI) :: ledS σ w .none (.int 0 t1) (.int 0 t2) oN6 xs6 ((L + 1 + 1, cx2) :: (wl, listOf (refL ts6).toArray e16) :: (nl, o) :: (tupL ts6 ++ cells)) → q ∈ (Tx, tupOf #[Value.int b tb, Value.int a ta] 0) :: (L + 1 + 1, cx2) :: (nl, o) :: ro := fun o q hq => by
          rw [hro]
          rcases List.mem_cons.mp hq with rfl | hq
          · exact .tail _ (.tail _ (.tail _ (.head _)))
          rcases ledS_split.mp hq with h | h
          · exact .tail _ (.tail _ (.tail _ (.tail _ (ledS_split.mpr (.inl h)))))
          rcases List.mem_cons.mp h with rfl | h
          · exact .tail _ (.head _)
          rcases List.mem_cons.mp h with rfl | h
          · exact .tail _ (.tail _ (.tail _ (.tail _ (ledS_split.mpr (.inr (.head _))))))
          rcases List.mem_cons.mp h with rfl | h
          · exact .tail _ (.tail _ (.head _))
          · exact .tail _ (.tail _ (.tail _ (.tail _ (ledS_split.mpr (.inr (.tail _ h))))))
        have hput : ∀ o, ∀ q ∈ (L + 1 + 1, cx2) :: (wl, listOf (refL ts6).toArray e16) :: (nl, o) :: (tupL ts6 ++ cells), ∃ q' ∈ (L + 1 + 1, cx) :: (wl, listOf (refL ts6).toArray e16) :: (nl, listOf nvs.toArray e2) :: (tupL ts6 ++ cells), q'.1 = q.1 := fun o q hq => by
          rcases List.mem_cons.mp hq with rfl | hq
          · exact ⟨_, .head _, rfl⟩
          rcases List.mem_cons.mp hq with rfl | hq
          · exact ⟨_, .tail _ (.head _), rfl⟩
          rcases List.mem_cons.mp hq with rfl | hq
          · exact ⟨_, .tail _ (.tail _ (.head _)), rfl⟩
          · exact ⟨q, .tail _ (.tail _ (.tail _ hq)), rfl⟩
        refine ⟨_, _, _, _, rfl, F9, News.sub N9 (hro' _), ?_, hA3, oN6, xs6, ts6, nvs2, e16, e22, cx2, rfl, sok.sub (hput _), dic, pn, tup, nvi2, ?_, ⟨_, hcx2⟩, offx, offw, offn, offc⟩
        · intro q hq
          rcases ledS_split.mp hq with h | h
          · exact off6 q (ledS_split.mpr (.inl h))
          · obtain ⟨q', h1, h2⟩ := hput _ q h
            rw [← h2]; exact off6 q' (ledS_split.mpr (.inr h1))
        · rw [nve2, trips_succ, keysP_snoc, ha, hb]; rfl
  · intro m₁ nx h tk hI0 F' N'
    refine hide fun G hG => ?_
    obtain ⟨hA, oN', xs, ts, nvs, e1', e2', cx', bi'⟩ := hI0
    refine hG ?_
    clear hG G
    exact hq (ns.length / 2) h tk m₁ oN' xs ts nvs e1' e2' cx' nx (by omega) hA bi' F' N'
end
end
section
set_option maxHeartbeats 8000000
theorem frag_on32 : (fun (_ : Params → Frag) => PySem.Challenge.rw_cy0005_01.Holds) KF → True := by
  k_fill
  intro _; trivial
open PySem.Calls PyProof.Rows.TI PyProof.Rows.LCg
theorem predE_take {E : List (Int × Int)} {x : Int} {j : Nat} {t : Int × Int} (h : E[j]? = some t) : predE (E.take (j + 1)) x = predE (E.take j) x ++ if t.2 = x then [t.1] else [] := by
  unfold predE
  rw [List.take_add_one, h, List.filterMap_append]
  by_cases e : t.2 = x <;> simp [e]
section
variable {w : World} {A₀ A : Around} {base h₀ : Heap} {L fa : Addr} {cv : Value} {m mg mb : Str → Option Value} {p : Program} {loose : List Str} {mean : ExcName → Option Value} {s : Shared}
  {Q : Flow → Shared → Prop} {E : Value → Shared → Prop}
/-- the nodes without predecessors -/
theorem l_due {c1 cx c3 : Obj} {S sl wl nl : Addr} {nvs : List Value} {K : List Int} {ts : List (Addr × List Value)} {W : List (Int × Int)} {rest : List (Addr × Obj)} {e1 e2 : Nat} {u : Str → Option Value} {v3 : Option Value}
    (hh : A.handled = none) (hfr : A.frames = some [lawE L fa cv]) (hdp : A.depth < 600) (hun : A.units ≤ 50) (B : Below A₀ base [] h₀) (X₀ : (KF w.params).In h₀) (T : Top p loose mean mg mb h₀)
    (F : Fr h₀ L s.heap (fun y => if [Str.ofString "k", Str.ofString "a", Str.ofString "b"].contains y then u y else mLaw sl S nl y)) (N : News h₀ L s.heap ((L + 1 + 1 + 1, c3) :: (L + 1, c1) :: (L + 1 + 1, cx) :: (nl, listOf nvs.toArray e2) :: rest))
    (hc1 : c1.data = .cell (some (.ref wl))) (hc3 : c3.data = .cell v3) (hnv : ∀ v ∈ nvs, IsI v) (hne : nvs.map intOf = K) (hnl : K.length ≤ 100) (hts : TupsAre ts W) (htl : ts.length ≤ 100) (hwr : (wl, listOf (refL ts).toArray e1) ∈ rest) (htr : ∀ q ∈ tupL ts, q ∈ rest)
    (oc3 : ∀ q ∈ (L + 1, c1) :: (L + 1 + 1, cx) :: (nl, listOf nvs.toArray e2) :: rest, q.1 ≠ L + 1 + 1 + 1)
    (hq : ∀ h' tk' c3' D ys, c3'.data = .cell (some (.ref D)) → (∀ v ∈ ys, IsI v) → ys.map intOf = K.filter (fun x => decide (predE W x = [])) → (∀ q ∈ (L + 1 + 1 + 1, c3) :: (L + 1, c1) :: (L + 1 + 1, cx) :: (nl, listOf nvs.toArray e2) :: rest, q.1 < D) →
      Fr h₀ L h' (fun y => if [Str.ofString "k", Str.ofString "a", Str.ofString "b"].contains y then u y else mLaw sl S nl y) → News h₀ L h' ((D, lst ys) :: (L + 1 + 1 + 1, c3') :: (L + 1, c1) :: (L + 1 + 1, cx) :: (nl, listOf nvs.toArray e2) :: rest) → Q .next { s with heap := h', toks := tk' }) :
    wpAny (model Pr w) A (exec (lawSt 4) (lawE L fa cv)) Q E s := by
  obtain ⟨_, d, _, gs, un⟩ := A
  dsimp only at hh hfr hdp hun
  subst hh hfr
  conv in (lawSt 4) => whnf
  conv in (occs := *) (lawE L fa cv) => all_goals unfold lawE
  conv in (occs := *) lawS => all_goals whnf
  obtain ⟨mm, hmm⟩ : ∃ mm, mm = (fun y => if [Str.ofString "k", Str.ofString "a", Str.ofString "b"].contains y then u y else mLaw sl S nl y) := ⟨_, rfl⟩
  have hnvl : nvs.length = K.length := by rw [← hne]; simp
  have hcN : ∀ j x, K[j]? = some x → K.take (j + 1) = K.take j ++ [x] := fun j x h => by rw [List.take_add_one, h]; rfl
  have hxN : ∀ j v, nvs[j]? = some v → ∃ x t, v = Value.int x t ∧ K[j]? = some x := fun j v hv => by
    obtain ⟨x, t, rfl⟩ := hnv v (List.mem_of_getElem? hv)
    have : K[j]? = some x := by rw [← hne, List.getElem?_map, hv]; rfl
    exact ⟨x, t, rfl, this⟩
  (repeat' (((fail_if_success with_reducible first | show wpAny _ _ (call (Value.ref _) _ _) _ _ _ | show wpAny _ _ (exec (Stmt.For _ _ _ _ _) _) _ _ _ | show wpAny _ _ (exec (Stmt.While _ _ _ _) _) _ _ _ | show wpAny _ _ (pyIter _) _ _ _)); ((fail_if_success with_reducible first | show wpAny _ _ (eval (PySem.Expr.ListComp _ _ _ _) _) _ _ _)); ((fail_if_success with_reducible first | show wpAny _ _ (subscriptTail _ _ _ _) _ _ _)); (fail_if_success with_reducible first | show wpAny _ _ (compareOp _ _ _) _ _ _); ((first | (k_unfold; (try dsimp only)) | (k_end; wrow_close) | walk1 | (dsimp only; walk1) | (leave1; walk_say "STEP leave1"; try dsimp only) | fail "no step"))))
  refine compX F (by with_unfolding_all rfl) rfl (by decide) (fun _ => rfl) (fun _ => rfl) rfl ?_
  (repeat' (((fail_if_success with_reducible first | show wpAny _ _ (call (Value.ref _) _ _) _ _ _ | show wpAny _ _ (exec (Stmt.For _ _ _ _ _) _) _ _ _ | show wpAny _ _ (exec (Stmt.While _ _ _ _) _) _ _ _ | show wpAny _ _ (pyIter _) _ _ _)); ((fail_if_success with_reducible first | show wpAny _ _ (eval (PySem.Expr.ListComp _ _ _ _) _) _ _ _)); ((fail_if_success with_reducible first | show wpAny _ _ (subscriptTail _ _ _ _) _ _ _)); (fail_if_success with_reducible first | show wpAny _ _ (compareOp _ _ _) _ _ _); ((first | (k_unfold; (try dsimp only)) | (k_end; wrow_close) | walk1 | (dsimp only; walk1) | (leave1; walk_say "STEP leave1"; try dsimp only) | fail "no step"))))
  refine cx_list (vs := nvs) (ep := e2) (fun j ys => (∀ v ∈ ys, IsI v) ∧ ys.map intOf = (K.take j).filter fun x => decide (predE W x = [])) rfl F N (.tail _ (.tail _ (.tail _ (.head _)))) (by rw [sizeLine_eq]; omega) ⟨fun _ h => (nomatch h), rfl⟩ ?_ ?_
  · clear hq
    intro j v ys I oI C oC X oX D m₂ h5 tk5 E' hv hJ hC hX F5 N5 l1 l2 l3
    clear F N
    obtain ⟨x, tx, rfl, hxi⟩ := hxN j v hv
    have hyes : predE W x = [] → ∀ t, (∀ v ∈ ys ++ [Value.int x t], IsI v) ∧ (ys ++ [Value.int x t]).map intOf = (K.take (j + 1)).filter fun x => decide (predE W x = []) := fun hf t => ⟨fun v hv => by
      rcases List.mem_append.mp hv with h | h
      · exact hJ.1 v h
      · rw [List.mem_singleton.mp h]; exact ⟨_, _, rfl⟩, by rw [hcN j x hxi, List.filter_append, List.map_append, hJ.2]; simp [hf, intOf]⟩
    have hno : predE W x ≠ [] → (∀ v ∈ ys, IsI v) ∧ ys.map intOf = (K.take (j + 1)).filter fun x => decide (predE W x = []) := fun hf => ⟨hJ.1, by rw [hcN j x hxi, List.filter_append, hJ.2]; simp [hf]⟩
    clear hJ
    refine wpAny_tests_one ?_
    (repeat' (((fail_if_success with_reducible first | show wpAny _ _ (call (Value.ref _) _ _) _ _ _ | show wpAny _ _ (exec (Stmt.For _ _ _ _ _) _) _ _ _ | show wpAny _ _ (exec (Stmt.While _ _ _ _) _) _ _ _ | show wpAny _ _ (pyIter _) _ _ _)); ((fail_if_success with_reducible first | show wpAny _ _ (eval (PySem.Expr.ListComp _ _ _ _) _) _ _ _)); ((fail_if_success with_reducible first | show wpAny _ _ (subscriptTail _ _ _ _) _ _ _)); (fail_if_success with_reducible first | show wpAny _ _ (compareOp _ _ _) _ _ _); ((first | (k_unfold; (try dsimp only)) | (k_end; wrow_close) | walk1 | (dsimp only; walk1) | (leave1; walk_say "STEP leave1"; try dsimp only) | fail "no step"))))
    refine comp_genF F5 (by with_unfolding_all rfl) (by decide) rfl (by decide) ?_
    (repeat' (((fail_if_success with_reducible first | show wpAny _ _ (call (Value.ref _) _ _) _ _ _ | show wpAny _ _ (exec (Stmt.For _ _ _ _ _) _) _ _ _ | show wpAny _ _ (exec (Stmt.While _ _ _ _) _) _ _ _ | show wpAny _ _ (pyIter _) _ _ _)); ((fail_if_success with_reducible first | show wpAny _ _ (eval (PySem.Expr.ListComp _ _ _ _) _) _ _ _)); ((fail_if_success with_reducible first | show wpAny _ _ (subscriptTail _ _ _ _) _ _ _)); (fail_if_success with_reducible first | show wpAny _ _ (compareOp _ _ _) _ _ _); ((first | (k_unfold; (try dsimp only)) | (k_end; wrow_close) | walk1 | (dsimp only; walk1) | (leave1; walk_say "STEP leave1"; try dsimp only) | fail "no step"))))
    refine cw_two (ts := ts) (ep := e1) (fun j zs => (∀ v ∈ zs, IsI v) ∧ zs.map intOf = predE (W.take j) x) rfl F5 N5 (.tail _ (.tail _ (.tail _ (.tail _ (.tail _ (.tail _ (.tail _ (.tail _ hwr)))))))) (fun q hq => .tail _ (.tail _ (.tail _ (.tail _ (.tail _ (.tail _ (.tail _ (.tail _ (htr q hq))))))))) hts.two (by omega) ⟨fun _ h => (nomatch h), rfl⟩ (fun _ => rfl) (fun _ => rfl) rfl (by decide) ?_ ?_
    · intro j2 T' vx vy zs I2 oI2 C2 oC2 D2 m3 h6 tk6 E2 htj hJ2 hC2 ha hb F6 N6 o33 ne33
      clear F5 N5 hyes hno
      refine hide fun G hG => ?_
      obtain ⟨⟨wa, wb⟩, p1, p2, hwi, hte⟩ := hts.get htj
      refine hG ?_
      clear hG G
      cases hte
      have htk := predE_take (x := x) hwi
      dsimp only at htk
      have hno : wb ≠ x → (∀ v ∈ zs, IsI v) ∧ zs.map intOf = predE (W.take (j2 + 1)) x := fun hv => ⟨hJ2.1, by rw [htk, if_neg hv, List.append_nil]; exact hJ2.2⟩
      have hyes : wb = x → ∀ t, (∀ v ∈ zs ++ [Value.int wa t], IsI v) ∧ (zs ++ [Value.int wa t]).map intOf = predE (W.take (j2 + 1)) x := fun hv t => ⟨fun v hv => by
        rcases List.mem_append.mp hv with h | h
        · exact hJ2.1 v h
        · rw [List.mem_singleton.mp h]; exact ⟨_, _, rfl⟩, by rw [htk, if_pos hv, List.map_append, hJ2.2]; rfl⟩
      refine wpAny_tests_one ?_
      (repeat' (((fail_if_success with_reducible first | show wpAny _ _ (call (Value.ref _) _ _) _ _ _ | show wpAny _ _ (exec (Stmt.For _ _ _ _ _) _) _ _ _ | show wpAny _ _ (exec (Stmt.While _ _ _ _) _) _ _ _ | show wpAny _ _ (pyIter _) _ _ _)); ((fail_if_success with_reducible first | show wpAny _ _ (eval (PySem.Expr.ListComp _ _ _ _) _) _ _ _)); ((fail_if_success with_reducible first | show wpAny _ _ (subscriptTail _ _ _ _) _ _ _)); (fail_if_success with_reducible first | show wpAny _ _ (compareOp _ _ _) _ _ _); ((first | (k_unfold; (try dsimp only)) | (k_end; wrow_close) | walk1 | (dsimp only; walk1) | (leave1; walk_say "STEP leave1"; try dsimp only) | fail "no step"))))
      by_cases hbx : wb = x
      · refine eqt hbx ?_
        (repeat' (((fail_if_success with_reducible first | show wpAny _ _ (call (Value.ref _) _ _) _ _ _ | show wpAny _ _ (exec (Stmt.For _ _ _ _ _) _) _ _ _ | show wpAny _ _ (exec (Stmt.While _ _ _ _) _) _ _ _ | show wpAny _ _ (pyIter _) _ _ _)); ((fail_if_success with_reducible first | show wpAny _ _ (eval (PySem.Expr.ListComp _ _ _ _) _) _ _ _)); ((fail_if_success with_reducible first | show wpAny _ _ (subscriptTail _ _ _ _) _ _ _)); (fail_if_success with_reducible first | show wpAny _ _ (compareOp _ _ _) _ _ _); ((first | (k_unfold; (try dsimp only)) | (k_end; wrow_close) | walk1 | (dsimp only; walk1) | (leave1; walk_say "STEP leave1"; try dsimp only) | fail "no step"))))
        exact ⟨_, _, rfl, F6, N6, hyes hbx _⟩
      · refine eqf hbx ?_
        (repeat' (((fail_if_success with_reducible first | show wpAny _ _ (call (Value.ref _) _ _) _ _ _ | show wpAny _ _ (exec (Stmt.For _ _ _ _ _) _) _ _ _ | show wpAny _ _ (exec (Stmt.While _ _ _ _) _) _ _ _ | show wpAny _ _ (pyIter _) _ _ _)); ((fail_if_success with_reducible first | show wpAny _ _ (eval (PySem.Expr.ListComp _ _ _ _) _) _ _ _)); ((fail_if_success with_reducible first | show wpAny _ _ (subscriptTail _ _ _ _) _ _ _)); (fail_if_success with_reducible first | show wpAny _ _ (compareOp _ _ _) _ _ _); ((first | (k_unfold; (try dsimp only)) | (k_end; wrow_close) | walk1 | (dsimp only; walk1) | (leave1; walk_say "STEP leave1"; try dsimp only) | fail "no step"))))
        exact ⟨_, _, rfl, F6, N6, hno hbx⟩
    · intro D2 zs h6 tk6 hJ2 hzl F6 N6 hlt6
      clear F5 N5
      rw [List.take_of_length_le (Nat.le_of_eq hts.len.symm)] at hJ2
      (repeat' (((fail_if_success with_reducible first | show wpAny _ _ (call (Value.ref _) _ _) _ _ _ | show wpAny _ _ (exec (Stmt.For _ _ _ _ _) _) _ _ _ | show wpAny _ _ (exec (Stmt.While _ _ _ _) _) _ _ _ | show wpAny _ _ (pyIter _) _ _ _)); ((fail_if_success with_reducible first | show wpAny _ _ (eval (PySem.Expr.ListComp _ _ _ _) _) _ _ _)); ((fail_if_success with_reducible first | show wpAny _ _ (subscriptTail _ _ _ _) _ _ _)); (fail_if_success with_reducible first | show wpAny _ _ (compareOp _ _ _) _ _ _); ((first | (k_unfold; (try dsimp only)) | (k_end; wrow_close) | walk1 | (dsimp only; walk1) | (leave1; walk_say "STEP leave1"; try dsimp only) | fail "no step"))))
      rename News _ _ _ _ => N7
      rename Fr _ _ _ _ => F7
      refine ke_eq_ints (xs := zs) (ys := []) (News.isList N7 (show (D2, lst zs) ∈ _ by walk_at "elem")) (News.isList N7 (.head _)) (intsAre_of hJ2.1) .nil (u64 hun) ?_
      rw [hJ2.2]
      cases hfe : decide (predE W x = [])
      · (repeat' (((fail_if_success with_reducible first | show wpAny _ _ (call (Value.ref _) _ _) _ _ _ | show wpAny _ _ (exec (Stmt.For _ _ _ _ _) _) _ _ _ | show wpAny _ _ (exec (Stmt.While _ _ _ _) _) _ _ _ | show wpAny _ _ (pyIter _) _ _ _)); ((fail_if_success with_reducible first | show wpAny _ _ (eval (PySem.Expr.ListComp _ _ _ _) _) _ _ _)); ((fail_if_success with_reducible first | show wpAny _ _ (subscriptTail _ _ _ _) _ _ _)); (fail_if_success with_reducible first | show wpAny _ _ (compareOp _ _ _) _ _ _); ((first | (k_unfold; (try dsimp only)) | (k_end; wrow_close) | walk1 | (dsimp only; walk1) | (leave1; walk_say "STEP leave1"; try dsimp only) | fail "no step"))))
        exact ⟨_, _, rfl, F7, News.sub N7 (by walk_at "sub"), hno (of_decide_eq_false hfe)⟩
      · (repeat' (((fail_if_success with_reducible first | show wpAny _ _ (call (Value.ref _) _ _) _ _ _ | show wpAny _ _ (exec (Stmt.For _ _ _ _ _) _) _ _ _ | show wpAny _ _ (exec (Stmt.While _ _ _ _) _) _ _ _ | show wpAny _ _ (pyIter _) _ _ _)); ((fail_if_success with_reducible first | show wpAny _ _ (eval (PySem.Expr.ListComp _ _ _ _) _) _ _ _)); ((fail_if_success with_reducible first | show wpAny _ _ (subscriptTail _ _ _ _) _ _ _)); (fail_if_success with_reducible first | show wpAny _ _ (compareOp _ _ _) _ _ _); ((first | (k_unfold; (try dsimp only)) | (k_end; wrow_close) | walk1 | (dsimp only; walk1) | (leave1; walk_say "STEP leave1"; try dsimp only) | fail "no step"))))
        exact ⟨_, _, rfl, F7, News.sub N7 (by walk_at "sub"), hyes (of_decide_eq_true hfe) _⟩
  · intro D ys h6 tk6 hJ hyl F6 N6 hlt6
    clear F N
    rw [hnvl, List.take_length] at hJ
    have q3 : @LT.lt Nat _ (L + 1 + 1 + 1) D := hlt6 (L + 1 + 1 + 1, c3) (.head _)
    (repeat' (((fail_if_success with_reducible first | show wpAny _ _ (call (Value.ref _) _ _) _ _ _ | show wpAny _ _ (exec (Stmt.For _ _ _ _ _) _) _ _ _ | show wpAny _ _ (exec (Stmt.While _ _ _ _) _) _ _ _ | show wpAny _ _ (pyIter _) _ _ _)); ((fail_if_success with_reducible first | show wpAny _ _ (eval (PySem.Expr.ListComp _ _ _ _) _) _ _ _)); ((fail_if_success with_reducible first | show wpAny _ _ (subscriptTail _ _ _ _) _ _ _)); (fail_if_success with_reducible first | show wpAny _ _ (compareOp _ _ _) _ _ _); ((first | (k_unfold; (try dsimp only)) | (k_end; wrow_close) | walk1 | (dsimp only; walk1) | (leave1; walk_say "STEP leave1"; try dsimp only) | fail "no step"))))
    rename News h₀ L _ _ => N9
    rename Fr _ _ _ _ => F9
    rename _ = Data.cell (some (.ref D)) => hc9
    exact hq _ _ _ D ys hc9 hJ.1 hJ.2 hlt6 F9 (News.sub N9 (by walk_at "sub"))
end
end
section
set_option maxHeartbeats 1000000
open PySem.Calls PyProof.Rows.TI PyProof.Rows.LCg
section
variable {prog : Program} {w : World} {A : Around} {E : Value → Shared → Prop} {s : Shared} {h₀ : Heap} {L : Addr} {m : Str → Option Value} {news : List (Addr × Obj)}
theorem kf_ints_of : ∀ {vs : List Value}, (∀ v ∈ vs, IsI v) → kf_ints vs = true
  | [], _ => rfl
  | v :: r, h => by
    obtain ⟨x, t, rfl⟩ := h v (.head _)
    exact kf_ints_of (vs := r) fun u hu => h u (.tail _ hu)
theorem kf_at_of {k : Int} : ∀ {vs : List Value}, (∀ v ∈ vs, IsI v) → k ∈ vs.map intOf → kf_at k vs = some ((vs.map intOf).idxOf k)
  | [], _, h => by cases h
  | v :: r, hi, h => by
    obtain ⟨x, t, rfl⟩ := hi v (.head _)
    unfold kf_at
    show cond (isInt k (.int x t)) _ _ = some ((x :: r.map intOf).idxOf k)
    rw [List.idxOf_cons]
    by_cases e : x = k
    · subst e
      rw [show isInt x (.int x t) = true by simp [isInt]]
      simp
    · rw [show isInt k (.int x t) = false by simp [isInt, e]]
      have hm : k ∈ r.map intOf := by
        rcases List.mem_cons.mp h with q | q
        · exact absurd q.symm e
        · exact q
      rw [kf_at_of (fun u hu => hi u (.tail _ hu)) hm]
      have : (x == k) = false := by simpa using e
      rw [this]; rfl
/-- list.index of an int, the list of the ledger -/
theorem index_led {l : Addr} {vs : List Value} {ep : Nat} {k : Int} {t : Tok} {Q : Value → Shared → Prop} (N : News h₀ L s.heap news) (hm : (l, listOf vs.toArray ep) ∈ news) (hi : ∀ v ∈ vs, IsI v) (hk : k ∈ vs.map intOf) (hz : vs.length ≤ 1000)
    (h : Q (.int ((vs.map intOf).idxOf k : Nat) s.toks) { s with toks := s.toks + 1 }) : wpAny (model prog w) A (call (.builtin "list.index") [.ref l, .int k t]) Q E s :=
  kf_index N hm (kf_ints_of hi) (kf_at_of hi hk) rfl (by rw [sizeLine_eq]; show vs.length ≤ _; omega) h
/-- two pairs of ints of the ledger -/
theorem eq_pair {a b : Addr} {x y x' y' : Int} {t u t' u' : Tok} {Q : Value → Shared → Prop} (N : News h₀ L s.heap news) (ma : (a, tupOf #[.int x t, .int y u] 0) ∈ news) (mb : (b, tupOf #[.int x' t', .int y' u'] 0) ∈ news) (hu : A.units + 64 < cLine)
    (h : Q (.bool (decide ((x, y) = (x', y')))) s) : wpAny (model prog w) A (compareOp .Eq (.ref a) (.ref b)) Q E s := by
  have ra : Reads s.heap (.ref a) (.tuple [.int x, .int y]) _ := reads_tuple_at (N.get ma) rfl rfl (.cons (Reads.int x t) (.cons (Reads.int y u) .nil))
  have rb : Reads s.heap (.ref b) (.tuple [.int x', .int y']) _ := reads_tuple_at (N.get mb) rfl rfl (.cons (Reads.int x' t') (.cons (Reads.int y' u') .nil))
  refine eq_dataH ra rb rfl rfl hu ?_
  have e : PyData.eqv (.tuple [.int x, .int y]) (.tuple [.int x', .int y']) = decide ((x, y) = (x', y')) := by
    rw [Bool.eq_iff_iff]
    simp [PyData.eqv, PyData.eqvAll]
  rw [e]; exact h
/-- the third of a triple of the ledger -/
theorem third_led {value slice : Expr} {T : Addr} {a b c : Value} {u : Tok} {Q : Value → Shared → Prop} (N : News h₀ L s.heap news) (hm : (T, tupOf #[a, b, c] 0) ∈ news) (h : Q c s)
    (hs : subscripted slice false (.ref T) (.int 2 u) = operate [.ref T, .int 2 u] (getItem (.ref T) (.int 2 u)) := by with_unfolding_all rfl) :
    wpAny (model prog w) A (subscriptTail value slice (.ref T) (.int 2 u)) Q E s := by
  exact item_tupleT (l := [a, b, c]) (News.isTup N hm) (by decide) (by decide) (j := 2) rfl rfl h hs
end
end
section
set_option maxHeartbeats 8000000
theorem frag_on33 : (fun (_ : Params → Frag) => PySem.Challenge.rw_cy0005_01.Holds) KF → True := by
  k_fill
  intro _; trivial
open PySem.Calls PyProof.Rows.TI PyProof.Rows.LCg
/-- the body of the law's while, and of the for in it -/
noncomputable def lawW (i : Nat) : Stmt := match lawSt 6 with
  | .While _ b _ _ => b.getD i (.Pass ⟨0, 0, 0, 0⟩)
  | _ => .Pass ⟨0, 0, 0, 0⟩
noncomputable def lawT (i : Nat) : Stmt := match lawW 1 with
  | .For _ _ b _ _ => b.getD i (.Pass ⟨0, 0, 0, 0⟩)
  | _ => .Pass ⟨0, 0, 0, 0⟩
theorem small1 {n : Nat} (h : n ≤ 100) : Builtin.Range.small 0 (n : Int) 1 = true := (by decide +kernel : ∀ n : Nat, n < 101 → Builtin.Range.small 0 (n : Int) 1 = true) n (Nat.lt_succ_of_le h)
theorem size1 {n : Nat} (h : n ≤ 100) : Builtin.Range.rangeSize 0 (n : Int) 1 = ((n : Nat) : Int) := (by decide +kernel : ∀ n : Nat, n < 101 → Builtin.Range.rangeSize 0 (n : Int) 1 = ((n : Nat) : Int)) n (Nat.lt_succ_of_le h)
section
variable {w : World} {A₀ A : Around} {base h₀ : Heap} {L fa : Addr} {cv : Value} {m mg mb : Str → Option Value} {p : Program} {loose : List Str} {mean : ExcName → Option Value} {s : Shared}
  {Q : Flow → Shared → Prop} {E : Value → Shared → Prop}
/-- before = [a for a, b in calls if b == x] -/
theorem l_before {c1 cx : Obj} {wl : Addr} {x : Int} {tx : Tok} {ts : List (Addr × List Value)} {W : List (Int × Int)} {rest : List (Addr × Obj)} {e1 : Nat}
    (hh : A.handled = none) (hfr : A.frames = some [lawE L fa cv]) (hdp : A.depth < 600) (hun : A.units ≤ 50) (X₀ : (KF w.params).In h₀) (T : Top p loose mean mg mb h₀)
    (F : Fr h₀ L s.heap m) (N : News h₀ L s.heap ((L + 1 + 1, cx) :: (L + 1, c1) :: rest)) (hcx : cx.data = .cell (some (.int x tx))) (hc1 : c1.data = .cell (some (.ref wl)))
    (hts : TupsAre ts W) (htl : ts.length ≤ 100) (hwr : (wl, listOf (refL ts).toArray e1) ∈ rest) (htr : ∀ q ∈ tupL ts, q ∈ rest)
    (hq : ∀ h' tk' D (zs : List Value), (∀ v ∈ zs, IsI v) → zs.map intOf = predE W x → zs.length ≤ 100 → (∀ q ∈ (L + 1 + 1, cx) :: (L + 1, c1) :: rest, q.1 < D) → Fr h₀ L h' (fun u => if u = Str.ofString "before" then some (.ref D) else m u) →
      News h₀ L h' ((D, lst zs) :: (L + 1 + 1, cx) :: (L + 1, c1) :: rest) → Q .next { s with heap := h', toks := tk' }) :
    wpAny (model Pr w) A (exec (lawT 0) (lawE L fa cv)) Q E s := by
  obtain ⟨_, d, _, gs, un⟩ := A
  dsimp only at hh hfr hdp hun
  subst hh hfr
  conv in (lawT 0) => whnf
  conv in (occs := *) (lawE L fa cv) => all_goals unfold lawE
  conv in (occs := *) lawS => all_goals whnf
  refine assign_comp F rfl (by with_unfolding_all rfl) (by with_unfolding_all rfl) (by decide) rfl (by decide) rfl rfl ?_
  (repeat' (((fail_if_success with_reducible first | show wpAny _ _ (call (Value.ref _) _ _) _ _ _ | show wpAny _ _ (exec (Stmt.For _ _ _ _ _) _) _ _ _ | show wpAny _ _ (exec (Stmt.While _ _ _ _) _) _ _ _ | show wpAny _ _ (pyIter _) _ _ _)); ((fail_if_success with_reducible first | show wpAny _ _ (eval (PySem.Expr.ListComp _ _ _ _) _) _ _ _)); ((fail_if_success with_reducible first | show wpAny _ _ (subscriptTail _ _ _ _) _ _ _)); (fail_if_success with_reducible first | show wpAny _ _ (exec (Stmt.Assign [PySem.Expr.Name _ _] (PySem.Expr.ListComp _ _ _ _) _) _) _ _ _ | show wpAny _ _ (compareOp _ _ _) _ _ _ | show wpAny _ _ (call (Value.builtin "max") _) _ _ _ | show wpAny _ _ (call (Value.builtin "list.index") _) _ _ _ | show wpAny _ _ (call (Value.builtin "len") _) _ _ _ | show wpAny _ _ (call (Value.builtin "list.append") _) _ _ _); ((first | (k_unfold; (try dsimp only)) | (k_end; wrow_close) | walk1 | (dsimp only; walk1) | (leave1; walk_say "STEP leave1"; try dsimp only) | fail "no step"))))
  rename News _ _ _ _ => N
  rename Fr _ _ _ _ => F
  refine cw_two (ts := ts) (ep := e1) (fun j zs => (∀ v ∈ zs, IsI v) ∧ zs.map intOf = predE (W.take j) x) rfl F N (.tail _ (.tail _ hwr)) (fun q hq => .tail _ (.tail _ (htr q hq))) hts.two (by omega) ⟨fun _ h => (nomatch h), rfl⟩ (fun _ => rfl) (fun _ => rfl) rfl (by decide) ?_ ?_
  · clear hq
    intro j2 T' vx vy zs I2 oI2 C2 oC2 D2 m3 h6 tk6 E2 htj hJ2 hC2 ha hb F6 N6 o33 ne33
    clear F N
    refine hide fun G hG => ?_
    obtain ⟨⟨wa, wb⟩, p1, p2, hwi, hte⟩ := hts.get htj
    refine hG ?_
    clear hG G
    cases hte
    have htk := predE_take (x := x) hwi
    dsimp only at htk
    have hno : wb ≠ x → (∀ v ∈ zs, IsI v) ∧ zs.map intOf = predE (W.take (j2 + 1)) x := fun hv => ⟨hJ2.1, by rw [htk, if_neg hv, List.append_nil]; exact hJ2.2⟩
    have hyes : wb = x → ∀ t, (∀ v ∈ zs ++ [Value.int wa t], IsI v) ∧ (zs ++ [Value.int wa t]).map intOf = predE (W.take (j2 + 1)) x := fun hv t => ⟨fun v hv => by
      rcases List.mem_append.mp hv with h | h
      · exact hJ2.1 v h
      · rw [List.mem_singleton.mp h]; exact ⟨_, _, rfl⟩, by rw [htk, if_pos hv, List.map_append, hJ2.2]; rfl⟩
    refine wpAny_tests_one ?_
    (repeat' (((fail_if_success with_reducible first | show wpAny _ _ (call (Value.ref _) _ _) _ _ _ | show wpAny _ _ (exec (Stmt.For _ _ _ _ _) _) _ _ _ | show wpAny _ _ (exec (Stmt.While _ _ _ _) _) _ _ _ | show wpAny _ _ (pyIter _) _ _ _)); ((fail_if_success with_reducible first | show wpAny _ _ (eval (PySem.Expr.ListComp _ _ _ _) _) _ _ _)); ((fail_if_success with_reducible first | show wpAny _ _ (subscriptTail _ _ _ _) _ _ _)); (fail_if_success with_reducible first | show wpAny _ _ (exec (Stmt.Assign [PySem.Expr.Name _ _] (PySem.Expr.ListComp _ _ _ _) _) _) _ _ _ | show wpAny _ _ (compareOp _ _ _) _ _ _ | show wpAny _ _ (call (Value.builtin "max") _) _ _ _ | show wpAny _ _ (call (Value.builtin "list.index") _) _ _ _ | show wpAny _ _ (call (Value.builtin "len") _) _ _ _ | show wpAny _ _ (call (Value.builtin "list.append") _) _ _ _); ((first | (k_unfold; (try dsimp only)) | (k_end; wrow_close) | walk1 | (dsimp only; walk1) | (leave1; walk_say "STEP leave1"; try dsimp only) | fail "no step"))))
    by_cases hbx : wb = x
    · refine eqt hbx ?_
      (repeat' (((fail_if_success with_reducible first | show wpAny _ _ (call (Value.ref _) _ _) _ _ _ | show wpAny _ _ (exec (Stmt.For _ _ _ _ _) _) _ _ _ | show wpAny _ _ (exec (Stmt.While _ _ _ _) _) _ _ _ | show wpAny _ _ (pyIter _) _ _ _)); ((fail_if_success with_reducible first | show wpAny _ _ (eval (PySem.Expr.ListComp _ _ _ _) _) _ _ _)); ((fail_if_success with_reducible first | show wpAny _ _ (subscriptTail _ _ _ _) _ _ _)); (fail_if_success with_reducible first | show wpAny _ _ (exec (Stmt.Assign [PySem.Expr.Name _ _] (PySem.Expr.ListComp _ _ _ _) _) _) _ _ _ | show wpAny _ _ (compareOp _ _ _) _ _ _ | show wpAny _ _ (call (Value.builtin "max") _) _ _ _ | show wpAny _ _ (call (Value.builtin "list.index") _) _ _ _ | show wpAny _ _ (call (Value.builtin "len") _) _ _ _ | show wpAny _ _ (call (Value.builtin "list.append") _) _ _ _); ((first | (k_unfold; (try dsimp only)) | (k_end; wrow_close) | walk1 | (dsimp only; walk1) | (leave1; walk_say "STEP leave1"; try dsimp only) | fail "no step"))))
      exact ⟨_, _, rfl, F6, N6, hyes hbx _⟩
    · refine eqf hbx ?_
      (repeat' (((fail_if_success with_reducible first | show wpAny _ _ (call (Value.ref _) _ _) _ _ _ | show wpAny _ _ (exec (Stmt.For _ _ _ _ _) _) _ _ _ | show wpAny _ _ (exec (Stmt.While _ _ _ _) _) _ _ _ | show wpAny _ _ (pyIter _) _ _ _)); ((fail_if_success with_reducible first | show wpAny _ _ (eval (PySem.Expr.ListComp _ _ _ _) _) _ _ _)); ((fail_if_success with_reducible first | show wpAny _ _ (subscriptTail _ _ _ _) _ _ _)); (fail_if_success with_reducible first | show wpAny _ _ (exec (Stmt.Assign [PySem.Expr.Name _ _] (PySem.Expr.ListComp _ _ _ _) _) _) _ _ _ | show wpAny _ _ (compareOp _ _ _) _ _ _ | show wpAny _ _ (call (Value.builtin "max") _) _ _ _ | show wpAny _ _ (call (Value.builtin "list.index") _) _ _ _ | show wpAny _ _ (call (Value.builtin "len") _) _ _ _ | show wpAny _ _ (call (Value.builtin "list.append") _) _ _ _); ((first | (k_unfold; (try dsimp only)) | (k_end; wrow_close) | walk1 | (dsimp only; walk1) | (leave1; walk_say "STEP leave1"; try dsimp only) | fail "no step"))))
      exact ⟨_, _, rfl, F6, N6, hno hbx⟩
  · intro D zs h6 tk6 hJ2 hzl F6 N6 hlt6 h7 tk7 F7 N7
    rw [List.take_of_length_le (Nat.le_of_eq hts.len.symm)] at hJ2
    exact hq h7 tk7 D zs hJ2.1 hJ2.2 (by omega) hlt6 F7 N7
/-- the test, and what is done if it is met -/
theorem l_if {c1 cx c3 c4 : Obj} {wl bl dl wd : Addr} {x : Int} {tx : Tok} {ts tw : List (Addr × List Value)} {W : List (Int × Int)} {D : List Int} {zs dvs : List Value} {rest : List (Addr × Obj)} {e1 eb ed ew : Nat} {v4 : Option Value}
    (hh : A.handled = none) (hfr : A.frames = some [lawE L fa cv]) (hdp : A.depth < 600) (hun : A.units ≤ 50) (B : Below A₀ base [] h₀) (X₀ : (KF w.params).In h₀) (T : Top p loose mean mg mb h₀)
    (F : Fr h₀ L s.heap (fun u => if u = Str.ofString "before" then some (.ref bl) else if u = Str.ofString "waiting" then some (.ref wd) else m u))
    (N : News h₀ L s.heap ((L + 1 + 1 + 1 + 1, c4) :: (L + 1 + 1, cx) :: (L + 1 + 1 + 1, c3) :: (L + 1, c1) :: (bl, listOf zs.toArray eb) :: (dl, listOf dvs.toArray ed) :: (wd, listOf (refL tw).toArray ew) :: rest))
    (hcx : cx.data = .cell (some (.int x tx))) (hc1 : c1.data = .cell (some (.ref wl))) (hc3 : c3.data = .cell (some (.ref dl))) (hc4 : c4.data = .cell v4)
    (hzi : ∀ v ∈ zs, IsI v) (hze : zs.map intOf = predE W x) (hzl : zs.length ≤ 100) (hdi : ∀ v ∈ dvs, IsI v) (hde : dvs.map intOf = D) (hdl : dvs.length ≤ 100) (htwl : tw.length ≤ 100)
    (hts : TupsAre ts W) (htl : ts.length ≤ 100) (hwr : (wl, listOf (refL ts).toArray e1) ∈ rest) (htr : ∀ q ∈ tupL ts, q ∈ rest)
    (o4 : ∀ q ∈ (L + 1 + 1, cx) :: (L + 1 + 1 + 1, c3) :: (L + 1, c1) :: (bl, listOf zs.toArray eb) :: (dl, listOf dvs.toArray ed) :: (wd, listOf (refL tw).toArray ew) :: rest, q.1 ≠ L + 1 + 1 + 1 + 1)
    (ow : ∀ q ∈ rest, q.1 ≠ wd) (ow1 : @LT.lt Nat _ (L + 1 + 1 + 1 + 1) wd) (ow2 : @LT.lt Nat _ dl wd) (ow3 : @LT.lt Nat _ wd bl)
    (hne : waitP D W x = true → predE W x ≠ []) (hoc : waitP D W x = true → occI W (D.getD (lastI D W x).toNat 0, x) ≠ [])
    (hyes : waitP D W x = true → ∀ h' tk' c4' v4' Tn e' t1 t2 t3, c4'.data = .cell v4' → (∀ q ∈ (L + 1 + 1 + 1 + 1, c4) :: (L + 1 + 1, cx) :: (L + 1 + 1 + 1, c3) :: (L + 1, c1) :: (bl, listOf zs.toArray eb) :: (dl, listOf dvs.toArray ed) :: (wd, listOf (refL tw).toArray ew) :: rest, q.1 < Tn) →
      Fr h₀ L h' (fun u => if u = Str.ofString "before" then some (.ref bl) else if u = Str.ofString "waiting" then some (.ref wd) else m u) →
      News h₀ L h' ((Tn, tupOf #[.int (lastI D W x) t1, .int (kI D W x) t2, .int x t3] 0) :: (L + 1 + 1 + 1 + 1, c4') :: (L + 1 + 1, cx) :: (L + 1 + 1 + 1, c3) :: (L + 1, c1) :: (bl, listOf zs.toArray eb) :: (dl, listOf dvs.toArray ed) :: (wd, listOf (refL tw ++ [Value.ref Tn]).toArray e') :: rest) →
      Q .next { s with heap := h', toks := tk' })
    (hno : waitP D W x = false → ∀ h' tk', Fr h₀ L h' (fun u => if u = Str.ofString "before" then some (.ref bl) else if u = Str.ofString "waiting" then some (.ref wd) else m u) →
      News h₀ L h' ((L + 1 + 1 + 1 + 1, c4) :: (L + 1 + 1, cx) :: (L + 1 + 1 + 1, c3) :: (L + 1, c1) :: (bl, listOf zs.toArray eb) :: (dl, listOf dvs.toArray ed) :: (wd, listOf (refL tw).toArray ew) :: rest) → Q .next { s with heap := h', toks := tk' }) :
    wpAny (model Pr w) A (exec (lawT 1) (lawE L fa cv)) Q E s := by
  obtain ⟨_, d, _, gs, un⟩ := A
  dsimp only at hh hfr hdp hun
  subst hh hfr
  conv in (lawT 1) => whnf
  conv in (occs := *) (lawE L fa cv) => all_goals unfold lawE
  conv in (occs := *) lawS => all_goals whnf
  have hwp : waitP D W x = (decide (x ∉ D) && decide (∀ a ∈ predE W x, a ∈ D)) := rfl
  have hany : ∀ y : Int, ((dvs.map intOf).any fun z => z == y) = decide (y ∈ D) := fun y => by
    rw [hde, Bool.eq_iff_iff, List.any_eq_true, decide_eq_true_eq]
    constructor
    · rintro ⟨z, hz, e⟩
      have e : z = y := by simpa using e
      exact e ▸ hz
    · intro h; exact ⟨y, h, by simp⟩
  refine wpAny_boxed _ (fun _ _ x => x) fun PQ hPQ => ?_
  walk1
  (repeat' (((fail_if_success with_reducible first | show wpAny _ _ (call (Value.ref _) _ _) _ _ _ | show wpAny _ _ (exec (Stmt.For _ _ _ _ _) _) _ _ _ | show wpAny _ _ (exec (Stmt.While _ _ _ _) _) _ _ _ | show wpAny _ _ (pyIter _) _ _ _)); ((fail_if_success with_reducible first | show wpAny _ _ (eval (PySem.Expr.ListComp _ _ _ _) _) _ _ _)); ((fail_if_success with_reducible first | show wpAny _ _ (subscriptTail _ _ _ _) _ _ _)); (fail_if_success with_reducible first | show wpAny _ _ (exec (Stmt.Assign [PySem.Expr.Name _ _] (PySem.Expr.ListComp _ _ _ _) _) _) _ _ _ | show wpAny _ _ (compareOp _ _ _) _ _ _ | show wpAny _ _ (call (Value.builtin "max") _) _ _ _ | show wpAny _ _ (call (Value.builtin "list.index") _) _ _ _ | show wpAny _ _ (call (Value.builtin "len") _) _ _ _ | show wpAny _ _ (call (Value.builtin "list.append") _) _ _ _); ((first | (k_unfold; (try dsimp only)) | (k_end; wrow_close) | walk1 | (dsimp only; walk1) | (leave1; walk_say "STEP leave1"; try dsimp only) | fail "no step"))))
  rename Fr _ _ _ _ => F1
  rename News _ _ _ _ => N1
  refine notin_list_ints (News.isList N1 (show (dl, listOf dvs.toArray ed) ∈ _ by walk_at "elem")) (intsAre_of hdi) ?_
  rw [hany]
  by_cases hxd : x ∈ D
  · rw [decide_eq_true hxd]
    have hf : waitP D W x = false := by rw [hwp, decide_eq_false (by simpa using hxd)]; rfl
    (repeat' (((fail_if_success with_reducible first | show wpAny _ _ (call (Value.ref _) _ _) _ _ _ | show wpAny _ _ (exec (Stmt.For _ _ _ _ _) _) _ _ _ | show wpAny _ _ (exec (Stmt.While _ _ _ _) _) _ _ _ | show wpAny _ _ (pyIter _) _ _ _)); ((fail_if_success with_reducible first | show wpAny _ _ (eval (PySem.Expr.ListComp _ _ _ _) _) _ _ _)); ((fail_if_success with_reducible first | show wpAny _ _ (subscriptTail _ _ _ _) _ _ _)); (fail_if_success with_reducible first | show wpAny _ _ (exec (Stmt.Assign [PySem.Expr.Name _ _] (PySem.Expr.ListComp _ _ _ _) _) _) _ _ _ | show wpAny _ _ (compareOp _ _ _) _ _ _ | show wpAny _ _ (call (Value.builtin "max") _) _ _ _ | show wpAny _ _ (call (Value.builtin "list.index") _) _ _ _ | show wpAny _ _ (call (Value.builtin "len") _) _ _ _ | show wpAny _ _ (call (Value.builtin "list.append") _) _ _ _); ((first | (k_unfold; (try dsimp only)) | (k_end; wrow_close) | walk1 | (dsimp only; walk1) | (leave1; walk_say "STEP leave1"; try dsimp only) | fail "no step"))))
    exact hPQ _ _ (hno hf _ _ (by assumption) (by assumption))
  rw [decide_eq_false hxd]
  (repeat' (((fail_if_success with_reducible first | show wpAny _ _ (call (Value.ref _) _ _) _ _ _ | show wpAny _ _ (exec (Stmt.For _ _ _ _ _) _) _ _ _ | show wpAny _ _ (exec (Stmt.While _ _ _ _) _) _ _ _ | show wpAny _ _ (pyIter _) _ _ _)); ((fail_if_success with_reducible first | show wpAny _ _ (eval (PySem.Expr.ListComp _ _ _ _) _) _ _ _)); ((fail_if_success with_reducible first | show wpAny _ _ (subscriptTail _ _ _ _) _ _ _)); (fail_if_success with_reducible first | show wpAny _ _ (exec (Stmt.Assign [PySem.Expr.Name _ _] (PySem.Expr.ListComp _ _ _ _) _) _) _ _ _ | show wpAny _ _ (compareOp _ _ _) _ _ _ | show wpAny _ _ (call (Value.builtin "max") _) _ _ _ | show wpAny _ _ (call (Value.builtin "list.index") _) _ _ _ | show wpAny _ _ (call (Value.builtin "len") _) _ _ _ | show wpAny _ _ (call (Value.builtin "list.append") _) _ _ _); ((first | (k_unfold; (try dsimp only)) | (k_end; wrow_close) | walk1 | (dsimp only; walk1) | (leave1; walk_say "STEP leave1"; try dsimp only) | fail "no step"))))
  refine comp_genF F1 (by with_unfolding_all rfl) (by decide) rfl (by decide) ?_
  (repeat' (((fail_if_success with_reducible first | show wpAny _ _ (call (Value.ref _) _ _) _ _ _ | show wpAny _ _ (exec (Stmt.For _ _ _ _ _) _) _ _ _ | show wpAny _ _ (exec (Stmt.While _ _ _ _) _) _ _ _ | show wpAny _ _ (pyIter _) _ _ _)); ((fail_if_success with_reducible first | show wpAny _ _ (eval (PySem.Expr.ListComp _ _ _ _) _) _ _ _)); ((fail_if_success with_reducible first | show wpAny _ _ (subscriptTail _ _ _ _) _ _ _)); (fail_if_success with_reducible first | show wpAny _ _ (exec (Stmt.Assign [PySem.Expr.Name _ _] (PySem.Expr.ListComp _ _ _ _) _) _) _ _ _ | show wpAny _ _ (compareOp _ _ _) _ _ _ | show wpAny _ _ (call (Value.builtin "max") _) _ _ _ | show wpAny _ _ (call (Value.builtin "list.index") _) _ _ _ | show wpAny _ _ (call (Value.builtin "len") _) _ _ _ | show wpAny _ _ (call (Value.builtin "list.append") _) _ _ _); ((first | (k_unfold; (try dsimp only)) | (k_end; wrow_close) | walk1 | (dsimp only; walk1) | (leave1; walk_say "STEP leave1"; try dsimp only) | fail "no step"))))
  refine cw_list (vs := zs) (ep := eb) (fun _ v m₂ => m₂ (Str.ofString "a") = some v) (fun j ys => (∀ v ∈ ys, IsI v) ∧ ys.map intOf = ((zs.take j).map intOf).filter fun a => decide (a ∉ D)) rfl F1 N1 (show (bl, listOf zs.toArray eb) ∈ _ by walk_at "elem") (by rw [sizeLine_eq]; omega) ⟨fun _ h => (nomatch h), rfl⟩
    (fun I i v C m₀ s₁ Q' E' _ _ _ _ hn k => asg_name rfl (by decide) hn k) ?_ ?_
  · clear hPQ hyes hno
    intro j v ys I oI C oC D2 m₂ h5 tk5 E' hv hJ hC ha F5 N5 o3 ne3
    clear F1 N1
    obtain ⟨a, ta, rfl⟩ := hzi v (List.mem_of_getElem? hv)
    have htk : (zs.take (j + 1)).map intOf = (zs.take j).map intOf ++ [a] := by rw [List.take_add_one, hv, List.map_append]; rfl
    have hy2 : a ∉ D → ∀ t, (∀ v ∈ ys ++ [Value.int a t], IsI v) ∧ (ys ++ [Value.int a t]).map intOf = ((zs.take (j + 1)).map intOf).filter fun a => decide (a ∉ D) := fun hf t => ⟨fun v hv => by
      rcases List.mem_append.mp hv with h | h
      · exact hJ.1 v h
      · rw [List.mem_singleton.mp h]; exact ⟨_, _, rfl⟩, by rw [htk, List.filter_append, List.map_append, hJ.2]; simp [hf, intOf]⟩
    have hn2 : a ∈ D → (∀ v ∈ ys, IsI v) ∧ ys.map intOf = ((zs.take (j + 1)).map intOf).filter fun a => decide (a ∉ D) := fun hf => ⟨hJ.1, by rw [htk, List.filter_append, hJ.2]; simp [hf]⟩
    clear hJ
    refine wpAny_tests_one ?_
    (repeat' (((fail_if_success with_reducible first | show wpAny _ _ (call (Value.ref _) _ _) _ _ _ | show wpAny _ _ (exec (Stmt.For _ _ _ _ _) _) _ _ _ | show wpAny _ _ (exec (Stmt.While _ _ _ _) _) _ _ _ | show wpAny _ _ (pyIter _) _ _ _)); ((fail_if_success with_reducible first | show wpAny _ _ (eval (PySem.Expr.ListComp _ _ _ _) _) _ _ _)); ((fail_if_success with_reducible first | show wpAny _ _ (subscriptTail _ _ _ _) _ _ _)); (fail_if_success with_reducible first | show wpAny _ _ (exec (Stmt.Assign [PySem.Expr.Name _ _] (PySem.Expr.ListComp _ _ _ _) _) _) _ _ _ | show wpAny _ _ (compareOp _ _ _) _ _ _ | show wpAny _ _ (call (Value.builtin "max") _) _ _ _ | show wpAny _ _ (call (Value.builtin "list.index") _) _ _ _ | show wpAny _ _ (call (Value.builtin "len") _) _ _ _ | show wpAny _ _ (call (Value.builtin "list.append") _) _ _ _); ((first | (k_unfold; (try dsimp only)) | (k_end; wrow_close) | walk1 | (dsimp only; walk1) | (leave1; walk_say "STEP leave1"; try dsimp only) | fail "no step"))))
    refine notin_list_ints (News.isList N5 (show (dl, listOf dvs.toArray ed) ∈ _ by walk_at "elem")) (intsAre_of hdi) ?_
    rw [hany]
    by_cases had : a ∈ D
    · rw [decide_eq_true had]
      (repeat' (((fail_if_success with_reducible first | show wpAny _ _ (call (Value.ref _) _ _) _ _ _ | show wpAny _ _ (exec (Stmt.For _ _ _ _ _) _) _ _ _ | show wpAny _ _ (exec (Stmt.While _ _ _ _) _) _ _ _ | show wpAny _ _ (pyIter _) _ _ _)); ((fail_if_success with_reducible first | show wpAny _ _ (eval (PySem.Expr.ListComp _ _ _ _) _) _ _ _)); ((fail_if_success with_reducible first | show wpAny _ _ (subscriptTail _ _ _ _) _ _ _)); (fail_if_success with_reducible first | show wpAny _ _ (exec (Stmt.Assign [PySem.Expr.Name _ _] (PySem.Expr.ListComp _ _ _ _) _) _) _ _ _ | show wpAny _ _ (compareOp _ _ _) _ _ _ | show wpAny _ _ (call (Value.builtin "max") _) _ _ _ | show wpAny _ _ (call (Value.builtin "list.index") _) _ _ _ | show wpAny _ _ (call (Value.builtin "len") _) _ _ _ | show wpAny _ _ (call (Value.builtin "list.append") _) _ _ _); ((first | (k_unfold; (try dsimp only)) | (k_end; wrow_close) | walk1 | (dsimp only; walk1) | (leave1; walk_say "STEP leave1"; try dsimp only) | fail "no step"))))
      exact ⟨_, _, rfl, F5, N5, hn2 had⟩
    · rw [decide_eq_false had]
      (repeat' (((fail_if_success with_reducible first | show wpAny _ _ (call (Value.ref _) _ _) _ _ _ | show wpAny _ _ (exec (Stmt.For _ _ _ _ _) _) _ _ _ | show wpAny _ _ (exec (Stmt.While _ _ _ _) _) _ _ _ | show wpAny _ _ (pyIter _) _ _ _)); ((fail_if_success with_reducible first | show wpAny _ _ (eval (PySem.Expr.ListComp _ _ _ _) _) _ _ _)); ((fail_if_success with_reducible first | show wpAny _ _ (subscriptTail _ _ _ _) _ _ _)); (fail_if_success with_reducible first | show wpAny _ _ (exec (Stmt.Assign [PySem.Expr.Name _ _] (PySem.Expr.ListComp _ _ _ _) _) _) _ _ _ | show wpAny _ _ (compareOp _ _ _) _ _ _ | show wpAny _ _ (call (Value.builtin "max") _) _ _ _ | show wpAny _ _ (call (Value.builtin "list.index") _) _ _ _ | show wpAny _ _ (call (Value.builtin "len") _) _ _ _ | show wpAny _ _ (call (Value.builtin "list.append") _) _ _ _); ((first | (k_unfold; (try dsimp only)) | (k_end; wrow_close) | walk1 | (dsimp only; walk1) | (leave1; walk_say "STEP leave1"; try dsimp only) | fail "no step"))))
      exact ⟨_, _, rfl, F5, N5, hy2 had _⟩
  intro D2 ys h6 tk6 hJ2 hyl F6 N6 hlt6
  clear F1 N1
  rw [List.take_of_length_le (Nat.le_refl _), hze] at hJ2
  (repeat' (((fail_if_success with_reducible first | show wpAny _ _ (call (Value.ref _) _ _) _ _ _ | show wpAny _ _ (exec (Stmt.For _ _ _ _ _) _) _ _ _ | show wpAny _ _ (exec (Stmt.While _ _ _ _) _) _ _ _ | show wpAny _ _ (pyIter _) _ _ _)); ((fail_if_success with_reducible first | show wpAny _ _ (eval (PySem.Expr.ListComp _ _ _ _) _) _ _ _)); ((fail_if_success with_reducible first | show wpAny _ _ (subscriptTail _ _ _ _) _ _ _)); (fail_if_success with_reducible first | show wpAny _ _ (exec (Stmt.Assign [PySem.Expr.Name _ _] (PySem.Expr.ListComp _ _ _ _) _) _) _ _ _ | show wpAny _ _ (compareOp _ _ _) _ _ _ | show wpAny _ _ (call (Value.builtin "max") _) _ _ _ | show wpAny _ _ (call (Value.builtin "list.index") _) _ _ _ | show wpAny _ _ (call (Value.builtin "len") _) _ _ _ | show wpAny _ _ (call (Value.builtin "list.append") _) _ _ _); ((first | (k_unfold; (try dsimp only)) | (k_end; wrow_close) | walk1 | (dsimp only; walk1) | (leave1; walk_say "STEP leave1"; try dsimp only) | fail "no step"))))
  rename News _ _ _ _ => N7
  rename Fr _ _ _ _ => F7
  refine ke_eq_ints (xs := ys) (ys := []) (News.isList N7 (show (D2, lst ys) ∈ _ by walk_at "elem")) (News.isList N7 (.head _)) (intsAre_of hJ2.1) .nil (u64 hun) ?_
  rw [hJ2.2]
  have N8 : News h₀ L _ ((L + 1 + 1 + 1 + 1, c4) :: (L + 1 + 1, cx) :: (L + 1 + 1 + 1, c3) :: (L + 1, c1) :: (bl, listOf zs.toArray eb) :: (dl, listOf dvs.toArray ed) :: (wd, listOf (refL tw).toArray ew) :: rest) := News.sub N7 (by walk_at "sub")
  clear N7
  have hall : decide ((predE W x).filter (fun a => decide (a ∉ D)) = []) = decide (∀ a ∈ predE W x, a ∈ D) := by
    rw [decide_eq_decide, List.filter_eq_nil_iff]
    constructor
    · intro h a ha; simpa using h a ha
    · intro h a ha; simpa using h a ha
  rw [hall]
  by_cases hal : ∀ a ∈ predE W x, a ∈ D
  rotate_left
  · rw [decide_eq_false hal]
    have hf : waitP D W x = false := by rw [hwp, decide_eq_false hal, Bool.and_false]
    (repeat' (((fail_if_success with_reducible first | show wpAny _ _ (call (Value.ref _) _ _) _ _ _ | show wpAny _ _ (exec (Stmt.For _ _ _ _ _) _) _ _ _ | show wpAny _ _ (exec (Stmt.While _ _ _ _) _) _ _ _ | show wpAny _ _ (pyIter _) _ _ _)); ((fail_if_success with_reducible first | show wpAny _ _ (eval (PySem.Expr.ListComp _ _ _ _) _) _ _ _)); ((fail_if_success with_reducible first | show wpAny _ _ (subscriptTail _ _ _ _) _ _ _)); (fail_if_success with_reducible first | show wpAny _ _ (exec (Stmt.Assign [PySem.Expr.Name _ _] (PySem.Expr.ListComp _ _ _ _) _) _) _ _ _ | show wpAny _ _ (compareOp _ _ _) _ _ _ | show wpAny _ _ (call (Value.builtin "max") _) _ _ _ | show wpAny _ _ (call (Value.builtin "list.index") _) _ _ _ | show wpAny _ _ (call (Value.builtin "len") _) _ _ _ | show wpAny _ _ (call (Value.builtin "list.append") _) _ _ _); ((first | (k_unfold; (try dsimp only)) | (k_end; wrow_close) | walk1 | (dsimp only; walk1) | (leave1; walk_say "STEP leave1"; try dsimp only) | fail "no step"))))
    exact hPQ _ _ (hno hf _ _ (by assumption) (by assumption))
  have hwt : waitP D W x = true := by rw [hwp, decide_eq_true hal, decide_eq_true hxd]; rfl
  rw [decide_eq_true hal]
  have hbne := hne hwt
  have hocc := hoc hwt
  (repeat' (((fail_if_success with_reducible first | show wpAny _ _ (call (Value.ref _) _ _) _ _ _ | show wpAny _ _ (exec (Stmt.For _ _ _ _ _) _) _ _ _ | show wpAny _ _ (exec (Stmt.While _ _ _ _) _) _ _ _ | show wpAny _ _ (pyIter _) _ _ _)); ((fail_if_success with_reducible first | show wpAny _ _ (eval (PySem.Expr.ListComp _ _ _ _) _) _ _ _)); ((fail_if_success with_reducible first | show wpAny _ _ (subscriptTail _ _ _ _) _ _ _)); (fail_if_success with_reducible first | show wpAny _ _ (exec (Stmt.Assign [PySem.Expr.Name _ _] (PySem.Expr.ListComp _ _ _ _) _) _) _ _ _ | show wpAny _ _ (compareOp _ _ _) _ _ _ | show wpAny _ _ (call (Value.builtin "max") _) _ _ _ | show wpAny _ _ (call (Value.builtin "list.index") _) _ _ _ | show wpAny _ _ (call (Value.builtin "len") _) _ _ _ | show wpAny _ _ (call (Value.builtin "list.append") _) _ _ _); ((first | (k_unfold; (try dsimp only)) | (k_end; wrow_close) | walk1 | (dsimp only; walk1) | (leave1; walk_say "STEP leave1"; try dsimp only) | fail "no step"))))
  rename News _ _ _ _ => N9
  rename Fr _ _ _ _ => F9
  refine comp_genF F9 (by with_unfolding_all rfl) (by decide) rfl (by decide) ?_
  (repeat' (((fail_if_success with_reducible first | show wpAny _ _ (call (Value.ref _) _ _) _ _ _ | show wpAny _ _ (exec (Stmt.For _ _ _ _ _) _) _ _ _ | show wpAny _ _ (exec (Stmt.While _ _ _ _) _) _ _ _ | show wpAny _ _ (pyIter _) _ _ _)); ((fail_if_success with_reducible first | show wpAny _ _ (eval (PySem.Expr.ListComp _ _ _ _) _) _ _ _)); ((fail_if_success with_reducible first | show wpAny _ _ (subscriptTail _ _ _ _) _ _ _)); (fail_if_success with_reducible first | show wpAny _ _ (exec (Stmt.Assign [PySem.Expr.Name _ _] (PySem.Expr.ListComp _ _ _ _) _) _) _ _ _ | show wpAny _ _ (compareOp _ _ _) _ _ _ | show wpAny _ _ (call (Value.builtin "max") _) _ _ _ | show wpAny _ _ (call (Value.builtin "list.index") _) _ _ _ | show wpAny _ _ (call (Value.builtin "len") _) _ _ _ | show wpAny _ _ (call (Value.builtin "list.append") _) _ _ _); ((first | (k_unfold; (try dsimp only)) | (k_end; wrow_close) | walk1 | (dsimp only; walk1) | (leave1; walk_say "STEP leave1"; try dsimp only) | fail "no step"))))
  refine cw_list (vs := zs) (ep := eb) (fun _ v m₂ => m₂ (Str.ofString "a") = some v) (fun j ys => (∀ v ∈ ys, IsI v) ∧ ys.map intOf = ((zs.take j).map intOf).map fun a => (D.idxOf a : Int)) rfl F9 N9 (show (bl, listOf zs.toArray eb) ∈ _ by walk_at "elem") (by rw [sizeLine_eq]; omega) ⟨fun _ h => (nomatch h), rfl⟩
    (fun I i v C m₀ s₁ Q' E' _ _ _ _ hn k => asg_name rfl (by decide) hn k) ?_ ?_
  · clear hPQ hyes hno
    intro j v ys I oI C oC D2 m₂ h5 tk5 E' hv hJ hC ha F5 N5 o3 ne3
    clear F9 N9
    obtain ⟨a, ta, rfl⟩ := hzi v (List.mem_of_getElem? hv)
    have htk : (zs.take (j + 1)).map intOf = (zs.take j).map intOf ++ [a] := by rw [List.take_add_one, hv, List.map_append]; rfl
    have hy2 : ∀ t, (∀ v ∈ ys ++ [Value.int (D.idxOf a : Int) t], IsI v) ∧ (ys ++ [Value.int (D.idxOf a : Int) t]).map intOf = ((zs.take (j + 1)).map intOf).map fun a => (D.idxOf a : Int) := fun t => ⟨fun v hv => by
      rcases List.mem_append.mp hv with h | h
      · exact hJ.1 v h
      · rw [List.mem_singleton.mp h]; exact ⟨_, _, rfl⟩, by rw [htk, List.map_append, List.map_append, hJ.2]; rfl⟩
    clear hJ
    have haB : a ∈ D := hal a (by rw [← hze]; exact List.mem_map.mpr ⟨_, List.mem_of_getElem? hv, rfl⟩)
    refine wpAny_tests_nil ?_
    (repeat' (((fail_if_success with_reducible first | show wpAny _ _ (call (Value.ref _) _ _) _ _ _ | show wpAny _ _ (exec (Stmt.For _ _ _ _ _) _) _ _ _ | show wpAny _ _ (exec (Stmt.While _ _ _ _) _) _ _ _ | show wpAny _ _ (pyIter _) _ _ _)); ((fail_if_success with_reducible first | show wpAny _ _ (eval (PySem.Expr.ListComp _ _ _ _) _) _ _ _)); ((fail_if_success with_reducible first | show wpAny _ _ (subscriptTail _ _ _ _) _ _ _)); (fail_if_success with_reducible first | show wpAny _ _ (exec (Stmt.Assign [PySem.Expr.Name _ _] (PySem.Expr.ListComp _ _ _ _) _) _) _ _ _ | show wpAny _ _ (compareOp _ _ _) _ _ _ | show wpAny _ _ (call (Value.builtin "max") _) _ _ _ | show wpAny _ _ (call (Value.builtin "list.index") _) _ _ _ | show wpAny _ _ (call (Value.builtin "len") _) _ _ _ | show wpAny _ _ (call (Value.builtin "list.append") _) _ _ _); ((first | (k_unfold; (try dsimp only)) | (k_end; wrow_close) | walk1 | (dsimp only; walk1) | (leave1; walk_say "STEP leave1"; try dsimp only) | fail "no step"))))
    refine index_led N5 (show (dl, listOf dvs.toArray ed) ∈ _ by walk_at "elem") hdi (by rw [hde]; exact haB) (by omega) ?_
    rw [hde]
    (repeat' (((fail_if_success with_reducible first | show wpAny _ _ (call (Value.ref _) _ _) _ _ _ | show wpAny _ _ (exec (Stmt.For _ _ _ _ _) _) _ _ _ | show wpAny _ _ (exec (Stmt.While _ _ _ _) _) _ _ _ | show wpAny _ _ (pyIter _) _ _ _)); ((fail_if_success with_reducible first | show wpAny _ _ (eval (PySem.Expr.ListComp _ _ _ _) _) _ _ _)); ((fail_if_success with_reducible first | show wpAny _ _ (subscriptTail _ _ _ _) _ _ _)); (fail_if_success with_reducible first | show wpAny _ _ (exec (Stmt.Assign [PySem.Expr.Name _ _] (PySem.Expr.ListComp _ _ _ _) _) _) _ _ _ | show wpAny _ _ (compareOp _ _ _) _ _ _ | show wpAny _ _ (call (Value.builtin "max") _) _ _ _ | show wpAny _ _ (call (Value.builtin "list.index") _) _ _ _ | show wpAny _ _ (call (Value.builtin "len") _) _ _ _ | show wpAny _ _ (call (Value.builtin "list.append") _) _ _ _); ((first | (k_unfold; (try dsimp only)) | (k_end; wrow_close) | walk1 | (dsimp only; walk1) | (leave1; walk_say "STEP leave1"; try dsimp only) | fail "no step"))))
    exact ⟨_, _, rfl, F5, N5, hy2 _⟩
  intro D3 ks h7 tk7 hJ3 hkl F10 N10 hlt10
  rw [List.take_of_length_le (Nat.le_refl _), hze] at hJ3
  have q4 : @LT.lt Nat _ (L + 1 + 1 + 1 + 1) D3 := hlt10 (L + 1 + 1 + 1 + 1, c4) (.head _)
  clear N9 F9 hlt10 hlt6
  (repeat' (((fail_if_success with_reducible first | show wpAny _ _ (call (Value.ref _) _ _) _ _ _ | show wpAny _ _ (exec (Stmt.For _ _ _ _ _) _) _ _ _ | show wpAny _ _ (exec (Stmt.While _ _ _ _) _) _ _ _ | show wpAny _ _ (pyIter _) _ _ _)); ((fail_if_success with_reducible first | show wpAny _ _ (eval (PySem.Expr.ListComp _ _ _ _) _) _ _ _)); ((fail_if_success with_reducible first | show wpAny _ _ (subscriptTail _ _ _ _) _ _ _)); (fail_if_success with_reducible first | show wpAny _ _ (exec (Stmt.Assign [PySem.Expr.Name _ _] (PySem.Expr.ListComp _ _ _ _) _) _) _ _ _ | show wpAny _ _ (compareOp _ _ _) _ _ _ | show wpAny _ _ (call (Value.builtin "max") _) _ _ _ | show wpAny _ _ (call (Value.builtin "list.index") _) _ _ _ | show wpAny _ _ (call (Value.builtin "len") _) _ _ _ | show wpAny _ _ (call (Value.builtin "list.append") _) _ _ _); ((first | (k_unfold; (try dsimp only)) | (k_end; wrow_close) | walk1 | (dsimp only; walk1) | (leave1; walk_say "STEP leave1"; try dsimp only) | fail "no step"))))
  rename News _ _ _ _ => N11
  rename Fr _ _ _ _ => F11
  refine max_list_N rfl F11 N11 (News.isList N11 (show (D3, lst ks) ∈ _ by walk_at "elem")) (intsAre_of hJ3.1) (by rw [hJ3.2, List.length_map]; exact List.length_pos_iff.mpr hbne) ?_
  intro h8 M tM tk8 F12 N12 hM1 hM2
  rw [hJ3.2] at hM1 hM2
  have hM : M = lastI D W x := maxD_eq idx_nonneg hM1 hM2
  obtain ⟨a0, ha0, ea0⟩ := List.mem_map.mp hM1
  have hi0 := List.idxOf_lt_length_of_mem (hal a0 ha0)
  have hdlen : dvs.length = D.length := by rw [← hde]; simp
  have hM0 : 0 ≤ M := by omega
  have hMl : M.toNat < dvs.length := by omega
  obtain ⟨td, hdv⟩ : ∃ t, dvs[M.toNat]? = some (.int (D.getD M.toNat 0) t) := by
    obtain ⟨y, t, e⟩ := hdi _ (List.getElem_mem hMl)
    refine ⟨t, ?_⟩
    rw [List.getElem?_eq_getElem hMl, e]
    have : D[M.toNat]? = some y := by rw [← hde, List.getElem?_map, List.getElem?_eq_getElem hMl, e]; rfl
    rw [List.getD_eq_getElem?_getD, this]; rfl
  have hWl := hts.len
  clear N11 F11 hJ3 hJ2 hM1 hM2 hi0 ha0 ea0
  (repeat' (((fail_if_success with_reducible first | show wpAny _ _ (call (Value.ref _) _ _) _ _ _ | show wpAny _ _ (exec (Stmt.For _ _ _ _ _) _) _ _ _ | show wpAny _ _ (exec (Stmt.While _ _ _ _) _) _ _ _ | show wpAny _ _ (pyIter _) _ _ _)); ((fail_if_success with_reducible first | show wpAny _ _ (eval (PySem.Expr.ListComp _ _ _ _) _) _ _ _)); ((fail_if_success with_reducible first | show wpAny _ _ (subscriptTail _ _ _ _) _ _ _)); (fail_if_success with_reducible first | show wpAny _ _ (exec (Stmt.Assign [PySem.Expr.Name _ _] (PySem.Expr.ListComp _ _ _ _) _) _) _ _ _ | show wpAny _ _ (compareOp _ _ _) _ _ _ | show wpAny _ _ (call (Value.builtin "max") _) _ _ _ | show wpAny _ _ (call (Value.builtin "list.index") _) _ _ _ | show wpAny _ _ (call (Value.builtin "len") _) _ _ _ | show wpAny _ _ (call (Value.builtin "list.append") _) _ _ _); ((first | (k_unfold; (try dsimp only)) | (k_end; wrow_close) | walk1 | (dsimp only; walk1) | (leave1; walk_say "STEP leave1"; try dsimp only) | fail "no step"))))
  rename _ = Data.cell (some (.int M tM)) => hc4n
  rename Obj => c4n
  rename News _ _ _ _ => N13
  rename Fr _ _ _ _ => F13
  have N14 : News h₀ L _ ((L + 1 + 1 + 1 + 1, c4n) :: (L + 1 + 1, cx) :: (L + 1 + 1 + 1, c3) :: (L + 1, c1) :: (bl, listOf zs.toArray eb) :: (dl, listOf dvs.toArray ed) :: (wd, listOf (refL tw).toArray ew) :: rest) := News.sub N13 (by walk_at "sub")
  clear N13
  refine comp_genF F13 (by with_unfolding_all rfl) (by decide) rfl (by decide) ?_
  (repeat' (((fail_if_success with_reducible first | show wpAny _ _ (call (Value.ref _) _ _) _ _ _ | show wpAny _ _ (exec (Stmt.For _ _ _ _ _) _) _ _ _ | show wpAny _ _ (exec (Stmt.While _ _ _ _) _) _ _ _ | show wpAny _ _ (pyIter _) _ _ _)); ((fail_if_success with_reducible first | show wpAny _ _ (eval (PySem.Expr.ListComp _ _ _ _) _) _ _ _)); ((fail_if_success with_reducible first | show wpAny _ _ (subscriptTail _ _ _ _) _ _ _)); (fail_if_success with_reducible first | show wpAny _ _ (exec (Stmt.Assign [PySem.Expr.Name _ _] (PySem.Expr.ListComp _ _ _ _) _) _) _ _ _ | show wpAny _ _ (compareOp _ _ _) _ _ _ | show wpAny _ _ (call (Value.builtin "max") _) _ _ _ | show wpAny _ _ (call (Value.builtin "list.index") _) _ _ _ | show wpAny _ _ (call (Value.builtin "len") _) _ _ _ | show wpAny _ _ (call (Value.builtin "list.append") _) _ _ _); ((first | (k_unfold; (try dsimp only)) | (k_end; wrow_close) | walk1 | (dsimp only; walk1) | (leave1; walk_say "STEP leave1"; try dsimp only) | fail "no step"))))
  refine len_list (News.isList N14 (.tail _ (.tail _ (.tail _ (.tail _ (.tail _ (.tail _ (.tail _ hwr)))))))) (by rw [List.size_toArray, show (refL ts).length = ts.length by unfold refL; simp]; omega) ?_
  rw [List.size_toArray, show (refL ts).length = W.length by unfold refL; rw [List.length_map]; exact hWl]
  (repeat' (((fail_if_success with_reducible first | show wpAny _ _ (call (Value.ref _) _ _) _ _ _ | show wpAny _ _ (exec (Stmt.For _ _ _ _ _) _) _ _ _ | show wpAny _ _ (exec (Stmt.While _ _ _ _) _) _ _ _ | show wpAny _ _ (pyIter _) _ _ _)); ((fail_if_success with_reducible first | show wpAny _ _ (eval (PySem.Expr.ListComp _ _ _ _) _) _ _ _)); ((fail_if_success with_reducible first | show wpAny _ _ (subscriptTail _ _ _ _) _ _ _)); (fail_if_success with_reducible first | show wpAny _ _ (exec (Stmt.Assign [PySem.Expr.Name _ _] (PySem.Expr.ListComp _ _ _ _) _) _) _ _ _ | show wpAny _ _ (compareOp _ _ _) _ _ _ | show wpAny _ _ (call (Value.builtin "max") _) _ _ _ | show wpAny _ _ (call (Value.builtin "list.index") _) _ _ _ | show wpAny _ _ (call (Value.builtin "len") _) _ _ _ | show wpAny _ _ (call (Value.builtin "list.append") _) _ _ _); ((first | (k_unfold; (try dsimp only)) | (k_end; wrow_close) | walk1 | (dsimp only; walk1) | (leave1; walk_say "STEP leave1"; try dsimp only) | fail "no step"))))
  rename IsRange _ _ _ _ _ _ _ _ => hR
  rename News _ _ _ _ => N15
  rename Fr _ _ _ _ => F15
  refine cw_range (n := W.length) (fun j ys => (∀ v ∈ ys, IsI v) ∧ ys.map intOf = (List.range j).filterMap fun (i : Nat) => if W[i]? = some (D.getD M.toNat 0, x) then some (i : Int) else none) rfl rfl (by decide) hR (small1 (hWl ▸ htl)) (size1 (hWl ▸ htl)) (by rw [sizeLine_eq]; omega) F15 N15 ⟨fun _ h => (nomatch h), rfl⟩ ?_ ?_
  · clear hPQ hyes hno
    intro j t ys I oI C oC D4 m₂ h5 tk5 E' hi hJ hC hx F5 N5 o3 ne3
    clear F15 N15 hR
    have hix : 0 + (j : Int) * 1 = (j : Int) := by omega
    rw [hix] at hx
    obtain ⟨⟨wa, wb⟩, hwj⟩ : ∃ e, W[j]? = some e := ⟨_, List.getElem?_eq_getElem hi⟩
    obtain ⟨T', u1, u2, htj⟩ : ∃ T t1 t2, ts[j]? = some (T, [.int wa t1, .int wb t2]) := by
      have := hts j
      rw [hwj] at this
      exact this
    have hrs : (List.range (j + 1)).filterMap (fun (i : Nat) => if W[i]? = some (D.getD M.toNat 0, x) then some (i : Int) else none) = (List.range j).filterMap (fun (i : Nat) => if W[i]? = some (D.getD M.toNat 0, x) then some (i : Int) else none) ++ if (wa, wb) = (D.getD M.toNat 0, x) then [(j : Int)] else [] := by
      rw [List.range_succ, List.filterMap_append]
      congr 1
      simp only [List.filterMap_cons, List.filterMap_nil, hwj, Option.some.injEq]
      split <;> rename_i hh
      · rw [if_neg]
        intro e; rw [if_pos e] at hh; cases hh
      · by_cases e : (wa, wb) = (D.getD M.toNat 0, x)
        · rw [if_pos e] at hh ⊢; cases hh; rfl
        · rw [if_neg e] at hh; cases hh
    have hy2 : (wa, wb) = (D.getD M.toNat 0, x) → ∀ t, (∀ v ∈ ys ++ [Value.int (j : Int) t], IsI v) ∧ (ys ++ [Value.int (j : Int) t]).map intOf = (List.range (j + 1)).filterMap fun (i : Nat) => if W[i]? = some (D.getD M.toNat 0, x) then some (i : Int) else none := fun hf t => ⟨fun v hv => by
      rcases List.mem_append.mp hv with h | h
      · exact hJ.1 v h
      · rw [List.mem_singleton.mp h]; exact ⟨_, _, rfl⟩, by rw [hrs, if_pos hf, List.map_append, hJ.2]; rfl⟩
    have hn2 : (wa, wb) ≠ (D.getD M.toNat 0, x) → (∀ v ∈ ys, IsI v) ∧ ys.map intOf = (List.range (j + 1)).filterMap fun (i : Nat) => if W[i]? = some (D.getD M.toNat 0, x) then some (i : Int) else none := fun hf => ⟨hJ.1, by rw [hrs, if_neg hf, List.append_nil]; exact hJ.2⟩
    clear hJ hrs
    have hTm : (T', tupOf #[.int wa u1, .int wb u2] 0) ∈ rest := htr _ (tupL_mem htj)
    have hrj : (refL ts)[((j : Nat) : Int).toNat]? = some (.ref T') := by
      rw [Int.toNat_natCast]; unfold refL; rw [List.getElem?_map, htj]; rfl
    refine wpAny_tests_one ?_
    (repeat' (((fail_if_success with_reducible first | show wpAny _ _ (call (Value.ref _) _ _) _ _ _ | show wpAny _ _ (exec (Stmt.For _ _ _ _ _) _) _ _ _ | show wpAny _ _ (exec (Stmt.While _ _ _ _) _) _ _ _ | show wpAny _ _ (pyIter _) _ _ _)); ((fail_if_success with_reducible first | show wpAny _ _ (eval (PySem.Expr.ListComp _ _ _ _) _) _ _ _)); ((fail_if_success with_reducible first | show wpAny _ _ (subscriptTail _ _ _ _) _ _ _)); (fail_if_success with_reducible first | show wpAny _ _ (exec (Stmt.Assign [PySem.Expr.Name _ _] (PySem.Expr.ListComp _ _ _ _) _) _) _ _ _ | show wpAny _ _ (compareOp _ _ _) _ _ _ | show wpAny _ _ (call (Value.builtin "max") _) _ _ _ | show wpAny _ _ (call (Value.builtin "list.index") _) _ _ _ | show wpAny _ _ (call (Value.builtin "len") _) _ _ _ | show wpAny _ _ (call (Value.builtin "list.append") _) _ _ _); ((first | (k_unfold; (try dsimp only)) | (k_end; wrow_close) | walk1 | (dsimp only; walk1) | (leave1; walk_say "STEP leave1"; try dsimp only) | fail "no step"))))
    refine item_led N5 (.tail _ (.tail _ (.tail _ (.tail _ (.tail _ (.tail _ (.tail _ (.tail _ (.tail _ (.tail _ hwr)))))))))) (by omega) hrj (by unfold refL; rw [List.length_map]; omega) ?_
    (repeat' (((fail_if_success with_reducible first | show wpAny _ _ (call (Value.ref _) _ _) _ _ _ | show wpAny _ _ (exec (Stmt.For _ _ _ _ _) _) _ _ _ | show wpAny _ _ (exec (Stmt.While _ _ _ _) _) _ _ _ | show wpAny _ _ (pyIter _) _ _ _)); ((fail_if_success with_reducible first | show wpAny _ _ (eval (PySem.Expr.ListComp _ _ _ _) _) _ _ _)); ((fail_if_success with_reducible first | show wpAny _ _ (subscriptTail _ _ _ _) _ _ _)); (fail_if_success with_reducible first | show wpAny _ _ (exec (Stmt.Assign [PySem.Expr.Name _ _] (PySem.Expr.ListComp _ _ _ _) _) _) _ _ _ | show wpAny _ _ (compareOp _ _ _) _ _ _ | show wpAny _ _ (call (Value.builtin "max") _) _ _ _ | show wpAny _ _ (call (Value.builtin "list.index") _) _ _ _ | show wpAny _ _ (call (Value.builtin "len") _) _ _ _ | show wpAny _ _ (call (Value.builtin "list.append") _) _ _ _); ((first | (k_unfold; (try dsimp only)) | (k_end; wrow_close) | walk1 | (dsimp only; walk1) | (leave1; walk_say "STEP leave1"; try dsimp only) | fail "no step"))))
    refine item_led N5 (show (dl, listOf dvs.toArray ed) ∈ _ by walk_at "elem") hM0 hdv (by omega) ?_
    (repeat' (((fail_if_success with_reducible first | show wpAny _ _ (call (Value.ref _) _ _) _ _ _ | show wpAny _ _ (exec (Stmt.For _ _ _ _ _) _) _ _ _ | show wpAny _ _ (exec (Stmt.While _ _ _ _) _) _ _ _ | show wpAny _ _ (pyIter _) _ _ _)); ((fail_if_success with_reducible first | show wpAny _ _ (eval (PySem.Expr.ListComp _ _ _ _) _) _ _ _)); ((fail_if_success with_reducible first | show wpAny _ _ (subscriptTail _ _ _ _) _ _ _)); (fail_if_success with_reducible first | show wpAny _ _ (exec (Stmt.Assign [PySem.Expr.Name _ _] (PySem.Expr.ListComp _ _ _ _) _) _) _ _ _ | show wpAny _ _ (compareOp _ _ _) _ _ _ | show wpAny _ _ (call (Value.builtin "max") _) _ _ _ | show wpAny _ _ (call (Value.builtin "list.index") _) _ _ _ | show wpAny _ _ (call (Value.builtin "len") _) _ _ _ | show wpAny _ _ (call (Value.builtin "list.append") _) _ _ _); ((first | (k_unfold; (try dsimp only)) | (k_end; wrow_close) | walk1 | (dsimp only; walk1) | (leave1; walk_say "STEP leave1"; try dsimp only) | fail "no step"))))
    rename News _ _ _ _ => N6
    rename Fr _ _ _ _ => F6
    refine eq_pair N6 (.tail _ (.tail _ (.tail _ (.tail _ (.tail _ (.tail _ (.tail _ (.tail _ (.tail _ (.tail _ (.tail _ hTm))))))))))) (.head _) (u64 hun) ?_
    by_cases hab : (wa, wb) = (D.getD M.toNat 0, x)
    · rw [decide_eq_true hab]
      (repeat' (((fail_if_success with_reducible first | show wpAny _ _ (call (Value.ref _) _ _) _ _ _ | show wpAny _ _ (exec (Stmt.For _ _ _ _ _) _) _ _ _ | show wpAny _ _ (exec (Stmt.While _ _ _ _) _) _ _ _ | show wpAny _ _ (pyIter _) _ _ _)); ((fail_if_success with_reducible first | show wpAny _ _ (eval (PySem.Expr.ListComp _ _ _ _) _) _ _ _)); ((fail_if_success with_reducible first | show wpAny _ _ (subscriptTail _ _ _ _) _ _ _)); (fail_if_success with_reducible first | show wpAny _ _ (exec (Stmt.Assign [PySem.Expr.Name _ _] (PySem.Expr.ListComp _ _ _ _) _) _) _ _ _ | show wpAny _ _ (compareOp _ _ _) _ _ _ | show wpAny _ _ (call (Value.builtin "max") _) _ _ _ | show wpAny _ _ (call (Value.builtin "list.index") _) _ _ _ | show wpAny _ _ (call (Value.builtin "len") _) _ _ _ | show wpAny _ _ (call (Value.builtin "list.append") _) _ _ _); ((first | (k_unfold; (try dsimp only)) | (k_end; wrow_close) | walk1 | (dsimp only; walk1) | (leave1; walk_say "STEP leave1"; try dsimp only) | fail "no step"))))
      exact ⟨_, _, rfl, F6, News.sub N6 (by walk_at "sub"), hy2 hab _⟩
    · rw [decide_eq_false hab]
      (repeat' (((fail_if_success with_reducible first | show wpAny _ _ (call (Value.ref _) _ _) _ _ _ | show wpAny _ _ (exec (Stmt.For _ _ _ _ _) _) _ _ _ | show wpAny _ _ (exec (Stmt.While _ _ _ _) _) _ _ _ | show wpAny _ _ (pyIter _) _ _ _)); ((fail_if_success with_reducible first | show wpAny _ _ (eval (PySem.Expr.ListComp _ _ _ _) _) _ _ _)); ((fail_if_success with_reducible first | show wpAny _ _ (subscriptTail _ _ _ _) _ _ _)); (fail_if_success with_reducible first | show wpAny _ _ (exec (Stmt.Assign [PySem.Expr.Name _ _] (PySem.Expr.ListComp _ _ _ _) _) _) _ _ _ | show wpAny _ _ (compareOp _ _ _) _ _ _ | show wpAny _ _ (call (Value.builtin "max") _) _ _ _ | show wpAny _ _ (call (Value.builtin "list.index") _) _ _ _ | show wpAny _ _ (call (Value.builtin "len") _) _ _ _ | show wpAny _ _ (call (Value.builtin "list.append") _) _ _ _); ((first | (k_unfold; (try dsimp only)) | (k_end; wrow_close) | walk1 | (dsimp only; walk1) | (leave1; walk_say "STEP leave1"; try dsimp only) | fail "no step"))))
      exact ⟨_, _, rfl, F6, News.sub N6 (by walk_at "sub"), hn2 hab⟩
  intro D4 ks2 h9 tk9 hJ4 hkl2 F16 N16 hlt16
  clear F15 N15 hR
  (repeat' (((fail_if_success with_reducible first | show wpAny _ _ (call (Value.ref _) _ _) _ _ _ | show wpAny _ _ (exec (Stmt.For _ _ _ _ _) _) _ _ _ | show wpAny _ _ (exec (Stmt.While _ _ _ _) _) _ _ _ | show wpAny _ _ (pyIter _) _ _ _)); ((fail_if_success with_reducible first | show wpAny _ _ (eval (PySem.Expr.ListComp _ _ _ _) _) _ _ _)); ((fail_if_success with_reducible first | show wpAny _ _ (subscriptTail _ _ _ _) _ _ _)); (fail_if_success with_reducible first | show wpAny _ _ (exec (Stmt.Assign [PySem.Expr.Name _ _] (PySem.Expr.ListComp _ _ _ _) _) _) _ _ _ | show wpAny _ _ (compareOp _ _ _) _ _ _ | show wpAny _ _ (call (Value.builtin "max") _) _ _ _ | show wpAny _ _ (call (Value.builtin "list.index") _) _ _ _ | show wpAny _ _ (call (Value.builtin "len") _) _ _ _ | show wpAny _ _ (call (Value.builtin "list.append") _) _ _ _); ((first | (k_unfold; (try dsimp only)) | (k_end; wrow_close) | walk1 | (dsimp only; walk1) | (leave1; walk_say "STEP leave1"; try dsimp only) | fail "no step"))))
  rename News _ _ _ _ => N17
  rename Fr _ _ _ _ => F17
  have hoc2 : (List.range W.length).filterMap (fun (i : Nat) => if W[i]? = some (D.getD M.toNat 0, x) then some (i : Int) else none) = occI W (D.getD (lastI D W x).toNat 0, x) := by rw [hM]; rfl
  rw [hoc2] at hJ4
  refine max_list_N rfl F17 N17 (News.isList N17 (show (D4, lst ks2) ∈ _ by walk_at "elem")) (intsAre_of hJ4.1) (by rw [hJ4.2]; exact List.length_pos_iff.mpr hocc) ?_
  intro h10 M2 tM2 tk10 F18 N18 hN1 hN2
  rw [hJ4.2] at hN1 hN2
  have hM2 : M2 = kI D W x := maxD_eq occ_nonneg hN1 hN2
  have q5 : @LT.lt Nat _ wd D4 := hlt16 (wd, listOf (refL tw).toArray ew) (.tail _ (.tail _ (.tail _ (.tail _ (.tail _ (.tail _ (.head _)))))))
  clear F17 N17 hlt16
  (repeat' (((fail_if_success with_reducible first | show wpAny _ _ (call (Value.ref _) _ _) _ _ _ | show wpAny _ _ (exec (Stmt.For _ _ _ _ _) _) _ _ _ | show wpAny _ _ (exec (Stmt.While _ _ _ _) _) _ _ _ | show wpAny _ _ (pyIter _) _ _ _)); ((fail_if_success with_reducible first | show wpAny _ _ (eval (PySem.Expr.ListComp _ _ _ _) _) _ _ _)); ((fail_if_success with_reducible first | show wpAny _ _ (subscriptTail _ _ _ _) _ _ _)); (fail_if_success with_reducible first | show wpAny _ _ (exec (Stmt.Assign [PySem.Expr.Name _ _] (PySem.Expr.ListComp _ _ _ _) _) _) _ _ _ | show wpAny _ _ (compareOp _ _ _) _ _ _ | show wpAny _ _ (call (Value.builtin "max") _) _ _ _ | show wpAny _ _ (call (Value.builtin "list.index") _) _ _ _ | show wpAny _ _ (call (Value.builtin "len") _) _ _ _ | show wpAny _ _ (call (Value.builtin "list.append") _) _ _ _); ((first | (k_unfold; (try dsimp only)) | (k_end; wrow_close) | walk1 | (dsimp only; walk1) | (leave1; walk_say "STEP leave1"; try dsimp only) | fail "no step"))))
  rename _ ∧ _ ∧ _ ∧ _ ∧ _ ∧ _ ∧ _ ∧ _ ∧ AllLt _ rest => l1
  rename Addr => Tn
  have q6 : @LT.lt Nat _ wd Tn := l1.2.2.2.2.2.2.2.1
  refine' append_K ?k1 ?k2 ?k3 ?_ ?z
  case k1 => k_asm
  case k2 => k_asm
  case k3 => k_upd
  case z => simp only [List.size_toArray, refL, List.length_map]; rw [sizeLine_eq]; omega
  intro h11 F19 N19
  rw [List.push_toArray] at N19
  (repeat' (((fail_if_success with_reducible first | show wpAny _ _ (call (Value.ref _) _ _) _ _ _ | show wpAny _ _ (exec (Stmt.For _ _ _ _ _) _) _ _ _ | show wpAny _ _ (exec (Stmt.While _ _ _ _) _) _ _ _ | show wpAny _ _ (pyIter _) _ _ _)); ((fail_if_success with_reducible first | show wpAny _ _ (eval (PySem.Expr.ListComp _ _ _ _) _) _ _ _)); ((fail_if_success with_reducible first | show wpAny _ _ (subscriptTail _ _ _ _) _ _ _)); (fail_if_success with_reducible first | show wpAny _ _ (exec (Stmt.Assign [PySem.Expr.Name _ _] (PySem.Expr.ListComp _ _ _ _) _) _) _ _ _ | show wpAny _ _ (compareOp _ _ _) _ _ _ | show wpAny _ _ (call (Value.builtin "max") _) _ _ _ | show wpAny _ _ (call (Value.builtin "list.index") _) _ _ _ | show wpAny _ _ (call (Value.builtin "len") _) _ _ _ | show wpAny _ _ (call (Value.builtin "list.append") _) _ _ _); ((first | (k_unfold; (try dsimp only)) | (k_end; wrow_close) | walk1 | (dsimp only; walk1) | (leave1; walk_say "STEP leave1"; try dsimp only) | fail "no step"))))
  refine hPQ _ _ (hyes hwt _ _ c4n _ Tn (ew + 1) tM tM2 tx hc4n ?_ F19 (News.sub N19 ?_))
  · exact allLt_mem (l := (L + 1 + 1 + 1 + 1, c4) :: (L + 1 + 1, cx) :: (L + 1 + 1 + 1, c3) :: (L + 1, c1) :: (bl, listOf zs.toArray eb) :: (dl, listOf dvs.toArray ed) :: (wd, listOf (refL tw).toArray ew) :: rest) l1.2
  · rw [← hM, ← hM2]
    walk_at "sub"
end
end
section
set_option maxHeartbeats 8000000
theorem frag_on34 : (fun (_ : Params → Frag) => PySem.Challenge.rw_cy0005_01.Holds) KF → True := by
  k_fill
  intro _; trivial
open PySem.Calls PyProof.Rows.TI PyProof.Rows.LCg
noncomputable def G6 : List Str := [Str.ofString "group", Str.ofString "waiting", Str.ofString "before", Str.ofString "k", Str.ofString "a", Str.ofString "b"]
noncomputable abbrev mGrp (sl S nl gl : Addr) (u : Str → Option Value) : Str → Option Value := fun y => if y = Str.ofString "group" then some (.ref gl) else if G6.contains y then u y else mLaw sl S nl y
theorem drop1 {x : Str} {a : Option Value} {u g : Str → Option Value} : (fun y => if y = x then a else if [x].contains y then u y else g y) = fun y => if y = x then a else g y := by
  funext y
  by_cases h : y = x
  · simp only [h, if_true]
  · have : [x].contains y = false := by simp [h]
    simp only [h, this, if_false, Bool.false_eq_true]
theorem waitW_take {D : List Int} {W : List (Int × Int)} {K : List Int} {i : Nat} {x : Int} (hx : K[i]? = some x) : waitW D W (K.take (i + 1)) = waitW D W (K.take i) ++ if waitP D W x = true then [triW D W x] else [] := by
  unfold waitW
  rw [List.take_add_one, hx, List.filter_append, List.map_append]
  congr 1
  by_cases e : waitP D W x = true
  · simp [e]
  · simp [e]
theorem waitW_len {D : List Int} {W : List (Int × Int)} {K : List Int} : (waitW D W K).length ≤ K.length := by
  unfold waitW
  rw [List.length_map]
  exact List.length_filter_le _ _
section
variable {w : World} {A₀ A : Around} {base h₀ : Heap} {L fa : Addr} {cv : Value} {m mg mb : Str → Option Value} {p : Program} {loose : List Str} {mean : ExcName → Option Value} {s : Shared}
  {Q : Flow → Shared → Prop} {E : Value → Shared → Prop}
/-- for x in named: who is next, with its place -/
theorem l_wait {c1 cx c3 c4 : Obj} {sl S nl gl wl dl wd : Addr} {nvs dvs : List Value} {ts : List (Addr × List Value)} {W : List (Int × Int)} {K D : List Int} {rest : List (Addr × Obj)} {e1 e2 ed : Nat} {v2 v4 : Option Value} {u : Str → Option Value}
    (hh : A.handled = none) (hfr : A.frames = some [lawE L fa cv]) (hdp : A.depth < 600) (hun : A.units ≤ 50) (B : Below A₀ base [] h₀) (X₀ : (KF w.params).In h₀) (T : Top p loose mean mg mb h₀)
    (F : Fr h₀ L s.heap (fun y => if y = Str.ofString "waiting" then some (.ref wd) else mGrp sl S nl gl u y))
    (N : News h₀ L s.heap ((L + 1 + 1 + 1 + 1, c4) :: (L + 1 + 1, cx) :: (wd, listOf #[] 0) :: (L + 1 + 1 + 1, c3) :: (L + 1, c1) :: (dl, listOf dvs.toArray ed) :: (nl, listOf nvs.toArray e2) :: rest))
    (hcx : cx.data = .cell v2) (hc1 : c1.data = .cell (some (.ref wl))) (hc3 : c3.data = .cell (some (.ref dl))) (hc4 : c4.data = .cell v4)
    (hnv : ∀ v ∈ nvs, IsI v) (hne : nvs.map intOf = K) (hnl : K.length ≤ 100) (hdi : ∀ v ∈ dvs, IsI v) (hde : dvs.map intOf = D) (hdl : dvs.length ≤ 100)
    (hts : TupsAre ts W) (htl : ts.length ≤ 100) (hwr : (wl, listOf (refL ts).toArray e1) ∈ rest) (htr : ∀ q ∈ tupL ts, q ∈ rest)
    (lw : ∀ q ∈ (L + 1 + 1 + 1, c3) :: (L + 1, c1) :: (dl, listOf dvs.toArray ed) :: (nl, listOf nvs.toArray e2) :: rest, q.1 < wd) (lw4 : @LT.lt Nat _ (L + 1 + 1 + 1 + 1) wd)
    (o4 : ∀ q ∈ (L + 1 + 1 + 1, c3) :: (L + 1, c1) :: (dl, listOf dvs.toArray ed) :: (nl, listOf nvs.toArray e2) :: rest, q.1 ≠ L + 1 + 1 + 1 + 1) (o2 : ∀ q ∈ (L + 1 + 1 + 1, c3) :: (L + 1, c1) :: (dl, listOf dvs.toArray ed) :: (nl, listOf nvs.toArray e2) :: rest, q.1 ≠ L + 1 + 1)
    (hbn : ∀ x ∈ K, waitP D W x = true → predE W x ≠ []) (hoc : ∀ x ∈ K, waitP D W x = true → occI W (D.getD (lastI D W x).toNat 0, x) ≠ [])
    (hq : ∀ h' tk' m' c4' cx' v4' v2' tw ew, c4'.data = .cell v4' → cx'.data = .cell v2' → TripsAre tw (waitW D W K) → (∀ q ∈ tupL tw, @LT.lt Nat _ wd q.1) → Agr [Str.ofString "before"] (fun y => if y = Str.ofString "waiting" then some (.ref wd) else mGrp sl S nl gl u y) m' → Fr h₀ L h' m' →
      News h₀ L h' ((L + 1 + 1 + 1 + 1, c4') :: (L + 1 + 1, cx') :: (wd, listOf (refL tw).toArray ew) :: (tupL tw ++ ((L + 1 + 1 + 1, c3) :: (L + 1, c1) :: (dl, listOf dvs.toArray ed) :: (nl, listOf nvs.toArray e2) :: rest))) → Q .next { s with heap := h', toks := tk' }) :
    wpAny (model Pr w) A (exec (lawW 1) (lawE L fa cv)) Q E s := by
  obtain ⟨_, d, _, gs, un⟩ := A
  dsimp only at hh hfr hdp hun
  subst hh hfr
  conv in (lawW 1) => whnf
  conv in (occs := *) (lawE L fa cv) => all_goals unfold lawE
  conv in (occs := *) lawS => all_goals whnf
  refine wpAny_For ?_
  (repeat' (((fail_if_success with_reducible first | show wpAny _ _ (call (Value.ref _) _ _) _ _ _ | show wpAny _ _ (exec (Stmt.For _ _ _ _ _) _) _ _ _ | show wpAny _ _ (exec (Stmt.While _ _ _ _) _) _ _ _ | show wpAny _ _ (pyIter _) _ _ _)); ((fail_if_success with_reducible first | show wpAny _ _ (eval (PySem.Expr.ListComp _ _ _ _) _) _ _ _)); ((fail_if_success with_reducible first | show wpAny _ _ (subscriptTail _ _ _ _) _ _ _)); (fail_if_success with_reducible first | show wpAny _ _ (exec (Stmt.Assign [PySem.Expr.Name _ _] (PySem.Expr.ListComp _ _ _ _) _) _) _ _ _ | show wpAny _ _ (exec (Stmt.If _ _ _ _) _) _ _ _ | show wpAny _ _ (compareOp _ _ _) _ _ _ | show wpAny _ _ (call (Value.builtin "sorted") _) _ _ _ | show wpAny _ _ (binaryOp _ (Value.ref _) _) _ _ _); ((first | (k_unfold; (try dsimp only)) | (k_end; wrow_close) | walk1 | (dsimp only; walk1) | (leave1; walk_say "STEP leave1"; try dsimp only) | fail "no step"))))
  obtain ⟨rL, hrL⟩ : ∃ rL, rL = (L + 1 + 1 + 1, c3) :: (L + 1, c1) :: (dl, listOf dvs.toArray ed) :: (nl, listOf nvs.toArray e2) :: rest := ⟨_, rfl⟩
  have mn : (nl, listOf nvs.toArray e2) ∈ rL := by rw [hrL]; walk_at "elem"
  rw [← hrL] at hq
  obtain ⟨mW, hmW⟩ : ∃ mW, mW = (fun y => if y = Str.ofString "waiting" then some (Value.ref wd) else mGrp sl S nl gl u y) := ⟨_, rfl⟩
  rename Fr _ _ _ _ => F1
  rename News _ _ _ _ => N1
  have F2 : Fr h₀ L s.heap mW := by rw [hmW]; exact F1
  rw [← hmW] at hq
  rw [← hrL] at N1 lw o4 o2
  have hnvl : nvs.length = K.length := by rw [← hne]; simp
  have hxN : ∀ j v, nvs[j]? = some v → ∃ x t, v = Value.int x t ∧ K[j]? = some x ∧ x ∈ K := fun j v hv => by
    obtain ⟨x, t, rfl⟩ := hnv v (List.mem_of_getElem? hv)
    have : K[j]? = some x := by rw [← hne, List.getElem?_map, hv]; rfl
    exact ⟨x, t, rfl, this, List.mem_of_getElem? this⟩
  refine for_list (vs := nvs) (ep := e2) (l := nl) (fun i m nx => Agr [Str.ofString "before"] mW m ∧ E6 fun c4' cx' v4' v2' tw ew => A5 (nx = (L + 1 + 1 + 1 + 1, c4') :: (L + 1 + 1, cx') :: (wd, listOf (refL tw).toArray ew) :: (tupL tw ++ rL)) (c4'.data = .cell v4') (cx'.data = .cell v2') (TripsAre tw (waitW D W (K.take i))) (∀ q ∈ tupL tw, @LT.lt Nat _ wd q.1)) rfl F2 N1 ?_
    ⟨Agr.rfl', c4, cx, v4, v2, [], 0, rfl, hc4, hcx, .nil, fun _ h => (nomatch h)⟩ ?_ ?_
  · rintro i m nx ⟨_, c4', cx', v4', v2', tw, ew, rfl, _⟩
    exact .tail _ (.tail _ (.tail _ (List.mem_append_right _ mn)))
  · clear hq F2 F1 N1 hcx hc4
    intro i v m₁ nx h11 tk11 I oI hv hI0 off hit F11 N11
    refine hide fun G hG => ?_
    obtain ⟨hA, c4, cx, v4, v2, tw, ew, rfl, hc4, hcx, htw, hwt⟩ := hI0
    refine hG ?_
    clear hG G
    obtain ⟨x, tx, rfl, hxi, hxm⟩ := hxN i v hv
    have htwl : tw.length ≤ 100 := by
      have h1 := htw.len
      have h2 := waitW_len (D := D) (W := W) (K := K.take i)
      have h3 := List.length_take_le i K
      have h4 := List.length_take_le' i K
      omega
    refine turn_name ?_
    rw [hA.eq] at F11
    generalize m₁ = u1 at F11
    clear hA
    have z4 : ∀ q ∈ tupL tw, @LT.lt Nat _ (L + 1 + 1 + 1 + 1) q.1 := fun q hq => by have := hwt q hq; omega
    have hI4 : @Ne Nat (L + 1 + 1 + 1 + 1) I := off (L + 1 + 1 + 1 + 1, c4) (.head _)
    have hI2 : @Ne Nat (L + 1 + 1) I := off (L + 1 + 1, cx) (.tail _ (.head _))
    have hIw : @Ne Nat wd I := off (wd, listOf (refL tw).toArray ew) (.tail _ (.tail _ (.head _)))
    have hIr : ∀ q ∈ tupL tw ++ rL, q.1 ≠ I := fun q hq => off q (.tail _ (.tail _ (.tail _ hq)))
    obtain ⟨ro, hro⟩ : ∃ ro, ro = (L + 1 + 1 + 1 + 1, c4) :: (I, oI) :: (wd, listOf (refL tw).toArray ew) :: (tupL tw ++ rL) := ⟨_, rfl⟩
    have offro : ∀ q ∈ ro, q.1 ≠ L + 1 + 1 := fun q hq => by
      rw [hro] at hq
      rcases List.mem_cons.mp hq with rfl | hq
      · show @Ne Nat (L + 1 + 1 + 1 + 1) (L + 1 + 1); (first | assumption | exact Ne.symm (by assumption) | exact Nat.ne_of_gt (l1 _) | exact Nat.ne_of_lt (l1 _) | exact Nat.ne_of_gt (l2 _) | exact Nat.ne_of_lt (l2 _) | exact Nat.ne_of_gt (l3 _) | exact Nat.ne_of_lt (l3 _) | exact Nat.ne_of_gt (by assumption) | exact Nat.ne_of_lt (by assumption) | exact Nat.ne_of_gt (g1 (by assumption)) | exact Nat.ne_of_gt (g2 (by assumption)) | exact Nat.ne_of_gt (g3 (by assumption)) | exact Nat.ne_of_lt (g1 (by assumption)) | exact Nat.ne_of_lt (g2 (by assumption)) | exact Nat.ne_of_lt (g3 (by assumption)) | omega)
      rcases List.mem_cons.mp hq with rfl | hq
      · exact hI2.symm
      rcases List.mem_cons.mp hq with rfl | hq
      · show @Ne Nat wd (L + 1 + 1); (first | assumption | exact Ne.symm (by assumption) | exact Nat.ne_of_gt (l1 _) | exact Nat.ne_of_lt (l1 _) | exact Nat.ne_of_gt (l2 _) | exact Nat.ne_of_lt (l2 _) | exact Nat.ne_of_gt (l3 _) | exact Nat.ne_of_lt (l3 _) | exact Nat.ne_of_gt (by assumption) | exact Nat.ne_of_lt (by assumption) | exact Nat.ne_of_gt (g1 (by assumption)) | exact Nat.ne_of_gt (g2 (by assumption)) | exact Nat.ne_of_gt (g3 (by assumption)) | exact Nat.ne_of_lt (g1 (by assumption)) | exact Nat.ne_of_lt (g2 (by assumption)) | exact Nat.ne_of_lt (g3 (by assumption)) | omega)
      rcases List.mem_append.mp hq with hq | hq
      · have := z4 q hq; show @Ne Nat q.1 (L + 1 + 1); (first | assumption | exact Ne.symm (by assumption) | exact Nat.ne_of_gt (l1 _) | exact Nat.ne_of_lt (l1 _) | exact Nat.ne_of_gt (l2 _) | exact Nat.ne_of_lt (l2 _) | exact Nat.ne_of_gt (l3 _) | exact Nat.ne_of_lt (l3 _) | exact Nat.ne_of_gt (by assumption) | exact Nat.ne_of_lt (by assumption) | exact Nat.ne_of_gt (g1 (by assumption)) | exact Nat.ne_of_gt (g2 (by assumption)) | exact Nat.ne_of_gt (g3 (by assumption)) | exact Nat.ne_of_lt (g1 (by assumption)) | exact Nat.ne_of_lt (g2 (by assumption)) | exact Nat.ne_of_lt (g3 (by assumption)) | omega)
      · exact o2 q hq
    have N12 : News h₀ L h11 ((L + 1 + 1, cx) :: ro) := News.sub N11 (by rw [hro]; walk_at "sub")
    clear N11
    (repeat' (((fail_if_success with_reducible first | show wpAny _ _ (call (Value.ref _) _ _) _ _ _ | show wpAny _ _ (exec (Stmt.For _ _ _ _ _) _) _ _ _ | show wpAny _ _ (exec (Stmt.While _ _ _ _) _) _ _ _ | show wpAny _ _ (pyIter _) _ _ _)); ((fail_if_success with_reducible first | show wpAny _ _ (eval (PySem.Expr.ListComp _ _ _ _) _) _ _ _)); ((fail_if_success with_reducible first | show wpAny _ _ (subscriptTail _ _ _ _) _ _ _)); (fail_if_success with_reducible first | show wpAny _ _ (exec (Stmt.Assign [PySem.Expr.Name _ _] (PySem.Expr.ListComp _ _ _ _) _) _) _ _ _ | show wpAny _ _ (exec (Stmt.If _ _ _ _) _) _ _ _ | show wpAny _ _ (compareOp _ _ _) _ _ _ | show wpAny _ _ (call (Value.builtin "sorted") _) _ _ _ | show wpAny _ _ (binaryOp _ (Value.ref _) _) _ _ _); ((first | (k_unfold; (try dsimp only)) | (k_end; wrow_close) | walk1 | (dsimp only; walk1) | (leave1; walk_say "STEP leave1"; try dsimp only) | fail "no step"))))
    rename _ = Data.cell (some (.int x tx)) => hcx2
    rename Obj => cx2
    rename News _ _ _ _ => N13
    rename Fr _ _ _ _ => F13
    obtain ⟨ro2, hro2⟩ : ∃ ro2, ro2 = (L + 1 + 1 + 1 + 1, c4) :: (I, oI) :: (wd, listOf (refL tw).toArray ew) :: (tupL tw ++ ((L + 1 + 1 + 1, c3) :: (dl, listOf dvs.toArray ed) :: (nl, listOf nvs.toArray e2) :: rest)) := ⟨_, rfl⟩
    have mr2 : ∀ q ∈ rest, q ∈ ro2 := fun q hq => by rw [hro2]; exact .tail _ (.tail _ (.tail _ (List.mem_append_right _ (.tail _ (.tail _ (.tail _ hq))))))
    have N14 : News h₀ L _ ((L + 1 + 1, cx2) :: (L + 1, c1) :: ro2) := News.sub N13 (by rw [hro2, hro, hrL]; walk_at "sub")
    clear N13
    refine l_before (x := x) (tx := tx) (ts := ts) (W := W) (e1 := e1) (rest := ro2) rfl rfl (ltu hdp rfl) hun X₀ T F13 N14 hcx2 hc1 hts htl (mr2 _ hwr) (fun q hq => mr2 q (htr q hq)) ?_
    intro h15 tk15 bl zs hzi hze hzl hltb F15 N15
    clear N14 F13
    rw [drop1, hmW] at F15
    (repeat' (((fail_if_success with_reducible first | show wpAny _ _ (call (Value.ref _) _ _) _ _ _ | show wpAny _ _ (exec (Stmt.For _ _ _ _ _) _) _ _ _ | show wpAny _ _ (exec (Stmt.While _ _ _ _) _) _ _ _ | show wpAny _ _ (pyIter _) _ _ _)); ((fail_if_success with_reducible first | show wpAny _ _ (eval (PySem.Expr.ListComp _ _ _ _) _) _ _ _)); ((fail_if_success with_reducible first | show wpAny _ _ (subscriptTail _ _ _ _) _ _ _)); (fail_if_success with_reducible first | show wpAny _ _ (exec (Stmt.Assign [PySem.Expr.Name _ _] (PySem.Expr.ListComp _ _ _ _) _) _) _ _ _ | show wpAny _ _ (exec (Stmt.If _ _ _ _) _) _ _ _ | show wpAny _ _ (compareOp _ _ _) _ _ _ | show wpAny _ _ (call (Value.builtin "sorted") _) _ _ _ | show wpAny _ _ (binaryOp _ (Value.ref _) _) _ _ _); ((first | (k_unfold; (try dsimp only)) | (k_end; wrow_close) | walk1 | (dsimp only; walk1) | (leave1; walk_say "STEP leave1"; try dsimp only) | fail "no step"))))
    rename News _ _ _ _ => N16
    rename Fr _ _ _ _ => F16
    have hltb2 : ∀ q ∈ ro2, @LT.lt Nat _ q.1 bl := fun q hq => hltb q (.tail _ (.tail _ hq))
    have N17 : News h₀ L _ ((L + 1 + 1 + 1 + 1, c4) :: (L + 1 + 1, cx2) :: (L + 1 + 1 + 1, c3) :: (L + 1, c1) :: (bl, listOf zs.toArray zs.length) :: (dl, listOf dvs.toArray ed) :: (wd, listOf (refL tw).toArray ew) :: ((I, oI) :: (nl, listOf nvs.toArray e2) :: (tupL tw ++ rest))) := News.sub N16 (by rw [hro2]; walk_at "sub")
    clear N16
    have b1 : @LT.lt Nat _ wd bl := hltb2 (wd, listOf (refL tw).toArray ew) (by rw [hro2]; walk_at "elem")
    have b2 : @LT.lt Nat _ I bl := hltb2 (I, oI) (by rw [hro2]; walk_at "elem")
    have g1 : @LT.lt Nat _ dl wd := lw (dl, listOf dvs.toArray ed) (by rw [hrL]; walk_at "elem")
    have g2 : @LT.lt Nat _ nl wd := lw (nl, listOf nvs.toArray e2) mn
    have g3 : ∀ q ∈ rest, @LT.lt Nat _ q.1 wd := fun q hq => lw q (by rw [hrL]; exact .tail _ (.tail _ (.tail _ (.tail _ hq))))
    have r4 : ∀ q ∈ rest, q.1 ≠ L + 1 + 1 + 1 + 1 := fun q hq => o4 q (by rw [hrL]; exact .tail _ (.tail _ (.tail _ (.tail _ hq))))
    have n4 : @Ne Nat nl (L + 1 + 1 + 1 + 1) := o4 (nl, listOf nvs.toArray e2) mn
    have d4 : @Ne Nat dl (L + 1 + 1 + 1 + 1) := o4 (dl, listOf dvs.toArray ed) (by rw [hrL]; walk_at "elem")
    have hbk : ∀ (o : Obj) (a : Addr) (c4' : Obj) (tw' : List (Addr × List Value)) (ew' : Nat), ∀ q ∈ (I, oI) :: (L + 1 + 1 + 1 + 1, c4') :: (L + 1 + 1, cx2) :: (wd, listOf (refL tw').toArray ew') :: (tupL tw ++ rL), q ∈ (L + 1 + 1 + 1 + 1, c4') :: (L + 1 + 1, cx2) :: (L + 1 + 1 + 1, c3) :: (L + 1, c1) :: (bl, listOf zs.toArray zs.length) :: (dl, listOf dvs.toArray ed) :: (wd, listOf (refL tw').toArray ew') :: ((I, oI) :: (nl, listOf nvs.toArray e2) :: (tupL tw ++ rest)) := fun o a c4' tw' ew' => by rw [hrL]; walk_at "sub"
    refine l_if (x := x) (tx := tx) (ts := ts) (tw := tw) (W := W) (D := D) (zs := zs) (dvs := dvs) (e1 := e1) (wl := wl) (bl := bl) (dl := dl) (wd := wd) (c4 := c4) (rest := (I, oI) :: (nl, listOf nvs.toArray e2) :: (tupL tw ++ rest)) rfl rfl (ltu hdp rfl) hun B X₀ T F16 N17 hcx2 hc1 hc3 hc4 hzi hze hzl hdi hde hdl htwl hts htl (.tail _ (.tail _ (List.mem_append_right _ hwr))) (fun q hq => .tail _ (.tail _ (List.mem_append_right _ (htr q hq)))) ?_ ?_ lw4 g1 b1 (hbn x hxm) (hoc x hxm) ?_ ?_
    · intro q hq
      rcases List.mem_cons.mp hq with rfl | hq
      · show @Ne Nat (L + 1 + 1) (L + 1 + 1 + 1 + 1); (first | assumption | exact Ne.symm (by assumption) | exact Nat.ne_of_gt (l1 _) | exact Nat.ne_of_lt (l1 _) | exact Nat.ne_of_gt (l2 _) | exact Nat.ne_of_lt (l2 _) | exact Nat.ne_of_gt (l3 _) | exact Nat.ne_of_lt (l3 _) | exact Nat.ne_of_gt (by assumption) | exact Nat.ne_of_lt (by assumption) | exact Nat.ne_of_gt (g1 (by assumption)) | exact Nat.ne_of_gt (g2 (by assumption)) | exact Nat.ne_of_gt (g3 (by assumption)) | exact Nat.ne_of_lt (g1 (by assumption)) | exact Nat.ne_of_lt (g2 (by assumption)) | exact Nat.ne_of_lt (g3 (by assumption)) | omega)
      rcases List.mem_cons.mp hq with rfl | hq
      · show @Ne Nat (L + 1 + 1 + 1) (L + 1 + 1 + 1 + 1); (first | assumption | exact Ne.symm (by assumption) | exact Nat.ne_of_gt (l1 _) | exact Nat.ne_of_lt (l1 _) | exact Nat.ne_of_gt (l2 _) | exact Nat.ne_of_lt (l2 _) | exact Nat.ne_of_gt (l3 _) | exact Nat.ne_of_lt (l3 _) | exact Nat.ne_of_gt (by assumption) | exact Nat.ne_of_lt (by assumption) | exact Nat.ne_of_gt (g1 (by assumption)) | exact Nat.ne_of_gt (g2 (by assumption)) | exact Nat.ne_of_gt (g3 (by assumption)) | exact Nat.ne_of_lt (g1 (by assumption)) | exact Nat.ne_of_lt (g2 (by assumption)) | exact Nat.ne_of_lt (g3 (by assumption)) | omega)
      rcases List.mem_cons.mp hq with rfl | hq
      · show @Ne Nat (L + 1) (L + 1 + 1 + 1 + 1); (first | assumption | exact Ne.symm (by assumption) | exact Nat.ne_of_gt (l1 _) | exact Nat.ne_of_lt (l1 _) | exact Nat.ne_of_gt (l2 _) | exact Nat.ne_of_lt (l2 _) | exact Nat.ne_of_gt (l3 _) | exact Nat.ne_of_lt (l3 _) | exact Nat.ne_of_gt (by assumption) | exact Nat.ne_of_lt (by assumption) | exact Nat.ne_of_gt (g1 (by assumption)) | exact Nat.ne_of_gt (g2 (by assumption)) | exact Nat.ne_of_gt (g3 (by assumption)) | exact Nat.ne_of_lt (g1 (by assumption)) | exact Nat.ne_of_lt (g2 (by assumption)) | exact Nat.ne_of_lt (g3 (by assumption)) | omega)
      rcases List.mem_cons.mp hq with rfl | hq
      · show @Ne Nat bl (L + 1 + 1 + 1 + 1); (first | assumption | exact Ne.symm (by assumption) | exact Nat.ne_of_gt (l1 _) | exact Nat.ne_of_lt (l1 _) | exact Nat.ne_of_gt (l2 _) | exact Nat.ne_of_lt (l2 _) | exact Nat.ne_of_gt (l3 _) | exact Nat.ne_of_lt (l3 _) | exact Nat.ne_of_gt (by assumption) | exact Nat.ne_of_lt (by assumption) | exact Nat.ne_of_gt (g1 (by assumption)) | exact Nat.ne_of_gt (g2 (by assumption)) | exact Nat.ne_of_gt (g3 (by assumption)) | exact Nat.ne_of_lt (g1 (by assumption)) | exact Nat.ne_of_lt (g2 (by assumption)) | exact Nat.ne_of_lt (g3 (by assumption)) | omega)
      rcases List.mem_cons.mp hq with rfl | hq
      · exact d4
      rcases List.mem_cons.mp hq with rfl | hq
      · show @Ne Nat wd (L + 1 + 1 + 1 + 1); (first | assumption | exact Ne.symm (by assumption) | exact Nat.ne_of_gt (l1 _) | exact Nat.ne_of_lt (l1 _) | exact Nat.ne_of_gt (l2 _) | exact Nat.ne_of_lt (l2 _) | exact Nat.ne_of_gt (l3 _) | exact Nat.ne_of_lt (l3 _) | exact Nat.ne_of_gt (by assumption) | exact Nat.ne_of_lt (by assumption) | exact Nat.ne_of_gt (g1 (by assumption)) | exact Nat.ne_of_gt (g2 (by assumption)) | exact Nat.ne_of_gt (g3 (by assumption)) | exact Nat.ne_of_lt (g1 (by assumption)) | exact Nat.ne_of_lt (g2 (by assumption)) | exact Nat.ne_of_lt (g3 (by assumption)) | omega)
      rcases List.mem_cons.mp hq with rfl | hq
      · exact hI4.symm
      rcases List.mem_cons.mp hq with rfl | hq
      · exact n4
      rcases List.mem_append.mp hq with hq | hq
      · have := z4 q hq; show @Ne Nat q.1 (L + 1 + 1 + 1 + 1); (first | assumption | exact Ne.symm (by assumption) | exact Nat.ne_of_gt (l1 _) | exact Nat.ne_of_lt (l1 _) | exact Nat.ne_of_gt (l2 _) | exact Nat.ne_of_lt (l2 _) | exact Nat.ne_of_gt (l3 _) | exact Nat.ne_of_lt (l3 _) | exact Nat.ne_of_gt (by assumption) | exact Nat.ne_of_lt (by assumption) | exact Nat.ne_of_gt (g1 (by assumption)) | exact Nat.ne_of_gt (g2 (by assumption)) | exact Nat.ne_of_gt (g3 (by assumption)) | exact Nat.ne_of_lt (g1 (by assumption)) | exact Nat.ne_of_lt (g2 (by assumption)) | exact Nat.ne_of_lt (g3 (by assumption)) | omega)
      · exact r4 q hq
    · intro q hq
      rcases List.mem_cons.mp hq with rfl | hq
      · exact hIw.symm
      rcases List.mem_cons.mp hq with rfl | hq
      · show @Ne Nat nl wd; (first | assumption | exact Ne.symm (by assumption) | exact Nat.ne_of_gt (l1 _) | exact Nat.ne_of_lt (l1 _) | exact Nat.ne_of_gt (l2 _) | exact Nat.ne_of_lt (l2 _) | exact Nat.ne_of_gt (l3 _) | exact Nat.ne_of_lt (l3 _) | exact Nat.ne_of_gt (by assumption) | exact Nat.ne_of_lt (by assumption) | exact Nat.ne_of_gt (g1 (by assumption)) | exact Nat.ne_of_gt (g2 (by assumption)) | exact Nat.ne_of_gt (g3 (by assumption)) | exact Nat.ne_of_lt (g1 (by assumption)) | exact Nat.ne_of_lt (g2 (by assumption)) | exact Nat.ne_of_lt (g3 (by assumption)) | omega)
      rcases List.mem_append.mp hq with hq | hq
      · have := hwt q hq; show @Ne Nat q.1 wd; (first | assumption | exact Ne.symm (by assumption) | exact Nat.ne_of_gt (l1 _) | exact Nat.ne_of_lt (l1 _) | exact Nat.ne_of_gt (l2 _) | exact Nat.ne_of_lt (l2 _) | exact Nat.ne_of_gt (l3 _) | exact Nat.ne_of_lt (l3 _) | exact Nat.ne_of_gt (by assumption) | exact Nat.ne_of_lt (by assumption) | exact Nat.ne_of_gt (g1 (by assumption)) | exact Nat.ne_of_gt (g2 (by assumption)) | exact Nat.ne_of_gt (g3 (by assumption)) | exact Nat.ne_of_lt (g1 (by assumption)) | exact Nat.ne_of_lt (g2 (by assumption)) | exact Nat.ne_of_lt (g3 (by assumption)) | omega)
      · have := g3 q hq; show @Ne Nat q.1 wd; (first | assumption | exact Ne.symm (by assumption) | exact Nat.ne_of_gt (l1 _) | exact Nat.ne_of_lt (l1 _) | exact Nat.ne_of_gt (l2 _) | exact Nat.ne_of_lt (l2 _) | exact Nat.ne_of_gt (l3 _) | exact Nat.ne_of_lt (l3 _) | exact Nat.ne_of_gt (by assumption) | exact Nat.ne_of_lt (by assumption) | exact Nat.ne_of_gt (g1 (by assumption)) | exact Nat.ne_of_gt (g2 (by assumption)) | exact Nat.ne_of_gt (g3 (by assumption)) | exact Nat.ne_of_lt (g1 (by assumption)) | exact Nat.ne_of_lt (g2 (by assumption)) | exact Nat.ne_of_lt (g3 (by assumption)) | omega)
    · intro hwp h18 tk18 c4n v4n Tn en t1 t2 t3 hc4n hltn F18 N18
      have hTn : @LT.lt Nat _ wd Tn := hltn (wd, listOf (refL tw).toArray ew) (by walk_at "elem")
      have hTI : @LT.lt Nat _ I Tn := hltn (I, oI) (by walk_at "elem")
      (repeat' (((fail_if_success with_reducible first | show wpAny _ _ (call (Value.ref _) _ _) _ _ _ | show wpAny _ _ (exec (Stmt.For _ _ _ _ _) _) _ _ _ | show wpAny _ _ (exec (Stmt.While _ _ _ _) _) _ _ _ | show wpAny _ _ (pyIter _) _ _ _)); ((fail_if_success with_reducible first | show wpAny _ _ (eval (PySem.Expr.ListComp _ _ _ _) _) _ _ _)); ((fail_if_success with_reducible first | show wpAny _ _ (subscriptTail _ _ _ _) _ _ _)); (fail_if_success with_reducible first | show wpAny _ _ (exec (Stmt.Assign [PySem.Expr.Name _ _] (PySem.Expr.ListComp _ _ _ _) _) _) _ _ _ | show wpAny _ _ (exec (Stmt.If _ _ _ _) _) _ _ _ | show wpAny _ _ (compareOp _ _ _) _ _ _ | show wpAny _ _ (call (Value.builtin "sorted") _) _ _ _ | show wpAny _ _ (binaryOp _ (Value.ref _) _) _ _ _); ((first | (k_unfold; (try dsimp only)) | (k_end; wrow_close) | walk1 | (dsimp only; walk1) | (leave1; walk_say "STEP leave1"; try dsimp only) | fail "no step"))))
      rename News _ _ _ _ => N19
      rename Fr _ _ _ _ => F19
      have er : refL tw ++ [Value.ref Tn] = refL (tw ++ [(Tn, [Value.int (lastI D W x) t1, Value.int (kI D W x) t2, Value.int x t3])]) := by unfold refL; rw [List.map_append]; rfl
      rw [er] at N19
      have et : ∀ q, q ∈ tupL (tw ++ [(Tn, [Value.int (lastI D W x) t1, Value.int (kI D W x) t2, Value.int x t3])]) → q ∈ tupL tw ∨ q = (Tn, tupOf #[Value.int (lastI D W x) t1, Value.int (kI D W x) t2, Value.int x t3] 0) := fun q hq => by
        rw [tupL_app] at hq
        rcases List.mem_append.mp hq with h | h
        · exact .inl h
        · exact .inr (List.mem_singleton.mp h)
      refine ⟨_, _, _, _, rfl, F19, News.sub N19 (l' := (I, oI) :: (L + 1 + 1 + 1 + 1, c4n) :: (L + 1 + 1, cx2) :: (wd, listOf (refL (tw ++ [(Tn, [Value.int (lastI D W x) t1, Value.int (kI D W x) t2, Value.int x t3])])).toArray en) :: (tupL (tw ++ [(Tn, [Value.int (lastI D W x) t1, Value.int (kI D W x) t2, Value.int x t3])]) ++ rL)) ?_, ?_, ?_, c4n, cx2, v4n, _, _, en, rfl, hc4n, hcx2, ?_, ?_⟩
      · intro q hq
        rcases List.mem_cons.mp hq with rfl | hq
        · walk_at "elem"
        rcases List.mem_cons.mp hq with rfl | hq
        · walk_at "elem"
        rcases List.mem_cons.mp hq with rfl | hq
        · walk_at "elem"
        rcases List.mem_cons.mp hq with rfl | hq
        · walk_at "elem"
        rcases List.mem_append.mp hq with hq | hq
        · rcases et q hq with h | h
          · exact .tail _ (.tail _ (.tail _ (.tail _ (.tail _ (.tail _ (.tail _ (.tail _ (.tail _ (.tail _ (List.mem_append_left _ h))))))))))
          · rw [h]; exact .head _
        · exact .tail _ (hbk oI 0 _ _ _ q (.tail _ (.tail _ (.tail _ (.tail _ (List.mem_append_right _ hq))))))
      · intro q hq
        rcases List.mem_cons.mp hq with rfl | hq
        · exact hI4
        rcases List.mem_cons.mp hq with rfl | hq
        · exact hI2
        rcases List.mem_cons.mp hq with rfl | hq
        · exact hIw
        rcases List.mem_append.mp hq with hq | hq
        · rcases et q hq with h | h
          · exact hIr q (List.mem_append_left _ h)
          · rw [h]; show @Ne Nat Tn I; (first | assumption | exact Ne.symm (by assumption) | exact Nat.ne_of_gt (l1 _) | exact Nat.ne_of_lt (l1 _) | exact Nat.ne_of_gt (l2 _) | exact Nat.ne_of_lt (l2 _) | exact Nat.ne_of_gt (l3 _) | exact Nat.ne_of_lt (l3 _) | exact Nat.ne_of_gt (by assumption) | exact Nat.ne_of_lt (by assumption) | exact Nat.ne_of_gt (g1 (by assumption)) | exact Nat.ne_of_gt (g2 (by assumption)) | exact Nat.ne_of_gt (g3 (by assumption)) | exact Nat.ne_of_lt (g1 (by assumption)) | exact Nat.ne_of_lt (g2 (by assumption)) | exact Nat.ne_of_lt (g3 (by assumption)) | omega)
        · exact hIr q (List.mem_append_right _ hq)
      · rw [hmW]; exact Agr.put rfl Agr.rfl'
      · rw [waitW_take hxi, if_pos hwp]
        exact htw.snoc _ _ _ _ _ _ _
      · intro q hq
        rcases et q hq with h | h
        · exact hwt q h
        · rw [h]; exact hTn
    · intro hwp h18 tk18 F18 N18
      (repeat' (((fail_if_success with_reducible first | show wpAny _ _ (call (Value.ref _) _ _) _ _ _ | show wpAny _ _ (exec (Stmt.For _ _ _ _ _) _) _ _ _ | show wpAny _ _ (exec (Stmt.While _ _ _ _) _) _ _ _ | show wpAny _ _ (pyIter _) _ _ _)); ((fail_if_success with_reducible first | show wpAny _ _ (eval (PySem.Expr.ListComp _ _ _ _) _) _ _ _)); ((fail_if_success with_reducible first | show wpAny _ _ (subscriptTail _ _ _ _) _ _ _)); (fail_if_success with_reducible first | show wpAny _ _ (exec (Stmt.Assign [PySem.Expr.Name _ _] (PySem.Expr.ListComp _ _ _ _) _) _) _ _ _ | show wpAny _ _ (exec (Stmt.If _ _ _ _) _) _ _ _ | show wpAny _ _ (compareOp _ _ _) _ _ _ | show wpAny _ _ (call (Value.builtin "sorted") _) _ _ _ | show wpAny _ _ (binaryOp _ (Value.ref _) _) _ _ _); ((first | (k_unfold; (try dsimp only)) | (k_end; wrow_close) | walk1 | (dsimp only; walk1) | (leave1; walk_say "STEP leave1"; try dsimp only) | fail "no step"))))
      rename News _ _ _ _ => N19
      rename Fr _ _ _ _ => F19
      refine ⟨_, _, _, _, rfl, F19, News.sub N19 (hbk oI 0 c4 tw ew), ?_, ?_, c4, cx2, v4, _, tw, ew, rfl, hc4, hcx2, ?_, hwt⟩
      · intro q hq
        rcases List.mem_cons.mp hq with rfl | hq
        · exact hI4
        rcases List.mem_cons.mp hq with rfl | hq
        · exact hI2
        rcases List.mem_cons.mp hq with rfl | hq
        · exact hIw
        · exact hIr q hq
      · rw [hmW]; exact Agr.put rfl Agr.rfl'
      · rw [waitW_take hxi, if_neg (by rw [hwp]; exact Bool.false_ne_true), List.append_nil]
        exact htw
  · intro m₁ nx h11 tk11 hI0 F11 N11
    refine hide fun G hG => ?_
    obtain ⟨hA, c4, cx, v4, v2, tw, ew, rfl, hc4, hcx, htw, hwt⟩ := hI0
    refine hG ?_
    clear hG G
    rw [hnvl, List.take_length] at htw
    exact hq _ _ m₁ c4 cx v4 v2 tw ew hc4 hcx htw hwt hA F11 N11
end
end
section
set_option maxHeartbeats 8000000
theorem frag_on35 : (fun (_ : Params → Frag) => PySem.Challenge.rw_cy0005_01.Holds) KF → True := by
  k_fill
  intro _; trivial
open PySem.Calls PyProof.Rows.TI PyProof.Rows.LCg
theorem grp_back {sl S nl gl : Addr} {g : Str → Option Value} (h : Agr G6 (mLaw sl S nl) g) : (fun y => if y = Str.ofString "group" then some (Value.ref gl) else g y) = mGrp sl S nl gl g := by
  funext y
  show _ = if y = Str.ofString "group" then some (Value.ref gl) else if G6.contains y then g y else mLaw sl S nl y
  by_cases e : y = Str.ofString "group"
  · rw [if_pos e, if_pos e]
  · rw [if_neg e, if_neg e]; exact congrFun h.eq y
/-- ahead of a turn of the groups -/
inductive WV (s : Shared) (h₀ : Heap) (L sl S nl : Addr) (c1 : Obj) (nvs : List Value) (e2 : Nat) (rest : List (Addr × Obj)) (P : List (Int × Int)) (n : Nat) (s1 : Shared) : Prop
  | mk (h : Heap) (tk : Tok) (u : Str → Option Value) (c4 cx c3 : Obj) (v4 v2 : Option Value) (dl gl : Addr) (dvs gvs : List Value) (ed eg : Nat) (ex : List (Addr × Obj)) (dn r : List Int) (hn : n + dn.length = (keysP P).length + 1) (he : s1 = { s with heap := h, toks := tk }) (hF : Fr h₀ L h (mGrp sl S nl gl u))
    (hN : News h₀ L h ((L + 1 + 1 + 1 + 1, c4) :: (L + 1 + 1, cx) :: (L + 1 + 1 + 1, c3) :: (dl, listOf dvs.toArray ed) :: (ex ++ (L + 1, c1) :: (nl, listOf nvs.toArray e2) :: rest))) (hc4 : c4.data = .cell v4) (hcx : cx.data = .cell v2) (hc3 : c3.data = .cell (some (.ref dl)))
    (hdi : ∀ v ∈ dvs, IsI v) (hde : dvs.map intOf = dn ++ r) (hgi : ∀ v ∈ gvs, IsI v) (hge : gvs.map intOf = r) (hgm : (gl, listOf gvs.toArray eg) ∈ (dl, listOf dvs.toArray ed) :: ex) (hli : LI P dn r) (hlx : ∀ q ∈ (dl, listOf dvs.toArray ed) :: ex, @LT.lt Nat _ (L + 1 + 1 + 1 + 1) q.1 ∧ ∀ p ∈ (nl, listOf nvs.toArray e2) :: rest, @LT.lt Nat _ p.1 q.1)
section
variable {w : World} {A₀ A : Around} {base h₀ : Heap} {L fa : Addr} {cv : Value} {m mg mb : Str → Option Value} {p : Program} {loose : List Str} {mean : ExcName → Option Value} {s : Shared}
  {Q : Flow → Shared → Prop} {E : Value → Shared → Prop}
/-- the groups, till there is none -/
theorem l_while {c1 cx c3 c4 : Obj} {sl S nl wl dl gl : Addr} {nvs dvs gvs : List Value} {ts : List (Addr × List Value)} {P : List (Int × Int)} {r : List Int} {rest ex : List (Addr × Obj)} {e1 e2 ed eg : Nat} {v2 v4 : Option Value} {u : Str → Option Value}
    (hh : A.handled = none) (hfr : A.frames = some [lawE L fa cv]) (hdp : A.depth < 600) (hun : A.units ≤ 50) (B : Below A₀ base [] h₀) (X₀ : (KF w.params).In h₀) (T : Top p loose mean mg mb h₀)
    (F : Fr h₀ L s.heap (mGrp sl S nl gl u)) (N : News h₀ L s.heap ((L + 1 + 1 + 1 + 1, c4) :: (L + 1 + 1, cx) :: (L + 1 + 1 + 1, c3) :: (dl, listOf dvs.toArray ed) :: (ex ++ (L + 1, c1) :: (nl, listOf nvs.toArray e2) :: rest)))
    (hc4 : c4.data = .cell v4) (hcx : cx.data = .cell v2) (hc3 : c3.data = .cell (some (.ref dl))) (hc1 : c1.data = .cell (some (.ref wl)))
    (hnv : ∀ v ∈ nvs, IsI v) (hne : nvs.map intOf = keysP P) (hnl : (keysP P).length ≤ 62) (hel : (edgesP P).length < 100) (hdi : ∀ v ∈ dvs, IsI v) (hde : dvs.map intOf = r) (hgi : ∀ v ∈ gvs, IsI v) (hge : gvs.map intOf = r) (hgm : (gl, listOf gvs.toArray eg) ∈ (dl, listOf dvs.toArray ed) :: ex)
    (hli : LI P [] r) (hlx : ∀ q ∈ (dl, listOf dvs.toArray ed) :: ex, @LT.lt Nat _ (L + 1 + 1 + 1 + 1) q.1 ∧ ∀ p ∈ (nl, listOf nvs.toArray e2) :: rest, @LT.lt Nat _ p.1 q.1)
    (hts : TupsAre ts (edgesP P)) (hwr : (wl, listOf (refL ts).toArray e1) ∈ rest) (htr : ∀ q ∈ tupL ts, q ∈ rest)
    (f2 : ∀ q ∈ (nl, listOf nvs.toArray e2) :: rest, q.1 ≠ L + 1 + 1) (f3 : ∀ q ∈ (nl, listOf nvs.toArray e2) :: rest, q.1 ≠ L + 1 + 1 + 1) (f4 : ∀ q ∈ (nl, listOf nvs.toArray e2) :: rest, q.1 ≠ L + 1 + 1 + 1 + 1)
    (hq : ∀ h' tk' u' c3' dl' gl' (dvs' : List Value) ed', c3'.data = .cell (some (.ref dl')) → (∀ v ∈ dvs', IsI v) → dvs'.map intOf = ordP P → Fr h₀ L h' (mGrp sl S nl gl' u') → News h₀ L h' ((L + 1 + 1 + 1, c3') :: (dl', listOf dvs'.toArray ed') :: (L + 1, c1) :: (nl, listOf nvs.toArray e2) :: rest) →
      (@LT.lt Nat _ (L + 1 + 1 + 1 + 1) dl' ∧ ∀ p ∈ (nl, listOf nvs.toArray e2) :: rest, @LT.lt Nat _ p.1 dl') → Q .next { s with heap := h', toks := tk' }) :
    wpAny (model Pr w) A (exec (lawSt 6) (lawE L fa cv)) Q E s := by
  obtain ⟨_, d, _, gs, un⟩ := A
  dsimp only at hh hfr hdp hun
  subst hh hfr
  conv in (lawSt 6) => whnf
  conv in (occs := *) (lawE L fa cv) => all_goals unfold lawE
  conv in (occs := *) lawS => all_goals whnf
  refine wpAny_While (codeAny_whileLoop (WV s h₀ L sl S nl c1 nvs e2 rest P) ?_ ((keysP P).length + 1) ⟨_, _, u, c4, cx, c3, v4, v2, dl, gl, dvs, gvs, ed, eg, ex, [], r, rfl, rfl, F, N, hc4, hcx, hc3, hdi, hde, hgi, hge, hgm, hli, hlx⟩)
  clear N F hc4 hcx hc3 hdi hde hgi hge hgm hli hlx
  intro n1 s1 hI
  refine hide fun G hG => ?_
  obtain ⟨h1, tk1, u1, c4, cx, c3, v4, v2, dl, gl, dvs, gvs, ed, eg, ex, dn, r, hn, rfl, F1, N1, hc4, hcx, hc3, hdi, hde, hgi, hge, hgm, hli, hlx⟩ := hI
  refine hG ?_
  clear hG G
  have hpos := hli.pos
  have hdl : dvs.length ≤ 100 := by
    have := congrArg List.length hde
    rw [List.length_map, List.length_append] at this
    omega
  have htl : ts.length ≤ 100 := by have := hts.len; omega
  obtain ⟨rx, hrx⟩ : ∃ rx, rx = ex ++ (L + 1, c1) :: (nl, listOf nvs.toArray e2) :: rest := ⟨_, rfl⟩
  rw [← hrx] at N1
  have mex : ∀ q ∈ ex, q ∈ rx := fun q hq => by rw [hrx]; exact List.mem_append_left _ hq
  have mfx : ∀ q ∈ (L + 1, c1) :: (nl, listOf nvs.toArray e2) :: rest, q ∈ rx := fun q hq => by rw [hrx]; exact List.mem_append_right _ hq
  have hrxm : ∀ q ∈ rx, q ∈ ex ∨ q ∈ (L + 1, c1) :: (nl, listOf nvs.toArray e2) :: rest := fun q hq => by rw [hrx] at hq; exact List.mem_append.mp hq
  have x2 : ∀ q ∈ rx, q.1 ≠ L + 1 + 1 := fun q hq => by
    rcases hrxm q hq with h | h
    · have := (hlx q (.tail _ h)).1; show @Ne Nat q.1 (L + 1 + 1); (first | assumption | exact Ne.symm (by assumption) | exact Nat.ne_of_gt (l1 _) | exact Nat.ne_of_lt (l1 _) | exact Nat.ne_of_gt (l2 _) | exact Nat.ne_of_lt (l2 _) | exact Nat.ne_of_gt (l3 _) | exact Nat.ne_of_lt (l3 _) | exact Nat.ne_of_gt (by assumption) | exact Nat.ne_of_lt (by assumption) | exact Nat.ne_of_gt (g1 (by assumption)) | exact Nat.ne_of_gt (g2 (by assumption)) | exact Nat.ne_of_gt (g3 (by assumption)) | exact Nat.ne_of_lt (g1 (by assumption)) | exact Nat.ne_of_lt (g2 (by assumption)) | exact Nat.ne_of_lt (g3 (by assumption)) | omega)
    · rcases List.mem_cons.mp h with rfl | h
      · show @Ne Nat (L + 1) (L + 1 + 1); (first | assumption | exact Ne.symm (by assumption) | exact Nat.ne_of_gt (l1 _) | exact Nat.ne_of_lt (l1 _) | exact Nat.ne_of_gt (l2 _) | exact Nat.ne_of_lt (l2 _) | exact Nat.ne_of_gt (l3 _) | exact Nat.ne_of_lt (l3 _) | exact Nat.ne_of_gt (by assumption) | exact Nat.ne_of_lt (by assumption) | exact Nat.ne_of_gt (g1 (by assumption)) | exact Nat.ne_of_gt (g2 (by assumption)) | exact Nat.ne_of_gt (g3 (by assumption)) | exact Nat.ne_of_lt (g1 (by assumption)) | exact Nat.ne_of_lt (g2 (by assumption)) | exact Nat.ne_of_lt (g3 (by assumption)) | omega)
      · exact f2 q h
  have x3 : ∀ q ∈ rx, q.1 ≠ L + 1 + 1 + 1 := fun q hq => by
    rcases hrxm q hq with h | h
    · have := (hlx q (.tail _ h)).1; show @Ne Nat q.1 (L + 1 + 1 + 1); (first | assumption | exact Ne.symm (by assumption) | exact Nat.ne_of_gt (l1 _) | exact Nat.ne_of_lt (l1 _) | exact Nat.ne_of_gt (l2 _) | exact Nat.ne_of_lt (l2 _) | exact Nat.ne_of_gt (l3 _) | exact Nat.ne_of_lt (l3 _) | exact Nat.ne_of_gt (by assumption) | exact Nat.ne_of_lt (by assumption) | exact Nat.ne_of_gt (g1 (by assumption)) | exact Nat.ne_of_gt (g2 (by assumption)) | exact Nat.ne_of_gt (g3 (by assumption)) | exact Nat.ne_of_lt (g1 (by assumption)) | exact Nat.ne_of_lt (g2 (by assumption)) | exact Nat.ne_of_lt (g3 (by assumption)) | omega)
    · rcases List.mem_cons.mp h with rfl | h
      · show @Ne Nat (L + 1) (L + 1 + 1 + 1); (first | assumption | exact Ne.symm (by assumption) | exact Nat.ne_of_gt (l1 _) | exact Nat.ne_of_lt (l1 _) | exact Nat.ne_of_gt (l2 _) | exact Nat.ne_of_lt (l2 _) | exact Nat.ne_of_gt (l3 _) | exact Nat.ne_of_lt (l3 _) | exact Nat.ne_of_gt (by assumption) | exact Nat.ne_of_lt (by assumption) | exact Nat.ne_of_gt (g1 (by assumption)) | exact Nat.ne_of_gt (g2 (by assumption)) | exact Nat.ne_of_gt (g3 (by assumption)) | exact Nat.ne_of_lt (g1 (by assumption)) | exact Nat.ne_of_lt (g2 (by assumption)) | exact Nat.ne_of_lt (g3 (by assumption)) | omega)
      · exact f3 q h
  have x4 : ∀ q ∈ rx, q.1 ≠ L + 1 + 1 + 1 + 1 := fun q hq => by
    rcases hrxm q hq with h | h
    · have := (hlx q (.tail _ h)).1; show @Ne Nat q.1 (L + 1 + 1 + 1 + 1); (first | assumption | exact Ne.symm (by assumption) | exact Nat.ne_of_gt (l1 _) | exact Nat.ne_of_lt (l1 _) | exact Nat.ne_of_gt (l2 _) | exact Nat.ne_of_lt (l2 _) | exact Nat.ne_of_gt (l3 _) | exact Nat.ne_of_lt (l3 _) | exact Nat.ne_of_gt (by assumption) | exact Nat.ne_of_lt (by assumption) | exact Nat.ne_of_gt (g1 (by assumption)) | exact Nat.ne_of_gt (g2 (by assumption)) | exact Nat.ne_of_gt (g3 (by assumption)) | exact Nat.ne_of_lt (g1 (by assumption)) | exact Nat.ne_of_lt (g2 (by assumption)) | exact Nat.ne_of_lt (g3 (by assumption)) | omega)
    · rcases List.mem_cons.mp h with rfl | h
      · show @Ne Nat (L + 1) (L + 1 + 1 + 1 + 1); (first | assumption | exact Ne.symm (by assumption) | exact Nat.ne_of_gt (l1 _) | exact Nat.ne_of_lt (l1 _) | exact Nat.ne_of_gt (l2 _) | exact Nat.ne_of_lt (l2 _) | exact Nat.ne_of_gt (l3 _) | exact Nat.ne_of_lt (l3 _) | exact Nat.ne_of_gt (by assumption) | exact Nat.ne_of_lt (by assumption) | exact Nat.ne_of_gt (g1 (by assumption)) | exact Nat.ne_of_gt (g2 (by assumption)) | exact Nat.ne_of_gt (g3 (by assumption)) | exact Nat.ne_of_lt (g1 (by assumption)) | exact Nat.ne_of_lt (g2 (by assumption)) | exact Nat.ne_of_lt (g3 (by assumption)) | omega)
      · exact f4 q h
  have d4 : @LT.lt Nat _ (L + 1 + 1 + 1 + 1) dl := (hlx (dl, listOf dvs.toArray ed) (.head _)).1
  have hgm2 : (gl, listOf gvs.toArray eg) ∈ (L + 1 + 1 + 1 + 1, c4) :: (L + 1 + 1, cx) :: (L + 1 + 1 + 1, c3) :: (dl, listOf dvs.toArray ed) :: rx := by
    rcases List.mem_cons.mp hgm with h | h
    · rw [h]; walk_at "elem"
    · exact .tail _ (.tail _ (.tail _ (.tail _ (mex _ h))))
  refine wpAny_boxed _ (fun _ _ x => x) fun PQ hPQ => ?_
  (repeat' (((fail_if_success with_reducible first | show wpAny _ _ (call (Value.ref _) _ _) _ _ _ | show wpAny _ _ (exec (Stmt.For _ _ _ _ _) _) _ _ _ | show wpAny _ _ (exec (Stmt.While _ _ _ _) _) _ _ _ | show wpAny _ _ (pyIter _) _ _ _)); ((fail_if_success with_reducible first | show wpAny _ _ (eval (PySem.Expr.ListComp _ _ _ _) _) _ _ _)); ((fail_if_success with_reducible first | show wpAny _ _ (subscriptTail _ _ _ _) _ _ _)); (fail_if_success with_reducible first | show wpAny _ _ (exec (Stmt.Assign [PySem.Expr.Name _ _] (PySem.Expr.ListComp _ _ _ _) _) _) _ _ _ | show wpAny _ _ (exec (Stmt.If _ _ _ _) _) _ _ _ | show wpAny _ _ (compareOp _ _ _) _ _ _ | show wpAny _ _ (call (Value.builtin "sorted") _) _ _ _ | show wpAny _ _ (binaryOp _ (Value.ref _) _) _ _ _); ((first | (k_unfold; (try dsimp only)) | (k_end; wrow_close) | walk1 | (dsimp only; walk1) | (leave1; walk_say "STEP leave1"; try dsimp only) | fail "no step"))))
  rename News _ _ _ _ => N2
  rename Fr _ _ _ _ => F2
  refine ke_ne_ints (xs := gvs) (ys := []) (News.isList N2 (.tail _ hgm2)) (News.isList N2 (.head _)) (intsAre_of hgi) .nil (u64 hun) ?_
  rw [hge]
  have N3 : News h₀ L _ ((L + 1 + 1 + 1 + 1, c4) :: (L + 1 + 1, cx) :: (L + 1 + 1 + 1, c3) :: (dl, listOf dvs.toArray ed) :: rx) := News.sub N2 (by walk_at "sub")
  clear N2
  by_cases hr : r = []
  · rw [decide_eq_true hr]
    subst hr
    (repeat' (((fail_if_success with_reducible first | show wpAny _ _ (call (Value.ref _) _ _) _ _ _ | show wpAny _ _ (exec (Stmt.For _ _ _ _ _) _) _ _ _ | show wpAny _ _ (exec (Stmt.While _ _ _ _) _) _ _ _ | show wpAny _ _ (pyIter _) _ _ _)); ((fail_if_success with_reducible first | show wpAny _ _ (eval (PySem.Expr.ListComp _ _ _ _) _) _ _ _)); ((fail_if_success with_reducible first | show wpAny _ _ (subscriptTail _ _ _ _) _ _ _)); (fail_if_success with_reducible first | show wpAny _ _ (exec (Stmt.Assign [PySem.Expr.Name _ _] (PySem.Expr.ListComp _ _ _ _) _) _) _ _ _ | show wpAny _ _ (exec (Stmt.If _ _ _ _) _) _ _ _ | show wpAny _ _ (compareOp _ _ _) _ _ _ | show wpAny _ _ (call (Value.builtin "sorted") _) _ _ _ | show wpAny _ _ (binaryOp _ (Value.ref _) _) _ _ _); ((first | (k_unfold; (try dsimp only)) | (k_end; wrow_close) | walk1 | (dsimp only; walk1) | (leave1; walk_say "STEP leave1"; try dsimp only) | fail "no step"))))
    refine hPQ _ _ ?_
    rw [if_neg (by decide)]
    (repeat' (((fail_if_success with_reducible first | show wpAny _ _ (call (Value.ref _) _ _) _ _ _ | show wpAny _ _ (exec (Stmt.For _ _ _ _ _) _) _ _ _ | show wpAny _ _ (exec (Stmt.While _ _ _ _) _) _ _ _ | show wpAny _ _ (pyIter _) _ _ _)); ((fail_if_success with_reducible first | show wpAny _ _ (eval (PySem.Expr.ListComp _ _ _ _) _) _ _ _)); ((fail_if_success with_reducible first | show wpAny _ _ (subscriptTail _ _ _ _) _ _ _)); (fail_if_success with_reducible first | show wpAny _ _ (exec (Stmt.Assign [PySem.Expr.Name _ _] (PySem.Expr.ListComp _ _ _ _) _) _) _ _ _ | show wpAny _ _ (exec (Stmt.If _ _ _ _) _) _ _ _ | show wpAny _ _ (compareOp _ _ _) _ _ _ | show wpAny _ _ (call (Value.builtin "sorted") _) _ _ _ | show wpAny _ _ (binaryOp _ (Value.ref _) _) _ _ _); ((first | (k_unfold; (try dsimp only)) | (k_end; wrow_close) | walk1 | (dsimp only; walk1) | (leave1; walk_say "STEP leave1"; try dsimp only) | fail "no step"))))
    rename News _ _ _ _ => N4
    rename Fr _ _ _ _ => F4
    refine hq _ _ u1 c3 dl gl dvs ed hc3 hdi ?_ F4 (News.sub N4 ?_) (hlx (dl, listOf dvs.toArray ed) (.head _))
    · rw [hde, List.append_nil]; exact hli.stop.symm
    · refine sub_cons (by walk_at "elem") (sub_cons (by walk_at "elem") fun q hq => ?_)
      exact .tail _ (.tail _ (.tail _ (.tail _ (mfx q hq))))
  · rw [decide_eq_false hr]
    (repeat' (((fail_if_success with_reducible first | show wpAny _ _ (call (Value.ref _) _ _) _ _ _ | show wpAny _ _ (exec (Stmt.For _ _ _ _ _) _) _ _ _ | show wpAny _ _ (exec (Stmt.While _ _ _ _) _) _ _ _ | show wpAny _ _ (pyIter _) _ _ _)); ((fail_if_success with_reducible first | show wpAny _ _ (eval (PySem.Expr.ListComp _ _ _ _) _) _ _ _)); ((fail_if_success with_reducible first | show wpAny _ _ (subscriptTail _ _ _ _) _ _ _)); (fail_if_success with_reducible first | show wpAny _ _ (exec (Stmt.Assign [PySem.Expr.Name _ _] (PySem.Expr.ListComp _ _ _ _) _) _) _ _ _ | show wpAny _ _ (exec (Stmt.If _ _ _ _) _) _ _ _ | show wpAny _ _ (compareOp _ _ _) _ _ _ | show wpAny _ _ (call (Value.builtin "sorted") _) _ _ _ | show wpAny _ _ (binaryOp _ (Value.ref _) _) _ _ _); ((first | (k_unfold; (try dsimp only)) | (k_end; wrow_close) | walk1 | (dsimp only; walk1) | (leave1; walk_say "STEP leave1"; try dsimp only) | fail "no step"))))
    refine hPQ _ _ ?_
    rw [if_pos (by decide)]
    clear hPQ hq
    refine wpAny_boxed _ (fun _ _ x => x) fun PB hPB => ?_
    (repeat' (((fail_if_success with_reducible first | show wpAny _ _ (call (Value.ref _) _ _) _ _ _ | show wpAny _ _ (exec (Stmt.For _ _ _ _ _) _) _ _ _ | show wpAny _ _ (exec (Stmt.While _ _ _ _) _) _ _ _ | show wpAny _ _ (pyIter _) _ _ _)); ((fail_if_success with_reducible first | show wpAny _ _ (eval (PySem.Expr.ListComp _ _ _ _) _) _ _ _)); ((fail_if_success with_reducible first | show wpAny _ _ (subscriptTail _ _ _ _) _ _ _)); (fail_if_success with_reducible first | show wpAny _ _ (exec (Stmt.Assign [PySem.Expr.Name _ _] (PySem.Expr.ListComp _ _ _ _) _) _) _ _ _ | show wpAny _ _ (exec (Stmt.If _ _ _ _) _) _ _ _ | show wpAny _ _ (compareOp _ _ _) _ _ _ | show wpAny _ _ (call (Value.builtin "sorted") _) _ _ _ | show wpAny _ _ (binaryOp _ (Value.ref _) _) _ _ _); ((first | (k_unfold; (try dsimp only)) | (k_end; wrow_close) | walk1 | (dsimp only; walk1) | (leave1; walk_say "STEP leave1"; try dsimp only) | fail "no step"))))
    rename_i wd _ l1 _ F5 N5
    have lrx : ∀ q ∈ rx, @LT.lt Nat _ q.1 wd := allLt_mem l1.2.2.2.2
    have l14 : @LT.lt Nat _ (L + 1 + 1 + 1 + 1) wd := l1.1
    have ldl : @LT.lt Nat _ dl wd := l1.2.2.2.1
    obtain ⟨D, hD⟩ : ∃ D, D = dn ++ r := ⟨_, rfl⟩
    have hDn : D.Nodup := by rw [hD]; exact hli.nodup
    have hwp : ∀ x, waitP D (edgesP P) x = true → x ∉ D ∧ ∀ a ∈ predE (edgesP P) x, a ∈ D := fun x hx => by
      unfold waitP at hx
      rw [Bool.and_eq_true, decide_eq_true_eq, decide_eq_true_eq] at hx
      exact hx
    have hbn : ∀ x ∈ keysP P, waitP D (edgesP P) x = true → predE (edgesP P) x ≠ [] := fun x hx hw => wait_ne hli hx (by rw [← hD]; exact (hwp x hw).1)
    have hoc : ∀ x ∈ keysP P, waitP D (edgesP P) x = true → occI (edgesP P) (D.getD (lastI D (edgesP P) x).toNat 0, x) ≠ [] := fun x hx hw => occ_ne hDn (hbn x hx hw) (hwp x hw).2
    have hall : ∀ q ∈ (L + 1 + 1 + 1, c3) :: (L + 1, c1) :: (dl, listOf dvs.toArray ed) :: (nl, listOf nvs.toArray e2) :: (ex ++ rest), q = (L + 1 + 1 + 1, c3) ∨ q = (dl, listOf dvs.toArray ed) ∨ q ∈ rx := fun q hq => by
      rcases List.mem_cons.mp hq with h | hq
      · exact .inl h
      rcases List.mem_cons.mp hq with h | hq
      · exact .inr (.inr (mfx q (h ▸ .head _)))
      rcases List.mem_cons.mp hq with h | hq
      · exact .inr (.inl h)
      rcases List.mem_cons.mp hq with h | hq
      · exact .inr (.inr (mfx q (h ▸ .tail _ (.head _))))
      rcases List.mem_append.mp hq with h | h
      · exact .inr (.inr (mex q h))
      · exact .inr (.inr (mfx q (.tail _ (.tail _ h))))
    have N6 : News h₀ L _ ((L + 1 + 1 + 1 + 1, c4) :: (L + 1 + 1, cx) :: (wd, listOf #[] 0) :: (L + 1 + 1 + 1, c3) :: (L + 1, c1) :: (dl, listOf dvs.toArray ed) :: (nl, listOf nvs.toArray e2) :: (ex ++ rest)) := News.sub N5 (sub_cons (by walk_at "elem") (sub_cons (by walk_at "elem") (sub_cons (by walk_at "elem") fun q hq => by
      rcases hall q hq with h | h | h
      · rw [h]; walk_at "elem"
      · rw [h]; walk_at "elem"
      · exact .tail _ (.tail _ (.tail _ (.tail _ (.tail _ h)))))))
    refine l_wait (ts := ts) (W := edgesP P) (K := keysP P) (D := D) (e1 := e1) (rest := ex ++ rest) (c4 := c4) (dl := dl) (wl := wl) rfl rfl (ltu hdp rfl) hun B X₀ T F5 N6 hcx hc1 hc3 hc4 hnv hne (by omega) hdi (hde.trans hD.symm) hdl hts htl (List.mem_append_right _ hwr) (fun q hq => List.mem_append_right _ (htr q hq)) (fun q hq => ?_) l14 (fun q hq => ?_) (fun q hq => ?_) hbn hoc ?_
    · rcases hall q hq with h | h | h
      · rw [h]; show @LT.lt Nat _ (L + 1 + 1 + 1) wd; (first | assumption | exact l1 _ | exact l2 _ | exact l3 _ | exact g1 (by assumption) | exact g2 (by assumption) | exact g3 (by assumption) | omega)
      · rw [h]; exact ldl
      · exact lrx q h
    · rcases hall q hq with h | h | h
      · rw [h]; show @Ne Nat (L + 1 + 1 + 1) (L + 1 + 1 + 1 + 1); (first | assumption | exact Ne.symm (by assumption) | exact Nat.ne_of_gt (l1 _) | exact Nat.ne_of_lt (l1 _) | exact Nat.ne_of_gt (l2 _) | exact Nat.ne_of_lt (l2 _) | exact Nat.ne_of_gt (l3 _) | exact Nat.ne_of_lt (l3 _) | exact Nat.ne_of_gt (by assumption) | exact Nat.ne_of_lt (by assumption) | exact Nat.ne_of_gt (g1 (by assumption)) | exact Nat.ne_of_gt (g2 (by assumption)) | exact Nat.ne_of_gt (g3 (by assumption)) | exact Nat.ne_of_lt (g1 (by assumption)) | exact Nat.ne_of_lt (g2 (by assumption)) | exact Nat.ne_of_lt (g3 (by assumption)) | omega)
      · rw [h]; show @Ne Nat dl (L + 1 + 1 + 1 + 1); (first | assumption | exact Ne.symm (by assumption) | exact Nat.ne_of_gt (l1 _) | exact Nat.ne_of_lt (l1 _) | exact Nat.ne_of_gt (l2 _) | exact Nat.ne_of_lt (l2 _) | exact Nat.ne_of_gt (l3 _) | exact Nat.ne_of_lt (l3 _) | exact Nat.ne_of_gt (by assumption) | exact Nat.ne_of_lt (by assumption) | exact Nat.ne_of_gt (g1 (by assumption)) | exact Nat.ne_of_gt (g2 (by assumption)) | exact Nat.ne_of_gt (g3 (by assumption)) | exact Nat.ne_of_lt (g1 (by assumption)) | exact Nat.ne_of_lt (g2 (by assumption)) | exact Nat.ne_of_lt (g3 (by assumption)) | omega)
      · exact x4 q h
    · rcases hall q hq with h | h | h
      · rw [h]; show @Ne Nat (L + 1 + 1 + 1) (L + 1 + 1); (first | assumption | exact Ne.symm (by assumption) | exact Nat.ne_of_gt (l1 _) | exact Nat.ne_of_lt (l1 _) | exact Nat.ne_of_gt (l2 _) | exact Nat.ne_of_lt (l2 _) | exact Nat.ne_of_gt (l3 _) | exact Nat.ne_of_lt (l3 _) | exact Nat.ne_of_gt (by assumption) | exact Nat.ne_of_lt (by assumption) | exact Nat.ne_of_gt (g1 (by assumption)) | exact Nat.ne_of_gt (g2 (by assumption)) | exact Nat.ne_of_gt (g3 (by assumption)) | exact Nat.ne_of_lt (g1 (by assumption)) | exact Nat.ne_of_lt (g2 (by assumption)) | exact Nat.ne_of_lt (g3 (by assumption)) | omega)
      · rw [h]; show @Ne Nat dl (L + 1 + 1); (first | assumption | exact Ne.symm (by assumption) | exact Nat.ne_of_gt (l1 _) | exact Nat.ne_of_lt (l1 _) | exact Nat.ne_of_gt (l2 _) | exact Nat.ne_of_lt (l2 _) | exact Nat.ne_of_gt (l3 _) | exact Nat.ne_of_lt (l3 _) | exact Nat.ne_of_gt (by assumption) | exact Nat.ne_of_lt (by assumption) | exact Nat.ne_of_gt (g1 (by assumption)) | exact Nat.ne_of_gt (g2 (by assumption)) | exact Nat.ne_of_gt (g3 (by assumption)) | exact Nat.ne_of_lt (g1 (by assumption)) | exact Nat.ne_of_lt (g2 (by assumption)) | exact Nat.ne_of_lt (g3 (by assumption)) | omega)
      · exact x2 q h
    intro h7 tk7 m7 c47 cx7 v47 v27 tw ew hc47 hcx7 htw hwt hA7 F7 N7
    clear N5 N6 F5 hall
    rw [hA7.eq] at F7
    generalize m7 = u7 at F7
    clear hA7
    obtain ⟨rl, hrl⟩ : ∃ rl, rl = (L + 1 + 1 + 1, c3) :: (L + 1, c1) :: (dl, listOf dvs.toArray ed) :: (nl, listOf nvs.toArray e2) :: (ex ++ rest) := ⟨_, rfl⟩
    rw [← hrl] at N7
    (repeat' (((fail_if_success with_reducible first | show wpAny _ _ (call (Value.ref _) _ _) _ _ _ | show wpAny _ _ (exec (Stmt.For _ _ _ _ _) _) _ _ _ | show wpAny _ _ (exec (Stmt.While _ _ _ _) _) _ _ _ | show wpAny _ _ (pyIter _) _ _ _)); ((fail_if_success with_reducible first | show wpAny _ _ (eval (PySem.Expr.ListComp _ _ _ _) _) _ _ _)); ((fail_if_success with_reducible first | show wpAny _ _ (subscriptTail _ _ _ _) _ _ _)); (fail_if_success with_reducible first | show wpAny _ _ (exec (Stmt.Assign [PySem.Expr.Name _ _] (PySem.Expr.ListComp _ _ _ _) _) _) _ _ _ | show wpAny _ _ (exec (Stmt.If _ _ _ _) _) _ _ _ | show wpAny _ _ (compareOp _ _ _) _ _ _ | show wpAny _ _ (call (Value.builtin "sorted") _) _ _ _ | show wpAny _ _ (binaryOp _ (Value.ref _) _) _ _ _); ((first | (k_unfold; (try dsimp only)) | (k_end; wrow_close) | walk1 | (dsimp only; walk1) | (leave1; walk_say "STEP leave1"; try dsimp only) | fail "no step"))))
    have hWl : (waitW D (edgesP P) (keysP P)).length ≤ 62 := Nat.le_trans waitW_len hnl
    have htwl := htw.len
    have hA : Agr G6 (mLaw sl S nl) (fun y => if [Str.ofString "before"].contains y = true then u7 y else if y = Str.ofString "waiting" then some (Value.ref wd) else mGrp sl S nl gl u1 y) := by
      intro y hy
      have hy' := hy
      unfold G6 at hy'
      simp only [List.contains_cons, List.contains_nil, Bool.or_false, Bool.or_eq_false_iff, beq_eq_false_iff_ne] at hy'
      have hb : [Str.ofString "before"].contains y = false := by simp only [List.contains_cons, List.contains_nil, Bool.or_false, beq_eq_false_iff_ne]; exact hy'.2.2.1
      show (if [Str.ofString "before"].contains y = true then _ else if y = Str.ofString "waiting" then _ else if y = Str.ofString "group" then _ else if G6.contains y = true then _ else mLaw sl S nl y) = _
      rw [hb, if_neg Bool.false_ne_true, if_neg hy'.2.1, if_neg hy'.1, hy, if_neg Bool.false_ne_true]
    refine assign_comp F7 rfl (by with_unfolding_all rfl) (by with_unfolding_all rfl) (by decide) rfl (by decide) rfl rfl ?_
    (repeat' (((fail_if_success with_reducible first | show wpAny _ _ (call (Value.ref _) _ _) _ _ _ | show wpAny _ _ (exec (Stmt.For _ _ _ _ _) _) _ _ _ | show wpAny _ _ (exec (Stmt.While _ _ _ _) _) _ _ _ | show wpAny _ _ (pyIter _) _ _ _)); ((fail_if_success with_reducible first | show wpAny _ _ (eval (PySem.Expr.ListComp _ _ _ _) _) _ _ _)); ((fail_if_success with_reducible first | show wpAny _ _ (subscriptTail _ _ _ _) _ _ _)); (fail_if_success with_reducible first | show wpAny _ _ (exec (Stmt.Assign [PySem.Expr.Name _ _] (PySem.Expr.ListComp _ _ _ _) _) _) _ _ _ | show wpAny _ _ (exec (Stmt.If _ _ _ _) _) _ _ _ | show wpAny _ _ (compareOp _ _ _) _ _ _ | show wpAny _ _ (call (Value.builtin "sorted") _) _ _ _ | show wpAny _ _ (binaryOp _ (Value.ref _) _) _ _ _); ((first | (k_unfold; (try dsimp only)) | (k_end; wrow_close) | walk1 | (dsimp only; walk1) | (leave1; walk_say "STEP leave1"; try dsimp only) | fail "no step"))))
    rename News _ _ _ _ => N8
    rename Fr _ _ _ _ => F8
    refine sorted3 (ts := tw) (W := waitW D (edgesP P) (keysP P)) F8 N8 (show (wd, listOf (refL tw).toArray ew) ∈ _ by walk_at "elem") (fun q hq => .tail _ (.tail _ (.tail _ (List.mem_append_left _ hq)))) htw (by omega) (fun t ht => ?_) (fun i j x y h1 h2 h3 => ?_) ?_
    · obtain ⟨x, hx, rfl⟩ := List.mem_map.mp ht
      obtain ⟨h1, h2⟩ := List.mem_filter.mp hx
      exact kI_range x (by omega) (hoc x h1 h2)
    · rw [hD] at h1 h2
      exact wait_inj (by omega) hli i j x y h1 h2 h3
    intro Ds cs h9 ts2 W2 hpt hT2 hpW hsW F9 N9 lt9
    have hW2 := hpW.length_eq
    have hts2 := hT2.len
    have mt2 : ∀ q ∈ tupL ts2, q ∈ tupL tw := fun q hq => by
      obtain ⟨t, ht, rfl⟩ := List.mem_map.mp hq
      exact List.mem_map.mpr ⟨t, hpt.mem_iff.mp ht, rfl⟩
    have hrl2 : (refL ts2).length = W2.length := by unfold refL; rw [List.length_map]; exact hts2
    (repeat' (((fail_if_success with_reducible first | show wpAny _ _ (call (Value.ref _) _ _) _ _ _ | show wpAny _ _ (exec (Stmt.For _ _ _ _ _) _) _ _ _ | show wpAny _ _ (exec (Stmt.While _ _ _ _) _) _ _ _ | show wpAny _ _ (pyIter _) _ _ _)); ((fail_if_success with_reducible first | show wpAny _ _ (eval (PySem.Expr.ListComp _ _ _ _) _) _ _ _)); ((fail_if_success with_reducible first | show wpAny _ _ (subscriptTail _ _ _ _) _ _ _)); (fail_if_success with_reducible first | show wpAny _ _ (exec (Stmt.Assign [PySem.Expr.Name _ _] (PySem.Expr.ListComp _ _ _ _) _) _) _ _ _ | show wpAny _ _ (exec (Stmt.If _ _ _ _) _) _ _ _ | show wpAny _ _ (compareOp _ _ _) _ _ _ | show wpAny _ _ (call (Value.builtin "sorted") _) _ _ _ | show wpAny _ _ (binaryOp _ (Value.ref _) _) _ _ _); ((first | (k_unfold; (try dsimp only)) | (k_end; wrow_close) | walk1 | (dsimp only; walk1) | (leave1; walk_say "STEP leave1"; try dsimp only) | fail "no step"))))
    rename News _ _ _ _ => N10
    rename Fr _ _ _ _ => F10
    refine cw_list (vs := refL ts2) (ep := cs) (fun _ v m₂ => m₂ (Str.ofString "one") = some v) (fun j ys => (∀ v ∈ ys, IsI v) ∧ ys.map intOf = (W2.take j).map (·.2.2)) rfl F10 N10 (.head _) (by rw [hrl2, sizeLine_eq]; omega) ⟨fun _ h => (nomatch h), rfl⟩
      (fun I i v C m₀ s₁ Q' E' _ _ _ _ hn k => asg_name rfl (by decide) hn k) ?_ ?_
    · clear hPB
      intro j v ys I oI C oC D2 m₂ h5 tk5 E' hv hJ hC ha F11 N11 o3 ne3
      clear F10 N10
      obtain ⟨⟨Tj, tv⟩, htj, rfl⟩ := refL_get hv
      obtain ⟨⟨w1, w2, w3⟩, t1, t2, t3, hwj, etv⟩ := hT2.get htj
      dsimp only at etv
      subst etv
      have hm : (Tj, tupOf #[.int w1 t1, .int w2 t2, .int w3 t3] 0) ∈ (I, oI) :: (C, oC) :: (D2, lst ys) :: (Ds, listOf (refL ts2).toArray cs) :: (L + 1 + 1 + 1 + 1, c47) :: (L + 1 + 1, cx7) :: (wd, listOf (refL tw).toArray ew) :: (tupL tw ++ rl) :=
        .tail _ (.tail _ (.tail _ (.tail _ (.tail _ (.tail _ (.tail _ (List.mem_append_left _ (mt2 _ (tupL_mem htj)))))))))
      have hy2 : ∀ t, (∀ v ∈ ys ++ [Value.int w3 t], IsI v) ∧ (ys ++ [Value.int w3 t]).map intOf = (W2.take (j + 1)).map (·.2.2) := fun t => ⟨fun v hv => by
        rcases List.mem_append.mp hv with h | h
        · exact hJ.1 v h
        · rw [List.mem_singleton.mp h]; exact ⟨_, _, rfl⟩, by rw [List.take_add_one, hwj, List.map_append, List.map_append, hJ.2]; rfl⟩
      clear hJ
      refine wpAny_tests_nil ?_
      (repeat' (((fail_if_success with_reducible first | show wpAny _ _ (call (Value.ref _) _ _) _ _ _ | show wpAny _ _ (exec (Stmt.For _ _ _ _ _) _) _ _ _ | show wpAny _ _ (exec (Stmt.While _ _ _ _) _) _ _ _ | show wpAny _ _ (pyIter _) _ _ _)); ((fail_if_success with_reducible first | show wpAny _ _ (eval (PySem.Expr.ListComp _ _ _ _) _) _ _ _)); ((fail_if_success with_reducible first | show wpAny _ _ (subscriptTail _ _ _ _) _ _ _)); (fail_if_success with_reducible first | show wpAny _ _ (exec (Stmt.Assign [PySem.Expr.Name _ _] (PySem.Expr.ListComp _ _ _ _) _) _) _ _ _ | show wpAny _ _ (exec (Stmt.If _ _ _ _) _) _ _ _ | show wpAny _ _ (compareOp _ _ _) _ _ _ | show wpAny _ _ (call (Value.builtin "sorted") _) _ _ _ | show wpAny _ _ (binaryOp _ (Value.ref _) _) _ _ _); ((first | (k_unfold; (try dsimp only)) | (k_end; wrow_close) | walk1 | (dsimp only; walk1) | (leave1; walk_say "STEP leave1"; try dsimp only) | fail "no step"))))
      refine third_led N11 hm ?_
      (repeat' (((fail_if_success with_reducible first | show wpAny _ _ (call (Value.ref _) _ _) _ _ _ | show wpAny _ _ (exec (Stmt.For _ _ _ _ _) _) _ _ _ | show wpAny _ _ (exec (Stmt.While _ _ _ _) _) _ _ _ | show wpAny _ _ (pyIter _) _ _ _)); ((fail_if_success with_reducible first | show wpAny _ _ (eval (PySem.Expr.ListComp _ _ _ _) _) _ _ _)); ((fail_if_success with_reducible first | show wpAny _ _ (subscriptTail _ _ _ _) _ _ _)); (fail_if_success with_reducible first | show wpAny _ _ (exec (Stmt.Assign [PySem.Expr.Name _ _] (PySem.Expr.ListComp _ _ _ _) _) _) _ _ _ | show wpAny _ _ (exec (Stmt.If _ _ _ _) _) _ _ _ | show wpAny _ _ (compareOp _ _ _) _ _ _ | show wpAny _ _ (call (Value.builtin "sorted") _) _ _ _ | show wpAny _ _ (binaryOp _ (Value.ref _) _) _ _ _); ((first | (k_unfold; (try dsimp only)) | (k_end; wrow_close) | walk1 | (dsimp only; walk1) | (leave1; walk_say "STEP leave1"; try dsimp only) | fail "no step"))))
      exact ⟨_, _, rfl, F11, N11, hy2 _⟩
    intro g2 ys h12 tk12 hJ2 hyl F12 N12 lt12 h13 tk13 F13 N13
    clear F10 N10 F12 N12
    rw [hrl2, List.take_length] at hJ2
    rw [hrl2] at hyl
    have hli2 := LI.next (by omega) hli hr (by rw [← hD]; exact hpW) hsW
    have hgr : ∀ p ∈ (nl, listOf nvs.toArray e2) :: rest, @LT.lt Nat _ p.1 g2 := fun p hp => lt12 p (.tail _ (.tail _ (.tail _ (.tail _ (List.mem_append_right _ (by
      rw [hrl]
      rcases List.mem_cons.mp hp with rfl | hp
      · walk_at "elem"
      · exact .tail _ (.tail _ (.tail _ (.tail _ (List.mem_append_right _ hp))))))))))
    have hg4 : @LT.lt Nat _ (L + 1 + 1 + 1 + 1) g2 := lt12 (L + 1 + 1 + 1 + 1, c47) (by walk_at "elem")
    have N14 : News h₀ L h13 ((L + 1 + 1 + 1, c3) :: (L + 1 + 1 + 1 + 1, c47) :: (L + 1 + 1, cx7) :: (dl, listOf dvs.toArray ed) :: (g2, lst ys) :: (L + 1, c1) :: (nl, listOf nvs.toArray e2) :: rest) := News.sub N13 (by rw [hrl]; walk_at "sub")
    clear N13
    (repeat' (((fail_if_success with_reducible first | show wpAny _ _ (call (Value.ref _) _ _) _ _ _ | show wpAny _ _ (exec (Stmt.For _ _ _ _ _) _) _ _ _ | show wpAny _ _ (exec (Stmt.While _ _ _ _) _) _ _ _ | show wpAny _ _ (pyIter _) _ _ _)); ((fail_if_success with_reducible first | show wpAny _ _ (eval (PySem.Expr.ListComp _ _ _ _) _) _ _ _)); ((fail_if_success with_reducible first | show wpAny _ _ (subscriptTail _ _ _ _) _ _ _)); (fail_if_success with_reducible first | show wpAny _ _ (exec (Stmt.Assign [PySem.Expr.Name _ _] (PySem.Expr.ListComp _ _ _ _) _) _) _ _ _ | show wpAny _ _ (exec (Stmt.If _ _ _ _) _) _ _ _ | show wpAny _ _ (compareOp _ _ _) _ _ _ | show wpAny _ _ (call (Value.builtin "sorted") _) _ _ _ | show wpAny _ _ (binaryOp _ (Value.ref _) _) _ _ _); ((first | (k_unfold; (try dsimp only)) | (k_end; wrow_close) | walk1 | (dsimp only; walk1) | (leave1; walk_say "STEP leave1"; try dsimp only) | fail "no step"))))
    rename News _ _ _ _ => N15
    rename Fr _ _ _ _ => F15
    obtain ⟨d2, hd2⟩ : ∃ d2, h13.objs.size = d2 := ⟨_, rfl⟩
    have hlt2 : ∀ q ∈ (L + 1 + 1 + 1, c3) :: (L + 1 + 1 + 1 + 1, c47) :: (L + 1 + 1, cx7) :: (dl, listOf dvs.toArray ed) :: (g2, lst ys) :: (L + 1, c1) :: (nl, listOf nvs.toArray e2) :: rest, @LT.lt Nat _ q.1 d2 := fun q hq => by rw [← hd2]; exact Heap.lt_size (N15 q hq).1
    refine add_lists_ints (vs := dvs) (ws := ys) (ns := D) (ms := W2.map (·.2.2)) F15 N15 (News.isList N15 (show (dl, listOf dvs.toArray ed) ∈ _ by walk_at "elem")) (News.isList N15 (show (g2, lst ys) ∈ _ by walk_at "elem")) (by have := intsAre_of hdi; rw [hde, ← hD] at this; exact this) (by have := intsAre_of hJ2.1; rw [hJ2.2] at this; exact this) ?_ (by rw [List.length_map, sizeLine_eq]; have := hli2.pos; rw [← hD] at this; have := LI.pos hli; rw [hD, List.length_append]; omega)
    dsimp only
    rw [hd2]
    intro h16 F16 N16 _
    have l4d : @LT.lt Nat _ (L + 1 + 1 + 1 + 1) d2 := hlt2 (L + 1 + 1 + 1 + 1, c47) (by walk_at "elem")
    have N17 : News h₀ L h16 ((L + 1 + 1 + 1, c3) :: (L + 1 + 1 + 1 + 1, c47) :: (L + 1 + 1, cx7) :: (d2, listOf (dvs ++ ys).toArray 0) :: (g2, lst ys) :: (L + 1, c1) :: (nl, listOf nvs.toArray e2) :: rest) := News.sub N16 (by walk_at "sub")
    clear N16 N15 F15
    have o3 : ∀ q ∈ (L + 1 + 1 + 1 + 1, c47) :: (L + 1 + 1, cx7) :: (d2, listOf (dvs ++ ys).toArray 0) :: (g2, lst ys) :: (L + 1, c1) :: (nl, listOf nvs.toArray e2) :: rest, q.1 ≠ L + 1 + 1 + 1 := fun q hq => by
      rcases List.mem_cons.mp hq with rfl | hq
      · show @Ne Nat (L + 1 + 1 + 1 + 1) (L + 1 + 1 + 1); (first | assumption | exact Ne.symm (by assumption) | exact Nat.ne_of_gt (l1 _) | exact Nat.ne_of_lt (l1 _) | exact Nat.ne_of_gt (l2 _) | exact Nat.ne_of_lt (l2 _) | exact Nat.ne_of_gt (l3 _) | exact Nat.ne_of_lt (l3 _) | exact Nat.ne_of_gt (by assumption) | exact Nat.ne_of_lt (by assumption) | exact Nat.ne_of_gt (g1 (by assumption)) | exact Nat.ne_of_gt (g2 (by assumption)) | exact Nat.ne_of_gt (g3 (by assumption)) | exact Nat.ne_of_lt (g1 (by assumption)) | exact Nat.ne_of_lt (g2 (by assumption)) | exact Nat.ne_of_lt (g3 (by assumption)) | omega)
      rcases List.mem_cons.mp hq with rfl | hq
      · show @Ne Nat (L + 1 + 1) (L + 1 + 1 + 1); (first | assumption | exact Ne.symm (by assumption) | exact Nat.ne_of_gt (l1 _) | exact Nat.ne_of_lt (l1 _) | exact Nat.ne_of_gt (l2 _) | exact Nat.ne_of_lt (l2 _) | exact Nat.ne_of_gt (l3 _) | exact Nat.ne_of_lt (l3 _) | exact Nat.ne_of_gt (by assumption) | exact Nat.ne_of_lt (by assumption) | exact Nat.ne_of_gt (g1 (by assumption)) | exact Nat.ne_of_gt (g2 (by assumption)) | exact Nat.ne_of_gt (g3 (by assumption)) | exact Nat.ne_of_lt (g1 (by assumption)) | exact Nat.ne_of_lt (g2 (by assumption)) | exact Nat.ne_of_lt (g3 (by assumption)) | omega)
      rcases List.mem_cons.mp hq with rfl | hq
      · show @Ne Nat d2 (L + 1 + 1 + 1); (first | assumption | exact Ne.symm (by assumption) | exact Nat.ne_of_gt (l1 _) | exact Nat.ne_of_lt (l1 _) | exact Nat.ne_of_gt (l2 _) | exact Nat.ne_of_lt (l2 _) | exact Nat.ne_of_gt (l3 _) | exact Nat.ne_of_lt (l3 _) | exact Nat.ne_of_gt (by assumption) | exact Nat.ne_of_lt (by assumption) | exact Nat.ne_of_gt (g1 (by assumption)) | exact Nat.ne_of_gt (g2 (by assumption)) | exact Nat.ne_of_gt (g3 (by assumption)) | exact Nat.ne_of_lt (g1 (by assumption)) | exact Nat.ne_of_lt (g2 (by assumption)) | exact Nat.ne_of_lt (g3 (by assumption)) | omega)
      rcases List.mem_cons.mp hq with rfl | hq
      · show @Ne Nat g2 (L + 1 + 1 + 1); (first | assumption | exact Ne.symm (by assumption) | exact Nat.ne_of_gt (l1 _) | exact Nat.ne_of_lt (l1 _) | exact Nat.ne_of_gt (l2 _) | exact Nat.ne_of_lt (l2 _) | exact Nat.ne_of_gt (l3 _) | exact Nat.ne_of_lt (l3 _) | exact Nat.ne_of_gt (by assumption) | exact Nat.ne_of_lt (by assumption) | exact Nat.ne_of_gt (g1 (by assumption)) | exact Nat.ne_of_gt (g2 (by assumption)) | exact Nat.ne_of_gt (g3 (by assumption)) | exact Nat.ne_of_lt (g1 (by assumption)) | exact Nat.ne_of_lt (g2 (by assumption)) | exact Nat.ne_of_lt (g3 (by assumption)) | omega)
      rcases List.mem_cons.mp hq with rfl | hq
      · show @Ne Nat (L + 1) (L + 1 + 1 + 1); (first | assumption | exact Ne.symm (by assumption) | exact Nat.ne_of_gt (l1 _) | exact Nat.ne_of_lt (l1 _) | exact Nat.ne_of_gt (l2 _) | exact Nat.ne_of_lt (l2 _) | exact Nat.ne_of_gt (l3 _) | exact Nat.ne_of_lt (l3 _) | exact Nat.ne_of_gt (by assumption) | exact Nat.ne_of_lt (by assumption) | exact Nat.ne_of_gt (g1 (by assumption)) | exact Nat.ne_of_gt (g2 (by assumption)) | exact Nat.ne_of_gt (g3 (by assumption)) | exact Nat.ne_of_lt (g1 (by assumption)) | exact Nat.ne_of_lt (g2 (by assumption)) | exact Nat.ne_of_lt (g3 (by assumption)) | omega)
      · exact f3 q hq
    (repeat' (((fail_if_success with_reducible first | show wpAny _ _ (call (Value.ref _) _ _) _ _ _ | show wpAny _ _ (exec (Stmt.For _ _ _ _ _) _) _ _ _ | show wpAny _ _ (exec (Stmt.While _ _ _ _) _) _ _ _ | show wpAny _ _ (pyIter _) _ _ _)); ((fail_if_success with_reducible first | show wpAny _ _ (eval (PySem.Expr.ListComp _ _ _ _) _) _ _ _)); ((fail_if_success with_reducible first | show wpAny _ _ (subscriptTail _ _ _ _) _ _ _)); (fail_if_success with_reducible first | show wpAny _ _ (exec (Stmt.Assign [PySem.Expr.Name _ _] (PySem.Expr.ListComp _ _ _ _) _) _) _ _ _ | show wpAny _ _ (exec (Stmt.If _ _ _ _) _) _ _ _ | show wpAny _ _ (compareOp _ _ _) _ _ _ | show wpAny _ _ (call (Value.builtin "sorted") _) _ _ _ | show wpAny _ _ (binaryOp _ (Value.ref _) _) _ _ _); ((first | (k_unfold; (try dsimp only)) | (k_end; wrow_close) | walk1 | (dsimp only; walk1) | (leave1; walk_say "STEP leave1"; try dsimp only) | fail "no step"))))
    rename News _ _ _ _ => N18
    rename Fr _ _ _ _ => F18
    rename _ = Data.cell (some (.ref d2)) => hc9
    have hrl0 : 0 < r.length := List.length_pos_iff.mpr hr
    refine hPB _ _ ⟨n1 - r.length, by omega, ?_⟩
    refine ⟨_, _, _, c47, cx7, _, v47, v27, d2, g2, dvs ++ ys, ys, 0, ys.length, [(g2, lst ys)], dn ++ r, W2.map (·.2.2), ?_, rfl, by rw [← grp_back hA]; exact F18, News.sub N18 (by walk_at "sub"), hc47, hcx7, hc9, ?_, ?_, hJ2.1, hJ2.2, .tail _ (.head _), hli2, ?_⟩
    · rw [List.length_append]; omega
    · intro v hv
      rcases List.mem_append.mp hv with h | h
      · exact hdi v h
      · exact hJ2.1 v h
    · rw [List.map_append, hde, hJ2.2]
    · intro q hq
      rcases List.mem_cons.mp hq with rfl | hq
      · exact ⟨l4d, fun p hp => hlt2 p (.tail _ (.tail _ (.tail _ (.tail _ (.tail _ (.tail _ hp))))))⟩
      · rw [List.mem_singleton.mp hq]; exact ⟨hg4, hgr⟩
end
end
section
set_option maxHeartbeats 8000000
theorem frag_on36 : (fun (_ : Params → Frag) => PySem.Challenge.rw_cy0005_01.Holds) KF → True := by
  k_fill
  intro _; trivial
open PySem.Calls PyProof.Rows.TI PyProof.Rows.LCg
section
variable {w : World} {A₀ A : Around} {base h₀ : Heap} {L fa : Addr} {cv : Value} {m mg mb : Str → Option Value} {p : Program} {loose : List Str} {mean : ExcName → Option Value} {s : Shared}
  {Q : Flow → Shared → Prop} {E : Value → Shared → Prop}
/-- return list(sorter.static_order()) == due -/
theorem l_ret {σ : Srt} {t1 t2 : Tok} {oN c3 : Obj} {sl nl gl dl : Addr} {dvs : List Value} {tl : List (Addr × Obj)} {ed n : Nat} {xs : List NI} {G : Gr} {u : Str → Option Value}
    (hh : A.handled = none) (hfr : A.frames = some [lawE L fa cv]) (hdp : A.depth < 600) (hun : A.units ≤ 50) (hL : L = h₀.objs.size) (X₀ : (KF w.params).In h₀) (T : Top p loose mean mg mb h₀)
    (F : Fr h₀ L s.heap (mGrp sl σ.S nl gl u))
    (N : News h₀ L s.heap (ledS σ w .none (.int 0 t1) (.int 0 t2) oN xs ((L + 1 + 1 + 1, c3) :: (dl, listOf dvs.toArray ed) :: tl)))
    (hs : SOK σ xs ((L + 1 + 1 + 1, c3) :: (dl, listOf dvs.toArray ed) :: tl) n) (hn : n ≤ 1000)
    (hc3 : c3.data = .cell (some (.ref dl))) (hdi : ∀ v ∈ dvs, IsI v) (hde : dvs.map intOf = ordF G ((keysG G).length + 1) (f0 G) (ready0 G))
    (hcl : Closed xs) (hup : ∀ x ∈ xs, ∀ v ∈ x.sv, x.node < intOf v) (hdN : oN.IsDictOf (intKind Pr w) (kvsN xs)) (hG : xs.map NI.pn = mkP G (f0 G)) (hol : (ordF G ((keysG G).length + 1) (f0 G) (ready0 G)).length ≤ 1000)
    (hba : AllBare s.gens)
    (hq : ∀ h' tk' gens' m', AllBare gens' → Fr h₀ L h' m' → Q (.ret (.bool true)) { s with heap := h', toks := tk', gens := gens' }) :
    wpAny (model Pr w) A (exec (lawSt 7) (lawE L fa cv)) Q E s := by
  obtain ⟨_, d, _, gs, un⟩ := A
  dsimp only at hh hfr hdp hun
  subst hh hfr
  conv in (lawSt 7) => whnf
  conv in (occs := *) (lawE L fa cv) => all_goals unfold lawE
  conv in (occs := *) lawS => all_goals whnf
  (repeat' (((fail_if_success with_reducible first | show wpAny _ _ (call (Value.ref _) _ _) _ _ _ | show wpAny _ _ (exec (Stmt.For _ _ _ _ _) _) _ _ _ | show wpAny _ _ (exec (Stmt.While _ _ _ _) _) _ _ _ | show wpAny _ _ (pyIter _) _ _ _)); ((fail_if_success with_reducible first | show wpAny _ _ (eval (PySem.Expr.ListComp _ _ _ _) _) _ _ _)); ((fail_if_success with_reducible first | show wpAny _ _ (subscriptTail _ _ _ _) _ _ _)); (fail_if_success with_reducible first | show wpAny _ _ (call (Value.type "list") _) _ _ _ | show wpAny _ _ (compareOp _ _ _) _ _ _); ((first | (k_unfold; (try dsimp only)) | (k_end; wrow_close) | walk1 | (dsimp only; walk1) | (leave1; walk_say "STEP leave1"; try dsimp only) | fail "no step"))))
  refine wpAny_call (c_static rfl rfl hdp rfl rfl hL X₀ T (by assumption) hs hn hcl hup hdN hG (by assumption) ?_)
  rename News _ _ _ _ => N0
  rename Fr _ _ _ _ => F0
  intro Lg Ga h1 tk1 oLg og gst hog hgb hlt hlt2 F1 N1 hon
  clear F0 N0
  obtain ⟨mm, hmm⟩ : ∃ mm, mm = mGrp sl σ.S nl gl u := ⟨_, rfl⟩
  rw [← hmm] at F1
  dsimp only
  have hGaq : ∀ q ∈ ledS σ w .none (.int 0 t1) (.int 0 t2) oN xs ((L + 1 + 1 + 1, c3) :: (dl, listOf dvs.toArray ed) :: tl), @LT.lt Nat _ q.1 Ga ∧ @LT.lt Nat _ q.1 Lg := fun q hq => by
    have h1 : @LT.lt Nat _ q.1 Lg := hlt q (.tail _ hq)
    exact ⟨by omega, h1⟩
  have hin : ∀ q ∈ (L + 1 + 1 + 1, c3) :: (dl, listOf dvs.toArray ed) :: tl, @LT.lt Nat _ q.1 Ga ∧ @LT.lt Nat _ q.1 Lg := fun q hq => hGaq q (ledS_split.mpr (.inr hq))
  have pre : GPre h₀ L ((Lg, oLg) :: ledS σ w .none (.int 0 t1) (.int 0 t2) oN xs []) ((Ga, og) :: (L + 1 + 1 + 1, c3) :: (dl, listOf dvs.toArray ed) :: tl) mm h1 := by
    refine ⟨F1, News.sub N1 (by walk_at "sub"), fun q hq r hr => ?_⟩
    rcases List.mem_cons.mp hq with rfl | hq
    · rcases List.mem_cons.mp hr with rfl | h
      · k_ne
      · have := hin r h; k_ne
    · rcases List.mem_cons.mp hr with rfl | h
      · have := hGaq q (ledS_split.mpr (.inl hq)); k_ne
      · rcases inL q hq with h' | h'
        · exact (hs.off _ h' r h).symm
        · cases h'
  clear hlt hlt2 N1 F1 hGaq hin
  (repeat' (((fail_if_success with_reducible first | show wpAny _ _ (call (Value.ref _) _ _) _ _ _ | show wpAny _ _ (exec (Stmt.For _ _ _ _ _) _) _ _ _ | show wpAny _ _ (exec (Stmt.While _ _ _ _) _) _ _ _ | show wpAny _ _ (pyIter _) _ _ _)); ((fail_if_success with_reducible first | show wpAny _ _ (eval (PySem.Expr.ListComp _ _ _ _) _) _ _ _)); ((fail_if_success with_reducible first | show wpAny _ _ (subscriptTail _ _ _ _) _ _ _)); (fail_if_success with_reducible first | show wpAny _ _ (call (Value.type "list") _) _ _ _ | show wpAny _ _ (compareOp _ _ _) _ _ _); ((first | (k_unfold; (try dsimp only)) | (k_end; wrow_close) | walk1 | (dsimp only; walk1) | (leave1; walk_say "STEP leave1"; try dsimp only) | fail "no step"))))
  refine list_gen (og := og) (g := s.gens.size) (gs := gst) rfl T.nolimit (by show d < recursionLimit; simp only [recursionLimit]; omega) hog (by simp) (hba.push hgb) hon pre (.head _) hol ?_
  intro h2 tk2 gens2 D acc c hb hi he hltD F2 N2
  rw [hmm] at F2
  (try dsimp only)
  (repeat' (((fail_if_success with_reducible first | show wpAny _ _ (call (Value.ref _) _ _) _ _ _ | show wpAny _ _ (exec (Stmt.For _ _ _ _ _) _) _ _ _ | show wpAny _ _ (exec (Stmt.While _ _ _ _) _) _ _ _ | show wpAny _ _ (pyIter _) _ _ _)); ((fail_if_success with_reducible first | show wpAny _ _ (eval (PySem.Expr.ListComp _ _ _ _) _) _ _ _)); ((fail_if_success with_reducible first | show wpAny _ _ (subscriptTail _ _ _ _) _ _ _)); (fail_if_success with_reducible first | show wpAny _ _ (call (Value.type "list") _) _ _ _ | show wpAny _ _ (compareOp _ _ _) _ _ _); ((first | (k_unfold; (try dsimp only)) | (k_end; wrow_close) | walk1 | (dsimp only; walk1) | (leave1; walk_say "STEP leave1"; try dsimp only) | fail "no step"))))
  rename News _ _ _ _ => N3
  rename Fr _ _ _ _ => F3
  refine ke_eq_ints (xs := acc) (ys := dvs) (News.isList N3 (show (D, listOf acc.toArray c) ∈ _ by walk_at "elem")) (News.isList N3 (show (dl, listOf dvs.toArray ed) ∈ _ by walk_at "elem")) (intsAre_of hi) (intsAre_of hdi) (u64 hun) ?_
  rw [he, hde, decide_eq_true rfl]
  exact hq _ _ _ _ hb F3
/-- the whole law -/
theorem law_main {sl : Addr} {vs : List Value} {ns : List Int} {c1 c2 c3 c4 : Obj} {v1 v2 v3 v4 : Option Value}
    (hh : A.handled = none) (hfr : A.frames = some [lawE L fa cv]) (hdp : A.depth < 500) (hun : A.units ≤ 50) (hL : L = h₀.objs.size) (B : Below A₀ base [] h₀) (X₀ : (KF w.params).In h₀) (T : Top p loose mean mg mb h₀)
    (hl : h₀.IsList sl vs.toArray) (hi : IntsAre vs ns) (hn : ns.length ≤ 63) (F : Fr h₀ L s.heap (fun y => if y = Str.ofString "script" then some (.ref sl) else none)) (N : News h₀ L s.heap [(L + 1 + 1 + 1 + 1, c4), (L + 1 + 1 + 1, c3), (L + 1 + 1, c2), (L + 1, c1)]) (hc1 : c1.data = .cell v1) (hc2 : c2.data = .cell v2) (hc3 : c3.data = .cell v3) (hc4 : c4.data = .cell v4)
    (hba : AllBare s.gens)
    (hq : ∀ h' tk' gens' m', AllBare gens' → Fr h₀ L h' m' → Q (.ret (.bool true)) { s with heap := h', toks := tk', gens := gens' }) :
    wpAny (model Pr w) A (execs lawB (lawE L fa cv)) Q E s := by
  obtain ⟨_, d, _, gs, un⟩ := A
  dsimp only at hh hfr hdp hun
  subst hh hfr
  conv in lawB => whnf
  conv in (occs := *) (lawE L fa cv) => all_goals unfold lawE
  conv in (occs := *) lawS => all_goals whnf
  (repeat' (((fail_if_success with_reducible first | show wpAny _ _ (call (Value.ref _) _ _) _ _ _ | show wpAny _ _ (exec (Stmt.For _ _ _ _ _) _) _ _ _ | show wpAny _ _ (exec (Stmt.While _ _ _ _) _) _ _ _ | show wpAny _ _ (pyIter _) _ _ _)); ((fail_if_success with_reducible first | show wpAny _ _ (eval (PySem.Expr.ListComp _ _ _ _) _) _ _ _)); ((fail_if_success with_reducible first | show wpAny _ _ (subscriptTail _ _ _ _) _ _ _)); (fail_if_success with_reducible first | show wpAny _ _ (call (Value.type "list") _) _ _ _ | show wpAny _ _ (compareOp _ _ _) _ _ _); ((first | (k_unfold; (try dsimp only)) | (k_end; wrow_close) | walk1 | (dsimp only; walk1) | (leave1; walk_say "STEP leave1"; try dsimp only) | fail "no step"))))
  refine c_new rfl rfl (ltu hdp rfl) rfl rfl B X₀ T (by assumption) (by assumption) ?_
  intro h1 tk1 σ oN t1 t2 sok1 hlt1 hi1 F1 N1
  clear F N
  (repeat' (((fail_if_success with_reducible first | show wpAny _ _ (call (Value.ref _) _ _) _ _ _ | show wpAny _ _ (exec (Stmt.For _ _ _ _ _) _) _ _ _ | show wpAny _ _ (exec (Stmt.While _ _ _ _) _) _ _ _ | show wpAny _ _ (pyIter _) _ _ _)); ((fail_if_success with_reducible first | show wpAny _ _ (eval (PySem.Expr.ListComp _ _ _ _) _) _ _ _)); ((fail_if_success with_reducible first | show wpAny _ _ (subscriptTail _ _ _ _) _ _ _)); (fail_if_success with_reducible first | show wpAny _ _ (call (Value.type "list") _) _ _ _ | show wpAny _ _ (compareOp _ _ _) _ _ _); ((first | (k_unfold; (try dsimp only)) | (k_end; wrow_close) | walk1 | (dsimp only; walk1) | (leave1; walk_say "STEP leave1"; try dsimp only) | fail "no step"))))
  rename_i _ nl _ la _ wl _ F2 N2 lb
  have hcl : ∀ q ∈ [(L + 1 + 1 + 1 + 1, c4), (L + 1 + 1 + 1, c3), (L + 1 + 1, c2), (L + 1, c1)], @LT.lt Nat _ q.1 nl ∧ @LT.lt Nat _ q.1 wl := fun q hq => ⟨allLt_mem la.2.2.2 q (by simpa [ledN] using hq), allLt_mem lb.2.2.2.2 q (by simpa [ledN] using hq)⟩
  have hnw : @LT.lt Nat _ nl wl := lb.1
  have k1 := hcl (L + 1, c1) (by simp)
  have k2 := hcl (L + 1 + 1, c2) (by simp)
  have k3 := hcl (L + 1 + 1 + 1, c3) (by simp)
  have k4 := hcl (L + 1 + 1 + 1 + 1, c4) (by simp)
  have hS : ∀ a ∈ addrS σ ([] : List NI), @LT.lt Nat _ a nl ∧ @LT.lt Nat _ a wl := fun a ha => by
    obtain ⟨l1, l2, l3, _⟩ := la
    obtain ⟨_, m1, m2, m3, _⟩ := lb
    unfold addrS addrN at ha
    simp only [List.flatMap_nil, List.mem_cons, List.not_mem_nil, or_false] at ha
    rcases ha with rfl | rfl | rfl
    · exact ⟨l1, m1⟩
    · exact ⟨l2, m2⟩
    · exact ⟨l3, m3⟩
  obtain ⟨ro, hro⟩ : ∃ ro, ro = (wl, listOf #[] 0) :: (nl, listOf #[] 0) :: ledS σ w .none (.int 0 t1) (.int 0 t2) oN [] [(L + 1 + 1 + 1 + 1, c4), (L + 1 + 1 + 1, c3), (L + 1 + 1, c2)] := ⟨_, rfl⟩
  have N3 : News h₀ L _ ((L + 1, c1) :: ro) := News.sub N2 (by rw [hro]; walk_at "sub")
  have o1 : ∀ q ∈ ro, q.1 ≠ L + 1 := fun q hq => by
    rw [hro] at hq
    rcases List.mem_cons.mp hq with rfl | hq
    · show @Ne Nat wl (L + 1); (first | assumption | exact Ne.symm (by assumption) | exact Nat.ne_of_gt (l1 _) | exact Nat.ne_of_lt (l1 _) | exact Nat.ne_of_gt (l2 _) | exact Nat.ne_of_lt (l2 _) | exact Nat.ne_of_gt (l3 _) | exact Nat.ne_of_lt (l3 _) | exact Nat.ne_of_gt (by assumption) | exact Nat.ne_of_lt (by assumption) | exact Nat.ne_of_gt (g1 (by assumption)) | exact Nat.ne_of_gt (g2 (by assumption)) | exact Nat.ne_of_gt (g3 (by assumption)) | exact Nat.ne_of_lt (g1 (by assumption)) | exact Nat.ne_of_lt (g2 (by assumption)) | exact Nat.ne_of_lt (g3 (by assumption)) | omega)
    rcases List.mem_cons.mp hq with rfl | hq
    · show @Ne Nat nl (L + 1); (first | assumption | exact Ne.symm (by assumption) | exact Nat.ne_of_gt (l1 _) | exact Nat.ne_of_lt (l1 _) | exact Nat.ne_of_gt (l2 _) | exact Nat.ne_of_lt (l2 _) | exact Nat.ne_of_gt (l3 _) | exact Nat.ne_of_lt (l3 _) | exact Nat.ne_of_gt (by assumption) | exact Nat.ne_of_lt (by assumption) | exact Nat.ne_of_gt (g1 (by assumption)) | exact Nat.ne_of_gt (g2 (by assumption)) | exact Nat.ne_of_gt (g3 (by assumption)) | exact Nat.ne_of_lt (g1 (by assumption)) | exact Nat.ne_of_lt (g2 (by assumption)) | exact Nat.ne_of_lt (g3 (by assumption)) | omega)
    rcases inL q hq with h | h
    · exact fun e => sok1.off _ h (L + 1, c1) (by simp) e.symm
    · rcases List.mem_cons.mp h with rfl | h
      · show @Ne Nat (L + 1 + 1 + 1 + 1) (L + 1); (first | assumption | exact Ne.symm (by assumption) | exact Nat.ne_of_gt (l1 _) | exact Nat.ne_of_lt (l1 _) | exact Nat.ne_of_gt (l2 _) | exact Nat.ne_of_lt (l2 _) | exact Nat.ne_of_gt (l3 _) | exact Nat.ne_of_lt (l3 _) | exact Nat.ne_of_gt (by assumption) | exact Nat.ne_of_lt (by assumption) | exact Nat.ne_of_gt (g1 (by assumption)) | exact Nat.ne_of_gt (g2 (by assumption)) | exact Nat.ne_of_gt (g3 (by assumption)) | exact Nat.ne_of_lt (g1 (by assumption)) | exact Nat.ne_of_lt (g2 (by assumption)) | exact Nat.ne_of_lt (g3 (by assumption)) | omega)
      rcases List.mem_cons.mp h with rfl | h
      · show @Ne Nat (L + 1 + 1 + 1) (L + 1); (first | assumption | exact Ne.symm (by assumption) | exact Nat.ne_of_gt (l1 _) | exact Nat.ne_of_lt (l1 _) | exact Nat.ne_of_gt (l2 _) | exact Nat.ne_of_lt (l2 _) | exact Nat.ne_of_gt (l3 _) | exact Nat.ne_of_lt (l3 _) | exact Nat.ne_of_gt (by assumption) | exact Nat.ne_of_lt (by assumption) | exact Nat.ne_of_gt (g1 (by assumption)) | exact Nat.ne_of_gt (g2 (by assumption)) | exact Nat.ne_of_gt (g3 (by assumption)) | exact Nat.ne_of_lt (g1 (by assumption)) | exact Nat.ne_of_lt (g2 (by assumption)) | exact Nat.ne_of_lt (g3 (by assumption)) | omega)
      · rw [List.mem_singleton.mp h]; show @Ne Nat (L + 1 + 1) (L + 1); (first | assumption | exact Ne.symm (by assumption) | exact Nat.ne_of_gt (l1 _) | exact Nat.ne_of_lt (l1 _) | exact Nat.ne_of_gt (l2 _) | exact Nat.ne_of_lt (l2 _) | exact Nat.ne_of_gt (l3 _) | exact Nat.ne_of_lt (l3 _) | exact Nat.ne_of_gt (by assumption) | exact Nat.ne_of_lt (by assumption) | exact Nat.ne_of_gt (g1 (by assumption)) | exact Nat.ne_of_gt (g2 (by assumption)) | exact Nat.ne_of_gt (g3 (by assumption)) | exact Nat.ne_of_lt (g1 (by assumption)) | exact Nat.ne_of_lt (g2 (by assumption)) | exact Nat.ne_of_lt (g3 (by assumption)) | omega)
  clear N2
  (repeat' (((fail_if_success with_reducible first | show wpAny _ _ (call (Value.ref _) _ _) _ _ _ | show wpAny _ _ (exec (Stmt.For _ _ _ _ _) _) _ _ _ | show wpAny _ _ (exec (Stmt.While _ _ _ _) _) _ _ _ | show wpAny _ _ (pyIter _) _ _ _)); (fail_if_success with_reducible first | show wpAny _ _ (exec (Stmt.Assign [PySem.Expr.Name _ _] (PySem.Expr.ListComp _ _ _ _) _) _) _ _ _ | show wpAny _ _ (exec (Stmt.Return _ _) _) _ _ _); ((first | (k_unfold; (try dsimp only)) | (k_end; wrow_close) | walk1 | (dsimp only; walk1) | (leave1; walk_say "STEP leave1"; try dsimp only) | fail "no step"))))
  rename _ = Data.cell (some (.ref wl)) => hcd1
  rename Obj => c1n
  rename News _ _ _ _ => N4
  rename Fr _ _ _ _ => F4
  have N5 : News h₀ L _ (ledS σ w .none (.int 0 t1) (.int 0 t2) oN [] ((L + 1 + 1, c2) :: (wl, listOf (refL []).toArray 0) :: (nl, listOf ([] : List Value).toArray 0) :: (tupL [] ++ [(L + 1 + 1 + 1 + 1, c4), (L + 1 + 1 + 1, c3), (L + 1, c1n)]))) := News.sub N4 (by
    show ∀ q ∈ ledS σ w .none (.int 0 t1) (.int 0 t2) oN [] ((L + 1 + 1, c2) :: (wl, listOf #[] 0) :: (nl, listOf #[] 0) :: [(L + 1 + 1 + 1 + 1, c4), (L + 1 + 1 + 1, c3), (L + 1, c1n)]), q ∈ (L + 1, c1n) :: ro
    rw [hro]; walk_at "sub")
  have bi0 : BI σ w oN [] t1 t2 (L + 1 + 1) wl nl c2 [] [] 0 0 [(L + 1 + 1 + 1 + 1, c4), (L + 1 + 1 + 1, c3), (L + 1, c1n)] [] [] (ledS σ w .none (.int 0 t1) (.int 0 t2) oN [] ((L + 1 + 1, c2) :: (wl, listOf (refL []).toArray 0) :: (nl, listOf ([] : List Value).toArray 0) :: (tupL [] ++ [(L + 1 + 1 + 1 + 1, c4), (L + 1 + 1 + 1, c3), (L + 1, c1n)]))) := by
    refine ⟨rfl, sok_rest sok1 fun a ha q hq => ?_, hi1, rfl, fun i => by simp [edgesP], fun _ h => (nomatch h), rfl, ⟨_, hc2⟩, fun q hq => ?_, fun q hq => ?_, fun q hq => ?_, fun q hq => (nomatch hq)⟩
    · have ha' := hS a ha
      rcases List.mem_cons.mp hq with rfl | hq
      · exact sok1.off a ha (L + 1 + 1, c2) (by simp)
      rcases List.mem_cons.mp hq with rfl | hq
      · show @Ne Nat wl a; (first | assumption | exact Ne.symm (by assumption) | exact Nat.ne_of_gt (l1 _) | exact Nat.ne_of_lt (l1 _) | exact Nat.ne_of_gt (l2 _) | exact Nat.ne_of_lt (l2 _) | exact Nat.ne_of_gt (l3 _) | exact Nat.ne_of_lt (l3 _) | exact Nat.ne_of_gt (by assumption) | exact Nat.ne_of_lt (by assumption) | exact Nat.ne_of_gt (g1 (by assumption)) | exact Nat.ne_of_gt (g2 (by assumption)) | exact Nat.ne_of_gt (g3 (by assumption)) | exact Nat.ne_of_lt (g1 (by assumption)) | exact Nat.ne_of_lt (g2 (by assumption)) | exact Nat.ne_of_lt (g3 (by assumption)) | omega)
      rcases List.mem_cons.mp hq with rfl | hq
      · show @Ne Nat nl a; (first | assumption | exact Ne.symm (by assumption) | exact Nat.ne_of_gt (l1 _) | exact Nat.ne_of_lt (l1 _) | exact Nat.ne_of_gt (l2 _) | exact Nat.ne_of_lt (l2 _) | exact Nat.ne_of_gt (l3 _) | exact Nat.ne_of_lt (l3 _) | exact Nat.ne_of_gt (by assumption) | exact Nat.ne_of_lt (by assumption) | exact Nat.ne_of_gt (g1 (by assumption)) | exact Nat.ne_of_gt (g2 (by assumption)) | exact Nat.ne_of_gt (g3 (by assumption)) | exact Nat.ne_of_lt (g1 (by assumption)) | exact Nat.ne_of_lt (g2 (by assumption)) | exact Nat.ne_of_lt (g3 (by assumption)) | omega)
      rcases List.mem_cons.mp hq with rfl | hq
      · exact sok1.off a ha (L + 1 + 1 + 1 + 1, c4) (by simp)
      rcases List.mem_cons.mp hq with rfl | hq
      · exact sok1.off a ha (L + 1 + 1 + 1, c3) (by simp)
      · rw [List.mem_singleton.mp hq]; exact sok1.off a ha (L + 1, c1) (by simp)
    all_goals
      rcases List.mem_cons.mp hq with rfl | hq
      · first | (show @Ne Nat (L + 1 + 1 + 1 + 1) (L + 1 + 1); (first | assumption | exact Ne.symm (by assumption) | exact Nat.ne_of_gt (l1 _) | exact Nat.ne_of_lt (l1 _) | exact Nat.ne_of_gt (l2 _) | exact Nat.ne_of_lt (l2 _) | exact Nat.ne_of_gt (l3 _) | exact Nat.ne_of_lt (l3 _) | exact Nat.ne_of_gt (by assumption) | exact Nat.ne_of_lt (by assumption) | exact Nat.ne_of_gt (g1 (by assumption)) | exact Nat.ne_of_gt (g2 (by assumption)) | exact Nat.ne_of_gt (g3 (by assumption)) | exact Nat.ne_of_lt (g1 (by assumption)) | exact Nat.ne_of_lt (g2 (by assumption)) | exact Nat.ne_of_lt (g3 (by assumption)) | omega)) | (show @Ne Nat (L + 1 + 1 + 1 + 1) wl; (first | assumption | exact Ne.symm (by assumption) | exact Nat.ne_of_gt (l1 _) | exact Nat.ne_of_lt (l1 _) | exact Nat.ne_of_gt (l2 _) | exact Nat.ne_of_lt (l2 _) | exact Nat.ne_of_gt (l3 _) | exact Nat.ne_of_lt (l3 _) | exact Nat.ne_of_gt (by assumption) | exact Nat.ne_of_lt (by assumption) | exact Nat.ne_of_gt (g1 (by assumption)) | exact Nat.ne_of_gt (g2 (by assumption)) | exact Nat.ne_of_gt (g3 (by assumption)) | exact Nat.ne_of_lt (g1 (by assumption)) | exact Nat.ne_of_lt (g2 (by assumption)) | exact Nat.ne_of_lt (g3 (by assumption)) | omega)) | (show @Ne Nat (L + 1 + 1 + 1 + 1) nl; (first | assumption | exact Ne.symm (by assumption) | exact Nat.ne_of_gt (l1 _) | exact Nat.ne_of_lt (l1 _) | exact Nat.ne_of_gt (l2 _) | exact Nat.ne_of_lt (l2 _) | exact Nat.ne_of_gt (l3 _) | exact Nat.ne_of_lt (l3 _) | exact Nat.ne_of_gt (by assumption) | exact Nat.ne_of_lt (by assumption) | exact Nat.ne_of_gt (g1 (by assumption)) | exact Nat.ne_of_gt (g2 (by assumption)) | exact Nat.ne_of_gt (g3 (by assumption)) | exact Nat.ne_of_lt (g1 (by assumption)) | exact Nat.ne_of_lt (g2 (by assumption)) | exact Nat.ne_of_lt (g3 (by assumption)) | omega))
      rcases List.mem_cons.mp hq with rfl | hq
      · first | (show @Ne Nat (L + 1 + 1 + 1) (L + 1 + 1); (first | assumption | exact Ne.symm (by assumption) | exact Nat.ne_of_gt (l1 _) | exact Nat.ne_of_lt (l1 _) | exact Nat.ne_of_gt (l2 _) | exact Nat.ne_of_lt (l2 _) | exact Nat.ne_of_gt (l3 _) | exact Nat.ne_of_lt (l3 _) | exact Nat.ne_of_gt (by assumption) | exact Nat.ne_of_lt (by assumption) | exact Nat.ne_of_gt (g1 (by assumption)) | exact Nat.ne_of_gt (g2 (by assumption)) | exact Nat.ne_of_gt (g3 (by assumption)) | exact Nat.ne_of_lt (g1 (by assumption)) | exact Nat.ne_of_lt (g2 (by assumption)) | exact Nat.ne_of_lt (g3 (by assumption)) | omega)) | (show @Ne Nat (L + 1 + 1 + 1) wl; (first | assumption | exact Ne.symm (by assumption) | exact Nat.ne_of_gt (l1 _) | exact Nat.ne_of_lt (l1 _) | exact Nat.ne_of_gt (l2 _) | exact Nat.ne_of_lt (l2 _) | exact Nat.ne_of_gt (l3 _) | exact Nat.ne_of_lt (l3 _) | exact Nat.ne_of_gt (by assumption) | exact Nat.ne_of_lt (by assumption) | exact Nat.ne_of_gt (g1 (by assumption)) | exact Nat.ne_of_gt (g2 (by assumption)) | exact Nat.ne_of_gt (g3 (by assumption)) | exact Nat.ne_of_lt (g1 (by assumption)) | exact Nat.ne_of_lt (g2 (by assumption)) | exact Nat.ne_of_lt (g3 (by assumption)) | omega)) | (show @Ne Nat (L + 1 + 1 + 1) nl; (first | assumption | exact Ne.symm (by assumption) | exact Nat.ne_of_gt (l1 _) | exact Nat.ne_of_lt (l1 _) | exact Nat.ne_of_gt (l2 _) | exact Nat.ne_of_lt (l2 _) | exact Nat.ne_of_gt (l3 _) | exact Nat.ne_of_lt (l3 _) | exact Nat.ne_of_gt (by assumption) | exact Nat.ne_of_lt (by assumption) | exact Nat.ne_of_gt (g1 (by assumption)) | exact Nat.ne_of_gt (g2 (by assumption)) | exact Nat.ne_of_gt (g3 (by assumption)) | exact Nat.ne_of_lt (g1 (by assumption)) | exact Nat.ne_of_lt (g2 (by assumption)) | exact Nat.ne_of_lt (g3 (by assumption)) | omega))
      · rw [List.mem_singleton.mp hq]
        first | (show @Ne Nat (L + 1) (L + 1 + 1); (first | assumption | exact Ne.symm (by assumption) | exact Nat.ne_of_gt (l1 _) | exact Nat.ne_of_lt (l1 _) | exact Nat.ne_of_gt (l2 _) | exact Nat.ne_of_lt (l2 _) | exact Nat.ne_of_gt (l3 _) | exact Nat.ne_of_lt (l3 _) | exact Nat.ne_of_gt (by assumption) | exact Nat.ne_of_lt (by assumption) | exact Nat.ne_of_gt (g1 (by assumption)) | exact Nat.ne_of_gt (g2 (by assumption)) | exact Nat.ne_of_gt (g3 (by assumption)) | exact Nat.ne_of_lt (g1 (by assumption)) | exact Nat.ne_of_lt (g2 (by assumption)) | exact Nat.ne_of_lt (g3 (by assumption)) | omega)) | (show @Ne Nat (L + 1) wl; (first | assumption | exact Ne.symm (by assumption) | exact Nat.ne_of_gt (l1 _) | exact Nat.ne_of_lt (l1 _) | exact Nat.ne_of_gt (l2 _) | exact Nat.ne_of_lt (l2 _) | exact Nat.ne_of_gt (l3 _) | exact Nat.ne_of_lt (l3 _) | exact Nat.ne_of_gt (by assumption) | exact Nat.ne_of_lt (by assumption) | exact Nat.ne_of_gt (g1 (by assumption)) | exact Nat.ne_of_gt (g2 (by assumption)) | exact Nat.ne_of_gt (g3 (by assumption)) | exact Nat.ne_of_lt (g1 (by assumption)) | exact Nat.ne_of_lt (g2 (by assumption)) | exact Nat.ne_of_lt (g3 (by assumption)) | omega)) | (show @Ne Nat (L + 1) nl; (first | assumption | exact Ne.symm (by assumption) | exact Nat.ne_of_gt (l1 _) | exact Nat.ne_of_lt (l1 _) | exact Nat.ne_of_gt (l2 _) | exact Nat.ne_of_lt (l2 _) | exact Nat.ne_of_gt (l3 _) | exact Nat.ne_of_lt (l3 _) | exact Nat.ne_of_gt (by assumption) | exact Nat.ne_of_lt (by assumption) | exact Nat.ne_of_gt (g1 (by assumption)) | exact Nat.ne_of_gt (g2 (by assumption)) | exact Nat.ne_of_gt (g3 (by assumption)) | exact Nat.ne_of_lt (g1 (by assumption)) | exact Nat.ne_of_lt (g2 (by assumption)) | exact Nat.ne_of_lt (g3 (by assumption)) | omega))
  refine l_build (c1 := c1n) (cells := [(L + 1 + 1 + 1 + 1, c4), (L + 1 + 1 + 1, c3), (L + 1, c1n)]) (e1 := 0) (e2 := 0) rfl rfl (ltu hdp rfl) B X₀ T hl hi hn (by simp) hcd1 k1.2 k2.2 k1.1 k2.1 hnw F4 N5 bi0 ?_
  intro n h6 tk6 m6 oN6 xs ts nvs e1 e2 cx nx hn6 hA6 bi F6 N6
  clear bi0 la lb hi1 sok1 o1
  obtain ⟨rfl, sok, dic, pn, tup, nvi, nve, ⟨vx, hcx⟩, offx, offw, offn, offc⟩ := bi
  obtain ⟨P, hP⟩ : ∃ P, P = trips ns n := ⟨_, rfl⟩
  have hPl : P.length = n := by rw [hP]; simp [trips]
  rw [← hP] at sok pn tup nve
  rw [hA6.eq] at F6
  generalize m6 = u at F6
  clear hA6
  have hkl := keys_len P
  have hel := edges_len P
  have htl := tup.len
  obtain ⟨lS, hlS⟩ : ∃ lS, lS = ledS σ w .none (.int 0 t1) (.int 0 t2) oN6 xs [] := ⟨_, rfl⟩
  have hoff : ∀ c ∈ [(L + 1 + 1 + 1 + 1, c4), (L + 1 + 1 + 1, c3), (L + 1, c1n)], ∀ q ∈ (wl, listOf (refL ts).toArray e1) :: (tupL ts ++ lS), q.1 ≠ c.1 := fun c hc q hq => by
    rcases List.mem_cons.mp hq with rfl | hq
    · exact (offw c (List.mem_append_right _ hc)).symm
    rcases List.mem_append.mp hq with h | h
    · exact offc q h c hc
    · rw [hlS] at h
      rcases inL q h with h' | h'
      · exact (sok.off _ h' c (.tail _ (.tail _ (.tail _ (List.mem_append_right _ hc))))).symm
      · cases h'
  have hoff2 : ∀ q ∈ (wl, listOf (refL ts).toArray e1) :: (tupL ts ++ lS), q.1 ≠ L + 1 + 1 := fun q hq => by
    rcases List.mem_cons.mp hq with rfl | hq
    · show @Ne Nat wl (L + 1 + 1); (first | assumption | exact Ne.symm (by assumption) | exact Nat.ne_of_gt (l1 _) | exact Nat.ne_of_lt (l1 _) | exact Nat.ne_of_gt (l2 _) | exact Nat.ne_of_lt (l2 _) | exact Nat.ne_of_gt (l3 _) | exact Nat.ne_of_lt (l3 _) | exact Nat.ne_of_gt (by assumption) | exact Nat.ne_of_lt (by assumption) | exact Nat.ne_of_gt (g1 (by assumption)) | exact Nat.ne_of_gt (g2 (by assumption)) | exact Nat.ne_of_gt (g3 (by assumption)) | exact Nat.ne_of_lt (g1 (by assumption)) | exact Nat.ne_of_lt (g2 (by assumption)) | exact Nat.ne_of_lt (g3 (by assumption)) | omega)
    rcases List.mem_append.mp hq with h | h
    · exact offx q (List.mem_append_left _ h)
    · rw [hlS] at h
      rcases inL q h with h' | h'
      · exact (sok.off _ h' (L + 1 + 1, cx) (.head _)).symm
      · cases h'
  have N7 : News h₀ L h6 ((L + 1 + 1 + 1, c3) :: (L + 1, c1n) :: (L + 1 + 1, cx) :: (nl, listOf nvs.toArray e2) :: ((L + 1 + 1 + 1 + 1, c4) :: (wl, listOf (refL ts).toArray e1) :: (tupL ts ++ lS))) := News.sub N6 (by rw [hlS]; walk_at "sub")
  clear N6
  (repeat' (((fail_if_success with_reducible first | show wpAny _ _ (call (Value.ref _) _ _) _ _ _ | show wpAny _ _ (exec (Stmt.For _ _ _ _ _) _) _ _ _ | show wpAny _ _ (exec (Stmt.While _ _ _ _) _) _ _ _ | show wpAny _ _ (pyIter _) _ _ _)); (fail_if_success with_reducible first | show wpAny _ _ (exec (Stmt.Assign [PySem.Expr.Name _ _] (PySem.Expr.ListComp _ _ _ _) _) _) _ _ _ | show wpAny _ _ (exec (Stmt.Return _ _) _) _ _ _); ((first | (k_unfold; (try dsimp only)) | (k_end; wrow_close) | walk1 | (dsimp only; walk1) | (leave1; walk_say "STEP leave1"; try dsimp only) | fail "no step"))))
  refine l_due (ts := ts) (W := edgesP P) (K := keysP P) (e1 := e1) (c3 := c3) (wl := wl) (rest := (L + 1 + 1 + 1 + 1, c4) :: (wl, listOf (refL ts).toArray e1) :: (tupL ts ++ lS)) rfl rfl (ltu hdp rfl) hun B X₀ T F6 N7 hcd1 hc3 nvi nve (by omega) tup (by omega) (.tail _ (.head _)) (fun q hq => .tail _ (.tail _ (List.mem_append_left _ hq))) (fun q hq => ?_) ?_
  · rcases List.mem_cons.mp hq with rfl | hq
    · show @Ne Nat (L + 1) (L + 1 + 1 + 1); (first | assumption | exact Ne.symm (by assumption) | exact Nat.ne_of_gt (l1 _) | exact Nat.ne_of_lt (l1 _) | exact Nat.ne_of_gt (l2 _) | exact Nat.ne_of_lt (l2 _) | exact Nat.ne_of_gt (l3 _) | exact Nat.ne_of_lt (l3 _) | exact Nat.ne_of_gt (by assumption) | exact Nat.ne_of_lt (by assumption) | exact Nat.ne_of_gt (g1 (by assumption)) | exact Nat.ne_of_gt (g2 (by assumption)) | exact Nat.ne_of_gt (g3 (by assumption)) | exact Nat.ne_of_lt (g1 (by assumption)) | exact Nat.ne_of_lt (g2 (by assumption)) | exact Nat.ne_of_lt (g3 (by assumption)) | omega)
    rcases List.mem_cons.mp hq with rfl | hq
    · show @Ne Nat (L + 1 + 1) (L + 1 + 1 + 1); (first | assumption | exact Ne.symm (by assumption) | exact Nat.ne_of_gt (l1 _) | exact Nat.ne_of_lt (l1 _) | exact Nat.ne_of_gt (l2 _) | exact Nat.ne_of_lt (l2 _) | exact Nat.ne_of_gt (l3 _) | exact Nat.ne_of_lt (l3 _) | exact Nat.ne_of_gt (by assumption) | exact Nat.ne_of_lt (by assumption) | exact Nat.ne_of_gt (g1 (by assumption)) | exact Nat.ne_of_gt (g2 (by assumption)) | exact Nat.ne_of_gt (g3 (by assumption)) | exact Nat.ne_of_lt (g1 (by assumption)) | exact Nat.ne_of_lt (g2 (by assumption)) | exact Nat.ne_of_lt (g3 (by assumption)) | omega)
    rcases List.mem_cons.mp hq with rfl | hq
    · show @Ne Nat nl (L + 1 + 1 + 1); (first | assumption | exact Ne.symm (by assumption) | exact Nat.ne_of_gt (l1 _) | exact Nat.ne_of_lt (l1 _) | exact Nat.ne_of_gt (l2 _) | exact Nat.ne_of_lt (l2 _) | exact Nat.ne_of_gt (l3 _) | exact Nat.ne_of_lt (l3 _) | exact Nat.ne_of_gt (by assumption) | exact Nat.ne_of_lt (by assumption) | exact Nat.ne_of_gt (g1 (by assumption)) | exact Nat.ne_of_gt (g2 (by assumption)) | exact Nat.ne_of_gt (g3 (by assumption)) | exact Nat.ne_of_lt (g1 (by assumption)) | exact Nat.ne_of_lt (g2 (by assumption)) | exact Nat.ne_of_lt (g3 (by assumption)) | omega)
    rcases List.mem_cons.mp hq with rfl | hq
    · show @Ne Nat (L + 1 + 1 + 1 + 1) (L + 1 + 1 + 1); (first | assumption | exact Ne.symm (by assumption) | exact Nat.ne_of_gt (l1 _) | exact Nat.ne_of_lt (l1 _) | exact Nat.ne_of_gt (l2 _) | exact Nat.ne_of_lt (l2 _) | exact Nat.ne_of_gt (l3 _) | exact Nat.ne_of_lt (l3 _) | exact Nat.ne_of_gt (by assumption) | exact Nat.ne_of_lt (by assumption) | exact Nat.ne_of_gt (g1 (by assumption)) | exact Nat.ne_of_gt (g2 (by assumption)) | exact Nat.ne_of_gt (g3 (by assumption)) | exact Nat.ne_of_lt (g1 (by assumption)) | exact Nat.ne_of_lt (g2 (by assumption)) | exact Nat.ne_of_lt (g3 (by assumption)) | omega)
    · exact hoff (L + 1 + 1 + 1, c3) (by simp) q hq
  intro h8 tk8 c3n D ys hc3n hyi hye hltD F8 N8
  clear N7 F6
  (repeat' (((fail_if_success with_reducible first | show wpAny _ _ (call (Value.ref _) _ _) _ _ _ | show wpAny _ _ (exec (Stmt.For _ _ _ _ _) _) _ _ _ | show wpAny _ _ (exec (Stmt.While _ _ _ _) _) _ _ _ | show wpAny _ _ (pyIter _) _ _ _)); (fail_if_success with_reducible first | show wpAny _ _ (exec (Stmt.Assign [PySem.Expr.Name _ _] (PySem.Expr.ListComp _ _ _ _) _) _) _ _ _ | show wpAny _ _ (exec (Stmt.Return _ _) _) _ _ _); ((first | (k_unfold; (try dsimp only)) | (k_end; wrow_close) | walk1 | (dsimp only; walk1) | (leave1; walk_say "STEP leave1"; try dsimp only) | fail "no step"))))
  rename News _ _ _ _ => N9
  rename Fr _ _ _ _ => F9
  have hAu : Agr G6 (mLaw sl σ.S nl) (fun y => if [Str.ofString "k", Str.ofString "a", Str.ofString "b"].contains y = true then u y else mLaw sl σ.S nl y) := by
    intro y hy
    have hy' := hy
    unfold G6 at hy'
    simp only [List.contains_cons, List.contains_nil, Bool.or_false, Bool.or_eq_false_iff] at hy'
    have hb : [Str.ofString "k", Str.ofString "a", Str.ofString "b"].contains y = false := by simp only [List.contains_cons, List.contains_nil, Bool.or_false, Bool.or_eq_false_iff]; exact hy'.2.2.2
    show (if [Str.ofString "k", Str.ofString "a", Str.ofString "b"].contains y = true then _ else _) = _
    rw [hb, if_neg Bool.false_ne_true]
  have F10 := F9
  rw [grp_back hAu] at F10
  have hfx : ∀ c : Addr, (@Ne Nat nl c) → (∀ q ∈ (wl, listOf (refL ts).toArray e1) :: (tupL ts ++ lS), q.1 ≠ c) → ∀ q ∈ (nl, listOf nvs.toArray e2) :: (wl, listOf (refL ts).toArray e1) :: (tupL ts ++ lS), q.1 ≠ c := fun c h1 h2 q hq => by
    rcases List.mem_cons.mp hq with rfl | hq
    · exact h1
    · exact h2 q hq
  refine l_while (ts := ts) (P := P) (r := ready0 (GrP P)) (e1 := e1) (c4 := c4) (cx := cx) (c3 := c3n) (dl := D) (gl := D) (dvs := ys) (gvs := ys) (ed := ys.length) (eg := ys.length) (ex := []) (wl := wl) (rest := (wl, listOf (refL ts).toArray e1) :: (tupL ts ++ lS)) rfl rfl (ltu hdp rfl) hun B X₀ T F10 (News.sub N9 (by walk_at "sub")) hc4 hcx hc3n hcd1 nvi nve (by omega) (by omega) hyi (hye.trans ready0_eq.symm) hyi (hye.trans ready0_eq.symm) (.head _) LI.start (fun q hq => ?_) tup (.head _) (fun q hq => .tail _ (List.mem_append_left _ hq)) (hfx _ (by omega) hoff2) (hfx _ (by omega) (hoff (L + 1 + 1 + 1, c3) (by simp))) (hfx _ (by omega) (hoff (L + 1 + 1 + 1 + 1, c4) (by simp))) ?_
  · rw [List.mem_singleton.mp hq]
    refine ⟨hltD (L + 1 + 1 + 1 + 1, c4) (.tail _ (.tail _ (.tail _ (.tail _ (.head _))))), fun p hp => ?_⟩
    rcases List.mem_cons.mp hp with rfl | hp
    · exact hltD (nl, listOf nvs.toArray e2) (.tail _ (.tail _ (.tail _ (.head _))))
    · exact hltD p (.tail _ (.tail _ (.tail _ (.tail _ (.tail _ hp)))))
  intro h11 tk11 u11 c3z dl gl dvs ed hc3z hdi hde F11 N11 hlz
  clear N9 F9 F10
  (try dsimp only)
  (repeat' (((fail_if_success with_reducible first | show wpAny _ _ (call (Value.ref _) _ _) _ _ _ | show wpAny _ _ (exec (Stmt.For _ _ _ _ _) _) _ _ _ | show wpAny _ _ (exec (Stmt.While _ _ _ _) _) _ _ _ | show wpAny _ _ (pyIter _) _ _ _)); (fail_if_success with_reducible first | show wpAny _ _ (exec (Stmt.Assign [PySem.Expr.Name _ _] (PySem.Expr.ListComp _ _ _ _) _) _) _ _ _ | show wpAny _ _ (exec (Stmt.Return _ _) _) _ _ _); ((first | (k_unfold; (try dsimp only)) | (k_end; wrow_close) | walk1 | (dsimp only; walk1) | (leave1; walk_say "STEP leave1"; try dsimp only) | fail "no step"))))
  have hP2 : xs.map NI.pn = P.foldl addOne [] := pn
  have hG : xs.map NI.pn = mkP (GrP P) (f0 (GrP P)) := by rw [hP2]; exact GrP_mk _
  have hClG : ∀ g ∈ GrP P, ∀ q ∈ g.2, q ∈ keysG (GrP P) ∧ q ≠ g.1 := fun g hg q hq => ⟨GrP_closed _ g hg q hq, fun e => by have := GrP_up _ g hg q hq; omega⟩
  have hcls : Closed xs := closed_of hG hClG
  have hup : ∀ x ∈ xs, ∀ v ∈ x.sv, x.node < intOf v := by
    intro x hx v hv
    have hm : x.pn ∈ mkP (GrP P) (f0 (GrP P)) := hG ▸ List.mem_map_of_mem hx
    obtain ⟨g, hg, e⟩ := List.mem_map.mp hm
    have e1 : g.1 = x.node := congrArg PN.node e
    have e2 : g.2 = x.sv.map intOf := congrArg PN.succ e
    have := GrP_up _ g hg (intOf v) (by rw [e2]; exact List.mem_map_of_mem hv)
    omega
  have hol := ordP_len P
  refine l_ret (t1 := t1) (t2 := t2) (oN := oN6) (xs := xs) (G := GrP P) (c3 := c3z) (dl := dl) (dvs := dvs) (ed := ed) (tl := []) (n := 3 * P.length) rfl rfl (ltu hdp rfl) hun hL X₀ T F11 (News.sub N11 (by rw [hlS]; walk_at "sub")) (sok_rest sok fun a ha q hq => ?_) (by omega) hc3z hdi hde hcls hup dic hG (by show (ordP P).length ≤ 1000; omega) hba ?_
  · rcases List.mem_cons.mp hq with rfl | hq
    · exact sok.off a ha (L + 1 + 1 + 1, c3) (.tail _ (.tail _ (.tail _ (List.mem_append_right _ (by simp)))))
    · rw [List.mem_singleton.mp hq]
      obtain ⟨q', h1, rfl⟩ := addrS_led (w := w) (rv := .none) (po := .int 0 t1) (nf := .int 0 t2) (oN := oN6) (rest := []) a ha
      have := hlz.2 q' (.tail _ (.tail _ (List.mem_append_right _ (by rw [hlS]; exact h1))))
      show @Ne Nat dl q'.1; (first | assumption | exact Ne.symm (by assumption) | exact Nat.ne_of_gt (l1 _) | exact Nat.ne_of_lt (l1 _) | exact Nat.ne_of_gt (l2 _) | exact Nat.ne_of_lt (l2 _) | exact Nat.ne_of_gt (l3 _) | exact Nat.ne_of_lt (l3 _) | exact Nat.ne_of_gt (by assumption) | exact Nat.ne_of_lt (by assumption) | exact Nat.ne_of_gt (g1 (by assumption)) | exact Nat.ne_of_gt (g2 (by assumption)) | exact Nat.ne_of_gt (g3 (by assumption)) | exact Nat.ne_of_lt (g1 (by assumption)) | exact Nat.ne_of_lt (g2 (by assumption)) | exact Nat.ne_of_lt (g3 (by assumption)) | omega)
  · exact hq
end
end
end Mine
set_option maxHeartbeats 8000000
namespace Mine
theorem end_bool {c : ClaimW} {cl : Str → Option Addr} {mean : ExcName → Option Value} {args : List WData} {s₁ s' : Shared} {L : Addr} {m : Str → Option Value} (F : Fr s₁.heap L s'.heap m) (hg : AllBare s'.gens) (hn : ∀ cls, c.raises args cls = false) (hp : c.post args (.bool true) args = true) (hos : s'.os = s₁.os) :
    GoodWG c cl mean args s₁ (.ok (.ret (.bool true))) s' := ⟨.inl ⟨_, _, _, rfl, hn, .bool true, hp, fun _ => ⟨.nil, fun _ h => (nomatch h)⟩⟩, .of_keep F.keep, hos, hg⟩
end Mine
theorem PySem.Challenge.cw_cy0005_01_holds : PySem.Challenge.rw_cy0005_01.Holds := by
  w_on
  o_law
  o_head (kHook Mine.KF [2, 3, 6, 22, 23, 25, 26, 28, 29, 30, 32, 33, 34, 35, 36, 39, 46, 47, 48, 49, 59, 60, 62, 63, 65, 66, 67, 69, 70, 72, 73, 74, 76, 77, 79, 80, 81, 84, 85, 86, 88, 89, 91, 92, 93, 95, 96, 98, 99, 100, 102, 103, 105, 106, 107, 109, 110, 112, 113, 114, 116, 117, 119, 120, 121, 123, 124, 126, 127, 128, 129, 130, 131, 132, 135, 138, 139] (fun _ => by kernel_rfl))
  (case hw => w_witness2)
  k_fill
  intro w s₀ s₁ mg mb G Y fa o pm cd doc dV kV ho hd' hcd hD hmg hg args vals as hpre hlay hrd hwl hlo
  have KX := kIn_of Y
  refine Ground.open G ?_
  intro T B D TE TW
  (try (refine guard_noD D (by decide +kernel) ?_; clear D))
  (try (obtain ⟨_, _, he, B0⟩ := based_of_top T rfl hmg ho hd'; have he' : cd = _ := he; subst he'; clear he))
  clear hmg
  wrow_args hpre hlay hrd hwl hlo
  refine enter_call ?_
  w_top on
  have K0 := below_caller (Top.heap T)
  w_call any ho hd' hcd hD T F
  dsimp only
  rename IntsAre _ _ => hints
  rename Heap.IsList _ _ _ => hlist
  rename ¬ _ < _ => hbound
  refine Mine.law_main (A := callerA.deeper _) rfl rfl ?d ?u rfl K0 KX T hlist hints (by omega) ?F (by assumption) (by assumption) (by assumption) (by assumption) (by assumption) (AllBare.of_eq hg) ?_
  case d => rw [depth_deeper, depth_caller]; decide
  case u => rw [units_deeper, units_caller]; decide
  case F => exact F
  intro h' tk' gens' m' hb F'
  refine Mine.end_bool F' hb ?_ ?_ rfl
  · exact fun _ => rfl
  · exact postW_of (by wrow_shape) (by wtm_val) (by first | rfl | (str_meet; first | done | w_fin))
